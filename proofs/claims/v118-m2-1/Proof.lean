import JvmDerived
import JvmDerived.Pilot.@@N@@Statement
import JvmDerived.Pilot.@@N@@Code
set_option linter.unusedVariables false
set_option linter.unusedSimpArgs false
@@BLOCK:NumsL.lean.txt@@
/- laws to paste: Road.backV, Road.eqW, Road.codOf (cut by pick.py; bodies as the Statement names them) -/
namespace Jvm.Pilot.@@N@@
namespace StrChars
open Jvm Sem ClassFile Op Lib Jvm.Stand Jvm.Free.XT Jvm.Free.ALB Jvm.Free.JM Jvm.Free
open Jvm.Lib.Cold (StaticIs)
/-- a char array whose places are chars -/
def Ch (a : Addr) (A : Cell) (U : State) : Prop := Arr .char a A U ∧ Typed .char A
theorem Ch.mv {a : Addr} {A : Cell} {U U' : State} (h : Ch a A U) (hal : U.vm.Alike U'.vm) (hh : U'.heap = U.heap) : Ch a A U' := ⟨h.1.mv hal hh, h.2⟩
theorem Ch.keep {a : Addr} {A : Cell} {U U' : State} (h : Ch a A U) (hal : U.vm.Alike U'.vm) (hk : U'.heap[a]? = some A) : Ch a A U' := ⟨h.1.keep hal hk, h.2⟩
/-- what place i of a char[]'s cell holds -/
def cv (A : Cell) (i : Nat) : Int32 := match A.slots[i]? with | some (.int x) => x | _ => 0
theorem Ch.get {a : Addr} {A : Cell} {U : State} (h : Ch a A U) {i : Nat} (hi : i < A.slots.size) : A.slots[i]? = some (.int (cv A i)) := by
  have e := Array.getElem?_eq_getElem hi
  have f := h.2 i _ e
  unfold cv; rw [e]
  generalize A.slots[i] = v at f
  cases v <;> simp [fits] at f ⊢
/-- the byte that i2b leaves of a char -/
def lo8 (x : Int32) : Int32 := x.toInt8.toInt32
theorem fits_lo8 (y : Int32) : fits .byte (.int (lo8 y)) = true := by
  have h1 := y.toInt8.le_toInt
  have h2 := y.toInt8.toInt_lt
  simp only [lo8, fits, Bool.and_eq_true, decide_eq_true_eq, Int32.le_iff_toInt_le, Int8.toInt_toInt32, show (-128 : Int32).toInt = -128 from by decide, show (127 : Int32).toInt = 127 from by decide]
  omega
/-- A' is A but that each place j of lo .. hi - 1 holds f j -/
def Laid (A A' : Cell) (lo hi : Nat) (f : Nat → Value) : Prop := A'.cls = A.cls ∧ A'.vm = A.vm ∧ A'.slots.size = A.slots.size ∧ ∀ i, A'.slots[i]? = if lo ≤ i ∧ i < hi then some (f i) else A.slots[i]?
theorem Laid.zero (A : Cell) (lo : Nat) (f : Nat → Value) : Laid A A lo (lo + 0) f := ⟨rfl, rfl, rfl, fun i => by rw [if_neg (by omega)]⟩
theorem Laid.step {A Ak : Cell} {lo k : Nat} {f : Nat → Value} {v : Value} (h : Laid A Ak lo k f) (hlo : lo ≤ k) (hk : k < Ak.slots.size) (hv : v = f k) : Laid A (Ak.setSlot k v) lo (k + 1) f := by
  refine ⟨h.1, h.2.1, by simpa [Cell.setSlot] using h.2.2.1, fun i => ?_⟩
  by_cases e : k = i
  · subst e; rw [Cell.slots_setSlot_self v hk, if_pos (by omega), hv]
  · rw [Cell.slots_setSlot_ne v e, h.2.2.2 i]
    by_cases q : lo ≤ i ∧ i < k
    · rw [if_pos q, if_pos (by omega)]
    · rw [if_neg q, if_neg (by omega)]
def U16 : String := "java/lang/StringUTF16"
namespace Cmp5
def yN : MethodName := ⟨"java/lang/StringUTF16", "compress", "([CI[BII)I"⟩
abbrev yB : ByteArray := jdk_52_method_21_code
theorem d0 : decode yB 0 = .ok (.iconst 0, 1) := by decide +kernel
theorem d1 : decode yB 1 = .ok (.istore 5, 2) := by decide +kernel
theorem d3 : decode yB 3 = .ok (.iload 5, 2) := by decide +kernel
theorem d5 : decode yB 5 = .ok (.iload 4, 2) := by decide +kernel
theorem d7 : decode yB 7 = .ok (.if_icmp (.ge) 37, 3) := by decide +kernel
theorem d10 : decode yB 10 = .ok (.aload_n 0, 1) := by decide +kernel
theorem d11 : decode yB 11 = .ok (.iload_n 1, 1) := by decide +kernel
theorem d12 : decode yB 12 = .ok (.caload, 1) := by decide +kernel
theorem d13 : decode yB 13 = .ok (.istore 6, 2) := by decide +kernel
theorem d15 : decode yB 15 = .ok (.iload 6, 2) := by decide +kernel
theorem d17 : decode yB 17 = .ok (.sipush 255, 3) := by decide +kernel
theorem d20 : decode yB 20 = .ok (.if_icmp (.le) 6, 3) := by decide +kernel
theorem d26 : decode yB 26 = .ok (.aload_n 2, 1) := by decide +kernel
theorem d27 : decode yB 27 = .ok (.iload_n 3, 1) := by decide +kernel
theorem d28 : decode yB 28 = .ok (.iload 6, 2) := by decide +kernel
theorem d30 : decode yB 30 = .ok (.i2b, 1) := by decide +kernel
theorem d31 : decode yB 31 = .ok (.bastore, 1) := by decide +kernel
theorem d32 : decode yB 32 = .ok (.iinc 1 1, 3) := by decide +kernel
theorem d35 : decode yB 35 = .ok (.iinc 3 1, 3) := by decide +kernel
theorem d38 : decode yB 38 = .ok (.iinc 5 1, 3) := by decide +kernel
theorem d41 : decode yB 41 = .ok (.goto (-38), 3) := by decide +kernel
theorem d44 : decode yB 44 = .ok (.iload 4, 2) := by decide +kernel
theorem d46 : decode yB 46 = .ok (.ireturn, 1) := by decide +kernel
def site : List Cond := []
def tab : Cond := tabOf yN yB 7 (some .int) site
def P (b : Addr) (A : Cell) (d : Addr) (B : Cell) (o q len : Nat) (args : Array Value) (s : State) : Prop := args = #[.ref b, .int (Int32.ofNat o), .ref d, .int (Int32.ofNat q), .int (Int32.ofNat len)] ∧ Ch b A s ∧ Arr .byte d B s ∧ b ≠ d ∧ o + len ≤ A.slots.size ∧ q + len ≤ B.slots.size ∧ ∀ i, i < len → ¬ 255 < cv A (o + i)
def E (b : Addr) (A : Cell) (d : Addr) (B : Cell) (o q len : Nat) (r : Option Value) (s u : State) : Prop := r = some (.int (Int32.ofNat len)) ∧ ∃ B', Put d B' s u ∧ Laid B B' q (q + len) (fun j => Value.int (lo8 (cv A (o + (j - q)))))
/-- no char of the range above 255: len; the places written hold each char's low byte -/
theorem law (l : Launch) (b : Addr) (A : Cell) (d : Addr) (B : Cell) (o q len : Nat) : Law l yN 5 5 0 0 yB 7 (some .int) site (P b A d B o q len) (E b A d B o q len) (copyLocs d q len) 0 0 := by
  refine Law.of_walk (plainFor_of_name (by decide +kernel)) (by decide +kernel) (by decide +kernel) (by decide) (fun _ _ h => by rw [h.1]; rfl) (fun _ U U' hal hh h => ⟨h.1, h.2.1.mv hal hh, h.2.2.1.mv hal hh, h.2.2.2⟩) (fun r U U' V V' h1 hal h2 h => ⟨h.1, h.2.elim fun B' q => ⟨B', q.1.mv h1 h2, q.2⟩⟩) ?_
  intro p e s m args below meth c s₁ X0 hexec hbytes hml hret hlk hnm hown hh0 W hP
  obtain ⟨rfl, hA, hB, hne, l1, l2, hp⟩ := hP
  have c1 : Steps p.tables e below (s₁.setTop (entryFrame m #[.ref b, .int (Int32.ofNat o), .ref d, .int (Int32.ofNat q), .int (Int32.ofNat len)] 7)) (s₁.setTop (mkF m 0 #[.val (.ref b), .val (.int (Int32.ofNat o)), .val (.ref d), .val (.int (Int32.ofNat q)), .val (.int (Int32.ofNat len)), .unset, .unset] [])) := entry rfl
  have hA0 := hA.1.mv X0.warmed.alike hh0
  have hB0 := hB.mv X0.warmed.alike hh0
  have a31 := hA.1.2.2.2
  have c2 : Steps p.tables e below (s₁.setTop (entryFrame m #[.ref b, .int (Int32.ofNat o), .ref d, .int (Int32.ofNat q), .int (Int32.ofNat len)] 7)) (s₁.setTop (mkF m 3 #[.val (.ref b), .val (.int (Int32.ofNat o)), .val (.ref d), .val (.int (Int32.ofNat q)), .val (.int (Int32.ofNat len)), .val (.int 0), .unset] [])) := c1.trans (by
    refine iconstV X0.here hexec rfl 0 (hb hbytes d0) (by decide) ?_
    refine XS.istore X0.here hexec rfl (hb hbytes d1) rfl rfl ?_
    exact Steps.refl _)
  have loop : ∀ (r i : Nat), i + r = len → ∀ (z : Slot), (z = .unset ∨ ∃ w, z = .val w ∧ w.category = 1) → ∀ (Tl : State) (Bk : Cell), Stand p l e { frames := 0, locals := 0, cells := 0, slots := 0 } s m #[.ref b, .int (Int32.ofNat o), .ref d, .int (Int32.ofNat q), .int (Int32.ofNat len)] below meth c Tl ([] ++ copyLocs d q i) 0 0 → Put d Bk s₁ Tl → Laid B Bk q (q + i) (fun j => Value.int (lo8 (cv A (o + (j - q))))) →
      Steps p.tables e below (s₁.setTop (entryFrame m #[.ref b, .int (Int32.ofNat o), .ref d, .int (Int32.ofNat q), .int (Int32.ofNat len)] 7)) (Tl.setTop (mkF m 3 #[.val (.ref b), .val (.int (Int32.ofNat (o + i))), .val (.ref d), .val (.int (Int32.ofNat (q + i))), .val (.int (Int32.ofNat len)), .val (.int (Int32.ofNat i)), z] [])) → ∃ (T' : State) (B' : Cell) (z' : Slot), Stand p l e { frames := 0, locals := 0, cells := 0, slots := 0 } s m #[.ref b, .int (Int32.ofNat o), .ref d, .int (Int32.ofNat q), .int (Int32.ofNat len)] below meth c T' ([] ++ copyLocs d q len) 0 0 ∧ Put d B' s₁ T' ∧ Laid B B' q (q + len) (fun j => Value.int (lo8 (cv A (o + (j - q))))) ∧
      Steps p.tables e below (s₁.setTop (entryFrame m #[.ref b, .int (Int32.ofNat o), .ref d, .int (Int32.ofNat q), .int (Int32.ofNat len)] 7)) (T'.setTop (mkF m 3 #[.val (.ref b), .val (.int (Int32.ofNat (o + len))), .val (.ref d), .val (.int (Int32.ofNat (q + len))), .val (.int (Int32.ofNat len)), .val (.int (Int32.ofNat len)), z'] [])) := by
    intro r
    induction r with
    | zero =>
      intro i hi z hz Tl Bk Xl pl fl cl
      have hil : i = len := by omega
      rw [hil] at Xl fl cl
      exact ⟨Tl, Bk, z, Xl, pl, fl, cl⟩
    | succ r ih =>
      intro i hi z hz Tl Bk Xl pl fl cl
      have all := X0.warmed.alike.symm.trans Xl.warmed.alike
      have hAl := hA0.keep all (pl.other hne hA0.1)
      have hBk := hB0.like all pl.1 fl.1 fl.2.1 fl.2.2.1
      have hlt : q + i < Bk.slots.size := by rw [fl.2.2.1]; omega
      have c3 : Steps p.tables e below (s₁.setTop (entryFrame m #[.ref b, .int (Int32.ofNat o), .ref d, .int (Int32.ofNat q), .int (Int32.ofNat len)] 7)) (Tl.setTop (mkF m 12 #[.val (.ref b), .val (.int (Int32.ofNat (o + i))), .val (.ref d), .val (.int (Int32.ofNat (q + i))), .val (.int (Int32.ofNat len)), .val (.int (Int32.ofNat i)), z] [.int (Int32.ofNat (o + i)), .ref b])) := cl.trans (by
        refine XS.iload Xl.here hexec rfl (hb hbytes d3) rfl ?_
        refine XS.iload Xl.here hexec rfl (hb hbytes d5) rfl ?_
        refine XS.icmpNo Xl.here hexec rfl (hb hbytes d7) rfl (ii_ge_f (lt32 (by omega) (by omega))) ?_
        refine XS.aloadN Xl.here hexec rfl (hb hbytes d10) rfl rfl ?_
        refine XS.iloadN Xl.here hexec rfl (hb hbytes d11) rfl ?_
        exact Steps.refl _)
      have c4 : Steps p.tables e below (s₁.setTop (entryFrame m #[.ref b, .int (Int32.ofNat o), .ref d, .int (Int32.ofNat q), .int (Int32.ofNat len)] 7)) (Tl.setTop (mkF m 13 #[.val (.ref b), .val (.int (Int32.ofNat (o + i))), .val (.ref d), .val (.int (Int32.ofNat (q + i))), .val (.int (Int32.ofNat len)), .val (.int (Int32.ofNat i)), z] [.int (cv A (o + i))])) := c3.trans (by
        refine Xl.aget hexec hAl rfl (hA.get (i := o + i) (by omega)) rfl rfl (hb hbytes d12) ?_
        exact Steps.refl _)
      have c5 : Steps p.tables e below (s₁.setTop (entryFrame m #[.ref b, .int (Int32.ofNat o), .ref d, .int (Int32.ofNat q), .int (Int32.ofNat len)] 7)) (Tl.setTop (mkF m 15 #[.val (.ref b), .val (.int (Int32.ofNat (o + i))), .val (.ref d), .val (.int (Int32.ofNat (q + i))), .val (.int (Int32.ofNat len)), .val (.int (Int32.ofNat i)), .val (.int (cv A (o + i)))] [])) := c4.trans (by
        refine XS.istoreS Xl.here hexec rfl (hb hbytes d13) rfl rfl hz ?_
        exact Steps.refl _)
      have c6 : Steps p.tables e below (s₁.setTop (entryFrame m #[.ref b, .int (Int32.ofNat o), .ref d, .int (Int32.ofNat q), .int (Int32.ofNat len)] 7)) (Tl.setTop (mkF m 31 #[.val (.ref b), .val (.int (Int32.ofNat (o + i))), .val (.ref d), .val (.int (Int32.ofNat (q + i))), .val (.int (Int32.ofNat len)), .val (.int (Int32.ofNat i)), .val (.int (cv A (o + i)))] [.int (lo8 (cv A (o + i))), .int (Int32.ofNat (q + i)), .ref d])) := c5.trans (by
        refine XS.iload Xl.here hexec rfl (hb hbytes d15) rfl ?_
        refine sipushV Xl.here hexec rfl 255 (hb hbytes d17) (by decide) ?_
        refine XS.icmpYes Xl.here hexec rfl (pc0 := 20) rfl (hb hbytes d20) rfl (ii_le_t (hp i (by omega))) (by decide) rfl ?_
        refine XS.aloadN Xl.here hexec rfl (hb hbytes d26) rfl rfl ?_
        refine XS.iloadN Xl.here hexec rfl (hb hbytes d27) rfl ?_
        refine XS.iload Xl.here hexec rfl (hb hbytes d28) rfl ?_
        refine i2b Xl.here hexec rfl (hb hbytes d30) rfl ?_
        exact Steps.refl _)
      obtain ⟨T7, X7, p7, st7⟩ := Xl.aput hexec hBk rfl hlt rfl (fits_lo8 (cv A (o + i))) (g := (mkF m 31 #[.val (.ref b), .val (.int (Int32.ofNat (o + i))), .val (.ref d), .val (.int (Int32.ofNat (q + i))), .val (.int (Int32.ofNat len)), .val (.int (Int32.ofNat i)), .val (.int (cv A (o + i)))] [.int (lo8 (cv A (o + i))), .int (Int32.ofNat (q + i)), .ref d])) rfl (rest := []) rfl (hb hbytes d31)
      have c8 : Steps p.tables e below (s₁.setTop (entryFrame m #[.ref b, .int (Int32.ofNat o), .ref d, .int (Int32.ofNat q), .int (Int32.ofNat len)] 7)) (T7.setTop (mkF m 32 #[.val (.ref b), .val (.int (Int32.ofNat (o + i))), .val (.ref d), .val (.int (Int32.ofNat (q + i))), .val (.int (Int32.ofNat len)), .val (.int (Int32.ofNat i)), .val (.int (cv A (o + i)))] [])) := c6.trans (st7 _ (Steps.refl _))
      have c9 : Steps p.tables e below (s₁.setTop (entryFrame m #[.ref b, .int (Int32.ofNat o), .ref d, .int (Int32.ofNat q), .int (Int32.ofNat len)] 7)) (T7.setTop (mkF m 3 #[.val (.ref b), .val (.int (Int32.ofNat (o + i) + 1)), .val (.ref d), .val (.int (Int32.ofNat (q + i) + 1)), .val (.int (Int32.ofNat len)), .val (.int (Int32.ofNat i + 1)), .val (.int (cv A (o + i)))] [])) := c8.trans (by
        refine iincV X7.here hexec rfl 1 (hb hbytes d32) (by decide) rfl rfl ?_
        refine iincV X7.here hexec rfl 1 (hb hbytes d35) (by decide) rfl rfl ?_
        refine iincV X7.here hexec rfl 1 (hb hbytes d38) (by decide) rfl rfl ?_
        refine XS.goto X7.here hexec rfl (pc0 := 41) rfl (hb hbytes d41) (by decide) rfl ?_
        exact Steps.refl _)
      have c10 : Steps p.tables e below (s₁.setTop (entryFrame m #[.ref b, .int (Int32.ofNat o), .ref d, .int (Int32.ofNat q), .int (Int32.ofNat len)] 7)) (T7.setTop (mkF m 3 #[.val (.ref b), .val (.int (Int32.ofNat (o + (i + 1)))), .val (.ref d), .val (.int (Int32.ofNat (q + (i + 1)))), .val (.int (Int32.ofNat len)), .val (.int (Int32.ofNat (i + 1))), .val (.int (cv A (o + i)))] [])) := by
        have := c9
        rw [succ32, succ32, succ32] at this
        exact this
      exact ih (i + 1) (by omega) _ (Or.inr ⟨_, rfl, rfl⟩) T7 _ (by rw [copyLocs_step, ← List.append_assoc]; exact X7) (pl.trans p7) (fl.step (by omega) hlt (by simp)) c10
  obtain ⟨T9, B9, z9, X9, p9, f9, g9⟩ := loop len 0 (by omega) .unset (Or.inl rfl) s₁ B (by simpa [copyLocs] using X0) ⟨hB0.1, fun _ _ => rfl, rfl⟩ (Laid.zero _ _ _) c2
  have c11 : Steps p.tables e below (s₁.setTop (entryFrame m #[.ref b, .int (Int32.ofNat o), .ref d, .int (Int32.ofNat q), .int (Int32.ofNat len)] 7)) (T9.setTop (mkF m 46 #[.val (.ref b), .val (.int (Int32.ofNat (o + len))), .val (.ref d), .val (.int (Int32.ofNat (q + len))), .val (.int (Int32.ofNat len)), .val (.int (Int32.ofNat len)), z9] [.int (Int32.ofNat len)])) := g9.trans (by
    refine XS.iload X9.here hexec rfl (hb hbytes d3) rfl ?_
    refine XS.iload X9.here hexec rfl (hb hbytes d5) rfl ?_
    refine XS.icmpYes X9.here hexec rfl (pc0 := 7) rfl (hb hbytes d7) rfl (ii_ge_t (nlt32 (by omega) (Nat.le_refl _))) (by decide) rfl ?_
    refine XS.iload X9.here hexec rfl (hb hbytes d44) rfl ?_
    exact Steps.refl _)
  exact ⟨T9, some (.int (Int32.ofNat len)), _, _, _, X9, by simp, rfl, rfl, (fun h => by cases h), ⟨rfl, B9, p9.from hh0, f9⟩, fun fs hl => c11.trans (X9.ireturnOut hexec hret rfl (Or.inl rfl) (hb hbytes d46) hl)⟩
end Cmp5
namespace Cmp3
def yN : MethodName := ⟨"java/lang/StringUTF16", "compress", "([CII)[B"⟩
abbrev yB : ByteArray := jdk_52_method_16_code
theorem d0 : decode yB 0 = .ok (.iload_n 2, 1) := by decide +kernel
theorem d1 : decode yB 1 = .ok (.newarray .byte, 2) := by decide +kernel
theorem d3 : decode yB 3 = .ok (.astore_n 3, 1) := by decide +kernel
theorem d4 : decode yB 4 = .ok (.aload_n 0, 1) := by decide +kernel
theorem d5 : decode yB 5 = .ok (.iload_n 1, 1) := by decide +kernel
theorem d6 : decode yB 6 = .ok (.aload_n 3, 1) := by decide +kernel
theorem d7 : decode yB 7 = .ok (.iconst 0, 1) := by decide +kernel
theorem d8 : decode yB 8 = .ok (.iload_n 2, 1) := by decide +kernel
theorem d9 : decode yB 9 = .ok (.invokestatic 115, 3) := by decide +kernel
theorem d12 : decode yB 12 = .ok (.istore 4, 2) := by decide +kernel
theorem d14 : decode yB 14 = .ok (.iload 4, 2) := by decide +kernel
theorem d16 : decode yB 16 = .ok (.iload_n 2, 1) := by decide +kernel
theorem d17 : decode yB 17 = .ok (.if_icmp (.eq) 40, 3) := by decide +kernel
theorem d57 : decode yB 57 = .ok (.aload_n 3, 1) := by decide +kernel
theorem d58 : decode yB 58 = .ok (.areturn, 1) := by decide +kernel
def site : List Cond := [.arrayClass .byte, Cmp5.tab] ++ staticW U16 115 Cmp5.yN
def tab : Cond := tabOf yN yB 6 (some (.array .byte)) site
def P (b : Addr) (A : Cell) (o len : Nat) (args : Array Value) (s : State) : Prop := args = #[.ref b, .int (Int32.ofNat o), .int (Int32.ofNat len)] ∧ Ch b A s ∧ o + len ≤ A.slots.size ∧ len ≤ 536870912 ∧ ∀ i, i < len → ¬ 255 < cv A (o + i)
def E (b : Addr) (A : Cell) (o len : Nat) (r : Option Value) (s u : State) : Prop := NewArr .byte "[B" len (fun j => .int (lo8 (cv A (o + j)))) r s u ∧ u.heap.size = s.heap.size + 1
/-- no char of the range above 255: a new byte[] of their low bytes -/
theorem law (l : Launch) (b : Addr) (A : Cell) (o len : Nat) : Law l yN 3 3 1 18 yB 6 (some (.array .byte)) site (P b A o len) (E b A o len) [] 1 len := by
  refine Law.of_walk (plainFor_of_name (by decide +kernel)) (by decide +kernel) (by decide +kernel) (by decide) (fun _ _ h => by rw [h.1]; rfl) (fun _ U U' hal hh h => ⟨h.1, h.2.1.mv hal hh, h.2.2⟩) (fun r U U' V V' h1 hal h2 h => ⟨NewArr.mv r U U' V V' h1 hal h2 h.1, by rw [h1, h2]; exact h.2⟩) ?_
  intro p e s m args below meth c s₁ X0 hexec hbytes hml hret hlk hnm hown hh0 W hP
  obtain ⟨rfl, hA, l1, l2, hp⟩ := hP
  have a31 := hA.1.2.2.2
  have c1 : Steps p.tables e below (s₁.setTop (entryFrame m #[.ref b, .int (Int32.ofNat o), .int (Int32.ofNat len)] 6)) (s₁.setTop (mkF m 0 #[.val (.ref b), .val (.int (Int32.ofNat o)), .val (.int (Int32.ofNat len)), .unset, .unset, .unset] [])) := entry rfl
  have c2 : Steps p.tables e below (s₁.setTop (entryFrame m #[.ref b, .int (Int32.ofNat o), .int (Int32.ofNat len)] 6)) (s₁.setTop (mkF m 1 #[.val (.ref b), .val (.int (Int32.ofNat o)), .val (.int (Int32.ofNat len)), .unset, .unset, .unset] [.int (Int32.ofNat len)])) := c1.trans (by
    refine XS.iloadN X0.here hexec rfl (hb hbytes d0) rfl ?_
    exact Steps.refl _)
  obtain ⟨T3, B3, X3, ba3, bs3, bv3, bh3, bf3, st3⟩ := X0.anew hexec (atype := .byte) (wk W (.arrayClass .byte)) rfl (by show len * 1 ≤ _; omega) (by omega) (g := (mkF m 1 #[.val (.ref b), .val (.int (Int32.ofNat o)), .val (.int (Int32.ofNat len)), .unset, .unset, .unset] [.int (Int32.ofNat len)])) rfl (hb hbytes d1) (rest := []) rfl (Nat.le_refl _) (by show 0 + len ≤ len; omega)
  rw [hh0] at ba3 st3
  have kp3 : XT.Kept s T3 := (XT.Kept.of_eq hh0).push bh3
  have hA3 := hA.keep X3.warmed.alike (kp3 _ _ hA.1.1)
  have hne : b ≠ s.heap.size := hA.1.ne
  have c4 : Steps p.tables e below (s₁.setTop (entryFrame m #[.ref b, .int (Int32.ofNat o), .int (Int32.ofNat len)] 6)) (T3.setTop (mkF m 3 #[.val (.ref b), .val (.int (Int32.ofNat o)), .val (.int (Int32.ofNat len)), .unset, .unset, .unset] [.ref s.heap.size])) := c2.trans (st3 _ (Steps.refl _))
  have c5 : Steps p.tables e below (s₁.setTop (entryFrame m #[.ref b, .int (Int32.ofNat o), .int (Int32.ofNat len)] 6)) (T3.setTop (mkF m 9 #[.val (.ref b), .val (.int (Int32.ofNat o)), .val (.int (Int32.ofNat len)), .val (.ref s.heap.size), .unset, .unset] [.int (Int32.ofNat len), .int 0, .ref s.heap.size, .int (Int32.ofNat o), .ref b])) := c4.trans (by
    refine XS.astoreN X3.here hexec rfl (hb hbytes d3) rfl rfl rfl ?_
    refine XS.aloadN X3.here hexec rfl (hb hbytes d4) rfl rfl ?_
    refine XS.iloadN X3.here hexec rfl (hb hbytes d5) rfl ?_
    refine XS.aloadN X3.here hexec rfl (hb hbytes d6) rfl rfl ?_
    refine iconstV X3.here hexec rfl 0 (hb hbytes d7) (by decide) ?_
    refine XS.iloadN X3.here hexec rfl (hb hbytes d8) rfl ?_
    exact Steps.refl _)
  obtain ⟨v6, T6, X6, E6, g6⟩ := X3.callS hexec (Cmp5.law l b A s.heap.size B3 o 0 len) hown (wks W (staticW U16 115 Cmp5.yN)) (wk W Cmp5.tab) (W := 0) (Nat.le_of_ble_eq_true rfl) (Nat.le_of_ble_eq_true rfl) (Nat.le_refl _) (by show 0 + len + 0 ≤ len; omega) (g := (mkF m 9 #[.val (.ref b), .val (.int (Int32.ofNat o)), .val (.int (Int32.ofNat len)), .val (.ref s.heap.size), .unset, .unset] [.int (Int32.ofNat len), .int (Int32.ofNat 0), .ref s.heap.size, .int (Int32.ofNat o), .ref b])) rfl (by rw [hml]; rfl) c5 (argsL := [.ref b, .int (Int32.ofNat o), .ref s.heap.size, .int (Int32.ofNat 0), .int (Int32.ofNat len)]) (rest := []) rfl rfl (by show 2 * 0 + 0 ≤ _; decide) (hb hbytes d9) (⟨rfl, hA3, ba3, hne, l1, by rw [bs3]; simp, hp⟩)
  obtain ⟨rfl, B6, p6, f6⟩ := E6
  have c7 : Steps p.tables e below (s₁.setTop (entryFrame m #[.ref b, .int (Int32.ofNat o), .int (Int32.ofNat len)] 6)) (T6.setTop (mkF m 12 #[.val (.ref b), .val (.int (Int32.ofNat o)), .val (.int (Int32.ofNat len)), .val (.ref s.heap.size), .unset, .unset] [.int (Int32.ofNat len)])) := g6
  have c8 : Steps p.tables e below (s₁.setTop (entryFrame m #[.ref b, .int (Int32.ofNat o), .int (Int32.ofNat len)] 6)) (T6.setTop (mkF m 58 #[.val (.ref b), .val (.int (Int32.ofNat o)), .val (.int (Int32.ofNat len)), .val (.ref s.heap.size), .val (.int (Int32.ofNat len)), .unset] [.ref s.heap.size])) := c7.trans (by
    refine XS.istore X6.here hexec rfl (hb hbytes d12) rfl rfl ?_
    refine XS.iload X6.here hexec rfl (hb hbytes d14) rfl ?_
    refine XS.iloadN X6.here hexec rfl (hb hbytes d16) rfl ?_
    refine XS.icmpYes X6.here hexec rfl (pc0 := 17) rfl (hb hbytes d17) rfl (ii_eq_t rfl) (by decide) rfl ?_
    refine XS.aloadN X6.here hexec rfl (hb hbytes d57) rfl rfl ?_
    exact Steps.refl _)
  have X8 := X6.wide (L' := []) (cells' := 1) (slots' := len) (fun x hx hlt => by
    simp only [List.nil_append, copyLocs, List.mem_map, List.mem_range] at hx
    obtain ⟨i, -, rfl⟩ := hx
    exact absurd hlt (Nat.lt_irrefl _)) (Nat.le_refl _) (by omega)
  exact ⟨T6, some (.ref s.heap.size), _, _, _, X8, rfl, rfl, rfl, (fun h => by cases h), ⟨⟨rfl, B6, ba3.like (X3.warmed.alike.symm.trans X6.warmed.alike) p6.1 f6.1 f6.2.1 f6.2.2.1, f6.2.1.trans bv3, by rw [X6.warmed.alike.findClass, f6.1]; exact bf3, by rw [f6.2.2.1, bs3]; simp, fun j hj => by rw [f6.2.2.2 j, if_pos (by omega)]; rfl, kp3.put p6 (Nat.le_refl _)⟩, by rw [p6.2.2, bh3, hh0]; simp⟩, fun fs hl => c8.trans (X8.areturnOut hexec rfl hret rfl (hb hbytes d58) hl)⟩
end Cmp3
namespace CodL
def yN : MethodName := ⟨"java/lang/StringUTF16", "coderFromArrayLen", "([BI)B"⟩
abbrev yB : ByteArray := jdk_52_method_15_code
theorem d0 : decode yB 0 = .ok (.iload_n 1, 1) := by decide +kernel
theorem d1 : decode yB 1 = .ok (.aload_n 0, 1) := by decide +kernel
theorem d2 : decode yB 2 = .ok (.arraylength, 1) := by decide +kernel
theorem d3 : decode yB 3 = .ok (.isub, 1) := by decide +kernel
theorem d4 : decode yB 4 = .ok (.bipush 31, 2) := by decide +kernel
theorem d6 : decode yB 6 = .ok (.iushr, 1) := by decide +kernel
theorem d7 : decode yB 7 = .ok (.i2b, 1) := by decide +kernel
theorem d8 : decode yB 8 = .ok (.ireturn, 1) := by decide +kernel
def site : List Cond := []
def tab : Cond := tabOf yN yB 2 (some .byte) site
def P (d : Addr) (B : Cell) (args : Array Value) (s : State) : Prop := args = #[.ref d, .int (Int32.ofNat B.slots.size)] ∧ Arr .byte d B s
def E (r : Option Value) (s u : State) : Prop := XT.PureE (some (.int 0)) r s u
/-- an array as long as the number of chars: LATIN1 -/
theorem law (l : Launch) (d : Addr) (B : Cell) : Law l yN 2 2 0 0 yB 2 (some .byte) site (P d B) E [] 0 0 := by
  refine Law.of_walk (plainFor_of_name (by decide +kernel)) (by decide +kernel) (by decide +kernel) (by decide) (fun _ _ h => by rw [h.1]; rfl) (fun _ U U' hal hh h => ⟨h.1, h.2.mv hal hh⟩) (fun r U U' V V' h1 hal h2 h => XT.PureE.mv r U U' V V' h1 hal h2 h) ?_
  intro p e s m args below meth c s₁ X0 hexec hbytes hml hret hlk hnm hown hh0 W hP
  obtain ⟨rfl, hB⟩ := hP
  have hB0 := hB.mv X0.warmed.alike hh0
  have c1 : Steps p.tables e below (s₁.setTop (entryFrame m #[.ref d, .int (Int32.ofNat B.slots.size)] 2)) (s₁.setTop (mkF m 0 #[.val (.ref d), .val (.int (Int32.ofNat B.slots.size))] [])) := entry rfl
  have c2 : Steps p.tables e below (s₁.setTop (entryFrame m #[.ref d, .int (Int32.ofNat B.slots.size)] 2)) (s₁.setTop (mkF m 2 #[.val (.ref d), .val (.int (Int32.ofNat B.slots.size))] [.ref d, .int (Int32.ofNat B.slots.size)])) := c1.trans (by
    refine XS.iloadN X0.here hexec rfl (hb hbytes d0) rfl ?_
    refine XS.aloadN X0.here hexec rfl (hb hbytes d1) rfl rfl ?_
    exact Steps.refl _)
  have c3 : Steps p.tables e below (s₁.setTop (entryFrame m #[.ref d, .int (Int32.ofNat B.slots.size)] 2)) (s₁.setTop (mkF m 8 #[.val (.ref d), .val (.int (Int32.ofNat B.slots.size))] [.int (lo8 (ushr (Int32.ofNat B.slots.size - Int32.ofNat B.slots.size) 31))])) := c2.trans (by
    refine X0.alen hexec hB0 rfl rfl (hb hbytes d2) ?_
    refine XS.isub X0.here hexec rfl (hb hbytes d3) rfl ?_
    refine bipushV X0.here hexec rfl 31 (hb hbytes d4) (by decide) ?_
    refine iushr X0.here hexec rfl (hb hbytes d6) rfl ?_
    refine i2b X0.here hexec rfl (hb hbytes d7) rfl ?_
    exact Steps.refl _)
  have e0 : lo8 (ushr (Int32.ofNat B.slots.size - Int32.ofNat B.slots.size) 31) = 0 := by rw [Int32.sub_self]; decide
  rw [e0] at c3
  exact ⟨s₁, some (.int 0), _, _, _, X0, rfl, rfl, rfl, (fun h => by cases h), ⟨rfl, hh0⟩, fun fs hl => c3.trans (X0.ireturnOut hexec hret rfl (Or.inr (Or.inr (Or.inl rfl))) (hb hbytes d8) hl)⟩
end CodL
/-- the String at a is Latin-1 over a new byte[] (the heap's one new cell): the low bytes of the len chars of A from o on; every cell but a is kept -/
def Got (a : Addr) (D : Cell) (fV fC : Field) (A : Cell) (o len : Nat) (r : Option Value) (s u : State) : Prop := r = none ∧ ∃ D' V : Cell, Blank "java/lang/String" a D' u ∧ Same D D' [fV.slot, fC.slot] ∧ D'.slots[fV.slot]? = some (.ref s.heap.size) ∧ D'.slots[fC.slot]? = some (.int 0) ∧ Arr .byte s.heap.size V u ∧ V.vm = .none ∧ u.vm.findClass "[B" = some V.cls ∧ V.slots.size = len ∧ (∀ j, j < len → V.slots[j]? = some (.int (lo8 (cv A (o + j))))) ∧ (∀ (y : Addr) (c : Cell), y ≠ a → s.heap[y]? = some c → u.heap[y]? = some c) ∧ u.heap.size = s.heap.size + 1
theorem Got.mv {a : Addr} {D A : Cell} {fV fC : Field} {o len : Nat} : ∀ r (U U' V V' : State), U'.heap = U.heap → V.vm.Alike V'.vm → V'.heap = V.heap → Got a D fV fC A o len r U V → Got a D fV fC A o len r U' V' :=
  fun r U U' V V' h1 hal h2 ⟨e0, D', X, a1, a2, a3, a4, a5, a6, a7, a8, a9, a10, a11⟩ => ⟨e0, D', X, a1.mv hal h2, a2, by rw [h1]; exact a3, a4, by rw [h1]; exact a5.mv hal h2, a6, by rw [hal.findClass]; exact a7, a8, a9, by rw [h1, h2]; exact a10, by rw [h1, h2]; exact a11⟩
namespace New4
def yN : MethodName := ⟨"java/lang/String", "<init>", "([CIILjava/lang/Void;)V"⟩
abbrev yB : ByteArray := jdk_42_method_149_code
theorem d0 : decode yB 0 = .ok (.aload_n 0, 1) := by decide +kernel
theorem d1 : decode yB 1 = .ok (.invokespecial 1, 3) := by decide +kernel
theorem d4 : decode yB 4 = .ok (.iload_n 3, 1) := by decide +kernel
theorem d5 : decode yB 5 = .ok (.ifCond (.ne) 22, 3) := by decide +kernel
theorem d27 : decode yB 27 = .ok (.getstatic 38, 3) := by decide +kernel
theorem d30 : decode yB 30 = .ok (.ifCond (.eq) 28, 3) := by decide +kernel
theorem d33 : decode yB 33 = .ok (.aload_n 1, 1) := by decide +kernel
theorem d34 : decode yB 34 = .ok (.iload_n 2, 1) := by decide +kernel
theorem d35 : decode yB 35 = .ok (.iload_n 3, 1) := by decide +kernel
theorem d36 : decode yB 36 = .ok (.invokestatic 177, 3) := by decide +kernel
theorem d39 : decode yB 39 = .ok (.astore 5, 2) := by decide +kernel
theorem d41 : decode yB 41 = .ok (.aload_n 0, 1) := by decide +kernel
theorem d42 : decode yB 42 = .ok (.aload 5, 2) := by decide +kernel
theorem d44 : decode yB 44 = .ok (.iload_n 3, 1) := by decide +kernel
theorem d45 : decode yB 45 = .ok (.invokestatic 47, 3) := by decide +kernel
theorem d48 : decode yB 48 = .ok (.putfield 15, 3) := by decide +kernel
theorem d51 : decode yB 51 = .ok (.aload_n 0, 1) := by decide +kernel
theorem d52 : decode yB 52 = .ok (.aload 5, 2) := by decide +kernel
theorem d54 : decode yB 54 = .ok (.putfield 9, 3) := by decide +kernel
theorem d57 : decode yB 57 = .ok (.return_, 1) := by decide +kernel
def site : List Cond := [.fieldLink "java/lang/String" 38 "java/lang/String" "COMPACT_STRINGS" "Z", Cmp3.tab, CodL.tab, .laysFinal "java/lang/String" "java/lang/String" "value" "[B", .fieldLink "java/lang/String" 9 "java/lang/String" "value" "[B", .laysFinal "java/lang/String" "java/lang/String" "coder" "B", .fieldLink "java/lang/String" 15 "java/lang/String" "coder" "B"] ++ objW "java/lang/String" 1 ++ staticW "java/lang/String" 177 Cmp3.yN ++ staticW "java/lang/String" 47 CodL.yN
def tab : Cond := tabOf yN yB 6 none site
def P (a : Addr) (D : Cell) (fV fC : Field) (b : Addr) (A : Cell) (z : Int32) (o len : Nat) (args : Array Value) (s : State) : Prop := args = #[.ref a, .ref b, .int (Int32.ofNat o), .int (Int32.ofNat len), .null] ∧ Blank "java/lang/String" a D s ∧ Found "java/lang/String" "value" "[B" fV s ∧ Found "java/lang/String" "coder" "B" fC s ∧ Ch b A s ∧ StaticIs s "java/lang/String" "COMPACT_STRINGS" "Z" (.int z) ∧ ¬ z = 0 ∧ 0 < len ∧ o + len ≤ A.slots.size ∧ len ≤ 536870912 ∧ ∀ i, i < len → ¬ 255 < cv A (o + i)
def E (a : Addr) (D : Cell) (fV fC : Field) (A : Cell) (o len : Nat) (r : Option Value) (s u : State) : Prop := Got a D fV fC A o len r s u
/-- len > 0, no char of the range above 255: a Latin-1 String of their low bytes -/
theorem law (l : Launch) (a : Addr) (D : Cell) (fV fC : Field) (b : Addr) (A : Cell) (z : Int32) (o len : Nat) : Law l yN 5 4 2 35 yB 6 none site (P a D fV fC b A z o len) (E a D fV fC A o len) [⟨a, fC.slot⟩, ⟨a, fV.slot⟩] 1 len := by
  refine Law.of_walk (plainFor_of_name (by decide +kernel)) (by decide +kernel) (by decide +kernel) (by decide) (fun _ _ h => by rw [h.1]; rfl) (fun _ U U' hal hh h => ⟨h.1, h.2.1.mv hal hh, h.2.2.1.al hal, h.2.2.2.1.al hal, h.2.2.2.2.1.mv hal hh, h.2.2.2.2.2.1.there hal hh, h.2.2.2.2.2.2⟩) (fun r U U' V V' h1 hal h2 h => Got.mv r U U' V V' h1 hal h2 h) ?_
  intro p e s m args below meth c s₁ X0 hexec hbytes hml hret hlk hnm hown hh0 W hP
  obtain ⟨rfl, hB, f1, f2, hA, s1, hz, l0, l1, l2, hp⟩ := hP
  have a31 := hA.1.2.2.2
  have c1 : Steps p.tables e below (s₁.setTop (entryFrame m #[.ref a, .ref b, .int (Int32.ofNat o), .int (Int32.ofNat len), .null] 6)) (s₁.setTop (mkF m 0 #[.val (.ref a), .val (.ref b), .val (.int (Int32.ofNat o)), .val (.int (Int32.ofNat len)), .val .null, .unset] [])) := entry rfl
  have c2 : Steps p.tables e below (s₁.setTop (entryFrame m #[.ref a, .ref b, .int (Int32.ofNat o), .int (Int32.ofNat len), .null] 6)) (s₁.setTop (mkF m 1 #[.val (.ref a), .val (.ref b), .val (.int (Int32.ofNat o)), .val (.int (Int32.ofNat len)), .val .null, .unset] [.ref a])) := c1.trans (by
    refine XS.aloadN X0.here hexec rfl (hb hbytes d0) rfl rfl ?_
    exact Steps.refl _)
  obtain ⟨T3, X3, q3, st3⟩ := X0.oinit hexec hown (wks W (objW "java/lang/String" 1)) (g := (mkF m 1 #[.val (.ref a), .val (.ref b), .val (.int (Int32.ofNat o)), .val (.int (Int32.ofNat len)), .val .null, .unset] [.ref a])) rfl (by rw [hml]; rfl) (rest := []) rfl (hb hbytes d1) (W := 0) (by show 2 * 0 + 0 ≤ _; decide) (Nat.le_of_ble_eq_true rfl) (Nat.le_of_ble_eq_true rfl)
  have hh3 := q3.trans hh0
  have c4 : Steps p.tables e below (s₁.setTop (entryFrame m #[.ref a, .ref b, .int (Int32.ofNat o), .int (Int32.ofNat len), .null] 6)) (T3.setTop (mkF m 27 #[.val (.ref a), .val (.ref b), .val (.int (Int32.ofNat o)), .val (.int (Int32.ofNat len)), .val .null, .unset] [])) := (c2.trans (st3 _ (Steps.refl _))).trans (by
    refine XS.iloadN X3.here hexec rfl (hb hbytes d4) rfl ?_
    refine XS.ifYes X3.here hexec rfl (pc0 := 5) rfl (hb hbytes d5) rfl (i0_ne_t (nz32 (by omega) l0)) (by decide) rfl ?_
    exact Steps.refl _)
  obtain ⟨T5, X5, q5, st5⟩ := X3.sget hexec hown (wk W (.fieldLink "java/lang/String" 38 "java/lang/String" "COMPACT_STRINGS" "Z")) s1 (fun _ _ h => by rw [hh3]; exact h) (g := (mkF m 27 #[.val (.ref a), .val (.ref b), .val (.int (Int32.ofNat o)), .val (.int (Int32.ofNat len)), .val .null, .unset] [])) rfl (hb hbytes d27)
  have hh5 := q5.trans hh3
  have c6 : Steps p.tables e below (s₁.setTop (entryFrame m #[.ref a, .ref b, .int (Int32.ofNat o), .int (Int32.ofNat len), .null] 6)) (T5.setTop (mkF m 30 #[.val (.ref a), .val (.ref b), .val (.int (Int32.ofNat o)), .val (.int (Int32.ofNat len)), .val .null, .unset] [.int z])) := c4.trans (st5 _ (Steps.refl _))
  have c7 : Steps p.tables e below (s₁.setTop (entryFrame m #[.ref a, .ref b, .int (Int32.ofNat o), .int (Int32.ofNat len), .null] 6)) (T5.setTop (mkF m 36 #[.val (.ref a), .val (.ref b), .val (.int (Int32.ofNat o)), .val (.int (Int32.ofNat len)), .val .null, .unset] [.int (Int32.ofNat len), .int (Int32.ofNat o), .ref b])) := c6.trans (by
    refine XS.ifNo X5.here hexec rfl (hb hbytes d30) rfl (i0_eq_f hz) ?_
    refine XS.aloadN X5.here hexec rfl (hb hbytes d33) rfl rfl ?_
    refine XS.iloadN X5.here hexec rfl (hb hbytes d34) rfl ?_
    refine XS.iloadN X5.here hexec rfl (hb hbytes d35) rfl ?_
    exact Steps.refl _)
  obtain ⟨v8, T8, X8, E8, g8⟩ := X5.callS hexec (Cmp3.law l b A o len) hown (wks W (staticW "java/lang/String" 177 Cmp3.yN)) (wk W Cmp3.tab) (W := 0) (Nat.le_of_ble_eq_true rfl) (Nat.le_of_ble_eq_true rfl) (Nat.le_refl _) (by show 0 + len ≤ len; omega) (g := (mkF m 36 #[.val (.ref a), .val (.ref b), .val (.int (Int32.ofNat o)), .val (.int (Int32.ofNat len)), .val .null, .unset] [.int (Int32.ofNat len), .int (Int32.ofNat o), .ref b])) rfl (by rw [hml]; rfl) c7 (argsL := [.ref b, .int (Int32.ofNat o), .int (Int32.ofNat len)]) (rest := []) rfl rfl (by show 2 * 0 + 0 ≤ _; decide) (hb hbytes d36) (⟨rfl, hA.mv X5.warmed.alike hh5, l1, l2, hp⟩)
  obtain ⟨e8, z8⟩ := E8
  obtain ⟨rfl, N, n1, n2, n3, n4, n5, n6⟩ := NewArr.mv _ T5 s _ _ hh5.symm (Vm.Alike.refl _) rfl e8
  rw [hh5] at z8
  have hB1 := hB.keep X8.warmed.alike (n6 _ _ hB.1)
  have hne : s.heap.size ≠ a := (Nat.ne_of_lt (Array.getElem?_eq_some_iff.mp hB.1).1).symm
  have c9 : Steps p.tables e below (s₁.setTop (entryFrame m #[.ref a, .ref b, .int (Int32.ofNat o), .int (Int32.ofNat len), .null] 6)) (T8.setTop (mkF m 39 #[.val (.ref a), .val (.ref b), .val (.int (Int32.ofNat o)), .val (.int (Int32.ofNat len)), .val .null, .unset] [.ref s.heap.size])) := g8
  have c10 : Steps p.tables e below (s₁.setTop (entryFrame m #[.ref a, .ref b, .int (Int32.ofNat o), .int (Int32.ofNat len), .null] 6)) (T8.setTop (mkF m 45 #[.val (.ref a), .val (.ref b), .val (.int (Int32.ofNat o)), .val (.int (Int32.ofNat len)), .val .null, .val (.ref s.heap.size)] [.int (Int32.ofNat N.slots.size), .ref s.heap.size, .ref a])) := by
    have hc : Steps p.tables e below (s₁.setTop (entryFrame m #[.ref a, .ref b, .int (Int32.ofNat o), .int (Int32.ofNat len), .null] 6)) (T8.setTop (mkF m 45 #[.val (.ref a), .val (.ref b), .val (.int (Int32.ofNat o)), .val (.int (Int32.ofNat len)), .val .null, .val (.ref s.heap.size)] [.int (Int32.ofNat len), .ref s.heap.size, .ref a])) := c9.trans (by
      refine XS.astore X8.here hexec rfl (hb hbytes d39) rfl rfl rfl ?_
      refine XS.aloadN X8.here hexec rfl (hb hbytes d41) rfl rfl ?_
      refine XS.aload X8.here hexec rfl (hb hbytes d42) rfl rfl ?_
      refine XS.iloadN X8.here hexec rfl (hb hbytes d44) rfl ?_
      exact Steps.refl _)
    rw [n4]; exact hc
  obtain ⟨v11, T11, X11, E11, g11⟩ := X8.callS hexec (CodL.law l s.heap.size N) hown (wks W (staticW "java/lang/String" 47 CodL.yN)) (wk W CodL.tab) (W := 1) (Nat.le_of_ble_eq_true rfl) (Nat.le_of_ble_eq_true rfl) (Nat.le_refl _) (by show 0 + len + 0 ≤ len; omega) (g := (mkF m 45 #[.val (.ref a), .val (.ref b), .val (.int (Int32.ofNat o)), .val (.int (Int32.ofNat len)), .val .null, .val (.ref s.heap.size)] [.int (Int32.ofNat N.slots.size), .ref s.heap.size, .ref a])) rfl (by rw [hml]; rfl) c10 (argsL := [.ref s.heap.size, .int (Int32.ofNat N.slots.size)]) (rest := [.ref a]) rfl rfl (by show 2 * 0 + (1 + 0) ≤ _; decide) (hb hbytes d45) (⟨rfl, n1⟩)
  obtain ⟨rfl, q11⟩ := E11
  have hB11 := hB1.mv (X8.warmed.alike.symm.trans X11.warmed.alike) q11
  have c12 : Steps p.tables e below (s₁.setTop (entryFrame m #[.ref a, .ref b, .int (Int32.ofNat o), .int (Int32.ofNat len), .null] 6)) (T11.setTop (mkF m 48 #[.val (.ref a), .val (.ref b), .val (.int (Int32.ofNat o)), .val (.int (Int32.ofNat len)), .val .null, .val (.ref s.heap.size)] [.int 0, .ref a])) := g11
  obtain ⟨T13, X13, p13, bl13, sl13, st13⟩ := X11.finit hexec hown (wk W (.fieldLink "java/lang/String" 15 "java/lang/String" "coder" "B")) (Or.inr ⟨_, (wk W (.laysFinal "java/lang/String" "java/lang/String" "coder" "B"))⟩) (Or.inl ⟨rfl, hnm⟩) f2 (Or.inl rfl) hB11 (t := .byte) (by decide +kernel) rfl (g := (mkF m 48 #[.val (.ref a), .val (.ref b), .val (.int (Int32.ofNat o)), .val (.int (Int32.ofNat len)), .val .null, .val (.ref s.heap.size)] [.int 0, .ref a])) rfl (rest := []) rfl (hb hbytes d48)
  have c14 : Steps p.tables e below (s₁.setTop (entryFrame m #[.ref a, .ref b, .int (Int32.ofNat o), .int (Int32.ofNat len), .null] 6)) (T13.setTop (mkF m 54 #[.val (.ref a), .val (.ref b), .val (.int (Int32.ofNat o)), .val (.int (Int32.ofNat len)), .val .null, .val (.ref s.heap.size)] [.ref s.heap.size, .ref a])) := (c12.trans (st13 _ (Steps.refl _))).trans (by
    refine XS.aloadN X13.here hexec rfl (hb hbytes d51) rfl rfl ?_
    refine XS.aload X13.here hexec rfl (hb hbytes d52) rfl rfl ?_
    exact Steps.refl _)
  obtain ⟨T15, X15, p15, bl15, sl15, st15⟩ := X13.finit hexec hown (wk W (.fieldLink "java/lang/String" 9 "java/lang/String" "value" "[B")) (Or.inr ⟨_, (wk W (.laysFinal "java/lang/String" "java/lang/String" "value" "[B"))⟩) (Or.inl ⟨rfl, hnm⟩) f1 (Or.inl rfl) bl13 (t := (.array .byte)) (by decide +kernel) rfl (g := (mkF m 54 #[.val (.ref a), .val (.ref b), .val (.int (Int32.ofNat o)), .val (.int (Int32.ofNat len)), .val .null, .val (.ref s.heap.size)] [.ref s.heap.size, .ref a])) rfl (rest := []) rfl (hb hbytes d54)
  have c16 : Steps p.tables e below (s₁.setTop (entryFrame m #[.ref a, .ref b, .int (Int32.ofNat o), .int (Int32.ofNat len), .null] 6)) (T15.setTop (mkF m 57 #[.val (.ref a), .val (.ref b), .val (.int (Int32.ofNat o)), .val (.int (Int32.ofNat len)), .val .null, .val (.ref s.heap.size)] [])) := c14.trans (st15 _ (Steps.refl _))
  have ap := apart (Or.inr ⟨_, (wk W (.laysFinal "java/lang/String" "java/lang/String" "value" "[B"))⟩) (Or.inr ⟨_, (wk W (.laysFinal "java/lang/String" "java/lang/String" "coder" "B"))⟩) f1 f2 (t₁ := .array .byte) (t₂ := .byte) (by decide +kernel) (by decide +kernel) (by decide)
  have al := X8.warmed.alike.symm.trans X15.warmed.alike
  have n7 : T11.heap[s.heap.size]? = some N := by rw [q11]; exact n1.1
  exact ⟨T15, none, _, _, _, X15, by simp, rfl, by omega, (fun _ => rfl), ⟨rfl, _, N, bl15, ((Same.refl D _).set _ (by simp)).set _ (by simp), sl15, (Cell.slots_setSlot_ne _ ap).trans sl13, n1.keep al (p15.other hne (p13.other hne n7)), n2, by rw [al.findClass]; exact n3, n4, n5, fun y c h1 h2 => p15.other h1 (p13.other h1 (by rw [q11]; exact n6 y c h2)), by rw [p15.2.2, p13.2.2, q11]; exact z8⟩, fun fs hl => c16.trans (X15.returnOut hexec hret (hb hbytes d57) hl)⟩
end New4
namespace New1
def yN : MethodName := ⟨"java/lang/String", "<init>", "([C)V"⟩
abbrev yB : ByteArray := jdk_42_method_3_code
theorem d0 : decode yB 0 = .ok (.aload_n 0, 1) := by decide +kernel
theorem d1 : decode yB 1 = .ok (.aload_n 1, 1) := by decide +kernel
theorem d2 : decode yB 2 = .ok (.iconst 0, 1) := by decide +kernel
theorem d3 : decode yB 3 = .ok (.aload_n 1, 1) := by decide +kernel
theorem d4 : decode yB 4 = .ok (.arraylength, 1) := by decide +kernel
theorem d5 : decode yB 5 = .ok (.aconst_null, 1) := by decide +kernel
theorem d6 : decode yB 6 = .ok (.invokespecial 27, 3) := by decide +kernel
theorem d9 : decode yB 9 = .ok (.return_, 1) := by decide +kernel
def site : List Cond := [New4.tab] ++ initW "java/lang/String" 27 New4.yN
def tab : Cond := tabOf yN yB 2 none site
def P (a : Addr) (D : Cell) (fV fC : Field) (b : Addr) (A : Cell) (z : Int32) (args : Array Value) (s : State) : Prop := args = #[.ref a, .ref b] ∧ Blank "java/lang/String" a D s ∧ Found "java/lang/String" "value" "[B" fV s ∧ Found "java/lang/String" "coder" "B" fC s ∧ Ch b A s ∧ StaticIs s "java/lang/String" "COMPACT_STRINGS" "Z" (.int z) ∧ ¬ z = 0 ∧ 0 < A.slots.size ∧ A.slots.size ≤ 536870912 ∧ ∀ i, i < A.slots.size → ¬ 255 < cv A i
def E (a : Addr) (D : Cell) (fV fC : Field) (A : Cell) (r : Option Value) (s u : State) : Prop := Got a D fV fC A 0 A.slots.size r s u
/-- new String(chars), not empty, no char above 255: a Latin-1 String of their low bytes -/
theorem law (l : Launch) (a : Addr) (D : Cell) (fV fC : Field) (b : Addr) (A : Cell) (z : Int32) : Law l yN 2 1 3 52 yB 2 none site (P a D fV fC b A z) (E a D fV fC A) [⟨a, fC.slot⟩, ⟨a, fV.slot⟩] 1 A.slots.size := by
  refine Law.of_walk (plainFor_of_name (by decide +kernel)) (by decide +kernel) (by decide +kernel) (by decide) (fun _ _ h => by rw [h.1]; rfl) (fun _ U U' hal hh h => ⟨h.1, h.2.1.mv hal hh, h.2.2.1.al hal, h.2.2.2.1.al hal, h.2.2.2.2.1.mv hal hh, h.2.2.2.2.2.1.there hal hh, h.2.2.2.2.2.2⟩) (fun r U U' V V' h1 hal h2 h => Got.mv r U U' V V' h1 hal h2 h) ?_
  intro p e s m args below meth c s₁ X0 hexec hbytes hml hret hlk hnm hown hh0 W hP
  obtain ⟨rfl, hB, f1, f2, hA, s1, hz, l0, l2, hp⟩ := hP
  have c1 : Steps p.tables e below (s₁.setTop (entryFrame m #[.ref a, .ref b] 2)) (s₁.setTop (mkF m 0 #[.val (.ref a), .val (.ref b)] [])) := entry rfl
  have c2 : Steps p.tables e below (s₁.setTop (entryFrame m #[.ref a, .ref b] 2)) (s₁.setTop (mkF m 6 #[.val (.ref a), .val (.ref b)] [.null, .int (Int32.ofNat A.slots.size), .int 0, .ref b, .ref a])) := c1.trans (by
    refine XS.aloadN X0.here hexec rfl (hb hbytes d0) rfl rfl ?_
    refine XS.aloadN X0.here hexec rfl (hb hbytes d1) rfl rfl ?_
    refine iconstV X0.here hexec rfl 0 (hb hbytes d2) (by decide) ?_
    refine XS.aloadN X0.here hexec rfl (hb hbytes d3) rfl rfl ?_
    refine X0.alen hexec (hA.1.mv X0.warmed.alike hh0) rfl rfl (hb hbytes d4) ?_
    refine XS.aconstNull X0.here hexec rfl (hb hbytes d5) ?_
    exact Steps.refl _)
  obtain ⟨v3, T3, X3, E3, g3⟩ := X0.callN hexec (New4.law l a D fV fC b A z 0 A.slots.size) rfl hown (wks W (initW "java/lang/String" 27 New4.yN)) (W New4.tab (by simp only [site, List.mem_cons, List.mem_append, true_or, or_true])) (W := 0) (Nat.le_of_ble_eq_true rfl) (Nat.le_of_ble_eq_true rfl) (Nat.le_refl _) (by show 0 + A.slots.size ≤ A.slots.size; omega) (g := (mkF m 6 #[.val (.ref a), .val (.ref b)] [.null, .int (Int32.ofNat A.slots.size), .int (Int32.ofNat 0), .ref b, .ref a])) rfl (by rw [hml]; rfl) c2 (argsL := [.ref b, .int (Int32.ofNat 0), .int (Int32.ofNat A.slots.size), .null]) (rest := []) rfl rfl (by show 2 * 0 + 0 ≤ _; decide) (hb hbytes d6) (⟨rfl, hB.mv X0.warmed.alike hh0, f1.al X0.warmed.alike, f2.al X0.warmed.alike, hA.mv X0.warmed.alike hh0, s1.there X0.warmed.alike hh0, hz, l0, by omega, l2, fun i hi => by rw [Nat.zero_add]; exact hp i hi⟩)
  have e0 := Got.mv _ s₁ s _ _ hh0.symm (Vm.Alike.refl _) rfl E3
  obtain rfl := e0.1
  have c4 : Steps p.tables e below (s₁.setTop (entryFrame m #[.ref a, .ref b] 2)) (T3.setTop (mkF m 9 #[.val (.ref a), .val (.ref b)] [])) := g3
  exact ⟨T3, none, _, _, _, X3, by simp, rfl, by omega, (fun _ => rfl), e0, fun fs hl => c4.trans (X3.returnOut hexec hret (hb hbytes d9) hl)⟩
theorem pays {l : Launch} {R : Room} {p : Program} {e : Env} {below : List Frame} {s : State} {sargs : Array Value} {len W : Nat} (a : Addr) (D : Cell) (fV fC : Field) (b : Addr) (A : Cell) (z : Int32) (htab : tab.before sargs s = true) (hfr : 4 ≤ R.frames) (hlo : W + 65 ≤ R.locals) :
    Back l R p e below s sargs yN len W (fun A₁ a₁ => A₁.cells + 1 ≤ R.cells ∧ A₁.slots + A.slots.size ≤ R.slots ∧ P a D fV fC b A z a₁ A₁.U) (fun A₁ _ v₁ B₁ => E a D fV fC A v₁ A₁.U B₁.U ∧ B₁.locs = A₁.locs ++ [⟨a, fC.slot⟩, ⟨a, fV.slot⟩] ∧ B₁.cells = A₁.cells + 1 ∧ B₁.slots = A₁.slots + A.slots.size) :=
  (law l a D fV fC b A z).pays htab hfr (by omega)
end New1
/-- the byte, read back as charAt reads it, is the char -/
theorem lo8_mask {x : Int32} (h0 : ¬ x < 0) (h1 : ¬ 255 < x) : lo8 x &&& 255 = x := by
  have t : ∀ k : Fin 256, lo8 (Int32.ofNat k.val) &&& 255 = Int32.ofNat k.val := by decide +kernel
  rw [Int32.lt_iff_toInt_lt] at h0 h1
  have e0 : (0 : Int32).toInt = 0 := rfl
  have e1 : (255 : Int32).toInt = 255 := rfl
  obtain ⟨k, hk⟩ : ∃ k : Nat, x.toInt = k := ⟨x.toInt.toNat, by omega⟩
  have hx : x = Int32.ofNat k := Int32.toInt_inj.mp (by rw [hk, Int32.toInt_ofNat_small (by omega)])
  rw [hx]
  exact t ⟨k, by omega⟩
end StrChars
namespace StrChars.Road
open Jvm Sem ClassFile Op Lib Jvm.Stand Jvm.Free Jvm.Free.XT
open Jvm.Lib.Cold (StaticIs)
abbrev ST : String := "java/lang/String"
/-- every table word that New1's law asks, flat -/
abbrev words : List Jvm.Cond := [.code New1.yN New1.yB 2 none, .initialized ST, .methodLink ST 27 New4.yN, .instanceMethod New4.yN,
  .code New4.yN New4.yB 6 none, .fieldLink ST 38 ST "COMPACT_STRINGS" "Z", .laysFinal ST ST "value" "[B", .fieldLink ST 9 ST "value" "[B", .laysFinal ST ST "coder" "B", .fieldLink ST 15 ST "coder" "B",
  .methodLink ST 1 Lib.objectInit, .instanceMethod Lib.objectInit, .code Lib.objectInit ⟨#[0xb1]⟩ 1 none, .methodLink ST 177 Cmp3.yN, .static Cmp3.yN, .methodLink ST 47 CodL.yN, .static CodL.yN,
  .code Cmp3.yN Cmp3.yB 6 (some (.array .byte)), .initialized U16, .arrayClass .byte, .methodLink U16 115 Cmp5.yN, .static Cmp5.yN, .code Cmp5.yN Cmp5.yB 7 (some .int), .code CodL.yN CodL.yB 2 (some .byte)]
theorem tab_of {a : Array Value} {s : State} (h : ∀ w ∈ words, w.before a s = true) : New1.tab.before a s = true := by
  have h5 : Cmp5.tab.before a s = true := unparts (wk h (.code Cmp5.yN Cmp5.yB 7 (some .int))) (wks h (.initialized Cmp5.yN.cls :: Cmp5.site))
  have hc : CodL.tab.before a s = true := unparts (wk h (.code CodL.yN CodL.yB 2 (some .byte))) (wks h (.initialized CodL.yN.cls :: CodL.site))
  have q5 : ∀ w ∈ Cmp5.tab :: words, w.before a s = true := fun w hw => (List.mem_cons.mp hw).elim (fun e => e ▸ h5) (h w)
  have h3 : Cmp3.tab.before a s = true := unparts (wk q5 (.code Cmp3.yN Cmp3.yB 6 (some (.array .byte)))) (wks q5 (.initialized Cmp3.yN.cls :: Cmp3.site))
  have q3 : ∀ w ∈ Cmp3.tab :: CodL.tab :: words, w.before a s = true := fun w hw => (List.mem_cons.mp hw).elim (fun e => e ▸ h3) fun hw => (List.mem_cons.mp hw).elim (fun e => e ▸ hc) (h w)
  have h4 : New4.tab.before a s = true := unparts (wk q3 (.code New4.yN New4.yB 6 none)) (wks q3 (.initialized New4.yN.cls :: New4.site))
  have q4 : ∀ w ∈ New4.tab :: words, w.before a s = true := fun w hw => (List.mem_cons.mp hw).elim (fun e => e ▸ h4) (h w)
  exact unparts (wk q4 (.code New1.yN New1.yB 2 none)) (wks q4 (.initialized New1.yN.cls :: New1.site))
/-- the words ride from the start Z to the walk's own state -/
theorem moved {Z s : State} {a0 args : Array Value} (hZ : Z.Warmed39 s.vm) (hw : ∀ d ∈ words, d.before a0 Z = true) : ∀ d ∈ words, d.before args s = true := fun d hd => by
  have q := hw d hd
  have t : ∀ d ∈ words, d = .arrayClass .byte ∨ (d.onTables && d.keepsFace) = true := by decide +kernel
  rcases t d hd with rfl | t
  · exact RoadKit.mvA hZ q
  · exact RoadKit.mv hZ q t
/-- WHAT COMES BACK, over the tables of the start Z: h the heap at the call, h' behind it -/
def Q (Z : State) (x : Addr) (A : Cell) (h : Heap) (v : Option Value) (h' : Heap) (L : List Loc) : Prop := v = none ∧ (∀ y ∈ L, y.base = x) ∧ RoadKit.Keep h h' [x] ∧ h'.size = h.size + 1 ∧ RoadKit.Exa Z h' x ST ∧ RoadKit.Fld Z h' x ST "value" "[B" (.ref h.size) ∧ RoadKit.Fld Z h' x ST "coder" "B" (.int 0) ∧
  (∃ V : Cell, RoadKit.Arr Z h' h.size V .byte ∧ V.vm = .none ∧ Z.vm.findClass "[B" = some V.cls ∧ V.slots.size = A.slots.size ∧ ∀ j, j < A.slots.size → V.slots[j]? = some (.int (lo8 (cv A j)))) ∧
  ∀ (O n d : String) (w : Value), RoadKit.Fld Z h x O n d w → RoadKit.slotOf Z O n d ≠ RoadKit.slotOf Z ST "value" "[B" → RoadKit.slotOf Z O n d ≠ RoadKit.slotOf Z ST "coder" "B" → RoadKit.Fld Z h' x O n d w
/-- **new String(chars) AT A CALL, IN THE ROAD'S FORM**: for specialBack behind newO: x the fresh String, b the char[] with the cell A -/
theorem back {p : Program} {l : Launch} {e : Env} {R : Room} {s : State} {args : Array Value} {below : List Frame} {len W : Nat} {Z : State} {a0 : Array Value} {h : Heap} (hZ : Z.Warmed39 s.vm) (hw : ∀ d ∈ words, d.before a0 Z = true) {kI : Nat} (wi : (Jvm.Cond.instantiable ST kI).before a0 Z = true)
    {x b : Addr} {A : Cell} {z : Int32} {v0 c0 : Value} (E : RoadKit.Exa Z h x ST) (V : RoadKit.Fld Z h x ST "value" "[B" v0) (C : RoadKit.Fld Z h x ST "coder" "B" c0) (K : RoadKit.Arr Z h b A .char) (hty : Typed .char A) (S : RoadKit.Sta Z h ST "COMPACT_STRINGS" "Z" (.int z)) (hz : ¬ z = 0)
    (l0 : 0 < A.slots.size) (l2 : A.slots.size ≤ 536870912) (hp : ∀ i, i < A.slots.size → ¬ 255 < cv A i) (hfr : 4 ≤ R.frames) (hlo : W + 65 ≤ R.locals) :
    Back l R p e below s args New1.yN len W (fun P a => a = #[.ref x, .ref b] ∧ P.U.heap = h ∧ P.cells + 1 ≤ R.cells ∧ P.slots + A.slots.size ≤ R.slots)
      (fun P _ v B => ∃ L, Q Z x A h v B.U.heap L ∧ B.locs = P.locs ++ L ∧ B.cells = P.cells + 1 ∧ B.slots = P.slots + A.slots.size) := by
  intro m meth c P g ig mk a X hg hsize hdg hW hn hp'
  obtain ⟨rfl, rfl, r1, r2⟩ := hp'
  have al : Z.vm.Alike P.U.vm := hZ.alike.trans X.warmed.alike
  obtain ⟨D, cfV, kV, iV, fV, hD, gV, stV, knV, obV, asV, slV⟩ := id V
  obtain ⟨D', cfC, kC, iC, fC, hD', gC, stC, -, -, asC, slC⟩ := id C
  cases hD.symm.trans hD'
  obtain ⟨D2, kD, e1, e2, e3, e4, e5⟩ := id E
  cases hD.symm.trans e1
  obtain ⟨c2, k2, i1, i2, i3, -⟩ := Cond.instantiable_spec wi
  cases e2.symm.trans i1
  cases e3.symm.trans i2
  obtain ⟨kU, u1, u2⟩ := al.2.2 _ _ e3
  have hB : Blank ST x D P.U := ⟨hD, ⟨knV, fun q hq => by rw [hq] at obV; cases obV⟩, by rw [al.findClass]; exact e2, kU, u1, by rw [u2]; exact i3, by rw [u2]; exact e5 i3⟩
  have F1 : Found ST "value" "[B" fV P.U := ⟨SBG.found_only al ⟨cfV, kV, iV, gV⟩, stV⟩
  have F2 : Found ST "coder" "B" fC P.U := ⟨SBG.found_only al ⟨cfC, kC, iC, gC⟩, stC⟩
  have hA : Ch b A P.U := ⟨⟨K.1, State.isArrayOf_alike al K.2.1, K.2.2, by omega⟩, hty⟩
  have hS : StaticIs P.U ST "COMPACT_STRINGS" "Z" (.int z) := by
    obtain ⟨cfS, iS, kS, fS, st, cS, t1, t2, t3, t4, t5, t6, t7⟩ := S
    exact StaticIs.there (s := { Z with heap := P.U.heap }) ⟨cfS, iS, kS, fS, st, cS, t1, t2, t3, t4, t5, (fun q => by rw [q] at t6; cases t6), t7⟩ al rfl
  obtain ⟨v, B, X', ⟨⟨hv, E', V', q1, q2, q3, q4, q5, q6, q7, q8, q9, q10, q11⟩, hl, hc, hs⟩, st⟩ := New1.pays x D fV fC b A z (tab_of (moved hZ hw)) hfr hlo m meth c P g ig mk _ X hg hsize hdg hW hn ⟨r1, r2, rfl, hB, F1, F2, hA, hS, hz, l0, l2, hp⟩
  have al' : Z.vm.Alike B.U.vm := hZ.alike.trans X'.warmed.alike
  have hsz : E'.slots.size = D.slots.size := by
    obtain ⟨-, -, -, kB, w1, w2, w3⟩ := q1
    obtain ⟨kB', y1, y2⟩ := al'.2.2 _ _ e3
    rw [q2.2.1] at w1
    cases w1.symm.trans y1
    rw [w3, e5 i3, y2]
  refine ⟨v, B, X', ⟨_, ⟨hv, ?_, ⟨by omega, fun y cy hy hn' => q10 y cy (by simpa using hn') hy, fun y cy hy => ?_⟩, q11, ⟨E', _, q1.1, by rw [q2.2.1]; exact e2, by rw [q2.2.1]; exact e3, by rw [q2.1]; exact obV, fun _ => by rw [hsz]; exact e5 i3⟩,
    ⟨E', cfV, kV, iV, fV, q1.1, gV, stV, by rw [q2.1]; exact knV, by rw [q2.1]; exact obV, by rw [q2.2.1]; exact asV, q3⟩, ⟨E', cfC, kC, iC, fC, q1.1, gC, stC, by rw [q2.1]; exact knV, by rw [q2.1]; exact obV, by rw [q2.2.1]; exact asC, q4⟩,
    ⟨V', ⟨q5.1, State.isArrayOf_alike al'.symm q5.2.1, q5.2.2.1⟩, q6, by rw [← al'.findClass]; exact q7, q8, fun j hj => by have := q9 j hj; rwa [Nat.zero_add] at this⟩, fun O n d w F n1 n2 => ?_⟩, hl, hc, hs⟩, st⟩
  · intro y hy
    simp only [List.mem_cons, List.not_mem_nil, or_false] at hy
    rcases hy with rfl | rfl <;> rfl
  · by_cases q : y = x
    · subst q
      cases hD.symm.trans hy
      exact ⟨E', q1.1, q2.2.1, q2.1, hsz⟩
    · exact ⟨cy, q10 y cy q hy, rfl, rfl, rfl⟩
  · obtain ⟨D3, cf, k, i, f, g1, g2, g3, g4, g5, g6, g7⟩ := F
    cases hD.symm.trans g1
    simp only [RoadKit.slotOf, g2, gV, gC, Option.map_some, Option.getD_some] at n1 n2
    exact ⟨E', cf, k, i, f, q1.1, g2, g3, by rw [q2.1]; exact g4, by rw [q2.1]; exact g5, by rw [q2.2.1]; exact g6, by rw [q2.2.2 f.slot (by simp [n1, n2])]; exact g7⟩
end StrChars.Road
namespace StrChars.Road
open Jvm Sem ClassFile Op Lib Jvm.Stand Jvm.Free Jvm.Free.XT
/-- WHAT COMES BACK, the byte[] as a list of values -/
def QA (Z : State) (x : Addr) (zn : Int32) (cs : List Int32) (h : Heap) (v : Option Value) (h' : Heap) (L : List Loc) : Prop := v = none ∧ (∀ y ∈ L, y.base = x) ∧ RoadKit.Keep h h' [x] ∧ h'.size = h.size + 1 ∧ RoadKit.Exa Z h' x ST ∧ RoadKit.Fld Z h' x ST "value" "[B" (.ref h.size) ∧ RoadKit.Fld Z h' x ST "coder" "B" (.int 0) ∧
  (∃ kb, Z.vm.findClass "[B" = some kb ∧ RoadKit.Arv Z h' h.size kb .byte zn (cs.map fun c => .int (lo8 c)) (.int 0)) ∧
  ∀ (O n d : String) (w : Value), RoadKit.Fld Z h x O n d w → RoadKit.slotOf Z O n d ≠ RoadKit.slotOf Z ST "value" "[B" → RoadKit.slotOf Z O n d ≠ RoadKit.slotOf Z ST "coder" "B" → RoadKit.Fld Z h' x O n d w
/-- **new String(chars) AT A CALL, THE ARRAYS AS LISTS**: the char[] at b holds cs, not empty, no char above 255 -/
theorem backArv {p : Program} {l : Launch} {e : Env} {R : Room} {s : State} {args : Array Value} {below : List Frame} {len W : Nat} {Z : State} {a0 : Array Value} {h : Heap} (hZ : Z.Warmed39 s.vm) (hw : ∀ d ∈ words, d.before a0 Z = true) {kI : Nat} (wi : (Jvm.Cond.instantiable ST kI).before a0 Z = true)
    {x b : Addr} {k : ClassId} {zn z : Int32} {cs : List Int32} {dv v0 c0 : Value} (E : RoadKit.Exa Z h x ST) (V : RoadKit.Fld Z h x ST "value" "[B" v0) (C : RoadKit.Fld Z h x ST "coder" "B" c0) (K : RoadKit.Arv Z h b k .char zn (cs.map Value.int) dv) (S : RoadKit.Sta Z h ST "COMPACT_STRINGS" "Z" (.int z)) (hz : ¬ z = 0)
    (hlen : zn.toNatClampNeg = cs.length) (h0 : 0 < cs.length) (hbig : cs.length ≤ 536870912) (hall : ∀ c ∈ cs, ¬ 255 < c) (hfr : 4 ≤ R.frames) (hlo : W + 65 ≤ R.locals) :
    Back l R p e below s args New1.yN len W (fun P a => a = #[.ref x, .ref b] ∧ P.U.heap = h ∧ P.cells + 1 ≤ R.cells ∧ P.slots + cs.length ≤ R.slots)
      (fun P _ v B => ∃ L, QA Z x zn cs h v B.U.heap L ∧ B.locs = P.locs ++ L ∧ B.cells = P.cells + 1 ∧ B.slots = P.slots + cs.length) := by
  obtain ⟨A, K1, K2, K3, K4, K5, K6⟩ := K
  have e : A.slots.size = cs.length := K3.trans hlen
  have hat : ∀ (i : Nat) (hi : i < cs.length), A.slots[i]? = some (.int cs[i]) := fun i hi => by rw [K5 i (by omega)]; simp [List.getD_eq_getElem?_getD, hi]
  have hcv : ∀ (i : Nat) (hi : i < cs.length), cv A i = cs[i] := fun i hi => by unfold cv; rw [hat i hi]
  have hty : Typed .char A := fun i v hv => by
    have hi : i < A.slots.size := (Array.getElem?_eq_some_iff.mp hv).1
    have q := K5 i hi
    rw [hv] at q
    rw [Option.some.inj q]
    exact K6 i hi
  refine Back.mono (back hZ hw wi E V C K1 hty S hz (by omega) (by omega) (fun i hi => by rw [hcv i (by omega)]; exact hall _ (List.getElem_mem _)) hfr hlo) (fun P a hp => ⟨hp.1, hp.2.1, hp.2.2.1, by rw [e]; exact hp.2.2.2⟩) (fun P a v B hp hq => ?_)
  obtain ⟨L, ⟨q1, q2, q3, q4, q5, q6, q7, ⟨V', v1, v2, v3, v4, v5⟩, q9⟩, hl, hc, hs⟩ := hq
  refine ⟨L, ⟨q1, q2, q3, q4, q5, q6, q7, ⟨V'.cls, v3, V', v1, rfl, by rw [v4, e, hlen], K4, fun i hi => ?_, fun i hi => ?_⟩, q9⟩, hl, hc, by rw [hs, e]⟩
  · have hi' : i < cs.length := by omega
    rw [v5 i (by omega), hcv i hi']; simp [List.getD_eq_getElem?_getD, hi']
  · have hi' : i < cs.length := by omega
    simp only [List.getD_eq_getElem?_getD, List.getElem?_map, List.getElem?_eq_getElem hi', Option.map_some, Option.getD_some]
    exact fits_lo8 _
end StrChars.Road
namespace StrChars.Road
open Jvm Sem ClassFile Op Lib Jvm.Stand Jvm.Free Jvm.Free.XT
/-- WHAT COMES BACK, in the writer's own shape -/
def QV (Z : State) (x : Addr) (N : Int32) (bs : List Int32) (h : Heap) (n0 : Nat) (v : Option Value) (h' : Heap) (L : List Loc) : Prop := v = none ∧ RoadKit.Fr n0 L ∧ RoadKit.Keep h h' [x] ∧ RoadKit.Exa Z h' x ST ∧ RoadKit.Fld Z h' x ST "coder" "B" (.int 0) ∧
  ∃ (t : Addr) (kb : ClassId), n0 ≤ t ∧ h.size ≤ t ∧ ¬ t = x ∧ RoadKit.Fld Z h' x ST "value" "[B" (.ref t) ∧ RoadKit.Arv Z h' t kb .byte N (bs.map Value.int) (.int 0)
/-- **new String(chars) AT A CALL, FOR THE WRITER**: a char[] of n known ints, each 0 to 255 -/
theorem backV {p : Program} {l : Launch} {e : Env} {R : Room} {s : State} {args : Array Value} {below : List Frame} {len W : Nat} {Z : State} {a0 : Array Value} {h : Heap} (hZ : Z.Warmed39 s.vm) (hw : ∀ d ∈ words, d.before a0 Z = true) {kI : Nat} (wi : (Jvm.Cond.instantiable ST kI).before a0 Z = true)
    {x b : Addr} {kC : ClassId} {cs bs : List Int32} {d v0 c0 : Value} {z N : Int32} {n n0 : Nat} (hx0 : n0 ≤ x) (hh0 : n0 ≤ h.size) (E : RoadKit.Exa Z h x ST) (V : RoadKit.Fld Z h x ST "value" "[B" v0) (C : RoadKit.Fld Z h x ST "coder" "B" c0) (K : RoadKit.Arv Z h b kC .char N (cs.map Value.int) d) (S : RoadKit.Sta Z h ST "COMPACT_STRINGS" "Z" (.int z)) (hz : ¬ z = 0)
    (hn : cs.length = n) (hN : N = Int32.ofNat n) (l0 : 0 < n) (l2 : n ≤ 4000) (hp : ∀ c ∈ cs, ¬ c < 0 ∧ ¬ (255 : Int32) < c) (hb : bs = cs.map (fun c => c.toInt8.toInt32)) (hfr : 4 ≤ R.frames) (hlo : W + 65 ≤ R.locals) :
    Back l R p e below s args (⟨"java/lang/String", "<init>", "([C)V"⟩ : MethodName) len W (fun P a => a = #[.ref x, .ref b] ∧ P.U.heap = h ∧ P.cells + 1 ≤ R.cells ∧ P.slots + n ≤ R.slots)
      (fun P _ v B => ∃ L, QV Z x N bs h n0 v B.U.heap L ∧ B.locs = P.locs ++ L ∧ B.cells = P.cells + 1 ∧ B.slots = P.slots + n) := by
  subst hn hN hb
  refine Back.mono (backArv hZ hw wi E V C K S hz (n32 (by omega)) l0 (by omega) (fun c hc => (hp c hc).2) hfr hlo) (fun P a hp => hp) (fun P a v B hp hq => ?_)
  obtain ⟨L, ⟨q1, q2, q3, q4, q5, q6, q7, ⟨kb, v1, v2⟩, q9⟩, hl, hc, hs⟩ := hq
  exact ⟨L, ⟨q1, fun y hy => by rw [q2 y hy]; exact hx0, q3, q5, q7, h.size, kb, hh0, Nat.le_refl _, Nat.ne_of_gt E.lt, q6, by rw [List.map_map]; exact v2⟩, hl, hc, hs⟩
end StrChars.Road
namespace StrChars
open Jvm Sem ClassFile Op Lib Jvm.Stand Jvm.Free.XT Jvm.Free.ALB Jvm.Free.JM Jvm.Free
open Jvm.Lib.Cold (StaticIs)
def hi8 (x : Int32) : Int32 := lo8 (x >>> ((8 : Int32) &&& 31))
/-- what StringUTF16.getChar makes of two bytes -/
def pairCh (u v : Int32) : Int32 := (((u &&& 255) <<< ((0 : Int32) &&& 31)) ||| ((v &&& 255) <<< ((8 : Int32) &&& 31))).toUInt32.toUInt16.toUInt32.toInt32
theorem lo8_and (x : Int32) : (lo8 x &&& 255).toBitVec.toNat = x.toBitVec.toNat % 256 := by
  have h : (lo8 x).toBitVec = (x.toBitVec.signExtend 8).signExtend 32 := by rw [lo8, Int8.toBitVec_toInt32, Int32.toBitVec_toInt8]
  rw [Int32.toBitVec_and, BitVec.toNat_and, h]
  have e : ((x.toBitVec.signExtend 8).signExtend 32).toNat % 256 = x.toBitVec.toNat % 256 := by
    rw [BitVec.toNat_signExtend]
    have hlt := x.toBitVec.isLt
    simp only [BitVec.toNat_setWidth, BitVec.toNat_signExtend]
    split <;> split <;> omega
  rw [← e]
  exact Nat.and_two_pow_sub_one_eq_mod _ 8
theorem pair_says {c : Int32} (h0 : ¬ c < 0) (h1 : ¬ 65535 < c) : pairCh (lo8 c) (hi8 c) = c := by
  rw [Int32.lt_iff_toInt_lt] at h0 h1
  have e0 : (0 : Int32).toInt = 0 := rfl
  have e1 : (65535 : Int32).toInt = 65535 := rfl
  have hc : c.toInt = c.toBitVec.toNat := by
    have := c.toBitVec.isLt
    have e : c.toInt = c.toBitVec.toInt := rfl
    rw [e] at h0 h1
    rw [e]
    rw [BitVec.toInt_eq_toNat_cond] at h0 h1 ⊢
    split at h0 <;> split <;> omega
  have hn : c.toBitVec.toNat < 65536 := by omega
  have a1 := lo8_and c
  have a2 : (hi8 c &&& 255).toBitVec.toNat = c.toBitVec.toNat / 256 := by
    rw [hi8, lo8_and]
    have e : ((8 : Int32) &&& 31) = 8 := by decide
    rw [e, Int32.toBitVec_shiftRight]
    have e2 : ((8 : Int32).toBitVec.smod 32) = 8#32 := by decide
    rw [e2, BitVec.sshiftRight_eq', BitVec.toNat_sshiftRight_of_msb_false (by rw [BitVec.msb_eq_false_iff_two_mul_lt]; omega)]
    show c.toBitVec.toNat >>> 8 % 256 = _
    rw [Nat.shiftRight_eq_div_pow]
    omega
  unfold pairCh
  apply Int32.toBitVec_inj.mp
  apply BitVec.eq_of_toNat_eq
  have f0 : ((0 : Int32) &&& 31) = 0 := by decide
  have f8 : ((8 : Int32) &&& 31) = 8 := by decide
  rw [f0, f8]
  have g : (((lo8 c &&& 255) <<< (0 : Int32)) ||| ((hi8 c &&& 255) <<< (8 : Int32))).toBitVec.toNat = c.toBitVec.toNat := by
    rw [Int32.toBitVec_or, Int32.toBitVec_shiftLeft, Int32.toBitVec_shiftLeft]
    have s0 : ((0 : Int32).toBitVec.smod 32) = 0#32 := by decide
    have s8 : ((8 : Int32).toBitVec.smod 32) = 8#32 := by decide
    rw [s0, s8, BitVec.toNat_or]
    simp only [BitVec.shiftLeft_eq', BitVec.toNat_shiftLeft, a1, a2]
    show (c.toBitVec.toNat % 256) <<< 0 % 2 ^ 32 ||| (c.toBitVec.toNat / 256) <<< 8 % 2 ^ 32 = _
    rw [Nat.shiftLeft_zero, Nat.mod_eq_of_lt (show c.toBitVec.toNat % 256 < 2 ^ 32 by omega), Nat.mod_eq_of_lt (show (c.toBitVec.toNat / 256) <<< 8 < 2 ^ 32 by rw [Nat.shiftLeft_eq]; omega), Nat.or_comm, ← Nat.shiftLeft_add_eq_or_of_lt (by omega), Nat.shiftLeft_eq]
    omega
  show BitVec.toNat (((((lo8 c &&& 255) <<< (0 : Int32)) ||| ((hi8 c &&& 255) <<< (8 : Int32))).toBitVec.setWidth 16).setWidth 32) = _
  rw [BitVec.toNat_setWidth, BitVec.toNat_setWidth, g]
  omega
end StrChars
namespace StrChars
open Jvm Sem ClassFile Op Lib Jvm.Stand Jvm.Free.XT Jvm.Free.ALB Jvm.Free.JM Jvm.Free
open Jvm.Lib.Cold (StaticIs)
/-- the array's cell V codes the n chars f 0 .. f (n - 1) by the coder cd, as the JDK does: coder 1 just where some char is above 255 -/
def Cod (cd : Int32) (n : Nat) (f : Nat → Int32) (V : Cell) : Prop := (cd = 0 ∧ V.slots.size = n ∧ ∀ j, j < n → V.slots[j]? = some (.int (lo8 (f j))) ∧ ¬ 255 < f j) ∨ (cd = 1 ∧ V.slots.size = 2 * n ∧ (∀ j, j < n → V.slots[2 * j]? = some (.int (lo8 (f j))) ∧ V.slots[2 * j + 1]? = some (.int (hi8 (f j)))) ∧ ∃ j, j < n ∧ 255 < f j)
/-- **x is a String of the n chars f 0 .. f (n - 1)**, Latin-1 or UTF-16; its array at t has the cell V -/
def Txt (x t : Addr) (V : Cell) (cd : Int32) (n : Nat) (f : Nat → Int32) (U : State) : Prop := Exact "java/lang/String" x U ∧ Has x "java/lang/String" "value" "[B" (.ref t) U ∧ Has x "java/lang/String" "coder" "B" (.int cd) U ∧ XT.Arr .byte t V U ∧ Cod cd n f V ∧ ∀ j, j < n → ¬ f j < 0 ∧ ¬ 65535 < f j
theorem Txt.mv {x t : Addr} {V : Cell} {cd : Int32} {n : Nat} {f : Nat → Int32} {U U' : State} (h : Txt x t V cd n f U) (hal : U.vm.Alike U'.vm) (hh : U'.heap = U.heap) : Txt x t V cd n f U' := ⟨h.1.mv hal hh, h.2.1.mv hal hh, h.2.2.1.mv hal hh, h.2.2.2.1.mv hal hh, h.2.2.2.2⟩
end StrChars
namespace StrChars.Road
open Jvm Sem ClassFile Op Lib Jvm.Stand Jvm.Free Jvm.Free.XT
open Jvm.Lib.Cold (StaticIs)
theorem consq {a : Array Value} {s : State} {c : Jvm.Cond} {L : List Jvm.Cond} (h0 : c.before a s = true) (h : ∀ w ∈ L, w.before a s = true) : ∀ w ∈ c :: L, w.before a s = true := fun w hw => (List.mem_cons.mp hw).elim (fun e => e ▸ h0) (h w)
/-- the bytes of the chars cs, low before high -/
def wideBytes : List Int32 → List Value
  | [] => []
  | c :: cs => .int (lo8 c) :: .int (hi8 c) :: wideBytes cs
theorem wide_lo (d : Value) : ∀ (cs : List Int32) (j : Nat), j < cs.length → (wideBytes cs).getD (2 * j) d = .int (lo8 (cs.getD j 0))
  | [], j, h => absurd h (Nat.not_lt_zero j)
  | c :: cs, 0, _ => rfl
  | c :: cs, j + 1, h => by
    have q := wide_lo d cs j (by simpa using h)
    rw [show 2 * (j + 1) = 2 * j + 1 + 1 from by omega]
    simpa [wideBytes] using q
theorem wide_hi (d : Value) : ∀ (cs : List Int32) (j : Nat), j < cs.length → (wideBytes cs).getD (2 * j + 1) d = .int (hi8 (cs.getD j 0))
  | [], j, h => absurd h (Nat.not_lt_zero j)
  | c :: cs, 0, _ => rfl
  | c :: cs, j + 1, h => by
    have q := wide_hi d cs j (by simpa using h)
    rw [show 2 * (j + 1) + 1 = 2 * j + 1 + 1 + 1 from by omega]
    simpa [wideBytes] using q
theorem low_at (d : Value) (cs : List Int32) (j : Nat) (h : j < cs.length) : (cs.map fun c => Value.int (lo8 c)).getD j d = .int (lo8 (cs.getD j 0)) := by
  simp [List.getD_eq_getElem?_getD, h]
/-- an array of N2 bytes vs codes the chars cs by the coder cd -/
def CodA (cs : List Int32) (cd N2 : Int32) (vs : List Value) : Prop := (cd = 0 ∧ N2 = Int32.ofNat cs.length ∧ vs = (cs.map fun c => Value.int (lo8 c)) ∧ ∀ c ∈ cs, ¬ 255 < c) ∨ (cd = 1 ∧ N2 = Int32.ofNat (2 * cs.length) ∧ vs = wideBytes cs ∧ ∃ c ∈ cs, 255 < c)
theorem CodA.cod {cs : List Int32} {cd N2 : Int32} {vs : List Value} {V : Cell} (h : CodA cs cd N2 vs) (hn : 2 * cs.length < 2 ^ 31) (hs : V.slots.size = N2.toNatClampNeg) (hv : RoadKit.Has V vs (.int 0)) : Cod cd cs.length (fun j => cs.getD j 0) V := by
  rcases h with ⟨rfl, rfl, rfl, h⟩ | ⟨rfl, rfl, rfl, c, hc, hw⟩
  · rw [n32 (by omega)] at hs
    exact Or.inl ⟨rfl, hs, fun j hj => ⟨by rw [hv j (by omega), low_at _ _ _ hj], by
      have e : cs.getD j 0 = cs[j] := by simp [List.getD_eq_getElem?_getD, hj]
      show ¬ 255 < cs.getD j 0
      rw [e]; exact h _ (List.getElem_mem _)⟩⟩
  · rw [n32 (by omega)] at hs
    obtain ⟨j, hj, rfl⟩ := List.getElem_of_mem hc
    exact Or.inr ⟨rfl, hs, fun j hj => ⟨by rw [hv _ (by omega), wide_lo _ _ _ hj], by rw [hv _ (by omega), wide_hi _ _ _ hj]⟩, j, hj, by
      have e : cs.getD j 0 = cs[j] := by simp [List.getD_eq_getElem?_getD, hj]
      show 255 < cs.getD j 0
      rw [e]; exact hw⟩
/-- an object of exactly java/lang/String, its two fields found: as the laws ask it -/
theorem strObj {Z U : State} {a0 : Array Value} {kI : Nat} (wi : (Jvm.Cond.instantiable ST kI).before a0 Z = true) (al : Z.vm.Alike U.vm) {x : Addr} {v0 c0 : Value} (E : RoadKit.Exa Z U.heap x ST) (V : RoadKit.Fld Z U.heap x ST "value" "[B" v0) (C : RoadKit.Fld Z U.heap x ST "coder" "B" c0) :
    ∃ (D : Cell) (fV fC : Field), Blank ST x D U ∧ Found ST "value" "[B" fV U ∧ Found ST "coder" "B" fC U ∧ D.slots[fV.slot]? = some v0 ∧ D.slots[fC.slot]? = some c0 ∧ RoadKit.slotOf Z ST "value" "[B" = fV.slot ∧ RoadKit.slotOf Z ST "coder" "B" = fC.slot := by
  obtain ⟨D, cfV, kV, iV, fV, hD, gV, stV, knV, obV, asV, slV⟩ := V
  obtain ⟨D', cfC, kC, iC, fC, hD', gC, stC, -, -, asC, slC⟩ := C
  cases hD.symm.trans hD'
  obtain ⟨D2, kD, e1, e2, e3, e4, e5⟩ := E
  cases hD.symm.trans e1
  obtain ⟨c2, k2, i1, i2, i3, -⟩ := Cond.instantiable_spec wi
  cases e2.symm.trans i1
  cases e3.symm.trans i2
  obtain ⟨kU, u1, u2⟩ := al.2.2 _ _ e3
  exact ⟨D, fV, fC, ⟨hD, ⟨knV, fun q hq => by rw [hq] at obV; cases obV⟩, by rw [al.findClass]; exact e2, kU, u1, by rw [u2]; exact i3, by rw [u2]; exact e5 i3⟩, ⟨SBG.found_only al ⟨cfV, kV, iV, gV⟩, stV⟩, ⟨SBG.found_only al ⟨cfC, kC, iC, gC⟩, stC⟩, slV, slC, by simp [RoadKit.slotOf, gV], by simp [RoadKit.slotOf, gC]⟩
theorem sta_is {Z U : State} (al : Z.vm.Alike U.vm) {C n d : String} {v : Value} (S : RoadKit.Sta Z U.heap C n d v) : StaticIs U C n d v := by
  obtain ⟨cfS, iS, kS, fS, st, cS, t1, t2, t3, t4, t5, t6, t7⟩ := S
  exact StaticIs.there (s := { Z with heap := U.heap }) ⟨cfS, iS, kS, fS, st, cS, t1, t2, t3, t4, t5, (fun q => by rw [q] at t6; cases t6), t7⟩ al rfl
end StrChars.Road
namespace StrChars
open Jvm Sem ClassFile Op Lib Jvm.Stand Jvm.Free.XT Jvm.Free.ALB Jvm.Free.JM Jvm.Free
open Jvm.Lib.Cold (StaticIs)
/-- what place i of a byte[]'s cell holds -/
def yv (A : Cell) (i : Nat) : Int32 := match A.slots[i]? with | some (.int x) => x | _ => 0
theorem yv_get {a : Addr} {A : Cell} {U : State} (h : XT.Arr .byte a A U) (ht : Typed .byte A) {i : Nat} (hi : i < A.slots.size) : A.slots[i]? = some (.int (yv A i)) := by
  have e := Array.getElem?_eq_getElem hi
  have f := ht i _ e
  unfold yv; rw [e]
  generalize A.slots[i] = v at f
  cases v <;> simp [fits] at f ⊢
/-- the two arrays are equal, place for place -/
def EqC (A B : Cell) : Prop := A.slots.size = B.slots.size ∧ ∀ i, i < A.slots.size → yv A i = yv B i
/-- a boolean that says whether p -/
def Says01 (q : Prop) (r : Option Value) (s u : State) : Prop := ∃ v : Int32, r = some (.int v) ∧ u.heap = s.heap ∧ ((v = 1 ∧ q) ∨ (v = 0 ∧ ¬ q))
theorem Says01.mv {q : Prop} : ∀ r (U U' V V' : State), U'.heap = U.heap → V.vm.Alike V'.vm → V'.heap = V.heap → Says01 q r U V → Says01 q r U' V' :=
  fun r U U' V V' h1 _ h2 ⟨v, a, b, c⟩ => ⟨v, a, by rw [h1, h2]; exact b, c⟩
namespace LEq
def yN : MethodName := ⟨"java/lang/StringLatin1", "equals", "([B[B)Z"⟩
abbrev yB : ByteArray := jdk_43_method_13_code
theorem d0 : decode yB 0 = .ok (.aload_n 0, 1) := by decide +kernel
theorem d1 : decode yB 1 = .ok (.arraylength, 1) := by decide +kernel
theorem d2 : decode yB 2 = .ok (.aload_n 1, 1) := by decide +kernel
theorem d3 : decode yB 3 = .ok (.arraylength, 1) := by decide +kernel
theorem d4 : decode yB 4 = .ok (.if_icmp (.ne) 30, 3) := by decide +kernel
theorem d7 : decode yB 7 = .ok (.iconst 0, 1) := by decide +kernel
theorem d8 : decode yB 8 = .ok (.istore_n 2, 1) := by decide +kernel
theorem d9 : decode yB 9 = .ok (.iload_n 2, 1) := by decide +kernel
theorem d10 : decode yB 10 = .ok (.aload_n 0, 1) := by decide +kernel
theorem d11 : decode yB 11 = .ok (.arraylength, 1) := by decide +kernel
theorem d12 : decode yB 12 = .ok (.if_icmp (.ge) 20, 3) := by decide +kernel
theorem d15 : decode yB 15 = .ok (.aload_n 0, 1) := by decide +kernel
theorem d16 : decode yB 16 = .ok (.iload_n 2, 1) := by decide +kernel
theorem d17 : decode yB 17 = .ok (.baload, 1) := by decide +kernel
theorem d18 : decode yB 18 = .ok (.aload_n 1, 1) := by decide +kernel
theorem d19 : decode yB 19 = .ok (.iload_n 2, 1) := by decide +kernel
theorem d20 : decode yB 20 = .ok (.baload, 1) := by decide +kernel
theorem d21 : decode yB 21 = .ok (.if_icmp (.eq) 5, 3) := by decide +kernel
theorem d24 : decode yB 24 = .ok (.iconst 0, 1) := by decide +kernel
theorem d25 : decode yB 25 = .ok (.ireturn, 1) := by decide +kernel
theorem d26 : decode yB 26 = .ok (.iinc 2 1, 3) := by decide +kernel
theorem d29 : decode yB 29 = .ok (.goto (-20), 3) := by decide +kernel
theorem d32 : decode yB 32 = .ok (.iconst 1, 1) := by decide +kernel
theorem d33 : decode yB 33 = .ok (.ireturn, 1) := by decide +kernel
theorem d34 : decode yB 34 = .ok (.iconst 0, 1) := by decide +kernel
theorem d35 : decode yB 35 = .ok (.ireturn, 1) := by decide +kernel
def site : List Cond := []
def tab : Cond := tabOf yN yB 3 (some .boolean) site
def P (a : Addr) (A : Cell) (b : Addr) (B : Cell) (args : Array Value) (s : State) : Prop := args = #[.ref a, .ref b] ∧ XT.Arr .byte a A s ∧ Typed .byte A ∧ XT.Arr .byte b B s ∧ Typed .byte B
/-- whether two byte[] are equal, place for place -/
theorem law (l : Launch) (a : Addr) (A : Cell) (b : Addr) (B : Cell) : Law l yN 2 2 0 0 yB 3 (some .boolean) site (P a A b B) (Says01 (EqC A B)) [] 0 0 := by
  refine Law.of_walk (plainFor_of_name (by decide +kernel)) (by decide +kernel) (by decide +kernel) (by decide) (fun _ _ h => by rw [h.1]; rfl) (fun _ U U' hal hh h => ⟨h.1, h.2.1.mv hal hh, h.2.2.1, h.2.2.2.1.mv hal hh, h.2.2.2.2⟩) (fun r U U' V V' h1 hal h2 h => Says01.mv r U U' V V' h1 hal h2 h) ?_
  intro p e s m args below meth c s₁ X0 hexec hbytes hml hret hlk hnm hown hh0 W hP
  obtain ⟨rfl, hA, tA, hB, tB⟩ := hP
  have a31 := hA.2.2.2
  have b31 := hB.2.2.2
  have hA0 := hA.mv X0.warmed.alike hh0
  have hB0 := hB.mv X0.warmed.alike hh0
  have c1 : Steps p.tables e below (s₁.setTop (entryFrame m #[.ref a, .ref b] 3)) (s₁.setTop (mkF m 0 #[.val (.ref a), .val (.ref b), .unset] [])) := entry rfl
  have c2 : Steps p.tables e below (s₁.setTop (entryFrame m #[.ref a, .ref b] 3)) (s₁.setTop (mkF m 4 #[.val (.ref a), .val (.ref b), .unset] [.int (Int32.ofNat B.slots.size), .int (Int32.ofNat A.slots.size)])) := c1.trans (by
    refine XS.aloadN X0.here hexec rfl (hb hbytes d0) rfl rfl ?_
    refine X0.alen hexec hA0 rfl rfl (hb hbytes d1) ?_
    refine XS.aloadN X0.here hexec rfl (hb hbytes d2) rfl rfl ?_
    refine X0.alen hexec hB0 rfl rfl (hb hbytes d3) ?_
    exact Steps.refl _)
  by_cases hs : A.slots.size = B.slots.size
  · have c3 : Steps p.tables e below (s₁.setTop (entryFrame m #[.ref a, .ref b] 3)) (s₁.setTop (mkF m 9 #[.val (.ref a), .val (.ref b), .val (.int 0)] [])) := c2.trans (by
      refine XS.icmpNo X0.here hexec rfl (hb hbytes d4) rfl (ii_ne_f (by rw [hs])) ?_
      refine iconstV X0.here hexec rfl 0 (hb hbytes d7) (by decide) ?_
      refine XS.istoreN X0.here hexec rfl (hb hbytes d8) rfl rfl ?_
      exact Steps.refl _)
    have loop : ∀ (r i : Nat), i + r = A.slots.size → (∀ j, j < i → yv A j = yv B j) → Steps p.tables e below (s₁.setTop (entryFrame m #[.ref a, .ref b] 3)) (s₁.setTop (mkF m 9 #[.val (.ref a), .val (.ref b), .val (.int (Int32.ofNat i))] [])) → ∃ (pc : Nat) (Ls : Array Slot) (v : Int32), (pc = 25 ∨ pc = 33) ∧ ((v = 1 ∧ EqC A B) ∨ (v = 0 ∧ ¬ EqC A B)) ∧ Steps p.tables e below (s₁.setTop (entryFrame m #[.ref a, .ref b] 3)) (s₁.setTop (mkF m pc Ls [.int v])) := by
      intro r
      induction r with
      | zero =>
        intro i hi he cl
        exact ⟨33, _, 1, Or.inr rfl, Or.inl ⟨rfl, hs, fun j hj => he j (by omega)⟩, cl.trans (by
          refine XS.iloadN X0.here hexec rfl (hb hbytes d9) rfl ?_
          refine XS.aloadN X0.here hexec rfl (hb hbytes d10) rfl rfl ?_
          refine X0.alen hexec hA0 rfl rfl (hb hbytes d11) ?_
          refine XS.icmpYes X0.here hexec rfl (pc0 := 12) rfl (hb hbytes d12) rfl (ii_ge_t (nlt32 (by omega) (by omega))) (by decide) rfl ?_
          refine iconstV X0.here hexec rfl 1 (hb hbytes d32) (by decide) ?_
          exact Steps.refl _)⟩
      | succ r ih =>
        intro i hi he cl
        have c4 : Steps p.tables e below (s₁.setTop (entryFrame m #[.ref a, .ref b] 3)) (s₁.setTop (mkF m 21 #[.val (.ref a), .val (.ref b), .val (.int (Int32.ofNat i))] [.int (yv B i), .int (yv A i)])) := cl.trans (by
          refine XS.iloadN X0.here hexec rfl (hb hbytes d9) rfl ?_
          refine XS.aloadN X0.here hexec rfl (hb hbytes d10) rfl rfl ?_
          refine X0.alen hexec hA0 rfl rfl (hb hbytes d11) ?_
          refine XS.icmpNo X0.here hexec rfl (hb hbytes d12) rfl (ii_ge_f (lt32 (by omega) (by omega))) ?_
          refine XS.aloadN X0.here hexec rfl (hb hbytes d15) rfl rfl ?_
          refine XS.iloadN X0.here hexec rfl (hb hbytes d16) rfl ?_
          refine X0.aget hexec hA0 rfl (yv_get hA tA (i := i) (by omega)) rfl rfl (hb hbytes d17) ?_
          refine XS.aloadN X0.here hexec rfl (hb hbytes d18) rfl rfl ?_
          refine XS.iloadN X0.here hexec rfl (hb hbytes d19) rfl ?_
          refine X0.aget hexec hB0 rfl (yv_get hB tB (i := i) (by omega)) rfl rfl (hb hbytes d20) ?_
          exact Steps.refl _)
        by_cases hv : yv A i = yv B i
        · have c5 : Steps p.tables e below (s₁.setTop (entryFrame m #[.ref a, .ref b] 3)) (s₁.setTop (mkF m 9 #[.val (.ref a), .val (.ref b), .val (.int (Int32.ofNat i + 1))] [])) := c4.trans (by
            refine XS.icmpYes X0.here hexec rfl (pc0 := 21) rfl (hb hbytes d21) rfl (ii_eq_t hv) (by decide) rfl ?_
            refine iincV X0.here hexec rfl 1 (hb hbytes d26) (by decide) rfl rfl ?_
            refine XS.goto X0.here hexec rfl (pc0 := 29) rfl (hb hbytes d29) (by decide) rfl ?_
            exact Steps.refl _)
          rw [succ32] at c5
          exact ih (i + 1) (by omega) (fun j hj => by
            by_cases e : j = i
            · rw [e]; exact hv
            · exact he j (by omega)) c5
        · exact ⟨25, _, 0, Or.inl rfl, Or.inr ⟨rfl, fun q => hv (q.2 i (by omega))⟩, c4.trans (by
            refine XS.icmpNo X0.here hexec rfl (hb hbytes d21) rfl (ii_eq_f hv) ?_
            refine iconstV X0.here hexec rfl 0 (hb hbytes d24) (by decide) ?_
            exact Steps.refl _)⟩
    obtain ⟨pc, Ls, v, hpc, hv, cz⟩ := loop A.slots.size 0 (by omega) (fun j hj => absurd hj (Nat.not_lt_zero j)) c3
    have nv : narrow .boolean (.int v) = .int v := by rcases hv with ⟨rfl, -⟩ | ⟨rfl, -⟩ <;> rfl
    rcases hpc with rfl | rfl
    · exact ⟨s₁, some (.int v), _, _, _, X0, rfl, rfl, rfl, (fun h => by cases h), ⟨v, rfl, hh0, hv⟩, fun fs hl => cz.trans (X0.ireturnOut hexec hret nv (Or.inr (Or.inl rfl)) (hb hbytes d25) hl)⟩
    · exact ⟨s₁, some (.int v), _, _, _, X0, rfl, rfl, rfl, (fun h => by cases h), ⟨v, rfl, hh0, hv⟩, fun fs hl => cz.trans (X0.ireturnOut hexec hret nv (Or.inr (Or.inl rfl)) (hb hbytes d33) hl)⟩
  · have c3 : Steps p.tables e below (s₁.setTop (entryFrame m #[.ref a, .ref b] 3)) (s₁.setTop (mkF m 35 #[.val (.ref a), .val (.ref b), .unset] [.int 0])) := c2.trans (by
      refine XS.icmpYes X0.here hexec rfl (pc0 := 4) rfl (hb hbytes d4) rfl (ii_ne_t (ne32 a31 b31 hs)) (by decide) rfl ?_
      refine iconstV X0.here hexec rfl 0 (hb hbytes d34) (by decide) ?_
      exact Steps.refl _)
    exact ⟨s₁, some (.int 0), _, _, _, X0, rfl, rfl, rfl, (fun h => by cases h), ⟨0, rfl, hh0, Or.inr ⟨rfl, fun q => hs q.1⟩⟩, fun fs hl => c3.trans (X0.ireturnOut hexec hret rfl (Or.inr (Or.inl rfl)) (hb hbytes d35) hl)⟩
end LEq
theorem Cod.ty {cd : Int32} {n : Nat} {f : Nat → Int32} {V : Cell} (h : Cod cd n f V) : Typed .byte V := fun i v hv => by
  have hi : i < V.slots.size := (Array.getElem?_eq_some_iff.mp hv).1
  rcases h with ⟨-, k1, k2⟩ | ⟨-, k1, k2, -⟩
  · rw [(k2 i (by omega)).1] at hv; cases hv; exact fits_lo8 _
  · rcases Nat.mod_two_eq_zero_or_one i with e | e
    · obtain ⟨j, rfl⟩ : ∃ j, i = 2 * j := ⟨i / 2, by omega⟩
      rw [(k2 j (by omega)).1] at hv; cases hv; exact fits_lo8 _
    · obtain ⟨j, rfl⟩ : ∃ j, i = 2 * j + 1 := ⟨i / 2, by omega⟩
      rw [(k2 j (by omega)).2] at hv; cases hv; exact fits_lo8 _
/-- the same text -/
def SameT (n : Nat) (f : Nat → Int32) (k : Nat) (g : Nat → Int32) : Prop := n = k ∧ ∀ j, j < n → f j = g j
theorem lo8_inj {x y : Int32} (h0 : ¬ x < 0) (h1 : ¬ 255 < x) (k0 : ¬ y < 0) (k1 : ¬ 255 < y) (h : lo8 x = lo8 y) : x = y := by
  rw [← lo8_mask h0 h1, ← lo8_mask k0 k1, h]
/-- arrays coded by one coder are equal just where the texts are -/
theorem Cod.eqv {cd : Int32} {n k : Nat} {f g : Nat → Int32} {V V' : Cell} (h : Cod cd n f V) (h' : Cod cd k g V') (hf : ∀ j, j < n → ¬ f j < 0 ∧ ¬ 65535 < f j) (hg : ∀ j, j < k → ¬ g j < 0 ∧ ¬ 65535 < g j) : EqC V V' ↔ SameT n f k g := by
  have yvv : ∀ {W : Cell} {i : Nat} {x : Int32}, W.slots[i]? = some (.int x) → yv W i = x := fun q => by unfold yv; rw [q]
  rcases h with ⟨rfl, k1, k2⟩ | ⟨rfl, k1, k2, -⟩
  · rcases h' with ⟨-, m1, m2⟩ | ⟨e, -⟩
    · constructor
      · rintro ⟨e1, e2⟩
        refine ⟨by omega, fun j hj => ?_⟩
        have q := e2 j (by omega)
        rw [yvv (k2 j hj).1, yvv (m2 j (by omega)).1] at q
        exact lo8_inj (hf j hj).1 (k2 j hj).2 (hg j (by omega)).1 (m2 j (by omega)).2 q
      · rintro ⟨rfl, e2⟩
        refine ⟨by omega, fun j hj => ?_⟩
        rw [yvv (k2 j (by omega)).1, yvv (m2 j (by omega)).1, e2 j (by omega)]
    · exact absurd e (by decide)
  · rcases h' with ⟨e, -⟩ | ⟨-, m1, m2, -⟩
    · exact absurd e (by decide)
    · constructor
      · rintro ⟨e1, e2⟩
        refine ⟨by omega, fun j hj => ?_⟩
        have q1 := e2 (2 * j) (by omega)
        have q2 := e2 (2 * j + 1) (by omega)
        rw [yvv (k2 j hj).1, yvv (m2 j (by omega)).1] at q1
        rw [yvv (k2 j hj).2, yvv (m2 j (by omega)).2] at q2
        rw [← pair_says (hf j hj).1 (hf j hj).2, ← pair_says (hg j (by omega)).1 (hg j (by omega)).2, q1, q2]
      · rintro ⟨rfl, e2⟩
        refine ⟨by omega, fun i hi => ?_⟩
        rcases Nat.mod_two_eq_zero_or_one i with e | e
        · obtain ⟨j, rfl⟩ : ∃ j, i = 2 * j := ⟨i / 2, by omega⟩
          rw [yvv (k2 j (by omega)).1, yvv (m2 j (by omega)).1, e2 j (by omega)]
        · obtain ⟨j, rfl⟩ : ∃ j, i = 2 * j + 1 := ⟨i / 2, by omega⟩
          rw [yvv (k2 j (by omega)).2, yvv (m2 j (by omega)).2, e2 j (by omega)]
/-- two codings differ: so do the texts -/
theorem Cod.dif {cd cd' : Int32} {n k : Nat} {f g : Nat → Int32} {V V' : Cell} (h : Cod cd n f V) (h' : Cod cd' k g V') (hne : ¬ cd = cd') : ¬ SameT n f k g := by
  rintro ⟨rfl, e⟩
  rcases h with ⟨rfl, -, k2⟩ | ⟨rfl, -, -, j, hj, hw⟩
  · rcases h' with ⟨rfl, -⟩ | ⟨-, -, -, j, hj, hw⟩
    · exact hne rfl
    · exact (k2 j hj).2 (by rw [e j hj]; exact hw)
  · rcases h' with ⟨-, -, m2⟩ | ⟨rfl, -⟩
    · exact (m2 j hj).2 (by rw [← e j hj]; exact hw)
    · exact hne rfl
/-- an object of exactly C is an instance of C -/
theorem cinst {p : Program} {l : Launch} {e : Env} {R : Room} {s : State} {m : MethodId} {args : Array Value} {below : List Frame} {meth : Method} {c : Code} {T : State} {locs : List Loc} {cells slots : Nat} (X : Stand p l e R s m args below meth c T locs cells slots) (hexec : p.tables.exec = Jvm.exec) {own C : String} {index : Nat} (hown : s.vm.findClass own = some m.cls) (hlink : (Cond.classLink own index C).before args s = true) {a : Addr} (hE : Exact C a T)
    {g : JFrame} (hg : g.method = m) {rest : List Value} (hstack : g.stack = .ref a :: rest) (hdg : decode c.code g.pc = .ok (.instanceof index, 3)) :
    ∃ T', Stand p l e R s m args below meth c T' locs cells slots ∧ T'.heap = T.heap ∧ ∀ target, Steps p.tables e below (T'.setTop { g with pc := g.pc + 3, stack := .int 1 :: rest }) target → Steps p.tables e below (T.setTop g) target := by
  obtain ⟨cB, h1, D, h2, h3, h4⟩ := hE
  have h1' : s.vm.findClass C = some cB := by rw [← X.warmed.alike.findClass]; exact h1
  obtain ⟨vm', X', st⟩ := X.instanceofYes hexec hown hlink h2 h4 h1' (by rw [h3]; exact Jvm.Free.SB.assignable_self _ _) hg hstack hdg
  exact ⟨_, X', rfl, st⟩
theorem cself {p : Program} {l : Launch} {e : Env} {R : Room} {s : State} {m : MethodId} {args : Array Value} {below : List Frame} {meth : Method} {c : Code} {T : State} {locs : List Loc} {cells slots : Nat} (X : Stand p l e R s m args below meth c T locs cells slots) (hexec : p.tables.exec = Jvm.exec) {own C : String} {index : Nat} (hown : s.vm.findClass own = some m.cls) (hlink : (Cond.classLink own index C).before args s = true) {a : Addr} (hE : Exact C a T)
    {g : JFrame} (hg : g.method = m) {rest : List Value} (hstack : g.stack = .ref a :: rest) (hdg : decode c.code g.pc = .ok (.checkcast index, 3)) :
    ∃ T', Stand p l e R s m args below meth c T' locs cells slots ∧ T'.heap = T.heap ∧ ∀ target, Steps p.tables e below (T'.setTop { g with pc := g.pc + 3, stack := .ref a :: rest }) target → Steps p.tables e below (T.setTop g) target := by
  obtain ⟨cB, h1, D, h2, h3, h4⟩ := hE
  have h1' : s.vm.findClass C = some cB := by rw [← X.warmed.alike.findClass]; exact h1
  obtain ⟨vm', X', st⟩ := X.checkcastYes hexec hown hlink h2 h4 h1' (by rw [h3]; exact Jvm.Free.SB.assignable_self _ _) hg hstack hdg
  exact ⟨_, X', rfl, fun t h => st t (by rw [← hstack] at h; exact h)⟩
namespace SEq
def yN : MethodName := ⟨"java/lang/String", "equals", "(Ljava/lang/Object;)Z"⟩
abbrev yB : ByteArray := jdk_42_method_66_code
theorem d0 : decode yB 0 = .ok (.aload_n 0, 1) := by decide +kernel
theorem d1 : decode yB 1 = .ok (.aload_n 1, 1) := by decide +kernel
theorem d2 : decode yB 2 = .ok (.if_acmp (.ne) 5, 3) := by decide +kernel
theorem d5 : decode yB 5 = .ok (.iconst 1, 1) := by decide +kernel
theorem d6 : decode yB 6 = .ok (.ireturn, 1) := by decide +kernel
theorem d7 : decode yB 7 = .ok (.aload_n 1, 1) := by decide +kernel
theorem d8 : decode yB 8 = .ok (.instanceof 10, 3) := by decide +kernel
theorem d11 : decode yB 11 = .ok (.ifCond (.eq) 43, 3) := by decide +kernel
theorem d14 : decode yB 14 = .ok (.aload_n 1, 1) := by decide +kernel
theorem d15 : decode yB 15 = .ok (.checkcast 10, 3) := by decide +kernel
theorem d18 : decode yB 18 = .ok (.astore_n 2, 1) := by decide +kernel
theorem d19 : decode yB 19 = .ok (.getstatic 38, 3) := by decide +kernel
theorem d22 : decode yB 22 = .ok (.ifCond (.eq) 14, 3) := by decide +kernel
theorem d25 : decode yB 25 = .ok (.aload_n 0, 1) := by decide +kernel
theorem d26 : decode yB 26 = .ok (.getfield 15, 3) := by decide +kernel
theorem d29 : decode yB 29 = .ok (.aload_n 2, 1) := by decide +kernel
theorem d30 : decode yB 30 = .ok (.getfield 15, 3) := by decide +kernel
theorem d33 : decode yB 33 = .ok (.if_icmp (.ne) 21, 3) := by decide +kernel
theorem d36 : decode yB 36 = .ok (.aload_n 0, 1) := by decide +kernel
theorem d37 : decode yB 37 = .ok (.getfield 9, 3) := by decide +kernel
theorem d40 : decode yB 40 = .ok (.aload_n 2, 1) := by decide +kernel
theorem d41 : decode yB 41 = .ok (.getfield 9, 3) := by decide +kernel
theorem d44 : decode yB 44 = .ok (.invokestatic 541, 3) := by decide +kernel
theorem d47 : decode yB 47 = .ok (.ifCond (.eq) 7, 3) := by decide +kernel
theorem d50 : decode yB 50 = .ok (.iconst 1, 1) := by decide +kernel
theorem d51 : decode yB 51 = .ok (.goto 4, 3) := by decide +kernel
theorem d54 : decode yB 54 = .ok (.iconst 0, 1) := by decide +kernel
theorem d55 : decode yB 55 = .ok (.ireturn, 1) := by decide +kernel
def site : List Cond := [.classLink "java/lang/String" 10 "java/lang/String", .fieldLink "java/lang/String" 38 "java/lang/String" "COMPACT_STRINGS" "Z", .fieldLink "java/lang/String" 15 "java/lang/String" "coder" "B", .fieldLink "java/lang/String" 9 "java/lang/String" "value" "[B", LEq.tab] ++ staticW "java/lang/String" 541 LEq.yN
def tab : Cond := tabOf yN yB 3 (some .boolean) site
def P (x t : Addr) (V : Cell) (cd : Int32) (n : Nat) (f : Nat → Int32) (y t' : Addr) (V' : Cell) (cd' : Int32) (k : Nat) (g : Nat → Int32) (z : Int32) (args : Array Value) (s : State) : Prop := args = #[.ref x, .ref y] ∧ Txt x t V cd n f s ∧ Txt y t' V' cd' k g s ∧ StaticIs s "java/lang/String" "COMPACT_STRINGS" "Z" (.int z) ∧ ¬ z = 0
/-- equals(Object) of two Strings: whether the texts are the same -/
theorem law (l : Launch) (x t : Addr) (V : Cell) (cd : Int32) (n : Nat) (f : Nat → Int32) (y t' : Addr) (V' : Cell) (cd' : Int32) (k : Nat) (g : Nat → Int32) (z : Int32) : Law l yN 2 1 1 14 yB 3 (some .boolean) site (P x t V cd n f y t' V' cd' k g z) (Says01 (SameT n f k g)) [] 0 0 := by
  refine Law.of_walk (plainFor_of_name (by decide +kernel)) (by decide +kernel) (by decide +kernel) (by decide) (fun _ _ h => by rw [h.1]; rfl) (fun _ U U' hal hh h => ⟨h.1, h.2.1.mv hal hh, h.2.2.1.mv hal hh, h.2.2.2.1.there hal hh, h.2.2.2.2⟩) (fun r U U' V V' h1 hal h2 h => Says01.mv r U U' V V' h1 hal h2 h) ?_
  intro p e s m args below meth c s₁ X0 hexec hbytes hml hret hlk hnm hown hh0 W hP
  obtain ⟨rfl, hx, hy, s1, hz⟩ := hP
  have c1 : Steps p.tables e below (s₁.setTop (entryFrame m #[.ref x, .ref y] 3)) (s₁.setTop (mkF m 2 #[.val (.ref x), .val (.ref y), .unset] [.ref y, .ref x])) := Steps.trans (entry rfl) (by
    show Steps p.tables e below (s₁.setTop (mkF m 0 #[.val (.ref x), .val (.ref y), .unset] [])) _
    refine XS.aloadN X0.here hexec rfl (hb hbytes d0) rfl rfl ?_
    refine XS.aloadN X0.here hexec rfl (hb hbytes d1) rfl rfl ?_
    exact Steps.refl _)
  by_cases hxy : x = y
  · have c2 : Steps p.tables e below (s₁.setTop (entryFrame m #[.ref x, .ref y] 3)) (s₁.setTop (mkF m 6 #[.val (.ref x), .val (.ref y), .unset] [.int 1])) := c1.trans (by
      refine acmpNo X0.here hexec rfl (hb hbytes d2) rfl rfl rfl (by simp [acmp, hxy]) ?_
      refine iconstV X0.here hexec rfl 1 (hb hbytes d5) (by decide) ?_
      exact Steps.refl _)
    subst hxy
    have ec : cd = cd' := by
      obtain ⟨D, fd, a1, a2, a3⟩ := hx.2.2.1
      obtain ⟨D', fd', b1, b2, b3⟩ := hy.2.2.1
      cases a1.symm.trans b1
      obtain ⟨q1, q2, q3, q4⟩ := a2.1
      obtain ⟨r1, r2, r3, r4⟩ := b2.1
      cases q4.symm.trans r4
      cases a3.symm.trans b3; rfl
    have et : t = t' := by
      obtain ⟨D, fd, a1, a2, a3⟩ := hx.2.1
      obtain ⟨D', fd', b1, b2, b3⟩ := hy.2.1
      cases a1.symm.trans b1
      obtain ⟨q1, q2, q3, q4⟩ := a2.1
      obtain ⟨r1, r2, r3, r4⟩ := b2.1
      cases q4.symm.trans r4
      cases a3.symm.trans b3; rfl
    subst ec et
    have ev : V = V' := by cases hx.2.2.2.1.1.symm.trans hy.2.2.2.1.1; rfl
    subst ev
    have hs : SameT n f k g := (Cod.eqv hx.2.2.2.2.1 hy.2.2.2.2.1 hx.2.2.2.2.2 hy.2.2.2.2.2).mp ⟨rfl, fun _ _ => rfl⟩
    exact ⟨s₁, some (.int 1), _, _, _, X0, rfl, rfl, rfl, (fun h => by cases h), ⟨1, rfl, hh0, Or.inl ⟨rfl, hs⟩⟩, fun fs hl => c2.trans (X0.ireturnOut hexec hret rfl (Or.inr (Or.inl rfl)) (hb hbytes d6) hl)⟩
  · have c2 : Steps p.tables e below (s₁.setTop (entryFrame m #[.ref x, .ref y] 3)) (s₁.setTop (mkF m 8 #[.val (.ref x), .val (.ref y), .unset] [.ref y])) := c1.trans (by
      refine acmpYes X0.here hexec rfl (pc0 := 2) rfl (hb hbytes d2) rfl rfl rfl (by simp [acmp, hxy]) (by decide) rfl ?_
      refine XS.aloadN X0.here hexec rfl (hb hbytes d7) rfl rfl ?_
      exact Steps.refl _)
    obtain ⟨T3, X3, q3, st3⟩ := cinst X0 hexec hown (wk W (.classLink "java/lang/String" 10 "java/lang/String")) (hy.mv X0.warmed.alike hh0).1 (g := (mkF m 8 #[.val (.ref x), .val (.ref y), .unset] [.ref y])) rfl (rest := []) rfl (hb hbytes d8)
    have hh3 := q3.trans hh0
    have c4 : Steps p.tables e below (s₁.setTop (entryFrame m #[.ref x, .ref y] 3)) (T3.setTop (mkF m 15 #[.val (.ref x), .val (.ref y), .unset] [.ref y])) := (c2.trans (st3 _ (Steps.refl _))).trans (by
      refine XS.ifNo X3.here hexec rfl (hb hbytes d11) rfl (i0_eq_f (by decide)) ?_
      refine XS.aloadN X3.here hexec rfl (hb hbytes d14) rfl rfl ?_
      exact Steps.refl _)
    obtain ⟨T5, X5, q5, st5⟩ := cself X3 hexec hown (wk W (.classLink "java/lang/String" 10 "java/lang/String")) (hy.mv X3.warmed.alike hh3).1 (g := (mkF m 15 #[.val (.ref x), .val (.ref y), .unset] [.ref y])) rfl (rest := []) rfl (hb hbytes d15)
    have hh5 := q5.trans hh3
    have c6 : Steps p.tables e below (s₁.setTop (entryFrame m #[.ref x, .ref y] 3)) (T5.setTop (mkF m 19 #[.val (.ref x), .val (.ref y), .val (.ref y)] [])) := (c4.trans (st5 _ (Steps.refl _))).trans (by
      refine XS.astoreN X5.here hexec rfl (hb hbytes d18) rfl rfl rfl ?_
      exact Steps.refl _)
    obtain ⟨T7, X7, q7, st7⟩ := X5.sget hexec hown (wk W (.fieldLink "java/lang/String" 38 "java/lang/String" "COMPACT_STRINGS" "Z")) s1 (fun _ _ h => by rw [hh5]; exact h) (g := (mkF m 19 #[.val (.ref x), .val (.ref y), .val (.ref y)] [])) rfl (hb hbytes d19)
    have hh7 := q7.trans hh5
    have c8 : Steps p.tables e below (s₁.setTop (entryFrame m #[.ref x, .ref y] 3)) (T7.setTop (mkF m 26 #[.val (.ref x), .val (.ref y), .val (.ref y)] [.ref x])) := (c6.trans (st7 _ (Steps.refl _))).trans (by
      refine XS.ifNo X7.here hexec rfl (hb hbytes d22) rfl (i0_eq_f hz) ?_
      refine XS.aloadN X7.here hexec rfl (hb hbytes d25) rfl rfl ?_
      exact Steps.refl _)
    obtain ⟨T9, X9, q9, st9⟩ := X7.hget hexec hown (wk W (.fieldLink "java/lang/String" 15 "java/lang/String" "coder" "B")) (hx.mv X7.warmed.alike hh7).2.2.1 (g := (mkF m 26 #[.val (.ref x), .val (.ref y), .val (.ref y)] [.ref x])) rfl (rest := []) rfl (hb hbytes d26)
    have hh9 := q9.trans hh7
    have c10 : Steps p.tables e below (s₁.setTop (entryFrame m #[.ref x, .ref y] 3)) (T9.setTop (mkF m 30 #[.val (.ref x), .val (.ref y), .val (.ref y)] [.ref y, .int cd])) := (c8.trans (st9 _ (Steps.refl _))).trans (by
      refine XS.aloadN X9.here hexec rfl (hb hbytes d29) rfl rfl ?_
      exact Steps.refl _)
    obtain ⟨T11, X11, q11, st11⟩ := X9.hget hexec hown (wk W (.fieldLink "java/lang/String" 15 "java/lang/String" "coder" "B")) (hy.mv X9.warmed.alike hh9).2.2.1 (g := (mkF m 30 #[.val (.ref x), .val (.ref y), .val (.ref y)] [.ref y, .int cd])) rfl (rest := [.int cd]) rfl (hb hbytes d30)
    have hh11 := q11.trans hh9
    have c12 : Steps p.tables e below (s₁.setTop (entryFrame m #[.ref x, .ref y] 3)) (T11.setTop (mkF m 33 #[.val (.ref x), .val (.ref y), .val (.ref y)] [.int cd', .int cd])) := c10.trans (st11 _ (Steps.refl _))
    by_cases hcd : cd = cd'
    · subst hcd
      have c13 : Steps p.tables e below (s₁.setTop (entryFrame m #[.ref x, .ref y] 3)) (T11.setTop (mkF m 37 #[.val (.ref x), .val (.ref y), .val (.ref y)] [.ref x])) := c12.trans (by
        refine XS.icmpNo X11.here hexec rfl (hb hbytes d33) rfl (ii_ne_f rfl) ?_
        refine XS.aloadN X11.here hexec rfl (hb hbytes d36) rfl rfl ?_
        exact Steps.refl _)
      obtain ⟨T14, X14, q14, st14⟩ := X11.hget hexec hown (wk W (.fieldLink "java/lang/String" 9 "java/lang/String" "value" "[B")) (hx.mv X11.warmed.alike hh11).2.1 (g := (mkF m 37 #[.val (.ref x), .val (.ref y), .val (.ref y)] [.ref x])) rfl (rest := []) rfl (hb hbytes d37)
      have hh14 := q14.trans hh11
      have c15 : Steps p.tables e below (s₁.setTop (entryFrame m #[.ref x, .ref y] 3)) (T14.setTop (mkF m 41 #[.val (.ref x), .val (.ref y), .val (.ref y)] [.ref y, .ref t])) := (c13.trans (st14 _ (Steps.refl _))).trans (by
        refine XS.aloadN X14.here hexec rfl (hb hbytes d40) rfl rfl ?_
        exact Steps.refl _)
      obtain ⟨T16, X16, q16, st16⟩ := X14.hget hexec hown (wk W (.fieldLink "java/lang/String" 9 "java/lang/String" "value" "[B")) (hy.mv X14.warmed.alike hh14).2.1 (g := (mkF m 41 #[.val (.ref x), .val (.ref y), .val (.ref y)] [.ref y, .ref t])) rfl (rest := [.ref t]) rfl (hb hbytes d41)
      have hh16 := q16.trans hh14
      have c17 : Steps p.tables e below (s₁.setTop (entryFrame m #[.ref x, .ref y] 3)) (T16.setTop (mkF m 44 #[.val (.ref x), .val (.ref y), .val (.ref y)] [.ref t', .ref t])) := c15.trans (st16 _ (Steps.refl _))
      obtain ⟨v18, T18, X18, E18, g18⟩ := X16.callS hexec (LEq.law l t V t' V') hown (wks W (staticW "java/lang/String" 541 LEq.yN)) (wk W LEq.tab) (W := 0) (Nat.le_of_ble_eq_true rfl) (Nat.le_of_ble_eq_true rfl) (Nat.le_refl _) (Nat.le_refl _) (g := (mkF m 44 #[.val (.ref x), .val (.ref y), .val (.ref y)] [.ref t', .ref t])) rfl (by rw [hml]; rfl) c17 (argsL := [.ref t, .ref t']) (rest := []) rfl rfl (by show 2 * 0 + 0 ≤ _; decide) (hb hbytes d44) (⟨rfl, hx.2.2.2.1.mv X16.warmed.alike hh16, hx.2.2.2.2.1.ty, hy.2.2.2.1.mv X16.warmed.alike hh16, hy.2.2.2.2.1.ty⟩)
      obtain ⟨v, rfl, q18, hv⟩ := E18
      have iff := Cod.eqv hx.2.2.2.2.1 hy.2.2.2.2.1 hx.2.2.2.2.2 hy.2.2.2.2.2
      rcases hv with ⟨rfl, he⟩ | ⟨rfl, he⟩
      · have c19 : Steps p.tables e below (s₁.setTop (entryFrame m #[.ref x, .ref y] 3)) (T18.setTop (mkF m 55 #[.val (.ref x), .val (.ref y), .val (.ref y)] [.int 1])) := Steps.trans g18 (by
          refine XS.ifNo X18.here hexec rfl (hb hbytes d47) rfl (i0_eq_f (by decide)) ?_
          refine iconstV X18.here hexec rfl 1 (hb hbytes d50) (by decide) ?_
          refine XS.goto X18.here hexec rfl (pc0 := 51) rfl (hb hbytes d51) (by decide) rfl ?_
          exact Steps.refl _)
        exact ⟨T18, some (.int 1), _, _, _, X18, rfl, rfl, rfl, (fun h => by cases h), ⟨1, rfl, q18.trans hh16, Or.inl ⟨rfl, iff.mp he⟩⟩, fun fs hl => c19.trans (X18.ireturnOut hexec hret rfl (Or.inr (Or.inl rfl)) (hb hbytes d55) hl)⟩
      · have c19 : Steps p.tables e below (s₁.setTop (entryFrame m #[.ref x, .ref y] 3)) (T18.setTop (mkF m 55 #[.val (.ref x), .val (.ref y), .val (.ref y)] [.int 0])) := Steps.trans g18 (by
          refine XS.ifYes X18.here hexec rfl (pc0 := 47) rfl (hb hbytes d47) rfl (i0_eq_t rfl) (by decide) rfl ?_
          refine iconstV X18.here hexec rfl 0 (hb hbytes d54) (by decide) ?_
          exact Steps.refl _)
        exact ⟨T18, some (.int 0), _, _, _, X18, rfl, rfl, rfl, (fun h => by cases h), ⟨0, rfl, q18.trans hh16, Or.inr ⟨rfl, fun q => he (iff.mpr q)⟩⟩, fun fs hl => c19.trans (X18.ireturnOut hexec hret rfl (Or.inr (Or.inl rfl)) (hb hbytes d55) hl)⟩
    · have c13 : Steps p.tables e below (s₁.setTop (entryFrame m #[.ref x, .ref y] 3)) (T11.setTop (mkF m 55 #[.val (.ref x), .val (.ref y), .val (.ref y)] [.int 0])) := c12.trans (by
        refine XS.icmpYes X11.here hexec rfl (pc0 := 33) rfl (hb hbytes d33) rfl (ii_ne_t hcd) (by decide) rfl ?_
        refine iconstV X11.here hexec rfl 0 (hb hbytes d54) (by decide) ?_
        exact Steps.refl _)
      exact ⟨T11, some (.int 0), _, _, _, X11, rfl, rfl, rfl, (fun h => by cases h), ⟨0, rfl, hh11, Or.inr ⟨rfl, Cod.dif hx.2.2.2.2.1 hy.2.2.2.2.1 hcd⟩⟩, fun fs hl => c13.trans (X11.ireturnOut hexec hret rfl (Or.inr (Or.inl rfl)) (hb hbytes d55) hl)⟩
theorem pays {l : Launch} {R : Room} {p : Program} {e : Env} {below : List Frame} {s : State} {sargs : Array Value} {len W : Nat} (x t : Addr) (V : Cell) (cd : Int32) (n : Nat) (f : Nat → Int32) (y t' : Addr) (V' : Cell) (cd' : Int32) (k : Nat) (g : Nat → Int32) (z : Int32) (htab : tab.before sargs s = true) (hfr : 2 ≤ R.frames) (hlo : W + 28 ≤ R.locals) :
    Back l R p e below s sargs yN len W (fun A₁ a₁ => A₁.cells + 0 ≤ R.cells ∧ A₁.slots + 0 ≤ R.slots ∧ P x t V cd n f y t' V' cd' k g z a₁ A₁.U) (fun A₁ _ v₁ B₁ => Says01 (SameT n f k g) v₁ A₁.U B₁.U ∧ B₁.locs = A₁.locs ++ [] ∧ B₁.cells = A₁.cells + 0 ∧ B₁.slots = A₁.slots + 0) :=
  (law l x t V cd n f y t' V' cd' k g z).pays htab hfr (by omega)
end SEq
end StrChars
namespace StrChars.Road
open Jvm Sem ClassFile Op Lib Jvm.Stand Jvm.Free Jvm.Free.XT
open Jvm.Lib.Cold (StaticIs)
/-- the words of String.equals(Object) -/
abbrev wordsEq : List Jvm.Cond := [.code SEq.yN SEq.yB 3 (some .boolean), .initialized ST, .classLink ST 10 ST, .fieldLink ST 38 ST "COMPACT_STRINGS" "Z", .fieldLink ST 15 ST "coder" "B", .fieldLink ST 9 ST "value" "[B", .methodLink ST 541 LEq.yN, .static LEq.yN, .code LEq.yN LEq.yB 3 (some .boolean), .initialized "java/lang/StringLatin1"]
theorem tabEq_of {a : Array Value} {s : State} (h : ∀ w ∈ wordsEq, w.before a s = true) : SEq.tab.before a s = true := by
  have hl : LEq.tab.before a s = true := unparts (wk h (.code LEq.yN LEq.yB 3 (some .boolean))) (wks h (.initialized LEq.yN.cls :: LEq.site))
  have q := consq hl h
  exact unparts (wk q (.code SEq.yN SEq.yB 3 (some .boolean))) (wks q (.initialized SEq.yN.cls :: SEq.site))
theorem movedEq {Z s : State} {a0 args : Array Value} (hZ : Z.Warmed39 s.vm) (hw : ∀ d ∈ wordsEq, d.before a0 Z = true) : ∀ d ∈ wordsEq, d.before args s = true := fun d hd => by
  have t : ∀ d ∈ wordsEq, (d.onTables && d.keepsFace) = true := by decide +kernel
  exact RoadKit.mv hZ (hw d hd) (t d hd)
/-- the road's facts of a String, as the laws ask it -/
theorem txt_of {Z U : State} {a0 : Array Value} {kI : Nat} (wi : (Jvm.Cond.instantiable ST kI).before a0 Z = true) (al : Z.vm.Alike U.vm) {x t : Addr} {kb : ClassId} {cs : List Int32} {cd N2 : Int32} {vs : List Value} (E : RoadKit.Exa Z U.heap x ST) (V : RoadKit.Fld Z U.heap x ST "value" "[B" (.ref t)) (C : RoadKit.Fld Z U.heap x ST "coder" "B" (.int cd)) (K : RoadKit.Arv Z U.heap t kb .byte N2 vs (.int 0)) (hc : CodA cs cd N2 vs) (hb : ∀ c ∈ cs, ¬ c < 0 ∧ ¬ (65535 : Int32) < c) (l2 : cs.length ≤ 4000) :
    ∃ A, Txt x t A cd cs.length (fun j => cs.getD j 0) U := by
  obtain ⟨A, K1, K2, K3, K4, K5, K6⟩ := K
  have hcod := hc.cod (by omega) K3 K5
  obtain ⟨D, fV, fC, hB, F1, F2, g1, g2, -, -⟩ := strObj wi al E V C
  exact ⟨A, ⟨_, hB.2.2.1, D, hB.1, rfl, by cases q : D.vm <;> first | rfl | exact absurd q (hB.2.1.2 _)⟩, Has.of hB F1 g1, Has.of hB F2 g2, ⟨K1.1, State.isArrayOf_alike al K1.2.1, K1.2.2, by rcases hcod with ⟨-, q, -⟩ | ⟨-, q, -⟩ <;> omega⟩, hcod, fun j hj => by
    have e : cs.getD j 0 = cs[j] := by simp [List.getD_eq_getElem?_getD, hj]
    show ¬ cs.getD j 0 < 0 ∧ ¬ 65535 < cs.getD j 0
    rw [e]; exact hb _ (List.getElem_mem _)⟩
theorem same_list (cs ds : List Int32) : SameT cs.length (fun j => cs.getD j 0) ds.length (fun j => ds.getD j 0) ↔ cs = ds := by
  constructor
  · rintro ⟨e, q⟩
    refine List.ext_getElem e fun j h1 h2 => ?_
    have := q j h1
    simpa [List.getD_eq_getElem?_getD, h1, h2] using this
  · rintro rfl
    exact ⟨rfl, fun _ _ => rfl⟩
/-- **equals(Object) OF TWO SUCH STRINGS**: 1 just where the chars are the same -/
theorem eqW {p : Program} {l : Launch} {e : Env} {R : Room} {s : State} {args : Array Value} {below : List Frame} {len W : Nat} {Z : State} {a0 : Array Value} {h : Heap} (hZ : Z.Warmed39 s.vm) (hw : ∀ d ∈ wordsEq, d.before a0 Z = true) {kI : Nat} (wi : (Jvm.Cond.instantiable ST kI).before a0 Z = true)
    {x t : Addr} {kb : ClassId} {cs : List Int32} {cd N2 : Int32} {vs : List Value} (E : RoadKit.Exa Z h x ST) (V : RoadKit.Fld Z h x ST "value" "[B" (.ref t)) (C : RoadKit.Fld Z h x ST "coder" "B" (.int cd)) (K : RoadKit.Arv Z h t kb .byte N2 vs (.int 0)) (hc : CodA cs cd N2 vs) (hb : ∀ c ∈ cs, ¬ c < 0 ∧ ¬ (65535 : Int32) < c) (l2 : cs.length ≤ 4000)
    {y t' : Addr} {kb' : ClassId} {ds : List Int32} {cd' N2' : Int32} {vs' : List Value} (E' : RoadKit.Exa Z h y ST) (V' : RoadKit.Fld Z h y ST "value" "[B" (.ref t')) (C' : RoadKit.Fld Z h y ST "coder" "B" (.int cd')) (K' : RoadKit.Arv Z h t' kb' .byte N2' vs' (.int 0)) (hc' : CodA ds cd' N2' vs') (hb' : ∀ c ∈ ds, ¬ c < 0 ∧ ¬ (65535 : Int32) < c) (l2' : ds.length ≤ 4000)
    {z : Int32} (S : RoadKit.Sta Z h ST "COMPACT_STRINGS" "Z" (.int z)) (hz : ¬ z = 0) (hfr : 2 ≤ R.frames) (hlo : W + 28 ≤ R.locals) :
    Back l R p e below s args (⟨"java/lang/String", "equals", "(Ljava/lang/Object;)Z"⟩ : MethodName) len W (fun P a => a = #[.ref x, .ref y] ∧ P.U.heap = h ∧ P.cells + 0 ≤ R.cells ∧ P.slots + 0 ≤ R.slots)
      (fun P _ v B => ∃ L, (((v = some (.int 1) ∧ cs = ds) ∨ (v = some (.int 0) ∧ ¬ cs = ds)) ∧ L = [] ∧ B.U.heap = h) ∧ B.locs = P.locs ++ L ∧ B.cells = P.cells + 0 ∧ B.slots = P.slots + 0) := by
  intro m meth c P g ig mk a X hg hsize hdg hW hn hp'
  obtain ⟨rfl, rfl, r1, r2⟩ := hp'
  have al : Z.vm.Alike P.U.vm := hZ.alike.trans X.warmed.alike
  obtain ⟨A, hx⟩ := txt_of wi al E V C K hc hb l2
  obtain ⟨A', hy⟩ := txt_of wi al E' V' C' K' hc' hb' l2'
  obtain ⟨v, B, X', ⟨⟨w, hv, hh, hq⟩, hl, hk, hs⟩, st⟩ := SEq.pays x t A cd cs.length (fun j => cs.getD j 0) y t' A' cd' ds.length (fun j => ds.getD j 0) z (tabEq_of (movedEq hZ hw)) hfr hlo m meth c P g ig mk _ X hg hsize hdg hW hn ⟨r1, r2, rfl, hx, hy, sta_is al S, hz⟩
  refine ⟨v, B, X', ⟨[], ⟨?_, rfl, hh⟩, hl, hk, hs⟩, st⟩
  rcases hq with ⟨rfl, q⟩ | ⟨rfl, q⟩
  · exact Or.inl ⟨hv, (same_list cs ds).mp q⟩
  · exact Or.inr ⟨hv, fun e => q ((same_list cs ds).mpr e)⟩
end StrChars.Road
namespace StrChars.Road
open Jvm Sem ClassFile Op Lib Jvm.Stand Jvm.Free Jvm.Free.XT
open Jvm.Lib.Cold (StaticIs)
/-- what backV says of its String, as the contracts of this text ask it: cs's low bytes, coder 0 -/
theorem codOf {cs : List Int32} {n : Nat} (hn : cs.length = n) (hb : ∀ c ∈ cs, ¬ 255 < c) : CodA cs 0 (Int32.ofNat n) ((cs.map lo8).map Value.int) := Or.inl ⟨rfl, by rw [hn], by simp [List.map_map, Function.comp_def], hb⟩
end StrChars.Road
end Jvm.Pilot.@@N@@
namespace Jvm.RoadKit
open Sem ClassFile Op Lib Jvm.Stand Jvm.Free Jvm.LawKit
section New
variable {p : Program} {l : Launch} {e : Env} {R : Room} {s : State} {m : MethodId} {args : Array Value} {below : List Frame} {meth : Method} {c : Code} {T : State} {locs : List Loc} {cells slots : Nat}
theorem retI (X : Stand p l e R s m args below meth c T locs cells slots) (hx : p.tables.exec = Jvm.exec) {pc : Nat} {Ls : Array Slot} {z : Int32} {rest : List Value} (hret : meth.sig.returnType = some .int) (hd : decode c.code pc = .ok (.ireturn, 1)) {fs : List Frame}
    (hl : ∀ (f : JFrame) (acts : List Action), f.method = m → f.locked = none → f.entered = [] → (doReturn e (T.setTop f) acts (some (.int z))).1 = T.setFrames fs) : Steps p.tables e below (T.setTop (mkF m pc Ls (.int z :: rest))) (T.setFrames fs) := by
  have hm' : T.vm.method? m = some meth := X.method'
  have hn : narrow .int (.int z) = .int z := rfl
  show Steps p.tables e below (T.setTop { method := m, pc := pc, locals := Ls, stack := _ :: rest, locked := none }) _
  jvm_step X.here [X.here.top, hx, hd, hm', hret, hn]
  first | (intro acts; rw [hl _ acts rfl rfl rfl]) | rw [hl _ _ rfl rfl rfl]
  exact Steps.refl _
end New
end Jvm.RoadKit
namespace Jvm.Pilot.@@N@@
open Jvm Jvm.ClassFile Sem Op Lib Jvm.Free Jvm.Stand Jvm.LawKit Jvm.RoadKit Bundle Jvm.Pilot.@@N@@.Jvm.D

/-! an int[] (a long[]) by its cell: n places, place j holds f j -/
def upd {α : Type} (f : Nat → α) (i : Nat) (v : α) : Nat → α := fun j => if j = i then v else f j
theorem upd_same {α : Type} (f : Nat → α) (i : Nat) (v : α) : upd f i v i = v := if_pos rfl
theorem upd_other {α : Type} (f : Nat → α) {i j : Nat} (v : α) (h : j ≠ i) : upd f i v j = f j := if_neg h
def ArI (Z : State) (h : Heap) (a : Addr) (n : Int32) (f : Nat → Int32) : Prop := ∃ c : Cell, Arr Z h a c .int ∧ c.slots.size = n.toNatClampNeg ∧ ∀ j, j < c.slots.size → c.slots[j]? = some (.int (f j))
def ArJ (Z : State) (h : Heap) (a : Addr) (n : Int32) (f : Nat → Int64) : Prop := ∃ c : Cell, Arr Z h a c .long ∧ c.slots.size = n.toNatClampNeg ∧ ∀ j, j < c.slots.size → c.slots[j]? = some (.long (f j))
section OwnArrays
variable {Z : State} {h h' : Heap} {a b : Addr} {n : Int32} {f : Nat → Int32} {g : Nat → Int64}
theorem ArI.lt (F : ArI Z h a n f) : a < h.size := by obtain ⟨c, A, -⟩ := F; exact A.lt
theorem ArJ.lt (F : ArJ Z h a n g) : a < h.size := by obtain ⟨c, A, -⟩ := F; exact A.lt
theorem ArI.ext (F : ArI Z h a n f) (E : Ext h h') : ArI Z h' a n f := by obtain ⟨c, A, r⟩ := F; exact ⟨c, A.ext E, r⟩
theorem ArJ.ext (F : ArJ Z h a n g) (E : Ext h h') : ArJ Z h' a n g := by obtain ⟨c, A, r⟩ := F; exact ⟨c, A.ext E, r⟩
theorem ArI.other {sl : Nat} {v : Value} (F : ArI Z h b n f) (W : Wr h h' a sl v) (q : b ≠ a) : ArI Z h' b n f := by obtain ⟨c, A, r⟩ := F; exact ⟨c, A.other W q, r⟩
theorem ArJ.other {sl : Nat} {v : Value} (F : ArJ Z h b n g) (W : Wr h h' a sl v) (q : b ≠ a) : ArJ Z h' b n g := by obtain ⟨c, A, r⟩ := F; exact ⟨c, A.other W q, r⟩
theorem ArI.keep {ws : List Addr} (F : ArI Z h a n f) (K : Keep h h' ws) (q : a ∉ ws) : ArI Z h' a n f := by obtain ⟨c, A, r⟩ := F; exact ⟨c, ⟨K.2.1 a c A.1 q, A.2⟩, r⟩
theorem ArJ.keep {ws : List Addr} (F : ArJ Z h a n g) (K : Keep h h' ws) (q : a ∉ ws) : ArJ Z h' a n g := by obtain ⟨c, A, r⟩ := F; exact ⟨c, ⟨K.2.1 a c A.1 q, A.2⟩, r⟩
theorem ArI.new {k : ClassId} (A : Arr Z h a (newA k .int n) .int) (q : ¬ n < 0) : ArI Z h a n (fun _ => 0) := by
  obtain ⟨c, A', -, s, -, H, -⟩ := Arv.new A q
  exact ⟨c, A', s, fun j hj => H j hj⟩
theorem ArJ.new {k : ClassId} (A : Arr Z h a (newA k .long n) .long) (q : ¬ n < 0) : ArJ Z h a n (fun _ => 0) := by
  obtain ⟨c, A', -, s, -, H, -⟩ := Arv.new A q
  exact ⟨c, A', s, fun j hj => H j hj⟩
theorem ArI.open {j : Int32} (F : ArI Z h a n f) (q : ¬ j < 0 ∧ j < n) : ∃ c : Cell, Arr Z h a c .int ∧ c.slots.size = n.toNatClampNeg ∧ ¬ (j < 0 ∨ c.slots.size ≤ j.toNatClampNeg) ∧ c.slots[j.toNatClampNeg]? = some (.int (f j.toNatClampNeg)) := by
  obtain ⟨c, A, s, H⟩ := F
  have hin := inb_of s q
  exact ⟨c, A, s, hin, H _ (Nat.lt_of_not_le fun y => hin (Or.inr y))⟩
theorem ArJ.open {j : Int32} (F : ArJ Z h a n g) (q : ¬ j < 0 ∧ j < n) : ∃ c : Cell, Arr Z h a c .long ∧ c.slots.size = n.toNatClampNeg ∧ ¬ (j < 0 ∨ c.slots.size ≤ j.toNatClampNeg) ∧ c.slots[j.toNatClampNeg]? = some (.long (g j.toNatClampNeg)) := by
  obtain ⟨c, A, s, H⟩ := F
  have hin := inb_of s q
  exact ⟨c, A, s, hin, H _ (Nat.lt_of_not_le fun y => hin (Or.inr y))⟩
theorem ArI.set {i : Nat} {x : Int32} (F : ArI Z h a n f) (W : Wr h h' a i (.int x)) : ArI Z h' a n (upd f i x) := by
  obtain ⟨c, A, s, H⟩ := F
  have A' := A.same W
  refine ⟨_, A', by rw [sz_set]; exact s, fun j hj => ?_⟩
  rw [sz_set] at hj
  show (c.slots.setIfInBounds i (.int x))[j]? = _
  rw [Array.getElem?_setIfInBounds]
  by_cases e : i = j
  · subst e; rw [if_pos rfl, if_pos hj, upd_same]
  · rw [if_neg e, upd_other _ _ (fun q => e q.symm)]; exact H j hj
theorem ArJ.set {i : Nat} {x : Int64} (F : ArJ Z h a n g) (W : Wr h h' a i (.long x)) : ArJ Z h' a n (upd g i x) := by
  obtain ⟨c, A, s, H⟩ := F
  have A' := A.same W
  refine ⟨_, A', by rw [sz_set]; exact s, fun j hj => ?_⟩
  rw [sz_set] at hj
  show (c.slots.setIfInBounds i (.long x))[j]? = _
  rw [Array.getElem?_setIfInBounds]
  by_cases e : i = j
  · subst e; rw [if_pos rfl, if_pos hj, upd_same]
  · rw [if_neg e, upd_other _ _ (fun q => e q.symm)]; exact H j hj
end OwnArrays
/-! an array of references by its cell: n places, place j holds f j; it may take objects of C -/
def ArR (Z : State) (h : Heap) (a : Addr) (k : ClassId) (C : String) (n : Int32) (f : Nat → Value) : Prop := True ∧ ∃ c : Cell, Arr Z h a c (.object C) ∧ c.cls = k ∧ c.slots.size = n.toNatClampNeg ∧ ∀ j, j < c.slots.size → c.slots[j]? = some (f j)
section OwnRefArrays
variable {Z : State} {h h' : Heap} {a b : Addr} {n : Int32} {k : ClassId} {C : String} {f : Nat → Value}
theorem ArR.lt (F : ArR Z h a k C n f) : a < h.size := by obtain ⟨-, c, A, -⟩ := F; exact A.lt
theorem ArR.ext (F : ArR Z h a k C n f) (E : Ext h h') : ArR Z h' a k C n f := by obtain ⟨o, c, A, r⟩ := F; exact ⟨o, c, A.ext E, r⟩
theorem ArR.other {sl : Nat} {v : Value} (F : ArR Z h b k C n f) (W : Wr h h' a sl v) (q : b ≠ a) : ArR Z h' b k C n f := by obtain ⟨o, c, A, r⟩ := F; exact ⟨o, c, A.other W q, r⟩
theorem ArR.keep {ws : List Addr} (F : ArR Z h a k C n f) (K : Keep h h' ws) (q : a ∉ ws) : ArR Z h' a k C n f := by obtain ⟨o, c, A, r⟩ := F; exact ⟨o, c, ⟨K.2.1 a c A.1 q, A.2⟩, r⟩
theorem ArR.open {j : Int32} (F : ArR Z h a k C n f) (q : ¬ j < 0 ∧ j < n) : ∃ c : Cell, Arr Z h a c (.object C) ∧ c.slots.size = n.toNatClampNeg ∧ ¬ (j < 0 ∨ c.slots.size ≤ j.toNatClampNeg) ∧ c.slots[j.toNatClampNeg]? = some (f j.toNatClampNeg) ∧ c.cls = k := by
  obtain ⟨-, c, A, hk, s, H⟩ := F
  have hin := inb_of s q
  exact ⟨c, A, s, hin, H _ (Nat.lt_of_not_le fun y => hin (Or.inr y)), hk⟩
theorem ArR.set {i : Nat} {x : Value} (F : ArR Z h a k C n f) (W : Wr h h' a i x) : ArR Z h' a k C n (upd f i x) := by
  obtain ⟨o, c, A, hk, s, H⟩ := F
  have A' := A.same W
  refine ⟨o, _, A', hk, by rw [sz_set]; exact s, fun j hj => ?_⟩
  rw [sz_set] at hj
  show (c.slots.setIfInBounds i x)[j]? = _
  rw [Array.getElem?_setIfInBounds]
  by_cases e : i = j
  · subst e; rw [if_pos rfl, if_pos hj, upd_same]
  · rw [if_neg e, upd_other _ _ (fun q => e q.symm)]; exact H j hj
theorem ArR.len (F : ArR Z h a k C n f) (q : ¬ n < 0) : ∃ c : Cell, Arr Z h a c (.object C) ∧ c.slots.size.toInt32 = n := by
  obtain ⟨o, c, A, hk, s, H⟩ := F
  exact ⟨c, A, len_of s q⟩
theorem ArI.len {g : Nat → Int32} (F : ArI Z h a n g) (q : ¬ n < 0) : ∃ c : Cell, Arr Z h a c .int ∧ c.slots.size.toInt32 = n := by
  obtain ⟨c, A, s, H⟩ := F
  exact ⟨c, A, len_of s q⟩
theorem ArJ.len {g : Nat → Int64} (F : ArJ Z h a n g) (q : ¬ n < 0) : ∃ c : Cell, Arr Z h a c .long ∧ c.slots.size.toInt32 = n := by
  obtain ⟨c, A, s, H⟩ := F
  exact ⟨c, A, len_of s q⟩
end OwnRefArrays
/-- an empty array of objects -/
def ArZ (Z : State) (h : Heap) (a : Addr) : Prop := ∃ c : Cell, Arr Z h a c (.object "java/lang/Object") ∧ c.slots.size = 0
theorem ArZ.ext {Z : State} {h h' : Heap} {a : Addr} (F : ArZ Z h a) (E : Ext h h') : ArZ Z h' a := by obtain ⟨c, A, r⟩ := F; exact ⟨c, A.ext E, r⟩
theorem ArZ.lt {Z : State} {h : Heap} {a : Addr} (F : ArZ Z h a) : a < h.size := by obtain ⟨c, A, r⟩ := F; exact A.lt
theorem ArZ.len {Z : State} {h : Heap} {a : Addr} (F : ArZ Z h a) (q : True) : ∃ c : Cell, Arr Z h a c (.object "java/lang/Object") ∧ c.slots.size.toInt32 = (0 : Int32) := by
  obtain ⟨c, A, r⟩ := F
  exact ⟨c, A, by rw [r]; rfl⟩
theorem own_len0 {args : Array Value} {s : State} {t : Term} {a : Addr} {c : Cell} (ev : t.eval args s none [] s = some (.ref a)) (A : Arr s s.heap a c (.object "java/lang/Object")) (h : (Jvm.Cond.eq (.length t) (.int 0)).value args s none s [] = some true) : c.slots.size = 0 := by
  have ha : s.arrayAt? a = some c := Arr.fin (Vm.Alike.refl _) A
  by_cases hl : c.slots.size < 2 ^ 31
  · have e1 : (Term.length t).eval args s none [] s = some (.int c.slots.size.toInt32) := len_f ev ha hl
    have e2 : (Term.int 0).eval args s none [] s = some (.int 0) := Term.int_eval 0
    have e3 : c.slots.size.toInt32 = 0 := by simpa [Cond.value, e1, e2] using h
    have e4 := len_toInt hl
    rw [e3] at e4
    have : (0 : Int32).toInt = 0 := rfl
    omega
  · have e1 : (Term.length t).eval args s none [] s = none := by simp [Term.eval, ev, ha, hl]
    simp [Cond.value, e1] at h
def ELs : List (String × Nat) := [("com/example/verschil/verschil/rrdp/FileKindOfRootPinLaw", 28), ("com/example/verschil/verschil/rrdp/FileKindOfRootPinLaw", 38), ("com/example/verschil/verschil/rrdp/FileKindOfRootPinLaw", 43), ("java/lang/String", 7)]
theorem own_EL {Z : State} {a0 : Array Value} (hw : ∀ d ∈ tables_1, d.before a0 Z = true) : EW Z a0 ELs := (EW.cons (hw _ (List.mem_of_getElem? (i := 38) rfl)) (by decide +kernel) (EW.cons (hw _ (List.mem_of_getElem? (i := 77) rfl)) (by decide +kernel) (EW.cons (hw _ (List.mem_of_getElem? (i := 78) rfl)) (by decide +kernel) (EW.cons (hw _ (List.mem_of_getElem? (i := 79) rfl)) (by decide +kernel) EW.nil))))
theorem own_str {Z : State} {a0 : Array Value} (hw : ∀ d ∈ tables_1, d.before a0 Z = true) : ∀ a ∈ Bundle.stringAtoms, a.before a0 Z = true := fun a ha => hw a ((by decide +kernel : ∀ a ∈ Bundle.stringAtoms, a ∈ tables_1) a ha)
/-- a String of known chars, each 0 to 255 -/
def Stx (Z : State) (h : Heap) (x : Addr) (cs : List Int32) : Prop := ∃ (t : Addr) (kb : ClassId), Exa Z h x "java/lang/String" ∧ Fld Z h x "java/lang/String" "value" "[B" (.ref t) ∧ Fld Z h x "java/lang/String" "coder" "B" (.int 0) ∧ Arv Z h t kb .byte (Int32.ofNat cs.length) ((cs.map (fun c => c.toInt8.toInt32)).map Value.int) (.int 0) ∧ (∀ c ∈ cs, ¬ c < 0 ∧ ¬ (255 : Int32) < c) ∧ cs.length ≤ 4000
theorem Stx.ext {Z : State} {h h' : Heap} {x : Addr} {cs : List Int32} (T : Stx Z h x cs) (E : Ext h h') : Stx Z h' x cs := by
  obtain ⟨t, kb, a, b, c, d, f, g⟩ := T; exact ⟨t, kb, a.ext E, b.ext E, c.ext E, d.ext E, f, g⟩
theorem Stx.keep {Z : State} {h h' : Heap} {x : Addr} {cs : List Int32} (T : Stx Z h x cs) (K : Keep h h' []) : Stx Z h' x cs := by
  obtain ⟨t, kb, a, b, c, d, f, g⟩ := T; exact ⟨t, kb, a.keep K, b.keep K nin0, c.keep K nin0, d.keep K nin0, f, g⟩
theorem own_up {cs : List Int32} (hp : ∀ c ∈ cs, ¬ c < 0 ∧ ¬ (255 : Int32) < c) : ∀ c ∈ cs, ¬ c < 0 ∧ ¬ (65535 : Int32) < c := fun c hc => ⟨(hp c hc).1, fun q => (hp c hc).2 (by
  rw [Int32.lt_iff_toInt_lt] at q ⊢; have e1 : (255 : Int32).toInt = 255 := rfl; have e2 : (65535 : Int32).toInt = 65535 := rfl; omega)⟩
theorem own_new {p : Program} {l : Launch} {e : Env} {R : Room} {s : State} {args : Array Value} {below : List Frame} {len W : Nat} {Z : State} {a0 : Array Value} {h : Heap} (hZ : Z.Warmed39 s.vm) (hw : ∀ d ∈ tables_1, d.before a0 Z = true)
    {x b : Addr} {kC : ClassId} {cs : List Int32} {d v0 c0 : Value} {z N : Int32} {n n0 : Nat} (hx0 : n0 ≤ x) (hh0 : n0 ≤ h.size) (E : Exa Z h x "java/lang/String") (V : Fld Z h x "java/lang/String" "value" "[B" v0) (C : Fld Z h x "java/lang/String" "coder" "B" c0) (K : Arv Z h b kC .char N (cs.map Value.int) d) (S : Sta Z h "java/lang/String" "COMPACT_STRINGS" "Z" (.int z)) (hz : ¬ z = 0)
    (hn : cs.length = n) (hN : N = Int32.ofNat n) (l0 : 0 < n) (l2 : n ≤ 4000) (hp : ∀ c ∈ cs, ¬ c < 0 ∧ ¬ (255 : Int32) < c) (hfr : 4 ≤ R.frames) (hlo : W + 65 ≤ R.locals) :
    Back l R p e below s args (⟨"java/lang/String", "<init>", "([C)V"⟩ : MethodName) len W (fun P a => a = #[.ref x, .ref b] ∧ P.U.heap = h ∧ P.cells + 1 ≤ R.cells ∧ P.slots + n ≤ R.slots)
      (fun P _ v B => ∃ L, (v = none ∧ Fr n0 L ∧ Keep h B.U.heap [x] ∧ Stx Z B.U.heap x cs) ∧ B.locs = P.locs ++ L ∧ B.cells = P.cells + 1 ∧ B.slots = P.slots + n) := by
  subst hn hN
  refine Back.mono (StrChars.Road.backV hZ (fun d hd => hw d ((by decide +kernel : ∀ d ∈ StrChars.Road.words, d ∈ tables_1) d hd)) (kI := 4) (hw _ (List.mem_of_getElem? (i := 7) rfl)) hx0 hh0 E V C K S hz rfl rfl l0 l2 hp rfl hfr hlo) (fun P a hp => hp) (fun P a v B hp' hq => ?_)
  obtain ⟨L, ⟨q1, q2, q3, q5, q7, t, kb, -, -, -, q6, q8⟩, hl, hc, hs⟩ := hq
  exact ⟨L, ⟨q1, q2, q3, t, kb, q5, q6, q7, q8, hp, l2⟩, hl, hc, hs⟩
theorem own_eqT {p : Program} {l : Launch} {e : Env} {R : Room} {s : State} {args : Array Value} {below : List Frame} {len W : Nat} {Z : State} {a0 : Array Value} {h : Heap} (hZ : Z.Warmed39 s.vm) (hw : ∀ d ∈ tables_1, d.before a0 Z = true) {x y : Addr} {cs ds : List Int32} {z : Int32} (T : Stx Z h x cs) (T' : Stx Z h y ds)
    (S : Sta Z h "java/lang/String" "COMPACT_STRINGS" "Z" (.int z)) (hz : ¬ z = 0) (he : cs = ds) (hfr : 2 ≤ R.frames) (hlo : W + 28 ≤ R.locals) :
    Back l R p e below s args (⟨"java/lang/String", "equals", "(Ljava/lang/Object;)Z"⟩ : MethodName) len W (fun P a => a = #[.ref x, .ref y] ∧ P.U.heap = h ∧ P.cells + 0 ≤ R.cells ∧ P.slots + 0 ≤ R.slots)
      (fun P _ v B => ∃ L, (v = some (.int 1) ∧ L = [] ∧ B.U.heap = h) ∧ B.locs = P.locs ++ L ∧ B.cells = P.cells + 0 ∧ B.slots = P.slots + 0) := by
  obtain ⟨t, kb, E, V, C, K, hp, l2⟩ := T
  obtain ⟨t', kb', E', V', C', K', hp', l2'⟩ := T'
  refine Back.mono (StrChars.Road.eqW hZ (fun d hd => hw d ((by decide +kernel : ∀ d ∈ StrChars.Road.wordsEq, d ∈ tables_1) d hd)) (kI := 4) (hw _ (List.mem_of_getElem? (i := 7) rfl)) E V C K (StrChars.Road.codOf rfl (fun c hc => (hp c hc).2)) (own_up hp) l2 E' V' C' K' (StrChars.Road.codOf rfl (fun c hc => (hp' c hc).2)) (own_up hp') l2' S hz hfr hlo) (fun P a hp => hp) (fun P a v B _ hq => ?_)
  obtain ⟨L, ⟨q, q1, q2⟩, r⟩ := hq
  rcases q with ⟨q, -⟩ | ⟨-, q⟩
  · exact ⟨L, ⟨q, q1, q2⟩, r⟩
  · exact absurd he q
theorem own_eqF {p : Program} {l : Launch} {e : Env} {R : Room} {s : State} {args : Array Value} {below : List Frame} {len W : Nat} {Z : State} {a0 : Array Value} {h : Heap} (hZ : Z.Warmed39 s.vm) (hw : ∀ d ∈ tables_1, d.before a0 Z = true) {x y : Addr} {cs ds : List Int32} {z : Int32} (T : Stx Z h x cs) (T' : Stx Z h y ds)
    (S : Sta Z h "java/lang/String" "COMPACT_STRINGS" "Z" (.int z)) (hz : ¬ z = 0) (he : ¬ cs = ds) (hfr : 2 ≤ R.frames) (hlo : W + 28 ≤ R.locals) :
    Back l R p e below s args (⟨"java/lang/String", "equals", "(Ljava/lang/Object;)Z"⟩ : MethodName) len W (fun P a => a = #[.ref x, .ref y] ∧ P.U.heap = h ∧ P.cells + 0 ≤ R.cells ∧ P.slots + 0 ≤ R.slots)
      (fun P _ v B => ∃ L, (v = some (.int 0) ∧ L = [] ∧ B.U.heap = h) ∧ B.locs = P.locs ++ L ∧ B.cells = P.cells + 0 ∧ B.slots = P.slots + 0) := by
  obtain ⟨t, kb, E, V, C, K, hp, l2⟩ := T
  obtain ⟨t', kb', E', V', C', K', hp', l2'⟩ := T'
  refine Back.mono (StrChars.Road.eqW hZ (fun d hd => hw d ((by decide +kernel : ∀ d ∈ StrChars.Road.wordsEq, d ∈ tables_1) d hd)) (kI := 4) (hw _ (List.mem_of_getElem? (i := 7) rfl)) E V C K (StrChars.Road.codOf rfl (fun c hc => (hp c hc).2)) (own_up hp) l2 E' V' C' K' (StrChars.Road.codOf rfl (fun c hc => (hp' c hc).2)) (own_up hp') l2' S hz hfr hlo) (fun P a hp => hp) (fun P a v B _ hq => ?_)
  obtain ⟨L, ⟨q, q1, q2⟩, r⟩ := hq
  rcases q with ⟨-, q⟩ | ⟨q, -⟩
  · exact absurd q he
  · exact ⟨L, ⟨q, q1, q2⟩, r⟩
theorem own_safe {Z : State} {EL : List (String × Nat)} {vm : Vm} {h : Heap} {x : Addr} (hal : Z.vm.Alike vm) (E : Exa Z h x "java/lang/String") (V : Fld Z h x "java/lang/String" "value" "[B" .null) : Safe Z EL vm h x := by
  rintro ⟨p, -, u, a, -, q, -, F, hx | hx⟩ <;> subst hx
  · obtain ⟨c2, cf, kf, i, f, v1, v2, -, -, -, -, v7⟩ := V
    have hc : c2 = q.sC := Option.some.inj (v1.symm.trans (show h[q.sa]? = some q.sC from F.ha))
    subst hc
    obtain ⟨cS, ⟨⟨-, -, -, ⟨c1, k1, i1, f1, -⟩, -, -, -, w1, -⟩, -⟩, -⟩ := F
    obtain ⟨k3, e3, -⟩ := State.fieldFound?_setVm (s := Z) hal v2
    have e4 := (show (Wst Z vm h).fieldFound? _ _ _ = _ from e3).symm.trans f1
    simp only [Option.some.injEq, Prod.mk.injEq] at e4
    rw [← e4.2.2.2, v7] at w1
    simp at w1
  · obtain ⟨cell, k, e1, e2, -⟩ := E
    have hc : cell = q.SA := Option.some.inj (e1.symm.trans (show h[q.sd]? = some q.SA from F.hd))
    obtain ⟨cS, -, -, f, -⟩ := F
    have f' : Z.vm.findClass "[B" = some cell.cls := by rw [← hal.findClass, hc]; exact f
    obtain ⟨k1, a1, b1⟩ := Vm.findClass_spec f'
    obtain ⟨k2, a2, b2⟩ := Vm.findClass_spec e2
    rw [Option.some.inj (a1.symm.trans a2)] at b1
    exact absurd (b1.symm.trans b2) (by decide)
theorem Arv.len {Z : State} {h : Heap} {a : Addr} {k : ClassId} {ty : FieldType} {n : Int32} {vs : List Value} {d : Value} (F : Arv Z h a k ty n vs d) (q : ¬ n < 0) : ∃ c : Cell, Arr Z h a c ty ∧ c.slots.size.toInt32 = n := by
  obtain ⟨c, A, -, s, -⟩ := F
  exact ⟨c, A, len_of s q⟩
theorem own_ix {j n : Int32} (h : ¬ j < 0 ∧ j < n) {k : Nat} (hk : n.toNatClampNeg ≤ k) : j.toNatClampNeg < k := by
  refine Nat.lt_of_lt_of_le ?_ hk
  rw [Int32.lt_iff_toInt_lt, Int32.lt_iff_toInt_lt] at h
  have e : (0 : Int32).toInt = 0 := rfl
  simp only [Int32.toNatClampNeg]
  omega
theorem ArR.fit {Z : State} {h : Heap} {a : Addr} {k : ClassId} {C : String} {n : Int32} {f : Nat → Value} (F : ArR Z h a k C n f) (hf : ∀ i, i < n.toNatClampNeg → (f i).isRef = true) : ∃ cl : Cell, Arr Z h a cl (.object C) ∧ FitC Z cl ∧ cl.slots.size = n.toNatClampNeg ∧ ∀ {h' : Heap} {b : Addr}, Arr Z h' b (cloneOf cl) (.object C) → ArR Z h' b k C n f := by
  obtain ⟨o, c, A, hk, s, H⟩ := F
  refine ⟨c, A, fitC_of A (fun i hi v hv => ?_), s, fun A' => ⟨o, _, A', hk, s, H⟩⟩
  rw [H i hi] at hv; cases hv
  have q := hf i (s ▸ hi)
  cases hv : f i <;> rw [hv] at q <;> first | rfl | cases q
theorem own_and (y : Int32) : ∃ k : Fin 256, y &&& (255 : Int32) = Int32.ofNat k.val := by
  have e : (y &&& (255 : Int32)).toInt = y.toInt % 2 ^ 8 := Jvm.Kit.i32_mask y 255 (k := 8) (by decide) (by decide)
  have b0 : 0 ≤ y.toInt % 2 ^ 8 ∧ y.toInt % 2 ^ 8 < 256 := by omega
  refine ⟨⟨(y.toInt % 2 ^ 8).toNat, by omega⟩, Int32.toInt_inj.mp ?_⟩
  rw [e, Int32.toInt_ofNat_small (by show (y.toInt % 2 ^ 8).toNat < _; omega)]
  show _ = (((y.toInt % 2 ^ 8).toNat : Nat) : Int)
  omega
theorem own_nar (x : Int32) : nar .char (x.toUInt32.toUInt16.toUInt32.toInt32) = x.toUInt32.toUInt16.toUInt32.toInt32 := by
  show (x.toUInt32.toUInt16.toUInt32.toInt32).toUInt32.toUInt16.toUInt32.toInt32 = _
  rw [UInt32.toUInt32_toInt32, UInt16.toUInt16_toUInt32]
theorem alI0 {P : Int32 → Prop} : ∀ x ∈ ([] : List Int32), P x := fun _ q => nomatch q
theorem alIS {P : Int32 → Prop} {y : Int32} {L : List Int32} (q : P y) (r : ∀ x ∈ L, P x) : ∀ x ∈ y :: L, P x := fun x z => (List.mem_cons.mp z).elim (fun u => u ▸ q) (r x)
theorem own_set {l : List Int32} {j : Nat} {v : Int32} (h : ∀ c ∈ l, ¬ c < 0 ∧ ¬ (255 : Int32) < c) (hv : ¬ v < 0 ∧ ¬ (255 : Int32) < v) : ∀ c ∈ l.set j v, ¬ c < 0 ∧ ¬ (255 : Int32) < c := fun c hc => by
  rcases List.mem_or_eq_of_mem_set hc with q | q
  · exact h c q
  · rw [q]; exact hv
theorem own_rem (p : Int32) {n : Int32} (hn : (0 : Int32) < n) : ¬ (p &&& (2147483647 : Int32)) % n < 0 ∧ (p &&& (2147483647 : Int32)) % n < n := by
  have e : (p &&& (2147483647 : Int32)).toInt = p.toInt % 2 ^ 31 := Jvm.Kit.i32_mask p 2147483647 (k := 31) (by decide) (by decide)
  have e0 : (0 : Int32).toInt = 0 := rfl
  have h0 : 0 ≤ (p &&& (2147483647 : Int32)).toInt := by omega
  have r : ((p &&& (2147483647 : Int32)) % n).toInt = (p &&& (2147483647 : Int32)).toInt % n.toInt := Jvm.Kit.i32_rem_nonneg h0
  rw [Int32.lt_iff_toInt_lt] at hn
  rw [Int32.lt_iff_toInt_lt, Int32.lt_iff_toInt_lt, r, e0]
  have hn' : 0 < n.toInt := by omega
  have a := Int.emod_nonneg (p &&& (2147483647 : Int32)).toInt (Int.ne_of_gt hn')
  have b := Int.emod_lt_of_pos (p &&& (2147483647 : Int32)).toInt hn'
  omega
theorem own_f3 {fv : Nat → Value} {a b c : Addr} (h0 : fv (0 : Int32).toNatClampNeg = .ref a) (h1 : fv (1 : Int32).toNatClampNeg = .ref b) (h2 : fv (2 : Int32).toNatClampNeg = .ref c) : ∀ i, i < (3 : Int32).toNatClampNeg → (fv i).isRef = true := fun i hi => by
  have h0 : fv 0 = .ref a := h0
  have h1 : fv 1 = .ref b := h1
  have h2 : fv 2 = .ref c := h2
  have hi : i < 3 := hi
  match i, hi with
  | 0, _ => rw [h0]; rfl
  | 1, _ => rw [h1]; rfl
  | 2, _ => rw [h2]; rfl
theorem own_t1 : ∀ k : Fin 256, ¬ nar .char ((Int32.ofNat k.val).toUInt32.toUInt16.toUInt32.toInt32) < 0 ∧ ¬ (255 : Int32) < nar .char ((Int32.ofNat k.val).toUInt32.toUInt16.toUInt32.toInt32) := by decide +kernel
theorem own_byt {y v : Int32} (h : v = ((y &&& (255 : Int32)).toUInt32.toUInt16.toUInt32.toInt32)) : ¬ nar .char v < 0 ∧ ¬ (255 : Int32) < nar .char v := by
  obtain ⟨k, hk⟩ := own_and y
  rw [h, hk]; exact own_t1 k

theorem own_fld {args : Array Value} {s : State} {t : Term} {a : Addr} {C n d : String} {k : Int32} (ev : t.eval args s none [] s = some (.ref a)) (h : (Jvm.Cond.eq (.field t C n d) (.int k)).value args s none s [] = some true) : s.fieldOf? a C n d = some (.int k) := by
  have e1 : (Term.field t C n d).eval args s none [] s = s.fieldOf? a C n d := fld_at ev
  have e2 : (Term.int k).eval args s none [] s = some (.int k) := Term.int_eval k
  cases hv : s.fieldOf? a C n d with
  | none => rw [hv] at e1; simp [Cond.value, e1] at h
  | some v =>
    rw [hv] at e1
    cases v <;> simp [Cond.value, e1, e2] at h
    rw [h]
theorem own_arr {args : Array Value} {s : State} {t : Term} {a : Addr} {c : Cell} {ty : FieldType} {z : Int32} (ev : t.eval args s none [] s = some (.ref a)) (A : Arr s s.heap a c ty) (h : (Jvm.Cond.eq (.length t) (.int z)).value args s none s [] = some true) : c.slots.size < 2 ^ 31 ∧ c.slots.size.toInt32 = z := by
  have ha : s.arrayAt? a = some c := Arr.fin (Vm.Alike.refl _) A
  by_cases hl : c.slots.size < 2 ^ 31
  · have e1 : (Term.length t).eval args s none [] s = some (.int c.slots.size.toInt32) := len_f ev ha hl
    have e2 : (Term.int z).eval args s none [] s = some (.int z) := Term.int_eval z
    exact ⟨hl, by simpa [Cond.value, e1, e2] using h⟩
  · have e1 : (Term.length t).eval args s none [] s = none := by simp [Term.eval, ev, ha, hl]
    simp [Cond.value, e1] at h
theorem own_sz {n : Nat} (h : n < 2 ^ 31 ∧ n.toInt32 = (3 : Int32)) : n = (3 : Int32).toNatClampNeg := by
  have e := len_toInt h.1
  rw [h.2] at e
  have : (3 : Int32).toInt = 3 := rfl
  show n = 3
  omega
theorem own_el {args : Array Value} {s : State} {t : Term} {a : Addr} {c : Cell} {ty : FieldType} {j x y : Int32} {i : Nat} (ev : t.eval args s none [] s = some (.ref a)) (A : Arr s s.heap a c ty) (hj : ¬ j < 0) (h : (Jvm.Cond.eq (.elem t (.int j)) (.int x)).value args s none s [] = some true) (hi : j.toNatClampNeg = i) (hy : x = y) : c.slots[i]? = some (.int y) := by
  subst hi hy
  have ha : s.arrayAt? a = some c := Arr.fin (Vm.Alike.refl _) A
  have e1 := elem_f (args := args) (first := s) (o := none) (idx := []) ev (Term.int_eval j) ha hj
  have e2 : (Term.int x).eval args s none [] s = some (.int x) := Term.int_eval x
  cases hv : c.slots[j.toNatClampNeg]? with
  | none => rw [hv] at e1; simp [Cond.value, e1] at h
  | some v =>
    rw [hv] at e1
    cases v <;> simp [Cond.value, e1, e2] at h
    rw [h]
theorem own_elr {args : Array Value} {s : State} {t u : Term} {a b : Addr} {c : Cell} {ty : FieldType} {j : Int32} (ev : t.eval args s none [] s = some (.ref a)) (A : Arr s s.heap a c ty) (hj : ¬ j < 0) (h : (Jvm.Cond.eq (.elem t (.int j)) u).value args s none s [] = some true) (e2 : u.eval args s none [] s = some (.ref b)) : c.slots[j.toNatClampNeg]? = some (.ref b) := by
  have ha : s.arrayAt? a = some c := Arr.fin (Vm.Alike.refl _) A
  have e1 := elem_f (args := args) (first := s) (o := none) (idx := []) ev (Term.int_eval j) ha hj
  cases hv : c.slots[j.toNatClampNeg]? with
  | none => rw [hv] at e1; simp [Cond.value, e1] at h
  | some v =>
    rw [hv] at e1
    cases v <;> simp [Cond.value, e1, e2] at h
    rw [h]
theorem own_perm : ∀ p ∈ ELs, p ∈ consts_1 := by decide +kernel

theorem d3_0 : decode jdk_42_method_149_code 0 = .ok (.aload_n 0, 1) := by decide +kernel
theorem d3_1 : decode jdk_42_method_149_code 1 = .ok (.invokespecial 1, 3) := by decide +kernel
theorem d3_4 : decode jdk_42_method_149_code 4 = .ok (.iload_n 3, 1) := by decide +kernel
theorem d3_5 : decode jdk_42_method_149_code 5 = .ok (.ifCond .ne 22, 3) := by decide +kernel
theorem d3_8 : decode jdk_42_method_149_code 8 = .ok (.aload_n 0, 1) := by decide +kernel
theorem d3_9 : decode jdk_42_method_149_code 9 = .ok (.ldc 7, 2) := by decide +kernel
theorem d3_11 : decode jdk_42_method_149_code 11 = .ok (.getfield 9, 3) := by decide +kernel
theorem d3_14 : decode jdk_42_method_149_code 14 = .ok (.putfield 9, 3) := by decide +kernel
theorem d3_17 : decode jdk_42_method_149_code 17 = .ok (.aload_n 0, 1) := by decide +kernel
theorem d3_18 : decode jdk_42_method_149_code 18 = .ok (.ldc 7, 2) := by decide +kernel
theorem d3_20 : decode jdk_42_method_149_code 20 = .ok (.getfield 15, 3) := by decide +kernel
theorem d3_23 : decode jdk_42_method_149_code 23 = .ok (.putfield 15, 3) := by decide +kernel
theorem d3_26 : decode jdk_42_method_149_code 26 = .ok (.return_, 1) := by decide +kernel
theorem d2_0 : decode jdk_42_method_3_code 0 = .ok (.aload_n 0, 1) := by decide +kernel
theorem d2_1 : decode jdk_42_method_3_code 1 = .ok (.aload_n 1, 1) := by decide +kernel
theorem d2_2 : decode jdk_42_method_3_code 2 = .ok (.iconst 0, 1) := by decide +kernel
theorem d2_3 : decode jdk_42_method_3_code 3 = .ok (.aload_n 1, 1) := by decide +kernel
theorem d2_4 : decode jdk_42_method_3_code 4 = .ok (.arraylength, 1) := by decide +kernel
theorem d2_5 : decode jdk_42_method_3_code 5 = .ok (.aconst_null, 1) := by decide +kernel
theorem d2_6 : decode jdk_42_method_3_code 6 = .ok (.invokespecial 27, 3) := by decide +kernel
theorem d2_9 : decode jdk_42_method_3_code 9 = .ok (.return_, 1) := by decide +kernel
theorem d1_0 : decode method_3_code 0 = .ok (.iload_n 0, 1) := by decide +kernel
theorem d1_1 : decode method_3_code 1 = .ok (.bipush 11, 2) := by decide +kernel
theorem d1_3 : decode method_3_code 3 = .ok (.if_icmp .ne 5, 3) := by decide +kernel
theorem d1_8 : decode method_3_code 8 = .ok (.iload_n 0, 1) := by decide +kernel
theorem d1_9 : decode method_3_code 9 = .ok (.ifCond .ne 78, 3) := by decide +kernel
theorem d1_12 : decode method_3_code 12 = .ok (.bipush 12, 2) := by decide +kernel
theorem d1_14 : decode method_3_code 14 = .ok (.newarray .char, 2) := by decide +kernel
theorem d1_16 : decode method_3_code 16 = .ok (.dup, 1) := by decide +kernel
theorem d1_17 : decode method_3_code 17 = .ok (.iconst 0, 1) := by decide +kernel
theorem d1_18 : decode method_3_code 18 = .ok (.bipush 110, 2) := by decide +kernel
theorem d1_20 : decode method_3_code 20 = .ok (.castore, 1) := by decide +kernel
theorem d1_21 : decode method_3_code 21 = .ok (.dup, 1) := by decide +kernel
theorem d1_22 : decode method_3_code 22 = .ok (.iconst 1, 1) := by decide +kernel
theorem d1_23 : decode method_3_code 23 = .ok (.bipush 111, 2) := by decide +kernel
theorem d1_25 : decode method_3_code 25 = .ok (.castore, 1) := by decide +kernel
theorem d1_26 : decode method_3_code 26 = .ok (.dup, 1) := by decide +kernel
theorem d1_27 : decode method_3_code 27 = .ok (.iconst 2, 1) := by decide +kernel
theorem d1_28 : decode method_3_code 28 = .ok (.bipush 116, 2) := by decide +kernel
theorem d1_30 : decode method_3_code 30 = .ok (.castore, 1) := by decide +kernel
theorem d1_31 : decode method_3_code 31 = .ok (.dup, 1) := by decide +kernel
theorem d1_32 : decode method_3_code 32 = .ok (.iconst 3, 1) := by decide +kernel
theorem d1_33 : decode method_3_code 33 = .ok (.bipush 105, 2) := by decide +kernel
theorem d1_35 : decode method_3_code 35 = .ok (.castore, 1) := by decide +kernel
theorem d1_36 : decode method_3_code 36 = .ok (.dup, 1) := by decide +kernel
theorem d1_37 : decode method_3_code 37 = .ok (.iconst 4, 1) := by decide +kernel
theorem d1_38 : decode method_3_code 38 = .ok (.bipush 102, 2) := by decide +kernel
theorem d1_40 : decode method_3_code 40 = .ok (.castore, 1) := by decide +kernel
theorem d1_41 : decode method_3_code 41 = .ok (.dup, 1) := by decide +kernel
theorem d1_42 : decode method_3_code 42 = .ok (.iconst 5, 1) := by decide +kernel
theorem d1_43 : decode method_3_code 43 = .ok (.bipush 105, 2) := by decide +kernel
theorem d1_45 : decode method_3_code 45 = .ok (.castore, 1) := by decide +kernel
theorem d1_46 : decode method_3_code 46 = .ok (.dup, 1) := by decide +kernel
theorem d1_47 : decode method_3_code 47 = .ok (.bipush 6, 2) := by decide +kernel
theorem d1_49 : decode method_3_code 49 = .ok (.bipush 99, 2) := by decide +kernel
theorem d1_51 : decode method_3_code 51 = .ok (.castore, 1) := by decide +kernel
theorem d1_52 : decode method_3_code 52 = .ok (.dup, 1) := by decide +kernel
theorem d1_53 : decode method_3_code 53 = .ok (.bipush 7, 2) := by decide +kernel
theorem d1_55 : decode method_3_code 55 = .ok (.bipush 97, 2) := by decide +kernel
theorem d1_57 : decode method_3_code 57 = .ok (.castore, 1) := by decide +kernel
theorem d1_58 : decode method_3_code 58 = .ok (.dup, 1) := by decide +kernel
theorem d1_59 : decode method_3_code 59 = .ok (.bipush 8, 2) := by decide +kernel
theorem d1_61 : decode method_3_code 61 = .ok (.bipush 116, 2) := by decide +kernel
theorem d1_63 : decode method_3_code 63 = .ok (.castore, 1) := by decide +kernel
theorem d1_64 : decode method_3_code 64 = .ok (.dup, 1) := by decide +kernel
theorem d1_65 : decode method_3_code 65 = .ok (.bipush 9, 2) := by decide +kernel
theorem d1_67 : decode method_3_code 67 = .ok (.bipush 105, 2) := by decide +kernel
theorem d1_69 : decode method_3_code 69 = .ok (.castore, 1) := by decide +kernel
theorem d1_70 : decode method_3_code 70 = .ok (.dup, 1) := by decide +kernel
theorem d1_71 : decode method_3_code 71 = .ok (.bipush 10, 2) := by decide +kernel
theorem d1_73 : decode method_3_code 73 = .ok (.bipush 111, 2) := by decide +kernel
theorem d1_75 : decode method_3_code 75 = .ok (.castore, 1) := by decide +kernel
theorem d1_76 : decode method_3_code 76 = .ok (.dup, 1) := by decide +kernel
theorem d1_77 : decode method_3_code 77 = .ok (.bipush 11, 2) := by decide +kernel
theorem d1_79 : decode method_3_code 79 = .ok (.bipush 110, 2) := by decide +kernel
theorem d1_81 : decode method_3_code 81 = .ok (.castore, 1) := by decide +kernel
theorem d1_82 : decode method_3_code 82 = .ok (.astore 5, 2) := by decide +kernel
theorem d1_84 : decode method_3_code 84 = .ok (.goto 474, 3) := by decide +kernel
theorem d1_558 : decode method_3_code 558 = .ok (.iload_n 2, 1) := by decide +kernel
theorem d1_559 : decode method_3_code 559 = .ok (.ifCond .eq 22, 3) := by decide +kernel
theorem d1_581 : decode method_3_code 581 = .ok (.new 23, 3) := by decide +kernel
theorem d1_584 : decode method_3_code 584 = .ok (.dup, 1) := by decide +kernel
theorem d1_585 : decode method_3_code 585 = .ok (.aload 5, 2) := by decide +kernel
theorem d1_587 : decode method_3_code 587 = .ok (.invokespecial 25, 3) := by decide +kernel
theorem d1_590 : decode method_3_code 590 = .ok (.areturn, 1) := by decide +kernel
theorem d1_562 : decode method_3_code 562 = .ok (.aload 5, 2) := by decide +kernel
theorem d1_564 : decode method_3_code 564 = .ok (.arraylength, 1) := by decide +kernel
theorem d1_565 : decode method_3_code 565 = .ok (.ifCond .le 16, 3) := by decide +kernel
theorem d1_568 : decode method_3_code 568 = .ok (.aload 5, 2) := by decide +kernel
theorem d1_570 : decode method_3_code 570 = .ok (.iload_n 1, 1) := by decide +kernel
theorem d1_571 : decode method_3_code 571 = .ok (.ldc 7, 2) := by decide +kernel
theorem d1_573 : decode method_3_code 573 = .ok (.iand, 1) := by decide +kernel
theorem d1_574 : decode method_3_code 574 = .ok (.aload 5, 2) := by decide +kernel
theorem d1_576 : decode method_3_code 576 = .ok (.arraylength, 1) := by decide +kernel
theorem d1_577 : decode method_3_code 577 = .ok (.irem, 1) := by decide +kernel
theorem d1_578 : decode method_3_code 578 = .ok (.iload 4, 2) := by decide +kernel
theorem d1_580 : decode method_3_code 580 = .ok (.castore, 1) := by decide +kernel
theorem d1_87 : decode method_3_code 87 = .ok (.iload_n 0, 1) := by decide +kernel
theorem d1_88 : decode method_3_code 88 = .ok (.iconst 1, 1) := by decide +kernel
theorem d1_89 : decode method_3_code 89 = .ok (.if_icmp .ne 54, 3) := by decide +kernel
theorem d1_92 : decode method_3_code 92 = .ok (.bipush 8, 2) := by decide +kernel
theorem d1_94 : decode method_3_code 94 = .ok (.newarray .char, 2) := by decide +kernel
theorem d1_96 : decode method_3_code 96 = .ok (.dup, 1) := by decide +kernel
theorem d1_97 : decode method_3_code 97 = .ok (.iconst 0, 1) := by decide +kernel
theorem d1_98 : decode method_3_code 98 = .ok (.bipush 115, 2) := by decide +kernel
theorem d1_100 : decode method_3_code 100 = .ok (.castore, 1) := by decide +kernel
theorem d1_101 : decode method_3_code 101 = .ok (.dup, 1) := by decide +kernel
theorem d1_102 : decode method_3_code 102 = .ok (.iconst 1, 1) := by decide +kernel
theorem d1_103 : decode method_3_code 103 = .ok (.bipush 110, 2) := by decide +kernel
theorem d1_105 : decode method_3_code 105 = .ok (.castore, 1) := by decide +kernel
theorem d1_106 : decode method_3_code 106 = .ok (.dup, 1) := by decide +kernel
theorem d1_107 : decode method_3_code 107 = .ok (.iconst 2, 1) := by decide +kernel
theorem d1_108 : decode method_3_code 108 = .ok (.bipush 97, 2) := by decide +kernel
theorem d1_110 : decode method_3_code 110 = .ok (.castore, 1) := by decide +kernel
theorem d1_111 : decode method_3_code 111 = .ok (.dup, 1) := by decide +kernel
theorem d1_112 : decode method_3_code 112 = .ok (.iconst 3, 1) := by decide +kernel
theorem d1_113 : decode method_3_code 113 = .ok (.bipush 112, 2) := by decide +kernel
theorem d1_115 : decode method_3_code 115 = .ok (.castore, 1) := by decide +kernel
theorem d1_116 : decode method_3_code 116 = .ok (.dup, 1) := by decide +kernel
theorem d1_117 : decode method_3_code 117 = .ok (.iconst 4, 1) := by decide +kernel
theorem d1_118 : decode method_3_code 118 = .ok (.bipush 115, 2) := by decide +kernel
theorem d1_120 : decode method_3_code 120 = .ok (.castore, 1) := by decide +kernel
theorem d1_121 : decode method_3_code 121 = .ok (.dup, 1) := by decide +kernel
theorem d1_122 : decode method_3_code 122 = .ok (.iconst 5, 1) := by decide +kernel
theorem d1_123 : decode method_3_code 123 = .ok (.bipush 104, 2) := by decide +kernel
theorem d1_125 : decode method_3_code 125 = .ok (.castore, 1) := by decide +kernel
theorem d1_126 : decode method_3_code 126 = .ok (.dup, 1) := by decide +kernel
theorem d1_127 : decode method_3_code 127 = .ok (.bipush 6, 2) := by decide +kernel
theorem d1_129 : decode method_3_code 129 = .ok (.bipush 111, 2) := by decide +kernel
theorem d1_131 : decode method_3_code 131 = .ok (.castore, 1) := by decide +kernel
theorem d1_132 : decode method_3_code 132 = .ok (.dup, 1) := by decide +kernel
theorem d1_133 : decode method_3_code 133 = .ok (.bipush 7, 2) := by decide +kernel
theorem d1_135 : decode method_3_code 135 = .ok (.bipush 116, 2) := by decide +kernel
theorem d1_137 : decode method_3_code 137 = .ok (.castore, 1) := by decide +kernel
theorem d1_138 : decode method_3_code 138 = .ok (.astore 5, 2) := by decide +kernel
theorem d1_140 : decode method_3_code 140 = .ok (.goto 418, 3) := by decide +kernel
theorem d1_143 : decode method_3_code 143 = .ok (.iload_n 0, 1) := by decide +kernel
theorem d1_144 : decode method_3_code 144 = .ok (.iconst 2, 1) := by decide +kernel
theorem d1_145 : decode method_3_code 145 = .ok (.if_icmp .ne 36, 3) := by decide +kernel
theorem d1_148 : decode method_3_code 148 = .ok (.iconst 5, 1) := by decide +kernel
theorem d1_149 : decode method_3_code 149 = .ok (.newarray .char, 2) := by decide +kernel
theorem d1_151 : decode method_3_code 151 = .ok (.dup, 1) := by decide +kernel
theorem d1_152 : decode method_3_code 152 = .ok (.iconst 0, 1) := by decide +kernel
theorem d1_153 : decode method_3_code 153 = .ok (.bipush 100, 2) := by decide +kernel
theorem d1_155 : decode method_3_code 155 = .ok (.castore, 1) := by decide +kernel
theorem d1_156 : decode method_3_code 156 = .ok (.dup, 1) := by decide +kernel
theorem d1_157 : decode method_3_code 157 = .ok (.iconst 1, 1) := by decide +kernel
theorem d1_158 : decode method_3_code 158 = .ok (.bipush 101, 2) := by decide +kernel
theorem d1_160 : decode method_3_code 160 = .ok (.castore, 1) := by decide +kernel
theorem d1_161 : decode method_3_code 161 = .ok (.dup, 1) := by decide +kernel
theorem d1_162 : decode method_3_code 162 = .ok (.iconst 2, 1) := by decide +kernel
theorem d1_163 : decode method_3_code 163 = .ok (.bipush 108, 2) := by decide +kernel
theorem d1_165 : decode method_3_code 165 = .ok (.castore, 1) := by decide +kernel
theorem d1_166 : decode method_3_code 166 = .ok (.dup, 1) := by decide +kernel
theorem d1_167 : decode method_3_code 167 = .ok (.iconst 3, 1) := by decide +kernel
theorem d1_168 : decode method_3_code 168 = .ok (.bipush 116, 2) := by decide +kernel
theorem d1_170 : decode method_3_code 170 = .ok (.castore, 1) := by decide +kernel
theorem d1_171 : decode method_3_code 171 = .ok (.dup, 1) := by decide +kernel
theorem d1_172 : decode method_3_code 172 = .ok (.iconst 4, 1) := by decide +kernel
theorem d1_173 : decode method_3_code 173 = .ok (.bipush 97, 2) := by decide +kernel
theorem d1_175 : decode method_3_code 175 = .ok (.castore, 1) := by decide +kernel
theorem d1_176 : decode method_3_code 176 = .ok (.astore 5, 2) := by decide +kernel
theorem d1_178 : decode method_3_code 178 = .ok (.goto 380, 3) := by decide +kernel
theorem d1_181 : decode method_3_code 181 = .ok (.iload_n 0, 1) := by decide +kernel
theorem d1_182 : decode method_3_code 182 = .ok (.iconst 3, 1) := by decide +kernel
theorem d1_183 : decode method_3_code 183 = .ok (.if_icmp .ne 83, 3) := by decide +kernel
theorem d1_186 : decode method_3_code 186 = .ok (.bipush 13, 2) := by decide +kernel
theorem d1_188 : decode method_3_code 188 = .ok (.newarray .char, 2) := by decide +kernel
theorem d1_190 : decode method_3_code 190 = .ok (.dup, 1) := by decide +kernel
theorem d1_191 : decode method_3_code 191 = .ok (.iconst 0, 1) := by decide +kernel
theorem d1_192 : decode method_3_code 192 = .ok (.bipush 110, 2) := by decide +kernel
theorem d1_194 : decode method_3_code 194 = .ok (.castore, 1) := by decide +kernel
theorem d1_195 : decode method_3_code 195 = .ok (.dup, 1) := by decide +kernel
theorem d1_196 : decode method_3_code 196 = .ok (.iconst 1, 1) := by decide +kernel
theorem d1_197 : decode method_3_code 197 = .ok (.bipush 111, 2) := by decide +kernel
theorem d1_199 : decode method_3_code 199 = .ok (.castore, 1) := by decide +kernel
theorem d1_200 : decode method_3_code 200 = .ok (.dup, 1) := by decide +kernel
theorem d1_201 : decode method_3_code 201 = .ok (.iconst 2, 1) := by decide +kernel
theorem d1_202 : decode method_3_code 202 = .ok (.bipush 116, 2) := by decide +kernel
theorem d1_204 : decode method_3_code 204 = .ok (.castore, 1) := by decide +kernel
theorem d1_205 : decode method_3_code 205 = .ok (.dup, 1) := by decide +kernel
theorem d1_206 : decode method_3_code 206 = .ok (.iconst 3, 1) := by decide +kernel
theorem d1_207 : decode method_3_code 207 = .ok (.bipush 105, 2) := by decide +kernel
theorem d1_209 : decode method_3_code 209 = .ok (.castore, 1) := by decide +kernel
theorem d1_210 : decode method_3_code 210 = .ok (.dup, 1) := by decide +kernel
theorem d1_211 : decode method_3_code 211 = .ok (.iconst 4, 1) := by decide +kernel
theorem d1_212 : decode method_3_code 212 = .ok (.bipush 102, 2) := by decide +kernel
theorem d1_214 : decode method_3_code 214 = .ok (.castore, 1) := by decide +kernel
theorem d1_215 : decode method_3_code 215 = .ok (.dup, 1) := by decide +kernel
theorem d1_216 : decode method_3_code 216 = .ok (.iconst 5, 1) := by decide +kernel
theorem d1_217 : decode method_3_code 217 = .ok (.bipush 105, 2) := by decide +kernel
theorem d1_219 : decode method_3_code 219 = .ok (.castore, 1) := by decide +kernel
theorem d1_220 : decode method_3_code 220 = .ok (.dup, 1) := by decide +kernel
theorem d1_221 : decode method_3_code 221 = .ok (.bipush 6, 2) := by decide +kernel
theorem d1_223 : decode method_3_code 223 = .ok (.bipush 99, 2) := by decide +kernel
theorem d1_225 : decode method_3_code 225 = .ok (.castore, 1) := by decide +kernel
theorem d1_226 : decode method_3_code 226 = .ok (.dup, 1) := by decide +kernel
theorem d1_227 : decode method_3_code 227 = .ok (.bipush 7, 2) := by decide +kernel
theorem d1_229 : decode method_3_code 229 = .ok (.bipush 97, 2) := by decide +kernel
theorem d1_231 : decode method_3_code 231 = .ok (.castore, 1) := by decide +kernel
theorem d1_232 : decode method_3_code 232 = .ok (.dup, 1) := by decide +kernel
theorem d1_233 : decode method_3_code 233 = .ok (.bipush 8, 2) := by decide +kernel
theorem d1_235 : decode method_3_code 235 = .ok (.bipush 116, 2) := by decide +kernel
theorem d1_237 : decode method_3_code 237 = .ok (.castore, 1) := by decide +kernel
theorem d1_238 : decode method_3_code 238 = .ok (.dup, 1) := by decide +kernel
theorem d1_239 : decode method_3_code 239 = .ok (.bipush 9, 2) := by decide +kernel
theorem d1_241 : decode method_3_code 241 = .ok (.bipush 105, 2) := by decide +kernel
theorem d1_243 : decode method_3_code 243 = .ok (.castore, 1) := by decide +kernel
theorem d1_244 : decode method_3_code 244 = .ok (.dup, 1) := by decide +kernel
theorem d1_245 : decode method_3_code 245 = .ok (.bipush 10, 2) := by decide +kernel
theorem d1_247 : decode method_3_code 247 = .ok (.bipush 111, 2) := by decide +kernel
theorem d1_249 : decode method_3_code 249 = .ok (.castore, 1) := by decide +kernel
theorem d1_250 : decode method_3_code 250 = .ok (.dup, 1) := by decide +kernel
theorem d1_251 : decode method_3_code 251 = .ok (.bipush 11, 2) := by decide +kernel
theorem d1_253 : decode method_3_code 253 = .ok (.bipush 110, 2) := by decide +kernel
theorem d1_255 : decode method_3_code 255 = .ok (.castore, 1) := by decide +kernel
theorem d1_256 : decode method_3_code 256 = .ok (.dup, 1) := by decide +kernel
theorem d1_257 : decode method_3_code 257 = .ok (.bipush 12, 2) := by decide +kernel
theorem d1_259 : decode method_3_code 259 = .ok (.iload_n 3, 1) := by decide +kernel
theorem d1_260 : decode method_3_code 260 = .ok (.castore, 1) := by decide +kernel
theorem d1_261 : decode method_3_code 261 = .ok (.astore 5, 2) := by decide +kernel
theorem d1_263 : decode method_3_code 263 = .ok (.goto 295, 3) := by decide +kernel
theorem d1_266 : decode method_3_code 266 = .ok (.iload_n 0, 1) := by decide +kernel
theorem d1_267 : decode method_3_code 267 = .ok (.iconst 4, 1) := by decide +kernel
theorem d1_268 : decode method_3_code 268 = .ok (.if_icmp .ne 59, 3) := by decide +kernel
theorem d1_271 : decode method_3_code 271 = .ok (.bipush 9, 2) := by decide +kernel
theorem d1_273 : decode method_3_code 273 = .ok (.newarray .char, 2) := by decide +kernel
theorem d1_275 : decode method_3_code 275 = .ok (.dup, 1) := by decide +kernel
theorem d1_276 : decode method_3_code 276 = .ok (.iconst 0, 1) := by decide +kernel
theorem d1_277 : decode method_3_code 277 = .ok (.bipush 115, 2) := by decide +kernel
theorem d1_279 : decode method_3_code 279 = .ok (.castore, 1) := by decide +kernel
theorem d1_280 : decode method_3_code 280 = .ok (.dup, 1) := by decide +kernel
theorem d1_281 : decode method_3_code 281 = .ok (.iconst 1, 1) := by decide +kernel
theorem d1_282 : decode method_3_code 282 = .ok (.bipush 110, 2) := by decide +kernel
theorem d1_284 : decode method_3_code 284 = .ok (.castore, 1) := by decide +kernel
theorem d1_285 : decode method_3_code 285 = .ok (.dup, 1) := by decide +kernel
theorem d1_286 : decode method_3_code 286 = .ok (.iconst 2, 1) := by decide +kernel
theorem d1_287 : decode method_3_code 287 = .ok (.bipush 97, 2) := by decide +kernel
theorem d1_289 : decode method_3_code 289 = .ok (.castore, 1) := by decide +kernel
theorem d1_290 : decode method_3_code 290 = .ok (.dup, 1) := by decide +kernel
theorem d1_291 : decode method_3_code 291 = .ok (.iconst 3, 1) := by decide +kernel
theorem d1_292 : decode method_3_code 292 = .ok (.bipush 112, 2) := by decide +kernel
theorem d1_294 : decode method_3_code 294 = .ok (.castore, 1) := by decide +kernel
theorem d1_295 : decode method_3_code 295 = .ok (.dup, 1) := by decide +kernel
theorem d1_296 : decode method_3_code 296 = .ok (.iconst 4, 1) := by decide +kernel
theorem d1_297 : decode method_3_code 297 = .ok (.bipush 115, 2) := by decide +kernel
theorem d1_299 : decode method_3_code 299 = .ok (.castore, 1) := by decide +kernel
theorem d1_300 : decode method_3_code 300 = .ok (.dup, 1) := by decide +kernel
theorem d1_301 : decode method_3_code 301 = .ok (.iconst 5, 1) := by decide +kernel
theorem d1_302 : decode method_3_code 302 = .ok (.bipush 104, 2) := by decide +kernel
theorem d1_304 : decode method_3_code 304 = .ok (.castore, 1) := by decide +kernel
theorem d1_305 : decode method_3_code 305 = .ok (.dup, 1) := by decide +kernel
theorem d1_306 : decode method_3_code 306 = .ok (.bipush 6, 2) := by decide +kernel
theorem d1_308 : decode method_3_code 308 = .ok (.bipush 111, 2) := by decide +kernel
theorem d1_310 : decode method_3_code 310 = .ok (.castore, 1) := by decide +kernel
theorem d1_311 : decode method_3_code 311 = .ok (.dup, 1) := by decide +kernel
theorem d1_312 : decode method_3_code 312 = .ok (.bipush 7, 2) := by decide +kernel
theorem d1_314 : decode method_3_code 314 = .ok (.bipush 116, 2) := by decide +kernel
theorem d1_316 : decode method_3_code 316 = .ok (.castore, 1) := by decide +kernel
theorem d1_317 : decode method_3_code 317 = .ok (.dup, 1) := by decide +kernel
theorem d1_318 : decode method_3_code 318 = .ok (.bipush 8, 2) := by decide +kernel
theorem d1_320 : decode method_3_code 320 = .ok (.iload_n 3, 1) := by decide +kernel
theorem d1_321 : decode method_3_code 321 = .ok (.castore, 1) := by decide +kernel
theorem d1_322 : decode method_3_code 322 = .ok (.astore 5, 2) := by decide +kernel
theorem d1_324 : decode method_3_code 324 = .ok (.goto 234, 3) := by decide +kernel
theorem d1_327 : decode method_3_code 327 = .ok (.iload_n 0, 1) := by decide +kernel
theorem d1_328 : decode method_3_code 328 = .ok (.iconst 5, 1) := by decide +kernel
theorem d1_329 : decode method_3_code 329 = .ok (.if_icmp .ne 41, 3) := by decide +kernel
theorem d1_332 : decode method_3_code 332 = .ok (.bipush 6, 2) := by decide +kernel
theorem d1_334 : decode method_3_code 334 = .ok (.newarray .char, 2) := by decide +kernel
theorem d1_336 : decode method_3_code 336 = .ok (.dup, 1) := by decide +kernel
theorem d1_337 : decode method_3_code 337 = .ok (.iconst 0, 1) := by decide +kernel
theorem d1_338 : decode method_3_code 338 = .ok (.bipush 100, 2) := by decide +kernel
theorem d1_340 : decode method_3_code 340 = .ok (.castore, 1) := by decide +kernel
theorem d1_341 : decode method_3_code 341 = .ok (.dup, 1) := by decide +kernel
theorem d1_342 : decode method_3_code 342 = .ok (.iconst 1, 1) := by decide +kernel
theorem d1_343 : decode method_3_code 343 = .ok (.bipush 101, 2) := by decide +kernel
theorem d1_345 : decode method_3_code 345 = .ok (.castore, 1) := by decide +kernel
theorem d1_346 : decode method_3_code 346 = .ok (.dup, 1) := by decide +kernel
theorem d1_347 : decode method_3_code 347 = .ok (.iconst 2, 1) := by decide +kernel
theorem d1_348 : decode method_3_code 348 = .ok (.bipush 108, 2) := by decide +kernel
theorem d1_350 : decode method_3_code 350 = .ok (.castore, 1) := by decide +kernel
theorem d1_351 : decode method_3_code 351 = .ok (.dup, 1) := by decide +kernel
theorem d1_352 : decode method_3_code 352 = .ok (.iconst 3, 1) := by decide +kernel
theorem d1_353 : decode method_3_code 353 = .ok (.bipush 116, 2) := by decide +kernel
theorem d1_355 : decode method_3_code 355 = .ok (.castore, 1) := by decide +kernel
theorem d1_356 : decode method_3_code 356 = .ok (.dup, 1) := by decide +kernel
theorem d1_357 : decode method_3_code 357 = .ok (.iconst 4, 1) := by decide +kernel
theorem d1_358 : decode method_3_code 358 = .ok (.bipush 97, 2) := by decide +kernel
theorem d1_360 : decode method_3_code 360 = .ok (.castore, 1) := by decide +kernel
theorem d1_361 : decode method_3_code 361 = .ok (.dup, 1) := by decide +kernel
theorem d1_362 : decode method_3_code 362 = .ok (.iconst 5, 1) := by decide +kernel
theorem d1_363 : decode method_3_code 363 = .ok (.iload_n 3, 1) := by decide +kernel
theorem d1_364 : decode method_3_code 364 = .ok (.castore, 1) := by decide +kernel
theorem d1_365 : decode method_3_code 365 = .ok (.astore 5, 2) := by decide +kernel
theorem d1_367 : decode method_3_code 367 = .ok (.goto 191, 3) := by decide +kernel
theorem d1_370 : decode method_3_code 370 = .ok (.iload_n 0, 1) := by decide +kernel
theorem d1_371 : decode method_3_code 371 = .ok (.bipush 6, 2) := by decide +kernel
theorem d1_373 : decode method_3_code 373 = .ok (.if_icmp .ne 72, 3) := by decide +kernel
theorem d1_376 : decode method_3_code 376 = .ok (.bipush 11, 2) := by decide +kernel
theorem d1_378 : decode method_3_code 378 = .ok (.newarray .char, 2) := by decide +kernel
theorem d1_380 : decode method_3_code 380 = .ok (.dup, 1) := by decide +kernel
theorem d1_381 : decode method_3_code 381 = .ok (.iconst 0, 1) := by decide +kernel
theorem d1_382 : decode method_3_code 382 = .ok (.bipush 110, 2) := by decide +kernel
theorem d1_384 : decode method_3_code 384 = .ok (.castore, 1) := by decide +kernel
theorem d1_385 : decode method_3_code 385 = .ok (.dup, 1) := by decide +kernel
theorem d1_386 : decode method_3_code 386 = .ok (.iconst 1, 1) := by decide +kernel
theorem d1_387 : decode method_3_code 387 = .ok (.bipush 111, 2) := by decide +kernel
theorem d1_389 : decode method_3_code 389 = .ok (.castore, 1) := by decide +kernel
theorem d1_390 : decode method_3_code 390 = .ok (.dup, 1) := by decide +kernel
theorem d1_391 : decode method_3_code 391 = .ok (.iconst 2, 1) := by decide +kernel
theorem d1_392 : decode method_3_code 392 = .ok (.bipush 116, 2) := by decide +kernel
theorem d1_394 : decode method_3_code 394 = .ok (.castore, 1) := by decide +kernel
theorem d1_395 : decode method_3_code 395 = .ok (.dup, 1) := by decide +kernel
theorem d1_396 : decode method_3_code 396 = .ok (.iconst 3, 1) := by decide +kernel
theorem d1_397 : decode method_3_code 397 = .ok (.bipush 105, 2) := by decide +kernel
theorem d1_399 : decode method_3_code 399 = .ok (.castore, 1) := by decide +kernel
theorem d1_400 : decode method_3_code 400 = .ok (.dup, 1) := by decide +kernel
theorem d1_401 : decode method_3_code 401 = .ok (.iconst 4, 1) := by decide +kernel
theorem d1_402 : decode method_3_code 402 = .ok (.bipush 102, 2) := by decide +kernel
theorem d1_404 : decode method_3_code 404 = .ok (.castore, 1) := by decide +kernel
theorem d1_405 : decode method_3_code 405 = .ok (.dup, 1) := by decide +kernel
theorem d1_406 : decode method_3_code 406 = .ok (.iconst 5, 1) := by decide +kernel
theorem d1_407 : decode method_3_code 407 = .ok (.bipush 105, 2) := by decide +kernel
theorem d1_409 : decode method_3_code 409 = .ok (.castore, 1) := by decide +kernel
theorem d1_410 : decode method_3_code 410 = .ok (.dup, 1) := by decide +kernel
theorem d1_411 : decode method_3_code 411 = .ok (.bipush 6, 2) := by decide +kernel
theorem d1_413 : decode method_3_code 413 = .ok (.bipush 99, 2) := by decide +kernel
theorem d1_415 : decode method_3_code 415 = .ok (.castore, 1) := by decide +kernel
theorem d1_416 : decode method_3_code 416 = .ok (.dup, 1) := by decide +kernel
theorem d1_417 : decode method_3_code 417 = .ok (.bipush 7, 2) := by decide +kernel
theorem d1_419 : decode method_3_code 419 = .ok (.bipush 97, 2) := by decide +kernel
theorem d1_421 : decode method_3_code 421 = .ok (.castore, 1) := by decide +kernel
theorem d1_422 : decode method_3_code 422 = .ok (.dup, 1) := by decide +kernel
theorem d1_423 : decode method_3_code 423 = .ok (.bipush 8, 2) := by decide +kernel
theorem d1_425 : decode method_3_code 425 = .ok (.bipush 116, 2) := by decide +kernel
theorem d1_427 : decode method_3_code 427 = .ok (.castore, 1) := by decide +kernel
theorem d1_428 : decode method_3_code 428 = .ok (.dup, 1) := by decide +kernel
theorem d1_429 : decode method_3_code 429 = .ok (.bipush 9, 2) := by decide +kernel
theorem d1_431 : decode method_3_code 431 = .ok (.bipush 105, 2) := by decide +kernel
theorem d1_433 : decode method_3_code 433 = .ok (.castore, 1) := by decide +kernel
theorem d1_434 : decode method_3_code 434 = .ok (.dup, 1) := by decide +kernel
theorem d1_435 : decode method_3_code 435 = .ok (.bipush 10, 2) := by decide +kernel
theorem d1_437 : decode method_3_code 437 = .ok (.bipush 111, 2) := by decide +kernel
theorem d1_439 : decode method_3_code 439 = .ok (.castore, 1) := by decide +kernel
theorem d1_440 : decode method_3_code 440 = .ok (.astore 5, 2) := by decide +kernel
theorem d1_442 : decode method_3_code 442 = .ok (.goto 116, 3) := by decide +kernel
theorem d1_445 : decode method_3_code 445 = .ok (.iload_n 0, 1) := by decide +kernel
theorem d1_446 : decode method_3_code 446 = .ok (.bipush 7, 2) := by decide +kernel
theorem d1_448 : decode method_3_code 448 = .ok (.if_icmp .ne 48, 3) := by decide +kernel
theorem d1_451 : decode method_3_code 451 = .ok (.bipush 7, 2) := by decide +kernel
theorem d1_453 : decode method_3_code 453 = .ok (.newarray .char, 2) := by decide +kernel
theorem d1_455 : decode method_3_code 455 = .ok (.dup, 1) := by decide +kernel
theorem d1_456 : decode method_3_code 456 = .ok (.iconst 0, 1) := by decide +kernel
theorem d1_457 : decode method_3_code 457 = .ok (.bipush 115, 2) := by decide +kernel
theorem d1_459 : decode method_3_code 459 = .ok (.castore, 1) := by decide +kernel
theorem d1_460 : decode method_3_code 460 = .ok (.dup, 1) := by decide +kernel
theorem d1_461 : decode method_3_code 461 = .ok (.iconst 1, 1) := by decide +kernel
theorem d1_462 : decode method_3_code 462 = .ok (.bipush 110, 2) := by decide +kernel
theorem d1_464 : decode method_3_code 464 = .ok (.castore, 1) := by decide +kernel
theorem d1_465 : decode method_3_code 465 = .ok (.dup, 1) := by decide +kernel
theorem d1_466 : decode method_3_code 466 = .ok (.iconst 2, 1) := by decide +kernel
theorem d1_467 : decode method_3_code 467 = .ok (.bipush 97, 2) := by decide +kernel
theorem d1_469 : decode method_3_code 469 = .ok (.castore, 1) := by decide +kernel
theorem d1_470 : decode method_3_code 470 = .ok (.dup, 1) := by decide +kernel
theorem d1_471 : decode method_3_code 471 = .ok (.iconst 3, 1) := by decide +kernel
theorem d1_472 : decode method_3_code 472 = .ok (.bipush 112, 2) := by decide +kernel
theorem d1_474 : decode method_3_code 474 = .ok (.castore, 1) := by decide +kernel
theorem d1_475 : decode method_3_code 475 = .ok (.dup, 1) := by decide +kernel
theorem d1_476 : decode method_3_code 476 = .ok (.iconst 4, 1) := by decide +kernel
theorem d1_477 : decode method_3_code 477 = .ok (.bipush 115, 2) := by decide +kernel
theorem d1_479 : decode method_3_code 479 = .ok (.castore, 1) := by decide +kernel
theorem d1_480 : decode method_3_code 480 = .ok (.dup, 1) := by decide +kernel
theorem d1_481 : decode method_3_code 481 = .ok (.iconst 5, 1) := by decide +kernel
theorem d1_482 : decode method_3_code 482 = .ok (.bipush 104, 2) := by decide +kernel
theorem d1_484 : decode method_3_code 484 = .ok (.castore, 1) := by decide +kernel
theorem d1_485 : decode method_3_code 485 = .ok (.dup, 1) := by decide +kernel
theorem d1_486 : decode method_3_code 486 = .ok (.bipush 6, 2) := by decide +kernel
theorem d1_488 : decode method_3_code 488 = .ok (.bipush 111, 2) := by decide +kernel
theorem d1_490 : decode method_3_code 490 = .ok (.castore, 1) := by decide +kernel
theorem d1_491 : decode method_3_code 491 = .ok (.astore 5, 2) := by decide +kernel
theorem d1_493 : decode method_3_code 493 = .ok (.goto 65, 3) := by decide +kernel
theorem d1_496 : decode method_3_code 496 = .ok (.iload_n 0, 1) := by decide +kernel
theorem d1_497 : decode method_3_code 497 = .ok (.bipush 8, 2) := by decide +kernel
theorem d1_499 : decode method_3_code 499 = .ok (.if_icmp .ne 31, 3) := by decide +kernel
theorem d1_502 : decode method_3_code 502 = .ok (.iconst 4, 1) := by decide +kernel
theorem d1_503 : decode method_3_code 503 = .ok (.newarray .char, 2) := by decide +kernel
theorem d1_505 : decode method_3_code 505 = .ok (.dup, 1) := by decide +kernel
theorem d1_506 : decode method_3_code 506 = .ok (.iconst 0, 1) := by decide +kernel
theorem d1_507 : decode method_3_code 507 = .ok (.bipush 100, 2) := by decide +kernel
theorem d1_509 : decode method_3_code 509 = .ok (.castore, 1) := by decide +kernel
theorem d1_510 : decode method_3_code 510 = .ok (.dup, 1) := by decide +kernel
theorem d1_511 : decode method_3_code 511 = .ok (.iconst 1, 1) := by decide +kernel
theorem d1_512 : decode method_3_code 512 = .ok (.bipush 101, 2) := by decide +kernel
theorem d1_514 : decode method_3_code 514 = .ok (.castore, 1) := by decide +kernel
theorem d1_515 : decode method_3_code 515 = .ok (.dup, 1) := by decide +kernel
theorem d1_516 : decode method_3_code 516 = .ok (.iconst 2, 1) := by decide +kernel
theorem d1_517 : decode method_3_code 517 = .ok (.bipush 108, 2) := by decide +kernel
theorem d1_519 : decode method_3_code 519 = .ok (.castore, 1) := by decide +kernel
theorem d1_520 : decode method_3_code 520 = .ok (.dup, 1) := by decide +kernel
theorem d1_521 : decode method_3_code 521 = .ok (.iconst 3, 1) := by decide +kernel
theorem d1_522 : decode method_3_code 522 = .ok (.bipush 116, 2) := by decide +kernel
theorem d1_524 : decode method_3_code 524 = .ok (.castore, 1) := by decide +kernel
theorem d1_525 : decode method_3_code 525 = .ok (.astore 5, 2) := by decide +kernel
theorem d1_527 : decode method_3_code 527 = .ok (.goto 31, 3) := by decide +kernel
theorem d1_530 : decode method_3_code 530 = .ok (.iload_n 0, 1) := by decide +kernel
theorem d1_531 : decode method_3_code 531 = .ok (.bipush 9, 2) := by decide +kernel
theorem d1_533 : decode method_3_code 533 = .ok (.if_icmp .ne 11, 3) := by decide +kernel
theorem d1_536 : decode method_3_code 536 = .ok (.iconst 0, 1) := by decide +kernel
theorem d1_537 : decode method_3_code 537 = .ok (.newarray .char, 2) := by decide +kernel
theorem d1_539 : decode method_3_code 539 = .ok (.astore 5, 2) := by decide +kernel
theorem d1_541 : decode method_3_code 541 = .ok (.goto 17, 3) := by decide +kernel
theorem d1_544 : decode method_3_code 544 = .ok (.iconst 2, 1) := by decide +kernel
theorem d1_545 : decode method_3_code 545 = .ok (.newarray .char, 2) := by decide +kernel
theorem d1_547 : decode method_3_code 547 = .ok (.dup, 1) := by decide +kernel
theorem d1_548 : decode method_3_code 548 = .ok (.iconst 0, 1) := by decide +kernel
theorem d1_549 : decode method_3_code 549 = .ok (.iload_n 3, 1) := by decide +kernel
theorem d1_550 : decode method_3_code 550 = .ok (.castore, 1) := by decide +kernel
theorem d1_551 : decode method_3_code 551 = .ok (.dup, 1) := by decide +kernel
theorem d1_552 : decode method_3_code 552 = .ok (.iconst 1, 1) := by decide +kernel
theorem d1_553 : decode method_3_code 553 = .ok (.iload 4, 2) := by decide +kernel
theorem d1_555 : decode method_3_code 555 = .ok (.castore, 1) := by decide +kernel
theorem d1_556 : decode method_3_code 556 = .ok (.astore 5, 2) := by decide +kernel
theorem d1_6 : decode method_3_code 6 = .ok (.aconst_null, 1) := by decide +kernel
theorem d1_7 : decode method_3_code 7 = .ok (.areturn, 1) := by decide +kernel
theorem d8_0 : decode method_4_code 0 = .ok (.aload_n 0, 1) := by decide +kernel
theorem d8_1 : decode method_4_code 1 = .ok (.ifnonnull 5, 3) := by decide +kernel
theorem d8_6 : decode method_4_code 6 = .ok (.aload_n 0, 1) := by decide +kernel
theorem d8_7 : decode method_4_code 7 = .ok (.ldc 28, 2) := by decide +kernel
theorem d8_9 : decode method_4_code 9 = .ok (.invokevirtual 30, 3) := by decide +kernel
theorem d8_12 : decode method_4_code 12 = .ok (.ifCond .eq 7, 3) := by decide +kernel
theorem d8_15 : decode method_4_code 15 = .ok (.getstatic 34, 3) := by decide +kernel
theorem d8_18 : decode method_4_code 18 = .ok (.areturn, 1) := by decide +kernel
theorem d8_19 : decode method_4_code 19 = .ok (.aload_n 0, 1) := by decide +kernel
theorem d8_20 : decode method_4_code 20 = .ok (.ldc 38, 2) := by decide +kernel
theorem d8_22 : decode method_4_code 22 = .ok (.invokevirtual 30, 3) := by decide +kernel
theorem d8_25 : decode method_4_code 25 = .ok (.ifCond .eq 7, 3) := by decide +kernel
theorem d8_28 : decode method_4_code 28 = .ok (.getstatic 40, 3) := by decide +kernel
theorem d8_31 : decode method_4_code 31 = .ok (.areturn, 1) := by decide +kernel
theorem d8_32 : decode method_4_code 32 = .ok (.aload_n 0, 1) := by decide +kernel
theorem d8_33 : decode method_4_code 33 = .ok (.ldc 43, 2) := by decide +kernel
theorem d8_35 : decode method_4_code 35 = .ok (.invokevirtual 30, 3) := by decide +kernel
theorem d8_38 : decode method_4_code 38 = .ok (.ifCond .eq 7, 3) := by decide +kernel
theorem d8_41 : decode method_4_code 41 = .ok (.getstatic 45, 3) := by decide +kernel
theorem d8_44 : decode method_4_code 44 = .ok (.areturn, 1) := by decide +kernel
theorem d8_45 : decode method_4_code 45 = .ok (.aconst_null, 1) := by decide +kernel
theorem d8_46 : decode method_4_code 46 = .ok (.areturn, 1) := by decide +kernel
theorem d8_4 : decode method_4_code 4 = .ok (.aconst_null, 1) := by decide +kernel
theorem d8_5 : decode method_4_code 5 = .ok (.areturn, 1) := by decide +kernel
theorem d12_0 : decode prog_84_method_1_code 0 = .ok (.getstatic 13, 3) := by decide +kernel
theorem d12_3 : decode prog_84_method_1_code 3 = .ok (.invokevirtual 17, 3) := by decide +kernel
theorem d12_6 : decode prog_84_method_1_code 6 = .ok (.checkcast 18, 3) := by decide +kernel
theorem d12_9 : decode prog_84_method_1_code 9 = .ok (.areturn, 1) := by decide +kernel
theorem d9_0 : decode jdk_42_method_66_code 0 = .ok (.aload_n 0, 1) := by decide +kernel
theorem d9_1 : decode jdk_42_method_66_code 1 = .ok (.aload_n 1, 1) := by decide +kernel
theorem d9_2 : decode jdk_42_method_66_code 2 = .ok (.if_acmp .ne 5, 3) := by decide +kernel
theorem d9_7 : decode jdk_42_method_66_code 7 = .ok (.aload_n 1, 1) := by decide +kernel
theorem d9_8 : decode jdk_42_method_66_code 8 = .ok (.instanceof 10, 3) := by decide +kernel
theorem d9_11 : decode jdk_42_method_66_code 11 = .ok (.ifCond .eq 43, 3) := by decide +kernel
theorem d9_54 : decode jdk_42_method_66_code 54 = .ok (.iconst 0, 1) := by decide +kernel
theorem d9_55 : decode jdk_42_method_66_code 55 = .ok (.ireturn, 1) := by decide +kernel
theorem d11_0 : decode prog_84_method_5_code 0 = .ok (.invokestatic 36, 3) := by decide +kernel
theorem d11_3 : decode prog_84_method_5_code 3 = .ok (.astore_n 1, 1) := by decide +kernel
theorem d11_4 : decode prog_84_method_5_code 4 = .ok (.aload_n 1, 1) := by decide +kernel
theorem d11_5 : decode prog_84_method_5_code 5 = .ok (.arraylength, 1) := by decide +kernel
theorem d11_6 : decode prog_84_method_5_code 6 = .ok (.istore_n 2, 1) := by decide +kernel
theorem d11_7 : decode prog_84_method_5_code 7 = .ok (.iconst 0, 1) := by decide +kernel
theorem d11_8 : decode prog_84_method_5_code 8 = .ok (.istore_n 3, 1) := by decide +kernel
theorem d11_9 : decode prog_84_method_5_code 9 = .ok (.iload_n 3, 1) := by decide +kernel
theorem d11_10 : decode prog_84_method_5_code 10 = .ok (.iload_n 2, 1) := by decide +kernel
theorem d11_11 : decode prog_84_method_5_code 11 = .ok (.if_icmp .ge 29, 3) := by decide +kernel
theorem d11_14 : decode prog_84_method_5_code 14 = .ok (.aload_n 1, 1) := by decide +kernel
theorem d11_15 : decode prog_84_method_5_code 15 = .ok (.iload_n 3, 1) := by decide +kernel
theorem d11_16 : decode prog_84_method_5_code 16 = .ok (.aaload, 1) := by decide +kernel
theorem d11_17 : decode prog_84_method_5_code 17 = .ok (.astore 4, 2) := by decide +kernel
theorem d11_19 : decode prog_84_method_5_code 19 = .ok (.aload 4, 2) := by decide +kernel
theorem d11_21 : decode prog_84_method_5_code 21 = .ok (.getfield 32, 3) := by decide +kernel
theorem d11_24 : decode prog_84_method_5_code 24 = .ok (.aload_n 0, 1) := by decide +kernel
theorem d11_25 : decode prog_84_method_5_code 25 = .ok (.invokevirtual 40, 3) := by decide +kernel
theorem d11_28 : decode prog_84_method_5_code 28 = .ok (.ifCond .eq 6, 3) := by decide +kernel
theorem d11_31 : decode prog_84_method_5_code 31 = .ok (.aload 4, 2) := by decide +kernel
theorem d11_33 : decode prog_84_method_5_code 33 = .ok (.areturn, 1) := by decide +kernel
theorem d11_34 : decode prog_84_method_5_code 34 = .ok (.iinc 3 1, 3) := by decide +kernel
theorem d11_37 : decode prog_84_method_5_code 37 = .ok (.goto (-28), 3) := by decide +kernel
theorem d11_40 : decode prog_84_method_5_code 40 = .ok (.aconst_null, 1) := by decide +kernel
theorem d11_41 : decode prog_84_method_5_code 41 = .ok (.areturn, 1) := by decide +kernel
theorem pn_0 : plainName "java/lang/String" = true := by first | (simp [plainName, overriddenIn]; done) | decide +kernel
theorem pn_1 : plainName "com/example/verschil/verschil/rrdp/FileKindOfRootPinLaw" = true := by first | (simp [plainName, overriddenIn]; done) | decide +kernel
theorem pn_2 : plainName "com/example/verschil/verschil/rrdp/FileKind" = true := by first | (simp [plainName, overriddenIn]; done) | decide +kernel
theorem pd_0 : parseMethodDescriptor "([CIILjava/lang/Void;)V" = some ⟨[(.array .char), .int, .int, (.object "java/lang/Void")], none⟩ := by decide +kernel
theorem pd_1 : parseMethodDescriptor "([C)V" = some ⟨[(.array .char)], none⟩ := by decide +kernel
theorem pd_2 : parseMethodDescriptor "(Ljava/lang/Object;)Z" = some ⟨[(.object "java/lang/Object")], some .boolean⟩ := by decide +kernel
theorem pd_3 : parseMethodDescriptor "()[Lcom/example/verschil/verschil/rrdp/FileKind;" = some ⟨[], some (.array (.object "com/example/verschil/verschil/rrdp/FileKind"))⟩ := by decide +kernel
theorem pd_4 : parseMethodDescriptor "(IIZCC)Ljava/lang/String;" = some ⟨[.int, .int, .boolean, .char, .char], some (.object "java/lang/String")⟩ := by decide +kernel
theorem pd_5 : parseMethodDescriptor "(Ljava/lang/String;)Lcom/example/verschil/verschil/rrdp/FileKind;" = some ⟨[(.object "java/lang/String")], some (.object "com/example/verschil/verschil/rrdp/FileKind")⟩ := by decide +kernel
def QS4 (Z : State) (a1 : Addr) (a2 : Addr) (u2 : Int32) (h0 : Heap) (n0 : Nat) (v : Option Value) (h : Heap) (L : List Loc) : Prop := v = none ∧ Fr n0 L ∧ (Keep h0 h [a1]) ∧ (Stx Z h a1 [])
theorem ef_S4 (m : MethodId) (a1 : Addr) (a2 : Addr) : entryFrame m #[(.ref a1), (.ref a2), (.int (0 : Int32)), (.int (0 : Int32)), .null] 6 = mkF m 0 #[.val (.ref a1), .val (.ref a2), .val (.int (0 : Int32)), .val (.int (0 : Int32)), .val .null, .unset] [] := by first | (simp [entryFrame, mkF, argsToLocals, Value.category]; done) | rfl
set_option maxRecDepth 65536 in
set_option maxHeartbeats 40000000 in
theorem rmS4 (l : Launch) (Z : State) (a0 : Array Value) (hw : ∀ d ∈ tables_1, d.before a0 Z = true) (ws : List Jvm.Cond) (a1 : Addr) (a2 : Addr) (u2 : Int32) (h0 : Heap) (n0 : Nat) (Zs : n0 ≤ h0.size) (E_a1 : Exa Z h0 a1 "java/lang/String") (F_value_a1 : Fld Z h0 a1 "java/lang/String" "value" "[B" .null) (F_coder_a1 : Fld Z h0 a1 "java/lang/String" "coder" "B" (.int u2)) (g_a1 : n0 ≤ a1) (Ol : Old Z n0 h0) :
    MetFree l (⟨"java/lang/String", "<init>", "([CIILjava/lang/Void;)V"⟩ : MethodName) (head1 (Jvm.Cond.code (⟨"java/lang/String", "<init>", "([CIILjava/lang/Void;)V"⟩ : MethodName) jdk_42_method_149_code 6 none :: ws) ({ frames := 1, cells := 4, slots := 8, locals := 12 } : Room)) (fun a U => a = #[(.ref a1), (.ref a2), (.int (0 : Int32)), (.int (0 : Int32)), .null] ∧ Z.Warmed39 U.vm ∧ U.heap = h0 ∧ CHv Z ELs U.vm h0) (fun _ _ _ _ _ => True) (fun _ U o U' => ∃ v L, o = .returned v ∧ QS4 Z a1 a2 u2 h0 n0 v U'.heap L ∧ CHr Z ELs U.vm U.heap U'.vm U'.heap ∧ ReturnedEndW U o U' L ({ frames := 1, cells := 4, slots := 8, locals := 12 } : Room).cells ({ frames := 1, cells := 4, slots := 8, locals := 12 } : Room).slots) := by
  refine MetFree.of_bodySF (plainFor_of_name pn_0) hisR ?_
  intro p e s m args below meth c s₁ Bd hml0 hP hK
  obtain ⟨rfl, hZ, hh, hCH⟩ := hP
  have hx := Bd.exec
  have hby := Bd.bytes
  have hml : c.maxLocals = 6 := hml0
  have hown : s.vm.findClass "java/lang/String" = some m.cls := findClass_of_methodNamed Bd.named
  have hnm := (name_of_methodNamed Bd.named Bd.method).1
  have X0 : Stand p l e ({ frames := 1, cells := 4, slots := 8, locals := 12 } : Room) s m #[(.ref a1), (.ref a2), (.int (0 : Int32)), (.int (0 : Int32)), .null] below meth c s₁ [] 0 0 := Stand.of_body Bd
  have e0 : s₁.heap = h0 := by rw [← hh, Bd.state]; rfl
  have N0 := Fr.nil n0
  have pre0 : ∀ t, Steps p.tables e below (s₁.setTop (mkF m 0 #[.val (.ref a1), .val (.ref a2), .val (.int (0 : Int32)), .val (.int (0 : Int32)), .val .null, .unset] [])) t → Steps p.tables e below (s₁.setTop (entryFrame m #[(.ref a1), (.ref a2), (.int (0 : Int32)), (.int (0 : Int32)), .null] 6)) t := fun t k => castTop (ef_S4 m a1 a2) k
  have hEL := own_EL hw
  have hStr := own_str hw
  have Sf_a1 : Safe Z ELs s.vm h0 a1 := own_safe hZ.alike E_a1 F_value_a1
  have Hc : CHr Z ELs s.vm h0 s.vm h0 := CHr.refl hCH
  have Kp : Keep h0 h0 [a1] := Keep.refl h0 [a1]
  obtain ⟨T1, X1, e1, st1⟩ := initO X0 hx hZ hown (hw _ (List.mem_of_getElem? (i := 16) rfl)) (hw _ (List.mem_of_getElem? (i := 17) rfl)) (hw _ (List.mem_of_getElem? (i := 18) rfl)) e0 (g := (mkF m 1 #[.val (.ref a1), .val (.ref a2), .val (.int (0 : Int32)), .val (.int (0 : Int32)), .val .null, .unset] [(.ref a1)])) rfl (by rw [hml]; rfl) rfl (hb hby d3_1) (by decide) (W := 0) (by show 2 * 0 + _ ≤ _; exact Nat.le_of_eq rfl) (by decide)
  obtain ⟨la2, T2, h2, k2, lb2, kb2, X2, e2, E2, hS2, hk2, hZ, hown, Ea2, C2, V2, K2, -, -, R2, -, Dn2, st2⟩ := ldcCH X1 hx hZ hown (hw _ (List.mem_of_getElem? (i := 79) rfl)) hStr e1 ((State.WarmedH.refl s).since 0) (Nat.zero_le _) hEL (by decide) Hc.1 (text := "") (vs := ((([] : List Int32).map (fun c => c.toInt8.toInt32)).map Value.int)) (z := (0 : Int32)) (by decide +kernel) (by decide) rfl (g := (mkF m 9 #[.val (.ref a1), .val (.ref a2), .val (.int (0 : Int32)), .val (.int (0 : Int32)), .val .null, .unset] [(.ref a1)])) rfl (hb hby d3_9) (n := 0) (by decide) (by decide) (by decide) (by decide)
  have Sf_a1 : Safe Z ELs T2.vm h2 a1 := CHr.safe R2 E_a1.lt Sf_a1
  have Hc : CHr Z ELs s.vm h0 T2.vm h2 := Hc.trans R2
  have Zs : n0 ≤ h2.size := Nat.le_trans Zs E2.1
  have E_a1 : Exa Z h2 a1 "java/lang/String" := E_a1.ext E2
  have F_value_a1 : Fld Z h2 a1 "java/lang/String" "value" "[B" .null := F_value_a1.ext E2
  have F_coder_a1 : Fld Z h2 a1 "java/lang/String" "coder" "B" (.int u2) := F_coder_a1.ext E2
  have Ol : Old Z n0 h2 := Ol.ext E2
  have Kp : Keep h0 h2 [a1] := Kp.ext E2
  have hkc : k2 ≤ h2.size := hk2
  have F_value_la2 : Fld Z h2 la2 "java/lang/String" "value" "[B" (.ref lb2) := V2
  have F_coder_la2 : Fld Z h2 la2 "java/lang/String" "coder" "B" (.int (0 : Int32)) := C2
  have V_lb2 : Arv Z h2 lb2 kb2 .byte (0 : Int32) (([].map (fun c : Int32 => c.toInt8.toInt32)).map Value.int) (.int 0) := K2
  have ne_a1_la2 := (Dn2 _ Sf_a1).1
  have ne_a1_lb2 := (Dn2 _ Sf_a1).2
  have E_la2 : Exa Z h2 la2 "java/lang/String" := Ea2
  have T_la2 : Stx Z h2 la2 [] := ⟨lb2, kb2, Ea2, V2, C2, K2, by decide, by decide⟩
  obtain ⟨T3, X3, e3, st3⟩ := getF X2 hx hZ hown (host := "") (Or.inl (hw _ (List.mem_of_getElem? (i := 33) rfl))) Via.refl e2 F_value_la2 (g := (mkF m 11 #[.val (.ref a1), .val (.ref a2), .val (.int (0 : Int32)), .val (.int (0 : Int32)), .val .null, .unset] [(.ref la2), (.ref a1)])) rfl rfl (hb hby d3_11)
  obtain ⟨T4, h4, X4, e4, W4, st4⟩ := putF X3 hx hZ hown (host := "") (Or.inl (hw _ (List.mem_of_getElem? (i := 33) rfl))) Via.refl e3 F_value_a1 E_a1 (Or.inr ⟨(hw _ (List.mem_of_getElem? (i := 34) rfl)), rfl, hnm⟩) (hw _ (List.mem_of_getElem? (i := 7) rfl)) (ty := (.array .byte)) (by decide) rfl rfl (g := (mkF m 14 #[.val (.ref a1), .val (.ref a2), .val (.int (0 : Int32)), .val (.int (0 : Int32)), .val .null, .unset] [(.ref lb2), (.ref a1)])) rfl rfl (hb hby d3_14)
  have N4 := Fr.snoc X4 N0 g_a1
  have hkc : k2 ≤ h4.size := Nat.le_trans hkc (Keep.of_wr W4).1
  have Sw := (Sf_a1 : Safe Z ELs T2.vm _ a1)
  have Hd : CHr Z ELs s.vm h0 T2.vm h4 := Hc.trans (CHr.wr W4 Sw Hc.1)
  have Sg_a1 : Safe Z ELs T2.vm h4 a1 := Safe.wr W4 Sw Hc.1 Sf_a1
  have Sf_a1 := Sg_a1
  have Hc := Hd
  have Zs : n0 ≤ h4.size := Nat.le_trans Zs (Keep.of_wr W4).1
  have E_a1 : Exa Z h4 a1 "java/lang/String" := E_a1.wr W4
  have F_value_a1 : Fld Z h4 a1 "java/lang/String" "value" "[B" (.ref lb2) := F_value_a1.same W4
  have F_coder_a1 : Fld Z h4 a1 "java/lang/String" "coder" "B" (.int u2) := F_coder_a1.other W4 (Or.inr (slot_ne (Or.inr (hw _ (List.mem_of_getElem? (i := 32) rfl))) (Or.inr (hw _ (List.mem_of_getElem? (i := 34) rfl))) (by decide) (t := .byte) (t' := (.array .byte)) (by decide) (by decide)))
  have Ol : Old Z n0 h4 := Ol.wr W4 g_a1
  have Kp : Keep h0 h4 [a1] := Kp.wr W4 (Or.inl (List.mem_of_getElem? (i := 0) rfl))
  have F_value_la2 : Fld Z h4 la2 "java/lang/String" "value" "[B" (.ref lb2) := F_value_la2.other W4 (Or.inl (Ne.symm ne_a1_la2))
  have F_coder_la2 : Fld Z h4 la2 "java/lang/String" "coder" "B" (.int (0 : Int32)) := F_coder_la2.other W4 (Or.inl (Ne.symm ne_a1_la2))
  have V_lb2 : Arv Z h4 lb2 kb2 .byte (0 : Int32) (([].map (fun c : Int32 => c.toInt8.toInt32)).map Value.int) (.int 0) := V_lb2.other W4 (Ne.symm ne_a1_lb2)
  have E_la2 : Exa Z h4 la2 "java/lang/String" := E_la2.wr W4
  obtain ⟨la5, T5, h5, k5, lb5, kb5, X5, e5, E5, hS5, hk5, hZ, hown, Ea5, C5, V5, K5, -, -, R5, -, Dn5, st5⟩ := ldcCH X4 hx hZ hown (hw _ (List.mem_of_getElem? (i := 79) rfl)) hStr e4 hS2 hkc hEL (by decide) Hc.1 (text := "") (vs := ((([] : List Int32).map (fun c => c.toInt8.toInt32)).map Value.int)) (z := (0 : Int32)) (by decide +kernel) (by decide) rfl (g := (mkF m 18 #[.val (.ref a1), .val (.ref a2), .val (.int (0 : Int32)), .val (.int (0 : Int32)), .val .null, .unset] [(.ref a1)])) rfl (hb hby d3_18) (n := 0) (by decide) (by decide) (by decide) (by decide)
  have hkc : k2 ≤ h5.size := Nat.le_trans hkc E5.1
  have Sf_a1 : Safe Z ELs T5.vm h5 a1 := CHr.safe R5 E_a1.lt Sf_a1
  have Hc : CHr Z ELs s.vm h0 T5.vm h5 := Hc.trans R5
  have Zs : n0 ≤ h5.size := Nat.le_trans Zs E5.1
  have E_a1 : Exa Z h5 a1 "java/lang/String" := E_a1.ext E5
  have F_value_a1 : Fld Z h5 a1 "java/lang/String" "value" "[B" (.ref lb2) := F_value_a1.ext E5
  have F_coder_a1 : Fld Z h5 a1 "java/lang/String" "coder" "B" (.int u2) := F_coder_a1.ext E5
  have Ol : Old Z n0 h5 := Ol.ext E5
  have Kp : Keep h0 h5 [a1] := Kp.ext E5
  have F_value_la2 : Fld Z h5 la2 "java/lang/String" "value" "[B" (.ref lb2) := F_value_la2.ext E5
  have F_coder_la2 : Fld Z h5 la2 "java/lang/String" "coder" "B" (.int (0 : Int32)) := F_coder_la2.ext E5
  have V_lb2 : Arv Z h5 lb2 kb2 .byte (0 : Int32) (([].map (fun c : Int32 => c.toInt8.toInt32)).map Value.int) (.int 0) := V_lb2.ext E5
  have E_la2 : Exa Z h5 la2 "java/lang/String" := E_la2.ext E5
  have hkc : k5 ≤ h5.size := hk5
  have F_value_la5 : Fld Z h5 la5 "java/lang/String" "value" "[B" (.ref lb5) := V5
  have F_coder_la5 : Fld Z h5 la5 "java/lang/String" "coder" "B" (.int (0 : Int32)) := C5
  have V_lb5 : Arv Z h5 lb5 kb5 .byte (0 : Int32) (([].map (fun c : Int32 => c.toInt8.toInt32)).map Value.int) (.int 0) := K5
  have ne_a1_la5 := (Dn5 _ Sf_a1).1
  have ne_a1_lb5 := (Dn5 _ Sf_a1).2
  have E_la5 : Exa Z h5 la5 "java/lang/String" := Ea5
  have T_la5 : Stx Z h5 la5 [] := ⟨lb5, kb5, Ea5, V5, C5, K5, by decide, by decide⟩
  obtain ⟨T6, X6, e6, st6⟩ := getF X5 hx hZ hown (host := "") (Or.inl (hw _ (List.mem_of_getElem? (i := 31) rfl))) Via.refl e5 F_coder_la5 (g := (mkF m 20 #[.val (.ref a1), .val (.ref a2), .val (.int (0 : Int32)), .val (.int (0 : Int32)), .val .null, .unset] [(.ref la5), (.ref a1)])) rfl rfl (hb hby d3_20)
  obtain ⟨T7, h7, X7, e7, W7, st7⟩ := putF X6 hx hZ hown (host := "") (Or.inl (hw _ (List.mem_of_getElem? (i := 31) rfl))) Via.refl e6 F_coder_a1 E_a1 (Or.inr ⟨(hw _ (List.mem_of_getElem? (i := 32) rfl)), rfl, hnm⟩) (hw _ (List.mem_of_getElem? (i := 7) rfl)) (ty := .byte) (by decide) rfl rfl (g := (mkF m 23 #[.val (.ref a1), .val (.ref a2), .val (.int (0 : Int32)), .val (.int (0 : Int32)), .val .null, .unset] [(.int (0 : Int32)), (.ref a1)])) rfl rfl (hb hby d3_23)
  have N7 := Fr.snoc X7 N4 g_a1
  have hkc : k5 ≤ h7.size := Nat.le_trans hkc (Keep.of_wr W7).1
  have Sw := (Sf_a1 : Safe Z ELs T5.vm _ a1)
  have Hd : CHr Z ELs s.vm h0 T5.vm h7 := Hc.trans (CHr.wr W7 Sw Hc.1)
  have Sg_a1 : Safe Z ELs T5.vm h7 a1 := Safe.wr W7 Sw Hc.1 Sf_a1
  have Sf_a1 := Sg_a1
  have Hc := Hd
  have Zs : n0 ≤ h7.size := Nat.le_trans Zs (Keep.of_wr W7).1
  have E_a1 : Exa Z h7 a1 "java/lang/String" := E_a1.wr W7
  have F_value_a1 : Fld Z h7 a1 "java/lang/String" "value" "[B" (.ref lb2) := F_value_a1.other W7 (Or.inr (slot_ne (Or.inr (hw _ (List.mem_of_getElem? (i := 34) rfl))) (Or.inr (hw _ (List.mem_of_getElem? (i := 32) rfl))) (by decide) (t := (.array .byte)) (t' := .byte) (by decide) (by decide)))
  have F_coder_a1 : Fld Z h7 a1 "java/lang/String" "coder" "B" (.int (0 : Int32)) := F_coder_a1.same W7
  have Ol : Old Z n0 h7 := Ol.wr W7 g_a1
  have Kp : Keep h0 h7 [a1] := Kp.wr W7 (Or.inl (List.mem_of_getElem? (i := 0) rfl))
  have F_value_la2 : Fld Z h7 la2 "java/lang/String" "value" "[B" (.ref lb2) := F_value_la2.other W7 (Or.inl (Ne.symm ne_a1_la2))
  have F_coder_la2 : Fld Z h7 la2 "java/lang/String" "coder" "B" (.int (0 : Int32)) := F_coder_la2.other W7 (Or.inl (Ne.symm ne_a1_la2))
  have V_lb2 : Arv Z h7 lb2 kb2 .byte (0 : Int32) (([].map (fun c : Int32 => c.toInt8.toInt32)).map Value.int) (.int 0) := V_lb2.other W7 (Ne.symm ne_a1_lb2)
  have E_la2 : Exa Z h7 la2 "java/lang/String" := E_la2.wr W7
  have F_value_la5 : Fld Z h7 la5 "java/lang/String" "value" "[B" (.ref lb5) := F_value_la5.other W7 (Or.inl (Ne.symm ne_a1_la5))
  have F_coder_la5 : Fld Z h7 la5 "java/lang/String" "coder" "B" (.int (0 : Int32)) := F_coder_la5.other W7 (Or.inl (Ne.symm ne_a1_la5))
  have V_lb5 : Arv Z h7 lb5 kb5 .byte (0 : Int32) (([].map (fun c : Int32 => c.toInt8.toInt32)).map Value.int) (.int 0) := V_lb5.other W7 (Ne.symm ne_a1_lb5)
  have E_la5 : Exa Z h7 la5 "java/lang/String" := E_la5.wr W7
  obtain ⟨fs, hr, hrun, hended, hRW⟩ := X7.leaveW (s := s) (vm₁ := T5.vm) hS5 (by rw [e7]; exact hkc) (v := none) (fun _ => rfl)
  have hCR : CHr Z ELs s.vm h0 T7.vm h7 := Hc.trans (CHv.at X7 hZ hEL Hc.1)
  refine ⟨_, _, pre0 _ ?_, hrun, hended, _, _, rfl, ?_, (by rw [hh]; show CHr Z ELs s.vm h0 T7.vm T7.heap; rw [e7]; exact hCR), ⟨hRW.1, hRW.2.1, hRW.2.2.1, hRW.2.2.2.mono (by decide) (by decide)⟩⟩
  · show Steps p.tables e below (s₁.setTop (mkF m 0 #[.val (.ref a1), .val (.ref a2), .val (.int (0 : Int32)), .val (.int (0 : Int32)), .val .null, .unset] [])) _
    refine XS.aloadN X0.here hx rfl (hb hby d3_0) rfl rfl ?_
    show Steps p.tables e below (s₁.setTop (mkF m 1 #[.val (.ref a1), .val (.ref a2), .val (.int (0 : Int32)), .val (.int (0 : Int32)), .val .null, .unset] [(.ref a1)])) _
    refine st1 _ ?_
    show Steps p.tables e below (T1.setTop (mkF m 4 #[.val (.ref a1), .val (.ref a2), .val (.int (0 : Int32)), .val (.int (0 : Int32)), .val .null, .unset] [])) _
    refine XS.iloadN X1.here hx rfl (hb hby d3_4) rfl ?_
    show Steps p.tables e below (T1.setTop (mkF m 5 #[.val (.ref a1), .val (.ref a2), .val (.int (0 : Int32)), .val (.int (0 : Int32)), .val .null, .unset] [(.int (0 : Int32))])) _
    refine XS.ifNo X1.here hx rfl (hb hby d3_5) rfl ((if0 _ _).trans (teq rfl).2) ?_
    show Steps p.tables e below (T1.setTop (mkF m 8 #[.val (.ref a1), .val (.ref a2), .val (.int (0 : Int32)), .val (.int (0 : Int32)), .val .null, .unset] [])) _
    refine XS.aloadN X1.here hx rfl (hb hby d3_8) rfl rfl ?_
    show Steps p.tables e below (T1.setTop (mkF m 9 #[.val (.ref a1), .val (.ref a2), .val (.int (0 : Int32)), .val (.int (0 : Int32)), .val .null, .unset] [(.ref a1)])) _
    refine st2 _ ?_
    show Steps p.tables e below (T2.setTop (mkF m 11 #[.val (.ref a1), .val (.ref a2), .val (.int (0 : Int32)), .val (.int (0 : Int32)), .val .null, .unset] [(.ref la2), (.ref a1)])) _
    refine st3 _ ?_
    show Steps p.tables e below (T3.setTop (mkF m 14 #[.val (.ref a1), .val (.ref a2), .val (.int (0 : Int32)), .val (.int (0 : Int32)), .val .null, .unset] [(.ref lb2), (.ref a1)])) _
    refine st4 _ ?_
    show Steps p.tables e below (T4.setTop (mkF m 17 #[.val (.ref a1), .val (.ref a2), .val (.int (0 : Int32)), .val (.int (0 : Int32)), .val .null, .unset] [])) _
    refine XS.aloadN X4.here hx rfl (hb hby d3_17) rfl rfl ?_
    show Steps p.tables e below (T4.setTop (mkF m 18 #[.val (.ref a1), .val (.ref a2), .val (.int (0 : Int32)), .val (.int (0 : Int32)), .val .null, .unset] [(.ref a1)])) _
    refine st5 _ ?_
    show Steps p.tables e below (T5.setTop (mkF m 20 #[.val (.ref a1), .val (.ref a2), .val (.int (0 : Int32)), .val (.int (0 : Int32)), .val .null, .unset] [(.ref la5), (.ref a1)])) _
    refine st6 _ ?_
    show Steps p.tables e below (T6.setTop (mkF m 23 #[.val (.ref a1), .val (.ref a2), .val (.int (0 : Int32)), .val (.int (0 : Int32)), .val .null, .unset] [(.int (0 : Int32)), (.ref a1)])) _
    refine st7 _ ?_
    show Steps p.tables e below (T7.setTop (mkF m 26 #[.val (.ref a1), .val (.ref a2), .val (.int (0 : Int32)), .val (.int (0 : Int32)), .val .null, .unset] [])) _
    exact X7.returnOut hx Bd.returns (hb hby d3_26) hr
  · show QS4 Z a1 a2 u2 h0 n0 _ T7.heap _
    rw [e7]
    exact ⟨rfl, N7, Kp, ⟨lb2, kb2, E_a1, F_value_a1, F_coder_a1, V_lb2, (fun _ hx => nomatch hx), (by decide)⟩⟩
def QS1 (Z : State) (a1 : Addr) (a2 : Addr) (u2 : Int32) (kc : ClassId) (h0 : Heap) (n0 : Nat) (v : Option Value) (h : Heap) (L : List Loc) : Prop := v = none ∧ Fr n0 L ∧ (Keep h0 h [a1]) ∧ (Stx Z h a1 [])
theorem ef_S1 (m : MethodId) (a1 : Addr) (a2 : Addr) : entryFrame m #[(.ref a1), (.ref a2)] 2 = mkF m 0 #[.val (.ref a1), .val (.ref a2)] [] := by first | (simp [entryFrame, mkF, argsToLocals, Value.category]; done) | rfl
set_option maxRecDepth 65536 in
set_option maxHeartbeats 40000000 in
theorem rmS1 (l : Launch) (Z : State) (a0 : Array Value) (hw : ∀ d ∈ tables_1, d.before a0 Z = true) (ws : List Jvm.Cond) (a1 : Addr) (a2 : Addr) (u2 : Int32) (kc : ClassId) (h0 : Heap) (n0 : Nat) (Zs : n0 ≤ h0.size) (E_a1 : Exa Z h0 a1 "java/lang/String") (F_value_a1 : Fld Z h0 a1 "java/lang/String" "value" "[B" .null) (F_coder_a1 : Fld Z h0 a1 "java/lang/String" "coder" "B" (.int u2)) (g_a1 : n0 ≤ a1) (Ol : Old Z n0 h0) (V_a2 : Arv Z h0 a2 kc .char (0 : Int32) [] (.int (0 : Int32))) (ne_a1_a2 : a1 ≠ a2) :
    MetFree l (⟨"java/lang/String", "<init>", "([C)V"⟩ : MethodName) (head1 (Jvm.Cond.code (⟨"java/lang/String", "<init>", "([C)V"⟩ : MethodName) jdk_42_method_3_code 2 none :: ws) ({ frames := 2, cells := 4, slots := 8, locals := 29 } : Room)) (fun a U => a = #[(.ref a1), (.ref a2)] ∧ Z.Warmed39 U.vm ∧ U.heap = h0 ∧ CHv Z ELs U.vm h0) (fun _ _ _ _ _ => True) (fun _ U o U' => ∃ v L, o = .returned v ∧ QS1 Z a1 a2 u2 kc h0 n0 v U'.heap L ∧ CHr Z ELs U.vm U.heap U'.vm U'.heap ∧ ReturnedEndW U o U' L ({ frames := 2, cells := 4, slots := 8, locals := 29 } : Room).cells ({ frames := 2, cells := 4, slots := 8, locals := 29 } : Room).slots) := by
  refine MetFree.of_bodySF (plainFor_of_name pn_0) hisR ?_
  intro p e s m args below meth c s₁ Bd hml0 hP hK
  obtain ⟨rfl, hZ, hh, hCH⟩ := hP
  have hx := Bd.exec
  have hby := Bd.bytes
  have hml : c.maxLocals = 2 := hml0
  have hown : s.vm.findClass "java/lang/String" = some m.cls := findClass_of_methodNamed Bd.named
  have hnm := (name_of_methodNamed Bd.named Bd.method).1
  have X0 : Stand p l e ({ frames := 2, cells := 4, slots := 8, locals := 29 } : Room) s m #[(.ref a1), (.ref a2)] below meth c s₁ [] 0 0 := Stand.of_body Bd
  have e0 : s₁.heap = h0 := by rw [← hh, Bd.state]; rfl
  have N0 := Fr.nil n0
  have pre0 : ∀ t, Steps p.tables e below (s₁.setTop (mkF m 0 #[.val (.ref a1), .val (.ref a2)] [])) t → Steps p.tables e below (s₁.setTop (entryFrame m #[(.ref a1), (.ref a2)] 2)) t := fun t k => castTop (ef_S1 m a1 a2) k
  have hEL := own_EL hw
  have hStr := own_str hw
  have Sf_a1 : Safe Z ELs s.vm h0 a1 := own_safe hZ.alike E_a1 F_value_a1
  have Hc : CHr Z ELs s.vm h0 s.vm h0 := CHr.refl hCH
  have Kp : Keep h0 h0 [a1] := Keep.refl h0 [a1]
  obtain ⟨cl8, Ar8, hl8⟩ := Arv.len V_a2 (by decide)
  have ia8 := State.isArrayOf_alike hZ.alike Ar8.2.1
  obtain ⟨_, _, ⟨T9, L9, k9, n9⟩, -, X9, h29, g29, ⟨Lc9, hQ9, l9, y9, z9, R9⟩, st9⟩ := Jvm.Stand.specialBackS (s := (s.setVm s.vm)) X0 hx (y := (⟨"java/lang/String", "<init>", "([CIILjava/lang/Void;)V"⟩ : MethodName)) rfl hown (mvT hZ (hw _ (List.mem_of_getElem? (i := 12) rfl))) (mvT hZ (hw _ (List.mem_of_getElem? (i := 13) rfl))) (mvT hZ (hw _ (List.mem_of_getElem? (i := 15) rfl))) (by decide) (backOfSH (W := 0) (rmS4 l Z a0 hw [] a1 a2 u2 h0 n0 Zs E_a1 F_value_a1 F_coder_a1 g_a1 Ol) hZ (hw _ (List.mem_of_getElem? (i := 15) rfl)) (hw _ (List.mem_of_getElem? (i := 8) rfl)) (by decide) (by decide) hEL Hc.1) (g := (mkF m 6 #[.val (.ref a1), .val (.ref a2)] [.null, (.int (0 : Int32)), (.int (0 : Int32)), (.ref a2), (.ref a1)])) rfl (by rw [hml]; rfl) (Steps.refl _) (a := a1) (argsL := [(.ref a2), (.int (0 : Int32)), (.int (0 : Int32)), .null]) (rest := []) (lenOf pd_0 rfl) rfl (by show 2 * 0 + _ ≤ _; exact Nat.le_of_eq rfl) (hb hby d2_6) (fun _ _ => ⟨rfl, e0, (by decide : 0 + 4 ≤ _), (by decide : 0 + 8 ≤ _)⟩)
  dsimp only [Pt.U, Pt.locs, Pt.cells, Pt.slots] at X9 h29 g29 l9 y9 z9 st9 hQ9 R9
  subst l9 y9 z9
  obtain ⟨X9, hS9, hZ, hown⟩ := rebS ((State.WarmedH.refl s).since 0) (by rw [e0]; exact (Nat.zero_le _)) X9 h29 g29 hZ hown
  obtain ⟨rfl, N9q, K9, P9_1⟩ := hQ9
  have Hc : CHr Z ELs s.vm h0 T9.vm T9.heap := Hc.trans R9
  have Zs : n0 ≤ T9.heap.size := Nat.le_trans Zs K9.1
  have E_a1 : Exa Z T9.heap a1 "java/lang/String" := E_a1.keep K9
  have Ol : Old Z n0 T9.heap := Ol.keep K9 (allS g_a1 all0)
  have V_a2 : Arv Z T9.heap a2 kc .char (0 : Int32) [] (.int (0 : Int32)) := V_a2.keep K9 (ninS (Ne.symm ne_a1_a2) nin0)
  have Kp : Keep h0 T9.heap [a1] := Kp.trans K9 (allS (Or.inl (List.mem_of_getElem? (i := 0) rfl)) all0)
  have hkc : T9.heap.size ≤ T9.heap.size := Nat.le_refl _
  have T_a1 : Stx Z T9.heap a1 [] := P9_1
  have N9 := Fr.app N0 N9q
  obtain ⟨fs, hr, hrun, hended, hRW⟩ := X9.leaveW (s := s) (vm₁ := T9.vm) hS9 hkc (v := none) (fun _ => rfl)
  have hCR : CHr Z ELs s.vm h0 T9.vm T9.heap := Hc.trans (CHv.at X9 hZ hEL Hc.1)
  refine ⟨_, _, pre0 _ ?_, hrun, hended, _, _, rfl, ?_, (by rw [hh]; show CHr Z ELs s.vm h0 T9.vm T9.heap; exact hCR), ⟨hRW.1, hRW.2.1, hRW.2.2.1, hRW.2.2.2.mono (by decide) (by decide)⟩⟩
  · show Steps p.tables e below (s₁.setTop (mkF m 0 #[.val (.ref a1), .val (.ref a2)] [])) _
    refine XS.aloadN X0.here hx rfl (hb hby d2_0) rfl rfl ?_
    show Steps p.tables e below (s₁.setTop (mkF m 1 #[.val (.ref a1), .val (.ref a2)] [(.ref a1)])) _
    refine XS.aloadN X0.here hx rfl (hb hby d2_1) rfl rfl ?_
    show Steps p.tables e below (s₁.setTop (mkF m 2 #[.val (.ref a1), .val (.ref a2)] [(.ref a2), (.ref a1)])) _
    refine XS.iconst X0.here hx rfl (hb hby d2_2) ?_
    show Steps p.tables e below (s₁.setTop (mkF m 3 #[.val (.ref a1), .val (.ref a2)] [(.int (0 : Int32)), (.ref a2), (.ref a1)])) _
    refine XS.aloadN X0.here hx rfl (hb hby d2_3) rfl rfl ?_
    show Steps p.tables e below (s₁.setTop (mkF m 4 #[.val (.ref a1), .val (.ref a2)] [(.ref a2), (.int (0 : Int32)), (.ref a2), (.ref a1)])) _
    refine X0.arraylength hx (by rw [e0]; exact Ar8.1) ia8 (g := (mkF m 4 #[.val (.ref a1), .val (.ref a2)] [(.ref a2), (.int (0 : Int32)), (.ref a2), (.ref a1)])) rfl rfl (hb hby d2_4) _ ?_
    rw [hl8]
    show Steps p.tables e below (s₁.setTop (mkF m 5 #[.val (.ref a1), .val (.ref a2)] [(.int (0 : Int32)), (.int (0 : Int32)), (.ref a2), (.ref a1)])) _
    refine XS.aconstNull X0.here hx rfl (hb hby d2_5) ?_
    show Steps p.tables e below (s₁.setTop (mkF m 6 #[.val (.ref a1), .val (.ref a2)] [.null, (.int (0 : Int32)), (.int (0 : Int32)), (.ref a2), (.ref a1)])) _
    refine st9.trans ?_
    show Steps p.tables e below (T9.setTop (mkF m 9 #[.val (.ref a1), .val (.ref a2)] [])) _
    exact X9.returnOut hx Bd.returns (hb hby d2_9) hr
  · show QS1 Z a1 a2 u2 kc h0 n0 _ T9.heap _
    exact ⟨rfl, N9, Kp, T_a1⟩
def QB (Z : State) (p1 : Int32) (p2 : Int32) (p3 : Int32) (p4 : Int32) (p5 : Int32) (zc : Int32) (h0 : Heap) (n0 : Nat) (v : Option Value) (h : Heap) (L : List Loc) : Prop := ∃ b : Addr, ∃ cs : List Int32, v = some (.ref b) ∧ Fr n0 L ∧ (Keep h0 h []) ∧ (Exa Z h b "java/lang/String") ∧ (Stx Z h b cs)
theorem ef_B (m : MethodId) (p1 : Int32) (p2 : Int32) (p3 : Int32) (p4 : Int32) (p5 : Int32) : entryFrame m #[(.int p1), (.int p2), (.int p3), (.int p4), (.int p5)] 6 = mkF m 0 #[.val (.int p1), .val (.int p2), .val (.int p3), .val (.int p4), .val (.int p5), .unset] [] := by first | (simp [entryFrame, mkF, argsToLocals, Value.category]; done) | rfl
set_option maxRecDepth 65536 in
set_option maxHeartbeats 40000000 in
theorem rmB (l : Launch) (Z : State) (a0 : Array Value) (hw : ∀ d ∈ tables_1, d.before a0 Z = true) (ws : List Jvm.Cond) (p1 : Int32) (p2 : Int32) (p3 : Int32) (p4 : Int32) (p5 : Int32) (zc : Int32) (h0 : Heap) (n0 : Nat) (Zs : n0 ≤ h0.size) (Ol : Old Z n0 h0) (S_COMPACT_STRINGS : Sta Z Z.heap "java/lang/String" "COMPACT_STRINGS" "Z" (.int zc)) (hzc : ¬ zc = 0) (hk : ¬ p1 = (11 : Int32)) (hc : ¬ nar .char p4 < 0 ∧ ¬ (255 : Int32) < nar .char p4) (hd : ¬ nar .char p5 < 0 ∧ ¬ (255 : Int32) < nar .char p5) :
    MetFree l (⟨"com/example/verschil/verschil/rrdp/FileKindOfRootPinLaw", "build", "(IIZCC)Ljava/lang/String;"⟩ : MethodName) (head1 (Jvm.Cond.code (⟨"com/example/verschil/verschil/rrdp/FileKindOfRootPinLaw", "build", "(IIZCC)Ljava/lang/String;"⟩ : MethodName) method_3_code 6 (some (.object "java/lang/String")) :: ws) ({ frames := 4, cells := 6, slots := 30, locals := 66 } : Room)) (fun a U => a = #[(.int p1), (.int p2), (.int p3), (.int p4), (.int p5)] ∧ Z.Warmed39 U.vm ∧ U.heap = h0 ∧ CHv Z ELs U.vm h0) (fun _ _ _ _ _ => True) (fun _ U o U' => ∃ v L, o = .returned v ∧ QB Z p1 p2 p3 p4 p5 zc h0 n0 v U'.heap L ∧ CHr Z ELs U.vm U.heap U'.vm U'.heap ∧ ReturnedEndW U o U' L ({ frames := 4, cells := 6, slots := 30, locals := 66 } : Room).cells ({ frames := 4, cells := 6, slots := 30, locals := 66 } : Room).slots) := by
  refine MetFree.of_bodySF (plainFor_of_name pn_1) hisR ?_
  intro p e s m args below meth c s₁ Bd hml0 hP hK
  obtain ⟨rfl, hZ, hh, hCH⟩ := hP
  have hx := Bd.exec
  have hby := Bd.bytes
  have hml : c.maxLocals = 6 := hml0
  have hown : s.vm.findClass "com/example/verschil/verschil/rrdp/FileKindOfRootPinLaw" = some m.cls := findClass_of_methodNamed Bd.named
  have hnm := (name_of_methodNamed Bd.named Bd.method).1
  have X0 : Stand p l e ({ frames := 4, cells := 6, slots := 30, locals := 66 } : Room) s m #[(.int p1), (.int p2), (.int p3), (.int p4), (.int p5)] below meth c s₁ [] 0 0 := Stand.of_body Bd
  have e0 : s₁.heap = h0 := by rw [← hh, Bd.state]; rfl
  have N0 := Fr.nil n0
  have pre0 : ∀ t, Steps p.tables e below (s₁.setTop (mkF m 0 #[.val (.int p1), .val (.int p2), .val (.int p3), .val (.int p4), .val (.int p5), .unset] [])) t → Steps p.tables e below (s₁.setTop (entryFrame m #[(.int p1), (.int p2), (.int p3), (.int p4), (.int p5)] 6)) t := fun t k => castTop (ef_B m p1 p2 p3 p4 p5) k
  have hEL := own_EL hw
  have hStr := own_str hw
  have Hc : CHr Z ELs s.vm h0 s.vm h0 := CHr.refl hCH
  have Kp : Keep h0 h0 [] := Keep.refl h0 []
  have pre10 : ∀ t, Steps p.tables e below (s₁.setTop (mkF m 9 #[.val (.int p1), .val (.int p2), .val (.int p3), .val (.int p4), .val (.int p5), .unset] [(.int p1)])) t → Steps p.tables e below (s₁.setTop (entryFrame m #[(.int p1), (.int p2), (.int p3), (.int p4), (.int p5)] 6)) t := fun t k => pre0 t (by
    show Steps p.tables e below (s₁.setTop (mkF m 0 #[.val (.int p1), .val (.int p2), .val (.int p3), .val (.int p4), .val (.int p5), .unset] [])) _
    refine XS.iloadN X0.here hx rfl (hb hby d1_0) rfl ?_
    show Steps p.tables e below (s₁.setTop (mkF m 1 #[.val (.int p1), .val (.int p2), .val (.int p3), .val (.int p4), .val (.int p5), .unset] [(.int p1)])) _
    refine XS.bipush X0.here hx rfl (hb hby d1_1) ?_
    show Steps p.tables e below (s₁.setTop (mkF m 3 #[.val (.int p1), .val (.int p2), .val (.int p3), .val (.int p4), .val (.int p5), .unset] [(.int (11 : Int32)), (.int p1)])) _
    refine XS.icmpYes X0.here hx rfl (pc0 := 3) (pc' := 8) rfl (hb hby d1_3) rfl (feq hk).2 (by decide) (by decide) ?_
    show Steps p.tables e below (s₁.setTop (mkF m 8 #[.val (.int p1), .val (.int p2), .val (.int p3), .val (.int p4), .val (.int p5), .unset] [])) _
    refine XS.iloadN X0.here hx rfl (hb hby d1_8) rfl ?_
    exact k)
  by_cases hc9 : p1 = (0 : Int32)
  ·
    obtain ⟨T11, h11, k11, X11, e11, E11, A11, B11, st11⟩ := newPE X0 hx hZ (hw _ (List.mem_of_getElem? (i := 5) rfl)) e0 (g := (mkF m 14 #[.val (.int p1), .val (.int p2), .val (.int p3), .val (.int p4), .val (.int p5), .unset] [(.int (12 : Int32))])) rfl (hb hby d1_14) rfl (by decide) (cap := 12) (by decide) (by decide) (by decide) (by decide) (ad := "[C") (by decide)
    obtain ⟨b11, g11⟩ : ∃ z, z = h0.size := ⟨_, rfl⟩
    rw [← g11] at A11 B11 st11
    have g_b11 : n0 ≤ b11 := Nat.le_trans Zs (Nat.le_of_eq g11.symm)
    have sz_b11 : h0.size ≤ b11 := Nat.le_trans Kp.1 (Nat.le_of_eq g11.symm)
    have Hd : CHr Z ELs s.vm h0 s.vm h11 := Hc.trans (CHr.ext E11 Hc.1)
    have Hc := Hd
    have Zs : n0 ≤ h11.size := Nat.le_trans Zs E11.1
    have Ol : Old Z n0 h11 := Ol.ext E11
    have Kp : Keep h0 h11 [] := Kp.ext E11
    have E_b11 : Exa Z h11 b11 "[C" := B11
    have V_b11 : Arv Z h11 b11 k11 .char (12 : Int32) [(.int (0 : Int32)), (.int (0 : Int32)), (.int (0 : Int32)), (.int (0 : Int32)), (.int (0 : Int32)), (.int (0 : Int32)), (.int (0 : Int32)), (.int (0 : Int32)), (.int (0 : Int32)), (.int (0 : Int32)), (.int (0 : Int32)), (.int (0 : Int32))] (.int (0 : Int32)) := (Arv.new A11 (by decide)).pad (pad_rep [] (.int (0 : Int32)) 12)
    obtain ⟨cl12, Ar12, q12, S12, M12, H12, G12⟩ := V_b11
    obtain ⟨T13, h13, X13, e13, W13, st13⟩ := stC X11 hx hZ e11 Ar12 (j := (0 : Int32)) (inb_of S12 (by decide)) (g := (mkF m 20 #[.val (.int p1), .val (.int p2), .val (.int p3), .val (.int p4), .val (.int p5), .unset] [(.int (110 : Int32)), (.int (0 : Int32)), (.ref b11), (.ref b11)])) rfl rfl (hb hby d1_20)
    have N13 := Fr.snoc X13 N0 g_b11
    have Sw := ((Safe.exa hZ.alike E_b11 (by decide) (by decide)) : Safe Z ELs s.vm _ b11)
    have Hd : CHr Z ELs s.vm h0 s.vm h13 := Hc.trans (CHr.wr W13 Sw Hc.1)
    have Hc := Hd
    have Zs : n0 ≤ h13.size := Nat.le_trans Zs (Keep.of_wr W13).1
    have Ol : Old Z n0 h13 := Ol.wr W13 g_b11
    have Kp : Keep h0 h13 [] := Kp.wr W13 (Or.inr sz_b11)
    have E_b11 : Exa Z h13 b11 "[C" := E_b11.wr W13
    have V_b11 : Arv Z h13 b11 k11 .char (12 : Int32) [(.int (nar .char (110 : Int32))), (.int (0 : Int32)), (.int (0 : Int32)), (.int (0 : Int32)), (.int (0 : Int32)), (.int (0 : Int32)), (.int (0 : Int32)), (.int (0 : Int32)), (.int (0 : Int32)), (.int (0 : Int32)), (.int (0 : Int32)), (.int (0 : Int32))] (.int (0 : Int32)) := Arv.set Ar12 q12 S12 M12 H12 G12 (fits_nar_char _) W13 0 rfl (Nat.le_of_ble_eq_true rfl)
    obtain ⟨cl14, Ar14, q14, S14, M14, H14, G14⟩ := V_b11
    obtain ⟨T15, h15, X15, e15, W15, st15⟩ := stC X13 hx hZ e13 Ar14 (j := (1 : Int32)) (inb_of S14 (by decide)) (g := (mkF m 25 #[.val (.int p1), .val (.int p2), .val (.int p3), .val (.int p4), .val (.int p5), .unset] [(.int (111 : Int32)), (.int (1 : Int32)), (.ref b11), (.ref b11)])) rfl rfl (hb hby d1_25)
    have N15 := Fr.snoc X15 N13 g_b11
    have Sw := ((Safe.exa hZ.alike E_b11 (by decide) (by decide)) : Safe Z ELs s.vm _ b11)
    have Hd : CHr Z ELs s.vm h0 s.vm h15 := Hc.trans (CHr.wr W15 Sw Hc.1)
    have Hc := Hd
    have Zs : n0 ≤ h15.size := Nat.le_trans Zs (Keep.of_wr W15).1
    have Ol : Old Z n0 h15 := Ol.wr W15 g_b11
    have Kp : Keep h0 h15 [] := Kp.wr W15 (Or.inr sz_b11)
    have E_b11 : Exa Z h15 b11 "[C" := E_b11.wr W15
    have V_b11 : Arv Z h15 b11 k11 .char (12 : Int32) [(.int (nar .char (110 : Int32))), (.int (nar .char (111 : Int32))), (.int (0 : Int32)), (.int (0 : Int32)), (.int (0 : Int32)), (.int (0 : Int32)), (.int (0 : Int32)), (.int (0 : Int32)), (.int (0 : Int32)), (.int (0 : Int32)), (.int (0 : Int32)), (.int (0 : Int32))] (.int (0 : Int32)) := Arv.set Ar14 q14 S14 M14 H14 G14 (fits_nar_char _) W15 1 rfl (Nat.le_of_ble_eq_true rfl)
    obtain ⟨cl16, Ar16, q16, S16, M16, H16, G16⟩ := V_b11
    obtain ⟨T17, h17, X17, e17, W17, st17⟩ := stC X15 hx hZ e15 Ar16 (j := (2 : Int32)) (inb_of S16 (by decide)) (g := (mkF m 30 #[.val (.int p1), .val (.int p2), .val (.int p3), .val (.int p4), .val (.int p5), .unset] [(.int (116 : Int32)), (.int (2 : Int32)), (.ref b11), (.ref b11)])) rfl rfl (hb hby d1_30)
    have N17 := Fr.snoc X17 N15 g_b11
    have Sw := ((Safe.exa hZ.alike E_b11 (by decide) (by decide)) : Safe Z ELs s.vm _ b11)
    have Hd : CHr Z ELs s.vm h0 s.vm h17 := Hc.trans (CHr.wr W17 Sw Hc.1)
    have Hc := Hd
    have Zs : n0 ≤ h17.size := Nat.le_trans Zs (Keep.of_wr W17).1
    have Ol : Old Z n0 h17 := Ol.wr W17 g_b11
    have Kp : Keep h0 h17 [] := Kp.wr W17 (Or.inr sz_b11)
    have E_b11 : Exa Z h17 b11 "[C" := E_b11.wr W17
    have V_b11 : Arv Z h17 b11 k11 .char (12 : Int32) [(.int (nar .char (110 : Int32))), (.int (nar .char (111 : Int32))), (.int (nar .char (116 : Int32))), (.int (0 : Int32)), (.int (0 : Int32)), (.int (0 : Int32)), (.int (0 : Int32)), (.int (0 : Int32)), (.int (0 : Int32)), (.int (0 : Int32)), (.int (0 : Int32)), (.int (0 : Int32))] (.int (0 : Int32)) := Arv.set Ar16 q16 S16 M16 H16 G16 (fits_nar_char _) W17 2 rfl (Nat.le_of_ble_eq_true rfl)
    obtain ⟨cl18, Ar18, q18, S18, M18, H18, G18⟩ := V_b11
    obtain ⟨T19, h19, X19, e19, W19, st19⟩ := stC X17 hx hZ e17 Ar18 (j := (3 : Int32)) (inb_of S18 (by decide)) (g := (mkF m 35 #[.val (.int p1), .val (.int p2), .val (.int p3), .val (.int p4), .val (.int p5), .unset] [(.int (105 : Int32)), (.int (3 : Int32)), (.ref b11), (.ref b11)])) rfl rfl (hb hby d1_35)
    have N19 := Fr.snoc X19 N17 g_b11
    have Sw := ((Safe.exa hZ.alike E_b11 (by decide) (by decide)) : Safe Z ELs s.vm _ b11)
    have Hd : CHr Z ELs s.vm h0 s.vm h19 := Hc.trans (CHr.wr W19 Sw Hc.1)
    have Hc := Hd
    have Zs : n0 ≤ h19.size := Nat.le_trans Zs (Keep.of_wr W19).1
    have Ol : Old Z n0 h19 := Ol.wr W19 g_b11
    have Kp : Keep h0 h19 [] := Kp.wr W19 (Or.inr sz_b11)
    have E_b11 : Exa Z h19 b11 "[C" := E_b11.wr W19
    have V_b11 : Arv Z h19 b11 k11 .char (12 : Int32) [(.int (nar .char (110 : Int32))), (.int (nar .char (111 : Int32))), (.int (nar .char (116 : Int32))), (.int (nar .char (105 : Int32))), (.int (0 : Int32)), (.int (0 : Int32)), (.int (0 : Int32)), (.int (0 : Int32)), (.int (0 : Int32)), (.int (0 : Int32)), (.int (0 : Int32)), (.int (0 : Int32))] (.int (0 : Int32)) := Arv.set Ar18 q18 S18 M18 H18 G18 (fits_nar_char _) W19 3 rfl (Nat.le_of_ble_eq_true rfl)
    obtain ⟨cl20, Ar20, q20, S20, M20, H20, G20⟩ := V_b11
    obtain ⟨T21, h21, X21, e21, W21, st21⟩ := stC X19 hx hZ e19 Ar20 (j := (4 : Int32)) (inb_of S20 (by decide)) (g := (mkF m 40 #[.val (.int p1), .val (.int p2), .val (.int p3), .val (.int p4), .val (.int p5), .unset] [(.int (102 : Int32)), (.int (4 : Int32)), (.ref b11), (.ref b11)])) rfl rfl (hb hby d1_40)
    have N21 := Fr.snoc X21 N19 g_b11
    have Sw := ((Safe.exa hZ.alike E_b11 (by decide) (by decide)) : Safe Z ELs s.vm _ b11)
    have Hd : CHr Z ELs s.vm h0 s.vm h21 := Hc.trans (CHr.wr W21 Sw Hc.1)
    have Hc := Hd
    have Zs : n0 ≤ h21.size := Nat.le_trans Zs (Keep.of_wr W21).1
    have Ol : Old Z n0 h21 := Ol.wr W21 g_b11
    have Kp : Keep h0 h21 [] := Kp.wr W21 (Or.inr sz_b11)
    have E_b11 : Exa Z h21 b11 "[C" := E_b11.wr W21
    have V_b11 : Arv Z h21 b11 k11 .char (12 : Int32) [(.int (nar .char (110 : Int32))), (.int (nar .char (111 : Int32))), (.int (nar .char (116 : Int32))), (.int (nar .char (105 : Int32))), (.int (nar .char (102 : Int32))), (.int (0 : Int32)), (.int (0 : Int32)), (.int (0 : Int32)), (.int (0 : Int32)), (.int (0 : Int32)), (.int (0 : Int32)), (.int (0 : Int32))] (.int (0 : Int32)) := Arv.set Ar20 q20 S20 M20 H20 G20 (fits_nar_char _) W21 4 rfl (Nat.le_of_ble_eq_true rfl)
    obtain ⟨cl22, Ar22, q22, S22, M22, H22, G22⟩ := V_b11
    obtain ⟨T23, h23, X23, e23, W23, st23⟩ := stC X21 hx hZ e21 Ar22 (j := (5 : Int32)) (inb_of S22 (by decide)) (g := (mkF m 45 #[.val (.int p1), .val (.int p2), .val (.int p3), .val (.int p4), .val (.int p5), .unset] [(.int (105 : Int32)), (.int (5 : Int32)), (.ref b11), (.ref b11)])) rfl rfl (hb hby d1_45)
    have N23 := Fr.snoc X23 N21 g_b11
    have Sw := ((Safe.exa hZ.alike E_b11 (by decide) (by decide)) : Safe Z ELs s.vm _ b11)
    have Hd : CHr Z ELs s.vm h0 s.vm h23 := Hc.trans (CHr.wr W23 Sw Hc.1)
    have Hc := Hd
    have Zs : n0 ≤ h23.size := Nat.le_trans Zs (Keep.of_wr W23).1
    have Ol : Old Z n0 h23 := Ol.wr W23 g_b11
    have Kp : Keep h0 h23 [] := Kp.wr W23 (Or.inr sz_b11)
    have E_b11 : Exa Z h23 b11 "[C" := E_b11.wr W23
    have V_b11 : Arv Z h23 b11 k11 .char (12 : Int32) [(.int (nar .char (110 : Int32))), (.int (nar .char (111 : Int32))), (.int (nar .char (116 : Int32))), (.int (nar .char (105 : Int32))), (.int (nar .char (102 : Int32))), (.int (nar .char (105 : Int32))), (.int (0 : Int32)), (.int (0 : Int32)), (.int (0 : Int32)), (.int (0 : Int32)), (.int (0 : Int32)), (.int (0 : Int32))] (.int (0 : Int32)) := Arv.set Ar22 q22 S22 M22 H22 G22 (fits_nar_char _) W23 5 rfl (Nat.le_of_ble_eq_true rfl)
    obtain ⟨cl24, Ar24, q24, S24, M24, H24, G24⟩ := V_b11
    obtain ⟨T25, h25, X25, e25, W25, st25⟩ := stC X23 hx hZ e23 Ar24 (j := (6 : Int32)) (inb_of S24 (by decide)) (g := (mkF m 51 #[.val (.int p1), .val (.int p2), .val (.int p3), .val (.int p4), .val (.int p5), .unset] [(.int (99 : Int32)), (.int (6 : Int32)), (.ref b11), (.ref b11)])) rfl rfl (hb hby d1_51)
    have N25 := Fr.snoc X25 N23 g_b11
    have Sw := ((Safe.exa hZ.alike E_b11 (by decide) (by decide)) : Safe Z ELs s.vm _ b11)
    have Hd : CHr Z ELs s.vm h0 s.vm h25 := Hc.trans (CHr.wr W25 Sw Hc.1)
    have Hc := Hd
    have Zs : n0 ≤ h25.size := Nat.le_trans Zs (Keep.of_wr W25).1
    have Ol : Old Z n0 h25 := Ol.wr W25 g_b11
    have Kp : Keep h0 h25 [] := Kp.wr W25 (Or.inr sz_b11)
    have E_b11 : Exa Z h25 b11 "[C" := E_b11.wr W25
    have V_b11 : Arv Z h25 b11 k11 .char (12 : Int32) [(.int (nar .char (110 : Int32))), (.int (nar .char (111 : Int32))), (.int (nar .char (116 : Int32))), (.int (nar .char (105 : Int32))), (.int (nar .char (102 : Int32))), (.int (nar .char (105 : Int32))), (.int (nar .char (99 : Int32))), (.int (0 : Int32)), (.int (0 : Int32)), (.int (0 : Int32)), (.int (0 : Int32)), (.int (0 : Int32))] (.int (0 : Int32)) := Arv.set Ar24 q24 S24 M24 H24 G24 (fits_nar_char _) W25 6 rfl (Nat.le_of_ble_eq_true rfl)
    obtain ⟨cl26, Ar26, q26, S26, M26, H26, G26⟩ := V_b11
    obtain ⟨T27, h27, X27, e27, W27, st27⟩ := stC X25 hx hZ e25 Ar26 (j := (7 : Int32)) (inb_of S26 (by decide)) (g := (mkF m 57 #[.val (.int p1), .val (.int p2), .val (.int p3), .val (.int p4), .val (.int p5), .unset] [(.int (97 : Int32)), (.int (7 : Int32)), (.ref b11), (.ref b11)])) rfl rfl (hb hby d1_57)
    have N27 := Fr.snoc X27 N25 g_b11
    have Sw := ((Safe.exa hZ.alike E_b11 (by decide) (by decide)) : Safe Z ELs s.vm _ b11)
    have Hd : CHr Z ELs s.vm h0 s.vm h27 := Hc.trans (CHr.wr W27 Sw Hc.1)
    have Hc := Hd
    have Zs : n0 ≤ h27.size := Nat.le_trans Zs (Keep.of_wr W27).1
    have Ol : Old Z n0 h27 := Ol.wr W27 g_b11
    have Kp : Keep h0 h27 [] := Kp.wr W27 (Or.inr sz_b11)
    have E_b11 : Exa Z h27 b11 "[C" := E_b11.wr W27
    have V_b11 : Arv Z h27 b11 k11 .char (12 : Int32) [(.int (nar .char (110 : Int32))), (.int (nar .char (111 : Int32))), (.int (nar .char (116 : Int32))), (.int (nar .char (105 : Int32))), (.int (nar .char (102 : Int32))), (.int (nar .char (105 : Int32))), (.int (nar .char (99 : Int32))), (.int (nar .char (97 : Int32))), (.int (0 : Int32)), (.int (0 : Int32)), (.int (0 : Int32)), (.int (0 : Int32))] (.int (0 : Int32)) := Arv.set Ar26 q26 S26 M26 H26 G26 (fits_nar_char _) W27 7 rfl (Nat.le_of_ble_eq_true rfl)
    obtain ⟨cl28, Ar28, q28, S28, M28, H28, G28⟩ := V_b11
    obtain ⟨T29, h29, X29, e29, W29, st29⟩ := stC X27 hx hZ e27 Ar28 (j := (8 : Int32)) (inb_of S28 (by decide)) (g := (mkF m 63 #[.val (.int p1), .val (.int p2), .val (.int p3), .val (.int p4), .val (.int p5), .unset] [(.int (116 : Int32)), (.int (8 : Int32)), (.ref b11), (.ref b11)])) rfl rfl (hb hby d1_63)
    have N29 := Fr.snoc X29 N27 g_b11
    have Sw := ((Safe.exa hZ.alike E_b11 (by decide) (by decide)) : Safe Z ELs s.vm _ b11)
    have Hd : CHr Z ELs s.vm h0 s.vm h29 := Hc.trans (CHr.wr W29 Sw Hc.1)
    have Hc := Hd
    have Zs : n0 ≤ h29.size := Nat.le_trans Zs (Keep.of_wr W29).1
    have Ol : Old Z n0 h29 := Ol.wr W29 g_b11
    have Kp : Keep h0 h29 [] := Kp.wr W29 (Or.inr sz_b11)
    have E_b11 : Exa Z h29 b11 "[C" := E_b11.wr W29
    have V_b11 : Arv Z h29 b11 k11 .char (12 : Int32) [(.int (nar .char (110 : Int32))), (.int (nar .char (111 : Int32))), (.int (nar .char (116 : Int32))), (.int (nar .char (105 : Int32))), (.int (nar .char (102 : Int32))), (.int (nar .char (105 : Int32))), (.int (nar .char (99 : Int32))), (.int (nar .char (97 : Int32))), (.int (nar .char (116 : Int32))), (.int (0 : Int32)), (.int (0 : Int32)), (.int (0 : Int32))] (.int (0 : Int32)) := Arv.set Ar28 q28 S28 M28 H28 G28 (fits_nar_char _) W29 8 rfl (Nat.le_of_ble_eq_true rfl)
    obtain ⟨cl30, Ar30, q30, S30, M30, H30, G30⟩ := V_b11
    obtain ⟨T31, h31, X31, e31, W31, st31⟩ := stC X29 hx hZ e29 Ar30 (j := (9 : Int32)) (inb_of S30 (by decide)) (g := (mkF m 69 #[.val (.int p1), .val (.int p2), .val (.int p3), .val (.int p4), .val (.int p5), .unset] [(.int (105 : Int32)), (.int (9 : Int32)), (.ref b11), (.ref b11)])) rfl rfl (hb hby d1_69)
    have N31 := Fr.snoc X31 N29 g_b11
    have Sw := ((Safe.exa hZ.alike E_b11 (by decide) (by decide)) : Safe Z ELs s.vm _ b11)
    have Hd : CHr Z ELs s.vm h0 s.vm h31 := Hc.trans (CHr.wr W31 Sw Hc.1)
    have Hc := Hd
    have Zs : n0 ≤ h31.size := Nat.le_trans Zs (Keep.of_wr W31).1
    have Ol : Old Z n0 h31 := Ol.wr W31 g_b11
    have Kp : Keep h0 h31 [] := Kp.wr W31 (Or.inr sz_b11)
    have E_b11 : Exa Z h31 b11 "[C" := E_b11.wr W31
    have V_b11 : Arv Z h31 b11 k11 .char (12 : Int32) [(.int (nar .char (110 : Int32))), (.int (nar .char (111 : Int32))), (.int (nar .char (116 : Int32))), (.int (nar .char (105 : Int32))), (.int (nar .char (102 : Int32))), (.int (nar .char (105 : Int32))), (.int (nar .char (99 : Int32))), (.int (nar .char (97 : Int32))), (.int (nar .char (116 : Int32))), (.int (nar .char (105 : Int32))), (.int (0 : Int32)), (.int (0 : Int32))] (.int (0 : Int32)) := Arv.set Ar30 q30 S30 M30 H30 G30 (fits_nar_char _) W31 9 rfl (Nat.le_of_ble_eq_true rfl)
    obtain ⟨cl32, Ar32, q32, S32, M32, H32, G32⟩ := V_b11
    obtain ⟨T33, h33, X33, e33, W33, st33⟩ := stC X31 hx hZ e31 Ar32 (j := (10 : Int32)) (inb_of S32 (by decide)) (g := (mkF m 75 #[.val (.int p1), .val (.int p2), .val (.int p3), .val (.int p4), .val (.int p5), .unset] [(.int (111 : Int32)), (.int (10 : Int32)), (.ref b11), (.ref b11)])) rfl rfl (hb hby d1_75)
    have N33 := Fr.snoc X33 N31 g_b11
    have Sw := ((Safe.exa hZ.alike E_b11 (by decide) (by decide)) : Safe Z ELs s.vm _ b11)
    have Hd : CHr Z ELs s.vm h0 s.vm h33 := Hc.trans (CHr.wr W33 Sw Hc.1)
    have Hc := Hd
    have Zs : n0 ≤ h33.size := Nat.le_trans Zs (Keep.of_wr W33).1
    have Ol : Old Z n0 h33 := Ol.wr W33 g_b11
    have Kp : Keep h0 h33 [] := Kp.wr W33 (Or.inr sz_b11)
    have E_b11 : Exa Z h33 b11 "[C" := E_b11.wr W33
    have V_b11 : Arv Z h33 b11 k11 .char (12 : Int32) [(.int (nar .char (110 : Int32))), (.int (nar .char (111 : Int32))), (.int (nar .char (116 : Int32))), (.int (nar .char (105 : Int32))), (.int (nar .char (102 : Int32))), (.int (nar .char (105 : Int32))), (.int (nar .char (99 : Int32))), (.int (nar .char (97 : Int32))), (.int (nar .char (116 : Int32))), (.int (nar .char (105 : Int32))), (.int (nar .char (111 : Int32))), (.int (0 : Int32))] (.int (0 : Int32)) := Arv.set Ar32 q32 S32 M32 H32 G32 (fits_nar_char _) W33 10 rfl (Nat.le_of_ble_eq_true rfl)
    obtain ⟨cl34, Ar34, q34, S34, M34, H34, G34⟩ := V_b11
    obtain ⟨T35, h35, X35, e35, W35, st35⟩ := stC X33 hx hZ e33 Ar34 (j := (11 : Int32)) (inb_of S34 (by decide)) (g := (mkF m 81 #[.val (.int p1), .val (.int p2), .val (.int p3), .val (.int p4), .val (.int p5), .unset] [(.int (110 : Int32)), (.int (11 : Int32)), (.ref b11), (.ref b11)])) rfl rfl (hb hby d1_81)
    have N35 := Fr.snoc X35 N33 g_b11
    have Sw := ((Safe.exa hZ.alike E_b11 (by decide) (by decide)) : Safe Z ELs s.vm _ b11)
    have Hd : CHr Z ELs s.vm h0 s.vm h35 := Hc.trans (CHr.wr W35 Sw Hc.1)
    have Hc := Hd
    have Zs : n0 ≤ h35.size := Nat.le_trans Zs (Keep.of_wr W35).1
    have Ol : Old Z n0 h35 := Ol.wr W35 g_b11
    have Kp : Keep h0 h35 [] := Kp.wr W35 (Or.inr sz_b11)
    have E_b11 : Exa Z h35 b11 "[C" := E_b11.wr W35
    have V_b11 : Arv Z h35 b11 k11 .char (12 : Int32) [(.int (nar .char (110 : Int32))), (.int (nar .char (111 : Int32))), (.int (nar .char (116 : Int32))), (.int (nar .char (105 : Int32))), (.int (nar .char (102 : Int32))), (.int (nar .char (105 : Int32))), (.int (nar .char (99 : Int32))), (.int (nar .char (97 : Int32))), (.int (nar .char (116 : Int32))), (.int (nar .char (105 : Int32))), (.int (nar .char (111 : Int32))), (.int (nar .char (110 : Int32)))] (.int (0 : Int32)) := Arv.set Ar34 q34 S34 M34 H34 G34 (fits_nar_char _) W35 11 rfl (Nat.le_of_ble_eq_true rfl)
    have pre36 : ∀ t, Steps p.tables e below (T35.setTop (mkF m 559 #[.val (.int p1), .val (.int p2), .val (.int p3), .val (.int p4), .val (.int p5), .val (.ref b11)] [(.int p3)])) t → Steps p.tables e below (s₁.setTop (entryFrame m #[(.int p1), (.int p2), (.int p3), (.int p4), (.int p5)] 6)) t := fun t k => pre10 t (by
      show Steps p.tables e below (s₁.setTop (mkF m 9 #[.val (.int p1), .val (.int p2), .val (.int p3), .val (.int p4), .val (.int p5), .unset] [(.int p1)])) _
      refine XS.ifNo X0.here hx rfl (hb hby d1_9) rfl ((if0 _ _).trans (teq hc9).2) ?_
      show Steps p.tables e below (s₁.setTop (mkF m 12 #[.val (.int p1), .val (.int p2), .val (.int p3), .val (.int p4), .val (.int p5), .unset] [])) _
      refine XS.bipush X0.here hx rfl (hb hby d1_12) ?_
      show Steps p.tables e below (s₁.setTop (mkF m 14 #[.val (.int p1), .val (.int p2), .val (.int p3), .val (.int p4), .val (.int p5), .unset] [(.int (12 : Int32))])) _
      refine st11 _ ?_
      show Steps p.tables e below (T11.setTop (mkF m 16 #[.val (.int p1), .val (.int p2), .val (.int p3), .val (.int p4), .val (.int p5), .unset] [(.ref b11)])) _
      refine XS.dup X11.here hx rfl (hb hby d1_16) rfl rfl ?_
      show Steps p.tables e below (T11.setTop (mkF m 17 #[.val (.int p1), .val (.int p2), .val (.int p3), .val (.int p4), .val (.int p5), .unset] [(.ref b11), (.ref b11)])) _
      refine XS.iconst X11.here hx rfl (hb hby d1_17) ?_
      show Steps p.tables e below (T11.setTop (mkF m 18 #[.val (.int p1), .val (.int p2), .val (.int p3), .val (.int p4), .val (.int p5), .unset] [(.int (0 : Int32)), (.ref b11), (.ref b11)])) _
      refine XS.bipush X11.here hx rfl (hb hby d1_18) ?_
      show Steps p.tables e below (T11.setTop (mkF m 20 #[.val (.int p1), .val (.int p2), .val (.int p3), .val (.int p4), .val (.int p5), .unset] [(.int (110 : Int32)), (.int (0 : Int32)), (.ref b11), (.ref b11)])) _
      refine st13 _ ?_
      show Steps p.tables e below (T13.setTop (mkF m 21 #[.val (.int p1), .val (.int p2), .val (.int p3), .val (.int p4), .val (.int p5), .unset] [(.ref b11)])) _
      refine XS.dup X13.here hx rfl (hb hby d1_21) rfl rfl ?_
      show Steps p.tables e below (T13.setTop (mkF m 22 #[.val (.int p1), .val (.int p2), .val (.int p3), .val (.int p4), .val (.int p5), .unset] [(.ref b11), (.ref b11)])) _
      refine XS.iconst X13.here hx rfl (hb hby d1_22) ?_
      show Steps p.tables e below (T13.setTop (mkF m 23 #[.val (.int p1), .val (.int p2), .val (.int p3), .val (.int p4), .val (.int p5), .unset] [(.int (1 : Int32)), (.ref b11), (.ref b11)])) _
      refine XS.bipush X13.here hx rfl (hb hby d1_23) ?_
      show Steps p.tables e below (T13.setTop (mkF m 25 #[.val (.int p1), .val (.int p2), .val (.int p3), .val (.int p4), .val (.int p5), .unset] [(.int (111 : Int32)), (.int (1 : Int32)), (.ref b11), (.ref b11)])) _
      refine st15 _ ?_
      show Steps p.tables e below (T15.setTop (mkF m 26 #[.val (.int p1), .val (.int p2), .val (.int p3), .val (.int p4), .val (.int p5), .unset] [(.ref b11)])) _
      refine XS.dup X15.here hx rfl (hb hby d1_26) rfl rfl ?_
      show Steps p.tables e below (T15.setTop (mkF m 27 #[.val (.int p1), .val (.int p2), .val (.int p3), .val (.int p4), .val (.int p5), .unset] [(.ref b11), (.ref b11)])) _
      refine XS.iconst X15.here hx rfl (hb hby d1_27) ?_
      show Steps p.tables e below (T15.setTop (mkF m 28 #[.val (.int p1), .val (.int p2), .val (.int p3), .val (.int p4), .val (.int p5), .unset] [(.int (2 : Int32)), (.ref b11), (.ref b11)])) _
      refine XS.bipush X15.here hx rfl (hb hby d1_28) ?_
      show Steps p.tables e below (T15.setTop (mkF m 30 #[.val (.int p1), .val (.int p2), .val (.int p3), .val (.int p4), .val (.int p5), .unset] [(.int (116 : Int32)), (.int (2 : Int32)), (.ref b11), (.ref b11)])) _
      refine st17 _ ?_
      show Steps p.tables e below (T17.setTop (mkF m 31 #[.val (.int p1), .val (.int p2), .val (.int p3), .val (.int p4), .val (.int p5), .unset] [(.ref b11)])) _
      refine XS.dup X17.here hx rfl (hb hby d1_31) rfl rfl ?_
      show Steps p.tables e below (T17.setTop (mkF m 32 #[.val (.int p1), .val (.int p2), .val (.int p3), .val (.int p4), .val (.int p5), .unset] [(.ref b11), (.ref b11)])) _
      refine XS.iconst X17.here hx rfl (hb hby d1_32) ?_
      show Steps p.tables e below (T17.setTop (mkF m 33 #[.val (.int p1), .val (.int p2), .val (.int p3), .val (.int p4), .val (.int p5), .unset] [(.int (3 : Int32)), (.ref b11), (.ref b11)])) _
      refine XS.bipush X17.here hx rfl (hb hby d1_33) ?_
      show Steps p.tables e below (T17.setTop (mkF m 35 #[.val (.int p1), .val (.int p2), .val (.int p3), .val (.int p4), .val (.int p5), .unset] [(.int (105 : Int32)), (.int (3 : Int32)), (.ref b11), (.ref b11)])) _
      refine st19 _ ?_
      show Steps p.tables e below (T19.setTop (mkF m 36 #[.val (.int p1), .val (.int p2), .val (.int p3), .val (.int p4), .val (.int p5), .unset] [(.ref b11)])) _
      refine XS.dup X19.here hx rfl (hb hby d1_36) rfl rfl ?_
      show Steps p.tables e below (T19.setTop (mkF m 37 #[.val (.int p1), .val (.int p2), .val (.int p3), .val (.int p4), .val (.int p5), .unset] [(.ref b11), (.ref b11)])) _
      refine XS.iconst X19.here hx rfl (hb hby d1_37) ?_
      show Steps p.tables e below (T19.setTop (mkF m 38 #[.val (.int p1), .val (.int p2), .val (.int p3), .val (.int p4), .val (.int p5), .unset] [(.int (4 : Int32)), (.ref b11), (.ref b11)])) _
      refine XS.bipush X19.here hx rfl (hb hby d1_38) ?_
      show Steps p.tables e below (T19.setTop (mkF m 40 #[.val (.int p1), .val (.int p2), .val (.int p3), .val (.int p4), .val (.int p5), .unset] [(.int (102 : Int32)), (.int (4 : Int32)), (.ref b11), (.ref b11)])) _
      refine st21 _ ?_
      show Steps p.tables e below (T21.setTop (mkF m 41 #[.val (.int p1), .val (.int p2), .val (.int p3), .val (.int p4), .val (.int p5), .unset] [(.ref b11)])) _
      refine XS.dup X21.here hx rfl (hb hby d1_41) rfl rfl ?_
      show Steps p.tables e below (T21.setTop (mkF m 42 #[.val (.int p1), .val (.int p2), .val (.int p3), .val (.int p4), .val (.int p5), .unset] [(.ref b11), (.ref b11)])) _
      refine XS.iconst X21.here hx rfl (hb hby d1_42) ?_
      show Steps p.tables e below (T21.setTop (mkF m 43 #[.val (.int p1), .val (.int p2), .val (.int p3), .val (.int p4), .val (.int p5), .unset] [(.int (5 : Int32)), (.ref b11), (.ref b11)])) _
      refine XS.bipush X21.here hx rfl (hb hby d1_43) ?_
      show Steps p.tables e below (T21.setTop (mkF m 45 #[.val (.int p1), .val (.int p2), .val (.int p3), .val (.int p4), .val (.int p5), .unset] [(.int (105 : Int32)), (.int (5 : Int32)), (.ref b11), (.ref b11)])) _
      refine st23 _ ?_
      show Steps p.tables e below (T23.setTop (mkF m 46 #[.val (.int p1), .val (.int p2), .val (.int p3), .val (.int p4), .val (.int p5), .unset] [(.ref b11)])) _
      refine XS.dup X23.here hx rfl (hb hby d1_46) rfl rfl ?_
      show Steps p.tables e below (T23.setTop (mkF m 47 #[.val (.int p1), .val (.int p2), .val (.int p3), .val (.int p4), .val (.int p5), .unset] [(.ref b11), (.ref b11)])) _
      refine XS.bipush X23.here hx rfl (hb hby d1_47) ?_
      show Steps p.tables e below (T23.setTop (mkF m 49 #[.val (.int p1), .val (.int p2), .val (.int p3), .val (.int p4), .val (.int p5), .unset] [(.int (6 : Int32)), (.ref b11), (.ref b11)])) _
      refine XS.bipush X23.here hx rfl (hb hby d1_49) ?_
      show Steps p.tables e below (T23.setTop (mkF m 51 #[.val (.int p1), .val (.int p2), .val (.int p3), .val (.int p4), .val (.int p5), .unset] [(.int (99 : Int32)), (.int (6 : Int32)), (.ref b11), (.ref b11)])) _
      refine st25 _ ?_
      show Steps p.tables e below (T25.setTop (mkF m 52 #[.val (.int p1), .val (.int p2), .val (.int p3), .val (.int p4), .val (.int p5), .unset] [(.ref b11)])) _
      refine XS.dup X25.here hx rfl (hb hby d1_52) rfl rfl ?_
      show Steps p.tables e below (T25.setTop (mkF m 53 #[.val (.int p1), .val (.int p2), .val (.int p3), .val (.int p4), .val (.int p5), .unset] [(.ref b11), (.ref b11)])) _
      refine XS.bipush X25.here hx rfl (hb hby d1_53) ?_
      show Steps p.tables e below (T25.setTop (mkF m 55 #[.val (.int p1), .val (.int p2), .val (.int p3), .val (.int p4), .val (.int p5), .unset] [(.int (7 : Int32)), (.ref b11), (.ref b11)])) _
      refine XS.bipush X25.here hx rfl (hb hby d1_55) ?_
      show Steps p.tables e below (T25.setTop (mkF m 57 #[.val (.int p1), .val (.int p2), .val (.int p3), .val (.int p4), .val (.int p5), .unset] [(.int (97 : Int32)), (.int (7 : Int32)), (.ref b11), (.ref b11)])) _
      refine st27 _ ?_
      show Steps p.tables e below (T27.setTop (mkF m 58 #[.val (.int p1), .val (.int p2), .val (.int p3), .val (.int p4), .val (.int p5), .unset] [(.ref b11)])) _
      refine XS.dup X27.here hx rfl (hb hby d1_58) rfl rfl ?_
      show Steps p.tables e below (T27.setTop (mkF m 59 #[.val (.int p1), .val (.int p2), .val (.int p3), .val (.int p4), .val (.int p5), .unset] [(.ref b11), (.ref b11)])) _
      refine XS.bipush X27.here hx rfl (hb hby d1_59) ?_
      show Steps p.tables e below (T27.setTop (mkF m 61 #[.val (.int p1), .val (.int p2), .val (.int p3), .val (.int p4), .val (.int p5), .unset] [(.int (8 : Int32)), (.ref b11), (.ref b11)])) _
      refine XS.bipush X27.here hx rfl (hb hby d1_61) ?_
      show Steps p.tables e below (T27.setTop (mkF m 63 #[.val (.int p1), .val (.int p2), .val (.int p3), .val (.int p4), .val (.int p5), .unset] [(.int (116 : Int32)), (.int (8 : Int32)), (.ref b11), (.ref b11)])) _
      refine st29 _ ?_
      show Steps p.tables e below (T29.setTop (mkF m 64 #[.val (.int p1), .val (.int p2), .val (.int p3), .val (.int p4), .val (.int p5), .unset] [(.ref b11)])) _
      refine XS.dup X29.here hx rfl (hb hby d1_64) rfl rfl ?_
      show Steps p.tables e below (T29.setTop (mkF m 65 #[.val (.int p1), .val (.int p2), .val (.int p3), .val (.int p4), .val (.int p5), .unset] [(.ref b11), (.ref b11)])) _
      refine XS.bipush X29.here hx rfl (hb hby d1_65) ?_
      show Steps p.tables e below (T29.setTop (mkF m 67 #[.val (.int p1), .val (.int p2), .val (.int p3), .val (.int p4), .val (.int p5), .unset] [(.int (9 : Int32)), (.ref b11), (.ref b11)])) _
      refine XS.bipush X29.here hx rfl (hb hby d1_67) ?_
      show Steps p.tables e below (T29.setTop (mkF m 69 #[.val (.int p1), .val (.int p2), .val (.int p3), .val (.int p4), .val (.int p5), .unset] [(.int (105 : Int32)), (.int (9 : Int32)), (.ref b11), (.ref b11)])) _
      refine st31 _ ?_
      show Steps p.tables e below (T31.setTop (mkF m 70 #[.val (.int p1), .val (.int p2), .val (.int p3), .val (.int p4), .val (.int p5), .unset] [(.ref b11)])) _
      refine XS.dup X31.here hx rfl (hb hby d1_70) rfl rfl ?_
      show Steps p.tables e below (T31.setTop (mkF m 71 #[.val (.int p1), .val (.int p2), .val (.int p3), .val (.int p4), .val (.int p5), .unset] [(.ref b11), (.ref b11)])) _
      refine XS.bipush X31.here hx rfl (hb hby d1_71) ?_
      show Steps p.tables e below (T31.setTop (mkF m 73 #[.val (.int p1), .val (.int p2), .val (.int p3), .val (.int p4), .val (.int p5), .unset] [(.int (10 : Int32)), (.ref b11), (.ref b11)])) _
      refine XS.bipush X31.here hx rfl (hb hby d1_73) ?_
      show Steps p.tables e below (T31.setTop (mkF m 75 #[.val (.int p1), .val (.int p2), .val (.int p3), .val (.int p4), .val (.int p5), .unset] [(.int (111 : Int32)), (.int (10 : Int32)), (.ref b11), (.ref b11)])) _
      refine st33 _ ?_
      show Steps p.tables e below (T33.setTop (mkF m 76 #[.val (.int p1), .val (.int p2), .val (.int p3), .val (.int p4), .val (.int p5), .unset] [(.ref b11)])) _
      refine XS.dup X33.here hx rfl (hb hby d1_76) rfl rfl ?_
      show Steps p.tables e below (T33.setTop (mkF m 77 #[.val (.int p1), .val (.int p2), .val (.int p3), .val (.int p4), .val (.int p5), .unset] [(.ref b11), (.ref b11)])) _
      refine XS.bipush X33.here hx rfl (hb hby d1_77) ?_
      show Steps p.tables e below (T33.setTop (mkF m 79 #[.val (.int p1), .val (.int p2), .val (.int p3), .val (.int p4), .val (.int p5), .unset] [(.int (11 : Int32)), (.ref b11), (.ref b11)])) _
      refine XS.bipush X33.here hx rfl (hb hby d1_79) ?_
      show Steps p.tables e below (T33.setTop (mkF m 81 #[.val (.int p1), .val (.int p2), .val (.int p3), .val (.int p4), .val (.int p5), .unset] [(.int (110 : Int32)), (.int (11 : Int32)), (.ref b11), (.ref b11)])) _
      refine st35 _ ?_
      show Steps p.tables e below (T35.setTop (mkF m 82 #[.val (.int p1), .val (.int p2), .val (.int p3), .val (.int p4), .val (.int p5), .unset] [(.ref b11)])) _
      refine XS.astore X35.here hx rfl (hb hby d1_82) rfl rfl (l' := #[.val (.int p1), .val (.int p2), .val (.int p3), .val (.int p4), .val (.int p5), .val (.ref b11)]) rfl ?_
      show Steps p.tables e below (T35.setTop (mkF m 84 #[.val (.int p1), .val (.int p2), .val (.int p3), .val (.int p4), .val (.int p5), .val (.ref b11)] [])) _
      refine XS.goto X35.here hx rfl (pc0 := 84) (pc' := 558) rfl (hb hby d1_84) (by decide) (by decide) ?_
      show Steps p.tables e below (T35.setTop (mkF m 558 #[.val (.int p1), .val (.int p2), .val (.int p3), .val (.int p4), .val (.int p5), .val (.ref b11)] [])) _
      refine XS.iloadN X35.here hx rfl (hb hby d1_558) rfl ?_
      exact k)
    by_cases hc559 : p3 = (0 : Int32)
    ·
      obtain ⟨T37, h37, X37, e37, E37, A37, D37, -, st37⟩ := newO X35 hx hZ hown (hw _ (List.mem_of_getElem? (i := 6) rfl)) (hw _ (List.mem_of_getElem? (i := 7) rfl)) (hw _ (List.mem_of_getElem? (i := 8) rfl)) e35 (g := (mkF m 581 #[.val (.int p1), .val (.int p2), .val (.int p3), .val (.int p4), .val (.int p5), .val (.ref b11)] [])) rfl (hb hby d1_581) (by decide) (by decide)
      obtain ⟨b37, g37⟩ : ∃ z, z = h35.size := ⟨_, rfl⟩
      rw [← g37] at A37 D37 st37
      have g_b37 : n0 ≤ b37 := Nat.le_trans Zs (Nat.le_of_eq g37.symm)
      have sz_b37 : h0.size ≤ b37 := Nat.le_trans Kp.1 (Nat.le_of_eq g37.symm)
      have ne_b11_b37 : b11 ≠ b37 := Nat.ne_of_lt (Nat.lt_of_lt_of_le E_b11.lt (Nat.le_of_eq g37.symm))
      have Sf_b37 : Safe Z ELs s.vm h35 b37 := Safe.new (Nat.le_of_eq g37.symm)
      have Hd : CHr Z ELs s.vm h0 s.vm h37 := Hc.trans (CHr.ext E37 Hc.1)
      have Sg_b37 : Safe Z ELs s.vm h37 b37 := Safe.ext E37 Hc.1 Sf_b37
      have Sf_b37 := Sg_b37
      have Hc := Hd
      have Zs : n0 ≤ h37.size := Nat.le_trans Zs E37.1
      have Ol : Old Z n0 h37 := Ol.ext E37
      have Kp : Keep h0 h37 [] := Kp.ext E37
      have E_b11 : Exa Z h37 b11 "[C" := E_b11.ext E37
      have V_b11 : Arv Z h37 b11 k11 .char (12 : Int32) [(.int (nar .char (110 : Int32))), (.int (nar .char (111 : Int32))), (.int (nar .char (116 : Int32))), (.int (nar .char (105 : Int32))), (.int (nar .char (102 : Int32))), (.int (nar .char (105 : Int32))), (.int (nar .char (99 : Int32))), (.int (nar .char (97 : Int32))), (.int (nar .char (116 : Int32))), (.int (nar .char (105 : Int32))), (.int (nar .char (111 : Int32))), (.int (nar .char (110 : Int32)))] (.int (0 : Int32)) := V_b11.ext E37
      have E_b37 : Exa Z h37 b37 "java/lang/String" := A37
      have F_coder_b37 : Fld Z h37 b37 "java/lang/String" "coder" "B" (.int (0 : Int32)) := D37 (Or.inr (hw _ (List.mem_of_getElem? (i := 32) rfl))) (ty := .byte) (by decide)
      have F_value_b37 : Fld Z h37 b37 "java/lang/String" "value" "[B" .null := D37 (Or.inr (hw _ (List.mem_of_getElem? (i := 34) rfl))) (ty := (.array .byte)) (by decide)
      obtain ⟨_, _, ⟨T38, L38, k38, n38⟩, -, X38, ⟨Lc38, hQ38, l38, y38, z38⟩, st38⟩ := X37.specialBack hx (y := (⟨"java/lang/String", "<init>", "([C)V"⟩ : MethodName)) rfl hown (mvT hZ (hw _ (List.mem_of_getElem? (i := 9) rfl))) (mvT hZ (hw _ (List.mem_of_getElem? (i := 10) rfl))) (mvT hZ (hw _ (List.mem_of_getElem? (i := 11) rfl))) (by decide) (own_new (W := 1) hZ hw g_b37 Zs E_b37 F_value_b37 F_coder_b37 (cs := [(nar .char (110 : Int32)), (nar .char (111 : Int32)), (nar .char (116 : Int32)), (nar .char (105 : Int32)), (nar .char (102 : Int32)), (nar .char (105 : Int32)), (nar .char (99 : Int32)), (nar .char (97 : Int32)), (nar .char (116 : Int32)), (nar .char (105 : Int32)), (nar .char (111 : Int32)), (nar .char (110 : Int32))]) (n := 12) V_b11 (Sta.ext Ol.2 S_COMPACT_STRINGS) hzc rfl rfl (by decide) (by decide) (alIS (by decide) (alIS (by decide) (alIS (by decide) (alIS (by decide) (alIS (by decide) (alIS (by decide) (alIS (by decide) (alIS (by decide) (alIS (by decide) (alIS (by decide) (alIS (by decide) (alIS (by decide) alI0)))))))))))) (by decide) (by decide)) (g := (mkF m 587 #[.val (.int p1), .val (.int p2), .val (.int p3), .val (.int p4), .val (.int p5), .val (.ref b11)] [(.ref b11), (.ref b37), (.ref b37)])) rfl (by rw [hml]; rfl) (Steps.refl _) (a := b37) (argsL := [(.ref b11)]) (rest := [(.ref b37)]) (lenOf pd_1 rfl) rfl (by show 2 * 0 + _ ≤ _; exact Nat.le_of_eq rfl) (hb hby d1_587) (fun _ _ => ⟨rfl, e37, (by decide : 2 + 1 ≤ _), (by decide : 16 + 12 ≤ _)⟩)
      dsimp only [Pt.U, Pt.locs, Pt.cells, Pt.slots] at X38 l38 y38 z38 st38 hQ38
      subst l38 y38 z38
      obtain ⟨rfl, N38q, K38, T38x⟩ := hQ38
      have Hd : CHr Z ELs s.vm h0 s.vm T38.heap := Hc.trans (CHr.keep K38 (allS (Sf_b37 : Safe Z ELs s.vm _ b37) all0) Hc.1)
      have Sg_b37 : Safe Z ELs s.vm T38.heap b37 := Safe.keep K38 (allS (Sf_b37 : Safe Z ELs s.vm _ b37) all0) Hc.1 Sf_b37
      have Sf_b37 := Sg_b37
      have Hc := Hd
      have Zs : n0 ≤ T38.heap.size := Nat.le_trans Zs K38.1
      have Ol : Old Z n0 T38.heap := Ol.keep K38 (allS g_b37 all0)
      have Kp : Keep h0 T38.heap [] := Kp.trans K38 (allS (Or.inr sz_b37) all0)
      have E_b11 : Exa Z T38.heap b11 "[C" := E_b11.keep K38
      have E_b37 : Exa Z T38.heap b37 "java/lang/String" := E_b37.keep K38
      have T_b37 : Stx Z T38.heap b37 [(nar .char (110 : Int32)), (nar .char (111 : Int32)), (nar .char (116 : Int32)), (nar .char (105 : Int32)), (nar .char (102 : Int32)), (nar .char (105 : Int32)), (nar .char (99 : Int32)), (nar .char (97 : Int32)), (nar .char (116 : Int32)), (nar .char (105 : Int32)), (nar .char (111 : Int32)), (nar .char (110 : Int32))] := T38x
      have N38 := Fr.app N35 N38q
      obtain ⟨fs, hr, hrun, hended, hRW⟩ := X38.leaveW (s := s) (vm₁ := s.vm) ((State.WarmedH.refl s).since 0) (Nat.zero_le _) (v := some (.ref b37)) (fun h => by rw [Bd.returns] at h; cases h)
      have hCR : CHr Z ELs s.vm h0 T38.vm T38.heap := Hc.trans (CHv.at X38 hZ hEL Hc.1)
      refine ⟨_, _, pre36 _ ?_, hrun, hended, _, _, rfl, ?_, (by rw [hh]; show CHr Z ELs s.vm h0 T38.vm T38.heap; exact hCR), ⟨hRW.1, hRW.2.1, hRW.2.2.1, hRW.2.2.2.mono (by decide) (by decide)⟩⟩
      · show Steps p.tables e below (T35.setTop (mkF m 559 #[.val (.int p1), .val (.int p2), .val (.int p3), .val (.int p4), .val (.int p5), .val (.ref b11)] [(.int p3)])) _
        refine XS.ifYes X35.here hx rfl (pc0 := 559) (pc' := 581) rfl (hb hby d1_559) rfl ((if0 _ _).trans (teq hc559).1) (by decide) (by decide) ?_
        show Steps p.tables e below (T35.setTop (mkF m 581 #[.val (.int p1), .val (.int p2), .val (.int p3), .val (.int p4), .val (.int p5), .val (.ref b11)] [])) _
        refine st37 _ ?_
        show Steps p.tables e below (T37.setTop (mkF m 584 #[.val (.int p1), .val (.int p2), .val (.int p3), .val (.int p4), .val (.int p5), .val (.ref b11)] [(.ref b37)])) _
        refine XS.dup X37.here hx rfl (hb hby d1_584) rfl rfl ?_
        show Steps p.tables e below (T37.setTop (mkF m 585 #[.val (.int p1), .val (.int p2), .val (.int p3), .val (.int p4), .val (.int p5), .val (.ref b11)] [(.ref b37), (.ref b37)])) _
        refine XS.aload X37.here hx rfl (hb hby d1_585) rfl rfl ?_
        show Steps p.tables e below (T37.setTop (mkF m 587 #[.val (.int p1), .val (.int p2), .val (.int p3), .val (.int p4), .val (.int p5), .val (.ref b11)] [(.ref b11), (.ref b37), (.ref b37)])) _
        refine st38.trans ?_
        show Steps p.tables e below (T38.setTop (mkF m 590 #[.val (.int p1), .val (.int p2), .val (.int p3), .val (.int p4), .val (.int p5), .val (.ref b11)] [(.ref b37)])) _
        exact retOut X38 hx Bd.returns rfl (Or.inr (Or.inr (Or.inr (Or.inr ⟨rfl, rfl, rfl⟩)))) (hb hby d1_590) hr
      · show QB Z p1 p2 p3 p4 p5 zc h0 n0 _ T38.heap _
        exact ⟨b37, [(nar .char (110 : Int32)), (nar .char (111 : Int32)), (nar .char (116 : Int32)), (nar .char (105 : Int32)), (nar .char (102 : Int32)), (nar .char (105 : Int32)), (nar .char (99 : Int32)), (nar .char (97 : Int32)), (nar .char (116 : Int32)), (nar .char (105 : Int32)), (nar .char (111 : Int32)), (nar .char (110 : Int32))], rfl, N38, Kp, E_b37, T_b37⟩
    ·
      obtain ⟨cl39, Ar39, hl39⟩ := Arv.len V_b11 (by decide)
      have ia39 := State.isArrayOf_alike hZ.alike Ar39.2.1
      obtain ⟨cl40, Ar40, hl40⟩ := Arv.len V_b11 (by decide)
      have ia40 := State.isArrayOf_alike hZ.alike Ar40.2.1
      obtain ⟨cl41, Ar41, q41, S41, M41, H41, G41⟩ := V_b11
      obtain ⟨T42, h42, X42, e42, W42, st42⟩ := stC X35 hx hZ e35 Ar41 (j := ((p2 &&& (2147483647 : Int32)) % (12 : Int32))) (inb_of S41 (own_rem p2 (by decide))) (g := (mkF m 580 #[.val (.int p1), .val (.int p2), .val (.int p3), .val (.int p4), .val (.int p5), .val (.ref b11)] [(.int p5), (.int ((p2 &&& (2147483647 : Int32)) % (12 : Int32))), (.ref b11)])) rfl rfl (hb hby d1_580)
      have N42 := Fr.snoc X42 N35 g_b11
      have Sw := ((Safe.exa hZ.alike E_b11 (by decide) (by decide)) : Safe Z ELs s.vm _ b11)
      have Hd : CHr Z ELs s.vm h0 s.vm h42 := Hc.trans (CHr.wr W42 Sw Hc.1)
      have Hc := Hd
      have Zs : n0 ≤ h42.size := Nat.le_trans Zs (Keep.of_wr W42).1
      have Ol : Old Z n0 h42 := Ol.wr W42 g_b11
      have Kp : Keep h0 h42 [] := Kp.wr W42 (Or.inr sz_b11)
      have E_b11 : Exa Z h42 b11 "[C" := E_b11.wr W42
      have V_b11 : Arv Z h42 b11 k11 .char (12 : Int32) ((([(nar .char (110 : Int32)), (nar .char (111 : Int32)), (nar .char (116 : Int32)), (nar .char (105 : Int32)), (nar .char (102 : Int32)), (nar .char (105 : Int32)), (nar .char (99 : Int32)), (nar .char (97 : Int32)), (nar .char (116 : Int32)), (nar .char (105 : Int32)), (nar .char (111 : Int32)), (nar .char (110 : Int32))] : List Int32).set ((p2 &&& (2147483647 : Int32)) % (12 : Int32)).toNatClampNeg (nar .char p5)).map Value.int) (.int (0 : Int32)) := by rw [List.map_set]; exact Arv.set Ar41 q41 S41 M41 H41 G41 (fits_nar_char _) W42 _ rfl (own_ix (own_rem p2 (by decide)) (Nat.le_of_eq rfl))
      obtain ⟨T43, h43, X43, e43, E43, A43, D43, -, st43⟩ := newO X42 hx hZ hown (hw _ (List.mem_of_getElem? (i := 6) rfl)) (hw _ (List.mem_of_getElem? (i := 7) rfl)) (hw _ (List.mem_of_getElem? (i := 8) rfl)) e42 (g := (mkF m 581 #[.val (.int p1), .val (.int p2), .val (.int p3), .val (.int p4), .val (.int p5), .val (.ref b11)] [])) rfl (hb hby d1_581) (by decide) (by decide)
      obtain ⟨b43, g43⟩ : ∃ z, z = h42.size := ⟨_, rfl⟩
      rw [← g43] at A43 D43 st43
      have g_b43 : n0 ≤ b43 := Nat.le_trans Zs (Nat.le_of_eq g43.symm)
      have sz_b43 : h0.size ≤ b43 := Nat.le_trans Kp.1 (Nat.le_of_eq g43.symm)
      have ne_b11_b43 : b11 ≠ b43 := Nat.ne_of_lt (Nat.lt_of_lt_of_le E_b11.lt (Nat.le_of_eq g43.symm))
      have Sf_b43 : Safe Z ELs s.vm h42 b43 := Safe.new (Nat.le_of_eq g43.symm)
      have Hd : CHr Z ELs s.vm h0 s.vm h43 := Hc.trans (CHr.ext E43 Hc.1)
      have Sg_b43 : Safe Z ELs s.vm h43 b43 := Safe.ext E43 Hc.1 Sf_b43
      have Sf_b43 := Sg_b43
      have Hc := Hd
      have Zs : n0 ≤ h43.size := Nat.le_trans Zs E43.1
      have Ol : Old Z n0 h43 := Ol.ext E43
      have Kp : Keep h0 h43 [] := Kp.ext E43
      have E_b11 : Exa Z h43 b11 "[C" := E_b11.ext E43
      have V_b11 : Arv Z h43 b11 k11 .char (12 : Int32) ((([(nar .char (110 : Int32)), (nar .char (111 : Int32)), (nar .char (116 : Int32)), (nar .char (105 : Int32)), (nar .char (102 : Int32)), (nar .char (105 : Int32)), (nar .char (99 : Int32)), (nar .char (97 : Int32)), (nar .char (116 : Int32)), (nar .char (105 : Int32)), (nar .char (111 : Int32)), (nar .char (110 : Int32))] : List Int32).set ((p2 &&& (2147483647 : Int32)) % (12 : Int32)).toNatClampNeg (nar .char p5)).map Value.int) (.int (0 : Int32)) := V_b11.ext E43
      have E_b43 : Exa Z h43 b43 "java/lang/String" := A43
      have F_coder_b43 : Fld Z h43 b43 "java/lang/String" "coder" "B" (.int (0 : Int32)) := D43 (Or.inr (hw _ (List.mem_of_getElem? (i := 32) rfl))) (ty := .byte) (by decide)
      have F_value_b43 : Fld Z h43 b43 "java/lang/String" "value" "[B" .null := D43 (Or.inr (hw _ (List.mem_of_getElem? (i := 34) rfl))) (ty := (.array .byte)) (by decide)
      obtain ⟨_, _, ⟨T44, L44, k44, n44⟩, -, X44, ⟨Lc44, hQ44, l44, y44, z44⟩, st44⟩ := X43.specialBack hx (y := (⟨"java/lang/String", "<init>", "([C)V"⟩ : MethodName)) rfl hown (mvT hZ (hw _ (List.mem_of_getElem? (i := 9) rfl))) (mvT hZ (hw _ (List.mem_of_getElem? (i := 10) rfl))) (mvT hZ (hw _ (List.mem_of_getElem? (i := 11) rfl))) (by decide) (own_new (W := 1) hZ hw g_b43 Zs E_b43 F_value_b43 F_coder_b43 (cs := (([(nar .char (110 : Int32)), (nar .char (111 : Int32)), (nar .char (116 : Int32)), (nar .char (105 : Int32)), (nar .char (102 : Int32)), (nar .char (105 : Int32)), (nar .char (99 : Int32)), (nar .char (97 : Int32)), (nar .char (116 : Int32)), (nar .char (105 : Int32)), (nar .char (111 : Int32)), (nar .char (110 : Int32))] : List Int32).set ((p2 &&& (2147483647 : Int32)) % (12 : Int32)).toNatClampNeg (nar .char p5))) (n := 12) V_b11 (Sta.ext Ol.2 S_COMPACT_STRINGS) hzc (by rw [List.length_set]; rfl) rfl (by decide) (by decide) (own_set (alIS (by decide) (alIS (by decide) (alIS (by decide) (alIS (by decide) (alIS (by decide) (alIS (by decide) (alIS (by decide) (alIS (by decide) (alIS (by decide) (alIS (by decide) (alIS (by decide) (alIS (by decide) alI0)))))))))))) hd) (by decide) (by decide)) (g := (mkF m 587 #[.val (.int p1), .val (.int p2), .val (.int p3), .val (.int p4), .val (.int p5), .val (.ref b11)] [(.ref b11), (.ref b43), (.ref b43)])) rfl (by rw [hml]; rfl) (Steps.refl _) (a := b43) (argsL := [(.ref b11)]) (rest := [(.ref b43)]) (lenOf pd_1 rfl) rfl (by show 2 * 0 + _ ≤ _; exact Nat.le_of_eq rfl) (hb hby d1_587) (fun _ _ => ⟨rfl, e43, (by decide : 2 + 1 ≤ _), (by decide : 16 + 12 ≤ _)⟩)
      dsimp only [Pt.U, Pt.locs, Pt.cells, Pt.slots] at X44 l44 y44 z44 st44 hQ44
      subst l44 y44 z44
      obtain ⟨rfl, N44q, K44, T44x⟩ := hQ44
      have Hd : CHr Z ELs s.vm h0 s.vm T44.heap := Hc.trans (CHr.keep K44 (allS (Sf_b43 : Safe Z ELs s.vm _ b43) all0) Hc.1)
      have Sg_b43 : Safe Z ELs s.vm T44.heap b43 := Safe.keep K44 (allS (Sf_b43 : Safe Z ELs s.vm _ b43) all0) Hc.1 Sf_b43
      have Sf_b43 := Sg_b43
      have Hc := Hd
      have Zs : n0 ≤ T44.heap.size := Nat.le_trans Zs K44.1
      have Ol : Old Z n0 T44.heap := Ol.keep K44 (allS g_b43 all0)
      have Kp : Keep h0 T44.heap [] := Kp.trans K44 (allS (Or.inr sz_b43) all0)
      have E_b11 : Exa Z T44.heap b11 "[C" := E_b11.keep K44
      have E_b43 : Exa Z T44.heap b43 "java/lang/String" := E_b43.keep K44
      have T_b43 : Stx Z T44.heap b43 (([(nar .char (110 : Int32)), (nar .char (111 : Int32)), (nar .char (116 : Int32)), (nar .char (105 : Int32)), (nar .char (102 : Int32)), (nar .char (105 : Int32)), (nar .char (99 : Int32)), (nar .char (97 : Int32)), (nar .char (116 : Int32)), (nar .char (105 : Int32)), (nar .char (111 : Int32)), (nar .char (110 : Int32))] : List Int32).set ((p2 &&& (2147483647 : Int32)) % (12 : Int32)).toNatClampNeg (nar .char p5)) := T44x
      have N44 := Fr.app N42 N44q
      obtain ⟨fs, hr, hrun, hended, hRW⟩ := X44.leaveW (s := s) (vm₁ := s.vm) ((State.WarmedH.refl s).since 0) (Nat.zero_le _) (v := some (.ref b43)) (fun h => by rw [Bd.returns] at h; cases h)
      have hCR : CHr Z ELs s.vm h0 T44.vm T44.heap := Hc.trans (CHv.at X44 hZ hEL Hc.1)
      refine ⟨_, _, pre36 _ ?_, hrun, hended, _, _, rfl, ?_, (by rw [hh]; show CHr Z ELs s.vm h0 T44.vm T44.heap; exact hCR), ⟨hRW.1, hRW.2.1, hRW.2.2.1, hRW.2.2.2.mono (by decide) (by decide)⟩⟩
      · show Steps p.tables e below (T35.setTop (mkF m 559 #[.val (.int p1), .val (.int p2), .val (.int p3), .val (.int p4), .val (.int p5), .val (.ref b11)] [(.int p3)])) _
        refine XS.ifNo X35.here hx rfl (hb hby d1_559) rfl ((if0 _ _).trans (feq hc559).1) ?_
        show Steps p.tables e below (T35.setTop (mkF m 562 #[.val (.int p1), .val (.int p2), .val (.int p3), .val (.int p4), .val (.int p5), .val (.ref b11)] [])) _
        refine XS.aload X35.here hx rfl (hb hby d1_562) rfl rfl ?_
        show Steps p.tables e below (T35.setTop (mkF m 564 #[.val (.int p1), .val (.int p2), .val (.int p3), .val (.int p4), .val (.int p5), .val (.ref b11)] [(.ref b11)])) _
        refine X35.arraylength hx (by rw [e35]; exact Ar39.1) ia39 (g := (mkF m 564 #[.val (.int p1), .val (.int p2), .val (.int p3), .val (.int p4), .val (.int p5), .val (.ref b11)] [(.ref b11)])) rfl rfl (hb hby d1_564) _ ?_
        rw [hl39]
        show Steps p.tables e below (T35.setTop (mkF m 565 #[.val (.int p1), .val (.int p2), .val (.int p3), .val (.int p4), .val (.int p5), .val (.ref b11)] [(.int (12 : Int32))])) _
        refine XS.ifNo X35.here hx rfl (hb hby d1_565) rfl ((if0 _ _).trans (tlt (by decide)).2.2.2) ?_
        show Steps p.tables e below (T35.setTop (mkF m 568 #[.val (.int p1), .val (.int p2), .val (.int p3), .val (.int p4), .val (.int p5), .val (.ref b11)] [])) _
        refine XS.aload X35.here hx rfl (hb hby d1_568) rfl rfl ?_
        show Steps p.tables e below (T35.setTop (mkF m 570 #[.val (.int p1), .val (.int p2), .val (.int p3), .val (.int p4), .val (.int p5), .val (.ref b11)] [(.ref b11)])) _
        refine XS.iloadN X35.here hx rfl (hb hby d1_570) rfl ?_
        show Steps p.tables e below (T35.setTop (mkF m 571 #[.val (.int p1), .val (.int p2), .val (.int p3), .val (.int p4), .val (.int p5), .val (.ref b11)] [(.int p2), (.ref b11)])) _
        refine X35.ldcInt hx hown (mvT hZ (hw _ (List.mem_of_getElem? (i := 0) rfl))) (g := (mkF m 571 #[.val (.int p1), .val (.int p2), .val (.int p3), .val (.int p4), .val (.int p5), .val (.ref b11)] [(.int p2), (.ref b11)])) rfl (hb hby d1_571) _ ?_
        show Steps p.tables e below (T35.setTop (mkF m 573 #[.val (.int p1), .val (.int p2), .val (.int p3), .val (.int p4), .val (.int p5), .val (.ref b11)] [(.int (2147483647 : Int32)), (.int p2), (.ref b11)])) _
        refine XS.iand X35.here hx rfl (hb hby d1_573) rfl ?_
        show Steps p.tables e below (T35.setTop (mkF m 574 #[.val (.int p1), .val (.int p2), .val (.int p3), .val (.int p4), .val (.int p5), .val (.ref b11)] [(.int (p2 &&& (2147483647 : Int32))), (.ref b11)])) _
        refine XS.aload X35.here hx rfl (hb hby d1_574) rfl rfl ?_
        show Steps p.tables e below (T35.setTop (mkF m 576 #[.val (.int p1), .val (.int p2), .val (.int p3), .val (.int p4), .val (.int p5), .val (.ref b11)] [(.ref b11), (.int (p2 &&& (2147483647 : Int32))), (.ref b11)])) _
        refine X35.arraylength hx (by rw [e35]; exact Ar40.1) ia40 (g := (mkF m 576 #[.val (.int p1), .val (.int p2), .val (.int p3), .val (.int p4), .val (.int p5), .val (.ref b11)] [(.ref b11), (.int (p2 &&& (2147483647 : Int32))), (.ref b11)])) rfl rfl (hb hby d1_576) _ ?_
        rw [hl40]
        show Steps p.tables e below (T35.setTop (mkF m 577 #[.val (.int p1), .val (.int p2), .val (.int p3), .val (.int p4), .val (.int p5), .val (.ref b11)] [(.int (12 : Int32)), (.int (p2 &&& (2147483647 : Int32))), (.ref b11)])) _
        refine iremM X35 hx rfl (hb hby d1_577) rfl (by decide) ?_
        show Steps p.tables e below (T35.setTop (mkF m 578 #[.val (.int p1), .val (.int p2), .val (.int p3), .val (.int p4), .val (.int p5), .val (.ref b11)] [(.int ((p2 &&& (2147483647 : Int32)) % (12 : Int32))), (.ref b11)])) _
        refine XS.iload X35.here hx rfl (hb hby d1_578) rfl ?_
        show Steps p.tables e below (T35.setTop (mkF m 580 #[.val (.int p1), .val (.int p2), .val (.int p3), .val (.int p4), .val (.int p5), .val (.ref b11)] [(.int p5), (.int ((p2 &&& (2147483647 : Int32)) % (12 : Int32))), (.ref b11)])) _
        refine st42 _ ?_
        show Steps p.tables e below (T42.setTop (mkF m 581 #[.val (.int p1), .val (.int p2), .val (.int p3), .val (.int p4), .val (.int p5), .val (.ref b11)] [])) _
        refine st43 _ ?_
        show Steps p.tables e below (T43.setTop (mkF m 584 #[.val (.int p1), .val (.int p2), .val (.int p3), .val (.int p4), .val (.int p5), .val (.ref b11)] [(.ref b43)])) _
        refine XS.dup X43.here hx rfl (hb hby d1_584) rfl rfl ?_
        show Steps p.tables e below (T43.setTop (mkF m 585 #[.val (.int p1), .val (.int p2), .val (.int p3), .val (.int p4), .val (.int p5), .val (.ref b11)] [(.ref b43), (.ref b43)])) _
        refine XS.aload X43.here hx rfl (hb hby d1_585) rfl rfl ?_
        show Steps p.tables e below (T43.setTop (mkF m 587 #[.val (.int p1), .val (.int p2), .val (.int p3), .val (.int p4), .val (.int p5), .val (.ref b11)] [(.ref b11), (.ref b43), (.ref b43)])) _
        refine st44.trans ?_
        show Steps p.tables e below (T44.setTop (mkF m 590 #[.val (.int p1), .val (.int p2), .val (.int p3), .val (.int p4), .val (.int p5), .val (.ref b11)] [(.ref b43)])) _
        exact retOut X44 hx Bd.returns rfl (Or.inr (Or.inr (Or.inr (Or.inr ⟨rfl, rfl, rfl⟩)))) (hb hby d1_590) hr
      · show QB Z p1 p2 p3 p4 p5 zc h0 n0 _ T44.heap _
        exact ⟨b43, (([(nar .char (110 : Int32)), (nar .char (111 : Int32)), (nar .char (116 : Int32)), (nar .char (105 : Int32)), (nar .char (102 : Int32)), (nar .char (105 : Int32)), (nar .char (99 : Int32)), (nar .char (97 : Int32)), (nar .char (116 : Int32)), (nar .char (105 : Int32)), (nar .char (111 : Int32)), (nar .char (110 : Int32))] : List Int32).set ((p2 &&& (2147483647 : Int32)) % (12 : Int32)).toNatClampNeg (nar .char p5)), rfl, N44, Kp, E_b43, T_b43⟩
  ·
    have pre45 : ∀ t, Steps p.tables e below (s₁.setTop (mkF m 89 #[.val (.int p1), .val (.int p2), .val (.int p3), .val (.int p4), .val (.int p5), .unset] [(.int (1 : Int32)), (.int p1)])) t → Steps p.tables e below (s₁.setTop (entryFrame m #[(.int p1), (.int p2), (.int p3), (.int p4), (.int p5)] 6)) t := fun t k => pre10 t (by
      show Steps p.tables e below (s₁.setTop (mkF m 9 #[.val (.int p1), .val (.int p2), .val (.int p3), .val (.int p4), .val (.int p5), .unset] [(.int p1)])) _
      refine XS.ifYes X0.here hx rfl (pc0 := 9) (pc' := 87) rfl (hb hby d1_9) rfl ((if0 _ _).trans (feq hc9).2) (by decide) (by decide) ?_
      show Steps p.tables e below (s₁.setTop (mkF m 87 #[.val (.int p1), .val (.int p2), .val (.int p3), .val (.int p4), .val (.int p5), .unset] [])) _
      refine XS.iloadN X0.here hx rfl (hb hby d1_87) rfl ?_
      show Steps p.tables e below (s₁.setTop (mkF m 88 #[.val (.int p1), .val (.int p2), .val (.int p3), .val (.int p4), .val (.int p5), .unset] [(.int p1)])) _
      refine XS.iconst X0.here hx rfl (hb hby d1_88) ?_
      exact k)
    by_cases hc89 : p1 = (1 : Int32)
    ·
      obtain ⟨T46, h46, k46, X46, e46, E46, A46, B46, st46⟩ := newPE X0 hx hZ (hw _ (List.mem_of_getElem? (i := 5) rfl)) e0 (g := (mkF m 94 #[.val (.int p1), .val (.int p2), .val (.int p3), .val (.int p4), .val (.int p5), .unset] [(.int (8 : Int32))])) rfl (hb hby d1_94) rfl (by decide) (cap := 8) (by decide) (by decide) (by decide) (by decide) (ad := "[C") (by decide)
      obtain ⟨b46, g46⟩ : ∃ z, z = h0.size := ⟨_, rfl⟩
      rw [← g46] at A46 B46 st46
      have g_b46 : n0 ≤ b46 := Nat.le_trans Zs (Nat.le_of_eq g46.symm)
      have sz_b46 : h0.size ≤ b46 := Nat.le_trans Kp.1 (Nat.le_of_eq g46.symm)
      have Hd : CHr Z ELs s.vm h0 s.vm h46 := Hc.trans (CHr.ext E46 Hc.1)
      have Hc := Hd
      have Zs : n0 ≤ h46.size := Nat.le_trans Zs E46.1
      have Ol : Old Z n0 h46 := Ol.ext E46
      have Kp : Keep h0 h46 [] := Kp.ext E46
      have E_b46 : Exa Z h46 b46 "[C" := B46
      have V_b46 : Arv Z h46 b46 k46 .char (8 : Int32) [(.int (0 : Int32)), (.int (0 : Int32)), (.int (0 : Int32)), (.int (0 : Int32)), (.int (0 : Int32)), (.int (0 : Int32)), (.int (0 : Int32)), (.int (0 : Int32))] (.int (0 : Int32)) := (Arv.new A46 (by decide)).pad (pad_rep [] (.int (0 : Int32)) 8)
      obtain ⟨cl47, Ar47, q47, S47, M47, H47, G47⟩ := V_b46
      obtain ⟨T48, h48, X48, e48, W48, st48⟩ := stC X46 hx hZ e46 Ar47 (j := (0 : Int32)) (inb_of S47 (by decide)) (g := (mkF m 100 #[.val (.int p1), .val (.int p2), .val (.int p3), .val (.int p4), .val (.int p5), .unset] [(.int (115 : Int32)), (.int (0 : Int32)), (.ref b46), (.ref b46)])) rfl rfl (hb hby d1_100)
      have N48 := Fr.snoc X48 N0 g_b46
      have Sw := ((Safe.exa hZ.alike E_b46 (by decide) (by decide)) : Safe Z ELs s.vm _ b46)
      have Hd : CHr Z ELs s.vm h0 s.vm h48 := Hc.trans (CHr.wr W48 Sw Hc.1)
      have Hc := Hd
      have Zs : n0 ≤ h48.size := Nat.le_trans Zs (Keep.of_wr W48).1
      have Ol : Old Z n0 h48 := Ol.wr W48 g_b46
      have Kp : Keep h0 h48 [] := Kp.wr W48 (Or.inr sz_b46)
      have E_b46 : Exa Z h48 b46 "[C" := E_b46.wr W48
      have V_b46 : Arv Z h48 b46 k46 .char (8 : Int32) [(.int (nar .char (115 : Int32))), (.int (0 : Int32)), (.int (0 : Int32)), (.int (0 : Int32)), (.int (0 : Int32)), (.int (0 : Int32)), (.int (0 : Int32)), (.int (0 : Int32))] (.int (0 : Int32)) := Arv.set Ar47 q47 S47 M47 H47 G47 (fits_nar_char _) W48 0 rfl (Nat.le_of_ble_eq_true rfl)
      obtain ⟨cl49, Ar49, q49, S49, M49, H49, G49⟩ := V_b46
      obtain ⟨T50, h50, X50, e50, W50, st50⟩ := stC X48 hx hZ e48 Ar49 (j := (1 : Int32)) (inb_of S49 (by decide)) (g := (mkF m 105 #[.val (.int p1), .val (.int p2), .val (.int p3), .val (.int p4), .val (.int p5), .unset] [(.int (110 : Int32)), (.int (1 : Int32)), (.ref b46), (.ref b46)])) rfl rfl (hb hby d1_105)
      have N50 := Fr.snoc X50 N48 g_b46
      have Sw := ((Safe.exa hZ.alike E_b46 (by decide) (by decide)) : Safe Z ELs s.vm _ b46)
      have Hd : CHr Z ELs s.vm h0 s.vm h50 := Hc.trans (CHr.wr W50 Sw Hc.1)
      have Hc := Hd
      have Zs : n0 ≤ h50.size := Nat.le_trans Zs (Keep.of_wr W50).1
      have Ol : Old Z n0 h50 := Ol.wr W50 g_b46
      have Kp : Keep h0 h50 [] := Kp.wr W50 (Or.inr sz_b46)
      have E_b46 : Exa Z h50 b46 "[C" := E_b46.wr W50
      have V_b46 : Arv Z h50 b46 k46 .char (8 : Int32) [(.int (nar .char (115 : Int32))), (.int (nar .char (110 : Int32))), (.int (0 : Int32)), (.int (0 : Int32)), (.int (0 : Int32)), (.int (0 : Int32)), (.int (0 : Int32)), (.int (0 : Int32))] (.int (0 : Int32)) := Arv.set Ar49 q49 S49 M49 H49 G49 (fits_nar_char _) W50 1 rfl (Nat.le_of_ble_eq_true rfl)
      obtain ⟨cl51, Ar51, q51, S51, M51, H51, G51⟩ := V_b46
      obtain ⟨T52, h52, X52, e52, W52, st52⟩ := stC X50 hx hZ e50 Ar51 (j := (2 : Int32)) (inb_of S51 (by decide)) (g := (mkF m 110 #[.val (.int p1), .val (.int p2), .val (.int p3), .val (.int p4), .val (.int p5), .unset] [(.int (97 : Int32)), (.int (2 : Int32)), (.ref b46), (.ref b46)])) rfl rfl (hb hby d1_110)
      have N52 := Fr.snoc X52 N50 g_b46
      have Sw := ((Safe.exa hZ.alike E_b46 (by decide) (by decide)) : Safe Z ELs s.vm _ b46)
      have Hd : CHr Z ELs s.vm h0 s.vm h52 := Hc.trans (CHr.wr W52 Sw Hc.1)
      have Hc := Hd
      have Zs : n0 ≤ h52.size := Nat.le_trans Zs (Keep.of_wr W52).1
      have Ol : Old Z n0 h52 := Ol.wr W52 g_b46
      have Kp : Keep h0 h52 [] := Kp.wr W52 (Or.inr sz_b46)
      have E_b46 : Exa Z h52 b46 "[C" := E_b46.wr W52
      have V_b46 : Arv Z h52 b46 k46 .char (8 : Int32) [(.int (nar .char (115 : Int32))), (.int (nar .char (110 : Int32))), (.int (nar .char (97 : Int32))), (.int (0 : Int32)), (.int (0 : Int32)), (.int (0 : Int32)), (.int (0 : Int32)), (.int (0 : Int32))] (.int (0 : Int32)) := Arv.set Ar51 q51 S51 M51 H51 G51 (fits_nar_char _) W52 2 rfl (Nat.le_of_ble_eq_true rfl)
      obtain ⟨cl53, Ar53, q53, S53, M53, H53, G53⟩ := V_b46
      obtain ⟨T54, h54, X54, e54, W54, st54⟩ := stC X52 hx hZ e52 Ar53 (j := (3 : Int32)) (inb_of S53 (by decide)) (g := (mkF m 115 #[.val (.int p1), .val (.int p2), .val (.int p3), .val (.int p4), .val (.int p5), .unset] [(.int (112 : Int32)), (.int (3 : Int32)), (.ref b46), (.ref b46)])) rfl rfl (hb hby d1_115)
      have N54 := Fr.snoc X54 N52 g_b46
      have Sw := ((Safe.exa hZ.alike E_b46 (by decide) (by decide)) : Safe Z ELs s.vm _ b46)
      have Hd : CHr Z ELs s.vm h0 s.vm h54 := Hc.trans (CHr.wr W54 Sw Hc.1)
      have Hc := Hd
      have Zs : n0 ≤ h54.size := Nat.le_trans Zs (Keep.of_wr W54).1
      have Ol : Old Z n0 h54 := Ol.wr W54 g_b46
      have Kp : Keep h0 h54 [] := Kp.wr W54 (Or.inr sz_b46)
      have E_b46 : Exa Z h54 b46 "[C" := E_b46.wr W54
      have V_b46 : Arv Z h54 b46 k46 .char (8 : Int32) [(.int (nar .char (115 : Int32))), (.int (nar .char (110 : Int32))), (.int (nar .char (97 : Int32))), (.int (nar .char (112 : Int32))), (.int (0 : Int32)), (.int (0 : Int32)), (.int (0 : Int32)), (.int (0 : Int32))] (.int (0 : Int32)) := Arv.set Ar53 q53 S53 M53 H53 G53 (fits_nar_char _) W54 3 rfl (Nat.le_of_ble_eq_true rfl)
      obtain ⟨cl55, Ar55, q55, S55, M55, H55, G55⟩ := V_b46
      obtain ⟨T56, h56, X56, e56, W56, st56⟩ := stC X54 hx hZ e54 Ar55 (j := (4 : Int32)) (inb_of S55 (by decide)) (g := (mkF m 120 #[.val (.int p1), .val (.int p2), .val (.int p3), .val (.int p4), .val (.int p5), .unset] [(.int (115 : Int32)), (.int (4 : Int32)), (.ref b46), (.ref b46)])) rfl rfl (hb hby d1_120)
      have N56 := Fr.snoc X56 N54 g_b46
      have Sw := ((Safe.exa hZ.alike E_b46 (by decide) (by decide)) : Safe Z ELs s.vm _ b46)
      have Hd : CHr Z ELs s.vm h0 s.vm h56 := Hc.trans (CHr.wr W56 Sw Hc.1)
      have Hc := Hd
      have Zs : n0 ≤ h56.size := Nat.le_trans Zs (Keep.of_wr W56).1
      have Ol : Old Z n0 h56 := Ol.wr W56 g_b46
      have Kp : Keep h0 h56 [] := Kp.wr W56 (Or.inr sz_b46)
      have E_b46 : Exa Z h56 b46 "[C" := E_b46.wr W56
      have V_b46 : Arv Z h56 b46 k46 .char (8 : Int32) [(.int (nar .char (115 : Int32))), (.int (nar .char (110 : Int32))), (.int (nar .char (97 : Int32))), (.int (nar .char (112 : Int32))), (.int (nar .char (115 : Int32))), (.int (0 : Int32)), (.int (0 : Int32)), (.int (0 : Int32))] (.int (0 : Int32)) := Arv.set Ar55 q55 S55 M55 H55 G55 (fits_nar_char _) W56 4 rfl (Nat.le_of_ble_eq_true rfl)
      obtain ⟨cl57, Ar57, q57, S57, M57, H57, G57⟩ := V_b46
      obtain ⟨T58, h58, X58, e58, W58, st58⟩ := stC X56 hx hZ e56 Ar57 (j := (5 : Int32)) (inb_of S57 (by decide)) (g := (mkF m 125 #[.val (.int p1), .val (.int p2), .val (.int p3), .val (.int p4), .val (.int p5), .unset] [(.int (104 : Int32)), (.int (5 : Int32)), (.ref b46), (.ref b46)])) rfl rfl (hb hby d1_125)
      have N58 := Fr.snoc X58 N56 g_b46
      have Sw := ((Safe.exa hZ.alike E_b46 (by decide) (by decide)) : Safe Z ELs s.vm _ b46)
      have Hd : CHr Z ELs s.vm h0 s.vm h58 := Hc.trans (CHr.wr W58 Sw Hc.1)
      have Hc := Hd
      have Zs : n0 ≤ h58.size := Nat.le_trans Zs (Keep.of_wr W58).1
      have Ol : Old Z n0 h58 := Ol.wr W58 g_b46
      have Kp : Keep h0 h58 [] := Kp.wr W58 (Or.inr sz_b46)
      have E_b46 : Exa Z h58 b46 "[C" := E_b46.wr W58
      have V_b46 : Arv Z h58 b46 k46 .char (8 : Int32) [(.int (nar .char (115 : Int32))), (.int (nar .char (110 : Int32))), (.int (nar .char (97 : Int32))), (.int (nar .char (112 : Int32))), (.int (nar .char (115 : Int32))), (.int (nar .char (104 : Int32))), (.int (0 : Int32)), (.int (0 : Int32))] (.int (0 : Int32)) := Arv.set Ar57 q57 S57 M57 H57 G57 (fits_nar_char _) W58 5 rfl (Nat.le_of_ble_eq_true rfl)
      obtain ⟨cl59, Ar59, q59, S59, M59, H59, G59⟩ := V_b46
      obtain ⟨T60, h60, X60, e60, W60, st60⟩ := stC X58 hx hZ e58 Ar59 (j := (6 : Int32)) (inb_of S59 (by decide)) (g := (mkF m 131 #[.val (.int p1), .val (.int p2), .val (.int p3), .val (.int p4), .val (.int p5), .unset] [(.int (111 : Int32)), (.int (6 : Int32)), (.ref b46), (.ref b46)])) rfl rfl (hb hby d1_131)
      have N60 := Fr.snoc X60 N58 g_b46
      have Sw := ((Safe.exa hZ.alike E_b46 (by decide) (by decide)) : Safe Z ELs s.vm _ b46)
      have Hd : CHr Z ELs s.vm h0 s.vm h60 := Hc.trans (CHr.wr W60 Sw Hc.1)
      have Hc := Hd
      have Zs : n0 ≤ h60.size := Nat.le_trans Zs (Keep.of_wr W60).1
      have Ol : Old Z n0 h60 := Ol.wr W60 g_b46
      have Kp : Keep h0 h60 [] := Kp.wr W60 (Or.inr sz_b46)
      have E_b46 : Exa Z h60 b46 "[C" := E_b46.wr W60
      have V_b46 : Arv Z h60 b46 k46 .char (8 : Int32) [(.int (nar .char (115 : Int32))), (.int (nar .char (110 : Int32))), (.int (nar .char (97 : Int32))), (.int (nar .char (112 : Int32))), (.int (nar .char (115 : Int32))), (.int (nar .char (104 : Int32))), (.int (nar .char (111 : Int32))), (.int (0 : Int32))] (.int (0 : Int32)) := Arv.set Ar59 q59 S59 M59 H59 G59 (fits_nar_char _) W60 6 rfl (Nat.le_of_ble_eq_true rfl)
      obtain ⟨cl61, Ar61, q61, S61, M61, H61, G61⟩ := V_b46
      obtain ⟨T62, h62, X62, e62, W62, st62⟩ := stC X60 hx hZ e60 Ar61 (j := (7 : Int32)) (inb_of S61 (by decide)) (g := (mkF m 137 #[.val (.int p1), .val (.int p2), .val (.int p3), .val (.int p4), .val (.int p5), .unset] [(.int (116 : Int32)), (.int (7 : Int32)), (.ref b46), (.ref b46)])) rfl rfl (hb hby d1_137)
      have N62 := Fr.snoc X62 N60 g_b46
      have Sw := ((Safe.exa hZ.alike E_b46 (by decide) (by decide)) : Safe Z ELs s.vm _ b46)
      have Hd : CHr Z ELs s.vm h0 s.vm h62 := Hc.trans (CHr.wr W62 Sw Hc.1)
      have Hc := Hd
      have Zs : n0 ≤ h62.size := Nat.le_trans Zs (Keep.of_wr W62).1
      have Ol : Old Z n0 h62 := Ol.wr W62 g_b46
      have Kp : Keep h0 h62 [] := Kp.wr W62 (Or.inr sz_b46)
      have E_b46 : Exa Z h62 b46 "[C" := E_b46.wr W62
      have V_b46 : Arv Z h62 b46 k46 .char (8 : Int32) [(.int (nar .char (115 : Int32))), (.int (nar .char (110 : Int32))), (.int (nar .char (97 : Int32))), (.int (nar .char (112 : Int32))), (.int (nar .char (115 : Int32))), (.int (nar .char (104 : Int32))), (.int (nar .char (111 : Int32))), (.int (nar .char (116 : Int32)))] (.int (0 : Int32)) := Arv.set Ar61 q61 S61 M61 H61 G61 (fits_nar_char _) W62 7 rfl (Nat.le_of_ble_eq_true rfl)
      have pre63 : ∀ t, Steps p.tables e below (T62.setTop (mkF m 559 #[.val (.int p1), .val (.int p2), .val (.int p3), .val (.int p4), .val (.int p5), .val (.ref b46)] [(.int p3)])) t → Steps p.tables e below (s₁.setTop (entryFrame m #[(.int p1), (.int p2), (.int p3), (.int p4), (.int p5)] 6)) t := fun t k => pre45 t (by
        show Steps p.tables e below (s₁.setTop (mkF m 89 #[.val (.int p1), .val (.int p2), .val (.int p3), .val (.int p4), .val (.int p5), .unset] [(.int (1 : Int32)), (.int p1)])) _
        refine XS.icmpNo X0.here hx rfl (hb hby d1_89) rfl (teq hc89).2 ?_
        show Steps p.tables e below (s₁.setTop (mkF m 92 #[.val (.int p1), .val (.int p2), .val (.int p3), .val (.int p4), .val (.int p5), .unset] [])) _
        refine XS.bipush X0.here hx rfl (hb hby d1_92) ?_
        show Steps p.tables e below (s₁.setTop (mkF m 94 #[.val (.int p1), .val (.int p2), .val (.int p3), .val (.int p4), .val (.int p5), .unset] [(.int (8 : Int32))])) _
        refine st46 _ ?_
        show Steps p.tables e below (T46.setTop (mkF m 96 #[.val (.int p1), .val (.int p2), .val (.int p3), .val (.int p4), .val (.int p5), .unset] [(.ref b46)])) _
        refine XS.dup X46.here hx rfl (hb hby d1_96) rfl rfl ?_
        show Steps p.tables e below (T46.setTop (mkF m 97 #[.val (.int p1), .val (.int p2), .val (.int p3), .val (.int p4), .val (.int p5), .unset] [(.ref b46), (.ref b46)])) _
        refine XS.iconst X46.here hx rfl (hb hby d1_97) ?_
        show Steps p.tables e below (T46.setTop (mkF m 98 #[.val (.int p1), .val (.int p2), .val (.int p3), .val (.int p4), .val (.int p5), .unset] [(.int (0 : Int32)), (.ref b46), (.ref b46)])) _
        refine XS.bipush X46.here hx rfl (hb hby d1_98) ?_
        show Steps p.tables e below (T46.setTop (mkF m 100 #[.val (.int p1), .val (.int p2), .val (.int p3), .val (.int p4), .val (.int p5), .unset] [(.int (115 : Int32)), (.int (0 : Int32)), (.ref b46), (.ref b46)])) _
        refine st48 _ ?_
        show Steps p.tables e below (T48.setTop (mkF m 101 #[.val (.int p1), .val (.int p2), .val (.int p3), .val (.int p4), .val (.int p5), .unset] [(.ref b46)])) _
        refine XS.dup X48.here hx rfl (hb hby d1_101) rfl rfl ?_
        show Steps p.tables e below (T48.setTop (mkF m 102 #[.val (.int p1), .val (.int p2), .val (.int p3), .val (.int p4), .val (.int p5), .unset] [(.ref b46), (.ref b46)])) _
        refine XS.iconst X48.here hx rfl (hb hby d1_102) ?_
        show Steps p.tables e below (T48.setTop (mkF m 103 #[.val (.int p1), .val (.int p2), .val (.int p3), .val (.int p4), .val (.int p5), .unset] [(.int (1 : Int32)), (.ref b46), (.ref b46)])) _
        refine XS.bipush X48.here hx rfl (hb hby d1_103) ?_
        show Steps p.tables e below (T48.setTop (mkF m 105 #[.val (.int p1), .val (.int p2), .val (.int p3), .val (.int p4), .val (.int p5), .unset] [(.int (110 : Int32)), (.int (1 : Int32)), (.ref b46), (.ref b46)])) _
        refine st50 _ ?_
        show Steps p.tables e below (T50.setTop (mkF m 106 #[.val (.int p1), .val (.int p2), .val (.int p3), .val (.int p4), .val (.int p5), .unset] [(.ref b46)])) _
        refine XS.dup X50.here hx rfl (hb hby d1_106) rfl rfl ?_
        show Steps p.tables e below (T50.setTop (mkF m 107 #[.val (.int p1), .val (.int p2), .val (.int p3), .val (.int p4), .val (.int p5), .unset] [(.ref b46), (.ref b46)])) _
        refine XS.iconst X50.here hx rfl (hb hby d1_107) ?_
        show Steps p.tables e below (T50.setTop (mkF m 108 #[.val (.int p1), .val (.int p2), .val (.int p3), .val (.int p4), .val (.int p5), .unset] [(.int (2 : Int32)), (.ref b46), (.ref b46)])) _
        refine XS.bipush X50.here hx rfl (hb hby d1_108) ?_
        show Steps p.tables e below (T50.setTop (mkF m 110 #[.val (.int p1), .val (.int p2), .val (.int p3), .val (.int p4), .val (.int p5), .unset] [(.int (97 : Int32)), (.int (2 : Int32)), (.ref b46), (.ref b46)])) _
        refine st52 _ ?_
        show Steps p.tables e below (T52.setTop (mkF m 111 #[.val (.int p1), .val (.int p2), .val (.int p3), .val (.int p4), .val (.int p5), .unset] [(.ref b46)])) _
        refine XS.dup X52.here hx rfl (hb hby d1_111) rfl rfl ?_
        show Steps p.tables e below (T52.setTop (mkF m 112 #[.val (.int p1), .val (.int p2), .val (.int p3), .val (.int p4), .val (.int p5), .unset] [(.ref b46), (.ref b46)])) _
        refine XS.iconst X52.here hx rfl (hb hby d1_112) ?_
        show Steps p.tables e below (T52.setTop (mkF m 113 #[.val (.int p1), .val (.int p2), .val (.int p3), .val (.int p4), .val (.int p5), .unset] [(.int (3 : Int32)), (.ref b46), (.ref b46)])) _
        refine XS.bipush X52.here hx rfl (hb hby d1_113) ?_
        show Steps p.tables e below (T52.setTop (mkF m 115 #[.val (.int p1), .val (.int p2), .val (.int p3), .val (.int p4), .val (.int p5), .unset] [(.int (112 : Int32)), (.int (3 : Int32)), (.ref b46), (.ref b46)])) _
        refine st54 _ ?_
        show Steps p.tables e below (T54.setTop (mkF m 116 #[.val (.int p1), .val (.int p2), .val (.int p3), .val (.int p4), .val (.int p5), .unset] [(.ref b46)])) _
        refine XS.dup X54.here hx rfl (hb hby d1_116) rfl rfl ?_
        show Steps p.tables e below (T54.setTop (mkF m 117 #[.val (.int p1), .val (.int p2), .val (.int p3), .val (.int p4), .val (.int p5), .unset] [(.ref b46), (.ref b46)])) _
        refine XS.iconst X54.here hx rfl (hb hby d1_117) ?_
        show Steps p.tables e below (T54.setTop (mkF m 118 #[.val (.int p1), .val (.int p2), .val (.int p3), .val (.int p4), .val (.int p5), .unset] [(.int (4 : Int32)), (.ref b46), (.ref b46)])) _
        refine XS.bipush X54.here hx rfl (hb hby d1_118) ?_
        show Steps p.tables e below (T54.setTop (mkF m 120 #[.val (.int p1), .val (.int p2), .val (.int p3), .val (.int p4), .val (.int p5), .unset] [(.int (115 : Int32)), (.int (4 : Int32)), (.ref b46), (.ref b46)])) _
        refine st56 _ ?_
        show Steps p.tables e below (T56.setTop (mkF m 121 #[.val (.int p1), .val (.int p2), .val (.int p3), .val (.int p4), .val (.int p5), .unset] [(.ref b46)])) _
        refine XS.dup X56.here hx rfl (hb hby d1_121) rfl rfl ?_
        show Steps p.tables e below (T56.setTop (mkF m 122 #[.val (.int p1), .val (.int p2), .val (.int p3), .val (.int p4), .val (.int p5), .unset] [(.ref b46), (.ref b46)])) _
        refine XS.iconst X56.here hx rfl (hb hby d1_122) ?_
        show Steps p.tables e below (T56.setTop (mkF m 123 #[.val (.int p1), .val (.int p2), .val (.int p3), .val (.int p4), .val (.int p5), .unset] [(.int (5 : Int32)), (.ref b46), (.ref b46)])) _
        refine XS.bipush X56.here hx rfl (hb hby d1_123) ?_
        show Steps p.tables e below (T56.setTop (mkF m 125 #[.val (.int p1), .val (.int p2), .val (.int p3), .val (.int p4), .val (.int p5), .unset] [(.int (104 : Int32)), (.int (5 : Int32)), (.ref b46), (.ref b46)])) _
        refine st58 _ ?_
        show Steps p.tables e below (T58.setTop (mkF m 126 #[.val (.int p1), .val (.int p2), .val (.int p3), .val (.int p4), .val (.int p5), .unset] [(.ref b46)])) _
        refine XS.dup X58.here hx rfl (hb hby d1_126) rfl rfl ?_
        show Steps p.tables e below (T58.setTop (mkF m 127 #[.val (.int p1), .val (.int p2), .val (.int p3), .val (.int p4), .val (.int p5), .unset] [(.ref b46), (.ref b46)])) _
        refine XS.bipush X58.here hx rfl (hb hby d1_127) ?_
        show Steps p.tables e below (T58.setTop (mkF m 129 #[.val (.int p1), .val (.int p2), .val (.int p3), .val (.int p4), .val (.int p5), .unset] [(.int (6 : Int32)), (.ref b46), (.ref b46)])) _
        refine XS.bipush X58.here hx rfl (hb hby d1_129) ?_
        show Steps p.tables e below (T58.setTop (mkF m 131 #[.val (.int p1), .val (.int p2), .val (.int p3), .val (.int p4), .val (.int p5), .unset] [(.int (111 : Int32)), (.int (6 : Int32)), (.ref b46), (.ref b46)])) _
        refine st60 _ ?_
        show Steps p.tables e below (T60.setTop (mkF m 132 #[.val (.int p1), .val (.int p2), .val (.int p3), .val (.int p4), .val (.int p5), .unset] [(.ref b46)])) _
        refine XS.dup X60.here hx rfl (hb hby d1_132) rfl rfl ?_
        show Steps p.tables e below (T60.setTop (mkF m 133 #[.val (.int p1), .val (.int p2), .val (.int p3), .val (.int p4), .val (.int p5), .unset] [(.ref b46), (.ref b46)])) _
        refine XS.bipush X60.here hx rfl (hb hby d1_133) ?_
        show Steps p.tables e below (T60.setTop (mkF m 135 #[.val (.int p1), .val (.int p2), .val (.int p3), .val (.int p4), .val (.int p5), .unset] [(.int (7 : Int32)), (.ref b46), (.ref b46)])) _
        refine XS.bipush X60.here hx rfl (hb hby d1_135) ?_
        show Steps p.tables e below (T60.setTop (mkF m 137 #[.val (.int p1), .val (.int p2), .val (.int p3), .val (.int p4), .val (.int p5), .unset] [(.int (116 : Int32)), (.int (7 : Int32)), (.ref b46), (.ref b46)])) _
        refine st62 _ ?_
        show Steps p.tables e below (T62.setTop (mkF m 138 #[.val (.int p1), .val (.int p2), .val (.int p3), .val (.int p4), .val (.int p5), .unset] [(.ref b46)])) _
        refine XS.astore X62.here hx rfl (hb hby d1_138) rfl rfl (l' := #[.val (.int p1), .val (.int p2), .val (.int p3), .val (.int p4), .val (.int p5), .val (.ref b46)]) rfl ?_
        show Steps p.tables e below (T62.setTop (mkF m 140 #[.val (.int p1), .val (.int p2), .val (.int p3), .val (.int p4), .val (.int p5), .val (.ref b46)] [])) _
        refine XS.goto X62.here hx rfl (pc0 := 140) (pc' := 558) rfl (hb hby d1_140) (by decide) (by decide) ?_
        show Steps p.tables e below (T62.setTop (mkF m 558 #[.val (.int p1), .val (.int p2), .val (.int p3), .val (.int p4), .val (.int p5), .val (.ref b46)] [])) _
        refine XS.iloadN X62.here hx rfl (hb hby d1_558) rfl ?_
        exact k)
      by_cases hc559 : p3 = (0 : Int32)
      ·
        obtain ⟨T64, h64, X64, e64, E64, A64, D64, -, st64⟩ := newO X62 hx hZ hown (hw _ (List.mem_of_getElem? (i := 6) rfl)) (hw _ (List.mem_of_getElem? (i := 7) rfl)) (hw _ (List.mem_of_getElem? (i := 8) rfl)) e62 (g := (mkF m 581 #[.val (.int p1), .val (.int p2), .val (.int p3), .val (.int p4), .val (.int p5), .val (.ref b46)] [])) rfl (hb hby d1_581) (by decide) (by decide)
        obtain ⟨b64, g64⟩ : ∃ z, z = h62.size := ⟨_, rfl⟩
        rw [← g64] at A64 D64 st64
        have g_b64 : n0 ≤ b64 := Nat.le_trans Zs (Nat.le_of_eq g64.symm)
        have sz_b64 : h0.size ≤ b64 := Nat.le_trans Kp.1 (Nat.le_of_eq g64.symm)
        have ne_b46_b64 : b46 ≠ b64 := Nat.ne_of_lt (Nat.lt_of_lt_of_le E_b46.lt (Nat.le_of_eq g64.symm))
        have Sf_b64 : Safe Z ELs s.vm h62 b64 := Safe.new (Nat.le_of_eq g64.symm)
        have Hd : CHr Z ELs s.vm h0 s.vm h64 := Hc.trans (CHr.ext E64 Hc.1)
        have Sg_b64 : Safe Z ELs s.vm h64 b64 := Safe.ext E64 Hc.1 Sf_b64
        have Sf_b64 := Sg_b64
        have Hc := Hd
        have Zs : n0 ≤ h64.size := Nat.le_trans Zs E64.1
        have Ol : Old Z n0 h64 := Ol.ext E64
        have Kp : Keep h0 h64 [] := Kp.ext E64
        have E_b46 : Exa Z h64 b46 "[C" := E_b46.ext E64
        have V_b46 : Arv Z h64 b46 k46 .char (8 : Int32) [(.int (nar .char (115 : Int32))), (.int (nar .char (110 : Int32))), (.int (nar .char (97 : Int32))), (.int (nar .char (112 : Int32))), (.int (nar .char (115 : Int32))), (.int (nar .char (104 : Int32))), (.int (nar .char (111 : Int32))), (.int (nar .char (116 : Int32)))] (.int (0 : Int32)) := V_b46.ext E64
        have E_b64 : Exa Z h64 b64 "java/lang/String" := A64
        have F_coder_b64 : Fld Z h64 b64 "java/lang/String" "coder" "B" (.int (0 : Int32)) := D64 (Or.inr (hw _ (List.mem_of_getElem? (i := 32) rfl))) (ty := .byte) (by decide)
        have F_value_b64 : Fld Z h64 b64 "java/lang/String" "value" "[B" .null := D64 (Or.inr (hw _ (List.mem_of_getElem? (i := 34) rfl))) (ty := (.array .byte)) (by decide)
        obtain ⟨_, _, ⟨T65, L65, k65, n65⟩, -, X65, ⟨Lc65, hQ65, l65, y65, z65⟩, st65⟩ := X64.specialBack hx (y := (⟨"java/lang/String", "<init>", "([C)V"⟩ : MethodName)) rfl hown (mvT hZ (hw _ (List.mem_of_getElem? (i := 9) rfl))) (mvT hZ (hw _ (List.mem_of_getElem? (i := 10) rfl))) (mvT hZ (hw _ (List.mem_of_getElem? (i := 11) rfl))) (by decide) (own_new (W := 1) hZ hw g_b64 Zs E_b64 F_value_b64 F_coder_b64 (cs := [(nar .char (115 : Int32)), (nar .char (110 : Int32)), (nar .char (97 : Int32)), (nar .char (112 : Int32)), (nar .char (115 : Int32)), (nar .char (104 : Int32)), (nar .char (111 : Int32)), (nar .char (116 : Int32))]) (n := 8) V_b46 (Sta.ext Ol.2 S_COMPACT_STRINGS) hzc rfl rfl (by decide) (by decide) (alIS (by decide) (alIS (by decide) (alIS (by decide) (alIS (by decide) (alIS (by decide) (alIS (by decide) (alIS (by decide) (alIS (by decide) alI0)))))))) (by decide) (by decide)) (g := (mkF m 587 #[.val (.int p1), .val (.int p2), .val (.int p3), .val (.int p4), .val (.int p5), .val (.ref b46)] [(.ref b46), (.ref b64), (.ref b64)])) rfl (by rw [hml]; rfl) (Steps.refl _) (a := b64) (argsL := [(.ref b46)]) (rest := [(.ref b64)]) (lenOf pd_1 rfl) rfl (by show 2 * 0 + _ ≤ _; exact Nat.le_of_eq rfl) (hb hby d1_587) (fun _ _ => ⟨rfl, e64, (by decide : 2 + 1 ≤ _), (by decide : 12 + 8 ≤ _)⟩)
        dsimp only [Pt.U, Pt.locs, Pt.cells, Pt.slots] at X65 l65 y65 z65 st65 hQ65
        subst l65 y65 z65
        obtain ⟨rfl, N65q, K65, T65x⟩ := hQ65
        have Hd : CHr Z ELs s.vm h0 s.vm T65.heap := Hc.trans (CHr.keep K65 (allS (Sf_b64 : Safe Z ELs s.vm _ b64) all0) Hc.1)
        have Sg_b64 : Safe Z ELs s.vm T65.heap b64 := Safe.keep K65 (allS (Sf_b64 : Safe Z ELs s.vm _ b64) all0) Hc.1 Sf_b64
        have Sf_b64 := Sg_b64
        have Hc := Hd
        have Zs : n0 ≤ T65.heap.size := Nat.le_trans Zs K65.1
        have Ol : Old Z n0 T65.heap := Ol.keep K65 (allS g_b64 all0)
        have Kp : Keep h0 T65.heap [] := Kp.trans K65 (allS (Or.inr sz_b64) all0)
        have E_b46 : Exa Z T65.heap b46 "[C" := E_b46.keep K65
        have E_b64 : Exa Z T65.heap b64 "java/lang/String" := E_b64.keep K65
        have T_b64 : Stx Z T65.heap b64 [(nar .char (115 : Int32)), (nar .char (110 : Int32)), (nar .char (97 : Int32)), (nar .char (112 : Int32)), (nar .char (115 : Int32)), (nar .char (104 : Int32)), (nar .char (111 : Int32)), (nar .char (116 : Int32))] := T65x
        have N65 := Fr.app N62 N65q
        obtain ⟨fs, hr, hrun, hended, hRW⟩ := X65.leaveW (s := s) (vm₁ := s.vm) ((State.WarmedH.refl s).since 0) (Nat.zero_le _) (v := some (.ref b64)) (fun h => by rw [Bd.returns] at h; cases h)
        have hCR : CHr Z ELs s.vm h0 T65.vm T65.heap := Hc.trans (CHv.at X65 hZ hEL Hc.1)
        refine ⟨_, _, pre63 _ ?_, hrun, hended, _, _, rfl, ?_, (by rw [hh]; show CHr Z ELs s.vm h0 T65.vm T65.heap; exact hCR), ⟨hRW.1, hRW.2.1, hRW.2.2.1, hRW.2.2.2.mono (by decide) (by decide)⟩⟩
        · show Steps p.tables e below (T62.setTop (mkF m 559 #[.val (.int p1), .val (.int p2), .val (.int p3), .val (.int p4), .val (.int p5), .val (.ref b46)] [(.int p3)])) _
          refine XS.ifYes X62.here hx rfl (pc0 := 559) (pc' := 581) rfl (hb hby d1_559) rfl ((if0 _ _).trans (teq hc559).1) (by decide) (by decide) ?_
          show Steps p.tables e below (T62.setTop (mkF m 581 #[.val (.int p1), .val (.int p2), .val (.int p3), .val (.int p4), .val (.int p5), .val (.ref b46)] [])) _
          refine st64 _ ?_
          show Steps p.tables e below (T64.setTop (mkF m 584 #[.val (.int p1), .val (.int p2), .val (.int p3), .val (.int p4), .val (.int p5), .val (.ref b46)] [(.ref b64)])) _
          refine XS.dup X64.here hx rfl (hb hby d1_584) rfl rfl ?_
          show Steps p.tables e below (T64.setTop (mkF m 585 #[.val (.int p1), .val (.int p2), .val (.int p3), .val (.int p4), .val (.int p5), .val (.ref b46)] [(.ref b64), (.ref b64)])) _
          refine XS.aload X64.here hx rfl (hb hby d1_585) rfl rfl ?_
          show Steps p.tables e below (T64.setTop (mkF m 587 #[.val (.int p1), .val (.int p2), .val (.int p3), .val (.int p4), .val (.int p5), .val (.ref b46)] [(.ref b46), (.ref b64), (.ref b64)])) _
          refine st65.trans ?_
          show Steps p.tables e below (T65.setTop (mkF m 590 #[.val (.int p1), .val (.int p2), .val (.int p3), .val (.int p4), .val (.int p5), .val (.ref b46)] [(.ref b64)])) _
          exact retOut X65 hx Bd.returns rfl (Or.inr (Or.inr (Or.inr (Or.inr ⟨rfl, rfl, rfl⟩)))) (hb hby d1_590) hr
        · show QB Z p1 p2 p3 p4 p5 zc h0 n0 _ T65.heap _
          exact ⟨b64, [(nar .char (115 : Int32)), (nar .char (110 : Int32)), (nar .char (97 : Int32)), (nar .char (112 : Int32)), (nar .char (115 : Int32)), (nar .char (104 : Int32)), (nar .char (111 : Int32)), (nar .char (116 : Int32))], rfl, N65, Kp, E_b64, T_b64⟩
      ·
        obtain ⟨cl66, Ar66, hl66⟩ := Arv.len V_b46 (by decide)
        have ia66 := State.isArrayOf_alike hZ.alike Ar66.2.1
        obtain ⟨cl67, Ar67, hl67⟩ := Arv.len V_b46 (by decide)
        have ia67 := State.isArrayOf_alike hZ.alike Ar67.2.1
        obtain ⟨cl68, Ar68, q68, S68, M68, H68, G68⟩ := V_b46
        obtain ⟨T69, h69, X69, e69, W69, st69⟩ := stC X62 hx hZ e62 Ar68 (j := ((p2 &&& (2147483647 : Int32)) % (8 : Int32))) (inb_of S68 (own_rem p2 (by decide))) (g := (mkF m 580 #[.val (.int p1), .val (.int p2), .val (.int p3), .val (.int p4), .val (.int p5), .val (.ref b46)] [(.int p5), (.int ((p2 &&& (2147483647 : Int32)) % (8 : Int32))), (.ref b46)])) rfl rfl (hb hby d1_580)
        have N69 := Fr.snoc X69 N62 g_b46
        have Sw := ((Safe.exa hZ.alike E_b46 (by decide) (by decide)) : Safe Z ELs s.vm _ b46)
        have Hd : CHr Z ELs s.vm h0 s.vm h69 := Hc.trans (CHr.wr W69 Sw Hc.1)
        have Hc := Hd
        have Zs : n0 ≤ h69.size := Nat.le_trans Zs (Keep.of_wr W69).1
        have Ol : Old Z n0 h69 := Ol.wr W69 g_b46
        have Kp : Keep h0 h69 [] := Kp.wr W69 (Or.inr sz_b46)
        have E_b46 : Exa Z h69 b46 "[C" := E_b46.wr W69
        have V_b46 : Arv Z h69 b46 k46 .char (8 : Int32) ((([(nar .char (115 : Int32)), (nar .char (110 : Int32)), (nar .char (97 : Int32)), (nar .char (112 : Int32)), (nar .char (115 : Int32)), (nar .char (104 : Int32)), (nar .char (111 : Int32)), (nar .char (116 : Int32))] : List Int32).set ((p2 &&& (2147483647 : Int32)) % (8 : Int32)).toNatClampNeg (nar .char p5)).map Value.int) (.int (0 : Int32)) := by rw [List.map_set]; exact Arv.set Ar68 q68 S68 M68 H68 G68 (fits_nar_char _) W69 _ rfl (own_ix (own_rem p2 (by decide)) (Nat.le_of_eq rfl))
        obtain ⟨T70, h70, X70, e70, E70, A70, D70, -, st70⟩ := newO X69 hx hZ hown (hw _ (List.mem_of_getElem? (i := 6) rfl)) (hw _ (List.mem_of_getElem? (i := 7) rfl)) (hw _ (List.mem_of_getElem? (i := 8) rfl)) e69 (g := (mkF m 581 #[.val (.int p1), .val (.int p2), .val (.int p3), .val (.int p4), .val (.int p5), .val (.ref b46)] [])) rfl (hb hby d1_581) (by decide) (by decide)
        obtain ⟨b70, g70⟩ : ∃ z, z = h69.size := ⟨_, rfl⟩
        rw [← g70] at A70 D70 st70
        have g_b70 : n0 ≤ b70 := Nat.le_trans Zs (Nat.le_of_eq g70.symm)
        have sz_b70 : h0.size ≤ b70 := Nat.le_trans Kp.1 (Nat.le_of_eq g70.symm)
        have ne_b46_b70 : b46 ≠ b70 := Nat.ne_of_lt (Nat.lt_of_lt_of_le E_b46.lt (Nat.le_of_eq g70.symm))
        have Sf_b70 : Safe Z ELs s.vm h69 b70 := Safe.new (Nat.le_of_eq g70.symm)
        have Hd : CHr Z ELs s.vm h0 s.vm h70 := Hc.trans (CHr.ext E70 Hc.1)
        have Sg_b70 : Safe Z ELs s.vm h70 b70 := Safe.ext E70 Hc.1 Sf_b70
        have Sf_b70 := Sg_b70
        have Hc := Hd
        have Zs : n0 ≤ h70.size := Nat.le_trans Zs E70.1
        have Ol : Old Z n0 h70 := Ol.ext E70
        have Kp : Keep h0 h70 [] := Kp.ext E70
        have E_b46 : Exa Z h70 b46 "[C" := E_b46.ext E70
        have V_b46 : Arv Z h70 b46 k46 .char (8 : Int32) ((([(nar .char (115 : Int32)), (nar .char (110 : Int32)), (nar .char (97 : Int32)), (nar .char (112 : Int32)), (nar .char (115 : Int32)), (nar .char (104 : Int32)), (nar .char (111 : Int32)), (nar .char (116 : Int32))] : List Int32).set ((p2 &&& (2147483647 : Int32)) % (8 : Int32)).toNatClampNeg (nar .char p5)).map Value.int) (.int (0 : Int32)) := V_b46.ext E70
        have E_b70 : Exa Z h70 b70 "java/lang/String" := A70
        have F_coder_b70 : Fld Z h70 b70 "java/lang/String" "coder" "B" (.int (0 : Int32)) := D70 (Or.inr (hw _ (List.mem_of_getElem? (i := 32) rfl))) (ty := .byte) (by decide)
        have F_value_b70 : Fld Z h70 b70 "java/lang/String" "value" "[B" .null := D70 (Or.inr (hw _ (List.mem_of_getElem? (i := 34) rfl))) (ty := (.array .byte)) (by decide)
        obtain ⟨_, _, ⟨T71, L71, k71, n71⟩, -, X71, ⟨Lc71, hQ71, l71, y71, z71⟩, st71⟩ := X70.specialBack hx (y := (⟨"java/lang/String", "<init>", "([C)V"⟩ : MethodName)) rfl hown (mvT hZ (hw _ (List.mem_of_getElem? (i := 9) rfl))) (mvT hZ (hw _ (List.mem_of_getElem? (i := 10) rfl))) (mvT hZ (hw _ (List.mem_of_getElem? (i := 11) rfl))) (by decide) (own_new (W := 1) hZ hw g_b70 Zs E_b70 F_value_b70 F_coder_b70 (cs := (([(nar .char (115 : Int32)), (nar .char (110 : Int32)), (nar .char (97 : Int32)), (nar .char (112 : Int32)), (nar .char (115 : Int32)), (nar .char (104 : Int32)), (nar .char (111 : Int32)), (nar .char (116 : Int32))] : List Int32).set ((p2 &&& (2147483647 : Int32)) % (8 : Int32)).toNatClampNeg (nar .char p5))) (n := 8) V_b46 (Sta.ext Ol.2 S_COMPACT_STRINGS) hzc (by rw [List.length_set]; rfl) rfl (by decide) (by decide) (own_set (alIS (by decide) (alIS (by decide) (alIS (by decide) (alIS (by decide) (alIS (by decide) (alIS (by decide) (alIS (by decide) (alIS (by decide) alI0)))))))) hd) (by decide) (by decide)) (g := (mkF m 587 #[.val (.int p1), .val (.int p2), .val (.int p3), .val (.int p4), .val (.int p5), .val (.ref b46)] [(.ref b46), (.ref b70), (.ref b70)])) rfl (by rw [hml]; rfl) (Steps.refl _) (a := b70) (argsL := [(.ref b46)]) (rest := [(.ref b70)]) (lenOf pd_1 rfl) rfl (by show 2 * 0 + _ ≤ _; exact Nat.le_of_eq rfl) (hb hby d1_587) (fun _ _ => ⟨rfl, e70, (by decide : 2 + 1 ≤ _), (by decide : 12 + 8 ≤ _)⟩)
        dsimp only [Pt.U, Pt.locs, Pt.cells, Pt.slots] at X71 l71 y71 z71 st71 hQ71
        subst l71 y71 z71
        obtain ⟨rfl, N71q, K71, T71x⟩ := hQ71
        have Hd : CHr Z ELs s.vm h0 s.vm T71.heap := Hc.trans (CHr.keep K71 (allS (Sf_b70 : Safe Z ELs s.vm _ b70) all0) Hc.1)
        have Sg_b70 : Safe Z ELs s.vm T71.heap b70 := Safe.keep K71 (allS (Sf_b70 : Safe Z ELs s.vm _ b70) all0) Hc.1 Sf_b70
        have Sf_b70 := Sg_b70
        have Hc := Hd
        have Zs : n0 ≤ T71.heap.size := Nat.le_trans Zs K71.1
        have Ol : Old Z n0 T71.heap := Ol.keep K71 (allS g_b70 all0)
        have Kp : Keep h0 T71.heap [] := Kp.trans K71 (allS (Or.inr sz_b70) all0)
        have E_b46 : Exa Z T71.heap b46 "[C" := E_b46.keep K71
        have E_b70 : Exa Z T71.heap b70 "java/lang/String" := E_b70.keep K71
        have T_b70 : Stx Z T71.heap b70 (([(nar .char (115 : Int32)), (nar .char (110 : Int32)), (nar .char (97 : Int32)), (nar .char (112 : Int32)), (nar .char (115 : Int32)), (nar .char (104 : Int32)), (nar .char (111 : Int32)), (nar .char (116 : Int32))] : List Int32).set ((p2 &&& (2147483647 : Int32)) % (8 : Int32)).toNatClampNeg (nar .char p5)) := T71x
        have N71 := Fr.app N69 N71q
        obtain ⟨fs, hr, hrun, hended, hRW⟩ := X71.leaveW (s := s) (vm₁ := s.vm) ((State.WarmedH.refl s).since 0) (Nat.zero_le _) (v := some (.ref b70)) (fun h => by rw [Bd.returns] at h; cases h)
        have hCR : CHr Z ELs s.vm h0 T71.vm T71.heap := Hc.trans (CHv.at X71 hZ hEL Hc.1)
        refine ⟨_, _, pre63 _ ?_, hrun, hended, _, _, rfl, ?_, (by rw [hh]; show CHr Z ELs s.vm h0 T71.vm T71.heap; exact hCR), ⟨hRW.1, hRW.2.1, hRW.2.2.1, hRW.2.2.2.mono (by decide) (by decide)⟩⟩
        · show Steps p.tables e below (T62.setTop (mkF m 559 #[.val (.int p1), .val (.int p2), .val (.int p3), .val (.int p4), .val (.int p5), .val (.ref b46)] [(.int p3)])) _
          refine XS.ifNo X62.here hx rfl (hb hby d1_559) rfl ((if0 _ _).trans (feq hc559).1) ?_
          show Steps p.tables e below (T62.setTop (mkF m 562 #[.val (.int p1), .val (.int p2), .val (.int p3), .val (.int p4), .val (.int p5), .val (.ref b46)] [])) _
          refine XS.aload X62.here hx rfl (hb hby d1_562) rfl rfl ?_
          show Steps p.tables e below (T62.setTop (mkF m 564 #[.val (.int p1), .val (.int p2), .val (.int p3), .val (.int p4), .val (.int p5), .val (.ref b46)] [(.ref b46)])) _
          refine X62.arraylength hx (by rw [e62]; exact Ar66.1) ia66 (g := (mkF m 564 #[.val (.int p1), .val (.int p2), .val (.int p3), .val (.int p4), .val (.int p5), .val (.ref b46)] [(.ref b46)])) rfl rfl (hb hby d1_564) _ ?_
          rw [hl66]
          show Steps p.tables e below (T62.setTop (mkF m 565 #[.val (.int p1), .val (.int p2), .val (.int p3), .val (.int p4), .val (.int p5), .val (.ref b46)] [(.int (8 : Int32))])) _
          refine XS.ifNo X62.here hx rfl (hb hby d1_565) rfl ((if0 _ _).trans (tlt (by decide)).2.2.2) ?_
          show Steps p.tables e below (T62.setTop (mkF m 568 #[.val (.int p1), .val (.int p2), .val (.int p3), .val (.int p4), .val (.int p5), .val (.ref b46)] [])) _
          refine XS.aload X62.here hx rfl (hb hby d1_568) rfl rfl ?_
          show Steps p.tables e below (T62.setTop (mkF m 570 #[.val (.int p1), .val (.int p2), .val (.int p3), .val (.int p4), .val (.int p5), .val (.ref b46)] [(.ref b46)])) _
          refine XS.iloadN X62.here hx rfl (hb hby d1_570) rfl ?_
          show Steps p.tables e below (T62.setTop (mkF m 571 #[.val (.int p1), .val (.int p2), .val (.int p3), .val (.int p4), .val (.int p5), .val (.ref b46)] [(.int p2), (.ref b46)])) _
          refine X62.ldcInt hx hown (mvT hZ (hw _ (List.mem_of_getElem? (i := 0) rfl))) (g := (mkF m 571 #[.val (.int p1), .val (.int p2), .val (.int p3), .val (.int p4), .val (.int p5), .val (.ref b46)] [(.int p2), (.ref b46)])) rfl (hb hby d1_571) _ ?_
          show Steps p.tables e below (T62.setTop (mkF m 573 #[.val (.int p1), .val (.int p2), .val (.int p3), .val (.int p4), .val (.int p5), .val (.ref b46)] [(.int (2147483647 : Int32)), (.int p2), (.ref b46)])) _
          refine XS.iand X62.here hx rfl (hb hby d1_573) rfl ?_
          show Steps p.tables e below (T62.setTop (mkF m 574 #[.val (.int p1), .val (.int p2), .val (.int p3), .val (.int p4), .val (.int p5), .val (.ref b46)] [(.int (p2 &&& (2147483647 : Int32))), (.ref b46)])) _
          refine XS.aload X62.here hx rfl (hb hby d1_574) rfl rfl ?_
          show Steps p.tables e below (T62.setTop (mkF m 576 #[.val (.int p1), .val (.int p2), .val (.int p3), .val (.int p4), .val (.int p5), .val (.ref b46)] [(.ref b46), (.int (p2 &&& (2147483647 : Int32))), (.ref b46)])) _
          refine X62.arraylength hx (by rw [e62]; exact Ar67.1) ia67 (g := (mkF m 576 #[.val (.int p1), .val (.int p2), .val (.int p3), .val (.int p4), .val (.int p5), .val (.ref b46)] [(.ref b46), (.int (p2 &&& (2147483647 : Int32))), (.ref b46)])) rfl rfl (hb hby d1_576) _ ?_
          rw [hl67]
          show Steps p.tables e below (T62.setTop (mkF m 577 #[.val (.int p1), .val (.int p2), .val (.int p3), .val (.int p4), .val (.int p5), .val (.ref b46)] [(.int (8 : Int32)), (.int (p2 &&& (2147483647 : Int32))), (.ref b46)])) _
          refine iremM X62 hx rfl (hb hby d1_577) rfl (by decide) ?_
          show Steps p.tables e below (T62.setTop (mkF m 578 #[.val (.int p1), .val (.int p2), .val (.int p3), .val (.int p4), .val (.int p5), .val (.ref b46)] [(.int ((p2 &&& (2147483647 : Int32)) % (8 : Int32))), (.ref b46)])) _
          refine XS.iload X62.here hx rfl (hb hby d1_578) rfl ?_
          show Steps p.tables e below (T62.setTop (mkF m 580 #[.val (.int p1), .val (.int p2), .val (.int p3), .val (.int p4), .val (.int p5), .val (.ref b46)] [(.int p5), (.int ((p2 &&& (2147483647 : Int32)) % (8 : Int32))), (.ref b46)])) _
          refine st69 _ ?_
          show Steps p.tables e below (T69.setTop (mkF m 581 #[.val (.int p1), .val (.int p2), .val (.int p3), .val (.int p4), .val (.int p5), .val (.ref b46)] [])) _
          refine st70 _ ?_
          show Steps p.tables e below (T70.setTop (mkF m 584 #[.val (.int p1), .val (.int p2), .val (.int p3), .val (.int p4), .val (.int p5), .val (.ref b46)] [(.ref b70)])) _
          refine XS.dup X70.here hx rfl (hb hby d1_584) rfl rfl ?_
          show Steps p.tables e below (T70.setTop (mkF m 585 #[.val (.int p1), .val (.int p2), .val (.int p3), .val (.int p4), .val (.int p5), .val (.ref b46)] [(.ref b70), (.ref b70)])) _
          refine XS.aload X70.here hx rfl (hb hby d1_585) rfl rfl ?_
          show Steps p.tables e below (T70.setTop (mkF m 587 #[.val (.int p1), .val (.int p2), .val (.int p3), .val (.int p4), .val (.int p5), .val (.ref b46)] [(.ref b46), (.ref b70), (.ref b70)])) _
          refine st71.trans ?_
          show Steps p.tables e below (T71.setTop (mkF m 590 #[.val (.int p1), .val (.int p2), .val (.int p3), .val (.int p4), .val (.int p5), .val (.ref b46)] [(.ref b70)])) _
          exact retOut X71 hx Bd.returns rfl (Or.inr (Or.inr (Or.inr (Or.inr ⟨rfl, rfl, rfl⟩)))) (hb hby d1_590) hr
        · show QB Z p1 p2 p3 p4 p5 zc h0 n0 _ T71.heap _
          exact ⟨b70, (([(nar .char (115 : Int32)), (nar .char (110 : Int32)), (nar .char (97 : Int32)), (nar .char (112 : Int32)), (nar .char (115 : Int32)), (nar .char (104 : Int32)), (nar .char (111 : Int32)), (nar .char (116 : Int32))] : List Int32).set ((p2 &&& (2147483647 : Int32)) % (8 : Int32)).toNatClampNeg (nar .char p5)), rfl, N71, Kp, E_b70, T_b70⟩
    ·
      have pre72 : ∀ t, Steps p.tables e below (s₁.setTop (mkF m 145 #[.val (.int p1), .val (.int p2), .val (.int p3), .val (.int p4), .val (.int p5), .unset] [(.int (2 : Int32)), (.int p1)])) t → Steps p.tables e below (s₁.setTop (entryFrame m #[(.int p1), (.int p2), (.int p3), (.int p4), (.int p5)] 6)) t := fun t k => pre45 t (by
        show Steps p.tables e below (s₁.setTop (mkF m 89 #[.val (.int p1), .val (.int p2), .val (.int p3), .val (.int p4), .val (.int p5), .unset] [(.int (1 : Int32)), (.int p1)])) _
        refine XS.icmpYes X0.here hx rfl (pc0 := 89) (pc' := 143) rfl (hb hby d1_89) rfl (feq hc89).2 (by decide) (by decide) ?_
        show Steps p.tables e below (s₁.setTop (mkF m 143 #[.val (.int p1), .val (.int p2), .val (.int p3), .val (.int p4), .val (.int p5), .unset] [])) _
        refine XS.iloadN X0.here hx rfl (hb hby d1_143) rfl ?_
        show Steps p.tables e below (s₁.setTop (mkF m 144 #[.val (.int p1), .val (.int p2), .val (.int p3), .val (.int p4), .val (.int p5), .unset] [(.int p1)])) _
        refine XS.iconst X0.here hx rfl (hb hby d1_144) ?_
        exact k)
      by_cases hc145 : p1 = (2 : Int32)
      ·
        obtain ⟨T73, h73, k73, X73, e73, E73, A73, B73, st73⟩ := newPE X0 hx hZ (hw _ (List.mem_of_getElem? (i := 5) rfl)) e0 (g := (mkF m 149 #[.val (.int p1), .val (.int p2), .val (.int p3), .val (.int p4), .val (.int p5), .unset] [(.int (5 : Int32))])) rfl (hb hby d1_149) rfl (by decide) (cap := 5) (by decide) (by decide) (by decide) (by decide) (ad := "[C") (by decide)
        obtain ⟨b73, g73⟩ : ∃ z, z = h0.size := ⟨_, rfl⟩
        rw [← g73] at A73 B73 st73
        have g_b73 : n0 ≤ b73 := Nat.le_trans Zs (Nat.le_of_eq g73.symm)
        have sz_b73 : h0.size ≤ b73 := Nat.le_trans Kp.1 (Nat.le_of_eq g73.symm)
        have Hd : CHr Z ELs s.vm h0 s.vm h73 := Hc.trans (CHr.ext E73 Hc.1)
        have Hc := Hd
        have Zs : n0 ≤ h73.size := Nat.le_trans Zs E73.1
        have Ol : Old Z n0 h73 := Ol.ext E73
        have Kp : Keep h0 h73 [] := Kp.ext E73
        have E_b73 : Exa Z h73 b73 "[C" := B73
        have V_b73 : Arv Z h73 b73 k73 .char (5 : Int32) [(.int (0 : Int32)), (.int (0 : Int32)), (.int (0 : Int32)), (.int (0 : Int32)), (.int (0 : Int32))] (.int (0 : Int32)) := (Arv.new A73 (by decide)).pad (pad_rep [] (.int (0 : Int32)) 5)
        obtain ⟨cl74, Ar74, q74, S74, M74, H74, G74⟩ := V_b73
        obtain ⟨T75, h75, X75, e75, W75, st75⟩ := stC X73 hx hZ e73 Ar74 (j := (0 : Int32)) (inb_of S74 (by decide)) (g := (mkF m 155 #[.val (.int p1), .val (.int p2), .val (.int p3), .val (.int p4), .val (.int p5), .unset] [(.int (100 : Int32)), (.int (0 : Int32)), (.ref b73), (.ref b73)])) rfl rfl (hb hby d1_155)
        have N75 := Fr.snoc X75 N0 g_b73
        have Sw := ((Safe.exa hZ.alike E_b73 (by decide) (by decide)) : Safe Z ELs s.vm _ b73)
        have Hd : CHr Z ELs s.vm h0 s.vm h75 := Hc.trans (CHr.wr W75 Sw Hc.1)
        have Hc := Hd
        have Zs : n0 ≤ h75.size := Nat.le_trans Zs (Keep.of_wr W75).1
        have Ol : Old Z n0 h75 := Ol.wr W75 g_b73
        have Kp : Keep h0 h75 [] := Kp.wr W75 (Or.inr sz_b73)
        have E_b73 : Exa Z h75 b73 "[C" := E_b73.wr W75
        have V_b73 : Arv Z h75 b73 k73 .char (5 : Int32) [(.int (nar .char (100 : Int32))), (.int (0 : Int32)), (.int (0 : Int32)), (.int (0 : Int32)), (.int (0 : Int32))] (.int (0 : Int32)) := Arv.set Ar74 q74 S74 M74 H74 G74 (fits_nar_char _) W75 0 rfl (Nat.le_of_ble_eq_true rfl)
        obtain ⟨cl76, Ar76, q76, S76, M76, H76, G76⟩ := V_b73
        obtain ⟨T77, h77, X77, e77, W77, st77⟩ := stC X75 hx hZ e75 Ar76 (j := (1 : Int32)) (inb_of S76 (by decide)) (g := (mkF m 160 #[.val (.int p1), .val (.int p2), .val (.int p3), .val (.int p4), .val (.int p5), .unset] [(.int (101 : Int32)), (.int (1 : Int32)), (.ref b73), (.ref b73)])) rfl rfl (hb hby d1_160)
        have N77 := Fr.snoc X77 N75 g_b73
        have Sw := ((Safe.exa hZ.alike E_b73 (by decide) (by decide)) : Safe Z ELs s.vm _ b73)
        have Hd : CHr Z ELs s.vm h0 s.vm h77 := Hc.trans (CHr.wr W77 Sw Hc.1)
        have Hc := Hd
        have Zs : n0 ≤ h77.size := Nat.le_trans Zs (Keep.of_wr W77).1
        have Ol : Old Z n0 h77 := Ol.wr W77 g_b73
        have Kp : Keep h0 h77 [] := Kp.wr W77 (Or.inr sz_b73)
        have E_b73 : Exa Z h77 b73 "[C" := E_b73.wr W77
        have V_b73 : Arv Z h77 b73 k73 .char (5 : Int32) [(.int (nar .char (100 : Int32))), (.int (nar .char (101 : Int32))), (.int (0 : Int32)), (.int (0 : Int32)), (.int (0 : Int32))] (.int (0 : Int32)) := Arv.set Ar76 q76 S76 M76 H76 G76 (fits_nar_char _) W77 1 rfl (Nat.le_of_ble_eq_true rfl)
        obtain ⟨cl78, Ar78, q78, S78, M78, H78, G78⟩ := V_b73
        obtain ⟨T79, h79, X79, e79, W79, st79⟩ := stC X77 hx hZ e77 Ar78 (j := (2 : Int32)) (inb_of S78 (by decide)) (g := (mkF m 165 #[.val (.int p1), .val (.int p2), .val (.int p3), .val (.int p4), .val (.int p5), .unset] [(.int (108 : Int32)), (.int (2 : Int32)), (.ref b73), (.ref b73)])) rfl rfl (hb hby d1_165)
        have N79 := Fr.snoc X79 N77 g_b73
        have Sw := ((Safe.exa hZ.alike E_b73 (by decide) (by decide)) : Safe Z ELs s.vm _ b73)
        have Hd : CHr Z ELs s.vm h0 s.vm h79 := Hc.trans (CHr.wr W79 Sw Hc.1)
        have Hc := Hd
        have Zs : n0 ≤ h79.size := Nat.le_trans Zs (Keep.of_wr W79).1
        have Ol : Old Z n0 h79 := Ol.wr W79 g_b73
        have Kp : Keep h0 h79 [] := Kp.wr W79 (Or.inr sz_b73)
        have E_b73 : Exa Z h79 b73 "[C" := E_b73.wr W79
        have V_b73 : Arv Z h79 b73 k73 .char (5 : Int32) [(.int (nar .char (100 : Int32))), (.int (nar .char (101 : Int32))), (.int (nar .char (108 : Int32))), (.int (0 : Int32)), (.int (0 : Int32))] (.int (0 : Int32)) := Arv.set Ar78 q78 S78 M78 H78 G78 (fits_nar_char _) W79 2 rfl (Nat.le_of_ble_eq_true rfl)
        obtain ⟨cl80, Ar80, q80, S80, M80, H80, G80⟩ := V_b73
        obtain ⟨T81, h81, X81, e81, W81, st81⟩ := stC X79 hx hZ e79 Ar80 (j := (3 : Int32)) (inb_of S80 (by decide)) (g := (mkF m 170 #[.val (.int p1), .val (.int p2), .val (.int p3), .val (.int p4), .val (.int p5), .unset] [(.int (116 : Int32)), (.int (3 : Int32)), (.ref b73), (.ref b73)])) rfl rfl (hb hby d1_170)
        have N81 := Fr.snoc X81 N79 g_b73
        have Sw := ((Safe.exa hZ.alike E_b73 (by decide) (by decide)) : Safe Z ELs s.vm _ b73)
        have Hd : CHr Z ELs s.vm h0 s.vm h81 := Hc.trans (CHr.wr W81 Sw Hc.1)
        have Hc := Hd
        have Zs : n0 ≤ h81.size := Nat.le_trans Zs (Keep.of_wr W81).1
        have Ol : Old Z n0 h81 := Ol.wr W81 g_b73
        have Kp : Keep h0 h81 [] := Kp.wr W81 (Or.inr sz_b73)
        have E_b73 : Exa Z h81 b73 "[C" := E_b73.wr W81
        have V_b73 : Arv Z h81 b73 k73 .char (5 : Int32) [(.int (nar .char (100 : Int32))), (.int (nar .char (101 : Int32))), (.int (nar .char (108 : Int32))), (.int (nar .char (116 : Int32))), (.int (0 : Int32))] (.int (0 : Int32)) := Arv.set Ar80 q80 S80 M80 H80 G80 (fits_nar_char _) W81 3 rfl (Nat.le_of_ble_eq_true rfl)
        obtain ⟨cl82, Ar82, q82, S82, M82, H82, G82⟩ := V_b73
        obtain ⟨T83, h83, X83, e83, W83, st83⟩ := stC X81 hx hZ e81 Ar82 (j := (4 : Int32)) (inb_of S82 (by decide)) (g := (mkF m 175 #[.val (.int p1), .val (.int p2), .val (.int p3), .val (.int p4), .val (.int p5), .unset] [(.int (97 : Int32)), (.int (4 : Int32)), (.ref b73), (.ref b73)])) rfl rfl (hb hby d1_175)
        have N83 := Fr.snoc X83 N81 g_b73
        have Sw := ((Safe.exa hZ.alike E_b73 (by decide) (by decide)) : Safe Z ELs s.vm _ b73)
        have Hd : CHr Z ELs s.vm h0 s.vm h83 := Hc.trans (CHr.wr W83 Sw Hc.1)
        have Hc := Hd
        have Zs : n0 ≤ h83.size := Nat.le_trans Zs (Keep.of_wr W83).1
        have Ol : Old Z n0 h83 := Ol.wr W83 g_b73
        have Kp : Keep h0 h83 [] := Kp.wr W83 (Or.inr sz_b73)
        have E_b73 : Exa Z h83 b73 "[C" := E_b73.wr W83
        have V_b73 : Arv Z h83 b73 k73 .char (5 : Int32) [(.int (nar .char (100 : Int32))), (.int (nar .char (101 : Int32))), (.int (nar .char (108 : Int32))), (.int (nar .char (116 : Int32))), (.int (nar .char (97 : Int32)))] (.int (0 : Int32)) := Arv.set Ar82 q82 S82 M82 H82 G82 (fits_nar_char _) W83 4 rfl (Nat.le_of_ble_eq_true rfl)
        have pre84 : ∀ t, Steps p.tables e below (T83.setTop (mkF m 559 #[.val (.int p1), .val (.int p2), .val (.int p3), .val (.int p4), .val (.int p5), .val (.ref b73)] [(.int p3)])) t → Steps p.tables e below (s₁.setTop (entryFrame m #[(.int p1), (.int p2), (.int p3), (.int p4), (.int p5)] 6)) t := fun t k => pre72 t (by
          show Steps p.tables e below (s₁.setTop (mkF m 145 #[.val (.int p1), .val (.int p2), .val (.int p3), .val (.int p4), .val (.int p5), .unset] [(.int (2 : Int32)), (.int p1)])) _
          refine XS.icmpNo X0.here hx rfl (hb hby d1_145) rfl (teq hc145).2 ?_
          show Steps p.tables e below (s₁.setTop (mkF m 148 #[.val (.int p1), .val (.int p2), .val (.int p3), .val (.int p4), .val (.int p5), .unset] [])) _
          refine XS.iconst X0.here hx rfl (hb hby d1_148) ?_
          show Steps p.tables e below (s₁.setTop (mkF m 149 #[.val (.int p1), .val (.int p2), .val (.int p3), .val (.int p4), .val (.int p5), .unset] [(.int (5 : Int32))])) _
          refine st73 _ ?_
          show Steps p.tables e below (T73.setTop (mkF m 151 #[.val (.int p1), .val (.int p2), .val (.int p3), .val (.int p4), .val (.int p5), .unset] [(.ref b73)])) _
          refine XS.dup X73.here hx rfl (hb hby d1_151) rfl rfl ?_
          show Steps p.tables e below (T73.setTop (mkF m 152 #[.val (.int p1), .val (.int p2), .val (.int p3), .val (.int p4), .val (.int p5), .unset] [(.ref b73), (.ref b73)])) _
          refine XS.iconst X73.here hx rfl (hb hby d1_152) ?_
          show Steps p.tables e below (T73.setTop (mkF m 153 #[.val (.int p1), .val (.int p2), .val (.int p3), .val (.int p4), .val (.int p5), .unset] [(.int (0 : Int32)), (.ref b73), (.ref b73)])) _
          refine XS.bipush X73.here hx rfl (hb hby d1_153) ?_
          show Steps p.tables e below (T73.setTop (mkF m 155 #[.val (.int p1), .val (.int p2), .val (.int p3), .val (.int p4), .val (.int p5), .unset] [(.int (100 : Int32)), (.int (0 : Int32)), (.ref b73), (.ref b73)])) _
          refine st75 _ ?_
          show Steps p.tables e below (T75.setTop (mkF m 156 #[.val (.int p1), .val (.int p2), .val (.int p3), .val (.int p4), .val (.int p5), .unset] [(.ref b73)])) _
          refine XS.dup X75.here hx rfl (hb hby d1_156) rfl rfl ?_
          show Steps p.tables e below (T75.setTop (mkF m 157 #[.val (.int p1), .val (.int p2), .val (.int p3), .val (.int p4), .val (.int p5), .unset] [(.ref b73), (.ref b73)])) _
          refine XS.iconst X75.here hx rfl (hb hby d1_157) ?_
          show Steps p.tables e below (T75.setTop (mkF m 158 #[.val (.int p1), .val (.int p2), .val (.int p3), .val (.int p4), .val (.int p5), .unset] [(.int (1 : Int32)), (.ref b73), (.ref b73)])) _
          refine XS.bipush X75.here hx rfl (hb hby d1_158) ?_
          show Steps p.tables e below (T75.setTop (mkF m 160 #[.val (.int p1), .val (.int p2), .val (.int p3), .val (.int p4), .val (.int p5), .unset] [(.int (101 : Int32)), (.int (1 : Int32)), (.ref b73), (.ref b73)])) _
          refine st77 _ ?_
          show Steps p.tables e below (T77.setTop (mkF m 161 #[.val (.int p1), .val (.int p2), .val (.int p3), .val (.int p4), .val (.int p5), .unset] [(.ref b73)])) _
          refine XS.dup X77.here hx rfl (hb hby d1_161) rfl rfl ?_
          show Steps p.tables e below (T77.setTop (mkF m 162 #[.val (.int p1), .val (.int p2), .val (.int p3), .val (.int p4), .val (.int p5), .unset] [(.ref b73), (.ref b73)])) _
          refine XS.iconst X77.here hx rfl (hb hby d1_162) ?_
          show Steps p.tables e below (T77.setTop (mkF m 163 #[.val (.int p1), .val (.int p2), .val (.int p3), .val (.int p4), .val (.int p5), .unset] [(.int (2 : Int32)), (.ref b73), (.ref b73)])) _
          refine XS.bipush X77.here hx rfl (hb hby d1_163) ?_
          show Steps p.tables e below (T77.setTop (mkF m 165 #[.val (.int p1), .val (.int p2), .val (.int p3), .val (.int p4), .val (.int p5), .unset] [(.int (108 : Int32)), (.int (2 : Int32)), (.ref b73), (.ref b73)])) _
          refine st79 _ ?_
          show Steps p.tables e below (T79.setTop (mkF m 166 #[.val (.int p1), .val (.int p2), .val (.int p3), .val (.int p4), .val (.int p5), .unset] [(.ref b73)])) _
          refine XS.dup X79.here hx rfl (hb hby d1_166) rfl rfl ?_
          show Steps p.tables e below (T79.setTop (mkF m 167 #[.val (.int p1), .val (.int p2), .val (.int p3), .val (.int p4), .val (.int p5), .unset] [(.ref b73), (.ref b73)])) _
          refine XS.iconst X79.here hx rfl (hb hby d1_167) ?_
          show Steps p.tables e below (T79.setTop (mkF m 168 #[.val (.int p1), .val (.int p2), .val (.int p3), .val (.int p4), .val (.int p5), .unset] [(.int (3 : Int32)), (.ref b73), (.ref b73)])) _
          refine XS.bipush X79.here hx rfl (hb hby d1_168) ?_
          show Steps p.tables e below (T79.setTop (mkF m 170 #[.val (.int p1), .val (.int p2), .val (.int p3), .val (.int p4), .val (.int p5), .unset] [(.int (116 : Int32)), (.int (3 : Int32)), (.ref b73), (.ref b73)])) _
          refine st81 _ ?_
          show Steps p.tables e below (T81.setTop (mkF m 171 #[.val (.int p1), .val (.int p2), .val (.int p3), .val (.int p4), .val (.int p5), .unset] [(.ref b73)])) _
          refine XS.dup X81.here hx rfl (hb hby d1_171) rfl rfl ?_
          show Steps p.tables e below (T81.setTop (mkF m 172 #[.val (.int p1), .val (.int p2), .val (.int p3), .val (.int p4), .val (.int p5), .unset] [(.ref b73), (.ref b73)])) _
          refine XS.iconst X81.here hx rfl (hb hby d1_172) ?_
          show Steps p.tables e below (T81.setTop (mkF m 173 #[.val (.int p1), .val (.int p2), .val (.int p3), .val (.int p4), .val (.int p5), .unset] [(.int (4 : Int32)), (.ref b73), (.ref b73)])) _
          refine XS.bipush X81.here hx rfl (hb hby d1_173) ?_
          show Steps p.tables e below (T81.setTop (mkF m 175 #[.val (.int p1), .val (.int p2), .val (.int p3), .val (.int p4), .val (.int p5), .unset] [(.int (97 : Int32)), (.int (4 : Int32)), (.ref b73), (.ref b73)])) _
          refine st83 _ ?_
          show Steps p.tables e below (T83.setTop (mkF m 176 #[.val (.int p1), .val (.int p2), .val (.int p3), .val (.int p4), .val (.int p5), .unset] [(.ref b73)])) _
          refine XS.astore X83.here hx rfl (hb hby d1_176) rfl rfl (l' := #[.val (.int p1), .val (.int p2), .val (.int p3), .val (.int p4), .val (.int p5), .val (.ref b73)]) rfl ?_
          show Steps p.tables e below (T83.setTop (mkF m 178 #[.val (.int p1), .val (.int p2), .val (.int p3), .val (.int p4), .val (.int p5), .val (.ref b73)] [])) _
          refine XS.goto X83.here hx rfl (pc0 := 178) (pc' := 558) rfl (hb hby d1_178) (by decide) (by decide) ?_
          show Steps p.tables e below (T83.setTop (mkF m 558 #[.val (.int p1), .val (.int p2), .val (.int p3), .val (.int p4), .val (.int p5), .val (.ref b73)] [])) _
          refine XS.iloadN X83.here hx rfl (hb hby d1_558) rfl ?_
          exact k)
        by_cases hc559 : p3 = (0 : Int32)
        ·
          obtain ⟨T85, h85, X85, e85, E85, A85, D85, -, st85⟩ := newO X83 hx hZ hown (hw _ (List.mem_of_getElem? (i := 6) rfl)) (hw _ (List.mem_of_getElem? (i := 7) rfl)) (hw _ (List.mem_of_getElem? (i := 8) rfl)) e83 (g := (mkF m 581 #[.val (.int p1), .val (.int p2), .val (.int p3), .val (.int p4), .val (.int p5), .val (.ref b73)] [])) rfl (hb hby d1_581) (by decide) (by decide)
          obtain ⟨b85, g85⟩ : ∃ z, z = h83.size := ⟨_, rfl⟩
          rw [← g85] at A85 D85 st85
          have g_b85 : n0 ≤ b85 := Nat.le_trans Zs (Nat.le_of_eq g85.symm)
          have sz_b85 : h0.size ≤ b85 := Nat.le_trans Kp.1 (Nat.le_of_eq g85.symm)
          have ne_b73_b85 : b73 ≠ b85 := Nat.ne_of_lt (Nat.lt_of_lt_of_le E_b73.lt (Nat.le_of_eq g85.symm))
          have Sf_b85 : Safe Z ELs s.vm h83 b85 := Safe.new (Nat.le_of_eq g85.symm)
          have Hd : CHr Z ELs s.vm h0 s.vm h85 := Hc.trans (CHr.ext E85 Hc.1)
          have Sg_b85 : Safe Z ELs s.vm h85 b85 := Safe.ext E85 Hc.1 Sf_b85
          have Sf_b85 := Sg_b85
          have Hc := Hd
          have Zs : n0 ≤ h85.size := Nat.le_trans Zs E85.1
          have Ol : Old Z n0 h85 := Ol.ext E85
          have Kp : Keep h0 h85 [] := Kp.ext E85
          have E_b73 : Exa Z h85 b73 "[C" := E_b73.ext E85
          have V_b73 : Arv Z h85 b73 k73 .char (5 : Int32) [(.int (nar .char (100 : Int32))), (.int (nar .char (101 : Int32))), (.int (nar .char (108 : Int32))), (.int (nar .char (116 : Int32))), (.int (nar .char (97 : Int32)))] (.int (0 : Int32)) := V_b73.ext E85
          have E_b85 : Exa Z h85 b85 "java/lang/String" := A85
          have F_coder_b85 : Fld Z h85 b85 "java/lang/String" "coder" "B" (.int (0 : Int32)) := D85 (Or.inr (hw _ (List.mem_of_getElem? (i := 32) rfl))) (ty := .byte) (by decide)
          have F_value_b85 : Fld Z h85 b85 "java/lang/String" "value" "[B" .null := D85 (Or.inr (hw _ (List.mem_of_getElem? (i := 34) rfl))) (ty := (.array .byte)) (by decide)
          obtain ⟨_, _, ⟨T86, L86, k86, n86⟩, -, X86, ⟨Lc86, hQ86, l86, y86, z86⟩, st86⟩ := X85.specialBack hx (y := (⟨"java/lang/String", "<init>", "([C)V"⟩ : MethodName)) rfl hown (mvT hZ (hw _ (List.mem_of_getElem? (i := 9) rfl))) (mvT hZ (hw _ (List.mem_of_getElem? (i := 10) rfl))) (mvT hZ (hw _ (List.mem_of_getElem? (i := 11) rfl))) (by decide) (own_new (W := 1) hZ hw g_b85 Zs E_b85 F_value_b85 F_coder_b85 (cs := [(nar .char (100 : Int32)), (nar .char (101 : Int32)), (nar .char (108 : Int32)), (nar .char (116 : Int32)), (nar .char (97 : Int32))]) (n := 5) V_b73 (Sta.ext Ol.2 S_COMPACT_STRINGS) hzc rfl rfl (by decide) (by decide) (alIS (by decide) (alIS (by decide) (alIS (by decide) (alIS (by decide) (alIS (by decide) alI0))))) (by decide) (by decide)) (g := (mkF m 587 #[.val (.int p1), .val (.int p2), .val (.int p3), .val (.int p4), .val (.int p5), .val (.ref b73)] [(.ref b73), (.ref b85), (.ref b85)])) rfl (by rw [hml]; rfl) (Steps.refl _) (a := b85) (argsL := [(.ref b73)]) (rest := [(.ref b85)]) (lenOf pd_1 rfl) rfl (by show 2 * 0 + _ ≤ _; exact Nat.le_of_eq rfl) (hb hby d1_587) (fun _ _ => ⟨rfl, e85, (by decide : 2 + 1 ≤ _), (by decide : 9 + 5 ≤ _)⟩)
          dsimp only [Pt.U, Pt.locs, Pt.cells, Pt.slots] at X86 l86 y86 z86 st86 hQ86
          subst l86 y86 z86
          obtain ⟨rfl, N86q, K86, T86x⟩ := hQ86
          have Hd : CHr Z ELs s.vm h0 s.vm T86.heap := Hc.trans (CHr.keep K86 (allS (Sf_b85 : Safe Z ELs s.vm _ b85) all0) Hc.1)
          have Sg_b85 : Safe Z ELs s.vm T86.heap b85 := Safe.keep K86 (allS (Sf_b85 : Safe Z ELs s.vm _ b85) all0) Hc.1 Sf_b85
          have Sf_b85 := Sg_b85
          have Hc := Hd
          have Zs : n0 ≤ T86.heap.size := Nat.le_trans Zs K86.1
          have Ol : Old Z n0 T86.heap := Ol.keep K86 (allS g_b85 all0)
          have Kp : Keep h0 T86.heap [] := Kp.trans K86 (allS (Or.inr sz_b85) all0)
          have E_b73 : Exa Z T86.heap b73 "[C" := E_b73.keep K86
          have E_b85 : Exa Z T86.heap b85 "java/lang/String" := E_b85.keep K86
          have T_b85 : Stx Z T86.heap b85 [(nar .char (100 : Int32)), (nar .char (101 : Int32)), (nar .char (108 : Int32)), (nar .char (116 : Int32)), (nar .char (97 : Int32))] := T86x
          have N86 := Fr.app N83 N86q
          obtain ⟨fs, hr, hrun, hended, hRW⟩ := X86.leaveW (s := s) (vm₁ := s.vm) ((State.WarmedH.refl s).since 0) (Nat.zero_le _) (v := some (.ref b85)) (fun h => by rw [Bd.returns] at h; cases h)
          have hCR : CHr Z ELs s.vm h0 T86.vm T86.heap := Hc.trans (CHv.at X86 hZ hEL Hc.1)
          refine ⟨_, _, pre84 _ ?_, hrun, hended, _, _, rfl, ?_, (by rw [hh]; show CHr Z ELs s.vm h0 T86.vm T86.heap; exact hCR), ⟨hRW.1, hRW.2.1, hRW.2.2.1, hRW.2.2.2.mono (by decide) (by decide)⟩⟩
          · show Steps p.tables e below (T83.setTop (mkF m 559 #[.val (.int p1), .val (.int p2), .val (.int p3), .val (.int p4), .val (.int p5), .val (.ref b73)] [(.int p3)])) _
            refine XS.ifYes X83.here hx rfl (pc0 := 559) (pc' := 581) rfl (hb hby d1_559) rfl ((if0 _ _).trans (teq hc559).1) (by decide) (by decide) ?_
            show Steps p.tables e below (T83.setTop (mkF m 581 #[.val (.int p1), .val (.int p2), .val (.int p3), .val (.int p4), .val (.int p5), .val (.ref b73)] [])) _
            refine st85 _ ?_
            show Steps p.tables e below (T85.setTop (mkF m 584 #[.val (.int p1), .val (.int p2), .val (.int p3), .val (.int p4), .val (.int p5), .val (.ref b73)] [(.ref b85)])) _
            refine XS.dup X85.here hx rfl (hb hby d1_584) rfl rfl ?_
            show Steps p.tables e below (T85.setTop (mkF m 585 #[.val (.int p1), .val (.int p2), .val (.int p3), .val (.int p4), .val (.int p5), .val (.ref b73)] [(.ref b85), (.ref b85)])) _
            refine XS.aload X85.here hx rfl (hb hby d1_585) rfl rfl ?_
            show Steps p.tables e below (T85.setTop (mkF m 587 #[.val (.int p1), .val (.int p2), .val (.int p3), .val (.int p4), .val (.int p5), .val (.ref b73)] [(.ref b73), (.ref b85), (.ref b85)])) _
            refine st86.trans ?_
            show Steps p.tables e below (T86.setTop (mkF m 590 #[.val (.int p1), .val (.int p2), .val (.int p3), .val (.int p4), .val (.int p5), .val (.ref b73)] [(.ref b85)])) _
            exact retOut X86 hx Bd.returns rfl (Or.inr (Or.inr (Or.inr (Or.inr ⟨rfl, rfl, rfl⟩)))) (hb hby d1_590) hr
          · show QB Z p1 p2 p3 p4 p5 zc h0 n0 _ T86.heap _
            exact ⟨b85, [(nar .char (100 : Int32)), (nar .char (101 : Int32)), (nar .char (108 : Int32)), (nar .char (116 : Int32)), (nar .char (97 : Int32))], rfl, N86, Kp, E_b85, T_b85⟩
        ·
          obtain ⟨cl87, Ar87, hl87⟩ := Arv.len V_b73 (by decide)
          have ia87 := State.isArrayOf_alike hZ.alike Ar87.2.1
          obtain ⟨cl88, Ar88, hl88⟩ := Arv.len V_b73 (by decide)
          have ia88 := State.isArrayOf_alike hZ.alike Ar88.2.1
          obtain ⟨cl89, Ar89, q89, S89, M89, H89, G89⟩ := V_b73
          obtain ⟨T90, h90, X90, e90, W90, st90⟩ := stC X83 hx hZ e83 Ar89 (j := ((p2 &&& (2147483647 : Int32)) % (5 : Int32))) (inb_of S89 (own_rem p2 (by decide))) (g := (mkF m 580 #[.val (.int p1), .val (.int p2), .val (.int p3), .val (.int p4), .val (.int p5), .val (.ref b73)] [(.int p5), (.int ((p2 &&& (2147483647 : Int32)) % (5 : Int32))), (.ref b73)])) rfl rfl (hb hby d1_580)
          have N90 := Fr.snoc X90 N83 g_b73
          have Sw := ((Safe.exa hZ.alike E_b73 (by decide) (by decide)) : Safe Z ELs s.vm _ b73)
          have Hd : CHr Z ELs s.vm h0 s.vm h90 := Hc.trans (CHr.wr W90 Sw Hc.1)
          have Hc := Hd
          have Zs : n0 ≤ h90.size := Nat.le_trans Zs (Keep.of_wr W90).1
          have Ol : Old Z n0 h90 := Ol.wr W90 g_b73
          have Kp : Keep h0 h90 [] := Kp.wr W90 (Or.inr sz_b73)
          have E_b73 : Exa Z h90 b73 "[C" := E_b73.wr W90
          have V_b73 : Arv Z h90 b73 k73 .char (5 : Int32) ((([(nar .char (100 : Int32)), (nar .char (101 : Int32)), (nar .char (108 : Int32)), (nar .char (116 : Int32)), (nar .char (97 : Int32))] : List Int32).set ((p2 &&& (2147483647 : Int32)) % (5 : Int32)).toNatClampNeg (nar .char p5)).map Value.int) (.int (0 : Int32)) := by rw [List.map_set]; exact Arv.set Ar89 q89 S89 M89 H89 G89 (fits_nar_char _) W90 _ rfl (own_ix (own_rem p2 (by decide)) (Nat.le_of_eq rfl))
          obtain ⟨T91, h91, X91, e91, E91, A91, D91, -, st91⟩ := newO X90 hx hZ hown (hw _ (List.mem_of_getElem? (i := 6) rfl)) (hw _ (List.mem_of_getElem? (i := 7) rfl)) (hw _ (List.mem_of_getElem? (i := 8) rfl)) e90 (g := (mkF m 581 #[.val (.int p1), .val (.int p2), .val (.int p3), .val (.int p4), .val (.int p5), .val (.ref b73)] [])) rfl (hb hby d1_581) (by decide) (by decide)
          obtain ⟨b91, g91⟩ : ∃ z, z = h90.size := ⟨_, rfl⟩
          rw [← g91] at A91 D91 st91
          have g_b91 : n0 ≤ b91 := Nat.le_trans Zs (Nat.le_of_eq g91.symm)
          have sz_b91 : h0.size ≤ b91 := Nat.le_trans Kp.1 (Nat.le_of_eq g91.symm)
          have ne_b73_b91 : b73 ≠ b91 := Nat.ne_of_lt (Nat.lt_of_lt_of_le E_b73.lt (Nat.le_of_eq g91.symm))
          have Sf_b91 : Safe Z ELs s.vm h90 b91 := Safe.new (Nat.le_of_eq g91.symm)
          have Hd : CHr Z ELs s.vm h0 s.vm h91 := Hc.trans (CHr.ext E91 Hc.1)
          have Sg_b91 : Safe Z ELs s.vm h91 b91 := Safe.ext E91 Hc.1 Sf_b91
          have Sf_b91 := Sg_b91
          have Hc := Hd
          have Zs : n0 ≤ h91.size := Nat.le_trans Zs E91.1
          have Ol : Old Z n0 h91 := Ol.ext E91
          have Kp : Keep h0 h91 [] := Kp.ext E91
          have E_b73 : Exa Z h91 b73 "[C" := E_b73.ext E91
          have V_b73 : Arv Z h91 b73 k73 .char (5 : Int32) ((([(nar .char (100 : Int32)), (nar .char (101 : Int32)), (nar .char (108 : Int32)), (nar .char (116 : Int32)), (nar .char (97 : Int32))] : List Int32).set ((p2 &&& (2147483647 : Int32)) % (5 : Int32)).toNatClampNeg (nar .char p5)).map Value.int) (.int (0 : Int32)) := V_b73.ext E91
          have E_b91 : Exa Z h91 b91 "java/lang/String" := A91
          have F_coder_b91 : Fld Z h91 b91 "java/lang/String" "coder" "B" (.int (0 : Int32)) := D91 (Or.inr (hw _ (List.mem_of_getElem? (i := 32) rfl))) (ty := .byte) (by decide)
          have F_value_b91 : Fld Z h91 b91 "java/lang/String" "value" "[B" .null := D91 (Or.inr (hw _ (List.mem_of_getElem? (i := 34) rfl))) (ty := (.array .byte)) (by decide)
          obtain ⟨_, _, ⟨T92, L92, k92, n92⟩, -, X92, ⟨Lc92, hQ92, l92, y92, z92⟩, st92⟩ := X91.specialBack hx (y := (⟨"java/lang/String", "<init>", "([C)V"⟩ : MethodName)) rfl hown (mvT hZ (hw _ (List.mem_of_getElem? (i := 9) rfl))) (mvT hZ (hw _ (List.mem_of_getElem? (i := 10) rfl))) (mvT hZ (hw _ (List.mem_of_getElem? (i := 11) rfl))) (by decide) (own_new (W := 1) hZ hw g_b91 Zs E_b91 F_value_b91 F_coder_b91 (cs := (([(nar .char (100 : Int32)), (nar .char (101 : Int32)), (nar .char (108 : Int32)), (nar .char (116 : Int32)), (nar .char (97 : Int32))] : List Int32).set ((p2 &&& (2147483647 : Int32)) % (5 : Int32)).toNatClampNeg (nar .char p5))) (n := 5) V_b73 (Sta.ext Ol.2 S_COMPACT_STRINGS) hzc (by rw [List.length_set]; rfl) rfl (by decide) (by decide) (own_set (alIS (by decide) (alIS (by decide) (alIS (by decide) (alIS (by decide) (alIS (by decide) alI0))))) hd) (by decide) (by decide)) (g := (mkF m 587 #[.val (.int p1), .val (.int p2), .val (.int p3), .val (.int p4), .val (.int p5), .val (.ref b73)] [(.ref b73), (.ref b91), (.ref b91)])) rfl (by rw [hml]; rfl) (Steps.refl _) (a := b91) (argsL := [(.ref b73)]) (rest := [(.ref b91)]) (lenOf pd_1 rfl) rfl (by show 2 * 0 + _ ≤ _; exact Nat.le_of_eq rfl) (hb hby d1_587) (fun _ _ => ⟨rfl, e91, (by decide : 2 + 1 ≤ _), (by decide : 9 + 5 ≤ _)⟩)
          dsimp only [Pt.U, Pt.locs, Pt.cells, Pt.slots] at X92 l92 y92 z92 st92 hQ92
          subst l92 y92 z92
          obtain ⟨rfl, N92q, K92, T92x⟩ := hQ92
          have Hd : CHr Z ELs s.vm h0 s.vm T92.heap := Hc.trans (CHr.keep K92 (allS (Sf_b91 : Safe Z ELs s.vm _ b91) all0) Hc.1)
          have Sg_b91 : Safe Z ELs s.vm T92.heap b91 := Safe.keep K92 (allS (Sf_b91 : Safe Z ELs s.vm _ b91) all0) Hc.1 Sf_b91
          have Sf_b91 := Sg_b91
          have Hc := Hd
          have Zs : n0 ≤ T92.heap.size := Nat.le_trans Zs K92.1
          have Ol : Old Z n0 T92.heap := Ol.keep K92 (allS g_b91 all0)
          have Kp : Keep h0 T92.heap [] := Kp.trans K92 (allS (Or.inr sz_b91) all0)
          have E_b73 : Exa Z T92.heap b73 "[C" := E_b73.keep K92
          have E_b91 : Exa Z T92.heap b91 "java/lang/String" := E_b91.keep K92
          have T_b91 : Stx Z T92.heap b91 (([(nar .char (100 : Int32)), (nar .char (101 : Int32)), (nar .char (108 : Int32)), (nar .char (116 : Int32)), (nar .char (97 : Int32))] : List Int32).set ((p2 &&& (2147483647 : Int32)) % (5 : Int32)).toNatClampNeg (nar .char p5)) := T92x
          have N92 := Fr.app N90 N92q
          obtain ⟨fs, hr, hrun, hended, hRW⟩ := X92.leaveW (s := s) (vm₁ := s.vm) ((State.WarmedH.refl s).since 0) (Nat.zero_le _) (v := some (.ref b91)) (fun h => by rw [Bd.returns] at h; cases h)
          have hCR : CHr Z ELs s.vm h0 T92.vm T92.heap := Hc.trans (CHv.at X92 hZ hEL Hc.1)
          refine ⟨_, _, pre84 _ ?_, hrun, hended, _, _, rfl, ?_, (by rw [hh]; show CHr Z ELs s.vm h0 T92.vm T92.heap; exact hCR), ⟨hRW.1, hRW.2.1, hRW.2.2.1, hRW.2.2.2.mono (by decide) (by decide)⟩⟩
          · show Steps p.tables e below (T83.setTop (mkF m 559 #[.val (.int p1), .val (.int p2), .val (.int p3), .val (.int p4), .val (.int p5), .val (.ref b73)] [(.int p3)])) _
            refine XS.ifNo X83.here hx rfl (hb hby d1_559) rfl ((if0 _ _).trans (feq hc559).1) ?_
            show Steps p.tables e below (T83.setTop (mkF m 562 #[.val (.int p1), .val (.int p2), .val (.int p3), .val (.int p4), .val (.int p5), .val (.ref b73)] [])) _
            refine XS.aload X83.here hx rfl (hb hby d1_562) rfl rfl ?_
            show Steps p.tables e below (T83.setTop (mkF m 564 #[.val (.int p1), .val (.int p2), .val (.int p3), .val (.int p4), .val (.int p5), .val (.ref b73)] [(.ref b73)])) _
            refine X83.arraylength hx (by rw [e83]; exact Ar87.1) ia87 (g := (mkF m 564 #[.val (.int p1), .val (.int p2), .val (.int p3), .val (.int p4), .val (.int p5), .val (.ref b73)] [(.ref b73)])) rfl rfl (hb hby d1_564) _ ?_
            rw [hl87]
            show Steps p.tables e below (T83.setTop (mkF m 565 #[.val (.int p1), .val (.int p2), .val (.int p3), .val (.int p4), .val (.int p5), .val (.ref b73)] [(.int (5 : Int32))])) _
            refine XS.ifNo X83.here hx rfl (hb hby d1_565) rfl ((if0 _ _).trans (tlt (by decide)).2.2.2) ?_
            show Steps p.tables e below (T83.setTop (mkF m 568 #[.val (.int p1), .val (.int p2), .val (.int p3), .val (.int p4), .val (.int p5), .val (.ref b73)] [])) _
            refine XS.aload X83.here hx rfl (hb hby d1_568) rfl rfl ?_
            show Steps p.tables e below (T83.setTop (mkF m 570 #[.val (.int p1), .val (.int p2), .val (.int p3), .val (.int p4), .val (.int p5), .val (.ref b73)] [(.ref b73)])) _
            refine XS.iloadN X83.here hx rfl (hb hby d1_570) rfl ?_
            show Steps p.tables e below (T83.setTop (mkF m 571 #[.val (.int p1), .val (.int p2), .val (.int p3), .val (.int p4), .val (.int p5), .val (.ref b73)] [(.int p2), (.ref b73)])) _
            refine X83.ldcInt hx hown (mvT hZ (hw _ (List.mem_of_getElem? (i := 0) rfl))) (g := (mkF m 571 #[.val (.int p1), .val (.int p2), .val (.int p3), .val (.int p4), .val (.int p5), .val (.ref b73)] [(.int p2), (.ref b73)])) rfl (hb hby d1_571) _ ?_
            show Steps p.tables e below (T83.setTop (mkF m 573 #[.val (.int p1), .val (.int p2), .val (.int p3), .val (.int p4), .val (.int p5), .val (.ref b73)] [(.int (2147483647 : Int32)), (.int p2), (.ref b73)])) _
            refine XS.iand X83.here hx rfl (hb hby d1_573) rfl ?_
            show Steps p.tables e below (T83.setTop (mkF m 574 #[.val (.int p1), .val (.int p2), .val (.int p3), .val (.int p4), .val (.int p5), .val (.ref b73)] [(.int (p2 &&& (2147483647 : Int32))), (.ref b73)])) _
            refine XS.aload X83.here hx rfl (hb hby d1_574) rfl rfl ?_
            show Steps p.tables e below (T83.setTop (mkF m 576 #[.val (.int p1), .val (.int p2), .val (.int p3), .val (.int p4), .val (.int p5), .val (.ref b73)] [(.ref b73), (.int (p2 &&& (2147483647 : Int32))), (.ref b73)])) _
            refine X83.arraylength hx (by rw [e83]; exact Ar88.1) ia88 (g := (mkF m 576 #[.val (.int p1), .val (.int p2), .val (.int p3), .val (.int p4), .val (.int p5), .val (.ref b73)] [(.ref b73), (.int (p2 &&& (2147483647 : Int32))), (.ref b73)])) rfl rfl (hb hby d1_576) _ ?_
            rw [hl88]
            show Steps p.tables e below (T83.setTop (mkF m 577 #[.val (.int p1), .val (.int p2), .val (.int p3), .val (.int p4), .val (.int p5), .val (.ref b73)] [(.int (5 : Int32)), (.int (p2 &&& (2147483647 : Int32))), (.ref b73)])) _
            refine iremM X83 hx rfl (hb hby d1_577) rfl (by decide) ?_
            show Steps p.tables e below (T83.setTop (mkF m 578 #[.val (.int p1), .val (.int p2), .val (.int p3), .val (.int p4), .val (.int p5), .val (.ref b73)] [(.int ((p2 &&& (2147483647 : Int32)) % (5 : Int32))), (.ref b73)])) _
            refine XS.iload X83.here hx rfl (hb hby d1_578) rfl ?_
            show Steps p.tables e below (T83.setTop (mkF m 580 #[.val (.int p1), .val (.int p2), .val (.int p3), .val (.int p4), .val (.int p5), .val (.ref b73)] [(.int p5), (.int ((p2 &&& (2147483647 : Int32)) % (5 : Int32))), (.ref b73)])) _
            refine st90 _ ?_
            show Steps p.tables e below (T90.setTop (mkF m 581 #[.val (.int p1), .val (.int p2), .val (.int p3), .val (.int p4), .val (.int p5), .val (.ref b73)] [])) _
            refine st91 _ ?_
            show Steps p.tables e below (T91.setTop (mkF m 584 #[.val (.int p1), .val (.int p2), .val (.int p3), .val (.int p4), .val (.int p5), .val (.ref b73)] [(.ref b91)])) _
            refine XS.dup X91.here hx rfl (hb hby d1_584) rfl rfl ?_
            show Steps p.tables e below (T91.setTop (mkF m 585 #[.val (.int p1), .val (.int p2), .val (.int p3), .val (.int p4), .val (.int p5), .val (.ref b73)] [(.ref b91), (.ref b91)])) _
            refine XS.aload X91.here hx rfl (hb hby d1_585) rfl rfl ?_
            show Steps p.tables e below (T91.setTop (mkF m 587 #[.val (.int p1), .val (.int p2), .val (.int p3), .val (.int p4), .val (.int p5), .val (.ref b73)] [(.ref b73), (.ref b91), (.ref b91)])) _
            refine st92.trans ?_
            show Steps p.tables e below (T92.setTop (mkF m 590 #[.val (.int p1), .val (.int p2), .val (.int p3), .val (.int p4), .val (.int p5), .val (.ref b73)] [(.ref b91)])) _
            exact retOut X92 hx Bd.returns rfl (Or.inr (Or.inr (Or.inr (Or.inr ⟨rfl, rfl, rfl⟩)))) (hb hby d1_590) hr
          · show QB Z p1 p2 p3 p4 p5 zc h0 n0 _ T92.heap _
            exact ⟨b91, (([(nar .char (100 : Int32)), (nar .char (101 : Int32)), (nar .char (108 : Int32)), (nar .char (116 : Int32)), (nar .char (97 : Int32))] : List Int32).set ((p2 &&& (2147483647 : Int32)) % (5 : Int32)).toNatClampNeg (nar .char p5)), rfl, N92, Kp, E_b91, T_b91⟩
      ·
        have pre93 : ∀ t, Steps p.tables e below (s₁.setTop (mkF m 183 #[.val (.int p1), .val (.int p2), .val (.int p3), .val (.int p4), .val (.int p5), .unset] [(.int (3 : Int32)), (.int p1)])) t → Steps p.tables e below (s₁.setTop (entryFrame m #[(.int p1), (.int p2), (.int p3), (.int p4), (.int p5)] 6)) t := fun t k => pre72 t (by
          show Steps p.tables e below (s₁.setTop (mkF m 145 #[.val (.int p1), .val (.int p2), .val (.int p3), .val (.int p4), .val (.int p5), .unset] [(.int (2 : Int32)), (.int p1)])) _
          refine XS.icmpYes X0.here hx rfl (pc0 := 145) (pc' := 181) rfl (hb hby d1_145) rfl (feq hc145).2 (by decide) (by decide) ?_
          show Steps p.tables e below (s₁.setTop (mkF m 181 #[.val (.int p1), .val (.int p2), .val (.int p3), .val (.int p4), .val (.int p5), .unset] [])) _
          refine XS.iloadN X0.here hx rfl (hb hby d1_181) rfl ?_
          show Steps p.tables e below (s₁.setTop (mkF m 182 #[.val (.int p1), .val (.int p2), .val (.int p3), .val (.int p4), .val (.int p5), .unset] [(.int p1)])) _
          refine XS.iconst X0.here hx rfl (hb hby d1_182) ?_
          exact k)
        by_cases hc183 : p1 = (3 : Int32)
        ·
          obtain ⟨T94, h94, k94, X94, e94, E94, A94, B94, st94⟩ := newPE X0 hx hZ (hw _ (List.mem_of_getElem? (i := 5) rfl)) e0 (g := (mkF m 188 #[.val (.int p1), .val (.int p2), .val (.int p3), .val (.int p4), .val (.int p5), .unset] [(.int (13 : Int32))])) rfl (hb hby d1_188) rfl (by decide) (cap := 13) (by decide) (by decide) (by decide) (by decide) (ad := "[C") (by decide)
          obtain ⟨b94, g94⟩ : ∃ z, z = h0.size := ⟨_, rfl⟩
          rw [← g94] at A94 B94 st94
          have g_b94 : n0 ≤ b94 := Nat.le_trans Zs (Nat.le_of_eq g94.symm)
          have sz_b94 : h0.size ≤ b94 := Nat.le_trans Kp.1 (Nat.le_of_eq g94.symm)
          have Hd : CHr Z ELs s.vm h0 s.vm h94 := Hc.trans (CHr.ext E94 Hc.1)
          have Hc := Hd
          have Zs : n0 ≤ h94.size := Nat.le_trans Zs E94.1
          have Ol : Old Z n0 h94 := Ol.ext E94
          have Kp : Keep h0 h94 [] := Kp.ext E94
          have E_b94 : Exa Z h94 b94 "[C" := B94
          have V_b94 : Arv Z h94 b94 k94 .char (13 : Int32) [(.int (0 : Int32)), (.int (0 : Int32)), (.int (0 : Int32)), (.int (0 : Int32)), (.int (0 : Int32)), (.int (0 : Int32)), (.int (0 : Int32)), (.int (0 : Int32)), (.int (0 : Int32)), (.int (0 : Int32)), (.int (0 : Int32)), (.int (0 : Int32)), (.int (0 : Int32))] (.int (0 : Int32)) := (Arv.new A94 (by decide)).pad (pad_rep [] (.int (0 : Int32)) 13)
          obtain ⟨cl95, Ar95, q95, S95, M95, H95, G95⟩ := V_b94
          obtain ⟨T96, h96, X96, e96, W96, st96⟩ := stC X94 hx hZ e94 Ar95 (j := (0 : Int32)) (inb_of S95 (by decide)) (g := (mkF m 194 #[.val (.int p1), .val (.int p2), .val (.int p3), .val (.int p4), .val (.int p5), .unset] [(.int (110 : Int32)), (.int (0 : Int32)), (.ref b94), (.ref b94)])) rfl rfl (hb hby d1_194)
          have N96 := Fr.snoc X96 N0 g_b94
          have Sw := ((Safe.exa hZ.alike E_b94 (by decide) (by decide)) : Safe Z ELs s.vm _ b94)
          have Hd : CHr Z ELs s.vm h0 s.vm h96 := Hc.trans (CHr.wr W96 Sw Hc.1)
          have Hc := Hd
          have Zs : n0 ≤ h96.size := Nat.le_trans Zs (Keep.of_wr W96).1
          have Ol : Old Z n0 h96 := Ol.wr W96 g_b94
          have Kp : Keep h0 h96 [] := Kp.wr W96 (Or.inr sz_b94)
          have E_b94 : Exa Z h96 b94 "[C" := E_b94.wr W96
          have V_b94 : Arv Z h96 b94 k94 .char (13 : Int32) [(.int (nar .char (110 : Int32))), (.int (0 : Int32)), (.int (0 : Int32)), (.int (0 : Int32)), (.int (0 : Int32)), (.int (0 : Int32)), (.int (0 : Int32)), (.int (0 : Int32)), (.int (0 : Int32)), (.int (0 : Int32)), (.int (0 : Int32)), (.int (0 : Int32)), (.int (0 : Int32))] (.int (0 : Int32)) := Arv.set Ar95 q95 S95 M95 H95 G95 (fits_nar_char _) W96 0 rfl (Nat.le_of_ble_eq_true rfl)
          obtain ⟨cl97, Ar97, q97, S97, M97, H97, G97⟩ := V_b94
          obtain ⟨T98, h98, X98, e98, W98, st98⟩ := stC X96 hx hZ e96 Ar97 (j := (1 : Int32)) (inb_of S97 (by decide)) (g := (mkF m 199 #[.val (.int p1), .val (.int p2), .val (.int p3), .val (.int p4), .val (.int p5), .unset] [(.int (111 : Int32)), (.int (1 : Int32)), (.ref b94), (.ref b94)])) rfl rfl (hb hby d1_199)
          have N98 := Fr.snoc X98 N96 g_b94
          have Sw := ((Safe.exa hZ.alike E_b94 (by decide) (by decide)) : Safe Z ELs s.vm _ b94)
          have Hd : CHr Z ELs s.vm h0 s.vm h98 := Hc.trans (CHr.wr W98 Sw Hc.1)
          have Hc := Hd
          have Zs : n0 ≤ h98.size := Nat.le_trans Zs (Keep.of_wr W98).1
          have Ol : Old Z n0 h98 := Ol.wr W98 g_b94
          have Kp : Keep h0 h98 [] := Kp.wr W98 (Or.inr sz_b94)
          have E_b94 : Exa Z h98 b94 "[C" := E_b94.wr W98
          have V_b94 : Arv Z h98 b94 k94 .char (13 : Int32) [(.int (nar .char (110 : Int32))), (.int (nar .char (111 : Int32))), (.int (0 : Int32)), (.int (0 : Int32)), (.int (0 : Int32)), (.int (0 : Int32)), (.int (0 : Int32)), (.int (0 : Int32)), (.int (0 : Int32)), (.int (0 : Int32)), (.int (0 : Int32)), (.int (0 : Int32)), (.int (0 : Int32))] (.int (0 : Int32)) := Arv.set Ar97 q97 S97 M97 H97 G97 (fits_nar_char _) W98 1 rfl (Nat.le_of_ble_eq_true rfl)
          obtain ⟨cl99, Ar99, q99, S99, M99, H99, G99⟩ := V_b94
          obtain ⟨T100, h100, X100, e100, W100, st100⟩ := stC X98 hx hZ e98 Ar99 (j := (2 : Int32)) (inb_of S99 (by decide)) (g := (mkF m 204 #[.val (.int p1), .val (.int p2), .val (.int p3), .val (.int p4), .val (.int p5), .unset] [(.int (116 : Int32)), (.int (2 : Int32)), (.ref b94), (.ref b94)])) rfl rfl (hb hby d1_204)
          have N100 := Fr.snoc X100 N98 g_b94
          have Sw := ((Safe.exa hZ.alike E_b94 (by decide) (by decide)) : Safe Z ELs s.vm _ b94)
          have Hd : CHr Z ELs s.vm h0 s.vm h100 := Hc.trans (CHr.wr W100 Sw Hc.1)
          have Hc := Hd
          have Zs : n0 ≤ h100.size := Nat.le_trans Zs (Keep.of_wr W100).1
          have Ol : Old Z n0 h100 := Ol.wr W100 g_b94
          have Kp : Keep h0 h100 [] := Kp.wr W100 (Or.inr sz_b94)
          have E_b94 : Exa Z h100 b94 "[C" := E_b94.wr W100
          have V_b94 : Arv Z h100 b94 k94 .char (13 : Int32) [(.int (nar .char (110 : Int32))), (.int (nar .char (111 : Int32))), (.int (nar .char (116 : Int32))), (.int (0 : Int32)), (.int (0 : Int32)), (.int (0 : Int32)), (.int (0 : Int32)), (.int (0 : Int32)), (.int (0 : Int32)), (.int (0 : Int32)), (.int (0 : Int32)), (.int (0 : Int32)), (.int (0 : Int32))] (.int (0 : Int32)) := Arv.set Ar99 q99 S99 M99 H99 G99 (fits_nar_char _) W100 2 rfl (Nat.le_of_ble_eq_true rfl)
          obtain ⟨cl101, Ar101, q101, S101, M101, H101, G101⟩ := V_b94
          obtain ⟨T102, h102, X102, e102, W102, st102⟩ := stC X100 hx hZ e100 Ar101 (j := (3 : Int32)) (inb_of S101 (by decide)) (g := (mkF m 209 #[.val (.int p1), .val (.int p2), .val (.int p3), .val (.int p4), .val (.int p5), .unset] [(.int (105 : Int32)), (.int (3 : Int32)), (.ref b94), (.ref b94)])) rfl rfl (hb hby d1_209)
          have N102 := Fr.snoc X102 N100 g_b94
          have Sw := ((Safe.exa hZ.alike E_b94 (by decide) (by decide)) : Safe Z ELs s.vm _ b94)
          have Hd : CHr Z ELs s.vm h0 s.vm h102 := Hc.trans (CHr.wr W102 Sw Hc.1)
          have Hc := Hd
          have Zs : n0 ≤ h102.size := Nat.le_trans Zs (Keep.of_wr W102).1
          have Ol : Old Z n0 h102 := Ol.wr W102 g_b94
          have Kp : Keep h0 h102 [] := Kp.wr W102 (Or.inr sz_b94)
          have E_b94 : Exa Z h102 b94 "[C" := E_b94.wr W102
          have V_b94 : Arv Z h102 b94 k94 .char (13 : Int32) [(.int (nar .char (110 : Int32))), (.int (nar .char (111 : Int32))), (.int (nar .char (116 : Int32))), (.int (nar .char (105 : Int32))), (.int (0 : Int32)), (.int (0 : Int32)), (.int (0 : Int32)), (.int (0 : Int32)), (.int (0 : Int32)), (.int (0 : Int32)), (.int (0 : Int32)), (.int (0 : Int32)), (.int (0 : Int32))] (.int (0 : Int32)) := Arv.set Ar101 q101 S101 M101 H101 G101 (fits_nar_char _) W102 3 rfl (Nat.le_of_ble_eq_true rfl)
          obtain ⟨cl103, Ar103, q103, S103, M103, H103, G103⟩ := V_b94
          obtain ⟨T104, h104, X104, e104, W104, st104⟩ := stC X102 hx hZ e102 Ar103 (j := (4 : Int32)) (inb_of S103 (by decide)) (g := (mkF m 214 #[.val (.int p1), .val (.int p2), .val (.int p3), .val (.int p4), .val (.int p5), .unset] [(.int (102 : Int32)), (.int (4 : Int32)), (.ref b94), (.ref b94)])) rfl rfl (hb hby d1_214)
          have N104 := Fr.snoc X104 N102 g_b94
          have Sw := ((Safe.exa hZ.alike E_b94 (by decide) (by decide)) : Safe Z ELs s.vm _ b94)
          have Hd : CHr Z ELs s.vm h0 s.vm h104 := Hc.trans (CHr.wr W104 Sw Hc.1)
          have Hc := Hd
          have Zs : n0 ≤ h104.size := Nat.le_trans Zs (Keep.of_wr W104).1
          have Ol : Old Z n0 h104 := Ol.wr W104 g_b94
          have Kp : Keep h0 h104 [] := Kp.wr W104 (Or.inr sz_b94)
          have E_b94 : Exa Z h104 b94 "[C" := E_b94.wr W104
          have V_b94 : Arv Z h104 b94 k94 .char (13 : Int32) [(.int (nar .char (110 : Int32))), (.int (nar .char (111 : Int32))), (.int (nar .char (116 : Int32))), (.int (nar .char (105 : Int32))), (.int (nar .char (102 : Int32))), (.int (0 : Int32)), (.int (0 : Int32)), (.int (0 : Int32)), (.int (0 : Int32)), (.int (0 : Int32)), (.int (0 : Int32)), (.int (0 : Int32)), (.int (0 : Int32))] (.int (0 : Int32)) := Arv.set Ar103 q103 S103 M103 H103 G103 (fits_nar_char _) W104 4 rfl (Nat.le_of_ble_eq_true rfl)
          obtain ⟨cl105, Ar105, q105, S105, M105, H105, G105⟩ := V_b94
          obtain ⟨T106, h106, X106, e106, W106, st106⟩ := stC X104 hx hZ e104 Ar105 (j := (5 : Int32)) (inb_of S105 (by decide)) (g := (mkF m 219 #[.val (.int p1), .val (.int p2), .val (.int p3), .val (.int p4), .val (.int p5), .unset] [(.int (105 : Int32)), (.int (5 : Int32)), (.ref b94), (.ref b94)])) rfl rfl (hb hby d1_219)
          have N106 := Fr.snoc X106 N104 g_b94
          have Sw := ((Safe.exa hZ.alike E_b94 (by decide) (by decide)) : Safe Z ELs s.vm _ b94)
          have Hd : CHr Z ELs s.vm h0 s.vm h106 := Hc.trans (CHr.wr W106 Sw Hc.1)
          have Hc := Hd
          have Zs : n0 ≤ h106.size := Nat.le_trans Zs (Keep.of_wr W106).1
          have Ol : Old Z n0 h106 := Ol.wr W106 g_b94
          have Kp : Keep h0 h106 [] := Kp.wr W106 (Or.inr sz_b94)
          have E_b94 : Exa Z h106 b94 "[C" := E_b94.wr W106
          have V_b94 : Arv Z h106 b94 k94 .char (13 : Int32) [(.int (nar .char (110 : Int32))), (.int (nar .char (111 : Int32))), (.int (nar .char (116 : Int32))), (.int (nar .char (105 : Int32))), (.int (nar .char (102 : Int32))), (.int (nar .char (105 : Int32))), (.int (0 : Int32)), (.int (0 : Int32)), (.int (0 : Int32)), (.int (0 : Int32)), (.int (0 : Int32)), (.int (0 : Int32)), (.int (0 : Int32))] (.int (0 : Int32)) := Arv.set Ar105 q105 S105 M105 H105 G105 (fits_nar_char _) W106 5 rfl (Nat.le_of_ble_eq_true rfl)
          obtain ⟨cl107, Ar107, q107, S107, M107, H107, G107⟩ := V_b94
          obtain ⟨T108, h108, X108, e108, W108, st108⟩ := stC X106 hx hZ e106 Ar107 (j := (6 : Int32)) (inb_of S107 (by decide)) (g := (mkF m 225 #[.val (.int p1), .val (.int p2), .val (.int p3), .val (.int p4), .val (.int p5), .unset] [(.int (99 : Int32)), (.int (6 : Int32)), (.ref b94), (.ref b94)])) rfl rfl (hb hby d1_225)
          have N108 := Fr.snoc X108 N106 g_b94
          have Sw := ((Safe.exa hZ.alike E_b94 (by decide) (by decide)) : Safe Z ELs s.vm _ b94)
          have Hd : CHr Z ELs s.vm h0 s.vm h108 := Hc.trans (CHr.wr W108 Sw Hc.1)
          have Hc := Hd
          have Zs : n0 ≤ h108.size := Nat.le_trans Zs (Keep.of_wr W108).1
          have Ol : Old Z n0 h108 := Ol.wr W108 g_b94
          have Kp : Keep h0 h108 [] := Kp.wr W108 (Or.inr sz_b94)
          have E_b94 : Exa Z h108 b94 "[C" := E_b94.wr W108
          have V_b94 : Arv Z h108 b94 k94 .char (13 : Int32) [(.int (nar .char (110 : Int32))), (.int (nar .char (111 : Int32))), (.int (nar .char (116 : Int32))), (.int (nar .char (105 : Int32))), (.int (nar .char (102 : Int32))), (.int (nar .char (105 : Int32))), (.int (nar .char (99 : Int32))), (.int (0 : Int32)), (.int (0 : Int32)), (.int (0 : Int32)), (.int (0 : Int32)), (.int (0 : Int32)), (.int (0 : Int32))] (.int (0 : Int32)) := Arv.set Ar107 q107 S107 M107 H107 G107 (fits_nar_char _) W108 6 rfl (Nat.le_of_ble_eq_true rfl)
          obtain ⟨cl109, Ar109, q109, S109, M109, H109, G109⟩ := V_b94
          obtain ⟨T110, h110, X110, e110, W110, st110⟩ := stC X108 hx hZ e108 Ar109 (j := (7 : Int32)) (inb_of S109 (by decide)) (g := (mkF m 231 #[.val (.int p1), .val (.int p2), .val (.int p3), .val (.int p4), .val (.int p5), .unset] [(.int (97 : Int32)), (.int (7 : Int32)), (.ref b94), (.ref b94)])) rfl rfl (hb hby d1_231)
          have N110 := Fr.snoc X110 N108 g_b94
          have Sw := ((Safe.exa hZ.alike E_b94 (by decide) (by decide)) : Safe Z ELs s.vm _ b94)
          have Hd : CHr Z ELs s.vm h0 s.vm h110 := Hc.trans (CHr.wr W110 Sw Hc.1)
          have Hc := Hd
          have Zs : n0 ≤ h110.size := Nat.le_trans Zs (Keep.of_wr W110).1
          have Ol : Old Z n0 h110 := Ol.wr W110 g_b94
          have Kp : Keep h0 h110 [] := Kp.wr W110 (Or.inr sz_b94)
          have E_b94 : Exa Z h110 b94 "[C" := E_b94.wr W110
          have V_b94 : Arv Z h110 b94 k94 .char (13 : Int32) [(.int (nar .char (110 : Int32))), (.int (nar .char (111 : Int32))), (.int (nar .char (116 : Int32))), (.int (nar .char (105 : Int32))), (.int (nar .char (102 : Int32))), (.int (nar .char (105 : Int32))), (.int (nar .char (99 : Int32))), (.int (nar .char (97 : Int32))), (.int (0 : Int32)), (.int (0 : Int32)), (.int (0 : Int32)), (.int (0 : Int32)), (.int (0 : Int32))] (.int (0 : Int32)) := Arv.set Ar109 q109 S109 M109 H109 G109 (fits_nar_char _) W110 7 rfl (Nat.le_of_ble_eq_true rfl)
          obtain ⟨cl111, Ar111, q111, S111, M111, H111, G111⟩ := V_b94
          obtain ⟨T112, h112, X112, e112, W112, st112⟩ := stC X110 hx hZ e110 Ar111 (j := (8 : Int32)) (inb_of S111 (by decide)) (g := (mkF m 237 #[.val (.int p1), .val (.int p2), .val (.int p3), .val (.int p4), .val (.int p5), .unset] [(.int (116 : Int32)), (.int (8 : Int32)), (.ref b94), (.ref b94)])) rfl rfl (hb hby d1_237)
          have N112 := Fr.snoc X112 N110 g_b94
          have Sw := ((Safe.exa hZ.alike E_b94 (by decide) (by decide)) : Safe Z ELs s.vm _ b94)
          have Hd : CHr Z ELs s.vm h0 s.vm h112 := Hc.trans (CHr.wr W112 Sw Hc.1)
          have Hc := Hd
          have Zs : n0 ≤ h112.size := Nat.le_trans Zs (Keep.of_wr W112).1
          have Ol : Old Z n0 h112 := Ol.wr W112 g_b94
          have Kp : Keep h0 h112 [] := Kp.wr W112 (Or.inr sz_b94)
          have E_b94 : Exa Z h112 b94 "[C" := E_b94.wr W112
          have V_b94 : Arv Z h112 b94 k94 .char (13 : Int32) [(.int (nar .char (110 : Int32))), (.int (nar .char (111 : Int32))), (.int (nar .char (116 : Int32))), (.int (nar .char (105 : Int32))), (.int (nar .char (102 : Int32))), (.int (nar .char (105 : Int32))), (.int (nar .char (99 : Int32))), (.int (nar .char (97 : Int32))), (.int (nar .char (116 : Int32))), (.int (0 : Int32)), (.int (0 : Int32)), (.int (0 : Int32)), (.int (0 : Int32))] (.int (0 : Int32)) := Arv.set Ar111 q111 S111 M111 H111 G111 (fits_nar_char _) W112 8 rfl (Nat.le_of_ble_eq_true rfl)
          obtain ⟨cl113, Ar113, q113, S113, M113, H113, G113⟩ := V_b94
          obtain ⟨T114, h114, X114, e114, W114, st114⟩ := stC X112 hx hZ e112 Ar113 (j := (9 : Int32)) (inb_of S113 (by decide)) (g := (mkF m 243 #[.val (.int p1), .val (.int p2), .val (.int p3), .val (.int p4), .val (.int p5), .unset] [(.int (105 : Int32)), (.int (9 : Int32)), (.ref b94), (.ref b94)])) rfl rfl (hb hby d1_243)
          have N114 := Fr.snoc X114 N112 g_b94
          have Sw := ((Safe.exa hZ.alike E_b94 (by decide) (by decide)) : Safe Z ELs s.vm _ b94)
          have Hd : CHr Z ELs s.vm h0 s.vm h114 := Hc.trans (CHr.wr W114 Sw Hc.1)
          have Hc := Hd
          have Zs : n0 ≤ h114.size := Nat.le_trans Zs (Keep.of_wr W114).1
          have Ol : Old Z n0 h114 := Ol.wr W114 g_b94
          have Kp : Keep h0 h114 [] := Kp.wr W114 (Or.inr sz_b94)
          have E_b94 : Exa Z h114 b94 "[C" := E_b94.wr W114
          have V_b94 : Arv Z h114 b94 k94 .char (13 : Int32) [(.int (nar .char (110 : Int32))), (.int (nar .char (111 : Int32))), (.int (nar .char (116 : Int32))), (.int (nar .char (105 : Int32))), (.int (nar .char (102 : Int32))), (.int (nar .char (105 : Int32))), (.int (nar .char (99 : Int32))), (.int (nar .char (97 : Int32))), (.int (nar .char (116 : Int32))), (.int (nar .char (105 : Int32))), (.int (0 : Int32)), (.int (0 : Int32)), (.int (0 : Int32))] (.int (0 : Int32)) := Arv.set Ar113 q113 S113 M113 H113 G113 (fits_nar_char _) W114 9 rfl (Nat.le_of_ble_eq_true rfl)
          obtain ⟨cl115, Ar115, q115, S115, M115, H115, G115⟩ := V_b94
          obtain ⟨T116, h116, X116, e116, W116, st116⟩ := stC X114 hx hZ e114 Ar115 (j := (10 : Int32)) (inb_of S115 (by decide)) (g := (mkF m 249 #[.val (.int p1), .val (.int p2), .val (.int p3), .val (.int p4), .val (.int p5), .unset] [(.int (111 : Int32)), (.int (10 : Int32)), (.ref b94), (.ref b94)])) rfl rfl (hb hby d1_249)
          have N116 := Fr.snoc X116 N114 g_b94
          have Sw := ((Safe.exa hZ.alike E_b94 (by decide) (by decide)) : Safe Z ELs s.vm _ b94)
          have Hd : CHr Z ELs s.vm h0 s.vm h116 := Hc.trans (CHr.wr W116 Sw Hc.1)
          have Hc := Hd
          have Zs : n0 ≤ h116.size := Nat.le_trans Zs (Keep.of_wr W116).1
          have Ol : Old Z n0 h116 := Ol.wr W116 g_b94
          have Kp : Keep h0 h116 [] := Kp.wr W116 (Or.inr sz_b94)
          have E_b94 : Exa Z h116 b94 "[C" := E_b94.wr W116
          have V_b94 : Arv Z h116 b94 k94 .char (13 : Int32) [(.int (nar .char (110 : Int32))), (.int (nar .char (111 : Int32))), (.int (nar .char (116 : Int32))), (.int (nar .char (105 : Int32))), (.int (nar .char (102 : Int32))), (.int (nar .char (105 : Int32))), (.int (nar .char (99 : Int32))), (.int (nar .char (97 : Int32))), (.int (nar .char (116 : Int32))), (.int (nar .char (105 : Int32))), (.int (nar .char (111 : Int32))), (.int (0 : Int32)), (.int (0 : Int32))] (.int (0 : Int32)) := Arv.set Ar115 q115 S115 M115 H115 G115 (fits_nar_char _) W116 10 rfl (Nat.le_of_ble_eq_true rfl)
          obtain ⟨cl117, Ar117, q117, S117, M117, H117, G117⟩ := V_b94
          obtain ⟨T118, h118, X118, e118, W118, st118⟩ := stC X116 hx hZ e116 Ar117 (j := (11 : Int32)) (inb_of S117 (by decide)) (g := (mkF m 255 #[.val (.int p1), .val (.int p2), .val (.int p3), .val (.int p4), .val (.int p5), .unset] [(.int (110 : Int32)), (.int (11 : Int32)), (.ref b94), (.ref b94)])) rfl rfl (hb hby d1_255)
          have N118 := Fr.snoc X118 N116 g_b94
          have Sw := ((Safe.exa hZ.alike E_b94 (by decide) (by decide)) : Safe Z ELs s.vm _ b94)
          have Hd : CHr Z ELs s.vm h0 s.vm h118 := Hc.trans (CHr.wr W118 Sw Hc.1)
          have Hc := Hd
          have Zs : n0 ≤ h118.size := Nat.le_trans Zs (Keep.of_wr W118).1
          have Ol : Old Z n0 h118 := Ol.wr W118 g_b94
          have Kp : Keep h0 h118 [] := Kp.wr W118 (Or.inr sz_b94)
          have E_b94 : Exa Z h118 b94 "[C" := E_b94.wr W118
          have V_b94 : Arv Z h118 b94 k94 .char (13 : Int32) [(.int (nar .char (110 : Int32))), (.int (nar .char (111 : Int32))), (.int (nar .char (116 : Int32))), (.int (nar .char (105 : Int32))), (.int (nar .char (102 : Int32))), (.int (nar .char (105 : Int32))), (.int (nar .char (99 : Int32))), (.int (nar .char (97 : Int32))), (.int (nar .char (116 : Int32))), (.int (nar .char (105 : Int32))), (.int (nar .char (111 : Int32))), (.int (nar .char (110 : Int32))), (.int (0 : Int32))] (.int (0 : Int32)) := Arv.set Ar117 q117 S117 M117 H117 G117 (fits_nar_char _) W118 11 rfl (Nat.le_of_ble_eq_true rfl)
          obtain ⟨cl119, Ar119, q119, S119, M119, H119, G119⟩ := V_b94
          obtain ⟨T120, h120, X120, e120, W120, st120⟩ := stC X118 hx hZ e118 Ar119 (j := (12 : Int32)) (inb_of S119 (by decide)) (g := (mkF m 260 #[.val (.int p1), .val (.int p2), .val (.int p3), .val (.int p4), .val (.int p5), .unset] [(.int p4), (.int (12 : Int32)), (.ref b94), (.ref b94)])) rfl rfl (hb hby d1_260)
          have N120 := Fr.snoc X120 N118 g_b94
          have Sw := ((Safe.exa hZ.alike E_b94 (by decide) (by decide)) : Safe Z ELs s.vm _ b94)
          have Hd : CHr Z ELs s.vm h0 s.vm h120 := Hc.trans (CHr.wr W120 Sw Hc.1)
          have Hc := Hd
          have Zs : n0 ≤ h120.size := Nat.le_trans Zs (Keep.of_wr W120).1
          have Ol : Old Z n0 h120 := Ol.wr W120 g_b94
          have Kp : Keep h0 h120 [] := Kp.wr W120 (Or.inr sz_b94)
          have E_b94 : Exa Z h120 b94 "[C" := E_b94.wr W120
          have V_b94 : Arv Z h120 b94 k94 .char (13 : Int32) [(.int (nar .char (110 : Int32))), (.int (nar .char (111 : Int32))), (.int (nar .char (116 : Int32))), (.int (nar .char (105 : Int32))), (.int (nar .char (102 : Int32))), (.int (nar .char (105 : Int32))), (.int (nar .char (99 : Int32))), (.int (nar .char (97 : Int32))), (.int (nar .char (116 : Int32))), (.int (nar .char (105 : Int32))), (.int (nar .char (111 : Int32))), (.int (nar .char (110 : Int32))), (.int (nar .char p4))] (.int (0 : Int32)) := Arv.set Ar119 q119 S119 M119 H119 G119 (fits_nar_char _) W120 12 rfl (Nat.le_of_ble_eq_true rfl)
          have pre121 : ∀ t, Steps p.tables e below (T120.setTop (mkF m 559 #[.val (.int p1), .val (.int p2), .val (.int p3), .val (.int p4), .val (.int p5), .val (.ref b94)] [(.int p3)])) t → Steps p.tables e below (s₁.setTop (entryFrame m #[(.int p1), (.int p2), (.int p3), (.int p4), (.int p5)] 6)) t := fun t k => pre93 t (by
            show Steps p.tables e below (s₁.setTop (mkF m 183 #[.val (.int p1), .val (.int p2), .val (.int p3), .val (.int p4), .val (.int p5), .unset] [(.int (3 : Int32)), (.int p1)])) _
            refine XS.icmpNo X0.here hx rfl (hb hby d1_183) rfl (teq hc183).2 ?_
            show Steps p.tables e below (s₁.setTop (mkF m 186 #[.val (.int p1), .val (.int p2), .val (.int p3), .val (.int p4), .val (.int p5), .unset] [])) _
            refine XS.bipush X0.here hx rfl (hb hby d1_186) ?_
            show Steps p.tables e below (s₁.setTop (mkF m 188 #[.val (.int p1), .val (.int p2), .val (.int p3), .val (.int p4), .val (.int p5), .unset] [(.int (13 : Int32))])) _
            refine st94 _ ?_
            show Steps p.tables e below (T94.setTop (mkF m 190 #[.val (.int p1), .val (.int p2), .val (.int p3), .val (.int p4), .val (.int p5), .unset] [(.ref b94)])) _
            refine XS.dup X94.here hx rfl (hb hby d1_190) rfl rfl ?_
            show Steps p.tables e below (T94.setTop (mkF m 191 #[.val (.int p1), .val (.int p2), .val (.int p3), .val (.int p4), .val (.int p5), .unset] [(.ref b94), (.ref b94)])) _
            refine XS.iconst X94.here hx rfl (hb hby d1_191) ?_
            show Steps p.tables e below (T94.setTop (mkF m 192 #[.val (.int p1), .val (.int p2), .val (.int p3), .val (.int p4), .val (.int p5), .unset] [(.int (0 : Int32)), (.ref b94), (.ref b94)])) _
            refine XS.bipush X94.here hx rfl (hb hby d1_192) ?_
            show Steps p.tables e below (T94.setTop (mkF m 194 #[.val (.int p1), .val (.int p2), .val (.int p3), .val (.int p4), .val (.int p5), .unset] [(.int (110 : Int32)), (.int (0 : Int32)), (.ref b94), (.ref b94)])) _
            refine st96 _ ?_
            show Steps p.tables e below (T96.setTop (mkF m 195 #[.val (.int p1), .val (.int p2), .val (.int p3), .val (.int p4), .val (.int p5), .unset] [(.ref b94)])) _
            refine XS.dup X96.here hx rfl (hb hby d1_195) rfl rfl ?_
            show Steps p.tables e below (T96.setTop (mkF m 196 #[.val (.int p1), .val (.int p2), .val (.int p3), .val (.int p4), .val (.int p5), .unset] [(.ref b94), (.ref b94)])) _
            refine XS.iconst X96.here hx rfl (hb hby d1_196) ?_
            show Steps p.tables e below (T96.setTop (mkF m 197 #[.val (.int p1), .val (.int p2), .val (.int p3), .val (.int p4), .val (.int p5), .unset] [(.int (1 : Int32)), (.ref b94), (.ref b94)])) _
            refine XS.bipush X96.here hx rfl (hb hby d1_197) ?_
            show Steps p.tables e below (T96.setTop (mkF m 199 #[.val (.int p1), .val (.int p2), .val (.int p3), .val (.int p4), .val (.int p5), .unset] [(.int (111 : Int32)), (.int (1 : Int32)), (.ref b94), (.ref b94)])) _
            refine st98 _ ?_
            show Steps p.tables e below (T98.setTop (mkF m 200 #[.val (.int p1), .val (.int p2), .val (.int p3), .val (.int p4), .val (.int p5), .unset] [(.ref b94)])) _
            refine XS.dup X98.here hx rfl (hb hby d1_200) rfl rfl ?_
            show Steps p.tables e below (T98.setTop (mkF m 201 #[.val (.int p1), .val (.int p2), .val (.int p3), .val (.int p4), .val (.int p5), .unset] [(.ref b94), (.ref b94)])) _
            refine XS.iconst X98.here hx rfl (hb hby d1_201) ?_
            show Steps p.tables e below (T98.setTop (mkF m 202 #[.val (.int p1), .val (.int p2), .val (.int p3), .val (.int p4), .val (.int p5), .unset] [(.int (2 : Int32)), (.ref b94), (.ref b94)])) _
            refine XS.bipush X98.here hx rfl (hb hby d1_202) ?_
            show Steps p.tables e below (T98.setTop (mkF m 204 #[.val (.int p1), .val (.int p2), .val (.int p3), .val (.int p4), .val (.int p5), .unset] [(.int (116 : Int32)), (.int (2 : Int32)), (.ref b94), (.ref b94)])) _
            refine st100 _ ?_
            show Steps p.tables e below (T100.setTop (mkF m 205 #[.val (.int p1), .val (.int p2), .val (.int p3), .val (.int p4), .val (.int p5), .unset] [(.ref b94)])) _
            refine XS.dup X100.here hx rfl (hb hby d1_205) rfl rfl ?_
            show Steps p.tables e below (T100.setTop (mkF m 206 #[.val (.int p1), .val (.int p2), .val (.int p3), .val (.int p4), .val (.int p5), .unset] [(.ref b94), (.ref b94)])) _
            refine XS.iconst X100.here hx rfl (hb hby d1_206) ?_
            show Steps p.tables e below (T100.setTop (mkF m 207 #[.val (.int p1), .val (.int p2), .val (.int p3), .val (.int p4), .val (.int p5), .unset] [(.int (3 : Int32)), (.ref b94), (.ref b94)])) _
            refine XS.bipush X100.here hx rfl (hb hby d1_207) ?_
            show Steps p.tables e below (T100.setTop (mkF m 209 #[.val (.int p1), .val (.int p2), .val (.int p3), .val (.int p4), .val (.int p5), .unset] [(.int (105 : Int32)), (.int (3 : Int32)), (.ref b94), (.ref b94)])) _
            refine st102 _ ?_
            show Steps p.tables e below (T102.setTop (mkF m 210 #[.val (.int p1), .val (.int p2), .val (.int p3), .val (.int p4), .val (.int p5), .unset] [(.ref b94)])) _
            refine XS.dup X102.here hx rfl (hb hby d1_210) rfl rfl ?_
            show Steps p.tables e below (T102.setTop (mkF m 211 #[.val (.int p1), .val (.int p2), .val (.int p3), .val (.int p4), .val (.int p5), .unset] [(.ref b94), (.ref b94)])) _
            refine XS.iconst X102.here hx rfl (hb hby d1_211) ?_
            show Steps p.tables e below (T102.setTop (mkF m 212 #[.val (.int p1), .val (.int p2), .val (.int p3), .val (.int p4), .val (.int p5), .unset] [(.int (4 : Int32)), (.ref b94), (.ref b94)])) _
            refine XS.bipush X102.here hx rfl (hb hby d1_212) ?_
            show Steps p.tables e below (T102.setTop (mkF m 214 #[.val (.int p1), .val (.int p2), .val (.int p3), .val (.int p4), .val (.int p5), .unset] [(.int (102 : Int32)), (.int (4 : Int32)), (.ref b94), (.ref b94)])) _
            refine st104 _ ?_
            show Steps p.tables e below (T104.setTop (mkF m 215 #[.val (.int p1), .val (.int p2), .val (.int p3), .val (.int p4), .val (.int p5), .unset] [(.ref b94)])) _
            refine XS.dup X104.here hx rfl (hb hby d1_215) rfl rfl ?_
            show Steps p.tables e below (T104.setTop (mkF m 216 #[.val (.int p1), .val (.int p2), .val (.int p3), .val (.int p4), .val (.int p5), .unset] [(.ref b94), (.ref b94)])) _
            refine XS.iconst X104.here hx rfl (hb hby d1_216) ?_
            show Steps p.tables e below (T104.setTop (mkF m 217 #[.val (.int p1), .val (.int p2), .val (.int p3), .val (.int p4), .val (.int p5), .unset] [(.int (5 : Int32)), (.ref b94), (.ref b94)])) _
            refine XS.bipush X104.here hx rfl (hb hby d1_217) ?_
            show Steps p.tables e below (T104.setTop (mkF m 219 #[.val (.int p1), .val (.int p2), .val (.int p3), .val (.int p4), .val (.int p5), .unset] [(.int (105 : Int32)), (.int (5 : Int32)), (.ref b94), (.ref b94)])) _
            refine st106 _ ?_
            show Steps p.tables e below (T106.setTop (mkF m 220 #[.val (.int p1), .val (.int p2), .val (.int p3), .val (.int p4), .val (.int p5), .unset] [(.ref b94)])) _
            refine XS.dup X106.here hx rfl (hb hby d1_220) rfl rfl ?_
            show Steps p.tables e below (T106.setTop (mkF m 221 #[.val (.int p1), .val (.int p2), .val (.int p3), .val (.int p4), .val (.int p5), .unset] [(.ref b94), (.ref b94)])) _
            refine XS.bipush X106.here hx rfl (hb hby d1_221) ?_
            show Steps p.tables e below (T106.setTop (mkF m 223 #[.val (.int p1), .val (.int p2), .val (.int p3), .val (.int p4), .val (.int p5), .unset] [(.int (6 : Int32)), (.ref b94), (.ref b94)])) _
            refine XS.bipush X106.here hx rfl (hb hby d1_223) ?_
            show Steps p.tables e below (T106.setTop (mkF m 225 #[.val (.int p1), .val (.int p2), .val (.int p3), .val (.int p4), .val (.int p5), .unset] [(.int (99 : Int32)), (.int (6 : Int32)), (.ref b94), (.ref b94)])) _
            refine st108 _ ?_
            show Steps p.tables e below (T108.setTop (mkF m 226 #[.val (.int p1), .val (.int p2), .val (.int p3), .val (.int p4), .val (.int p5), .unset] [(.ref b94)])) _
            refine XS.dup X108.here hx rfl (hb hby d1_226) rfl rfl ?_
            show Steps p.tables e below (T108.setTop (mkF m 227 #[.val (.int p1), .val (.int p2), .val (.int p3), .val (.int p4), .val (.int p5), .unset] [(.ref b94), (.ref b94)])) _
            refine XS.bipush X108.here hx rfl (hb hby d1_227) ?_
            show Steps p.tables e below (T108.setTop (mkF m 229 #[.val (.int p1), .val (.int p2), .val (.int p3), .val (.int p4), .val (.int p5), .unset] [(.int (7 : Int32)), (.ref b94), (.ref b94)])) _
            refine XS.bipush X108.here hx rfl (hb hby d1_229) ?_
            show Steps p.tables e below (T108.setTop (mkF m 231 #[.val (.int p1), .val (.int p2), .val (.int p3), .val (.int p4), .val (.int p5), .unset] [(.int (97 : Int32)), (.int (7 : Int32)), (.ref b94), (.ref b94)])) _
            refine st110 _ ?_
            show Steps p.tables e below (T110.setTop (mkF m 232 #[.val (.int p1), .val (.int p2), .val (.int p3), .val (.int p4), .val (.int p5), .unset] [(.ref b94)])) _
            refine XS.dup X110.here hx rfl (hb hby d1_232) rfl rfl ?_
            show Steps p.tables e below (T110.setTop (mkF m 233 #[.val (.int p1), .val (.int p2), .val (.int p3), .val (.int p4), .val (.int p5), .unset] [(.ref b94), (.ref b94)])) _
            refine XS.bipush X110.here hx rfl (hb hby d1_233) ?_
            show Steps p.tables e below (T110.setTop (mkF m 235 #[.val (.int p1), .val (.int p2), .val (.int p3), .val (.int p4), .val (.int p5), .unset] [(.int (8 : Int32)), (.ref b94), (.ref b94)])) _
            refine XS.bipush X110.here hx rfl (hb hby d1_235) ?_
            show Steps p.tables e below (T110.setTop (mkF m 237 #[.val (.int p1), .val (.int p2), .val (.int p3), .val (.int p4), .val (.int p5), .unset] [(.int (116 : Int32)), (.int (8 : Int32)), (.ref b94), (.ref b94)])) _
            refine st112 _ ?_
            show Steps p.tables e below (T112.setTop (mkF m 238 #[.val (.int p1), .val (.int p2), .val (.int p3), .val (.int p4), .val (.int p5), .unset] [(.ref b94)])) _
            refine XS.dup X112.here hx rfl (hb hby d1_238) rfl rfl ?_
            show Steps p.tables e below (T112.setTop (mkF m 239 #[.val (.int p1), .val (.int p2), .val (.int p3), .val (.int p4), .val (.int p5), .unset] [(.ref b94), (.ref b94)])) _
            refine XS.bipush X112.here hx rfl (hb hby d1_239) ?_
            show Steps p.tables e below (T112.setTop (mkF m 241 #[.val (.int p1), .val (.int p2), .val (.int p3), .val (.int p4), .val (.int p5), .unset] [(.int (9 : Int32)), (.ref b94), (.ref b94)])) _
            refine XS.bipush X112.here hx rfl (hb hby d1_241) ?_
            show Steps p.tables e below (T112.setTop (mkF m 243 #[.val (.int p1), .val (.int p2), .val (.int p3), .val (.int p4), .val (.int p5), .unset] [(.int (105 : Int32)), (.int (9 : Int32)), (.ref b94), (.ref b94)])) _
            refine st114 _ ?_
            show Steps p.tables e below (T114.setTop (mkF m 244 #[.val (.int p1), .val (.int p2), .val (.int p3), .val (.int p4), .val (.int p5), .unset] [(.ref b94)])) _
            refine XS.dup X114.here hx rfl (hb hby d1_244) rfl rfl ?_
            show Steps p.tables e below (T114.setTop (mkF m 245 #[.val (.int p1), .val (.int p2), .val (.int p3), .val (.int p4), .val (.int p5), .unset] [(.ref b94), (.ref b94)])) _
            refine XS.bipush X114.here hx rfl (hb hby d1_245) ?_
            show Steps p.tables e below (T114.setTop (mkF m 247 #[.val (.int p1), .val (.int p2), .val (.int p3), .val (.int p4), .val (.int p5), .unset] [(.int (10 : Int32)), (.ref b94), (.ref b94)])) _
            refine XS.bipush X114.here hx rfl (hb hby d1_247) ?_
            show Steps p.tables e below (T114.setTop (mkF m 249 #[.val (.int p1), .val (.int p2), .val (.int p3), .val (.int p4), .val (.int p5), .unset] [(.int (111 : Int32)), (.int (10 : Int32)), (.ref b94), (.ref b94)])) _
            refine st116 _ ?_
            show Steps p.tables e below (T116.setTop (mkF m 250 #[.val (.int p1), .val (.int p2), .val (.int p3), .val (.int p4), .val (.int p5), .unset] [(.ref b94)])) _
            refine XS.dup X116.here hx rfl (hb hby d1_250) rfl rfl ?_
            show Steps p.tables e below (T116.setTop (mkF m 251 #[.val (.int p1), .val (.int p2), .val (.int p3), .val (.int p4), .val (.int p5), .unset] [(.ref b94), (.ref b94)])) _
            refine XS.bipush X116.here hx rfl (hb hby d1_251) ?_
            show Steps p.tables e below (T116.setTop (mkF m 253 #[.val (.int p1), .val (.int p2), .val (.int p3), .val (.int p4), .val (.int p5), .unset] [(.int (11 : Int32)), (.ref b94), (.ref b94)])) _
            refine XS.bipush X116.here hx rfl (hb hby d1_253) ?_
            show Steps p.tables e below (T116.setTop (mkF m 255 #[.val (.int p1), .val (.int p2), .val (.int p3), .val (.int p4), .val (.int p5), .unset] [(.int (110 : Int32)), (.int (11 : Int32)), (.ref b94), (.ref b94)])) _
            refine st118 _ ?_
            show Steps p.tables e below (T118.setTop (mkF m 256 #[.val (.int p1), .val (.int p2), .val (.int p3), .val (.int p4), .val (.int p5), .unset] [(.ref b94)])) _
            refine XS.dup X118.here hx rfl (hb hby d1_256) rfl rfl ?_
            show Steps p.tables e below (T118.setTop (mkF m 257 #[.val (.int p1), .val (.int p2), .val (.int p3), .val (.int p4), .val (.int p5), .unset] [(.ref b94), (.ref b94)])) _
            refine XS.bipush X118.here hx rfl (hb hby d1_257) ?_
            show Steps p.tables e below (T118.setTop (mkF m 259 #[.val (.int p1), .val (.int p2), .val (.int p3), .val (.int p4), .val (.int p5), .unset] [(.int (12 : Int32)), (.ref b94), (.ref b94)])) _
            refine XS.iloadN X118.here hx rfl (hb hby d1_259) rfl ?_
            show Steps p.tables e below (T118.setTop (mkF m 260 #[.val (.int p1), .val (.int p2), .val (.int p3), .val (.int p4), .val (.int p5), .unset] [(.int p4), (.int (12 : Int32)), (.ref b94), (.ref b94)])) _
            refine st120 _ ?_
            show Steps p.tables e below (T120.setTop (mkF m 261 #[.val (.int p1), .val (.int p2), .val (.int p3), .val (.int p4), .val (.int p5), .unset] [(.ref b94)])) _
            refine XS.astore X120.here hx rfl (hb hby d1_261) rfl rfl (l' := #[.val (.int p1), .val (.int p2), .val (.int p3), .val (.int p4), .val (.int p5), .val (.ref b94)]) rfl ?_
            show Steps p.tables e below (T120.setTop (mkF m 263 #[.val (.int p1), .val (.int p2), .val (.int p3), .val (.int p4), .val (.int p5), .val (.ref b94)] [])) _
            refine XS.goto X120.here hx rfl (pc0 := 263) (pc' := 558) rfl (hb hby d1_263) (by decide) (by decide) ?_
            show Steps p.tables e below (T120.setTop (mkF m 558 #[.val (.int p1), .val (.int p2), .val (.int p3), .val (.int p4), .val (.int p5), .val (.ref b94)] [])) _
            refine XS.iloadN X120.here hx rfl (hb hby d1_558) rfl ?_
            exact k)
          by_cases hc559 : p3 = (0 : Int32)
          ·
            obtain ⟨T122, h122, X122, e122, E122, A122, D122, -, st122⟩ := newO X120 hx hZ hown (hw _ (List.mem_of_getElem? (i := 6) rfl)) (hw _ (List.mem_of_getElem? (i := 7) rfl)) (hw _ (List.mem_of_getElem? (i := 8) rfl)) e120 (g := (mkF m 581 #[.val (.int p1), .val (.int p2), .val (.int p3), .val (.int p4), .val (.int p5), .val (.ref b94)] [])) rfl (hb hby d1_581) (by decide) (by decide)
            obtain ⟨b122, g122⟩ : ∃ z, z = h120.size := ⟨_, rfl⟩
            rw [← g122] at A122 D122 st122
            have g_b122 : n0 ≤ b122 := Nat.le_trans Zs (Nat.le_of_eq g122.symm)
            have sz_b122 : h0.size ≤ b122 := Nat.le_trans Kp.1 (Nat.le_of_eq g122.symm)
            have ne_b94_b122 : b94 ≠ b122 := Nat.ne_of_lt (Nat.lt_of_lt_of_le E_b94.lt (Nat.le_of_eq g122.symm))
            have Sf_b122 : Safe Z ELs s.vm h120 b122 := Safe.new (Nat.le_of_eq g122.symm)
            have Hd : CHr Z ELs s.vm h0 s.vm h122 := Hc.trans (CHr.ext E122 Hc.1)
            have Sg_b122 : Safe Z ELs s.vm h122 b122 := Safe.ext E122 Hc.1 Sf_b122
            have Sf_b122 := Sg_b122
            have Hc := Hd
            have Zs : n0 ≤ h122.size := Nat.le_trans Zs E122.1
            have Ol : Old Z n0 h122 := Ol.ext E122
            have Kp : Keep h0 h122 [] := Kp.ext E122
            have E_b94 : Exa Z h122 b94 "[C" := E_b94.ext E122
            have V_b94 : Arv Z h122 b94 k94 .char (13 : Int32) [(.int (nar .char (110 : Int32))), (.int (nar .char (111 : Int32))), (.int (nar .char (116 : Int32))), (.int (nar .char (105 : Int32))), (.int (nar .char (102 : Int32))), (.int (nar .char (105 : Int32))), (.int (nar .char (99 : Int32))), (.int (nar .char (97 : Int32))), (.int (nar .char (116 : Int32))), (.int (nar .char (105 : Int32))), (.int (nar .char (111 : Int32))), (.int (nar .char (110 : Int32))), (.int (nar .char p4))] (.int (0 : Int32)) := V_b94.ext E122
            have E_b122 : Exa Z h122 b122 "java/lang/String" := A122
            have F_coder_b122 : Fld Z h122 b122 "java/lang/String" "coder" "B" (.int (0 : Int32)) := D122 (Or.inr (hw _ (List.mem_of_getElem? (i := 32) rfl))) (ty := .byte) (by decide)
            have F_value_b122 : Fld Z h122 b122 "java/lang/String" "value" "[B" .null := D122 (Or.inr (hw _ (List.mem_of_getElem? (i := 34) rfl))) (ty := (.array .byte)) (by decide)
            obtain ⟨_, _, ⟨T123, L123, k123, n123⟩, -, X123, ⟨Lc123, hQ123, l123, y123, z123⟩, st123⟩ := X122.specialBack hx (y := (⟨"java/lang/String", "<init>", "([C)V"⟩ : MethodName)) rfl hown (mvT hZ (hw _ (List.mem_of_getElem? (i := 9) rfl))) (mvT hZ (hw _ (List.mem_of_getElem? (i := 10) rfl))) (mvT hZ (hw _ (List.mem_of_getElem? (i := 11) rfl))) (by decide) (own_new (W := 1) hZ hw g_b122 Zs E_b122 F_value_b122 F_coder_b122 (cs := [(nar .char (110 : Int32)), (nar .char (111 : Int32)), (nar .char (116 : Int32)), (nar .char (105 : Int32)), (nar .char (102 : Int32)), (nar .char (105 : Int32)), (nar .char (99 : Int32)), (nar .char (97 : Int32)), (nar .char (116 : Int32)), (nar .char (105 : Int32)), (nar .char (111 : Int32)), (nar .char (110 : Int32)), (nar .char p4)]) (n := 13) V_b94 (Sta.ext Ol.2 S_COMPACT_STRINGS) hzc rfl rfl (by decide) (by decide) (alIS (by decide) (alIS (by decide) (alIS (by decide) (alIS (by decide) (alIS (by decide) (alIS (by decide) (alIS (by decide) (alIS (by decide) (alIS (by decide) (alIS (by decide) (alIS (by decide) (alIS (by decide) (alIS hc alI0))))))))))))) (by decide) (by decide)) (g := (mkF m 587 #[.val (.int p1), .val (.int p2), .val (.int p3), .val (.int p4), .val (.int p5), .val (.ref b94)] [(.ref b94), (.ref b122), (.ref b122)])) rfl (by rw [hml]; rfl) (Steps.refl _) (a := b122) (argsL := [(.ref b94)]) (rest := [(.ref b122)]) (lenOf pd_1 rfl) rfl (by show 2 * 0 + _ ≤ _; exact Nat.le_of_eq rfl) (hb hby d1_587) (fun _ _ => ⟨rfl, e122, (by decide : 2 + 1 ≤ _), (by decide : 17 + 13 ≤ _)⟩)
            dsimp only [Pt.U, Pt.locs, Pt.cells, Pt.slots] at X123 l123 y123 z123 st123 hQ123
            subst l123 y123 z123
            obtain ⟨rfl, N123q, K123, T123x⟩ := hQ123
            have Hd : CHr Z ELs s.vm h0 s.vm T123.heap := Hc.trans (CHr.keep K123 (allS (Sf_b122 : Safe Z ELs s.vm _ b122) all0) Hc.1)
            have Sg_b122 : Safe Z ELs s.vm T123.heap b122 := Safe.keep K123 (allS (Sf_b122 : Safe Z ELs s.vm _ b122) all0) Hc.1 Sf_b122
            have Sf_b122 := Sg_b122
            have Hc := Hd
            have Zs : n0 ≤ T123.heap.size := Nat.le_trans Zs K123.1
            have Ol : Old Z n0 T123.heap := Ol.keep K123 (allS g_b122 all0)
            have Kp : Keep h0 T123.heap [] := Kp.trans K123 (allS (Or.inr sz_b122) all0)
            have E_b94 : Exa Z T123.heap b94 "[C" := E_b94.keep K123
            have E_b122 : Exa Z T123.heap b122 "java/lang/String" := E_b122.keep K123
            have T_b122 : Stx Z T123.heap b122 [(nar .char (110 : Int32)), (nar .char (111 : Int32)), (nar .char (116 : Int32)), (nar .char (105 : Int32)), (nar .char (102 : Int32)), (nar .char (105 : Int32)), (nar .char (99 : Int32)), (nar .char (97 : Int32)), (nar .char (116 : Int32)), (nar .char (105 : Int32)), (nar .char (111 : Int32)), (nar .char (110 : Int32)), (nar .char p4)] := T123x
            have N123 := Fr.app N120 N123q
            obtain ⟨fs, hr, hrun, hended, hRW⟩ := X123.leaveW (s := s) (vm₁ := s.vm) ((State.WarmedH.refl s).since 0) (Nat.zero_le _) (v := some (.ref b122)) (fun h => by rw [Bd.returns] at h; cases h)
            have hCR : CHr Z ELs s.vm h0 T123.vm T123.heap := Hc.trans (CHv.at X123 hZ hEL Hc.1)
            refine ⟨_, _, pre121 _ ?_, hrun, hended, _, _, rfl, ?_, (by rw [hh]; show CHr Z ELs s.vm h0 T123.vm T123.heap; exact hCR), ⟨hRW.1, hRW.2.1, hRW.2.2.1, hRW.2.2.2.mono (by decide) (by decide)⟩⟩
            · show Steps p.tables e below (T120.setTop (mkF m 559 #[.val (.int p1), .val (.int p2), .val (.int p3), .val (.int p4), .val (.int p5), .val (.ref b94)] [(.int p3)])) _
              refine XS.ifYes X120.here hx rfl (pc0 := 559) (pc' := 581) rfl (hb hby d1_559) rfl ((if0 _ _).trans (teq hc559).1) (by decide) (by decide) ?_
              show Steps p.tables e below (T120.setTop (mkF m 581 #[.val (.int p1), .val (.int p2), .val (.int p3), .val (.int p4), .val (.int p5), .val (.ref b94)] [])) _
              refine st122 _ ?_
              show Steps p.tables e below (T122.setTop (mkF m 584 #[.val (.int p1), .val (.int p2), .val (.int p3), .val (.int p4), .val (.int p5), .val (.ref b94)] [(.ref b122)])) _
              refine XS.dup X122.here hx rfl (hb hby d1_584) rfl rfl ?_
              show Steps p.tables e below (T122.setTop (mkF m 585 #[.val (.int p1), .val (.int p2), .val (.int p3), .val (.int p4), .val (.int p5), .val (.ref b94)] [(.ref b122), (.ref b122)])) _
              refine XS.aload X122.here hx rfl (hb hby d1_585) rfl rfl ?_
              show Steps p.tables e below (T122.setTop (mkF m 587 #[.val (.int p1), .val (.int p2), .val (.int p3), .val (.int p4), .val (.int p5), .val (.ref b94)] [(.ref b94), (.ref b122), (.ref b122)])) _
              refine st123.trans ?_
              show Steps p.tables e below (T123.setTop (mkF m 590 #[.val (.int p1), .val (.int p2), .val (.int p3), .val (.int p4), .val (.int p5), .val (.ref b94)] [(.ref b122)])) _
              exact retOut X123 hx Bd.returns rfl (Or.inr (Or.inr (Or.inr (Or.inr ⟨rfl, rfl, rfl⟩)))) (hb hby d1_590) hr
            · show QB Z p1 p2 p3 p4 p5 zc h0 n0 _ T123.heap _
              exact ⟨b122, [(nar .char (110 : Int32)), (nar .char (111 : Int32)), (nar .char (116 : Int32)), (nar .char (105 : Int32)), (nar .char (102 : Int32)), (nar .char (105 : Int32)), (nar .char (99 : Int32)), (nar .char (97 : Int32)), (nar .char (116 : Int32)), (nar .char (105 : Int32)), (nar .char (111 : Int32)), (nar .char (110 : Int32)), (nar .char p4)], rfl, N123, Kp, E_b122, T_b122⟩
          ·
            obtain ⟨cl124, Ar124, hl124⟩ := Arv.len V_b94 (by decide)
            have ia124 := State.isArrayOf_alike hZ.alike Ar124.2.1
            obtain ⟨cl125, Ar125, hl125⟩ := Arv.len V_b94 (by decide)
            have ia125 := State.isArrayOf_alike hZ.alike Ar125.2.1
            obtain ⟨cl126, Ar126, q126, S126, M126, H126, G126⟩ := V_b94
            obtain ⟨T127, h127, X127, e127, W127, st127⟩ := stC X120 hx hZ e120 Ar126 (j := ((p2 &&& (2147483647 : Int32)) % (13 : Int32))) (inb_of S126 (own_rem p2 (by decide))) (g := (mkF m 580 #[.val (.int p1), .val (.int p2), .val (.int p3), .val (.int p4), .val (.int p5), .val (.ref b94)] [(.int p5), (.int ((p2 &&& (2147483647 : Int32)) % (13 : Int32))), (.ref b94)])) rfl rfl (hb hby d1_580)
            have N127 := Fr.snoc X127 N120 g_b94
            have Sw := ((Safe.exa hZ.alike E_b94 (by decide) (by decide)) : Safe Z ELs s.vm _ b94)
            have Hd : CHr Z ELs s.vm h0 s.vm h127 := Hc.trans (CHr.wr W127 Sw Hc.1)
            have Hc := Hd
            have Zs : n0 ≤ h127.size := Nat.le_trans Zs (Keep.of_wr W127).1
            have Ol : Old Z n0 h127 := Ol.wr W127 g_b94
            have Kp : Keep h0 h127 [] := Kp.wr W127 (Or.inr sz_b94)
            have E_b94 : Exa Z h127 b94 "[C" := E_b94.wr W127
            have V_b94 : Arv Z h127 b94 k94 .char (13 : Int32) ((([(nar .char (110 : Int32)), (nar .char (111 : Int32)), (nar .char (116 : Int32)), (nar .char (105 : Int32)), (nar .char (102 : Int32)), (nar .char (105 : Int32)), (nar .char (99 : Int32)), (nar .char (97 : Int32)), (nar .char (116 : Int32)), (nar .char (105 : Int32)), (nar .char (111 : Int32)), (nar .char (110 : Int32)), (nar .char p4)] : List Int32).set ((p2 &&& (2147483647 : Int32)) % (13 : Int32)).toNatClampNeg (nar .char p5)).map Value.int) (.int (0 : Int32)) := by rw [List.map_set]; exact Arv.set Ar126 q126 S126 M126 H126 G126 (fits_nar_char _) W127 _ rfl (own_ix (own_rem p2 (by decide)) (Nat.le_of_eq rfl))
            obtain ⟨T128, h128, X128, e128, E128, A128, D128, -, st128⟩ := newO X127 hx hZ hown (hw _ (List.mem_of_getElem? (i := 6) rfl)) (hw _ (List.mem_of_getElem? (i := 7) rfl)) (hw _ (List.mem_of_getElem? (i := 8) rfl)) e127 (g := (mkF m 581 #[.val (.int p1), .val (.int p2), .val (.int p3), .val (.int p4), .val (.int p5), .val (.ref b94)] [])) rfl (hb hby d1_581) (by decide) (by decide)
            obtain ⟨b128, g128⟩ : ∃ z, z = h127.size := ⟨_, rfl⟩
            rw [← g128] at A128 D128 st128
            have g_b128 : n0 ≤ b128 := Nat.le_trans Zs (Nat.le_of_eq g128.symm)
            have sz_b128 : h0.size ≤ b128 := Nat.le_trans Kp.1 (Nat.le_of_eq g128.symm)
            have ne_b94_b128 : b94 ≠ b128 := Nat.ne_of_lt (Nat.lt_of_lt_of_le E_b94.lt (Nat.le_of_eq g128.symm))
            have Sf_b128 : Safe Z ELs s.vm h127 b128 := Safe.new (Nat.le_of_eq g128.symm)
            have Hd : CHr Z ELs s.vm h0 s.vm h128 := Hc.trans (CHr.ext E128 Hc.1)
            have Sg_b128 : Safe Z ELs s.vm h128 b128 := Safe.ext E128 Hc.1 Sf_b128
            have Sf_b128 := Sg_b128
            have Hc := Hd
            have Zs : n0 ≤ h128.size := Nat.le_trans Zs E128.1
            have Ol : Old Z n0 h128 := Ol.ext E128
            have Kp : Keep h0 h128 [] := Kp.ext E128
            have E_b94 : Exa Z h128 b94 "[C" := E_b94.ext E128
            have V_b94 : Arv Z h128 b94 k94 .char (13 : Int32) ((([(nar .char (110 : Int32)), (nar .char (111 : Int32)), (nar .char (116 : Int32)), (nar .char (105 : Int32)), (nar .char (102 : Int32)), (nar .char (105 : Int32)), (nar .char (99 : Int32)), (nar .char (97 : Int32)), (nar .char (116 : Int32)), (nar .char (105 : Int32)), (nar .char (111 : Int32)), (nar .char (110 : Int32)), (nar .char p4)] : List Int32).set ((p2 &&& (2147483647 : Int32)) % (13 : Int32)).toNatClampNeg (nar .char p5)).map Value.int) (.int (0 : Int32)) := V_b94.ext E128
            have E_b128 : Exa Z h128 b128 "java/lang/String" := A128
            have F_coder_b128 : Fld Z h128 b128 "java/lang/String" "coder" "B" (.int (0 : Int32)) := D128 (Or.inr (hw _ (List.mem_of_getElem? (i := 32) rfl))) (ty := .byte) (by decide)
            have F_value_b128 : Fld Z h128 b128 "java/lang/String" "value" "[B" .null := D128 (Or.inr (hw _ (List.mem_of_getElem? (i := 34) rfl))) (ty := (.array .byte)) (by decide)
            obtain ⟨_, _, ⟨T129, L129, k129, n129⟩, -, X129, ⟨Lc129, hQ129, l129, y129, z129⟩, st129⟩ := X128.specialBack hx (y := (⟨"java/lang/String", "<init>", "([C)V"⟩ : MethodName)) rfl hown (mvT hZ (hw _ (List.mem_of_getElem? (i := 9) rfl))) (mvT hZ (hw _ (List.mem_of_getElem? (i := 10) rfl))) (mvT hZ (hw _ (List.mem_of_getElem? (i := 11) rfl))) (by decide) (own_new (W := 1) hZ hw g_b128 Zs E_b128 F_value_b128 F_coder_b128 (cs := (([(nar .char (110 : Int32)), (nar .char (111 : Int32)), (nar .char (116 : Int32)), (nar .char (105 : Int32)), (nar .char (102 : Int32)), (nar .char (105 : Int32)), (nar .char (99 : Int32)), (nar .char (97 : Int32)), (nar .char (116 : Int32)), (nar .char (105 : Int32)), (nar .char (111 : Int32)), (nar .char (110 : Int32)), (nar .char p4)] : List Int32).set ((p2 &&& (2147483647 : Int32)) % (13 : Int32)).toNatClampNeg (nar .char p5))) (n := 13) V_b94 (Sta.ext Ol.2 S_COMPACT_STRINGS) hzc (by rw [List.length_set]; rfl) rfl (by decide) (by decide) (own_set (alIS (by decide) (alIS (by decide) (alIS (by decide) (alIS (by decide) (alIS (by decide) (alIS (by decide) (alIS (by decide) (alIS (by decide) (alIS (by decide) (alIS (by decide) (alIS (by decide) (alIS (by decide) (alIS hc alI0))))))))))))) hd) (by decide) (by decide)) (g := (mkF m 587 #[.val (.int p1), .val (.int p2), .val (.int p3), .val (.int p4), .val (.int p5), .val (.ref b94)] [(.ref b94), (.ref b128), (.ref b128)])) rfl (by rw [hml]; rfl) (Steps.refl _) (a := b128) (argsL := [(.ref b94)]) (rest := [(.ref b128)]) (lenOf pd_1 rfl) rfl (by show 2 * 0 + _ ≤ _; exact Nat.le_of_eq rfl) (hb hby d1_587) (fun _ _ => ⟨rfl, e128, (by decide : 2 + 1 ≤ _), (by decide : 17 + 13 ≤ _)⟩)
            dsimp only [Pt.U, Pt.locs, Pt.cells, Pt.slots] at X129 l129 y129 z129 st129 hQ129
            subst l129 y129 z129
            obtain ⟨rfl, N129q, K129, T129x⟩ := hQ129
            have Hd : CHr Z ELs s.vm h0 s.vm T129.heap := Hc.trans (CHr.keep K129 (allS (Sf_b128 : Safe Z ELs s.vm _ b128) all0) Hc.1)
            have Sg_b128 : Safe Z ELs s.vm T129.heap b128 := Safe.keep K129 (allS (Sf_b128 : Safe Z ELs s.vm _ b128) all0) Hc.1 Sf_b128
            have Sf_b128 := Sg_b128
            have Hc := Hd
            have Zs : n0 ≤ T129.heap.size := Nat.le_trans Zs K129.1
            have Ol : Old Z n0 T129.heap := Ol.keep K129 (allS g_b128 all0)
            have Kp : Keep h0 T129.heap [] := Kp.trans K129 (allS (Or.inr sz_b128) all0)
            have E_b94 : Exa Z T129.heap b94 "[C" := E_b94.keep K129
            have E_b128 : Exa Z T129.heap b128 "java/lang/String" := E_b128.keep K129
            have T_b128 : Stx Z T129.heap b128 (([(nar .char (110 : Int32)), (nar .char (111 : Int32)), (nar .char (116 : Int32)), (nar .char (105 : Int32)), (nar .char (102 : Int32)), (nar .char (105 : Int32)), (nar .char (99 : Int32)), (nar .char (97 : Int32)), (nar .char (116 : Int32)), (nar .char (105 : Int32)), (nar .char (111 : Int32)), (nar .char (110 : Int32)), (nar .char p4)] : List Int32).set ((p2 &&& (2147483647 : Int32)) % (13 : Int32)).toNatClampNeg (nar .char p5)) := T129x
            have N129 := Fr.app N127 N129q
            obtain ⟨fs, hr, hrun, hended, hRW⟩ := X129.leaveW (s := s) (vm₁ := s.vm) ((State.WarmedH.refl s).since 0) (Nat.zero_le _) (v := some (.ref b128)) (fun h => by rw [Bd.returns] at h; cases h)
            have hCR : CHr Z ELs s.vm h0 T129.vm T129.heap := Hc.trans (CHv.at X129 hZ hEL Hc.1)
            refine ⟨_, _, pre121 _ ?_, hrun, hended, _, _, rfl, ?_, (by rw [hh]; show CHr Z ELs s.vm h0 T129.vm T129.heap; exact hCR), ⟨hRW.1, hRW.2.1, hRW.2.2.1, hRW.2.2.2.mono (by decide) (by decide)⟩⟩
            · show Steps p.tables e below (T120.setTop (mkF m 559 #[.val (.int p1), .val (.int p2), .val (.int p3), .val (.int p4), .val (.int p5), .val (.ref b94)] [(.int p3)])) _
              refine XS.ifNo X120.here hx rfl (hb hby d1_559) rfl ((if0 _ _).trans (feq hc559).1) ?_
              show Steps p.tables e below (T120.setTop (mkF m 562 #[.val (.int p1), .val (.int p2), .val (.int p3), .val (.int p4), .val (.int p5), .val (.ref b94)] [])) _
              refine XS.aload X120.here hx rfl (hb hby d1_562) rfl rfl ?_
              show Steps p.tables e below (T120.setTop (mkF m 564 #[.val (.int p1), .val (.int p2), .val (.int p3), .val (.int p4), .val (.int p5), .val (.ref b94)] [(.ref b94)])) _
              refine X120.arraylength hx (by rw [e120]; exact Ar124.1) ia124 (g := (mkF m 564 #[.val (.int p1), .val (.int p2), .val (.int p3), .val (.int p4), .val (.int p5), .val (.ref b94)] [(.ref b94)])) rfl rfl (hb hby d1_564) _ ?_
              rw [hl124]
              show Steps p.tables e below (T120.setTop (mkF m 565 #[.val (.int p1), .val (.int p2), .val (.int p3), .val (.int p4), .val (.int p5), .val (.ref b94)] [(.int (13 : Int32))])) _
              refine XS.ifNo X120.here hx rfl (hb hby d1_565) rfl ((if0 _ _).trans (tlt (by decide)).2.2.2) ?_
              show Steps p.tables e below (T120.setTop (mkF m 568 #[.val (.int p1), .val (.int p2), .val (.int p3), .val (.int p4), .val (.int p5), .val (.ref b94)] [])) _
              refine XS.aload X120.here hx rfl (hb hby d1_568) rfl rfl ?_
              show Steps p.tables e below (T120.setTop (mkF m 570 #[.val (.int p1), .val (.int p2), .val (.int p3), .val (.int p4), .val (.int p5), .val (.ref b94)] [(.ref b94)])) _
              refine XS.iloadN X120.here hx rfl (hb hby d1_570) rfl ?_
              show Steps p.tables e below (T120.setTop (mkF m 571 #[.val (.int p1), .val (.int p2), .val (.int p3), .val (.int p4), .val (.int p5), .val (.ref b94)] [(.int p2), (.ref b94)])) _
              refine X120.ldcInt hx hown (mvT hZ (hw _ (List.mem_of_getElem? (i := 0) rfl))) (g := (mkF m 571 #[.val (.int p1), .val (.int p2), .val (.int p3), .val (.int p4), .val (.int p5), .val (.ref b94)] [(.int p2), (.ref b94)])) rfl (hb hby d1_571) _ ?_
              show Steps p.tables e below (T120.setTop (mkF m 573 #[.val (.int p1), .val (.int p2), .val (.int p3), .val (.int p4), .val (.int p5), .val (.ref b94)] [(.int (2147483647 : Int32)), (.int p2), (.ref b94)])) _
              refine XS.iand X120.here hx rfl (hb hby d1_573) rfl ?_
              show Steps p.tables e below (T120.setTop (mkF m 574 #[.val (.int p1), .val (.int p2), .val (.int p3), .val (.int p4), .val (.int p5), .val (.ref b94)] [(.int (p2 &&& (2147483647 : Int32))), (.ref b94)])) _
              refine XS.aload X120.here hx rfl (hb hby d1_574) rfl rfl ?_
              show Steps p.tables e below (T120.setTop (mkF m 576 #[.val (.int p1), .val (.int p2), .val (.int p3), .val (.int p4), .val (.int p5), .val (.ref b94)] [(.ref b94), (.int (p2 &&& (2147483647 : Int32))), (.ref b94)])) _
              refine X120.arraylength hx (by rw [e120]; exact Ar125.1) ia125 (g := (mkF m 576 #[.val (.int p1), .val (.int p2), .val (.int p3), .val (.int p4), .val (.int p5), .val (.ref b94)] [(.ref b94), (.int (p2 &&& (2147483647 : Int32))), (.ref b94)])) rfl rfl (hb hby d1_576) _ ?_
              rw [hl125]
              show Steps p.tables e below (T120.setTop (mkF m 577 #[.val (.int p1), .val (.int p2), .val (.int p3), .val (.int p4), .val (.int p5), .val (.ref b94)] [(.int (13 : Int32)), (.int (p2 &&& (2147483647 : Int32))), (.ref b94)])) _
              refine iremM X120 hx rfl (hb hby d1_577) rfl (by decide) ?_
              show Steps p.tables e below (T120.setTop (mkF m 578 #[.val (.int p1), .val (.int p2), .val (.int p3), .val (.int p4), .val (.int p5), .val (.ref b94)] [(.int ((p2 &&& (2147483647 : Int32)) % (13 : Int32))), (.ref b94)])) _
              refine XS.iload X120.here hx rfl (hb hby d1_578) rfl ?_
              show Steps p.tables e below (T120.setTop (mkF m 580 #[.val (.int p1), .val (.int p2), .val (.int p3), .val (.int p4), .val (.int p5), .val (.ref b94)] [(.int p5), (.int ((p2 &&& (2147483647 : Int32)) % (13 : Int32))), (.ref b94)])) _
              refine st127 _ ?_
              show Steps p.tables e below (T127.setTop (mkF m 581 #[.val (.int p1), .val (.int p2), .val (.int p3), .val (.int p4), .val (.int p5), .val (.ref b94)] [])) _
              refine st128 _ ?_
              show Steps p.tables e below (T128.setTop (mkF m 584 #[.val (.int p1), .val (.int p2), .val (.int p3), .val (.int p4), .val (.int p5), .val (.ref b94)] [(.ref b128)])) _
              refine XS.dup X128.here hx rfl (hb hby d1_584) rfl rfl ?_
              show Steps p.tables e below (T128.setTop (mkF m 585 #[.val (.int p1), .val (.int p2), .val (.int p3), .val (.int p4), .val (.int p5), .val (.ref b94)] [(.ref b128), (.ref b128)])) _
              refine XS.aload X128.here hx rfl (hb hby d1_585) rfl rfl ?_
              show Steps p.tables e below (T128.setTop (mkF m 587 #[.val (.int p1), .val (.int p2), .val (.int p3), .val (.int p4), .val (.int p5), .val (.ref b94)] [(.ref b94), (.ref b128), (.ref b128)])) _
              refine st129.trans ?_
              show Steps p.tables e below (T129.setTop (mkF m 590 #[.val (.int p1), .val (.int p2), .val (.int p3), .val (.int p4), .val (.int p5), .val (.ref b94)] [(.ref b128)])) _
              exact retOut X129 hx Bd.returns rfl (Or.inr (Or.inr (Or.inr (Or.inr ⟨rfl, rfl, rfl⟩)))) (hb hby d1_590) hr
            · show QB Z p1 p2 p3 p4 p5 zc h0 n0 _ T129.heap _
              exact ⟨b128, (([(nar .char (110 : Int32)), (nar .char (111 : Int32)), (nar .char (116 : Int32)), (nar .char (105 : Int32)), (nar .char (102 : Int32)), (nar .char (105 : Int32)), (nar .char (99 : Int32)), (nar .char (97 : Int32)), (nar .char (116 : Int32)), (nar .char (105 : Int32)), (nar .char (111 : Int32)), (nar .char (110 : Int32)), (nar .char p4)] : List Int32).set ((p2 &&& (2147483647 : Int32)) % (13 : Int32)).toNatClampNeg (nar .char p5)), rfl, N129, Kp, E_b128, T_b128⟩
        ·
          have pre130 : ∀ t, Steps p.tables e below (s₁.setTop (mkF m 268 #[.val (.int p1), .val (.int p2), .val (.int p3), .val (.int p4), .val (.int p5), .unset] [(.int (4 : Int32)), (.int p1)])) t → Steps p.tables e below (s₁.setTop (entryFrame m #[(.int p1), (.int p2), (.int p3), (.int p4), (.int p5)] 6)) t := fun t k => pre93 t (by
            show Steps p.tables e below (s₁.setTop (mkF m 183 #[.val (.int p1), .val (.int p2), .val (.int p3), .val (.int p4), .val (.int p5), .unset] [(.int (3 : Int32)), (.int p1)])) _
            refine XS.icmpYes X0.here hx rfl (pc0 := 183) (pc' := 266) rfl (hb hby d1_183) rfl (feq hc183).2 (by decide) (by decide) ?_
            show Steps p.tables e below (s₁.setTop (mkF m 266 #[.val (.int p1), .val (.int p2), .val (.int p3), .val (.int p4), .val (.int p5), .unset] [])) _
            refine XS.iloadN X0.here hx rfl (hb hby d1_266) rfl ?_
            show Steps p.tables e below (s₁.setTop (mkF m 267 #[.val (.int p1), .val (.int p2), .val (.int p3), .val (.int p4), .val (.int p5), .unset] [(.int p1)])) _
            refine XS.iconst X0.here hx rfl (hb hby d1_267) ?_
            exact k)
          by_cases hc268 : p1 = (4 : Int32)
          ·
            obtain ⟨T131, h131, k131, X131, e131, E131, A131, B131, st131⟩ := newPE X0 hx hZ (hw _ (List.mem_of_getElem? (i := 5) rfl)) e0 (g := (mkF m 273 #[.val (.int p1), .val (.int p2), .val (.int p3), .val (.int p4), .val (.int p5), .unset] [(.int (9 : Int32))])) rfl (hb hby d1_273) rfl (by decide) (cap := 9) (by decide) (by decide) (by decide) (by decide) (ad := "[C") (by decide)
            obtain ⟨b131, g131⟩ : ∃ z, z = h0.size := ⟨_, rfl⟩
            rw [← g131] at A131 B131 st131
            have g_b131 : n0 ≤ b131 := Nat.le_trans Zs (Nat.le_of_eq g131.symm)
            have sz_b131 : h0.size ≤ b131 := Nat.le_trans Kp.1 (Nat.le_of_eq g131.symm)
            have Hd : CHr Z ELs s.vm h0 s.vm h131 := Hc.trans (CHr.ext E131 Hc.1)
            have Hc := Hd
            have Zs : n0 ≤ h131.size := Nat.le_trans Zs E131.1
            have Ol : Old Z n0 h131 := Ol.ext E131
            have Kp : Keep h0 h131 [] := Kp.ext E131
            have E_b131 : Exa Z h131 b131 "[C" := B131
            have V_b131 : Arv Z h131 b131 k131 .char (9 : Int32) [(.int (0 : Int32)), (.int (0 : Int32)), (.int (0 : Int32)), (.int (0 : Int32)), (.int (0 : Int32)), (.int (0 : Int32)), (.int (0 : Int32)), (.int (0 : Int32)), (.int (0 : Int32))] (.int (0 : Int32)) := (Arv.new A131 (by decide)).pad (pad_rep [] (.int (0 : Int32)) 9)
            obtain ⟨cl132, Ar132, q132, S132, M132, H132, G132⟩ := V_b131
            obtain ⟨T133, h133, X133, e133, W133, st133⟩ := stC X131 hx hZ e131 Ar132 (j := (0 : Int32)) (inb_of S132 (by decide)) (g := (mkF m 279 #[.val (.int p1), .val (.int p2), .val (.int p3), .val (.int p4), .val (.int p5), .unset] [(.int (115 : Int32)), (.int (0 : Int32)), (.ref b131), (.ref b131)])) rfl rfl (hb hby d1_279)
            have N133 := Fr.snoc X133 N0 g_b131
            have Sw := ((Safe.exa hZ.alike E_b131 (by decide) (by decide)) : Safe Z ELs s.vm _ b131)
            have Hd : CHr Z ELs s.vm h0 s.vm h133 := Hc.trans (CHr.wr W133 Sw Hc.1)
            have Hc := Hd
            have Zs : n0 ≤ h133.size := Nat.le_trans Zs (Keep.of_wr W133).1
            have Ol : Old Z n0 h133 := Ol.wr W133 g_b131
            have Kp : Keep h0 h133 [] := Kp.wr W133 (Or.inr sz_b131)
            have E_b131 : Exa Z h133 b131 "[C" := E_b131.wr W133
            have V_b131 : Arv Z h133 b131 k131 .char (9 : Int32) [(.int (nar .char (115 : Int32))), (.int (0 : Int32)), (.int (0 : Int32)), (.int (0 : Int32)), (.int (0 : Int32)), (.int (0 : Int32)), (.int (0 : Int32)), (.int (0 : Int32)), (.int (0 : Int32))] (.int (0 : Int32)) := Arv.set Ar132 q132 S132 M132 H132 G132 (fits_nar_char _) W133 0 rfl (Nat.le_of_ble_eq_true rfl)
            obtain ⟨cl134, Ar134, q134, S134, M134, H134, G134⟩ := V_b131
            obtain ⟨T135, h135, X135, e135, W135, st135⟩ := stC X133 hx hZ e133 Ar134 (j := (1 : Int32)) (inb_of S134 (by decide)) (g := (mkF m 284 #[.val (.int p1), .val (.int p2), .val (.int p3), .val (.int p4), .val (.int p5), .unset] [(.int (110 : Int32)), (.int (1 : Int32)), (.ref b131), (.ref b131)])) rfl rfl (hb hby d1_284)
            have N135 := Fr.snoc X135 N133 g_b131
            have Sw := ((Safe.exa hZ.alike E_b131 (by decide) (by decide)) : Safe Z ELs s.vm _ b131)
            have Hd : CHr Z ELs s.vm h0 s.vm h135 := Hc.trans (CHr.wr W135 Sw Hc.1)
            have Hc := Hd
            have Zs : n0 ≤ h135.size := Nat.le_trans Zs (Keep.of_wr W135).1
            have Ol : Old Z n0 h135 := Ol.wr W135 g_b131
            have Kp : Keep h0 h135 [] := Kp.wr W135 (Or.inr sz_b131)
            have E_b131 : Exa Z h135 b131 "[C" := E_b131.wr W135
            have V_b131 : Arv Z h135 b131 k131 .char (9 : Int32) [(.int (nar .char (115 : Int32))), (.int (nar .char (110 : Int32))), (.int (0 : Int32)), (.int (0 : Int32)), (.int (0 : Int32)), (.int (0 : Int32)), (.int (0 : Int32)), (.int (0 : Int32)), (.int (0 : Int32))] (.int (0 : Int32)) := Arv.set Ar134 q134 S134 M134 H134 G134 (fits_nar_char _) W135 1 rfl (Nat.le_of_ble_eq_true rfl)
            obtain ⟨cl136, Ar136, q136, S136, M136, H136, G136⟩ := V_b131
            obtain ⟨T137, h137, X137, e137, W137, st137⟩ := stC X135 hx hZ e135 Ar136 (j := (2 : Int32)) (inb_of S136 (by decide)) (g := (mkF m 289 #[.val (.int p1), .val (.int p2), .val (.int p3), .val (.int p4), .val (.int p5), .unset] [(.int (97 : Int32)), (.int (2 : Int32)), (.ref b131), (.ref b131)])) rfl rfl (hb hby d1_289)
            have N137 := Fr.snoc X137 N135 g_b131
            have Sw := ((Safe.exa hZ.alike E_b131 (by decide) (by decide)) : Safe Z ELs s.vm _ b131)
            have Hd : CHr Z ELs s.vm h0 s.vm h137 := Hc.trans (CHr.wr W137 Sw Hc.1)
            have Hc := Hd
            have Zs : n0 ≤ h137.size := Nat.le_trans Zs (Keep.of_wr W137).1
            have Ol : Old Z n0 h137 := Ol.wr W137 g_b131
            have Kp : Keep h0 h137 [] := Kp.wr W137 (Or.inr sz_b131)
            have E_b131 : Exa Z h137 b131 "[C" := E_b131.wr W137
            have V_b131 : Arv Z h137 b131 k131 .char (9 : Int32) [(.int (nar .char (115 : Int32))), (.int (nar .char (110 : Int32))), (.int (nar .char (97 : Int32))), (.int (0 : Int32)), (.int (0 : Int32)), (.int (0 : Int32)), (.int (0 : Int32)), (.int (0 : Int32)), (.int (0 : Int32))] (.int (0 : Int32)) := Arv.set Ar136 q136 S136 M136 H136 G136 (fits_nar_char _) W137 2 rfl (Nat.le_of_ble_eq_true rfl)
            obtain ⟨cl138, Ar138, q138, S138, M138, H138, G138⟩ := V_b131
            obtain ⟨T139, h139, X139, e139, W139, st139⟩ := stC X137 hx hZ e137 Ar138 (j := (3 : Int32)) (inb_of S138 (by decide)) (g := (mkF m 294 #[.val (.int p1), .val (.int p2), .val (.int p3), .val (.int p4), .val (.int p5), .unset] [(.int (112 : Int32)), (.int (3 : Int32)), (.ref b131), (.ref b131)])) rfl rfl (hb hby d1_294)
            have N139 := Fr.snoc X139 N137 g_b131
            have Sw := ((Safe.exa hZ.alike E_b131 (by decide) (by decide)) : Safe Z ELs s.vm _ b131)
            have Hd : CHr Z ELs s.vm h0 s.vm h139 := Hc.trans (CHr.wr W139 Sw Hc.1)
            have Hc := Hd
            have Zs : n0 ≤ h139.size := Nat.le_trans Zs (Keep.of_wr W139).1
            have Ol : Old Z n0 h139 := Ol.wr W139 g_b131
            have Kp : Keep h0 h139 [] := Kp.wr W139 (Or.inr sz_b131)
            have E_b131 : Exa Z h139 b131 "[C" := E_b131.wr W139
            have V_b131 : Arv Z h139 b131 k131 .char (9 : Int32) [(.int (nar .char (115 : Int32))), (.int (nar .char (110 : Int32))), (.int (nar .char (97 : Int32))), (.int (nar .char (112 : Int32))), (.int (0 : Int32)), (.int (0 : Int32)), (.int (0 : Int32)), (.int (0 : Int32)), (.int (0 : Int32))] (.int (0 : Int32)) := Arv.set Ar138 q138 S138 M138 H138 G138 (fits_nar_char _) W139 3 rfl (Nat.le_of_ble_eq_true rfl)
            obtain ⟨cl140, Ar140, q140, S140, M140, H140, G140⟩ := V_b131
            obtain ⟨T141, h141, X141, e141, W141, st141⟩ := stC X139 hx hZ e139 Ar140 (j := (4 : Int32)) (inb_of S140 (by decide)) (g := (mkF m 299 #[.val (.int p1), .val (.int p2), .val (.int p3), .val (.int p4), .val (.int p5), .unset] [(.int (115 : Int32)), (.int (4 : Int32)), (.ref b131), (.ref b131)])) rfl rfl (hb hby d1_299)
            have N141 := Fr.snoc X141 N139 g_b131
            have Sw := ((Safe.exa hZ.alike E_b131 (by decide) (by decide)) : Safe Z ELs s.vm _ b131)
            have Hd : CHr Z ELs s.vm h0 s.vm h141 := Hc.trans (CHr.wr W141 Sw Hc.1)
            have Hc := Hd
            have Zs : n0 ≤ h141.size := Nat.le_trans Zs (Keep.of_wr W141).1
            have Ol : Old Z n0 h141 := Ol.wr W141 g_b131
            have Kp : Keep h0 h141 [] := Kp.wr W141 (Or.inr sz_b131)
            have E_b131 : Exa Z h141 b131 "[C" := E_b131.wr W141
            have V_b131 : Arv Z h141 b131 k131 .char (9 : Int32) [(.int (nar .char (115 : Int32))), (.int (nar .char (110 : Int32))), (.int (nar .char (97 : Int32))), (.int (nar .char (112 : Int32))), (.int (nar .char (115 : Int32))), (.int (0 : Int32)), (.int (0 : Int32)), (.int (0 : Int32)), (.int (0 : Int32))] (.int (0 : Int32)) := Arv.set Ar140 q140 S140 M140 H140 G140 (fits_nar_char _) W141 4 rfl (Nat.le_of_ble_eq_true rfl)
            obtain ⟨cl142, Ar142, q142, S142, M142, H142, G142⟩ := V_b131
            obtain ⟨T143, h143, X143, e143, W143, st143⟩ := stC X141 hx hZ e141 Ar142 (j := (5 : Int32)) (inb_of S142 (by decide)) (g := (mkF m 304 #[.val (.int p1), .val (.int p2), .val (.int p3), .val (.int p4), .val (.int p5), .unset] [(.int (104 : Int32)), (.int (5 : Int32)), (.ref b131), (.ref b131)])) rfl rfl (hb hby d1_304)
            have N143 := Fr.snoc X143 N141 g_b131
            have Sw := ((Safe.exa hZ.alike E_b131 (by decide) (by decide)) : Safe Z ELs s.vm _ b131)
            have Hd : CHr Z ELs s.vm h0 s.vm h143 := Hc.trans (CHr.wr W143 Sw Hc.1)
            have Hc := Hd
            have Zs : n0 ≤ h143.size := Nat.le_trans Zs (Keep.of_wr W143).1
            have Ol : Old Z n0 h143 := Ol.wr W143 g_b131
            have Kp : Keep h0 h143 [] := Kp.wr W143 (Or.inr sz_b131)
            have E_b131 : Exa Z h143 b131 "[C" := E_b131.wr W143
            have V_b131 : Arv Z h143 b131 k131 .char (9 : Int32) [(.int (nar .char (115 : Int32))), (.int (nar .char (110 : Int32))), (.int (nar .char (97 : Int32))), (.int (nar .char (112 : Int32))), (.int (nar .char (115 : Int32))), (.int (nar .char (104 : Int32))), (.int (0 : Int32)), (.int (0 : Int32)), (.int (0 : Int32))] (.int (0 : Int32)) := Arv.set Ar142 q142 S142 M142 H142 G142 (fits_nar_char _) W143 5 rfl (Nat.le_of_ble_eq_true rfl)
            obtain ⟨cl144, Ar144, q144, S144, M144, H144, G144⟩ := V_b131
            obtain ⟨T145, h145, X145, e145, W145, st145⟩ := stC X143 hx hZ e143 Ar144 (j := (6 : Int32)) (inb_of S144 (by decide)) (g := (mkF m 310 #[.val (.int p1), .val (.int p2), .val (.int p3), .val (.int p4), .val (.int p5), .unset] [(.int (111 : Int32)), (.int (6 : Int32)), (.ref b131), (.ref b131)])) rfl rfl (hb hby d1_310)
            have N145 := Fr.snoc X145 N143 g_b131
            have Sw := ((Safe.exa hZ.alike E_b131 (by decide) (by decide)) : Safe Z ELs s.vm _ b131)
            have Hd : CHr Z ELs s.vm h0 s.vm h145 := Hc.trans (CHr.wr W145 Sw Hc.1)
            have Hc := Hd
            have Zs : n0 ≤ h145.size := Nat.le_trans Zs (Keep.of_wr W145).1
            have Ol : Old Z n0 h145 := Ol.wr W145 g_b131
            have Kp : Keep h0 h145 [] := Kp.wr W145 (Or.inr sz_b131)
            have E_b131 : Exa Z h145 b131 "[C" := E_b131.wr W145
            have V_b131 : Arv Z h145 b131 k131 .char (9 : Int32) [(.int (nar .char (115 : Int32))), (.int (nar .char (110 : Int32))), (.int (nar .char (97 : Int32))), (.int (nar .char (112 : Int32))), (.int (nar .char (115 : Int32))), (.int (nar .char (104 : Int32))), (.int (nar .char (111 : Int32))), (.int (0 : Int32)), (.int (0 : Int32))] (.int (0 : Int32)) := Arv.set Ar144 q144 S144 M144 H144 G144 (fits_nar_char _) W145 6 rfl (Nat.le_of_ble_eq_true rfl)
            obtain ⟨cl146, Ar146, q146, S146, M146, H146, G146⟩ := V_b131
            obtain ⟨T147, h147, X147, e147, W147, st147⟩ := stC X145 hx hZ e145 Ar146 (j := (7 : Int32)) (inb_of S146 (by decide)) (g := (mkF m 316 #[.val (.int p1), .val (.int p2), .val (.int p3), .val (.int p4), .val (.int p5), .unset] [(.int (116 : Int32)), (.int (7 : Int32)), (.ref b131), (.ref b131)])) rfl rfl (hb hby d1_316)
            have N147 := Fr.snoc X147 N145 g_b131
            have Sw := ((Safe.exa hZ.alike E_b131 (by decide) (by decide)) : Safe Z ELs s.vm _ b131)
            have Hd : CHr Z ELs s.vm h0 s.vm h147 := Hc.trans (CHr.wr W147 Sw Hc.1)
            have Hc := Hd
            have Zs : n0 ≤ h147.size := Nat.le_trans Zs (Keep.of_wr W147).1
            have Ol : Old Z n0 h147 := Ol.wr W147 g_b131
            have Kp : Keep h0 h147 [] := Kp.wr W147 (Or.inr sz_b131)
            have E_b131 : Exa Z h147 b131 "[C" := E_b131.wr W147
            have V_b131 : Arv Z h147 b131 k131 .char (9 : Int32) [(.int (nar .char (115 : Int32))), (.int (nar .char (110 : Int32))), (.int (nar .char (97 : Int32))), (.int (nar .char (112 : Int32))), (.int (nar .char (115 : Int32))), (.int (nar .char (104 : Int32))), (.int (nar .char (111 : Int32))), (.int (nar .char (116 : Int32))), (.int (0 : Int32))] (.int (0 : Int32)) := Arv.set Ar146 q146 S146 M146 H146 G146 (fits_nar_char _) W147 7 rfl (Nat.le_of_ble_eq_true rfl)
            obtain ⟨cl148, Ar148, q148, S148, M148, H148, G148⟩ := V_b131
            obtain ⟨T149, h149, X149, e149, W149, st149⟩ := stC X147 hx hZ e147 Ar148 (j := (8 : Int32)) (inb_of S148 (by decide)) (g := (mkF m 321 #[.val (.int p1), .val (.int p2), .val (.int p3), .val (.int p4), .val (.int p5), .unset] [(.int p4), (.int (8 : Int32)), (.ref b131), (.ref b131)])) rfl rfl (hb hby d1_321)
            have N149 := Fr.snoc X149 N147 g_b131
            have Sw := ((Safe.exa hZ.alike E_b131 (by decide) (by decide)) : Safe Z ELs s.vm _ b131)
            have Hd : CHr Z ELs s.vm h0 s.vm h149 := Hc.trans (CHr.wr W149 Sw Hc.1)
            have Hc := Hd
            have Zs : n0 ≤ h149.size := Nat.le_trans Zs (Keep.of_wr W149).1
            have Ol : Old Z n0 h149 := Ol.wr W149 g_b131
            have Kp : Keep h0 h149 [] := Kp.wr W149 (Or.inr sz_b131)
            have E_b131 : Exa Z h149 b131 "[C" := E_b131.wr W149
            have V_b131 : Arv Z h149 b131 k131 .char (9 : Int32) [(.int (nar .char (115 : Int32))), (.int (nar .char (110 : Int32))), (.int (nar .char (97 : Int32))), (.int (nar .char (112 : Int32))), (.int (nar .char (115 : Int32))), (.int (nar .char (104 : Int32))), (.int (nar .char (111 : Int32))), (.int (nar .char (116 : Int32))), (.int (nar .char p4))] (.int (0 : Int32)) := Arv.set Ar148 q148 S148 M148 H148 G148 (fits_nar_char _) W149 8 rfl (Nat.le_of_ble_eq_true rfl)
            have pre150 : ∀ t, Steps p.tables e below (T149.setTop (mkF m 559 #[.val (.int p1), .val (.int p2), .val (.int p3), .val (.int p4), .val (.int p5), .val (.ref b131)] [(.int p3)])) t → Steps p.tables e below (s₁.setTop (entryFrame m #[(.int p1), (.int p2), (.int p3), (.int p4), (.int p5)] 6)) t := fun t k => pre130 t (by
              show Steps p.tables e below (s₁.setTop (mkF m 268 #[.val (.int p1), .val (.int p2), .val (.int p3), .val (.int p4), .val (.int p5), .unset] [(.int (4 : Int32)), (.int p1)])) _
              refine XS.icmpNo X0.here hx rfl (hb hby d1_268) rfl (teq hc268).2 ?_
              show Steps p.tables e below (s₁.setTop (mkF m 271 #[.val (.int p1), .val (.int p2), .val (.int p3), .val (.int p4), .val (.int p5), .unset] [])) _
              refine XS.bipush X0.here hx rfl (hb hby d1_271) ?_
              show Steps p.tables e below (s₁.setTop (mkF m 273 #[.val (.int p1), .val (.int p2), .val (.int p3), .val (.int p4), .val (.int p5), .unset] [(.int (9 : Int32))])) _
              refine st131 _ ?_
              show Steps p.tables e below (T131.setTop (mkF m 275 #[.val (.int p1), .val (.int p2), .val (.int p3), .val (.int p4), .val (.int p5), .unset] [(.ref b131)])) _
              refine XS.dup X131.here hx rfl (hb hby d1_275) rfl rfl ?_
              show Steps p.tables e below (T131.setTop (mkF m 276 #[.val (.int p1), .val (.int p2), .val (.int p3), .val (.int p4), .val (.int p5), .unset] [(.ref b131), (.ref b131)])) _
              refine XS.iconst X131.here hx rfl (hb hby d1_276) ?_
              show Steps p.tables e below (T131.setTop (mkF m 277 #[.val (.int p1), .val (.int p2), .val (.int p3), .val (.int p4), .val (.int p5), .unset] [(.int (0 : Int32)), (.ref b131), (.ref b131)])) _
              refine XS.bipush X131.here hx rfl (hb hby d1_277) ?_
              show Steps p.tables e below (T131.setTop (mkF m 279 #[.val (.int p1), .val (.int p2), .val (.int p3), .val (.int p4), .val (.int p5), .unset] [(.int (115 : Int32)), (.int (0 : Int32)), (.ref b131), (.ref b131)])) _
              refine st133 _ ?_
              show Steps p.tables e below (T133.setTop (mkF m 280 #[.val (.int p1), .val (.int p2), .val (.int p3), .val (.int p4), .val (.int p5), .unset] [(.ref b131)])) _
              refine XS.dup X133.here hx rfl (hb hby d1_280) rfl rfl ?_
              show Steps p.tables e below (T133.setTop (mkF m 281 #[.val (.int p1), .val (.int p2), .val (.int p3), .val (.int p4), .val (.int p5), .unset] [(.ref b131), (.ref b131)])) _
              refine XS.iconst X133.here hx rfl (hb hby d1_281) ?_
              show Steps p.tables e below (T133.setTop (mkF m 282 #[.val (.int p1), .val (.int p2), .val (.int p3), .val (.int p4), .val (.int p5), .unset] [(.int (1 : Int32)), (.ref b131), (.ref b131)])) _
              refine XS.bipush X133.here hx rfl (hb hby d1_282) ?_
              show Steps p.tables e below (T133.setTop (mkF m 284 #[.val (.int p1), .val (.int p2), .val (.int p3), .val (.int p4), .val (.int p5), .unset] [(.int (110 : Int32)), (.int (1 : Int32)), (.ref b131), (.ref b131)])) _
              refine st135 _ ?_
              show Steps p.tables e below (T135.setTop (mkF m 285 #[.val (.int p1), .val (.int p2), .val (.int p3), .val (.int p4), .val (.int p5), .unset] [(.ref b131)])) _
              refine XS.dup X135.here hx rfl (hb hby d1_285) rfl rfl ?_
              show Steps p.tables e below (T135.setTop (mkF m 286 #[.val (.int p1), .val (.int p2), .val (.int p3), .val (.int p4), .val (.int p5), .unset] [(.ref b131), (.ref b131)])) _
              refine XS.iconst X135.here hx rfl (hb hby d1_286) ?_
              show Steps p.tables e below (T135.setTop (mkF m 287 #[.val (.int p1), .val (.int p2), .val (.int p3), .val (.int p4), .val (.int p5), .unset] [(.int (2 : Int32)), (.ref b131), (.ref b131)])) _
              refine XS.bipush X135.here hx rfl (hb hby d1_287) ?_
              show Steps p.tables e below (T135.setTop (mkF m 289 #[.val (.int p1), .val (.int p2), .val (.int p3), .val (.int p4), .val (.int p5), .unset] [(.int (97 : Int32)), (.int (2 : Int32)), (.ref b131), (.ref b131)])) _
              refine st137 _ ?_
              show Steps p.tables e below (T137.setTop (mkF m 290 #[.val (.int p1), .val (.int p2), .val (.int p3), .val (.int p4), .val (.int p5), .unset] [(.ref b131)])) _
              refine XS.dup X137.here hx rfl (hb hby d1_290) rfl rfl ?_
              show Steps p.tables e below (T137.setTop (mkF m 291 #[.val (.int p1), .val (.int p2), .val (.int p3), .val (.int p4), .val (.int p5), .unset] [(.ref b131), (.ref b131)])) _
              refine XS.iconst X137.here hx rfl (hb hby d1_291) ?_
              show Steps p.tables e below (T137.setTop (mkF m 292 #[.val (.int p1), .val (.int p2), .val (.int p3), .val (.int p4), .val (.int p5), .unset] [(.int (3 : Int32)), (.ref b131), (.ref b131)])) _
              refine XS.bipush X137.here hx rfl (hb hby d1_292) ?_
              show Steps p.tables e below (T137.setTop (mkF m 294 #[.val (.int p1), .val (.int p2), .val (.int p3), .val (.int p4), .val (.int p5), .unset] [(.int (112 : Int32)), (.int (3 : Int32)), (.ref b131), (.ref b131)])) _
              refine st139 _ ?_
              show Steps p.tables e below (T139.setTop (mkF m 295 #[.val (.int p1), .val (.int p2), .val (.int p3), .val (.int p4), .val (.int p5), .unset] [(.ref b131)])) _
              refine XS.dup X139.here hx rfl (hb hby d1_295) rfl rfl ?_
              show Steps p.tables e below (T139.setTop (mkF m 296 #[.val (.int p1), .val (.int p2), .val (.int p3), .val (.int p4), .val (.int p5), .unset] [(.ref b131), (.ref b131)])) _
              refine XS.iconst X139.here hx rfl (hb hby d1_296) ?_
              show Steps p.tables e below (T139.setTop (mkF m 297 #[.val (.int p1), .val (.int p2), .val (.int p3), .val (.int p4), .val (.int p5), .unset] [(.int (4 : Int32)), (.ref b131), (.ref b131)])) _
              refine XS.bipush X139.here hx rfl (hb hby d1_297) ?_
              show Steps p.tables e below (T139.setTop (mkF m 299 #[.val (.int p1), .val (.int p2), .val (.int p3), .val (.int p4), .val (.int p5), .unset] [(.int (115 : Int32)), (.int (4 : Int32)), (.ref b131), (.ref b131)])) _
              refine st141 _ ?_
              show Steps p.tables e below (T141.setTop (mkF m 300 #[.val (.int p1), .val (.int p2), .val (.int p3), .val (.int p4), .val (.int p5), .unset] [(.ref b131)])) _
              refine XS.dup X141.here hx rfl (hb hby d1_300) rfl rfl ?_
              show Steps p.tables e below (T141.setTop (mkF m 301 #[.val (.int p1), .val (.int p2), .val (.int p3), .val (.int p4), .val (.int p5), .unset] [(.ref b131), (.ref b131)])) _
              refine XS.iconst X141.here hx rfl (hb hby d1_301) ?_
              show Steps p.tables e below (T141.setTop (mkF m 302 #[.val (.int p1), .val (.int p2), .val (.int p3), .val (.int p4), .val (.int p5), .unset] [(.int (5 : Int32)), (.ref b131), (.ref b131)])) _
              refine XS.bipush X141.here hx rfl (hb hby d1_302) ?_
              show Steps p.tables e below (T141.setTop (mkF m 304 #[.val (.int p1), .val (.int p2), .val (.int p3), .val (.int p4), .val (.int p5), .unset] [(.int (104 : Int32)), (.int (5 : Int32)), (.ref b131), (.ref b131)])) _
              refine st143 _ ?_
              show Steps p.tables e below (T143.setTop (mkF m 305 #[.val (.int p1), .val (.int p2), .val (.int p3), .val (.int p4), .val (.int p5), .unset] [(.ref b131)])) _
              refine XS.dup X143.here hx rfl (hb hby d1_305) rfl rfl ?_
              show Steps p.tables e below (T143.setTop (mkF m 306 #[.val (.int p1), .val (.int p2), .val (.int p3), .val (.int p4), .val (.int p5), .unset] [(.ref b131), (.ref b131)])) _
              refine XS.bipush X143.here hx rfl (hb hby d1_306) ?_
              show Steps p.tables e below (T143.setTop (mkF m 308 #[.val (.int p1), .val (.int p2), .val (.int p3), .val (.int p4), .val (.int p5), .unset] [(.int (6 : Int32)), (.ref b131), (.ref b131)])) _
              refine XS.bipush X143.here hx rfl (hb hby d1_308) ?_
              show Steps p.tables e below (T143.setTop (mkF m 310 #[.val (.int p1), .val (.int p2), .val (.int p3), .val (.int p4), .val (.int p5), .unset] [(.int (111 : Int32)), (.int (6 : Int32)), (.ref b131), (.ref b131)])) _
              refine st145 _ ?_
              show Steps p.tables e below (T145.setTop (mkF m 311 #[.val (.int p1), .val (.int p2), .val (.int p3), .val (.int p4), .val (.int p5), .unset] [(.ref b131)])) _
              refine XS.dup X145.here hx rfl (hb hby d1_311) rfl rfl ?_
              show Steps p.tables e below (T145.setTop (mkF m 312 #[.val (.int p1), .val (.int p2), .val (.int p3), .val (.int p4), .val (.int p5), .unset] [(.ref b131), (.ref b131)])) _
              refine XS.bipush X145.here hx rfl (hb hby d1_312) ?_
              show Steps p.tables e below (T145.setTop (mkF m 314 #[.val (.int p1), .val (.int p2), .val (.int p3), .val (.int p4), .val (.int p5), .unset] [(.int (7 : Int32)), (.ref b131), (.ref b131)])) _
              refine XS.bipush X145.here hx rfl (hb hby d1_314) ?_
              show Steps p.tables e below (T145.setTop (mkF m 316 #[.val (.int p1), .val (.int p2), .val (.int p3), .val (.int p4), .val (.int p5), .unset] [(.int (116 : Int32)), (.int (7 : Int32)), (.ref b131), (.ref b131)])) _
              refine st147 _ ?_
              show Steps p.tables e below (T147.setTop (mkF m 317 #[.val (.int p1), .val (.int p2), .val (.int p3), .val (.int p4), .val (.int p5), .unset] [(.ref b131)])) _
              refine XS.dup X147.here hx rfl (hb hby d1_317) rfl rfl ?_
              show Steps p.tables e below (T147.setTop (mkF m 318 #[.val (.int p1), .val (.int p2), .val (.int p3), .val (.int p4), .val (.int p5), .unset] [(.ref b131), (.ref b131)])) _
              refine XS.bipush X147.here hx rfl (hb hby d1_318) ?_
              show Steps p.tables e below (T147.setTop (mkF m 320 #[.val (.int p1), .val (.int p2), .val (.int p3), .val (.int p4), .val (.int p5), .unset] [(.int (8 : Int32)), (.ref b131), (.ref b131)])) _
              refine XS.iloadN X147.here hx rfl (hb hby d1_320) rfl ?_
              show Steps p.tables e below (T147.setTop (mkF m 321 #[.val (.int p1), .val (.int p2), .val (.int p3), .val (.int p4), .val (.int p5), .unset] [(.int p4), (.int (8 : Int32)), (.ref b131), (.ref b131)])) _
              refine st149 _ ?_
              show Steps p.tables e below (T149.setTop (mkF m 322 #[.val (.int p1), .val (.int p2), .val (.int p3), .val (.int p4), .val (.int p5), .unset] [(.ref b131)])) _
              refine XS.astore X149.here hx rfl (hb hby d1_322) rfl rfl (l' := #[.val (.int p1), .val (.int p2), .val (.int p3), .val (.int p4), .val (.int p5), .val (.ref b131)]) rfl ?_
              show Steps p.tables e below (T149.setTop (mkF m 324 #[.val (.int p1), .val (.int p2), .val (.int p3), .val (.int p4), .val (.int p5), .val (.ref b131)] [])) _
              refine XS.goto X149.here hx rfl (pc0 := 324) (pc' := 558) rfl (hb hby d1_324) (by decide) (by decide) ?_
              show Steps p.tables e below (T149.setTop (mkF m 558 #[.val (.int p1), .val (.int p2), .val (.int p3), .val (.int p4), .val (.int p5), .val (.ref b131)] [])) _
              refine XS.iloadN X149.here hx rfl (hb hby d1_558) rfl ?_
              exact k)
            by_cases hc559 : p3 = (0 : Int32)
            ·
              obtain ⟨T151, h151, X151, e151, E151, A151, D151, -, st151⟩ := newO X149 hx hZ hown (hw _ (List.mem_of_getElem? (i := 6) rfl)) (hw _ (List.mem_of_getElem? (i := 7) rfl)) (hw _ (List.mem_of_getElem? (i := 8) rfl)) e149 (g := (mkF m 581 #[.val (.int p1), .val (.int p2), .val (.int p3), .val (.int p4), .val (.int p5), .val (.ref b131)] [])) rfl (hb hby d1_581) (by decide) (by decide)
              obtain ⟨b151, g151⟩ : ∃ z, z = h149.size := ⟨_, rfl⟩
              rw [← g151] at A151 D151 st151
              have g_b151 : n0 ≤ b151 := Nat.le_trans Zs (Nat.le_of_eq g151.symm)
              have sz_b151 : h0.size ≤ b151 := Nat.le_trans Kp.1 (Nat.le_of_eq g151.symm)
              have ne_b131_b151 : b131 ≠ b151 := Nat.ne_of_lt (Nat.lt_of_lt_of_le E_b131.lt (Nat.le_of_eq g151.symm))
              have Sf_b151 : Safe Z ELs s.vm h149 b151 := Safe.new (Nat.le_of_eq g151.symm)
              have Hd : CHr Z ELs s.vm h0 s.vm h151 := Hc.trans (CHr.ext E151 Hc.1)
              have Sg_b151 : Safe Z ELs s.vm h151 b151 := Safe.ext E151 Hc.1 Sf_b151
              have Sf_b151 := Sg_b151
              have Hc := Hd
              have Zs : n0 ≤ h151.size := Nat.le_trans Zs E151.1
              have Ol : Old Z n0 h151 := Ol.ext E151
              have Kp : Keep h0 h151 [] := Kp.ext E151
              have E_b131 : Exa Z h151 b131 "[C" := E_b131.ext E151
              have V_b131 : Arv Z h151 b131 k131 .char (9 : Int32) [(.int (nar .char (115 : Int32))), (.int (nar .char (110 : Int32))), (.int (nar .char (97 : Int32))), (.int (nar .char (112 : Int32))), (.int (nar .char (115 : Int32))), (.int (nar .char (104 : Int32))), (.int (nar .char (111 : Int32))), (.int (nar .char (116 : Int32))), (.int (nar .char p4))] (.int (0 : Int32)) := V_b131.ext E151
              have E_b151 : Exa Z h151 b151 "java/lang/String" := A151
              have F_coder_b151 : Fld Z h151 b151 "java/lang/String" "coder" "B" (.int (0 : Int32)) := D151 (Or.inr (hw _ (List.mem_of_getElem? (i := 32) rfl))) (ty := .byte) (by decide)
              have F_value_b151 : Fld Z h151 b151 "java/lang/String" "value" "[B" .null := D151 (Or.inr (hw _ (List.mem_of_getElem? (i := 34) rfl))) (ty := (.array .byte)) (by decide)
              obtain ⟨_, _, ⟨T152, L152, k152, n152⟩, -, X152, ⟨Lc152, hQ152, l152, y152, z152⟩, st152⟩ := X151.specialBack hx (y := (⟨"java/lang/String", "<init>", "([C)V"⟩ : MethodName)) rfl hown (mvT hZ (hw _ (List.mem_of_getElem? (i := 9) rfl))) (mvT hZ (hw _ (List.mem_of_getElem? (i := 10) rfl))) (mvT hZ (hw _ (List.mem_of_getElem? (i := 11) rfl))) (by decide) (own_new (W := 1) hZ hw g_b151 Zs E_b151 F_value_b151 F_coder_b151 (cs := [(nar .char (115 : Int32)), (nar .char (110 : Int32)), (nar .char (97 : Int32)), (nar .char (112 : Int32)), (nar .char (115 : Int32)), (nar .char (104 : Int32)), (nar .char (111 : Int32)), (nar .char (116 : Int32)), (nar .char p4)]) (n := 9) V_b131 (Sta.ext Ol.2 S_COMPACT_STRINGS) hzc rfl rfl (by decide) (by decide) (alIS (by decide) (alIS (by decide) (alIS (by decide) (alIS (by decide) (alIS (by decide) (alIS (by decide) (alIS (by decide) (alIS (by decide) (alIS hc alI0))))))))) (by decide) (by decide)) (g := (mkF m 587 #[.val (.int p1), .val (.int p2), .val (.int p3), .val (.int p4), .val (.int p5), .val (.ref b131)] [(.ref b131), (.ref b151), (.ref b151)])) rfl (by rw [hml]; rfl) (Steps.refl _) (a := b151) (argsL := [(.ref b131)]) (rest := [(.ref b151)]) (lenOf pd_1 rfl) rfl (by show 2 * 0 + _ ≤ _; exact Nat.le_of_eq rfl) (hb hby d1_587) (fun _ _ => ⟨rfl, e151, (by decide : 2 + 1 ≤ _), (by decide : 13 + 9 ≤ _)⟩)
              dsimp only [Pt.U, Pt.locs, Pt.cells, Pt.slots] at X152 l152 y152 z152 st152 hQ152
              subst l152 y152 z152
              obtain ⟨rfl, N152q, K152, T152x⟩ := hQ152
              have Hd : CHr Z ELs s.vm h0 s.vm T152.heap := Hc.trans (CHr.keep K152 (allS (Sf_b151 : Safe Z ELs s.vm _ b151) all0) Hc.1)
              have Sg_b151 : Safe Z ELs s.vm T152.heap b151 := Safe.keep K152 (allS (Sf_b151 : Safe Z ELs s.vm _ b151) all0) Hc.1 Sf_b151
              have Sf_b151 := Sg_b151
              have Hc := Hd
              have Zs : n0 ≤ T152.heap.size := Nat.le_trans Zs K152.1
              have Ol : Old Z n0 T152.heap := Ol.keep K152 (allS g_b151 all0)
              have Kp : Keep h0 T152.heap [] := Kp.trans K152 (allS (Or.inr sz_b151) all0)
              have E_b131 : Exa Z T152.heap b131 "[C" := E_b131.keep K152
              have E_b151 : Exa Z T152.heap b151 "java/lang/String" := E_b151.keep K152
              have T_b151 : Stx Z T152.heap b151 [(nar .char (115 : Int32)), (nar .char (110 : Int32)), (nar .char (97 : Int32)), (nar .char (112 : Int32)), (nar .char (115 : Int32)), (nar .char (104 : Int32)), (nar .char (111 : Int32)), (nar .char (116 : Int32)), (nar .char p4)] := T152x
              have N152 := Fr.app N149 N152q
              obtain ⟨fs, hr, hrun, hended, hRW⟩ := X152.leaveW (s := s) (vm₁ := s.vm) ((State.WarmedH.refl s).since 0) (Nat.zero_le _) (v := some (.ref b151)) (fun h => by rw [Bd.returns] at h; cases h)
              have hCR : CHr Z ELs s.vm h0 T152.vm T152.heap := Hc.trans (CHv.at X152 hZ hEL Hc.1)
              refine ⟨_, _, pre150 _ ?_, hrun, hended, _, _, rfl, ?_, (by rw [hh]; show CHr Z ELs s.vm h0 T152.vm T152.heap; exact hCR), ⟨hRW.1, hRW.2.1, hRW.2.2.1, hRW.2.2.2.mono (by decide) (by decide)⟩⟩
              · show Steps p.tables e below (T149.setTop (mkF m 559 #[.val (.int p1), .val (.int p2), .val (.int p3), .val (.int p4), .val (.int p5), .val (.ref b131)] [(.int p3)])) _
                refine XS.ifYes X149.here hx rfl (pc0 := 559) (pc' := 581) rfl (hb hby d1_559) rfl ((if0 _ _).trans (teq hc559).1) (by decide) (by decide) ?_
                show Steps p.tables e below (T149.setTop (mkF m 581 #[.val (.int p1), .val (.int p2), .val (.int p3), .val (.int p4), .val (.int p5), .val (.ref b131)] [])) _
                refine st151 _ ?_
                show Steps p.tables e below (T151.setTop (mkF m 584 #[.val (.int p1), .val (.int p2), .val (.int p3), .val (.int p4), .val (.int p5), .val (.ref b131)] [(.ref b151)])) _
                refine XS.dup X151.here hx rfl (hb hby d1_584) rfl rfl ?_
                show Steps p.tables e below (T151.setTop (mkF m 585 #[.val (.int p1), .val (.int p2), .val (.int p3), .val (.int p4), .val (.int p5), .val (.ref b131)] [(.ref b151), (.ref b151)])) _
                refine XS.aload X151.here hx rfl (hb hby d1_585) rfl rfl ?_
                show Steps p.tables e below (T151.setTop (mkF m 587 #[.val (.int p1), .val (.int p2), .val (.int p3), .val (.int p4), .val (.int p5), .val (.ref b131)] [(.ref b131), (.ref b151), (.ref b151)])) _
                refine st152.trans ?_
                show Steps p.tables e below (T152.setTop (mkF m 590 #[.val (.int p1), .val (.int p2), .val (.int p3), .val (.int p4), .val (.int p5), .val (.ref b131)] [(.ref b151)])) _
                exact retOut X152 hx Bd.returns rfl (Or.inr (Or.inr (Or.inr (Or.inr ⟨rfl, rfl, rfl⟩)))) (hb hby d1_590) hr
              · show QB Z p1 p2 p3 p4 p5 zc h0 n0 _ T152.heap _
                exact ⟨b151, [(nar .char (115 : Int32)), (nar .char (110 : Int32)), (nar .char (97 : Int32)), (nar .char (112 : Int32)), (nar .char (115 : Int32)), (nar .char (104 : Int32)), (nar .char (111 : Int32)), (nar .char (116 : Int32)), (nar .char p4)], rfl, N152, Kp, E_b151, T_b151⟩
            ·
              obtain ⟨cl153, Ar153, hl153⟩ := Arv.len V_b131 (by decide)
              have ia153 := State.isArrayOf_alike hZ.alike Ar153.2.1
              obtain ⟨cl154, Ar154, hl154⟩ := Arv.len V_b131 (by decide)
              have ia154 := State.isArrayOf_alike hZ.alike Ar154.2.1
              obtain ⟨cl155, Ar155, q155, S155, M155, H155, G155⟩ := V_b131
              obtain ⟨T156, h156, X156, e156, W156, st156⟩ := stC X149 hx hZ e149 Ar155 (j := ((p2 &&& (2147483647 : Int32)) % (9 : Int32))) (inb_of S155 (own_rem p2 (by decide))) (g := (mkF m 580 #[.val (.int p1), .val (.int p2), .val (.int p3), .val (.int p4), .val (.int p5), .val (.ref b131)] [(.int p5), (.int ((p2 &&& (2147483647 : Int32)) % (9 : Int32))), (.ref b131)])) rfl rfl (hb hby d1_580)
              have N156 := Fr.snoc X156 N149 g_b131
              have Sw := ((Safe.exa hZ.alike E_b131 (by decide) (by decide)) : Safe Z ELs s.vm _ b131)
              have Hd : CHr Z ELs s.vm h0 s.vm h156 := Hc.trans (CHr.wr W156 Sw Hc.1)
              have Hc := Hd
              have Zs : n0 ≤ h156.size := Nat.le_trans Zs (Keep.of_wr W156).1
              have Ol : Old Z n0 h156 := Ol.wr W156 g_b131
              have Kp : Keep h0 h156 [] := Kp.wr W156 (Or.inr sz_b131)
              have E_b131 : Exa Z h156 b131 "[C" := E_b131.wr W156
              have V_b131 : Arv Z h156 b131 k131 .char (9 : Int32) ((([(nar .char (115 : Int32)), (nar .char (110 : Int32)), (nar .char (97 : Int32)), (nar .char (112 : Int32)), (nar .char (115 : Int32)), (nar .char (104 : Int32)), (nar .char (111 : Int32)), (nar .char (116 : Int32)), (nar .char p4)] : List Int32).set ((p2 &&& (2147483647 : Int32)) % (9 : Int32)).toNatClampNeg (nar .char p5)).map Value.int) (.int (0 : Int32)) := by rw [List.map_set]; exact Arv.set Ar155 q155 S155 M155 H155 G155 (fits_nar_char _) W156 _ rfl (own_ix (own_rem p2 (by decide)) (Nat.le_of_eq rfl))
              obtain ⟨T157, h157, X157, e157, E157, A157, D157, -, st157⟩ := newO X156 hx hZ hown (hw _ (List.mem_of_getElem? (i := 6) rfl)) (hw _ (List.mem_of_getElem? (i := 7) rfl)) (hw _ (List.mem_of_getElem? (i := 8) rfl)) e156 (g := (mkF m 581 #[.val (.int p1), .val (.int p2), .val (.int p3), .val (.int p4), .val (.int p5), .val (.ref b131)] [])) rfl (hb hby d1_581) (by decide) (by decide)
              obtain ⟨b157, g157⟩ : ∃ z, z = h156.size := ⟨_, rfl⟩
              rw [← g157] at A157 D157 st157
              have g_b157 : n0 ≤ b157 := Nat.le_trans Zs (Nat.le_of_eq g157.symm)
              have sz_b157 : h0.size ≤ b157 := Nat.le_trans Kp.1 (Nat.le_of_eq g157.symm)
              have ne_b131_b157 : b131 ≠ b157 := Nat.ne_of_lt (Nat.lt_of_lt_of_le E_b131.lt (Nat.le_of_eq g157.symm))
              have Sf_b157 : Safe Z ELs s.vm h156 b157 := Safe.new (Nat.le_of_eq g157.symm)
              have Hd : CHr Z ELs s.vm h0 s.vm h157 := Hc.trans (CHr.ext E157 Hc.1)
              have Sg_b157 : Safe Z ELs s.vm h157 b157 := Safe.ext E157 Hc.1 Sf_b157
              have Sf_b157 := Sg_b157
              have Hc := Hd
              have Zs : n0 ≤ h157.size := Nat.le_trans Zs E157.1
              have Ol : Old Z n0 h157 := Ol.ext E157
              have Kp : Keep h0 h157 [] := Kp.ext E157
              have E_b131 : Exa Z h157 b131 "[C" := E_b131.ext E157
              have V_b131 : Arv Z h157 b131 k131 .char (9 : Int32) ((([(nar .char (115 : Int32)), (nar .char (110 : Int32)), (nar .char (97 : Int32)), (nar .char (112 : Int32)), (nar .char (115 : Int32)), (nar .char (104 : Int32)), (nar .char (111 : Int32)), (nar .char (116 : Int32)), (nar .char p4)] : List Int32).set ((p2 &&& (2147483647 : Int32)) % (9 : Int32)).toNatClampNeg (nar .char p5)).map Value.int) (.int (0 : Int32)) := V_b131.ext E157
              have E_b157 : Exa Z h157 b157 "java/lang/String" := A157
              have F_coder_b157 : Fld Z h157 b157 "java/lang/String" "coder" "B" (.int (0 : Int32)) := D157 (Or.inr (hw _ (List.mem_of_getElem? (i := 32) rfl))) (ty := .byte) (by decide)
              have F_value_b157 : Fld Z h157 b157 "java/lang/String" "value" "[B" .null := D157 (Or.inr (hw _ (List.mem_of_getElem? (i := 34) rfl))) (ty := (.array .byte)) (by decide)
              obtain ⟨_, _, ⟨T158, L158, k158, n158⟩, -, X158, ⟨Lc158, hQ158, l158, y158, z158⟩, st158⟩ := X157.specialBack hx (y := (⟨"java/lang/String", "<init>", "([C)V"⟩ : MethodName)) rfl hown (mvT hZ (hw _ (List.mem_of_getElem? (i := 9) rfl))) (mvT hZ (hw _ (List.mem_of_getElem? (i := 10) rfl))) (mvT hZ (hw _ (List.mem_of_getElem? (i := 11) rfl))) (by decide) (own_new (W := 1) hZ hw g_b157 Zs E_b157 F_value_b157 F_coder_b157 (cs := (([(nar .char (115 : Int32)), (nar .char (110 : Int32)), (nar .char (97 : Int32)), (nar .char (112 : Int32)), (nar .char (115 : Int32)), (nar .char (104 : Int32)), (nar .char (111 : Int32)), (nar .char (116 : Int32)), (nar .char p4)] : List Int32).set ((p2 &&& (2147483647 : Int32)) % (9 : Int32)).toNatClampNeg (nar .char p5))) (n := 9) V_b131 (Sta.ext Ol.2 S_COMPACT_STRINGS) hzc (by rw [List.length_set]; rfl) rfl (by decide) (by decide) (own_set (alIS (by decide) (alIS (by decide) (alIS (by decide) (alIS (by decide) (alIS (by decide) (alIS (by decide) (alIS (by decide) (alIS (by decide) (alIS hc alI0))))))))) hd) (by decide) (by decide)) (g := (mkF m 587 #[.val (.int p1), .val (.int p2), .val (.int p3), .val (.int p4), .val (.int p5), .val (.ref b131)] [(.ref b131), (.ref b157), (.ref b157)])) rfl (by rw [hml]; rfl) (Steps.refl _) (a := b157) (argsL := [(.ref b131)]) (rest := [(.ref b157)]) (lenOf pd_1 rfl) rfl (by show 2 * 0 + _ ≤ _; exact Nat.le_of_eq rfl) (hb hby d1_587) (fun _ _ => ⟨rfl, e157, (by decide : 2 + 1 ≤ _), (by decide : 13 + 9 ≤ _)⟩)
              dsimp only [Pt.U, Pt.locs, Pt.cells, Pt.slots] at X158 l158 y158 z158 st158 hQ158
              subst l158 y158 z158
              obtain ⟨rfl, N158q, K158, T158x⟩ := hQ158
              have Hd : CHr Z ELs s.vm h0 s.vm T158.heap := Hc.trans (CHr.keep K158 (allS (Sf_b157 : Safe Z ELs s.vm _ b157) all0) Hc.1)
              have Sg_b157 : Safe Z ELs s.vm T158.heap b157 := Safe.keep K158 (allS (Sf_b157 : Safe Z ELs s.vm _ b157) all0) Hc.1 Sf_b157
              have Sf_b157 := Sg_b157
              have Hc := Hd
              have Zs : n0 ≤ T158.heap.size := Nat.le_trans Zs K158.1
              have Ol : Old Z n0 T158.heap := Ol.keep K158 (allS g_b157 all0)
              have Kp : Keep h0 T158.heap [] := Kp.trans K158 (allS (Or.inr sz_b157) all0)
              have E_b131 : Exa Z T158.heap b131 "[C" := E_b131.keep K158
              have E_b157 : Exa Z T158.heap b157 "java/lang/String" := E_b157.keep K158
              have T_b157 : Stx Z T158.heap b157 (([(nar .char (115 : Int32)), (nar .char (110 : Int32)), (nar .char (97 : Int32)), (nar .char (112 : Int32)), (nar .char (115 : Int32)), (nar .char (104 : Int32)), (nar .char (111 : Int32)), (nar .char (116 : Int32)), (nar .char p4)] : List Int32).set ((p2 &&& (2147483647 : Int32)) % (9 : Int32)).toNatClampNeg (nar .char p5)) := T158x
              have N158 := Fr.app N156 N158q
              obtain ⟨fs, hr, hrun, hended, hRW⟩ := X158.leaveW (s := s) (vm₁ := s.vm) ((State.WarmedH.refl s).since 0) (Nat.zero_le _) (v := some (.ref b157)) (fun h => by rw [Bd.returns] at h; cases h)
              have hCR : CHr Z ELs s.vm h0 T158.vm T158.heap := Hc.trans (CHv.at X158 hZ hEL Hc.1)
              refine ⟨_, _, pre150 _ ?_, hrun, hended, _, _, rfl, ?_, (by rw [hh]; show CHr Z ELs s.vm h0 T158.vm T158.heap; exact hCR), ⟨hRW.1, hRW.2.1, hRW.2.2.1, hRW.2.2.2.mono (by decide) (by decide)⟩⟩
              · show Steps p.tables e below (T149.setTop (mkF m 559 #[.val (.int p1), .val (.int p2), .val (.int p3), .val (.int p4), .val (.int p5), .val (.ref b131)] [(.int p3)])) _
                refine XS.ifNo X149.here hx rfl (hb hby d1_559) rfl ((if0 _ _).trans (feq hc559).1) ?_
                show Steps p.tables e below (T149.setTop (mkF m 562 #[.val (.int p1), .val (.int p2), .val (.int p3), .val (.int p4), .val (.int p5), .val (.ref b131)] [])) _
                refine XS.aload X149.here hx rfl (hb hby d1_562) rfl rfl ?_
                show Steps p.tables e below (T149.setTop (mkF m 564 #[.val (.int p1), .val (.int p2), .val (.int p3), .val (.int p4), .val (.int p5), .val (.ref b131)] [(.ref b131)])) _
                refine X149.arraylength hx (by rw [e149]; exact Ar153.1) ia153 (g := (mkF m 564 #[.val (.int p1), .val (.int p2), .val (.int p3), .val (.int p4), .val (.int p5), .val (.ref b131)] [(.ref b131)])) rfl rfl (hb hby d1_564) _ ?_
                rw [hl153]
                show Steps p.tables e below (T149.setTop (mkF m 565 #[.val (.int p1), .val (.int p2), .val (.int p3), .val (.int p4), .val (.int p5), .val (.ref b131)] [(.int (9 : Int32))])) _
                refine XS.ifNo X149.here hx rfl (hb hby d1_565) rfl ((if0 _ _).trans (tlt (by decide)).2.2.2) ?_
                show Steps p.tables e below (T149.setTop (mkF m 568 #[.val (.int p1), .val (.int p2), .val (.int p3), .val (.int p4), .val (.int p5), .val (.ref b131)] [])) _
                refine XS.aload X149.here hx rfl (hb hby d1_568) rfl rfl ?_
                show Steps p.tables e below (T149.setTop (mkF m 570 #[.val (.int p1), .val (.int p2), .val (.int p3), .val (.int p4), .val (.int p5), .val (.ref b131)] [(.ref b131)])) _
                refine XS.iloadN X149.here hx rfl (hb hby d1_570) rfl ?_
                show Steps p.tables e below (T149.setTop (mkF m 571 #[.val (.int p1), .val (.int p2), .val (.int p3), .val (.int p4), .val (.int p5), .val (.ref b131)] [(.int p2), (.ref b131)])) _
                refine X149.ldcInt hx hown (mvT hZ (hw _ (List.mem_of_getElem? (i := 0) rfl))) (g := (mkF m 571 #[.val (.int p1), .val (.int p2), .val (.int p3), .val (.int p4), .val (.int p5), .val (.ref b131)] [(.int p2), (.ref b131)])) rfl (hb hby d1_571) _ ?_
                show Steps p.tables e below (T149.setTop (mkF m 573 #[.val (.int p1), .val (.int p2), .val (.int p3), .val (.int p4), .val (.int p5), .val (.ref b131)] [(.int (2147483647 : Int32)), (.int p2), (.ref b131)])) _
                refine XS.iand X149.here hx rfl (hb hby d1_573) rfl ?_
                show Steps p.tables e below (T149.setTop (mkF m 574 #[.val (.int p1), .val (.int p2), .val (.int p3), .val (.int p4), .val (.int p5), .val (.ref b131)] [(.int (p2 &&& (2147483647 : Int32))), (.ref b131)])) _
                refine XS.aload X149.here hx rfl (hb hby d1_574) rfl rfl ?_
                show Steps p.tables e below (T149.setTop (mkF m 576 #[.val (.int p1), .val (.int p2), .val (.int p3), .val (.int p4), .val (.int p5), .val (.ref b131)] [(.ref b131), (.int (p2 &&& (2147483647 : Int32))), (.ref b131)])) _
                refine X149.arraylength hx (by rw [e149]; exact Ar154.1) ia154 (g := (mkF m 576 #[.val (.int p1), .val (.int p2), .val (.int p3), .val (.int p4), .val (.int p5), .val (.ref b131)] [(.ref b131), (.int (p2 &&& (2147483647 : Int32))), (.ref b131)])) rfl rfl (hb hby d1_576) _ ?_
                rw [hl154]
                show Steps p.tables e below (T149.setTop (mkF m 577 #[.val (.int p1), .val (.int p2), .val (.int p3), .val (.int p4), .val (.int p5), .val (.ref b131)] [(.int (9 : Int32)), (.int (p2 &&& (2147483647 : Int32))), (.ref b131)])) _
                refine iremM X149 hx rfl (hb hby d1_577) rfl (by decide) ?_
                show Steps p.tables e below (T149.setTop (mkF m 578 #[.val (.int p1), .val (.int p2), .val (.int p3), .val (.int p4), .val (.int p5), .val (.ref b131)] [(.int ((p2 &&& (2147483647 : Int32)) % (9 : Int32))), (.ref b131)])) _
                refine XS.iload X149.here hx rfl (hb hby d1_578) rfl ?_
                show Steps p.tables e below (T149.setTop (mkF m 580 #[.val (.int p1), .val (.int p2), .val (.int p3), .val (.int p4), .val (.int p5), .val (.ref b131)] [(.int p5), (.int ((p2 &&& (2147483647 : Int32)) % (9 : Int32))), (.ref b131)])) _
                refine st156 _ ?_
                show Steps p.tables e below (T156.setTop (mkF m 581 #[.val (.int p1), .val (.int p2), .val (.int p3), .val (.int p4), .val (.int p5), .val (.ref b131)] [])) _
                refine st157 _ ?_
                show Steps p.tables e below (T157.setTop (mkF m 584 #[.val (.int p1), .val (.int p2), .val (.int p3), .val (.int p4), .val (.int p5), .val (.ref b131)] [(.ref b157)])) _
                refine XS.dup X157.here hx rfl (hb hby d1_584) rfl rfl ?_
                show Steps p.tables e below (T157.setTop (mkF m 585 #[.val (.int p1), .val (.int p2), .val (.int p3), .val (.int p4), .val (.int p5), .val (.ref b131)] [(.ref b157), (.ref b157)])) _
                refine XS.aload X157.here hx rfl (hb hby d1_585) rfl rfl ?_
                show Steps p.tables e below (T157.setTop (mkF m 587 #[.val (.int p1), .val (.int p2), .val (.int p3), .val (.int p4), .val (.int p5), .val (.ref b131)] [(.ref b131), (.ref b157), (.ref b157)])) _
                refine st158.trans ?_
                show Steps p.tables e below (T158.setTop (mkF m 590 #[.val (.int p1), .val (.int p2), .val (.int p3), .val (.int p4), .val (.int p5), .val (.ref b131)] [(.ref b157)])) _
                exact retOut X158 hx Bd.returns rfl (Or.inr (Or.inr (Or.inr (Or.inr ⟨rfl, rfl, rfl⟩)))) (hb hby d1_590) hr
              · show QB Z p1 p2 p3 p4 p5 zc h0 n0 _ T158.heap _
                exact ⟨b157, (([(nar .char (115 : Int32)), (nar .char (110 : Int32)), (nar .char (97 : Int32)), (nar .char (112 : Int32)), (nar .char (115 : Int32)), (nar .char (104 : Int32)), (nar .char (111 : Int32)), (nar .char (116 : Int32)), (nar .char p4)] : List Int32).set ((p2 &&& (2147483647 : Int32)) % (9 : Int32)).toNatClampNeg (nar .char p5)), rfl, N158, Kp, E_b157, T_b157⟩
          ·
            have pre159 : ∀ t, Steps p.tables e below (s₁.setTop (mkF m 329 #[.val (.int p1), .val (.int p2), .val (.int p3), .val (.int p4), .val (.int p5), .unset] [(.int (5 : Int32)), (.int p1)])) t → Steps p.tables e below (s₁.setTop (entryFrame m #[(.int p1), (.int p2), (.int p3), (.int p4), (.int p5)] 6)) t := fun t k => pre130 t (by
              show Steps p.tables e below (s₁.setTop (mkF m 268 #[.val (.int p1), .val (.int p2), .val (.int p3), .val (.int p4), .val (.int p5), .unset] [(.int (4 : Int32)), (.int p1)])) _
              refine XS.icmpYes X0.here hx rfl (pc0 := 268) (pc' := 327) rfl (hb hby d1_268) rfl (feq hc268).2 (by decide) (by decide) ?_
              show Steps p.tables e below (s₁.setTop (mkF m 327 #[.val (.int p1), .val (.int p2), .val (.int p3), .val (.int p4), .val (.int p5), .unset] [])) _
              refine XS.iloadN X0.here hx rfl (hb hby d1_327) rfl ?_
              show Steps p.tables e below (s₁.setTop (mkF m 328 #[.val (.int p1), .val (.int p2), .val (.int p3), .val (.int p4), .val (.int p5), .unset] [(.int p1)])) _
              refine XS.iconst X0.here hx rfl (hb hby d1_328) ?_
              exact k)
            by_cases hc329 : p1 = (5 : Int32)
            ·
              obtain ⟨T160, h160, k160, X160, e160, E160, A160, B160, st160⟩ := newPE X0 hx hZ (hw _ (List.mem_of_getElem? (i := 5) rfl)) e0 (g := (mkF m 334 #[.val (.int p1), .val (.int p2), .val (.int p3), .val (.int p4), .val (.int p5), .unset] [(.int (6 : Int32))])) rfl (hb hby d1_334) rfl (by decide) (cap := 6) (by decide) (by decide) (by decide) (by decide) (ad := "[C") (by decide)
              obtain ⟨b160, g160⟩ : ∃ z, z = h0.size := ⟨_, rfl⟩
              rw [← g160] at A160 B160 st160
              have g_b160 : n0 ≤ b160 := Nat.le_trans Zs (Nat.le_of_eq g160.symm)
              have sz_b160 : h0.size ≤ b160 := Nat.le_trans Kp.1 (Nat.le_of_eq g160.symm)
              have Hd : CHr Z ELs s.vm h0 s.vm h160 := Hc.trans (CHr.ext E160 Hc.1)
              have Hc := Hd
              have Zs : n0 ≤ h160.size := Nat.le_trans Zs E160.1
              have Ol : Old Z n0 h160 := Ol.ext E160
              have Kp : Keep h0 h160 [] := Kp.ext E160
              have E_b160 : Exa Z h160 b160 "[C" := B160
              have V_b160 : Arv Z h160 b160 k160 .char (6 : Int32) [(.int (0 : Int32)), (.int (0 : Int32)), (.int (0 : Int32)), (.int (0 : Int32)), (.int (0 : Int32)), (.int (0 : Int32))] (.int (0 : Int32)) := (Arv.new A160 (by decide)).pad (pad_rep [] (.int (0 : Int32)) 6)
              obtain ⟨cl161, Ar161, q161, S161, M161, H161, G161⟩ := V_b160
              obtain ⟨T162, h162, X162, e162, W162, st162⟩ := stC X160 hx hZ e160 Ar161 (j := (0 : Int32)) (inb_of S161 (by decide)) (g := (mkF m 340 #[.val (.int p1), .val (.int p2), .val (.int p3), .val (.int p4), .val (.int p5), .unset] [(.int (100 : Int32)), (.int (0 : Int32)), (.ref b160), (.ref b160)])) rfl rfl (hb hby d1_340)
              have N162 := Fr.snoc X162 N0 g_b160
              have Sw := ((Safe.exa hZ.alike E_b160 (by decide) (by decide)) : Safe Z ELs s.vm _ b160)
              have Hd : CHr Z ELs s.vm h0 s.vm h162 := Hc.trans (CHr.wr W162 Sw Hc.1)
              have Hc := Hd
              have Zs : n0 ≤ h162.size := Nat.le_trans Zs (Keep.of_wr W162).1
              have Ol : Old Z n0 h162 := Ol.wr W162 g_b160
              have Kp : Keep h0 h162 [] := Kp.wr W162 (Or.inr sz_b160)
              have E_b160 : Exa Z h162 b160 "[C" := E_b160.wr W162
              have V_b160 : Arv Z h162 b160 k160 .char (6 : Int32) [(.int (nar .char (100 : Int32))), (.int (0 : Int32)), (.int (0 : Int32)), (.int (0 : Int32)), (.int (0 : Int32)), (.int (0 : Int32))] (.int (0 : Int32)) := Arv.set Ar161 q161 S161 M161 H161 G161 (fits_nar_char _) W162 0 rfl (Nat.le_of_ble_eq_true rfl)
              obtain ⟨cl163, Ar163, q163, S163, M163, H163, G163⟩ := V_b160
              obtain ⟨T164, h164, X164, e164, W164, st164⟩ := stC X162 hx hZ e162 Ar163 (j := (1 : Int32)) (inb_of S163 (by decide)) (g := (mkF m 345 #[.val (.int p1), .val (.int p2), .val (.int p3), .val (.int p4), .val (.int p5), .unset] [(.int (101 : Int32)), (.int (1 : Int32)), (.ref b160), (.ref b160)])) rfl rfl (hb hby d1_345)
              have N164 := Fr.snoc X164 N162 g_b160
              have Sw := ((Safe.exa hZ.alike E_b160 (by decide) (by decide)) : Safe Z ELs s.vm _ b160)
              have Hd : CHr Z ELs s.vm h0 s.vm h164 := Hc.trans (CHr.wr W164 Sw Hc.1)
              have Hc := Hd
              have Zs : n0 ≤ h164.size := Nat.le_trans Zs (Keep.of_wr W164).1
              have Ol : Old Z n0 h164 := Ol.wr W164 g_b160
              have Kp : Keep h0 h164 [] := Kp.wr W164 (Or.inr sz_b160)
              have E_b160 : Exa Z h164 b160 "[C" := E_b160.wr W164
              have V_b160 : Arv Z h164 b160 k160 .char (6 : Int32) [(.int (nar .char (100 : Int32))), (.int (nar .char (101 : Int32))), (.int (0 : Int32)), (.int (0 : Int32)), (.int (0 : Int32)), (.int (0 : Int32))] (.int (0 : Int32)) := Arv.set Ar163 q163 S163 M163 H163 G163 (fits_nar_char _) W164 1 rfl (Nat.le_of_ble_eq_true rfl)
              obtain ⟨cl165, Ar165, q165, S165, M165, H165, G165⟩ := V_b160
              obtain ⟨T166, h166, X166, e166, W166, st166⟩ := stC X164 hx hZ e164 Ar165 (j := (2 : Int32)) (inb_of S165 (by decide)) (g := (mkF m 350 #[.val (.int p1), .val (.int p2), .val (.int p3), .val (.int p4), .val (.int p5), .unset] [(.int (108 : Int32)), (.int (2 : Int32)), (.ref b160), (.ref b160)])) rfl rfl (hb hby d1_350)
              have N166 := Fr.snoc X166 N164 g_b160
              have Sw := ((Safe.exa hZ.alike E_b160 (by decide) (by decide)) : Safe Z ELs s.vm _ b160)
              have Hd : CHr Z ELs s.vm h0 s.vm h166 := Hc.trans (CHr.wr W166 Sw Hc.1)
              have Hc := Hd
              have Zs : n0 ≤ h166.size := Nat.le_trans Zs (Keep.of_wr W166).1
              have Ol : Old Z n0 h166 := Ol.wr W166 g_b160
              have Kp : Keep h0 h166 [] := Kp.wr W166 (Or.inr sz_b160)
              have E_b160 : Exa Z h166 b160 "[C" := E_b160.wr W166
              have V_b160 : Arv Z h166 b160 k160 .char (6 : Int32) [(.int (nar .char (100 : Int32))), (.int (nar .char (101 : Int32))), (.int (nar .char (108 : Int32))), (.int (0 : Int32)), (.int (0 : Int32)), (.int (0 : Int32))] (.int (0 : Int32)) := Arv.set Ar165 q165 S165 M165 H165 G165 (fits_nar_char _) W166 2 rfl (Nat.le_of_ble_eq_true rfl)
              obtain ⟨cl167, Ar167, q167, S167, M167, H167, G167⟩ := V_b160
              obtain ⟨T168, h168, X168, e168, W168, st168⟩ := stC X166 hx hZ e166 Ar167 (j := (3 : Int32)) (inb_of S167 (by decide)) (g := (mkF m 355 #[.val (.int p1), .val (.int p2), .val (.int p3), .val (.int p4), .val (.int p5), .unset] [(.int (116 : Int32)), (.int (3 : Int32)), (.ref b160), (.ref b160)])) rfl rfl (hb hby d1_355)
              have N168 := Fr.snoc X168 N166 g_b160
              have Sw := ((Safe.exa hZ.alike E_b160 (by decide) (by decide)) : Safe Z ELs s.vm _ b160)
              have Hd : CHr Z ELs s.vm h0 s.vm h168 := Hc.trans (CHr.wr W168 Sw Hc.1)
              have Hc := Hd
              have Zs : n0 ≤ h168.size := Nat.le_trans Zs (Keep.of_wr W168).1
              have Ol : Old Z n0 h168 := Ol.wr W168 g_b160
              have Kp : Keep h0 h168 [] := Kp.wr W168 (Or.inr sz_b160)
              have E_b160 : Exa Z h168 b160 "[C" := E_b160.wr W168
              have V_b160 : Arv Z h168 b160 k160 .char (6 : Int32) [(.int (nar .char (100 : Int32))), (.int (nar .char (101 : Int32))), (.int (nar .char (108 : Int32))), (.int (nar .char (116 : Int32))), (.int (0 : Int32)), (.int (0 : Int32))] (.int (0 : Int32)) := Arv.set Ar167 q167 S167 M167 H167 G167 (fits_nar_char _) W168 3 rfl (Nat.le_of_ble_eq_true rfl)
              obtain ⟨cl169, Ar169, q169, S169, M169, H169, G169⟩ := V_b160
              obtain ⟨T170, h170, X170, e170, W170, st170⟩ := stC X168 hx hZ e168 Ar169 (j := (4 : Int32)) (inb_of S169 (by decide)) (g := (mkF m 360 #[.val (.int p1), .val (.int p2), .val (.int p3), .val (.int p4), .val (.int p5), .unset] [(.int (97 : Int32)), (.int (4 : Int32)), (.ref b160), (.ref b160)])) rfl rfl (hb hby d1_360)
              have N170 := Fr.snoc X170 N168 g_b160
              have Sw := ((Safe.exa hZ.alike E_b160 (by decide) (by decide)) : Safe Z ELs s.vm _ b160)
              have Hd : CHr Z ELs s.vm h0 s.vm h170 := Hc.trans (CHr.wr W170 Sw Hc.1)
              have Hc := Hd
              have Zs : n0 ≤ h170.size := Nat.le_trans Zs (Keep.of_wr W170).1
              have Ol : Old Z n0 h170 := Ol.wr W170 g_b160
              have Kp : Keep h0 h170 [] := Kp.wr W170 (Or.inr sz_b160)
              have E_b160 : Exa Z h170 b160 "[C" := E_b160.wr W170
              have V_b160 : Arv Z h170 b160 k160 .char (6 : Int32) [(.int (nar .char (100 : Int32))), (.int (nar .char (101 : Int32))), (.int (nar .char (108 : Int32))), (.int (nar .char (116 : Int32))), (.int (nar .char (97 : Int32))), (.int (0 : Int32))] (.int (0 : Int32)) := Arv.set Ar169 q169 S169 M169 H169 G169 (fits_nar_char _) W170 4 rfl (Nat.le_of_ble_eq_true rfl)
              obtain ⟨cl171, Ar171, q171, S171, M171, H171, G171⟩ := V_b160
              obtain ⟨T172, h172, X172, e172, W172, st172⟩ := stC X170 hx hZ e170 Ar171 (j := (5 : Int32)) (inb_of S171 (by decide)) (g := (mkF m 364 #[.val (.int p1), .val (.int p2), .val (.int p3), .val (.int p4), .val (.int p5), .unset] [(.int p4), (.int (5 : Int32)), (.ref b160), (.ref b160)])) rfl rfl (hb hby d1_364)
              have N172 := Fr.snoc X172 N170 g_b160
              have Sw := ((Safe.exa hZ.alike E_b160 (by decide) (by decide)) : Safe Z ELs s.vm _ b160)
              have Hd : CHr Z ELs s.vm h0 s.vm h172 := Hc.trans (CHr.wr W172 Sw Hc.1)
              have Hc := Hd
              have Zs : n0 ≤ h172.size := Nat.le_trans Zs (Keep.of_wr W172).1
              have Ol : Old Z n0 h172 := Ol.wr W172 g_b160
              have Kp : Keep h0 h172 [] := Kp.wr W172 (Or.inr sz_b160)
              have E_b160 : Exa Z h172 b160 "[C" := E_b160.wr W172
              have V_b160 : Arv Z h172 b160 k160 .char (6 : Int32) [(.int (nar .char (100 : Int32))), (.int (nar .char (101 : Int32))), (.int (nar .char (108 : Int32))), (.int (nar .char (116 : Int32))), (.int (nar .char (97 : Int32))), (.int (nar .char p4))] (.int (0 : Int32)) := Arv.set Ar171 q171 S171 M171 H171 G171 (fits_nar_char _) W172 5 rfl (Nat.le_of_ble_eq_true rfl)
              have pre173 : ∀ t, Steps p.tables e below (T172.setTop (mkF m 559 #[.val (.int p1), .val (.int p2), .val (.int p3), .val (.int p4), .val (.int p5), .val (.ref b160)] [(.int p3)])) t → Steps p.tables e below (s₁.setTop (entryFrame m #[(.int p1), (.int p2), (.int p3), (.int p4), (.int p5)] 6)) t := fun t k => pre159 t (by
                show Steps p.tables e below (s₁.setTop (mkF m 329 #[.val (.int p1), .val (.int p2), .val (.int p3), .val (.int p4), .val (.int p5), .unset] [(.int (5 : Int32)), (.int p1)])) _
                refine XS.icmpNo X0.here hx rfl (hb hby d1_329) rfl (teq hc329).2 ?_
                show Steps p.tables e below (s₁.setTop (mkF m 332 #[.val (.int p1), .val (.int p2), .val (.int p3), .val (.int p4), .val (.int p5), .unset] [])) _
                refine XS.bipush X0.here hx rfl (hb hby d1_332) ?_
                show Steps p.tables e below (s₁.setTop (mkF m 334 #[.val (.int p1), .val (.int p2), .val (.int p3), .val (.int p4), .val (.int p5), .unset] [(.int (6 : Int32))])) _
                refine st160 _ ?_
                show Steps p.tables e below (T160.setTop (mkF m 336 #[.val (.int p1), .val (.int p2), .val (.int p3), .val (.int p4), .val (.int p5), .unset] [(.ref b160)])) _
                refine XS.dup X160.here hx rfl (hb hby d1_336) rfl rfl ?_
                show Steps p.tables e below (T160.setTop (mkF m 337 #[.val (.int p1), .val (.int p2), .val (.int p3), .val (.int p4), .val (.int p5), .unset] [(.ref b160), (.ref b160)])) _
                refine XS.iconst X160.here hx rfl (hb hby d1_337) ?_
                show Steps p.tables e below (T160.setTop (mkF m 338 #[.val (.int p1), .val (.int p2), .val (.int p3), .val (.int p4), .val (.int p5), .unset] [(.int (0 : Int32)), (.ref b160), (.ref b160)])) _
                refine XS.bipush X160.here hx rfl (hb hby d1_338) ?_
                show Steps p.tables e below (T160.setTop (mkF m 340 #[.val (.int p1), .val (.int p2), .val (.int p3), .val (.int p4), .val (.int p5), .unset] [(.int (100 : Int32)), (.int (0 : Int32)), (.ref b160), (.ref b160)])) _
                refine st162 _ ?_
                show Steps p.tables e below (T162.setTop (mkF m 341 #[.val (.int p1), .val (.int p2), .val (.int p3), .val (.int p4), .val (.int p5), .unset] [(.ref b160)])) _
                refine XS.dup X162.here hx rfl (hb hby d1_341) rfl rfl ?_
                show Steps p.tables e below (T162.setTop (mkF m 342 #[.val (.int p1), .val (.int p2), .val (.int p3), .val (.int p4), .val (.int p5), .unset] [(.ref b160), (.ref b160)])) _
                refine XS.iconst X162.here hx rfl (hb hby d1_342) ?_
                show Steps p.tables e below (T162.setTop (mkF m 343 #[.val (.int p1), .val (.int p2), .val (.int p3), .val (.int p4), .val (.int p5), .unset] [(.int (1 : Int32)), (.ref b160), (.ref b160)])) _
                refine XS.bipush X162.here hx rfl (hb hby d1_343) ?_
                show Steps p.tables e below (T162.setTop (mkF m 345 #[.val (.int p1), .val (.int p2), .val (.int p3), .val (.int p4), .val (.int p5), .unset] [(.int (101 : Int32)), (.int (1 : Int32)), (.ref b160), (.ref b160)])) _
                refine st164 _ ?_
                show Steps p.tables e below (T164.setTop (mkF m 346 #[.val (.int p1), .val (.int p2), .val (.int p3), .val (.int p4), .val (.int p5), .unset] [(.ref b160)])) _
                refine XS.dup X164.here hx rfl (hb hby d1_346) rfl rfl ?_
                show Steps p.tables e below (T164.setTop (mkF m 347 #[.val (.int p1), .val (.int p2), .val (.int p3), .val (.int p4), .val (.int p5), .unset] [(.ref b160), (.ref b160)])) _
                refine XS.iconst X164.here hx rfl (hb hby d1_347) ?_
                show Steps p.tables e below (T164.setTop (mkF m 348 #[.val (.int p1), .val (.int p2), .val (.int p3), .val (.int p4), .val (.int p5), .unset] [(.int (2 : Int32)), (.ref b160), (.ref b160)])) _
                refine XS.bipush X164.here hx rfl (hb hby d1_348) ?_
                show Steps p.tables e below (T164.setTop (mkF m 350 #[.val (.int p1), .val (.int p2), .val (.int p3), .val (.int p4), .val (.int p5), .unset] [(.int (108 : Int32)), (.int (2 : Int32)), (.ref b160), (.ref b160)])) _
                refine st166 _ ?_
                show Steps p.tables e below (T166.setTop (mkF m 351 #[.val (.int p1), .val (.int p2), .val (.int p3), .val (.int p4), .val (.int p5), .unset] [(.ref b160)])) _
                refine XS.dup X166.here hx rfl (hb hby d1_351) rfl rfl ?_
                show Steps p.tables e below (T166.setTop (mkF m 352 #[.val (.int p1), .val (.int p2), .val (.int p3), .val (.int p4), .val (.int p5), .unset] [(.ref b160), (.ref b160)])) _
                refine XS.iconst X166.here hx rfl (hb hby d1_352) ?_
                show Steps p.tables e below (T166.setTop (mkF m 353 #[.val (.int p1), .val (.int p2), .val (.int p3), .val (.int p4), .val (.int p5), .unset] [(.int (3 : Int32)), (.ref b160), (.ref b160)])) _
                refine XS.bipush X166.here hx rfl (hb hby d1_353) ?_
                show Steps p.tables e below (T166.setTop (mkF m 355 #[.val (.int p1), .val (.int p2), .val (.int p3), .val (.int p4), .val (.int p5), .unset] [(.int (116 : Int32)), (.int (3 : Int32)), (.ref b160), (.ref b160)])) _
                refine st168 _ ?_
                show Steps p.tables e below (T168.setTop (mkF m 356 #[.val (.int p1), .val (.int p2), .val (.int p3), .val (.int p4), .val (.int p5), .unset] [(.ref b160)])) _
                refine XS.dup X168.here hx rfl (hb hby d1_356) rfl rfl ?_
                show Steps p.tables e below (T168.setTop (mkF m 357 #[.val (.int p1), .val (.int p2), .val (.int p3), .val (.int p4), .val (.int p5), .unset] [(.ref b160), (.ref b160)])) _
                refine XS.iconst X168.here hx rfl (hb hby d1_357) ?_
                show Steps p.tables e below (T168.setTop (mkF m 358 #[.val (.int p1), .val (.int p2), .val (.int p3), .val (.int p4), .val (.int p5), .unset] [(.int (4 : Int32)), (.ref b160), (.ref b160)])) _
                refine XS.bipush X168.here hx rfl (hb hby d1_358) ?_
                show Steps p.tables e below (T168.setTop (mkF m 360 #[.val (.int p1), .val (.int p2), .val (.int p3), .val (.int p4), .val (.int p5), .unset] [(.int (97 : Int32)), (.int (4 : Int32)), (.ref b160), (.ref b160)])) _
                refine st170 _ ?_
                show Steps p.tables e below (T170.setTop (mkF m 361 #[.val (.int p1), .val (.int p2), .val (.int p3), .val (.int p4), .val (.int p5), .unset] [(.ref b160)])) _
                refine XS.dup X170.here hx rfl (hb hby d1_361) rfl rfl ?_
                show Steps p.tables e below (T170.setTop (mkF m 362 #[.val (.int p1), .val (.int p2), .val (.int p3), .val (.int p4), .val (.int p5), .unset] [(.ref b160), (.ref b160)])) _
                refine XS.iconst X170.here hx rfl (hb hby d1_362) ?_
                show Steps p.tables e below (T170.setTop (mkF m 363 #[.val (.int p1), .val (.int p2), .val (.int p3), .val (.int p4), .val (.int p5), .unset] [(.int (5 : Int32)), (.ref b160), (.ref b160)])) _
                refine XS.iloadN X170.here hx rfl (hb hby d1_363) rfl ?_
                show Steps p.tables e below (T170.setTop (mkF m 364 #[.val (.int p1), .val (.int p2), .val (.int p3), .val (.int p4), .val (.int p5), .unset] [(.int p4), (.int (5 : Int32)), (.ref b160), (.ref b160)])) _
                refine st172 _ ?_
                show Steps p.tables e below (T172.setTop (mkF m 365 #[.val (.int p1), .val (.int p2), .val (.int p3), .val (.int p4), .val (.int p5), .unset] [(.ref b160)])) _
                refine XS.astore X172.here hx rfl (hb hby d1_365) rfl rfl (l' := #[.val (.int p1), .val (.int p2), .val (.int p3), .val (.int p4), .val (.int p5), .val (.ref b160)]) rfl ?_
                show Steps p.tables e below (T172.setTop (mkF m 367 #[.val (.int p1), .val (.int p2), .val (.int p3), .val (.int p4), .val (.int p5), .val (.ref b160)] [])) _
                refine XS.goto X172.here hx rfl (pc0 := 367) (pc' := 558) rfl (hb hby d1_367) (by decide) (by decide) ?_
                show Steps p.tables e below (T172.setTop (mkF m 558 #[.val (.int p1), .val (.int p2), .val (.int p3), .val (.int p4), .val (.int p5), .val (.ref b160)] [])) _
                refine XS.iloadN X172.here hx rfl (hb hby d1_558) rfl ?_
                exact k)
              by_cases hc559 : p3 = (0 : Int32)
              ·
                obtain ⟨T174, h174, X174, e174, E174, A174, D174, -, st174⟩ := newO X172 hx hZ hown (hw _ (List.mem_of_getElem? (i := 6) rfl)) (hw _ (List.mem_of_getElem? (i := 7) rfl)) (hw _ (List.mem_of_getElem? (i := 8) rfl)) e172 (g := (mkF m 581 #[.val (.int p1), .val (.int p2), .val (.int p3), .val (.int p4), .val (.int p5), .val (.ref b160)] [])) rfl (hb hby d1_581) (by decide) (by decide)
                obtain ⟨b174, g174⟩ : ∃ z, z = h172.size := ⟨_, rfl⟩
                rw [← g174] at A174 D174 st174
                have g_b174 : n0 ≤ b174 := Nat.le_trans Zs (Nat.le_of_eq g174.symm)
                have sz_b174 : h0.size ≤ b174 := Nat.le_trans Kp.1 (Nat.le_of_eq g174.symm)
                have ne_b160_b174 : b160 ≠ b174 := Nat.ne_of_lt (Nat.lt_of_lt_of_le E_b160.lt (Nat.le_of_eq g174.symm))
                have Sf_b174 : Safe Z ELs s.vm h172 b174 := Safe.new (Nat.le_of_eq g174.symm)
                have Hd : CHr Z ELs s.vm h0 s.vm h174 := Hc.trans (CHr.ext E174 Hc.1)
                have Sg_b174 : Safe Z ELs s.vm h174 b174 := Safe.ext E174 Hc.1 Sf_b174
                have Sf_b174 := Sg_b174
                have Hc := Hd
                have Zs : n0 ≤ h174.size := Nat.le_trans Zs E174.1
                have Ol : Old Z n0 h174 := Ol.ext E174
                have Kp : Keep h0 h174 [] := Kp.ext E174
                have E_b160 : Exa Z h174 b160 "[C" := E_b160.ext E174
                have V_b160 : Arv Z h174 b160 k160 .char (6 : Int32) [(.int (nar .char (100 : Int32))), (.int (nar .char (101 : Int32))), (.int (nar .char (108 : Int32))), (.int (nar .char (116 : Int32))), (.int (nar .char (97 : Int32))), (.int (nar .char p4))] (.int (0 : Int32)) := V_b160.ext E174
                have E_b174 : Exa Z h174 b174 "java/lang/String" := A174
                have F_coder_b174 : Fld Z h174 b174 "java/lang/String" "coder" "B" (.int (0 : Int32)) := D174 (Or.inr (hw _ (List.mem_of_getElem? (i := 32) rfl))) (ty := .byte) (by decide)
                have F_value_b174 : Fld Z h174 b174 "java/lang/String" "value" "[B" .null := D174 (Or.inr (hw _ (List.mem_of_getElem? (i := 34) rfl))) (ty := (.array .byte)) (by decide)
                obtain ⟨_, _, ⟨T175, L175, k175, n175⟩, -, X175, ⟨Lc175, hQ175, l175, y175, z175⟩, st175⟩ := X174.specialBack hx (y := (⟨"java/lang/String", "<init>", "([C)V"⟩ : MethodName)) rfl hown (mvT hZ (hw _ (List.mem_of_getElem? (i := 9) rfl))) (mvT hZ (hw _ (List.mem_of_getElem? (i := 10) rfl))) (mvT hZ (hw _ (List.mem_of_getElem? (i := 11) rfl))) (by decide) (own_new (W := 1) hZ hw g_b174 Zs E_b174 F_value_b174 F_coder_b174 (cs := [(nar .char (100 : Int32)), (nar .char (101 : Int32)), (nar .char (108 : Int32)), (nar .char (116 : Int32)), (nar .char (97 : Int32)), (nar .char p4)]) (n := 6) V_b160 (Sta.ext Ol.2 S_COMPACT_STRINGS) hzc rfl rfl (by decide) (by decide) (alIS (by decide) (alIS (by decide) (alIS (by decide) (alIS (by decide) (alIS (by decide) (alIS hc alI0)))))) (by decide) (by decide)) (g := (mkF m 587 #[.val (.int p1), .val (.int p2), .val (.int p3), .val (.int p4), .val (.int p5), .val (.ref b160)] [(.ref b160), (.ref b174), (.ref b174)])) rfl (by rw [hml]; rfl) (Steps.refl _) (a := b174) (argsL := [(.ref b160)]) (rest := [(.ref b174)]) (lenOf pd_1 rfl) rfl (by show 2 * 0 + _ ≤ _; exact Nat.le_of_eq rfl) (hb hby d1_587) (fun _ _ => ⟨rfl, e174, (by decide : 2 + 1 ≤ _), (by decide : 10 + 6 ≤ _)⟩)
                dsimp only [Pt.U, Pt.locs, Pt.cells, Pt.slots] at X175 l175 y175 z175 st175 hQ175
                subst l175 y175 z175
                obtain ⟨rfl, N175q, K175, T175x⟩ := hQ175
                have Hd : CHr Z ELs s.vm h0 s.vm T175.heap := Hc.trans (CHr.keep K175 (allS (Sf_b174 : Safe Z ELs s.vm _ b174) all0) Hc.1)
                have Sg_b174 : Safe Z ELs s.vm T175.heap b174 := Safe.keep K175 (allS (Sf_b174 : Safe Z ELs s.vm _ b174) all0) Hc.1 Sf_b174
                have Sf_b174 := Sg_b174
                have Hc := Hd
                have Zs : n0 ≤ T175.heap.size := Nat.le_trans Zs K175.1
                have Ol : Old Z n0 T175.heap := Ol.keep K175 (allS g_b174 all0)
                have Kp : Keep h0 T175.heap [] := Kp.trans K175 (allS (Or.inr sz_b174) all0)
                have E_b160 : Exa Z T175.heap b160 "[C" := E_b160.keep K175
                have E_b174 : Exa Z T175.heap b174 "java/lang/String" := E_b174.keep K175
                have T_b174 : Stx Z T175.heap b174 [(nar .char (100 : Int32)), (nar .char (101 : Int32)), (nar .char (108 : Int32)), (nar .char (116 : Int32)), (nar .char (97 : Int32)), (nar .char p4)] := T175x
                have N175 := Fr.app N172 N175q
                obtain ⟨fs, hr, hrun, hended, hRW⟩ := X175.leaveW (s := s) (vm₁ := s.vm) ((State.WarmedH.refl s).since 0) (Nat.zero_le _) (v := some (.ref b174)) (fun h => by rw [Bd.returns] at h; cases h)
                have hCR : CHr Z ELs s.vm h0 T175.vm T175.heap := Hc.trans (CHv.at X175 hZ hEL Hc.1)
                refine ⟨_, _, pre173 _ ?_, hrun, hended, _, _, rfl, ?_, (by rw [hh]; show CHr Z ELs s.vm h0 T175.vm T175.heap; exact hCR), ⟨hRW.1, hRW.2.1, hRW.2.2.1, hRW.2.2.2.mono (by decide) (by decide)⟩⟩
                · show Steps p.tables e below (T172.setTop (mkF m 559 #[.val (.int p1), .val (.int p2), .val (.int p3), .val (.int p4), .val (.int p5), .val (.ref b160)] [(.int p3)])) _
                  refine XS.ifYes X172.here hx rfl (pc0 := 559) (pc' := 581) rfl (hb hby d1_559) rfl ((if0 _ _).trans (teq hc559).1) (by decide) (by decide) ?_
                  show Steps p.tables e below (T172.setTop (mkF m 581 #[.val (.int p1), .val (.int p2), .val (.int p3), .val (.int p4), .val (.int p5), .val (.ref b160)] [])) _
                  refine st174 _ ?_
                  show Steps p.tables e below (T174.setTop (mkF m 584 #[.val (.int p1), .val (.int p2), .val (.int p3), .val (.int p4), .val (.int p5), .val (.ref b160)] [(.ref b174)])) _
                  refine XS.dup X174.here hx rfl (hb hby d1_584) rfl rfl ?_
                  show Steps p.tables e below (T174.setTop (mkF m 585 #[.val (.int p1), .val (.int p2), .val (.int p3), .val (.int p4), .val (.int p5), .val (.ref b160)] [(.ref b174), (.ref b174)])) _
                  refine XS.aload X174.here hx rfl (hb hby d1_585) rfl rfl ?_
                  show Steps p.tables e below (T174.setTop (mkF m 587 #[.val (.int p1), .val (.int p2), .val (.int p3), .val (.int p4), .val (.int p5), .val (.ref b160)] [(.ref b160), (.ref b174), (.ref b174)])) _
                  refine st175.trans ?_
                  show Steps p.tables e below (T175.setTop (mkF m 590 #[.val (.int p1), .val (.int p2), .val (.int p3), .val (.int p4), .val (.int p5), .val (.ref b160)] [(.ref b174)])) _
                  exact retOut X175 hx Bd.returns rfl (Or.inr (Or.inr (Or.inr (Or.inr ⟨rfl, rfl, rfl⟩)))) (hb hby d1_590) hr
                · show QB Z p1 p2 p3 p4 p5 zc h0 n0 _ T175.heap _
                  exact ⟨b174, [(nar .char (100 : Int32)), (nar .char (101 : Int32)), (nar .char (108 : Int32)), (nar .char (116 : Int32)), (nar .char (97 : Int32)), (nar .char p4)], rfl, N175, Kp, E_b174, T_b174⟩
              ·
                obtain ⟨cl176, Ar176, hl176⟩ := Arv.len V_b160 (by decide)
                have ia176 := State.isArrayOf_alike hZ.alike Ar176.2.1
                obtain ⟨cl177, Ar177, hl177⟩ := Arv.len V_b160 (by decide)
                have ia177 := State.isArrayOf_alike hZ.alike Ar177.2.1
                obtain ⟨cl178, Ar178, q178, S178, M178, H178, G178⟩ := V_b160
                obtain ⟨T179, h179, X179, e179, W179, st179⟩ := stC X172 hx hZ e172 Ar178 (j := ((p2 &&& (2147483647 : Int32)) % (6 : Int32))) (inb_of S178 (own_rem p2 (by decide))) (g := (mkF m 580 #[.val (.int p1), .val (.int p2), .val (.int p3), .val (.int p4), .val (.int p5), .val (.ref b160)] [(.int p5), (.int ((p2 &&& (2147483647 : Int32)) % (6 : Int32))), (.ref b160)])) rfl rfl (hb hby d1_580)
                have N179 := Fr.snoc X179 N172 g_b160
                have Sw := ((Safe.exa hZ.alike E_b160 (by decide) (by decide)) : Safe Z ELs s.vm _ b160)
                have Hd : CHr Z ELs s.vm h0 s.vm h179 := Hc.trans (CHr.wr W179 Sw Hc.1)
                have Hc := Hd
                have Zs : n0 ≤ h179.size := Nat.le_trans Zs (Keep.of_wr W179).1
                have Ol : Old Z n0 h179 := Ol.wr W179 g_b160
                have Kp : Keep h0 h179 [] := Kp.wr W179 (Or.inr sz_b160)
                have E_b160 : Exa Z h179 b160 "[C" := E_b160.wr W179
                have V_b160 : Arv Z h179 b160 k160 .char (6 : Int32) ((([(nar .char (100 : Int32)), (nar .char (101 : Int32)), (nar .char (108 : Int32)), (nar .char (116 : Int32)), (nar .char (97 : Int32)), (nar .char p4)] : List Int32).set ((p2 &&& (2147483647 : Int32)) % (6 : Int32)).toNatClampNeg (nar .char p5)).map Value.int) (.int (0 : Int32)) := by rw [List.map_set]; exact Arv.set Ar178 q178 S178 M178 H178 G178 (fits_nar_char _) W179 _ rfl (own_ix (own_rem p2 (by decide)) (Nat.le_of_eq rfl))
                obtain ⟨T180, h180, X180, e180, E180, A180, D180, -, st180⟩ := newO X179 hx hZ hown (hw _ (List.mem_of_getElem? (i := 6) rfl)) (hw _ (List.mem_of_getElem? (i := 7) rfl)) (hw _ (List.mem_of_getElem? (i := 8) rfl)) e179 (g := (mkF m 581 #[.val (.int p1), .val (.int p2), .val (.int p3), .val (.int p4), .val (.int p5), .val (.ref b160)] [])) rfl (hb hby d1_581) (by decide) (by decide)
                obtain ⟨b180, g180⟩ : ∃ z, z = h179.size := ⟨_, rfl⟩
                rw [← g180] at A180 D180 st180
                have g_b180 : n0 ≤ b180 := Nat.le_trans Zs (Nat.le_of_eq g180.symm)
                have sz_b180 : h0.size ≤ b180 := Nat.le_trans Kp.1 (Nat.le_of_eq g180.symm)
                have ne_b160_b180 : b160 ≠ b180 := Nat.ne_of_lt (Nat.lt_of_lt_of_le E_b160.lt (Nat.le_of_eq g180.symm))
                have Sf_b180 : Safe Z ELs s.vm h179 b180 := Safe.new (Nat.le_of_eq g180.symm)
                have Hd : CHr Z ELs s.vm h0 s.vm h180 := Hc.trans (CHr.ext E180 Hc.1)
                have Sg_b180 : Safe Z ELs s.vm h180 b180 := Safe.ext E180 Hc.1 Sf_b180
                have Sf_b180 := Sg_b180
                have Hc := Hd
                have Zs : n0 ≤ h180.size := Nat.le_trans Zs E180.1
                have Ol : Old Z n0 h180 := Ol.ext E180
                have Kp : Keep h0 h180 [] := Kp.ext E180
                have E_b160 : Exa Z h180 b160 "[C" := E_b160.ext E180
                have V_b160 : Arv Z h180 b160 k160 .char (6 : Int32) ((([(nar .char (100 : Int32)), (nar .char (101 : Int32)), (nar .char (108 : Int32)), (nar .char (116 : Int32)), (nar .char (97 : Int32)), (nar .char p4)] : List Int32).set ((p2 &&& (2147483647 : Int32)) % (6 : Int32)).toNatClampNeg (nar .char p5)).map Value.int) (.int (0 : Int32)) := V_b160.ext E180
                have E_b180 : Exa Z h180 b180 "java/lang/String" := A180
                have F_coder_b180 : Fld Z h180 b180 "java/lang/String" "coder" "B" (.int (0 : Int32)) := D180 (Or.inr (hw _ (List.mem_of_getElem? (i := 32) rfl))) (ty := .byte) (by decide)
                have F_value_b180 : Fld Z h180 b180 "java/lang/String" "value" "[B" .null := D180 (Or.inr (hw _ (List.mem_of_getElem? (i := 34) rfl))) (ty := (.array .byte)) (by decide)
                obtain ⟨_, _, ⟨T181, L181, k181, n181⟩, -, X181, ⟨Lc181, hQ181, l181, y181, z181⟩, st181⟩ := X180.specialBack hx (y := (⟨"java/lang/String", "<init>", "([C)V"⟩ : MethodName)) rfl hown (mvT hZ (hw _ (List.mem_of_getElem? (i := 9) rfl))) (mvT hZ (hw _ (List.mem_of_getElem? (i := 10) rfl))) (mvT hZ (hw _ (List.mem_of_getElem? (i := 11) rfl))) (by decide) (own_new (W := 1) hZ hw g_b180 Zs E_b180 F_value_b180 F_coder_b180 (cs := (([(nar .char (100 : Int32)), (nar .char (101 : Int32)), (nar .char (108 : Int32)), (nar .char (116 : Int32)), (nar .char (97 : Int32)), (nar .char p4)] : List Int32).set ((p2 &&& (2147483647 : Int32)) % (6 : Int32)).toNatClampNeg (nar .char p5))) (n := 6) V_b160 (Sta.ext Ol.2 S_COMPACT_STRINGS) hzc (by rw [List.length_set]; rfl) rfl (by decide) (by decide) (own_set (alIS (by decide) (alIS (by decide) (alIS (by decide) (alIS (by decide) (alIS (by decide) (alIS hc alI0)))))) hd) (by decide) (by decide)) (g := (mkF m 587 #[.val (.int p1), .val (.int p2), .val (.int p3), .val (.int p4), .val (.int p5), .val (.ref b160)] [(.ref b160), (.ref b180), (.ref b180)])) rfl (by rw [hml]; rfl) (Steps.refl _) (a := b180) (argsL := [(.ref b160)]) (rest := [(.ref b180)]) (lenOf pd_1 rfl) rfl (by show 2 * 0 + _ ≤ _; exact Nat.le_of_eq rfl) (hb hby d1_587) (fun _ _ => ⟨rfl, e180, (by decide : 2 + 1 ≤ _), (by decide : 10 + 6 ≤ _)⟩)
                dsimp only [Pt.U, Pt.locs, Pt.cells, Pt.slots] at X181 l181 y181 z181 st181 hQ181
                subst l181 y181 z181
                obtain ⟨rfl, N181q, K181, T181x⟩ := hQ181
                have Hd : CHr Z ELs s.vm h0 s.vm T181.heap := Hc.trans (CHr.keep K181 (allS (Sf_b180 : Safe Z ELs s.vm _ b180) all0) Hc.1)
                have Sg_b180 : Safe Z ELs s.vm T181.heap b180 := Safe.keep K181 (allS (Sf_b180 : Safe Z ELs s.vm _ b180) all0) Hc.1 Sf_b180
                have Sf_b180 := Sg_b180
                have Hc := Hd
                have Zs : n0 ≤ T181.heap.size := Nat.le_trans Zs K181.1
                have Ol : Old Z n0 T181.heap := Ol.keep K181 (allS g_b180 all0)
                have Kp : Keep h0 T181.heap [] := Kp.trans K181 (allS (Or.inr sz_b180) all0)
                have E_b160 : Exa Z T181.heap b160 "[C" := E_b160.keep K181
                have E_b180 : Exa Z T181.heap b180 "java/lang/String" := E_b180.keep K181
                have T_b180 : Stx Z T181.heap b180 (([(nar .char (100 : Int32)), (nar .char (101 : Int32)), (nar .char (108 : Int32)), (nar .char (116 : Int32)), (nar .char (97 : Int32)), (nar .char p4)] : List Int32).set ((p2 &&& (2147483647 : Int32)) % (6 : Int32)).toNatClampNeg (nar .char p5)) := T181x
                have N181 := Fr.app N179 N181q
                obtain ⟨fs, hr, hrun, hended, hRW⟩ := X181.leaveW (s := s) (vm₁ := s.vm) ((State.WarmedH.refl s).since 0) (Nat.zero_le _) (v := some (.ref b180)) (fun h => by rw [Bd.returns] at h; cases h)
                have hCR : CHr Z ELs s.vm h0 T181.vm T181.heap := Hc.trans (CHv.at X181 hZ hEL Hc.1)
                refine ⟨_, _, pre173 _ ?_, hrun, hended, _, _, rfl, ?_, (by rw [hh]; show CHr Z ELs s.vm h0 T181.vm T181.heap; exact hCR), ⟨hRW.1, hRW.2.1, hRW.2.2.1, hRW.2.2.2.mono (by decide) (by decide)⟩⟩
                · show Steps p.tables e below (T172.setTop (mkF m 559 #[.val (.int p1), .val (.int p2), .val (.int p3), .val (.int p4), .val (.int p5), .val (.ref b160)] [(.int p3)])) _
                  refine XS.ifNo X172.here hx rfl (hb hby d1_559) rfl ((if0 _ _).trans (feq hc559).1) ?_
                  show Steps p.tables e below (T172.setTop (mkF m 562 #[.val (.int p1), .val (.int p2), .val (.int p3), .val (.int p4), .val (.int p5), .val (.ref b160)] [])) _
                  refine XS.aload X172.here hx rfl (hb hby d1_562) rfl rfl ?_
                  show Steps p.tables e below (T172.setTop (mkF m 564 #[.val (.int p1), .val (.int p2), .val (.int p3), .val (.int p4), .val (.int p5), .val (.ref b160)] [(.ref b160)])) _
                  refine X172.arraylength hx (by rw [e172]; exact Ar176.1) ia176 (g := (mkF m 564 #[.val (.int p1), .val (.int p2), .val (.int p3), .val (.int p4), .val (.int p5), .val (.ref b160)] [(.ref b160)])) rfl rfl (hb hby d1_564) _ ?_
                  rw [hl176]
                  show Steps p.tables e below (T172.setTop (mkF m 565 #[.val (.int p1), .val (.int p2), .val (.int p3), .val (.int p4), .val (.int p5), .val (.ref b160)] [(.int (6 : Int32))])) _
                  refine XS.ifNo X172.here hx rfl (hb hby d1_565) rfl ((if0 _ _).trans (tlt (by decide)).2.2.2) ?_
                  show Steps p.tables e below (T172.setTop (mkF m 568 #[.val (.int p1), .val (.int p2), .val (.int p3), .val (.int p4), .val (.int p5), .val (.ref b160)] [])) _
                  refine XS.aload X172.here hx rfl (hb hby d1_568) rfl rfl ?_
                  show Steps p.tables e below (T172.setTop (mkF m 570 #[.val (.int p1), .val (.int p2), .val (.int p3), .val (.int p4), .val (.int p5), .val (.ref b160)] [(.ref b160)])) _
                  refine XS.iloadN X172.here hx rfl (hb hby d1_570) rfl ?_
                  show Steps p.tables e below (T172.setTop (mkF m 571 #[.val (.int p1), .val (.int p2), .val (.int p3), .val (.int p4), .val (.int p5), .val (.ref b160)] [(.int p2), (.ref b160)])) _
                  refine X172.ldcInt hx hown (mvT hZ (hw _ (List.mem_of_getElem? (i := 0) rfl))) (g := (mkF m 571 #[.val (.int p1), .val (.int p2), .val (.int p3), .val (.int p4), .val (.int p5), .val (.ref b160)] [(.int p2), (.ref b160)])) rfl (hb hby d1_571) _ ?_
                  show Steps p.tables e below (T172.setTop (mkF m 573 #[.val (.int p1), .val (.int p2), .val (.int p3), .val (.int p4), .val (.int p5), .val (.ref b160)] [(.int (2147483647 : Int32)), (.int p2), (.ref b160)])) _
                  refine XS.iand X172.here hx rfl (hb hby d1_573) rfl ?_
                  show Steps p.tables e below (T172.setTop (mkF m 574 #[.val (.int p1), .val (.int p2), .val (.int p3), .val (.int p4), .val (.int p5), .val (.ref b160)] [(.int (p2 &&& (2147483647 : Int32))), (.ref b160)])) _
                  refine XS.aload X172.here hx rfl (hb hby d1_574) rfl rfl ?_
                  show Steps p.tables e below (T172.setTop (mkF m 576 #[.val (.int p1), .val (.int p2), .val (.int p3), .val (.int p4), .val (.int p5), .val (.ref b160)] [(.ref b160), (.int (p2 &&& (2147483647 : Int32))), (.ref b160)])) _
                  refine X172.arraylength hx (by rw [e172]; exact Ar177.1) ia177 (g := (mkF m 576 #[.val (.int p1), .val (.int p2), .val (.int p3), .val (.int p4), .val (.int p5), .val (.ref b160)] [(.ref b160), (.int (p2 &&& (2147483647 : Int32))), (.ref b160)])) rfl rfl (hb hby d1_576) _ ?_
                  rw [hl177]
                  show Steps p.tables e below (T172.setTop (mkF m 577 #[.val (.int p1), .val (.int p2), .val (.int p3), .val (.int p4), .val (.int p5), .val (.ref b160)] [(.int (6 : Int32)), (.int (p2 &&& (2147483647 : Int32))), (.ref b160)])) _
                  refine iremM X172 hx rfl (hb hby d1_577) rfl (by decide) ?_
                  show Steps p.tables e below (T172.setTop (mkF m 578 #[.val (.int p1), .val (.int p2), .val (.int p3), .val (.int p4), .val (.int p5), .val (.ref b160)] [(.int ((p2 &&& (2147483647 : Int32)) % (6 : Int32))), (.ref b160)])) _
                  refine XS.iload X172.here hx rfl (hb hby d1_578) rfl ?_
                  show Steps p.tables e below (T172.setTop (mkF m 580 #[.val (.int p1), .val (.int p2), .val (.int p3), .val (.int p4), .val (.int p5), .val (.ref b160)] [(.int p5), (.int ((p2 &&& (2147483647 : Int32)) % (6 : Int32))), (.ref b160)])) _
                  refine st179 _ ?_
                  show Steps p.tables e below (T179.setTop (mkF m 581 #[.val (.int p1), .val (.int p2), .val (.int p3), .val (.int p4), .val (.int p5), .val (.ref b160)] [])) _
                  refine st180 _ ?_
                  show Steps p.tables e below (T180.setTop (mkF m 584 #[.val (.int p1), .val (.int p2), .val (.int p3), .val (.int p4), .val (.int p5), .val (.ref b160)] [(.ref b180)])) _
                  refine XS.dup X180.here hx rfl (hb hby d1_584) rfl rfl ?_
                  show Steps p.tables e below (T180.setTop (mkF m 585 #[.val (.int p1), .val (.int p2), .val (.int p3), .val (.int p4), .val (.int p5), .val (.ref b160)] [(.ref b180), (.ref b180)])) _
                  refine XS.aload X180.here hx rfl (hb hby d1_585) rfl rfl ?_
                  show Steps p.tables e below (T180.setTop (mkF m 587 #[.val (.int p1), .val (.int p2), .val (.int p3), .val (.int p4), .val (.int p5), .val (.ref b160)] [(.ref b160), (.ref b180), (.ref b180)])) _
                  refine st181.trans ?_
                  show Steps p.tables e below (T181.setTop (mkF m 590 #[.val (.int p1), .val (.int p2), .val (.int p3), .val (.int p4), .val (.int p5), .val (.ref b160)] [(.ref b180)])) _
                  exact retOut X181 hx Bd.returns rfl (Or.inr (Or.inr (Or.inr (Or.inr ⟨rfl, rfl, rfl⟩)))) (hb hby d1_590) hr
                · show QB Z p1 p2 p3 p4 p5 zc h0 n0 _ T181.heap _
                  exact ⟨b180, (([(nar .char (100 : Int32)), (nar .char (101 : Int32)), (nar .char (108 : Int32)), (nar .char (116 : Int32)), (nar .char (97 : Int32)), (nar .char p4)] : List Int32).set ((p2 &&& (2147483647 : Int32)) % (6 : Int32)).toNatClampNeg (nar .char p5)), rfl, N181, Kp, E_b180, T_b180⟩
            ·
              have pre182 : ∀ t, Steps p.tables e below (s₁.setTop (mkF m 373 #[.val (.int p1), .val (.int p2), .val (.int p3), .val (.int p4), .val (.int p5), .unset] [(.int (6 : Int32)), (.int p1)])) t → Steps p.tables e below (s₁.setTop (entryFrame m #[(.int p1), (.int p2), (.int p3), (.int p4), (.int p5)] 6)) t := fun t k => pre159 t (by
                show Steps p.tables e below (s₁.setTop (mkF m 329 #[.val (.int p1), .val (.int p2), .val (.int p3), .val (.int p4), .val (.int p5), .unset] [(.int (5 : Int32)), (.int p1)])) _
                refine XS.icmpYes X0.here hx rfl (pc0 := 329) (pc' := 370) rfl (hb hby d1_329) rfl (feq hc329).2 (by decide) (by decide) ?_
                show Steps p.tables e below (s₁.setTop (mkF m 370 #[.val (.int p1), .val (.int p2), .val (.int p3), .val (.int p4), .val (.int p5), .unset] [])) _
                refine XS.iloadN X0.here hx rfl (hb hby d1_370) rfl ?_
                show Steps p.tables e below (s₁.setTop (mkF m 371 #[.val (.int p1), .val (.int p2), .val (.int p3), .val (.int p4), .val (.int p5), .unset] [(.int p1)])) _
                refine XS.bipush X0.here hx rfl (hb hby d1_371) ?_
                exact k)
              by_cases hc373 : p1 = (6 : Int32)
              ·
                obtain ⟨T183, h183, k183, X183, e183, E183, A183, B183, st183⟩ := newPE X0 hx hZ (hw _ (List.mem_of_getElem? (i := 5) rfl)) e0 (g := (mkF m 378 #[.val (.int p1), .val (.int p2), .val (.int p3), .val (.int p4), .val (.int p5), .unset] [(.int (11 : Int32))])) rfl (hb hby d1_378) rfl (by decide) (cap := 11) (by decide) (by decide) (by decide) (by decide) (ad := "[C") (by decide)
                obtain ⟨b183, g183⟩ : ∃ z, z = h0.size := ⟨_, rfl⟩
                rw [← g183] at A183 B183 st183
                have g_b183 : n0 ≤ b183 := Nat.le_trans Zs (Nat.le_of_eq g183.symm)
                have sz_b183 : h0.size ≤ b183 := Nat.le_trans Kp.1 (Nat.le_of_eq g183.symm)
                have Hd : CHr Z ELs s.vm h0 s.vm h183 := Hc.trans (CHr.ext E183 Hc.1)
                have Hc := Hd
                have Zs : n0 ≤ h183.size := Nat.le_trans Zs E183.1
                have Ol : Old Z n0 h183 := Ol.ext E183
                have Kp : Keep h0 h183 [] := Kp.ext E183
                have E_b183 : Exa Z h183 b183 "[C" := B183
                have V_b183 : Arv Z h183 b183 k183 .char (11 : Int32) [(.int (0 : Int32)), (.int (0 : Int32)), (.int (0 : Int32)), (.int (0 : Int32)), (.int (0 : Int32)), (.int (0 : Int32)), (.int (0 : Int32)), (.int (0 : Int32)), (.int (0 : Int32)), (.int (0 : Int32)), (.int (0 : Int32))] (.int (0 : Int32)) := (Arv.new A183 (by decide)).pad (pad_rep [] (.int (0 : Int32)) 11)
                obtain ⟨cl184, Ar184, q184, S184, M184, H184, G184⟩ := V_b183
                obtain ⟨T185, h185, X185, e185, W185, st185⟩ := stC X183 hx hZ e183 Ar184 (j := (0 : Int32)) (inb_of S184 (by decide)) (g := (mkF m 384 #[.val (.int p1), .val (.int p2), .val (.int p3), .val (.int p4), .val (.int p5), .unset] [(.int (110 : Int32)), (.int (0 : Int32)), (.ref b183), (.ref b183)])) rfl rfl (hb hby d1_384)
                have N185 := Fr.snoc X185 N0 g_b183
                have Sw := ((Safe.exa hZ.alike E_b183 (by decide) (by decide)) : Safe Z ELs s.vm _ b183)
                have Hd : CHr Z ELs s.vm h0 s.vm h185 := Hc.trans (CHr.wr W185 Sw Hc.1)
                have Hc := Hd
                have Zs : n0 ≤ h185.size := Nat.le_trans Zs (Keep.of_wr W185).1
                have Ol : Old Z n0 h185 := Ol.wr W185 g_b183
                have Kp : Keep h0 h185 [] := Kp.wr W185 (Or.inr sz_b183)
                have E_b183 : Exa Z h185 b183 "[C" := E_b183.wr W185
                have V_b183 : Arv Z h185 b183 k183 .char (11 : Int32) [(.int (nar .char (110 : Int32))), (.int (0 : Int32)), (.int (0 : Int32)), (.int (0 : Int32)), (.int (0 : Int32)), (.int (0 : Int32)), (.int (0 : Int32)), (.int (0 : Int32)), (.int (0 : Int32)), (.int (0 : Int32)), (.int (0 : Int32))] (.int (0 : Int32)) := Arv.set Ar184 q184 S184 M184 H184 G184 (fits_nar_char _) W185 0 rfl (Nat.le_of_ble_eq_true rfl)
                obtain ⟨cl186, Ar186, q186, S186, M186, H186, G186⟩ := V_b183
                obtain ⟨T187, h187, X187, e187, W187, st187⟩ := stC X185 hx hZ e185 Ar186 (j := (1 : Int32)) (inb_of S186 (by decide)) (g := (mkF m 389 #[.val (.int p1), .val (.int p2), .val (.int p3), .val (.int p4), .val (.int p5), .unset] [(.int (111 : Int32)), (.int (1 : Int32)), (.ref b183), (.ref b183)])) rfl rfl (hb hby d1_389)
                have N187 := Fr.snoc X187 N185 g_b183
                have Sw := ((Safe.exa hZ.alike E_b183 (by decide) (by decide)) : Safe Z ELs s.vm _ b183)
                have Hd : CHr Z ELs s.vm h0 s.vm h187 := Hc.trans (CHr.wr W187 Sw Hc.1)
                have Hc := Hd
                have Zs : n0 ≤ h187.size := Nat.le_trans Zs (Keep.of_wr W187).1
                have Ol : Old Z n0 h187 := Ol.wr W187 g_b183
                have Kp : Keep h0 h187 [] := Kp.wr W187 (Or.inr sz_b183)
                have E_b183 : Exa Z h187 b183 "[C" := E_b183.wr W187
                have V_b183 : Arv Z h187 b183 k183 .char (11 : Int32) [(.int (nar .char (110 : Int32))), (.int (nar .char (111 : Int32))), (.int (0 : Int32)), (.int (0 : Int32)), (.int (0 : Int32)), (.int (0 : Int32)), (.int (0 : Int32)), (.int (0 : Int32)), (.int (0 : Int32)), (.int (0 : Int32)), (.int (0 : Int32))] (.int (0 : Int32)) := Arv.set Ar186 q186 S186 M186 H186 G186 (fits_nar_char _) W187 1 rfl (Nat.le_of_ble_eq_true rfl)
                obtain ⟨cl188, Ar188, q188, S188, M188, H188, G188⟩ := V_b183
                obtain ⟨T189, h189, X189, e189, W189, st189⟩ := stC X187 hx hZ e187 Ar188 (j := (2 : Int32)) (inb_of S188 (by decide)) (g := (mkF m 394 #[.val (.int p1), .val (.int p2), .val (.int p3), .val (.int p4), .val (.int p5), .unset] [(.int (116 : Int32)), (.int (2 : Int32)), (.ref b183), (.ref b183)])) rfl rfl (hb hby d1_394)
                have N189 := Fr.snoc X189 N187 g_b183
                have Sw := ((Safe.exa hZ.alike E_b183 (by decide) (by decide)) : Safe Z ELs s.vm _ b183)
                have Hd : CHr Z ELs s.vm h0 s.vm h189 := Hc.trans (CHr.wr W189 Sw Hc.1)
                have Hc := Hd
                have Zs : n0 ≤ h189.size := Nat.le_trans Zs (Keep.of_wr W189).1
                have Ol : Old Z n0 h189 := Ol.wr W189 g_b183
                have Kp : Keep h0 h189 [] := Kp.wr W189 (Or.inr sz_b183)
                have E_b183 : Exa Z h189 b183 "[C" := E_b183.wr W189
                have V_b183 : Arv Z h189 b183 k183 .char (11 : Int32) [(.int (nar .char (110 : Int32))), (.int (nar .char (111 : Int32))), (.int (nar .char (116 : Int32))), (.int (0 : Int32)), (.int (0 : Int32)), (.int (0 : Int32)), (.int (0 : Int32)), (.int (0 : Int32)), (.int (0 : Int32)), (.int (0 : Int32)), (.int (0 : Int32))] (.int (0 : Int32)) := Arv.set Ar188 q188 S188 M188 H188 G188 (fits_nar_char _) W189 2 rfl (Nat.le_of_ble_eq_true rfl)
                obtain ⟨cl190, Ar190, q190, S190, M190, H190, G190⟩ := V_b183
                obtain ⟨T191, h191, X191, e191, W191, st191⟩ := stC X189 hx hZ e189 Ar190 (j := (3 : Int32)) (inb_of S190 (by decide)) (g := (mkF m 399 #[.val (.int p1), .val (.int p2), .val (.int p3), .val (.int p4), .val (.int p5), .unset] [(.int (105 : Int32)), (.int (3 : Int32)), (.ref b183), (.ref b183)])) rfl rfl (hb hby d1_399)
                have N191 := Fr.snoc X191 N189 g_b183
                have Sw := ((Safe.exa hZ.alike E_b183 (by decide) (by decide)) : Safe Z ELs s.vm _ b183)
                have Hd : CHr Z ELs s.vm h0 s.vm h191 := Hc.trans (CHr.wr W191 Sw Hc.1)
                have Hc := Hd
                have Zs : n0 ≤ h191.size := Nat.le_trans Zs (Keep.of_wr W191).1
                have Ol : Old Z n0 h191 := Ol.wr W191 g_b183
                have Kp : Keep h0 h191 [] := Kp.wr W191 (Or.inr sz_b183)
                have E_b183 : Exa Z h191 b183 "[C" := E_b183.wr W191
                have V_b183 : Arv Z h191 b183 k183 .char (11 : Int32) [(.int (nar .char (110 : Int32))), (.int (nar .char (111 : Int32))), (.int (nar .char (116 : Int32))), (.int (nar .char (105 : Int32))), (.int (0 : Int32)), (.int (0 : Int32)), (.int (0 : Int32)), (.int (0 : Int32)), (.int (0 : Int32)), (.int (0 : Int32)), (.int (0 : Int32))] (.int (0 : Int32)) := Arv.set Ar190 q190 S190 M190 H190 G190 (fits_nar_char _) W191 3 rfl (Nat.le_of_ble_eq_true rfl)
                obtain ⟨cl192, Ar192, q192, S192, M192, H192, G192⟩ := V_b183
                obtain ⟨T193, h193, X193, e193, W193, st193⟩ := stC X191 hx hZ e191 Ar192 (j := (4 : Int32)) (inb_of S192 (by decide)) (g := (mkF m 404 #[.val (.int p1), .val (.int p2), .val (.int p3), .val (.int p4), .val (.int p5), .unset] [(.int (102 : Int32)), (.int (4 : Int32)), (.ref b183), (.ref b183)])) rfl rfl (hb hby d1_404)
                have N193 := Fr.snoc X193 N191 g_b183
                have Sw := ((Safe.exa hZ.alike E_b183 (by decide) (by decide)) : Safe Z ELs s.vm _ b183)
                have Hd : CHr Z ELs s.vm h0 s.vm h193 := Hc.trans (CHr.wr W193 Sw Hc.1)
                have Hc := Hd
                have Zs : n0 ≤ h193.size := Nat.le_trans Zs (Keep.of_wr W193).1
                have Ol : Old Z n0 h193 := Ol.wr W193 g_b183
                have Kp : Keep h0 h193 [] := Kp.wr W193 (Or.inr sz_b183)
                have E_b183 : Exa Z h193 b183 "[C" := E_b183.wr W193
                have V_b183 : Arv Z h193 b183 k183 .char (11 : Int32) [(.int (nar .char (110 : Int32))), (.int (nar .char (111 : Int32))), (.int (nar .char (116 : Int32))), (.int (nar .char (105 : Int32))), (.int (nar .char (102 : Int32))), (.int (0 : Int32)), (.int (0 : Int32)), (.int (0 : Int32)), (.int (0 : Int32)), (.int (0 : Int32)), (.int (0 : Int32))] (.int (0 : Int32)) := Arv.set Ar192 q192 S192 M192 H192 G192 (fits_nar_char _) W193 4 rfl (Nat.le_of_ble_eq_true rfl)
                obtain ⟨cl194, Ar194, q194, S194, M194, H194, G194⟩ := V_b183
                obtain ⟨T195, h195, X195, e195, W195, st195⟩ := stC X193 hx hZ e193 Ar194 (j := (5 : Int32)) (inb_of S194 (by decide)) (g := (mkF m 409 #[.val (.int p1), .val (.int p2), .val (.int p3), .val (.int p4), .val (.int p5), .unset] [(.int (105 : Int32)), (.int (5 : Int32)), (.ref b183), (.ref b183)])) rfl rfl (hb hby d1_409)
                have N195 := Fr.snoc X195 N193 g_b183
                have Sw := ((Safe.exa hZ.alike E_b183 (by decide) (by decide)) : Safe Z ELs s.vm _ b183)
                have Hd : CHr Z ELs s.vm h0 s.vm h195 := Hc.trans (CHr.wr W195 Sw Hc.1)
                have Hc := Hd
                have Zs : n0 ≤ h195.size := Nat.le_trans Zs (Keep.of_wr W195).1
                have Ol : Old Z n0 h195 := Ol.wr W195 g_b183
                have Kp : Keep h0 h195 [] := Kp.wr W195 (Or.inr sz_b183)
                have E_b183 : Exa Z h195 b183 "[C" := E_b183.wr W195
                have V_b183 : Arv Z h195 b183 k183 .char (11 : Int32) [(.int (nar .char (110 : Int32))), (.int (nar .char (111 : Int32))), (.int (nar .char (116 : Int32))), (.int (nar .char (105 : Int32))), (.int (nar .char (102 : Int32))), (.int (nar .char (105 : Int32))), (.int (0 : Int32)), (.int (0 : Int32)), (.int (0 : Int32)), (.int (0 : Int32)), (.int (0 : Int32))] (.int (0 : Int32)) := Arv.set Ar194 q194 S194 M194 H194 G194 (fits_nar_char _) W195 5 rfl (Nat.le_of_ble_eq_true rfl)
                obtain ⟨cl196, Ar196, q196, S196, M196, H196, G196⟩ := V_b183
                obtain ⟨T197, h197, X197, e197, W197, st197⟩ := stC X195 hx hZ e195 Ar196 (j := (6 : Int32)) (inb_of S196 (by decide)) (g := (mkF m 415 #[.val (.int p1), .val (.int p2), .val (.int p3), .val (.int p4), .val (.int p5), .unset] [(.int (99 : Int32)), (.int (6 : Int32)), (.ref b183), (.ref b183)])) rfl rfl (hb hby d1_415)
                have N197 := Fr.snoc X197 N195 g_b183
                have Sw := ((Safe.exa hZ.alike E_b183 (by decide) (by decide)) : Safe Z ELs s.vm _ b183)
                have Hd : CHr Z ELs s.vm h0 s.vm h197 := Hc.trans (CHr.wr W197 Sw Hc.1)
                have Hc := Hd
                have Zs : n0 ≤ h197.size := Nat.le_trans Zs (Keep.of_wr W197).1
                have Ol : Old Z n0 h197 := Ol.wr W197 g_b183
                have Kp : Keep h0 h197 [] := Kp.wr W197 (Or.inr sz_b183)
                have E_b183 : Exa Z h197 b183 "[C" := E_b183.wr W197
                have V_b183 : Arv Z h197 b183 k183 .char (11 : Int32) [(.int (nar .char (110 : Int32))), (.int (nar .char (111 : Int32))), (.int (nar .char (116 : Int32))), (.int (nar .char (105 : Int32))), (.int (nar .char (102 : Int32))), (.int (nar .char (105 : Int32))), (.int (nar .char (99 : Int32))), (.int (0 : Int32)), (.int (0 : Int32)), (.int (0 : Int32)), (.int (0 : Int32))] (.int (0 : Int32)) := Arv.set Ar196 q196 S196 M196 H196 G196 (fits_nar_char _) W197 6 rfl (Nat.le_of_ble_eq_true rfl)
                obtain ⟨cl198, Ar198, q198, S198, M198, H198, G198⟩ := V_b183
                obtain ⟨T199, h199, X199, e199, W199, st199⟩ := stC X197 hx hZ e197 Ar198 (j := (7 : Int32)) (inb_of S198 (by decide)) (g := (mkF m 421 #[.val (.int p1), .val (.int p2), .val (.int p3), .val (.int p4), .val (.int p5), .unset] [(.int (97 : Int32)), (.int (7 : Int32)), (.ref b183), (.ref b183)])) rfl rfl (hb hby d1_421)
                have N199 := Fr.snoc X199 N197 g_b183
                have Sw := ((Safe.exa hZ.alike E_b183 (by decide) (by decide)) : Safe Z ELs s.vm _ b183)
                have Hd : CHr Z ELs s.vm h0 s.vm h199 := Hc.trans (CHr.wr W199 Sw Hc.1)
                have Hc := Hd
                have Zs : n0 ≤ h199.size := Nat.le_trans Zs (Keep.of_wr W199).1
                have Ol : Old Z n0 h199 := Ol.wr W199 g_b183
                have Kp : Keep h0 h199 [] := Kp.wr W199 (Or.inr sz_b183)
                have E_b183 : Exa Z h199 b183 "[C" := E_b183.wr W199
                have V_b183 : Arv Z h199 b183 k183 .char (11 : Int32) [(.int (nar .char (110 : Int32))), (.int (nar .char (111 : Int32))), (.int (nar .char (116 : Int32))), (.int (nar .char (105 : Int32))), (.int (nar .char (102 : Int32))), (.int (nar .char (105 : Int32))), (.int (nar .char (99 : Int32))), (.int (nar .char (97 : Int32))), (.int (0 : Int32)), (.int (0 : Int32)), (.int (0 : Int32))] (.int (0 : Int32)) := Arv.set Ar198 q198 S198 M198 H198 G198 (fits_nar_char _) W199 7 rfl (Nat.le_of_ble_eq_true rfl)
                obtain ⟨cl200, Ar200, q200, S200, M200, H200, G200⟩ := V_b183
                obtain ⟨T201, h201, X201, e201, W201, st201⟩ := stC X199 hx hZ e199 Ar200 (j := (8 : Int32)) (inb_of S200 (by decide)) (g := (mkF m 427 #[.val (.int p1), .val (.int p2), .val (.int p3), .val (.int p4), .val (.int p5), .unset] [(.int (116 : Int32)), (.int (8 : Int32)), (.ref b183), (.ref b183)])) rfl rfl (hb hby d1_427)
                have N201 := Fr.snoc X201 N199 g_b183
                have Sw := ((Safe.exa hZ.alike E_b183 (by decide) (by decide)) : Safe Z ELs s.vm _ b183)
                have Hd : CHr Z ELs s.vm h0 s.vm h201 := Hc.trans (CHr.wr W201 Sw Hc.1)
                have Hc := Hd
                have Zs : n0 ≤ h201.size := Nat.le_trans Zs (Keep.of_wr W201).1
                have Ol : Old Z n0 h201 := Ol.wr W201 g_b183
                have Kp : Keep h0 h201 [] := Kp.wr W201 (Or.inr sz_b183)
                have E_b183 : Exa Z h201 b183 "[C" := E_b183.wr W201
                have V_b183 : Arv Z h201 b183 k183 .char (11 : Int32) [(.int (nar .char (110 : Int32))), (.int (nar .char (111 : Int32))), (.int (nar .char (116 : Int32))), (.int (nar .char (105 : Int32))), (.int (nar .char (102 : Int32))), (.int (nar .char (105 : Int32))), (.int (nar .char (99 : Int32))), (.int (nar .char (97 : Int32))), (.int (nar .char (116 : Int32))), (.int (0 : Int32)), (.int (0 : Int32))] (.int (0 : Int32)) := Arv.set Ar200 q200 S200 M200 H200 G200 (fits_nar_char _) W201 8 rfl (Nat.le_of_ble_eq_true rfl)
                obtain ⟨cl202, Ar202, q202, S202, M202, H202, G202⟩ := V_b183
                obtain ⟨T203, h203, X203, e203, W203, st203⟩ := stC X201 hx hZ e201 Ar202 (j := (9 : Int32)) (inb_of S202 (by decide)) (g := (mkF m 433 #[.val (.int p1), .val (.int p2), .val (.int p3), .val (.int p4), .val (.int p5), .unset] [(.int (105 : Int32)), (.int (9 : Int32)), (.ref b183), (.ref b183)])) rfl rfl (hb hby d1_433)
                have N203 := Fr.snoc X203 N201 g_b183
                have Sw := ((Safe.exa hZ.alike E_b183 (by decide) (by decide)) : Safe Z ELs s.vm _ b183)
                have Hd : CHr Z ELs s.vm h0 s.vm h203 := Hc.trans (CHr.wr W203 Sw Hc.1)
                have Hc := Hd
                have Zs : n0 ≤ h203.size := Nat.le_trans Zs (Keep.of_wr W203).1
                have Ol : Old Z n0 h203 := Ol.wr W203 g_b183
                have Kp : Keep h0 h203 [] := Kp.wr W203 (Or.inr sz_b183)
                have E_b183 : Exa Z h203 b183 "[C" := E_b183.wr W203
                have V_b183 : Arv Z h203 b183 k183 .char (11 : Int32) [(.int (nar .char (110 : Int32))), (.int (nar .char (111 : Int32))), (.int (nar .char (116 : Int32))), (.int (nar .char (105 : Int32))), (.int (nar .char (102 : Int32))), (.int (nar .char (105 : Int32))), (.int (nar .char (99 : Int32))), (.int (nar .char (97 : Int32))), (.int (nar .char (116 : Int32))), (.int (nar .char (105 : Int32))), (.int (0 : Int32))] (.int (0 : Int32)) := Arv.set Ar202 q202 S202 M202 H202 G202 (fits_nar_char _) W203 9 rfl (Nat.le_of_ble_eq_true rfl)
                obtain ⟨cl204, Ar204, q204, S204, M204, H204, G204⟩ := V_b183
                obtain ⟨T205, h205, X205, e205, W205, st205⟩ := stC X203 hx hZ e203 Ar204 (j := (10 : Int32)) (inb_of S204 (by decide)) (g := (mkF m 439 #[.val (.int p1), .val (.int p2), .val (.int p3), .val (.int p4), .val (.int p5), .unset] [(.int (111 : Int32)), (.int (10 : Int32)), (.ref b183), (.ref b183)])) rfl rfl (hb hby d1_439)
                have N205 := Fr.snoc X205 N203 g_b183
                have Sw := ((Safe.exa hZ.alike E_b183 (by decide) (by decide)) : Safe Z ELs s.vm _ b183)
                have Hd : CHr Z ELs s.vm h0 s.vm h205 := Hc.trans (CHr.wr W205 Sw Hc.1)
                have Hc := Hd
                have Zs : n0 ≤ h205.size := Nat.le_trans Zs (Keep.of_wr W205).1
                have Ol : Old Z n0 h205 := Ol.wr W205 g_b183
                have Kp : Keep h0 h205 [] := Kp.wr W205 (Or.inr sz_b183)
                have E_b183 : Exa Z h205 b183 "[C" := E_b183.wr W205
                have V_b183 : Arv Z h205 b183 k183 .char (11 : Int32) [(.int (nar .char (110 : Int32))), (.int (nar .char (111 : Int32))), (.int (nar .char (116 : Int32))), (.int (nar .char (105 : Int32))), (.int (nar .char (102 : Int32))), (.int (nar .char (105 : Int32))), (.int (nar .char (99 : Int32))), (.int (nar .char (97 : Int32))), (.int (nar .char (116 : Int32))), (.int (nar .char (105 : Int32))), (.int (nar .char (111 : Int32)))] (.int (0 : Int32)) := Arv.set Ar204 q204 S204 M204 H204 G204 (fits_nar_char _) W205 10 rfl (Nat.le_of_ble_eq_true rfl)
                have pre206 : ∀ t, Steps p.tables e below (T205.setTop (mkF m 559 #[.val (.int p1), .val (.int p2), .val (.int p3), .val (.int p4), .val (.int p5), .val (.ref b183)] [(.int p3)])) t → Steps p.tables e below (s₁.setTop (entryFrame m #[(.int p1), (.int p2), (.int p3), (.int p4), (.int p5)] 6)) t := fun t k => pre182 t (by
                  show Steps p.tables e below (s₁.setTop (mkF m 373 #[.val (.int p1), .val (.int p2), .val (.int p3), .val (.int p4), .val (.int p5), .unset] [(.int (6 : Int32)), (.int p1)])) _
                  refine XS.icmpNo X0.here hx rfl (hb hby d1_373) rfl (teq hc373).2 ?_
                  show Steps p.tables e below (s₁.setTop (mkF m 376 #[.val (.int p1), .val (.int p2), .val (.int p3), .val (.int p4), .val (.int p5), .unset] [])) _
                  refine XS.bipush X0.here hx rfl (hb hby d1_376) ?_
                  show Steps p.tables e below (s₁.setTop (mkF m 378 #[.val (.int p1), .val (.int p2), .val (.int p3), .val (.int p4), .val (.int p5), .unset] [(.int (11 : Int32))])) _
                  refine st183 _ ?_
                  show Steps p.tables e below (T183.setTop (mkF m 380 #[.val (.int p1), .val (.int p2), .val (.int p3), .val (.int p4), .val (.int p5), .unset] [(.ref b183)])) _
                  refine XS.dup X183.here hx rfl (hb hby d1_380) rfl rfl ?_
                  show Steps p.tables e below (T183.setTop (mkF m 381 #[.val (.int p1), .val (.int p2), .val (.int p3), .val (.int p4), .val (.int p5), .unset] [(.ref b183), (.ref b183)])) _
                  refine XS.iconst X183.here hx rfl (hb hby d1_381) ?_
                  show Steps p.tables e below (T183.setTop (mkF m 382 #[.val (.int p1), .val (.int p2), .val (.int p3), .val (.int p4), .val (.int p5), .unset] [(.int (0 : Int32)), (.ref b183), (.ref b183)])) _
                  refine XS.bipush X183.here hx rfl (hb hby d1_382) ?_
                  show Steps p.tables e below (T183.setTop (mkF m 384 #[.val (.int p1), .val (.int p2), .val (.int p3), .val (.int p4), .val (.int p5), .unset] [(.int (110 : Int32)), (.int (0 : Int32)), (.ref b183), (.ref b183)])) _
                  refine st185 _ ?_
                  show Steps p.tables e below (T185.setTop (mkF m 385 #[.val (.int p1), .val (.int p2), .val (.int p3), .val (.int p4), .val (.int p5), .unset] [(.ref b183)])) _
                  refine XS.dup X185.here hx rfl (hb hby d1_385) rfl rfl ?_
                  show Steps p.tables e below (T185.setTop (mkF m 386 #[.val (.int p1), .val (.int p2), .val (.int p3), .val (.int p4), .val (.int p5), .unset] [(.ref b183), (.ref b183)])) _
                  refine XS.iconst X185.here hx rfl (hb hby d1_386) ?_
                  show Steps p.tables e below (T185.setTop (mkF m 387 #[.val (.int p1), .val (.int p2), .val (.int p3), .val (.int p4), .val (.int p5), .unset] [(.int (1 : Int32)), (.ref b183), (.ref b183)])) _
                  refine XS.bipush X185.here hx rfl (hb hby d1_387) ?_
                  show Steps p.tables e below (T185.setTop (mkF m 389 #[.val (.int p1), .val (.int p2), .val (.int p3), .val (.int p4), .val (.int p5), .unset] [(.int (111 : Int32)), (.int (1 : Int32)), (.ref b183), (.ref b183)])) _
                  refine st187 _ ?_
                  show Steps p.tables e below (T187.setTop (mkF m 390 #[.val (.int p1), .val (.int p2), .val (.int p3), .val (.int p4), .val (.int p5), .unset] [(.ref b183)])) _
                  refine XS.dup X187.here hx rfl (hb hby d1_390) rfl rfl ?_
                  show Steps p.tables e below (T187.setTop (mkF m 391 #[.val (.int p1), .val (.int p2), .val (.int p3), .val (.int p4), .val (.int p5), .unset] [(.ref b183), (.ref b183)])) _
                  refine XS.iconst X187.here hx rfl (hb hby d1_391) ?_
                  show Steps p.tables e below (T187.setTop (mkF m 392 #[.val (.int p1), .val (.int p2), .val (.int p3), .val (.int p4), .val (.int p5), .unset] [(.int (2 : Int32)), (.ref b183), (.ref b183)])) _
                  refine XS.bipush X187.here hx rfl (hb hby d1_392) ?_
                  show Steps p.tables e below (T187.setTop (mkF m 394 #[.val (.int p1), .val (.int p2), .val (.int p3), .val (.int p4), .val (.int p5), .unset] [(.int (116 : Int32)), (.int (2 : Int32)), (.ref b183), (.ref b183)])) _
                  refine st189 _ ?_
                  show Steps p.tables e below (T189.setTop (mkF m 395 #[.val (.int p1), .val (.int p2), .val (.int p3), .val (.int p4), .val (.int p5), .unset] [(.ref b183)])) _
                  refine XS.dup X189.here hx rfl (hb hby d1_395) rfl rfl ?_
                  show Steps p.tables e below (T189.setTop (mkF m 396 #[.val (.int p1), .val (.int p2), .val (.int p3), .val (.int p4), .val (.int p5), .unset] [(.ref b183), (.ref b183)])) _
                  refine XS.iconst X189.here hx rfl (hb hby d1_396) ?_
                  show Steps p.tables e below (T189.setTop (mkF m 397 #[.val (.int p1), .val (.int p2), .val (.int p3), .val (.int p4), .val (.int p5), .unset] [(.int (3 : Int32)), (.ref b183), (.ref b183)])) _
                  refine XS.bipush X189.here hx rfl (hb hby d1_397) ?_
                  show Steps p.tables e below (T189.setTop (mkF m 399 #[.val (.int p1), .val (.int p2), .val (.int p3), .val (.int p4), .val (.int p5), .unset] [(.int (105 : Int32)), (.int (3 : Int32)), (.ref b183), (.ref b183)])) _
                  refine st191 _ ?_
                  show Steps p.tables e below (T191.setTop (mkF m 400 #[.val (.int p1), .val (.int p2), .val (.int p3), .val (.int p4), .val (.int p5), .unset] [(.ref b183)])) _
                  refine XS.dup X191.here hx rfl (hb hby d1_400) rfl rfl ?_
                  show Steps p.tables e below (T191.setTop (mkF m 401 #[.val (.int p1), .val (.int p2), .val (.int p3), .val (.int p4), .val (.int p5), .unset] [(.ref b183), (.ref b183)])) _
                  refine XS.iconst X191.here hx rfl (hb hby d1_401) ?_
                  show Steps p.tables e below (T191.setTop (mkF m 402 #[.val (.int p1), .val (.int p2), .val (.int p3), .val (.int p4), .val (.int p5), .unset] [(.int (4 : Int32)), (.ref b183), (.ref b183)])) _
                  refine XS.bipush X191.here hx rfl (hb hby d1_402) ?_
                  show Steps p.tables e below (T191.setTop (mkF m 404 #[.val (.int p1), .val (.int p2), .val (.int p3), .val (.int p4), .val (.int p5), .unset] [(.int (102 : Int32)), (.int (4 : Int32)), (.ref b183), (.ref b183)])) _
                  refine st193 _ ?_
                  show Steps p.tables e below (T193.setTop (mkF m 405 #[.val (.int p1), .val (.int p2), .val (.int p3), .val (.int p4), .val (.int p5), .unset] [(.ref b183)])) _
                  refine XS.dup X193.here hx rfl (hb hby d1_405) rfl rfl ?_
                  show Steps p.tables e below (T193.setTop (mkF m 406 #[.val (.int p1), .val (.int p2), .val (.int p3), .val (.int p4), .val (.int p5), .unset] [(.ref b183), (.ref b183)])) _
                  refine XS.iconst X193.here hx rfl (hb hby d1_406) ?_
                  show Steps p.tables e below (T193.setTop (mkF m 407 #[.val (.int p1), .val (.int p2), .val (.int p3), .val (.int p4), .val (.int p5), .unset] [(.int (5 : Int32)), (.ref b183), (.ref b183)])) _
                  refine XS.bipush X193.here hx rfl (hb hby d1_407) ?_
                  show Steps p.tables e below (T193.setTop (mkF m 409 #[.val (.int p1), .val (.int p2), .val (.int p3), .val (.int p4), .val (.int p5), .unset] [(.int (105 : Int32)), (.int (5 : Int32)), (.ref b183), (.ref b183)])) _
                  refine st195 _ ?_
                  show Steps p.tables e below (T195.setTop (mkF m 410 #[.val (.int p1), .val (.int p2), .val (.int p3), .val (.int p4), .val (.int p5), .unset] [(.ref b183)])) _
                  refine XS.dup X195.here hx rfl (hb hby d1_410) rfl rfl ?_
                  show Steps p.tables e below (T195.setTop (mkF m 411 #[.val (.int p1), .val (.int p2), .val (.int p3), .val (.int p4), .val (.int p5), .unset] [(.ref b183), (.ref b183)])) _
                  refine XS.bipush X195.here hx rfl (hb hby d1_411) ?_
                  show Steps p.tables e below (T195.setTop (mkF m 413 #[.val (.int p1), .val (.int p2), .val (.int p3), .val (.int p4), .val (.int p5), .unset] [(.int (6 : Int32)), (.ref b183), (.ref b183)])) _
                  refine XS.bipush X195.here hx rfl (hb hby d1_413) ?_
                  show Steps p.tables e below (T195.setTop (mkF m 415 #[.val (.int p1), .val (.int p2), .val (.int p3), .val (.int p4), .val (.int p5), .unset] [(.int (99 : Int32)), (.int (6 : Int32)), (.ref b183), (.ref b183)])) _
                  refine st197 _ ?_
                  show Steps p.tables e below (T197.setTop (mkF m 416 #[.val (.int p1), .val (.int p2), .val (.int p3), .val (.int p4), .val (.int p5), .unset] [(.ref b183)])) _
                  refine XS.dup X197.here hx rfl (hb hby d1_416) rfl rfl ?_
                  show Steps p.tables e below (T197.setTop (mkF m 417 #[.val (.int p1), .val (.int p2), .val (.int p3), .val (.int p4), .val (.int p5), .unset] [(.ref b183), (.ref b183)])) _
                  refine XS.bipush X197.here hx rfl (hb hby d1_417) ?_
                  show Steps p.tables e below (T197.setTop (mkF m 419 #[.val (.int p1), .val (.int p2), .val (.int p3), .val (.int p4), .val (.int p5), .unset] [(.int (7 : Int32)), (.ref b183), (.ref b183)])) _
                  refine XS.bipush X197.here hx rfl (hb hby d1_419) ?_
                  show Steps p.tables e below (T197.setTop (mkF m 421 #[.val (.int p1), .val (.int p2), .val (.int p3), .val (.int p4), .val (.int p5), .unset] [(.int (97 : Int32)), (.int (7 : Int32)), (.ref b183), (.ref b183)])) _
                  refine st199 _ ?_
                  show Steps p.tables e below (T199.setTop (mkF m 422 #[.val (.int p1), .val (.int p2), .val (.int p3), .val (.int p4), .val (.int p5), .unset] [(.ref b183)])) _
                  refine XS.dup X199.here hx rfl (hb hby d1_422) rfl rfl ?_
                  show Steps p.tables e below (T199.setTop (mkF m 423 #[.val (.int p1), .val (.int p2), .val (.int p3), .val (.int p4), .val (.int p5), .unset] [(.ref b183), (.ref b183)])) _
                  refine XS.bipush X199.here hx rfl (hb hby d1_423) ?_
                  show Steps p.tables e below (T199.setTop (mkF m 425 #[.val (.int p1), .val (.int p2), .val (.int p3), .val (.int p4), .val (.int p5), .unset] [(.int (8 : Int32)), (.ref b183), (.ref b183)])) _
                  refine XS.bipush X199.here hx rfl (hb hby d1_425) ?_
                  show Steps p.tables e below (T199.setTop (mkF m 427 #[.val (.int p1), .val (.int p2), .val (.int p3), .val (.int p4), .val (.int p5), .unset] [(.int (116 : Int32)), (.int (8 : Int32)), (.ref b183), (.ref b183)])) _
                  refine st201 _ ?_
                  show Steps p.tables e below (T201.setTop (mkF m 428 #[.val (.int p1), .val (.int p2), .val (.int p3), .val (.int p4), .val (.int p5), .unset] [(.ref b183)])) _
                  refine XS.dup X201.here hx rfl (hb hby d1_428) rfl rfl ?_
                  show Steps p.tables e below (T201.setTop (mkF m 429 #[.val (.int p1), .val (.int p2), .val (.int p3), .val (.int p4), .val (.int p5), .unset] [(.ref b183), (.ref b183)])) _
                  refine XS.bipush X201.here hx rfl (hb hby d1_429) ?_
                  show Steps p.tables e below (T201.setTop (mkF m 431 #[.val (.int p1), .val (.int p2), .val (.int p3), .val (.int p4), .val (.int p5), .unset] [(.int (9 : Int32)), (.ref b183), (.ref b183)])) _
                  refine XS.bipush X201.here hx rfl (hb hby d1_431) ?_
                  show Steps p.tables e below (T201.setTop (mkF m 433 #[.val (.int p1), .val (.int p2), .val (.int p3), .val (.int p4), .val (.int p5), .unset] [(.int (105 : Int32)), (.int (9 : Int32)), (.ref b183), (.ref b183)])) _
                  refine st203 _ ?_
                  show Steps p.tables e below (T203.setTop (mkF m 434 #[.val (.int p1), .val (.int p2), .val (.int p3), .val (.int p4), .val (.int p5), .unset] [(.ref b183)])) _
                  refine XS.dup X203.here hx rfl (hb hby d1_434) rfl rfl ?_
                  show Steps p.tables e below (T203.setTop (mkF m 435 #[.val (.int p1), .val (.int p2), .val (.int p3), .val (.int p4), .val (.int p5), .unset] [(.ref b183), (.ref b183)])) _
                  refine XS.bipush X203.here hx rfl (hb hby d1_435) ?_
                  show Steps p.tables e below (T203.setTop (mkF m 437 #[.val (.int p1), .val (.int p2), .val (.int p3), .val (.int p4), .val (.int p5), .unset] [(.int (10 : Int32)), (.ref b183), (.ref b183)])) _
                  refine XS.bipush X203.here hx rfl (hb hby d1_437) ?_
                  show Steps p.tables e below (T203.setTop (mkF m 439 #[.val (.int p1), .val (.int p2), .val (.int p3), .val (.int p4), .val (.int p5), .unset] [(.int (111 : Int32)), (.int (10 : Int32)), (.ref b183), (.ref b183)])) _
                  refine st205 _ ?_
                  show Steps p.tables e below (T205.setTop (mkF m 440 #[.val (.int p1), .val (.int p2), .val (.int p3), .val (.int p4), .val (.int p5), .unset] [(.ref b183)])) _
                  refine XS.astore X205.here hx rfl (hb hby d1_440) rfl rfl (l' := #[.val (.int p1), .val (.int p2), .val (.int p3), .val (.int p4), .val (.int p5), .val (.ref b183)]) rfl ?_
                  show Steps p.tables e below (T205.setTop (mkF m 442 #[.val (.int p1), .val (.int p2), .val (.int p3), .val (.int p4), .val (.int p5), .val (.ref b183)] [])) _
                  refine XS.goto X205.here hx rfl (pc0 := 442) (pc' := 558) rfl (hb hby d1_442) (by decide) (by decide) ?_
                  show Steps p.tables e below (T205.setTop (mkF m 558 #[.val (.int p1), .val (.int p2), .val (.int p3), .val (.int p4), .val (.int p5), .val (.ref b183)] [])) _
                  refine XS.iloadN X205.here hx rfl (hb hby d1_558) rfl ?_
                  exact k)
                by_cases hc559 : p3 = (0 : Int32)
                ·
                  obtain ⟨T207, h207, X207, e207, E207, A207, D207, -, st207⟩ := newO X205 hx hZ hown (hw _ (List.mem_of_getElem? (i := 6) rfl)) (hw _ (List.mem_of_getElem? (i := 7) rfl)) (hw _ (List.mem_of_getElem? (i := 8) rfl)) e205 (g := (mkF m 581 #[.val (.int p1), .val (.int p2), .val (.int p3), .val (.int p4), .val (.int p5), .val (.ref b183)] [])) rfl (hb hby d1_581) (by decide) (by decide)
                  obtain ⟨b207, g207⟩ : ∃ z, z = h205.size := ⟨_, rfl⟩
                  rw [← g207] at A207 D207 st207
                  have g_b207 : n0 ≤ b207 := Nat.le_trans Zs (Nat.le_of_eq g207.symm)
                  have sz_b207 : h0.size ≤ b207 := Nat.le_trans Kp.1 (Nat.le_of_eq g207.symm)
                  have ne_b183_b207 : b183 ≠ b207 := Nat.ne_of_lt (Nat.lt_of_lt_of_le E_b183.lt (Nat.le_of_eq g207.symm))
                  have Sf_b207 : Safe Z ELs s.vm h205 b207 := Safe.new (Nat.le_of_eq g207.symm)
                  have Hd : CHr Z ELs s.vm h0 s.vm h207 := Hc.trans (CHr.ext E207 Hc.1)
                  have Sg_b207 : Safe Z ELs s.vm h207 b207 := Safe.ext E207 Hc.1 Sf_b207
                  have Sf_b207 := Sg_b207
                  have Hc := Hd
                  have Zs : n0 ≤ h207.size := Nat.le_trans Zs E207.1
                  have Ol : Old Z n0 h207 := Ol.ext E207
                  have Kp : Keep h0 h207 [] := Kp.ext E207
                  have E_b183 : Exa Z h207 b183 "[C" := E_b183.ext E207
                  have V_b183 : Arv Z h207 b183 k183 .char (11 : Int32) [(.int (nar .char (110 : Int32))), (.int (nar .char (111 : Int32))), (.int (nar .char (116 : Int32))), (.int (nar .char (105 : Int32))), (.int (nar .char (102 : Int32))), (.int (nar .char (105 : Int32))), (.int (nar .char (99 : Int32))), (.int (nar .char (97 : Int32))), (.int (nar .char (116 : Int32))), (.int (nar .char (105 : Int32))), (.int (nar .char (111 : Int32)))] (.int (0 : Int32)) := V_b183.ext E207
                  have E_b207 : Exa Z h207 b207 "java/lang/String" := A207
                  have F_coder_b207 : Fld Z h207 b207 "java/lang/String" "coder" "B" (.int (0 : Int32)) := D207 (Or.inr (hw _ (List.mem_of_getElem? (i := 32) rfl))) (ty := .byte) (by decide)
                  have F_value_b207 : Fld Z h207 b207 "java/lang/String" "value" "[B" .null := D207 (Or.inr (hw _ (List.mem_of_getElem? (i := 34) rfl))) (ty := (.array .byte)) (by decide)
                  obtain ⟨_, _, ⟨T208, L208, k208, n208⟩, -, X208, ⟨Lc208, hQ208, l208, y208, z208⟩, st208⟩ := X207.specialBack hx (y := (⟨"java/lang/String", "<init>", "([C)V"⟩ : MethodName)) rfl hown (mvT hZ (hw _ (List.mem_of_getElem? (i := 9) rfl))) (mvT hZ (hw _ (List.mem_of_getElem? (i := 10) rfl))) (mvT hZ (hw _ (List.mem_of_getElem? (i := 11) rfl))) (by decide) (own_new (W := 1) hZ hw g_b207 Zs E_b207 F_value_b207 F_coder_b207 (cs := [(nar .char (110 : Int32)), (nar .char (111 : Int32)), (nar .char (116 : Int32)), (nar .char (105 : Int32)), (nar .char (102 : Int32)), (nar .char (105 : Int32)), (nar .char (99 : Int32)), (nar .char (97 : Int32)), (nar .char (116 : Int32)), (nar .char (105 : Int32)), (nar .char (111 : Int32))]) (n := 11) V_b183 (Sta.ext Ol.2 S_COMPACT_STRINGS) hzc rfl rfl (by decide) (by decide) (alIS (by decide) (alIS (by decide) (alIS (by decide) (alIS (by decide) (alIS (by decide) (alIS (by decide) (alIS (by decide) (alIS (by decide) (alIS (by decide) (alIS (by decide) (alIS (by decide) alI0))))))))))) (by decide) (by decide)) (g := (mkF m 587 #[.val (.int p1), .val (.int p2), .val (.int p3), .val (.int p4), .val (.int p5), .val (.ref b183)] [(.ref b183), (.ref b207), (.ref b207)])) rfl (by rw [hml]; rfl) (Steps.refl _) (a := b207) (argsL := [(.ref b183)]) (rest := [(.ref b207)]) (lenOf pd_1 rfl) rfl (by show 2 * 0 + _ ≤ _; exact Nat.le_of_eq rfl) (hb hby d1_587) (fun _ _ => ⟨rfl, e207, (by decide : 2 + 1 ≤ _), (by decide : 15 + 11 ≤ _)⟩)
                  dsimp only [Pt.U, Pt.locs, Pt.cells, Pt.slots] at X208 l208 y208 z208 st208 hQ208
                  subst l208 y208 z208
                  obtain ⟨rfl, N208q, K208, T208x⟩ := hQ208
                  have Hd : CHr Z ELs s.vm h0 s.vm T208.heap := Hc.trans (CHr.keep K208 (allS (Sf_b207 : Safe Z ELs s.vm _ b207) all0) Hc.1)
                  have Sg_b207 : Safe Z ELs s.vm T208.heap b207 := Safe.keep K208 (allS (Sf_b207 : Safe Z ELs s.vm _ b207) all0) Hc.1 Sf_b207
                  have Sf_b207 := Sg_b207
                  have Hc := Hd
                  have Zs : n0 ≤ T208.heap.size := Nat.le_trans Zs K208.1
                  have Ol : Old Z n0 T208.heap := Ol.keep K208 (allS g_b207 all0)
                  have Kp : Keep h0 T208.heap [] := Kp.trans K208 (allS (Or.inr sz_b207) all0)
                  have E_b183 : Exa Z T208.heap b183 "[C" := E_b183.keep K208
                  have E_b207 : Exa Z T208.heap b207 "java/lang/String" := E_b207.keep K208
                  have T_b207 : Stx Z T208.heap b207 [(nar .char (110 : Int32)), (nar .char (111 : Int32)), (nar .char (116 : Int32)), (nar .char (105 : Int32)), (nar .char (102 : Int32)), (nar .char (105 : Int32)), (nar .char (99 : Int32)), (nar .char (97 : Int32)), (nar .char (116 : Int32)), (nar .char (105 : Int32)), (nar .char (111 : Int32))] := T208x
                  have N208 := Fr.app N205 N208q
                  obtain ⟨fs, hr, hrun, hended, hRW⟩ := X208.leaveW (s := s) (vm₁ := s.vm) ((State.WarmedH.refl s).since 0) (Nat.zero_le _) (v := some (.ref b207)) (fun h => by rw [Bd.returns] at h; cases h)
                  have hCR : CHr Z ELs s.vm h0 T208.vm T208.heap := Hc.trans (CHv.at X208 hZ hEL Hc.1)
                  refine ⟨_, _, pre206 _ ?_, hrun, hended, _, _, rfl, ?_, (by rw [hh]; show CHr Z ELs s.vm h0 T208.vm T208.heap; exact hCR), ⟨hRW.1, hRW.2.1, hRW.2.2.1, hRW.2.2.2.mono (by decide) (by decide)⟩⟩
                  · show Steps p.tables e below (T205.setTop (mkF m 559 #[.val (.int p1), .val (.int p2), .val (.int p3), .val (.int p4), .val (.int p5), .val (.ref b183)] [(.int p3)])) _
                    refine XS.ifYes X205.here hx rfl (pc0 := 559) (pc' := 581) rfl (hb hby d1_559) rfl ((if0 _ _).trans (teq hc559).1) (by decide) (by decide) ?_
                    show Steps p.tables e below (T205.setTop (mkF m 581 #[.val (.int p1), .val (.int p2), .val (.int p3), .val (.int p4), .val (.int p5), .val (.ref b183)] [])) _
                    refine st207 _ ?_
                    show Steps p.tables e below (T207.setTop (mkF m 584 #[.val (.int p1), .val (.int p2), .val (.int p3), .val (.int p4), .val (.int p5), .val (.ref b183)] [(.ref b207)])) _
                    refine XS.dup X207.here hx rfl (hb hby d1_584) rfl rfl ?_
                    show Steps p.tables e below (T207.setTop (mkF m 585 #[.val (.int p1), .val (.int p2), .val (.int p3), .val (.int p4), .val (.int p5), .val (.ref b183)] [(.ref b207), (.ref b207)])) _
                    refine XS.aload X207.here hx rfl (hb hby d1_585) rfl rfl ?_
                    show Steps p.tables e below (T207.setTop (mkF m 587 #[.val (.int p1), .val (.int p2), .val (.int p3), .val (.int p4), .val (.int p5), .val (.ref b183)] [(.ref b183), (.ref b207), (.ref b207)])) _
                    refine st208.trans ?_
                    show Steps p.tables e below (T208.setTop (mkF m 590 #[.val (.int p1), .val (.int p2), .val (.int p3), .val (.int p4), .val (.int p5), .val (.ref b183)] [(.ref b207)])) _
                    exact retOut X208 hx Bd.returns rfl (Or.inr (Or.inr (Or.inr (Or.inr ⟨rfl, rfl, rfl⟩)))) (hb hby d1_590) hr
                  · show QB Z p1 p2 p3 p4 p5 zc h0 n0 _ T208.heap _
                    exact ⟨b207, [(nar .char (110 : Int32)), (nar .char (111 : Int32)), (nar .char (116 : Int32)), (nar .char (105 : Int32)), (nar .char (102 : Int32)), (nar .char (105 : Int32)), (nar .char (99 : Int32)), (nar .char (97 : Int32)), (nar .char (116 : Int32)), (nar .char (105 : Int32)), (nar .char (111 : Int32))], rfl, N208, Kp, E_b207, T_b207⟩
                ·
                  obtain ⟨cl209, Ar209, hl209⟩ := Arv.len V_b183 (by decide)
                  have ia209 := State.isArrayOf_alike hZ.alike Ar209.2.1
                  obtain ⟨cl210, Ar210, hl210⟩ := Arv.len V_b183 (by decide)
                  have ia210 := State.isArrayOf_alike hZ.alike Ar210.2.1
                  obtain ⟨cl211, Ar211, q211, S211, M211, H211, G211⟩ := V_b183
                  obtain ⟨T212, h212, X212, e212, W212, st212⟩ := stC X205 hx hZ e205 Ar211 (j := ((p2 &&& (2147483647 : Int32)) % (11 : Int32))) (inb_of S211 (own_rem p2 (by decide))) (g := (mkF m 580 #[.val (.int p1), .val (.int p2), .val (.int p3), .val (.int p4), .val (.int p5), .val (.ref b183)] [(.int p5), (.int ((p2 &&& (2147483647 : Int32)) % (11 : Int32))), (.ref b183)])) rfl rfl (hb hby d1_580)
                  have N212 := Fr.snoc X212 N205 g_b183
                  have Sw := ((Safe.exa hZ.alike E_b183 (by decide) (by decide)) : Safe Z ELs s.vm _ b183)
                  have Hd : CHr Z ELs s.vm h0 s.vm h212 := Hc.trans (CHr.wr W212 Sw Hc.1)
                  have Hc := Hd
                  have Zs : n0 ≤ h212.size := Nat.le_trans Zs (Keep.of_wr W212).1
                  have Ol : Old Z n0 h212 := Ol.wr W212 g_b183
                  have Kp : Keep h0 h212 [] := Kp.wr W212 (Or.inr sz_b183)
                  have E_b183 : Exa Z h212 b183 "[C" := E_b183.wr W212
                  have V_b183 : Arv Z h212 b183 k183 .char (11 : Int32) ((([(nar .char (110 : Int32)), (nar .char (111 : Int32)), (nar .char (116 : Int32)), (nar .char (105 : Int32)), (nar .char (102 : Int32)), (nar .char (105 : Int32)), (nar .char (99 : Int32)), (nar .char (97 : Int32)), (nar .char (116 : Int32)), (nar .char (105 : Int32)), (nar .char (111 : Int32))] : List Int32).set ((p2 &&& (2147483647 : Int32)) % (11 : Int32)).toNatClampNeg (nar .char p5)).map Value.int) (.int (0 : Int32)) := by rw [List.map_set]; exact Arv.set Ar211 q211 S211 M211 H211 G211 (fits_nar_char _) W212 _ rfl (own_ix (own_rem p2 (by decide)) (Nat.le_of_eq rfl))
                  obtain ⟨T213, h213, X213, e213, E213, A213, D213, -, st213⟩ := newO X212 hx hZ hown (hw _ (List.mem_of_getElem? (i := 6) rfl)) (hw _ (List.mem_of_getElem? (i := 7) rfl)) (hw _ (List.mem_of_getElem? (i := 8) rfl)) e212 (g := (mkF m 581 #[.val (.int p1), .val (.int p2), .val (.int p3), .val (.int p4), .val (.int p5), .val (.ref b183)] [])) rfl (hb hby d1_581) (by decide) (by decide)
                  obtain ⟨b213, g213⟩ : ∃ z, z = h212.size := ⟨_, rfl⟩
                  rw [← g213] at A213 D213 st213
                  have g_b213 : n0 ≤ b213 := Nat.le_trans Zs (Nat.le_of_eq g213.symm)
                  have sz_b213 : h0.size ≤ b213 := Nat.le_trans Kp.1 (Nat.le_of_eq g213.symm)
                  have ne_b183_b213 : b183 ≠ b213 := Nat.ne_of_lt (Nat.lt_of_lt_of_le E_b183.lt (Nat.le_of_eq g213.symm))
                  have Sf_b213 : Safe Z ELs s.vm h212 b213 := Safe.new (Nat.le_of_eq g213.symm)
                  have Hd : CHr Z ELs s.vm h0 s.vm h213 := Hc.trans (CHr.ext E213 Hc.1)
                  have Sg_b213 : Safe Z ELs s.vm h213 b213 := Safe.ext E213 Hc.1 Sf_b213
                  have Sf_b213 := Sg_b213
                  have Hc := Hd
                  have Zs : n0 ≤ h213.size := Nat.le_trans Zs E213.1
                  have Ol : Old Z n0 h213 := Ol.ext E213
                  have Kp : Keep h0 h213 [] := Kp.ext E213
                  have E_b183 : Exa Z h213 b183 "[C" := E_b183.ext E213
                  have V_b183 : Arv Z h213 b183 k183 .char (11 : Int32) ((([(nar .char (110 : Int32)), (nar .char (111 : Int32)), (nar .char (116 : Int32)), (nar .char (105 : Int32)), (nar .char (102 : Int32)), (nar .char (105 : Int32)), (nar .char (99 : Int32)), (nar .char (97 : Int32)), (nar .char (116 : Int32)), (nar .char (105 : Int32)), (nar .char (111 : Int32))] : List Int32).set ((p2 &&& (2147483647 : Int32)) % (11 : Int32)).toNatClampNeg (nar .char p5)).map Value.int) (.int (0 : Int32)) := V_b183.ext E213
                  have E_b213 : Exa Z h213 b213 "java/lang/String" := A213
                  have F_coder_b213 : Fld Z h213 b213 "java/lang/String" "coder" "B" (.int (0 : Int32)) := D213 (Or.inr (hw _ (List.mem_of_getElem? (i := 32) rfl))) (ty := .byte) (by decide)
                  have F_value_b213 : Fld Z h213 b213 "java/lang/String" "value" "[B" .null := D213 (Or.inr (hw _ (List.mem_of_getElem? (i := 34) rfl))) (ty := (.array .byte)) (by decide)
                  obtain ⟨_, _, ⟨T214, L214, k214, n214⟩, -, X214, ⟨Lc214, hQ214, l214, y214, z214⟩, st214⟩ := X213.specialBack hx (y := (⟨"java/lang/String", "<init>", "([C)V"⟩ : MethodName)) rfl hown (mvT hZ (hw _ (List.mem_of_getElem? (i := 9) rfl))) (mvT hZ (hw _ (List.mem_of_getElem? (i := 10) rfl))) (mvT hZ (hw _ (List.mem_of_getElem? (i := 11) rfl))) (by decide) (own_new (W := 1) hZ hw g_b213 Zs E_b213 F_value_b213 F_coder_b213 (cs := (([(nar .char (110 : Int32)), (nar .char (111 : Int32)), (nar .char (116 : Int32)), (nar .char (105 : Int32)), (nar .char (102 : Int32)), (nar .char (105 : Int32)), (nar .char (99 : Int32)), (nar .char (97 : Int32)), (nar .char (116 : Int32)), (nar .char (105 : Int32)), (nar .char (111 : Int32))] : List Int32).set ((p2 &&& (2147483647 : Int32)) % (11 : Int32)).toNatClampNeg (nar .char p5))) (n := 11) V_b183 (Sta.ext Ol.2 S_COMPACT_STRINGS) hzc (by rw [List.length_set]; rfl) rfl (by decide) (by decide) (own_set (alIS (by decide) (alIS (by decide) (alIS (by decide) (alIS (by decide) (alIS (by decide) (alIS (by decide) (alIS (by decide) (alIS (by decide) (alIS (by decide) (alIS (by decide) (alIS (by decide) alI0))))))))))) hd) (by decide) (by decide)) (g := (mkF m 587 #[.val (.int p1), .val (.int p2), .val (.int p3), .val (.int p4), .val (.int p5), .val (.ref b183)] [(.ref b183), (.ref b213), (.ref b213)])) rfl (by rw [hml]; rfl) (Steps.refl _) (a := b213) (argsL := [(.ref b183)]) (rest := [(.ref b213)]) (lenOf pd_1 rfl) rfl (by show 2 * 0 + _ ≤ _; exact Nat.le_of_eq rfl) (hb hby d1_587) (fun _ _ => ⟨rfl, e213, (by decide : 2 + 1 ≤ _), (by decide : 15 + 11 ≤ _)⟩)
                  dsimp only [Pt.U, Pt.locs, Pt.cells, Pt.slots] at X214 l214 y214 z214 st214 hQ214
                  subst l214 y214 z214
                  obtain ⟨rfl, N214q, K214, T214x⟩ := hQ214
                  have Hd : CHr Z ELs s.vm h0 s.vm T214.heap := Hc.trans (CHr.keep K214 (allS (Sf_b213 : Safe Z ELs s.vm _ b213) all0) Hc.1)
                  have Sg_b213 : Safe Z ELs s.vm T214.heap b213 := Safe.keep K214 (allS (Sf_b213 : Safe Z ELs s.vm _ b213) all0) Hc.1 Sf_b213
                  have Sf_b213 := Sg_b213
                  have Hc := Hd
                  have Zs : n0 ≤ T214.heap.size := Nat.le_trans Zs K214.1
                  have Ol : Old Z n0 T214.heap := Ol.keep K214 (allS g_b213 all0)
                  have Kp : Keep h0 T214.heap [] := Kp.trans K214 (allS (Or.inr sz_b213) all0)
                  have E_b183 : Exa Z T214.heap b183 "[C" := E_b183.keep K214
                  have E_b213 : Exa Z T214.heap b213 "java/lang/String" := E_b213.keep K214
                  have T_b213 : Stx Z T214.heap b213 (([(nar .char (110 : Int32)), (nar .char (111 : Int32)), (nar .char (116 : Int32)), (nar .char (105 : Int32)), (nar .char (102 : Int32)), (nar .char (105 : Int32)), (nar .char (99 : Int32)), (nar .char (97 : Int32)), (nar .char (116 : Int32)), (nar .char (105 : Int32)), (nar .char (111 : Int32))] : List Int32).set ((p2 &&& (2147483647 : Int32)) % (11 : Int32)).toNatClampNeg (nar .char p5)) := T214x
                  have N214 := Fr.app N212 N214q
                  obtain ⟨fs, hr, hrun, hended, hRW⟩ := X214.leaveW (s := s) (vm₁ := s.vm) ((State.WarmedH.refl s).since 0) (Nat.zero_le _) (v := some (.ref b213)) (fun h => by rw [Bd.returns] at h; cases h)
                  have hCR : CHr Z ELs s.vm h0 T214.vm T214.heap := Hc.trans (CHv.at X214 hZ hEL Hc.1)
                  refine ⟨_, _, pre206 _ ?_, hrun, hended, _, _, rfl, ?_, (by rw [hh]; show CHr Z ELs s.vm h0 T214.vm T214.heap; exact hCR), ⟨hRW.1, hRW.2.1, hRW.2.2.1, hRW.2.2.2.mono (by decide) (by decide)⟩⟩
                  · show Steps p.tables e below (T205.setTop (mkF m 559 #[.val (.int p1), .val (.int p2), .val (.int p3), .val (.int p4), .val (.int p5), .val (.ref b183)] [(.int p3)])) _
                    refine XS.ifNo X205.here hx rfl (hb hby d1_559) rfl ((if0 _ _).trans (feq hc559).1) ?_
                    show Steps p.tables e below (T205.setTop (mkF m 562 #[.val (.int p1), .val (.int p2), .val (.int p3), .val (.int p4), .val (.int p5), .val (.ref b183)] [])) _
                    refine XS.aload X205.here hx rfl (hb hby d1_562) rfl rfl ?_
                    show Steps p.tables e below (T205.setTop (mkF m 564 #[.val (.int p1), .val (.int p2), .val (.int p3), .val (.int p4), .val (.int p5), .val (.ref b183)] [(.ref b183)])) _
                    refine X205.arraylength hx (by rw [e205]; exact Ar209.1) ia209 (g := (mkF m 564 #[.val (.int p1), .val (.int p2), .val (.int p3), .val (.int p4), .val (.int p5), .val (.ref b183)] [(.ref b183)])) rfl rfl (hb hby d1_564) _ ?_
                    rw [hl209]
                    show Steps p.tables e below (T205.setTop (mkF m 565 #[.val (.int p1), .val (.int p2), .val (.int p3), .val (.int p4), .val (.int p5), .val (.ref b183)] [(.int (11 : Int32))])) _
                    refine XS.ifNo X205.here hx rfl (hb hby d1_565) rfl ((if0 _ _).trans (tlt (by decide)).2.2.2) ?_
                    show Steps p.tables e below (T205.setTop (mkF m 568 #[.val (.int p1), .val (.int p2), .val (.int p3), .val (.int p4), .val (.int p5), .val (.ref b183)] [])) _
                    refine XS.aload X205.here hx rfl (hb hby d1_568) rfl rfl ?_
                    show Steps p.tables e below (T205.setTop (mkF m 570 #[.val (.int p1), .val (.int p2), .val (.int p3), .val (.int p4), .val (.int p5), .val (.ref b183)] [(.ref b183)])) _
                    refine XS.iloadN X205.here hx rfl (hb hby d1_570) rfl ?_
                    show Steps p.tables e below (T205.setTop (mkF m 571 #[.val (.int p1), .val (.int p2), .val (.int p3), .val (.int p4), .val (.int p5), .val (.ref b183)] [(.int p2), (.ref b183)])) _
                    refine X205.ldcInt hx hown (mvT hZ (hw _ (List.mem_of_getElem? (i := 0) rfl))) (g := (mkF m 571 #[.val (.int p1), .val (.int p2), .val (.int p3), .val (.int p4), .val (.int p5), .val (.ref b183)] [(.int p2), (.ref b183)])) rfl (hb hby d1_571) _ ?_
                    show Steps p.tables e below (T205.setTop (mkF m 573 #[.val (.int p1), .val (.int p2), .val (.int p3), .val (.int p4), .val (.int p5), .val (.ref b183)] [(.int (2147483647 : Int32)), (.int p2), (.ref b183)])) _
                    refine XS.iand X205.here hx rfl (hb hby d1_573) rfl ?_
                    show Steps p.tables e below (T205.setTop (mkF m 574 #[.val (.int p1), .val (.int p2), .val (.int p3), .val (.int p4), .val (.int p5), .val (.ref b183)] [(.int (p2 &&& (2147483647 : Int32))), (.ref b183)])) _
                    refine XS.aload X205.here hx rfl (hb hby d1_574) rfl rfl ?_
                    show Steps p.tables e below (T205.setTop (mkF m 576 #[.val (.int p1), .val (.int p2), .val (.int p3), .val (.int p4), .val (.int p5), .val (.ref b183)] [(.ref b183), (.int (p2 &&& (2147483647 : Int32))), (.ref b183)])) _
                    refine X205.arraylength hx (by rw [e205]; exact Ar210.1) ia210 (g := (mkF m 576 #[.val (.int p1), .val (.int p2), .val (.int p3), .val (.int p4), .val (.int p5), .val (.ref b183)] [(.ref b183), (.int (p2 &&& (2147483647 : Int32))), (.ref b183)])) rfl rfl (hb hby d1_576) _ ?_
                    rw [hl210]
                    show Steps p.tables e below (T205.setTop (mkF m 577 #[.val (.int p1), .val (.int p2), .val (.int p3), .val (.int p4), .val (.int p5), .val (.ref b183)] [(.int (11 : Int32)), (.int (p2 &&& (2147483647 : Int32))), (.ref b183)])) _
                    refine iremM X205 hx rfl (hb hby d1_577) rfl (by decide) ?_
                    show Steps p.tables e below (T205.setTop (mkF m 578 #[.val (.int p1), .val (.int p2), .val (.int p3), .val (.int p4), .val (.int p5), .val (.ref b183)] [(.int ((p2 &&& (2147483647 : Int32)) % (11 : Int32))), (.ref b183)])) _
                    refine XS.iload X205.here hx rfl (hb hby d1_578) rfl ?_
                    show Steps p.tables e below (T205.setTop (mkF m 580 #[.val (.int p1), .val (.int p2), .val (.int p3), .val (.int p4), .val (.int p5), .val (.ref b183)] [(.int p5), (.int ((p2 &&& (2147483647 : Int32)) % (11 : Int32))), (.ref b183)])) _
                    refine st212 _ ?_
                    show Steps p.tables e below (T212.setTop (mkF m 581 #[.val (.int p1), .val (.int p2), .val (.int p3), .val (.int p4), .val (.int p5), .val (.ref b183)] [])) _
                    refine st213 _ ?_
                    show Steps p.tables e below (T213.setTop (mkF m 584 #[.val (.int p1), .val (.int p2), .val (.int p3), .val (.int p4), .val (.int p5), .val (.ref b183)] [(.ref b213)])) _
                    refine XS.dup X213.here hx rfl (hb hby d1_584) rfl rfl ?_
                    show Steps p.tables e below (T213.setTop (mkF m 585 #[.val (.int p1), .val (.int p2), .val (.int p3), .val (.int p4), .val (.int p5), .val (.ref b183)] [(.ref b213), (.ref b213)])) _
                    refine XS.aload X213.here hx rfl (hb hby d1_585) rfl rfl ?_
                    show Steps p.tables e below (T213.setTop (mkF m 587 #[.val (.int p1), .val (.int p2), .val (.int p3), .val (.int p4), .val (.int p5), .val (.ref b183)] [(.ref b183), (.ref b213), (.ref b213)])) _
                    refine st214.trans ?_
                    show Steps p.tables e below (T214.setTop (mkF m 590 #[.val (.int p1), .val (.int p2), .val (.int p3), .val (.int p4), .val (.int p5), .val (.ref b183)] [(.ref b213)])) _
                    exact retOut X214 hx Bd.returns rfl (Or.inr (Or.inr (Or.inr (Or.inr ⟨rfl, rfl, rfl⟩)))) (hb hby d1_590) hr
                  · show QB Z p1 p2 p3 p4 p5 zc h0 n0 _ T214.heap _
                    exact ⟨b213, (([(nar .char (110 : Int32)), (nar .char (111 : Int32)), (nar .char (116 : Int32)), (nar .char (105 : Int32)), (nar .char (102 : Int32)), (nar .char (105 : Int32)), (nar .char (99 : Int32)), (nar .char (97 : Int32)), (nar .char (116 : Int32)), (nar .char (105 : Int32)), (nar .char (111 : Int32))] : List Int32).set ((p2 &&& (2147483647 : Int32)) % (11 : Int32)).toNatClampNeg (nar .char p5)), rfl, N214, Kp, E_b213, T_b213⟩
              ·
                have pre215 : ∀ t, Steps p.tables e below (s₁.setTop (mkF m 448 #[.val (.int p1), .val (.int p2), .val (.int p3), .val (.int p4), .val (.int p5), .unset] [(.int (7 : Int32)), (.int p1)])) t → Steps p.tables e below (s₁.setTop (entryFrame m #[(.int p1), (.int p2), (.int p3), (.int p4), (.int p5)] 6)) t := fun t k => pre182 t (by
                  show Steps p.tables e below (s₁.setTop (mkF m 373 #[.val (.int p1), .val (.int p2), .val (.int p3), .val (.int p4), .val (.int p5), .unset] [(.int (6 : Int32)), (.int p1)])) _
                  refine XS.icmpYes X0.here hx rfl (pc0 := 373) (pc' := 445) rfl (hb hby d1_373) rfl (feq hc373).2 (by decide) (by decide) ?_
                  show Steps p.tables e below (s₁.setTop (mkF m 445 #[.val (.int p1), .val (.int p2), .val (.int p3), .val (.int p4), .val (.int p5), .unset] [])) _
                  refine XS.iloadN X0.here hx rfl (hb hby d1_445) rfl ?_
                  show Steps p.tables e below (s₁.setTop (mkF m 446 #[.val (.int p1), .val (.int p2), .val (.int p3), .val (.int p4), .val (.int p5), .unset] [(.int p1)])) _
                  refine XS.bipush X0.here hx rfl (hb hby d1_446) ?_
                  exact k)
                by_cases hc448 : p1 = (7 : Int32)
                ·
                  obtain ⟨T216, h216, k216, X216, e216, E216, A216, B216, st216⟩ := newPE X0 hx hZ (hw _ (List.mem_of_getElem? (i := 5) rfl)) e0 (g := (mkF m 453 #[.val (.int p1), .val (.int p2), .val (.int p3), .val (.int p4), .val (.int p5), .unset] [(.int (7 : Int32))])) rfl (hb hby d1_453) rfl (by decide) (cap := 7) (by decide) (by decide) (by decide) (by decide) (ad := "[C") (by decide)
                  obtain ⟨b216, g216⟩ : ∃ z, z = h0.size := ⟨_, rfl⟩
                  rw [← g216] at A216 B216 st216
                  have g_b216 : n0 ≤ b216 := Nat.le_trans Zs (Nat.le_of_eq g216.symm)
                  have sz_b216 : h0.size ≤ b216 := Nat.le_trans Kp.1 (Nat.le_of_eq g216.symm)
                  have Hd : CHr Z ELs s.vm h0 s.vm h216 := Hc.trans (CHr.ext E216 Hc.1)
                  have Hc := Hd
                  have Zs : n0 ≤ h216.size := Nat.le_trans Zs E216.1
                  have Ol : Old Z n0 h216 := Ol.ext E216
                  have Kp : Keep h0 h216 [] := Kp.ext E216
                  have E_b216 : Exa Z h216 b216 "[C" := B216
                  have V_b216 : Arv Z h216 b216 k216 .char (7 : Int32) [(.int (0 : Int32)), (.int (0 : Int32)), (.int (0 : Int32)), (.int (0 : Int32)), (.int (0 : Int32)), (.int (0 : Int32)), (.int (0 : Int32))] (.int (0 : Int32)) := (Arv.new A216 (by decide)).pad (pad_rep [] (.int (0 : Int32)) 7)
                  obtain ⟨cl217, Ar217, q217, S217, M217, H217, G217⟩ := V_b216
                  obtain ⟨T218, h218, X218, e218, W218, st218⟩ := stC X216 hx hZ e216 Ar217 (j := (0 : Int32)) (inb_of S217 (by decide)) (g := (mkF m 459 #[.val (.int p1), .val (.int p2), .val (.int p3), .val (.int p4), .val (.int p5), .unset] [(.int (115 : Int32)), (.int (0 : Int32)), (.ref b216), (.ref b216)])) rfl rfl (hb hby d1_459)
                  have N218 := Fr.snoc X218 N0 g_b216
                  have Sw := ((Safe.exa hZ.alike E_b216 (by decide) (by decide)) : Safe Z ELs s.vm _ b216)
                  have Hd : CHr Z ELs s.vm h0 s.vm h218 := Hc.trans (CHr.wr W218 Sw Hc.1)
                  have Hc := Hd
                  have Zs : n0 ≤ h218.size := Nat.le_trans Zs (Keep.of_wr W218).1
                  have Ol : Old Z n0 h218 := Ol.wr W218 g_b216
                  have Kp : Keep h0 h218 [] := Kp.wr W218 (Or.inr sz_b216)
                  have E_b216 : Exa Z h218 b216 "[C" := E_b216.wr W218
                  have V_b216 : Arv Z h218 b216 k216 .char (7 : Int32) [(.int (nar .char (115 : Int32))), (.int (0 : Int32)), (.int (0 : Int32)), (.int (0 : Int32)), (.int (0 : Int32)), (.int (0 : Int32)), (.int (0 : Int32))] (.int (0 : Int32)) := Arv.set Ar217 q217 S217 M217 H217 G217 (fits_nar_char _) W218 0 rfl (Nat.le_of_ble_eq_true rfl)
                  obtain ⟨cl219, Ar219, q219, S219, M219, H219, G219⟩ := V_b216
                  obtain ⟨T220, h220, X220, e220, W220, st220⟩ := stC X218 hx hZ e218 Ar219 (j := (1 : Int32)) (inb_of S219 (by decide)) (g := (mkF m 464 #[.val (.int p1), .val (.int p2), .val (.int p3), .val (.int p4), .val (.int p5), .unset] [(.int (110 : Int32)), (.int (1 : Int32)), (.ref b216), (.ref b216)])) rfl rfl (hb hby d1_464)
                  have N220 := Fr.snoc X220 N218 g_b216
                  have Sw := ((Safe.exa hZ.alike E_b216 (by decide) (by decide)) : Safe Z ELs s.vm _ b216)
                  have Hd : CHr Z ELs s.vm h0 s.vm h220 := Hc.trans (CHr.wr W220 Sw Hc.1)
                  have Hc := Hd
                  have Zs : n0 ≤ h220.size := Nat.le_trans Zs (Keep.of_wr W220).1
                  have Ol : Old Z n0 h220 := Ol.wr W220 g_b216
                  have Kp : Keep h0 h220 [] := Kp.wr W220 (Or.inr sz_b216)
                  have E_b216 : Exa Z h220 b216 "[C" := E_b216.wr W220
                  have V_b216 : Arv Z h220 b216 k216 .char (7 : Int32) [(.int (nar .char (115 : Int32))), (.int (nar .char (110 : Int32))), (.int (0 : Int32)), (.int (0 : Int32)), (.int (0 : Int32)), (.int (0 : Int32)), (.int (0 : Int32))] (.int (0 : Int32)) := Arv.set Ar219 q219 S219 M219 H219 G219 (fits_nar_char _) W220 1 rfl (Nat.le_of_ble_eq_true rfl)
                  obtain ⟨cl221, Ar221, q221, S221, M221, H221, G221⟩ := V_b216
                  obtain ⟨T222, h222, X222, e222, W222, st222⟩ := stC X220 hx hZ e220 Ar221 (j := (2 : Int32)) (inb_of S221 (by decide)) (g := (mkF m 469 #[.val (.int p1), .val (.int p2), .val (.int p3), .val (.int p4), .val (.int p5), .unset] [(.int (97 : Int32)), (.int (2 : Int32)), (.ref b216), (.ref b216)])) rfl rfl (hb hby d1_469)
                  have N222 := Fr.snoc X222 N220 g_b216
                  have Sw := ((Safe.exa hZ.alike E_b216 (by decide) (by decide)) : Safe Z ELs s.vm _ b216)
                  have Hd : CHr Z ELs s.vm h0 s.vm h222 := Hc.trans (CHr.wr W222 Sw Hc.1)
                  have Hc := Hd
                  have Zs : n0 ≤ h222.size := Nat.le_trans Zs (Keep.of_wr W222).1
                  have Ol : Old Z n0 h222 := Ol.wr W222 g_b216
                  have Kp : Keep h0 h222 [] := Kp.wr W222 (Or.inr sz_b216)
                  have E_b216 : Exa Z h222 b216 "[C" := E_b216.wr W222
                  have V_b216 : Arv Z h222 b216 k216 .char (7 : Int32) [(.int (nar .char (115 : Int32))), (.int (nar .char (110 : Int32))), (.int (nar .char (97 : Int32))), (.int (0 : Int32)), (.int (0 : Int32)), (.int (0 : Int32)), (.int (0 : Int32))] (.int (0 : Int32)) := Arv.set Ar221 q221 S221 M221 H221 G221 (fits_nar_char _) W222 2 rfl (Nat.le_of_ble_eq_true rfl)
                  obtain ⟨cl223, Ar223, q223, S223, M223, H223, G223⟩ := V_b216
                  obtain ⟨T224, h224, X224, e224, W224, st224⟩ := stC X222 hx hZ e222 Ar223 (j := (3 : Int32)) (inb_of S223 (by decide)) (g := (mkF m 474 #[.val (.int p1), .val (.int p2), .val (.int p3), .val (.int p4), .val (.int p5), .unset] [(.int (112 : Int32)), (.int (3 : Int32)), (.ref b216), (.ref b216)])) rfl rfl (hb hby d1_474)
                  have N224 := Fr.snoc X224 N222 g_b216
                  have Sw := ((Safe.exa hZ.alike E_b216 (by decide) (by decide)) : Safe Z ELs s.vm _ b216)
                  have Hd : CHr Z ELs s.vm h0 s.vm h224 := Hc.trans (CHr.wr W224 Sw Hc.1)
                  have Hc := Hd
                  have Zs : n0 ≤ h224.size := Nat.le_trans Zs (Keep.of_wr W224).1
                  have Ol : Old Z n0 h224 := Ol.wr W224 g_b216
                  have Kp : Keep h0 h224 [] := Kp.wr W224 (Or.inr sz_b216)
                  have E_b216 : Exa Z h224 b216 "[C" := E_b216.wr W224
                  have V_b216 : Arv Z h224 b216 k216 .char (7 : Int32) [(.int (nar .char (115 : Int32))), (.int (nar .char (110 : Int32))), (.int (nar .char (97 : Int32))), (.int (nar .char (112 : Int32))), (.int (0 : Int32)), (.int (0 : Int32)), (.int (0 : Int32))] (.int (0 : Int32)) := Arv.set Ar223 q223 S223 M223 H223 G223 (fits_nar_char _) W224 3 rfl (Nat.le_of_ble_eq_true rfl)
                  obtain ⟨cl225, Ar225, q225, S225, M225, H225, G225⟩ := V_b216
                  obtain ⟨T226, h226, X226, e226, W226, st226⟩ := stC X224 hx hZ e224 Ar225 (j := (4 : Int32)) (inb_of S225 (by decide)) (g := (mkF m 479 #[.val (.int p1), .val (.int p2), .val (.int p3), .val (.int p4), .val (.int p5), .unset] [(.int (115 : Int32)), (.int (4 : Int32)), (.ref b216), (.ref b216)])) rfl rfl (hb hby d1_479)
                  have N226 := Fr.snoc X226 N224 g_b216
                  have Sw := ((Safe.exa hZ.alike E_b216 (by decide) (by decide)) : Safe Z ELs s.vm _ b216)
                  have Hd : CHr Z ELs s.vm h0 s.vm h226 := Hc.trans (CHr.wr W226 Sw Hc.1)
                  have Hc := Hd
                  have Zs : n0 ≤ h226.size := Nat.le_trans Zs (Keep.of_wr W226).1
                  have Ol : Old Z n0 h226 := Ol.wr W226 g_b216
                  have Kp : Keep h0 h226 [] := Kp.wr W226 (Or.inr sz_b216)
                  have E_b216 : Exa Z h226 b216 "[C" := E_b216.wr W226
                  have V_b216 : Arv Z h226 b216 k216 .char (7 : Int32) [(.int (nar .char (115 : Int32))), (.int (nar .char (110 : Int32))), (.int (nar .char (97 : Int32))), (.int (nar .char (112 : Int32))), (.int (nar .char (115 : Int32))), (.int (0 : Int32)), (.int (0 : Int32))] (.int (0 : Int32)) := Arv.set Ar225 q225 S225 M225 H225 G225 (fits_nar_char _) W226 4 rfl (Nat.le_of_ble_eq_true rfl)
                  obtain ⟨cl227, Ar227, q227, S227, M227, H227, G227⟩ := V_b216
                  obtain ⟨T228, h228, X228, e228, W228, st228⟩ := stC X226 hx hZ e226 Ar227 (j := (5 : Int32)) (inb_of S227 (by decide)) (g := (mkF m 484 #[.val (.int p1), .val (.int p2), .val (.int p3), .val (.int p4), .val (.int p5), .unset] [(.int (104 : Int32)), (.int (5 : Int32)), (.ref b216), (.ref b216)])) rfl rfl (hb hby d1_484)
                  have N228 := Fr.snoc X228 N226 g_b216
                  have Sw := ((Safe.exa hZ.alike E_b216 (by decide) (by decide)) : Safe Z ELs s.vm _ b216)
                  have Hd : CHr Z ELs s.vm h0 s.vm h228 := Hc.trans (CHr.wr W228 Sw Hc.1)
                  have Hc := Hd
                  have Zs : n0 ≤ h228.size := Nat.le_trans Zs (Keep.of_wr W228).1
                  have Ol : Old Z n0 h228 := Ol.wr W228 g_b216
                  have Kp : Keep h0 h228 [] := Kp.wr W228 (Or.inr sz_b216)
                  have E_b216 : Exa Z h228 b216 "[C" := E_b216.wr W228
                  have V_b216 : Arv Z h228 b216 k216 .char (7 : Int32) [(.int (nar .char (115 : Int32))), (.int (nar .char (110 : Int32))), (.int (nar .char (97 : Int32))), (.int (nar .char (112 : Int32))), (.int (nar .char (115 : Int32))), (.int (nar .char (104 : Int32))), (.int (0 : Int32))] (.int (0 : Int32)) := Arv.set Ar227 q227 S227 M227 H227 G227 (fits_nar_char _) W228 5 rfl (Nat.le_of_ble_eq_true rfl)
                  obtain ⟨cl229, Ar229, q229, S229, M229, H229, G229⟩ := V_b216
                  obtain ⟨T230, h230, X230, e230, W230, st230⟩ := stC X228 hx hZ e228 Ar229 (j := (6 : Int32)) (inb_of S229 (by decide)) (g := (mkF m 490 #[.val (.int p1), .val (.int p2), .val (.int p3), .val (.int p4), .val (.int p5), .unset] [(.int (111 : Int32)), (.int (6 : Int32)), (.ref b216), (.ref b216)])) rfl rfl (hb hby d1_490)
                  have N230 := Fr.snoc X230 N228 g_b216
                  have Sw := ((Safe.exa hZ.alike E_b216 (by decide) (by decide)) : Safe Z ELs s.vm _ b216)
                  have Hd : CHr Z ELs s.vm h0 s.vm h230 := Hc.trans (CHr.wr W230 Sw Hc.1)
                  have Hc := Hd
                  have Zs : n0 ≤ h230.size := Nat.le_trans Zs (Keep.of_wr W230).1
                  have Ol : Old Z n0 h230 := Ol.wr W230 g_b216
                  have Kp : Keep h0 h230 [] := Kp.wr W230 (Or.inr sz_b216)
                  have E_b216 : Exa Z h230 b216 "[C" := E_b216.wr W230
                  have V_b216 : Arv Z h230 b216 k216 .char (7 : Int32) [(.int (nar .char (115 : Int32))), (.int (nar .char (110 : Int32))), (.int (nar .char (97 : Int32))), (.int (nar .char (112 : Int32))), (.int (nar .char (115 : Int32))), (.int (nar .char (104 : Int32))), (.int (nar .char (111 : Int32)))] (.int (0 : Int32)) := Arv.set Ar229 q229 S229 M229 H229 G229 (fits_nar_char _) W230 6 rfl (Nat.le_of_ble_eq_true rfl)
                  have pre231 : ∀ t, Steps p.tables e below (T230.setTop (mkF m 559 #[.val (.int p1), .val (.int p2), .val (.int p3), .val (.int p4), .val (.int p5), .val (.ref b216)] [(.int p3)])) t → Steps p.tables e below (s₁.setTop (entryFrame m #[(.int p1), (.int p2), (.int p3), (.int p4), (.int p5)] 6)) t := fun t k => pre215 t (by
                    show Steps p.tables e below (s₁.setTop (mkF m 448 #[.val (.int p1), .val (.int p2), .val (.int p3), .val (.int p4), .val (.int p5), .unset] [(.int (7 : Int32)), (.int p1)])) _
                    refine XS.icmpNo X0.here hx rfl (hb hby d1_448) rfl (teq hc448).2 ?_
                    show Steps p.tables e below (s₁.setTop (mkF m 451 #[.val (.int p1), .val (.int p2), .val (.int p3), .val (.int p4), .val (.int p5), .unset] [])) _
                    refine XS.bipush X0.here hx rfl (hb hby d1_451) ?_
                    show Steps p.tables e below (s₁.setTop (mkF m 453 #[.val (.int p1), .val (.int p2), .val (.int p3), .val (.int p4), .val (.int p5), .unset] [(.int (7 : Int32))])) _
                    refine st216 _ ?_
                    show Steps p.tables e below (T216.setTop (mkF m 455 #[.val (.int p1), .val (.int p2), .val (.int p3), .val (.int p4), .val (.int p5), .unset] [(.ref b216)])) _
                    refine XS.dup X216.here hx rfl (hb hby d1_455) rfl rfl ?_
                    show Steps p.tables e below (T216.setTop (mkF m 456 #[.val (.int p1), .val (.int p2), .val (.int p3), .val (.int p4), .val (.int p5), .unset] [(.ref b216), (.ref b216)])) _
                    refine XS.iconst X216.here hx rfl (hb hby d1_456) ?_
                    show Steps p.tables e below (T216.setTop (mkF m 457 #[.val (.int p1), .val (.int p2), .val (.int p3), .val (.int p4), .val (.int p5), .unset] [(.int (0 : Int32)), (.ref b216), (.ref b216)])) _
                    refine XS.bipush X216.here hx rfl (hb hby d1_457) ?_
                    show Steps p.tables e below (T216.setTop (mkF m 459 #[.val (.int p1), .val (.int p2), .val (.int p3), .val (.int p4), .val (.int p5), .unset] [(.int (115 : Int32)), (.int (0 : Int32)), (.ref b216), (.ref b216)])) _
                    refine st218 _ ?_
                    show Steps p.tables e below (T218.setTop (mkF m 460 #[.val (.int p1), .val (.int p2), .val (.int p3), .val (.int p4), .val (.int p5), .unset] [(.ref b216)])) _
                    refine XS.dup X218.here hx rfl (hb hby d1_460) rfl rfl ?_
                    show Steps p.tables e below (T218.setTop (mkF m 461 #[.val (.int p1), .val (.int p2), .val (.int p3), .val (.int p4), .val (.int p5), .unset] [(.ref b216), (.ref b216)])) _
                    refine XS.iconst X218.here hx rfl (hb hby d1_461) ?_
                    show Steps p.tables e below (T218.setTop (mkF m 462 #[.val (.int p1), .val (.int p2), .val (.int p3), .val (.int p4), .val (.int p5), .unset] [(.int (1 : Int32)), (.ref b216), (.ref b216)])) _
                    refine XS.bipush X218.here hx rfl (hb hby d1_462) ?_
                    show Steps p.tables e below (T218.setTop (mkF m 464 #[.val (.int p1), .val (.int p2), .val (.int p3), .val (.int p4), .val (.int p5), .unset] [(.int (110 : Int32)), (.int (1 : Int32)), (.ref b216), (.ref b216)])) _
                    refine st220 _ ?_
                    show Steps p.tables e below (T220.setTop (mkF m 465 #[.val (.int p1), .val (.int p2), .val (.int p3), .val (.int p4), .val (.int p5), .unset] [(.ref b216)])) _
                    refine XS.dup X220.here hx rfl (hb hby d1_465) rfl rfl ?_
                    show Steps p.tables e below (T220.setTop (mkF m 466 #[.val (.int p1), .val (.int p2), .val (.int p3), .val (.int p4), .val (.int p5), .unset] [(.ref b216), (.ref b216)])) _
                    refine XS.iconst X220.here hx rfl (hb hby d1_466) ?_
                    show Steps p.tables e below (T220.setTop (mkF m 467 #[.val (.int p1), .val (.int p2), .val (.int p3), .val (.int p4), .val (.int p5), .unset] [(.int (2 : Int32)), (.ref b216), (.ref b216)])) _
                    refine XS.bipush X220.here hx rfl (hb hby d1_467) ?_
                    show Steps p.tables e below (T220.setTop (mkF m 469 #[.val (.int p1), .val (.int p2), .val (.int p3), .val (.int p4), .val (.int p5), .unset] [(.int (97 : Int32)), (.int (2 : Int32)), (.ref b216), (.ref b216)])) _
                    refine st222 _ ?_
                    show Steps p.tables e below (T222.setTop (mkF m 470 #[.val (.int p1), .val (.int p2), .val (.int p3), .val (.int p4), .val (.int p5), .unset] [(.ref b216)])) _
                    refine XS.dup X222.here hx rfl (hb hby d1_470) rfl rfl ?_
                    show Steps p.tables e below (T222.setTop (mkF m 471 #[.val (.int p1), .val (.int p2), .val (.int p3), .val (.int p4), .val (.int p5), .unset] [(.ref b216), (.ref b216)])) _
                    refine XS.iconst X222.here hx rfl (hb hby d1_471) ?_
                    show Steps p.tables e below (T222.setTop (mkF m 472 #[.val (.int p1), .val (.int p2), .val (.int p3), .val (.int p4), .val (.int p5), .unset] [(.int (3 : Int32)), (.ref b216), (.ref b216)])) _
                    refine XS.bipush X222.here hx rfl (hb hby d1_472) ?_
                    show Steps p.tables e below (T222.setTop (mkF m 474 #[.val (.int p1), .val (.int p2), .val (.int p3), .val (.int p4), .val (.int p5), .unset] [(.int (112 : Int32)), (.int (3 : Int32)), (.ref b216), (.ref b216)])) _
                    refine st224 _ ?_
                    show Steps p.tables e below (T224.setTop (mkF m 475 #[.val (.int p1), .val (.int p2), .val (.int p3), .val (.int p4), .val (.int p5), .unset] [(.ref b216)])) _
                    refine XS.dup X224.here hx rfl (hb hby d1_475) rfl rfl ?_
                    show Steps p.tables e below (T224.setTop (mkF m 476 #[.val (.int p1), .val (.int p2), .val (.int p3), .val (.int p4), .val (.int p5), .unset] [(.ref b216), (.ref b216)])) _
                    refine XS.iconst X224.here hx rfl (hb hby d1_476) ?_
                    show Steps p.tables e below (T224.setTop (mkF m 477 #[.val (.int p1), .val (.int p2), .val (.int p3), .val (.int p4), .val (.int p5), .unset] [(.int (4 : Int32)), (.ref b216), (.ref b216)])) _
                    refine XS.bipush X224.here hx rfl (hb hby d1_477) ?_
                    show Steps p.tables e below (T224.setTop (mkF m 479 #[.val (.int p1), .val (.int p2), .val (.int p3), .val (.int p4), .val (.int p5), .unset] [(.int (115 : Int32)), (.int (4 : Int32)), (.ref b216), (.ref b216)])) _
                    refine st226 _ ?_
                    show Steps p.tables e below (T226.setTop (mkF m 480 #[.val (.int p1), .val (.int p2), .val (.int p3), .val (.int p4), .val (.int p5), .unset] [(.ref b216)])) _
                    refine XS.dup X226.here hx rfl (hb hby d1_480) rfl rfl ?_
                    show Steps p.tables e below (T226.setTop (mkF m 481 #[.val (.int p1), .val (.int p2), .val (.int p3), .val (.int p4), .val (.int p5), .unset] [(.ref b216), (.ref b216)])) _
                    refine XS.iconst X226.here hx rfl (hb hby d1_481) ?_
                    show Steps p.tables e below (T226.setTop (mkF m 482 #[.val (.int p1), .val (.int p2), .val (.int p3), .val (.int p4), .val (.int p5), .unset] [(.int (5 : Int32)), (.ref b216), (.ref b216)])) _
                    refine XS.bipush X226.here hx rfl (hb hby d1_482) ?_
                    show Steps p.tables e below (T226.setTop (mkF m 484 #[.val (.int p1), .val (.int p2), .val (.int p3), .val (.int p4), .val (.int p5), .unset] [(.int (104 : Int32)), (.int (5 : Int32)), (.ref b216), (.ref b216)])) _
                    refine st228 _ ?_
                    show Steps p.tables e below (T228.setTop (mkF m 485 #[.val (.int p1), .val (.int p2), .val (.int p3), .val (.int p4), .val (.int p5), .unset] [(.ref b216)])) _
                    refine XS.dup X228.here hx rfl (hb hby d1_485) rfl rfl ?_
                    show Steps p.tables e below (T228.setTop (mkF m 486 #[.val (.int p1), .val (.int p2), .val (.int p3), .val (.int p4), .val (.int p5), .unset] [(.ref b216), (.ref b216)])) _
                    refine XS.bipush X228.here hx rfl (hb hby d1_486) ?_
                    show Steps p.tables e below (T228.setTop (mkF m 488 #[.val (.int p1), .val (.int p2), .val (.int p3), .val (.int p4), .val (.int p5), .unset] [(.int (6 : Int32)), (.ref b216), (.ref b216)])) _
                    refine XS.bipush X228.here hx rfl (hb hby d1_488) ?_
                    show Steps p.tables e below (T228.setTop (mkF m 490 #[.val (.int p1), .val (.int p2), .val (.int p3), .val (.int p4), .val (.int p5), .unset] [(.int (111 : Int32)), (.int (6 : Int32)), (.ref b216), (.ref b216)])) _
                    refine st230 _ ?_
                    show Steps p.tables e below (T230.setTop (mkF m 491 #[.val (.int p1), .val (.int p2), .val (.int p3), .val (.int p4), .val (.int p5), .unset] [(.ref b216)])) _
                    refine XS.astore X230.here hx rfl (hb hby d1_491) rfl rfl (l' := #[.val (.int p1), .val (.int p2), .val (.int p3), .val (.int p4), .val (.int p5), .val (.ref b216)]) rfl ?_
                    show Steps p.tables e below (T230.setTop (mkF m 493 #[.val (.int p1), .val (.int p2), .val (.int p3), .val (.int p4), .val (.int p5), .val (.ref b216)] [])) _
                    refine XS.goto X230.here hx rfl (pc0 := 493) (pc' := 558) rfl (hb hby d1_493) (by decide) (by decide) ?_
                    show Steps p.tables e below (T230.setTop (mkF m 558 #[.val (.int p1), .val (.int p2), .val (.int p3), .val (.int p4), .val (.int p5), .val (.ref b216)] [])) _
                    refine XS.iloadN X230.here hx rfl (hb hby d1_558) rfl ?_
                    exact k)
                  by_cases hc559 : p3 = (0 : Int32)
                  ·
                    obtain ⟨T232, h232, X232, e232, E232, A232, D232, -, st232⟩ := newO X230 hx hZ hown (hw _ (List.mem_of_getElem? (i := 6) rfl)) (hw _ (List.mem_of_getElem? (i := 7) rfl)) (hw _ (List.mem_of_getElem? (i := 8) rfl)) e230 (g := (mkF m 581 #[.val (.int p1), .val (.int p2), .val (.int p3), .val (.int p4), .val (.int p5), .val (.ref b216)] [])) rfl (hb hby d1_581) (by decide) (by decide)
                    obtain ⟨b232, g232⟩ : ∃ z, z = h230.size := ⟨_, rfl⟩
                    rw [← g232] at A232 D232 st232
                    have g_b232 : n0 ≤ b232 := Nat.le_trans Zs (Nat.le_of_eq g232.symm)
                    have sz_b232 : h0.size ≤ b232 := Nat.le_trans Kp.1 (Nat.le_of_eq g232.symm)
                    have ne_b216_b232 : b216 ≠ b232 := Nat.ne_of_lt (Nat.lt_of_lt_of_le E_b216.lt (Nat.le_of_eq g232.symm))
                    have Sf_b232 : Safe Z ELs s.vm h230 b232 := Safe.new (Nat.le_of_eq g232.symm)
                    have Hd : CHr Z ELs s.vm h0 s.vm h232 := Hc.trans (CHr.ext E232 Hc.1)
                    have Sg_b232 : Safe Z ELs s.vm h232 b232 := Safe.ext E232 Hc.1 Sf_b232
                    have Sf_b232 := Sg_b232
                    have Hc := Hd
                    have Zs : n0 ≤ h232.size := Nat.le_trans Zs E232.1
                    have Ol : Old Z n0 h232 := Ol.ext E232
                    have Kp : Keep h0 h232 [] := Kp.ext E232
                    have E_b216 : Exa Z h232 b216 "[C" := E_b216.ext E232
                    have V_b216 : Arv Z h232 b216 k216 .char (7 : Int32) [(.int (nar .char (115 : Int32))), (.int (nar .char (110 : Int32))), (.int (nar .char (97 : Int32))), (.int (nar .char (112 : Int32))), (.int (nar .char (115 : Int32))), (.int (nar .char (104 : Int32))), (.int (nar .char (111 : Int32)))] (.int (0 : Int32)) := V_b216.ext E232
                    have E_b232 : Exa Z h232 b232 "java/lang/String" := A232
                    have F_coder_b232 : Fld Z h232 b232 "java/lang/String" "coder" "B" (.int (0 : Int32)) := D232 (Or.inr (hw _ (List.mem_of_getElem? (i := 32) rfl))) (ty := .byte) (by decide)
                    have F_value_b232 : Fld Z h232 b232 "java/lang/String" "value" "[B" .null := D232 (Or.inr (hw _ (List.mem_of_getElem? (i := 34) rfl))) (ty := (.array .byte)) (by decide)
                    obtain ⟨_, _, ⟨T233, L233, k233, n233⟩, -, X233, ⟨Lc233, hQ233, l233, y233, z233⟩, st233⟩ := X232.specialBack hx (y := (⟨"java/lang/String", "<init>", "([C)V"⟩ : MethodName)) rfl hown (mvT hZ (hw _ (List.mem_of_getElem? (i := 9) rfl))) (mvT hZ (hw _ (List.mem_of_getElem? (i := 10) rfl))) (mvT hZ (hw _ (List.mem_of_getElem? (i := 11) rfl))) (by decide) (own_new (W := 1) hZ hw g_b232 Zs E_b232 F_value_b232 F_coder_b232 (cs := [(nar .char (115 : Int32)), (nar .char (110 : Int32)), (nar .char (97 : Int32)), (nar .char (112 : Int32)), (nar .char (115 : Int32)), (nar .char (104 : Int32)), (nar .char (111 : Int32))]) (n := 7) V_b216 (Sta.ext Ol.2 S_COMPACT_STRINGS) hzc rfl rfl (by decide) (by decide) (alIS (by decide) (alIS (by decide) (alIS (by decide) (alIS (by decide) (alIS (by decide) (alIS (by decide) (alIS (by decide) alI0))))))) (by decide) (by decide)) (g := (mkF m 587 #[.val (.int p1), .val (.int p2), .val (.int p3), .val (.int p4), .val (.int p5), .val (.ref b216)] [(.ref b216), (.ref b232), (.ref b232)])) rfl (by rw [hml]; rfl) (Steps.refl _) (a := b232) (argsL := [(.ref b216)]) (rest := [(.ref b232)]) (lenOf pd_1 rfl) rfl (by show 2 * 0 + _ ≤ _; exact Nat.le_of_eq rfl) (hb hby d1_587) (fun _ _ => ⟨rfl, e232, (by decide : 2 + 1 ≤ _), (by decide : 11 + 7 ≤ _)⟩)
                    dsimp only [Pt.U, Pt.locs, Pt.cells, Pt.slots] at X233 l233 y233 z233 st233 hQ233
                    subst l233 y233 z233
                    obtain ⟨rfl, N233q, K233, T233x⟩ := hQ233
                    have Hd : CHr Z ELs s.vm h0 s.vm T233.heap := Hc.trans (CHr.keep K233 (allS (Sf_b232 : Safe Z ELs s.vm _ b232) all0) Hc.1)
                    have Sg_b232 : Safe Z ELs s.vm T233.heap b232 := Safe.keep K233 (allS (Sf_b232 : Safe Z ELs s.vm _ b232) all0) Hc.1 Sf_b232
                    have Sf_b232 := Sg_b232
                    have Hc := Hd
                    have Zs : n0 ≤ T233.heap.size := Nat.le_trans Zs K233.1
                    have Ol : Old Z n0 T233.heap := Ol.keep K233 (allS g_b232 all0)
                    have Kp : Keep h0 T233.heap [] := Kp.trans K233 (allS (Or.inr sz_b232) all0)
                    have E_b216 : Exa Z T233.heap b216 "[C" := E_b216.keep K233
                    have E_b232 : Exa Z T233.heap b232 "java/lang/String" := E_b232.keep K233
                    have T_b232 : Stx Z T233.heap b232 [(nar .char (115 : Int32)), (nar .char (110 : Int32)), (nar .char (97 : Int32)), (nar .char (112 : Int32)), (nar .char (115 : Int32)), (nar .char (104 : Int32)), (nar .char (111 : Int32))] := T233x
                    have N233 := Fr.app N230 N233q
                    obtain ⟨fs, hr, hrun, hended, hRW⟩ := X233.leaveW (s := s) (vm₁ := s.vm) ((State.WarmedH.refl s).since 0) (Nat.zero_le _) (v := some (.ref b232)) (fun h => by rw [Bd.returns] at h; cases h)
                    have hCR : CHr Z ELs s.vm h0 T233.vm T233.heap := Hc.trans (CHv.at X233 hZ hEL Hc.1)
                    refine ⟨_, _, pre231 _ ?_, hrun, hended, _, _, rfl, ?_, (by rw [hh]; show CHr Z ELs s.vm h0 T233.vm T233.heap; exact hCR), ⟨hRW.1, hRW.2.1, hRW.2.2.1, hRW.2.2.2.mono (by decide) (by decide)⟩⟩
                    · show Steps p.tables e below (T230.setTop (mkF m 559 #[.val (.int p1), .val (.int p2), .val (.int p3), .val (.int p4), .val (.int p5), .val (.ref b216)] [(.int p3)])) _
                      refine XS.ifYes X230.here hx rfl (pc0 := 559) (pc' := 581) rfl (hb hby d1_559) rfl ((if0 _ _).trans (teq hc559).1) (by decide) (by decide) ?_
                      show Steps p.tables e below (T230.setTop (mkF m 581 #[.val (.int p1), .val (.int p2), .val (.int p3), .val (.int p4), .val (.int p5), .val (.ref b216)] [])) _
                      refine st232 _ ?_
                      show Steps p.tables e below (T232.setTop (mkF m 584 #[.val (.int p1), .val (.int p2), .val (.int p3), .val (.int p4), .val (.int p5), .val (.ref b216)] [(.ref b232)])) _
                      refine XS.dup X232.here hx rfl (hb hby d1_584) rfl rfl ?_
                      show Steps p.tables e below (T232.setTop (mkF m 585 #[.val (.int p1), .val (.int p2), .val (.int p3), .val (.int p4), .val (.int p5), .val (.ref b216)] [(.ref b232), (.ref b232)])) _
                      refine XS.aload X232.here hx rfl (hb hby d1_585) rfl rfl ?_
                      show Steps p.tables e below (T232.setTop (mkF m 587 #[.val (.int p1), .val (.int p2), .val (.int p3), .val (.int p4), .val (.int p5), .val (.ref b216)] [(.ref b216), (.ref b232), (.ref b232)])) _
                      refine st233.trans ?_
                      show Steps p.tables e below (T233.setTop (mkF m 590 #[.val (.int p1), .val (.int p2), .val (.int p3), .val (.int p4), .val (.int p5), .val (.ref b216)] [(.ref b232)])) _
                      exact retOut X233 hx Bd.returns rfl (Or.inr (Or.inr (Or.inr (Or.inr ⟨rfl, rfl, rfl⟩)))) (hb hby d1_590) hr
                    · show QB Z p1 p2 p3 p4 p5 zc h0 n0 _ T233.heap _
                      exact ⟨b232, [(nar .char (115 : Int32)), (nar .char (110 : Int32)), (nar .char (97 : Int32)), (nar .char (112 : Int32)), (nar .char (115 : Int32)), (nar .char (104 : Int32)), (nar .char (111 : Int32))], rfl, N233, Kp, E_b232, T_b232⟩
                  ·
                    obtain ⟨cl234, Ar234, hl234⟩ := Arv.len V_b216 (by decide)
                    have ia234 := State.isArrayOf_alike hZ.alike Ar234.2.1
                    obtain ⟨cl235, Ar235, hl235⟩ := Arv.len V_b216 (by decide)
                    have ia235 := State.isArrayOf_alike hZ.alike Ar235.2.1
                    obtain ⟨cl236, Ar236, q236, S236, M236, H236, G236⟩ := V_b216
                    obtain ⟨T237, h237, X237, e237, W237, st237⟩ := stC X230 hx hZ e230 Ar236 (j := ((p2 &&& (2147483647 : Int32)) % (7 : Int32))) (inb_of S236 (own_rem p2 (by decide))) (g := (mkF m 580 #[.val (.int p1), .val (.int p2), .val (.int p3), .val (.int p4), .val (.int p5), .val (.ref b216)] [(.int p5), (.int ((p2 &&& (2147483647 : Int32)) % (7 : Int32))), (.ref b216)])) rfl rfl (hb hby d1_580)
                    have N237 := Fr.snoc X237 N230 g_b216
                    have Sw := ((Safe.exa hZ.alike E_b216 (by decide) (by decide)) : Safe Z ELs s.vm _ b216)
                    have Hd : CHr Z ELs s.vm h0 s.vm h237 := Hc.trans (CHr.wr W237 Sw Hc.1)
                    have Hc := Hd
                    have Zs : n0 ≤ h237.size := Nat.le_trans Zs (Keep.of_wr W237).1
                    have Ol : Old Z n0 h237 := Ol.wr W237 g_b216
                    have Kp : Keep h0 h237 [] := Kp.wr W237 (Or.inr sz_b216)
                    have E_b216 : Exa Z h237 b216 "[C" := E_b216.wr W237
                    have V_b216 : Arv Z h237 b216 k216 .char (7 : Int32) ((([(nar .char (115 : Int32)), (nar .char (110 : Int32)), (nar .char (97 : Int32)), (nar .char (112 : Int32)), (nar .char (115 : Int32)), (nar .char (104 : Int32)), (nar .char (111 : Int32))] : List Int32).set ((p2 &&& (2147483647 : Int32)) % (7 : Int32)).toNatClampNeg (nar .char p5)).map Value.int) (.int (0 : Int32)) := by rw [List.map_set]; exact Arv.set Ar236 q236 S236 M236 H236 G236 (fits_nar_char _) W237 _ rfl (own_ix (own_rem p2 (by decide)) (Nat.le_of_eq rfl))
                    obtain ⟨T238, h238, X238, e238, E238, A238, D238, -, st238⟩ := newO X237 hx hZ hown (hw _ (List.mem_of_getElem? (i := 6) rfl)) (hw _ (List.mem_of_getElem? (i := 7) rfl)) (hw _ (List.mem_of_getElem? (i := 8) rfl)) e237 (g := (mkF m 581 #[.val (.int p1), .val (.int p2), .val (.int p3), .val (.int p4), .val (.int p5), .val (.ref b216)] [])) rfl (hb hby d1_581) (by decide) (by decide)
                    obtain ⟨b238, g238⟩ : ∃ z, z = h237.size := ⟨_, rfl⟩
                    rw [← g238] at A238 D238 st238
                    have g_b238 : n0 ≤ b238 := Nat.le_trans Zs (Nat.le_of_eq g238.symm)
                    have sz_b238 : h0.size ≤ b238 := Nat.le_trans Kp.1 (Nat.le_of_eq g238.symm)
                    have ne_b216_b238 : b216 ≠ b238 := Nat.ne_of_lt (Nat.lt_of_lt_of_le E_b216.lt (Nat.le_of_eq g238.symm))
                    have Sf_b238 : Safe Z ELs s.vm h237 b238 := Safe.new (Nat.le_of_eq g238.symm)
                    have Hd : CHr Z ELs s.vm h0 s.vm h238 := Hc.trans (CHr.ext E238 Hc.1)
                    have Sg_b238 : Safe Z ELs s.vm h238 b238 := Safe.ext E238 Hc.1 Sf_b238
                    have Sf_b238 := Sg_b238
                    have Hc := Hd
                    have Zs : n0 ≤ h238.size := Nat.le_trans Zs E238.1
                    have Ol : Old Z n0 h238 := Ol.ext E238
                    have Kp : Keep h0 h238 [] := Kp.ext E238
                    have E_b216 : Exa Z h238 b216 "[C" := E_b216.ext E238
                    have V_b216 : Arv Z h238 b216 k216 .char (7 : Int32) ((([(nar .char (115 : Int32)), (nar .char (110 : Int32)), (nar .char (97 : Int32)), (nar .char (112 : Int32)), (nar .char (115 : Int32)), (nar .char (104 : Int32)), (nar .char (111 : Int32))] : List Int32).set ((p2 &&& (2147483647 : Int32)) % (7 : Int32)).toNatClampNeg (nar .char p5)).map Value.int) (.int (0 : Int32)) := V_b216.ext E238
                    have E_b238 : Exa Z h238 b238 "java/lang/String" := A238
                    have F_coder_b238 : Fld Z h238 b238 "java/lang/String" "coder" "B" (.int (0 : Int32)) := D238 (Or.inr (hw _ (List.mem_of_getElem? (i := 32) rfl))) (ty := .byte) (by decide)
                    have F_value_b238 : Fld Z h238 b238 "java/lang/String" "value" "[B" .null := D238 (Or.inr (hw _ (List.mem_of_getElem? (i := 34) rfl))) (ty := (.array .byte)) (by decide)
                    obtain ⟨_, _, ⟨T239, L239, k239, n239⟩, -, X239, ⟨Lc239, hQ239, l239, y239, z239⟩, st239⟩ := X238.specialBack hx (y := (⟨"java/lang/String", "<init>", "([C)V"⟩ : MethodName)) rfl hown (mvT hZ (hw _ (List.mem_of_getElem? (i := 9) rfl))) (mvT hZ (hw _ (List.mem_of_getElem? (i := 10) rfl))) (mvT hZ (hw _ (List.mem_of_getElem? (i := 11) rfl))) (by decide) (own_new (W := 1) hZ hw g_b238 Zs E_b238 F_value_b238 F_coder_b238 (cs := (([(nar .char (115 : Int32)), (nar .char (110 : Int32)), (nar .char (97 : Int32)), (nar .char (112 : Int32)), (nar .char (115 : Int32)), (nar .char (104 : Int32)), (nar .char (111 : Int32))] : List Int32).set ((p2 &&& (2147483647 : Int32)) % (7 : Int32)).toNatClampNeg (nar .char p5))) (n := 7) V_b216 (Sta.ext Ol.2 S_COMPACT_STRINGS) hzc (by rw [List.length_set]; rfl) rfl (by decide) (by decide) (own_set (alIS (by decide) (alIS (by decide) (alIS (by decide) (alIS (by decide) (alIS (by decide) (alIS (by decide) (alIS (by decide) alI0))))))) hd) (by decide) (by decide)) (g := (mkF m 587 #[.val (.int p1), .val (.int p2), .val (.int p3), .val (.int p4), .val (.int p5), .val (.ref b216)] [(.ref b216), (.ref b238), (.ref b238)])) rfl (by rw [hml]; rfl) (Steps.refl _) (a := b238) (argsL := [(.ref b216)]) (rest := [(.ref b238)]) (lenOf pd_1 rfl) rfl (by show 2 * 0 + _ ≤ _; exact Nat.le_of_eq rfl) (hb hby d1_587) (fun _ _ => ⟨rfl, e238, (by decide : 2 + 1 ≤ _), (by decide : 11 + 7 ≤ _)⟩)
                    dsimp only [Pt.U, Pt.locs, Pt.cells, Pt.slots] at X239 l239 y239 z239 st239 hQ239
                    subst l239 y239 z239
                    obtain ⟨rfl, N239q, K239, T239x⟩ := hQ239
                    have Hd : CHr Z ELs s.vm h0 s.vm T239.heap := Hc.trans (CHr.keep K239 (allS (Sf_b238 : Safe Z ELs s.vm _ b238) all0) Hc.1)
                    have Sg_b238 : Safe Z ELs s.vm T239.heap b238 := Safe.keep K239 (allS (Sf_b238 : Safe Z ELs s.vm _ b238) all0) Hc.1 Sf_b238
                    have Sf_b238 := Sg_b238
                    have Hc := Hd
                    have Zs : n0 ≤ T239.heap.size := Nat.le_trans Zs K239.1
                    have Ol : Old Z n0 T239.heap := Ol.keep K239 (allS g_b238 all0)
                    have Kp : Keep h0 T239.heap [] := Kp.trans K239 (allS (Or.inr sz_b238) all0)
                    have E_b216 : Exa Z T239.heap b216 "[C" := E_b216.keep K239
                    have E_b238 : Exa Z T239.heap b238 "java/lang/String" := E_b238.keep K239
                    have T_b238 : Stx Z T239.heap b238 (([(nar .char (115 : Int32)), (nar .char (110 : Int32)), (nar .char (97 : Int32)), (nar .char (112 : Int32)), (nar .char (115 : Int32)), (nar .char (104 : Int32)), (nar .char (111 : Int32))] : List Int32).set ((p2 &&& (2147483647 : Int32)) % (7 : Int32)).toNatClampNeg (nar .char p5)) := T239x
                    have N239 := Fr.app N237 N239q
                    obtain ⟨fs, hr, hrun, hended, hRW⟩ := X239.leaveW (s := s) (vm₁ := s.vm) ((State.WarmedH.refl s).since 0) (Nat.zero_le _) (v := some (.ref b238)) (fun h => by rw [Bd.returns] at h; cases h)
                    have hCR : CHr Z ELs s.vm h0 T239.vm T239.heap := Hc.trans (CHv.at X239 hZ hEL Hc.1)
                    refine ⟨_, _, pre231 _ ?_, hrun, hended, _, _, rfl, ?_, (by rw [hh]; show CHr Z ELs s.vm h0 T239.vm T239.heap; exact hCR), ⟨hRW.1, hRW.2.1, hRW.2.2.1, hRW.2.2.2.mono (by decide) (by decide)⟩⟩
                    · show Steps p.tables e below (T230.setTop (mkF m 559 #[.val (.int p1), .val (.int p2), .val (.int p3), .val (.int p4), .val (.int p5), .val (.ref b216)] [(.int p3)])) _
                      refine XS.ifNo X230.here hx rfl (hb hby d1_559) rfl ((if0 _ _).trans (feq hc559).1) ?_
                      show Steps p.tables e below (T230.setTop (mkF m 562 #[.val (.int p1), .val (.int p2), .val (.int p3), .val (.int p4), .val (.int p5), .val (.ref b216)] [])) _
                      refine XS.aload X230.here hx rfl (hb hby d1_562) rfl rfl ?_
                      show Steps p.tables e below (T230.setTop (mkF m 564 #[.val (.int p1), .val (.int p2), .val (.int p3), .val (.int p4), .val (.int p5), .val (.ref b216)] [(.ref b216)])) _
                      refine X230.arraylength hx (by rw [e230]; exact Ar234.1) ia234 (g := (mkF m 564 #[.val (.int p1), .val (.int p2), .val (.int p3), .val (.int p4), .val (.int p5), .val (.ref b216)] [(.ref b216)])) rfl rfl (hb hby d1_564) _ ?_
                      rw [hl234]
                      show Steps p.tables e below (T230.setTop (mkF m 565 #[.val (.int p1), .val (.int p2), .val (.int p3), .val (.int p4), .val (.int p5), .val (.ref b216)] [(.int (7 : Int32))])) _
                      refine XS.ifNo X230.here hx rfl (hb hby d1_565) rfl ((if0 _ _).trans (tlt (by decide)).2.2.2) ?_
                      show Steps p.tables e below (T230.setTop (mkF m 568 #[.val (.int p1), .val (.int p2), .val (.int p3), .val (.int p4), .val (.int p5), .val (.ref b216)] [])) _
                      refine XS.aload X230.here hx rfl (hb hby d1_568) rfl rfl ?_
                      show Steps p.tables e below (T230.setTop (mkF m 570 #[.val (.int p1), .val (.int p2), .val (.int p3), .val (.int p4), .val (.int p5), .val (.ref b216)] [(.ref b216)])) _
                      refine XS.iloadN X230.here hx rfl (hb hby d1_570) rfl ?_
                      show Steps p.tables e below (T230.setTop (mkF m 571 #[.val (.int p1), .val (.int p2), .val (.int p3), .val (.int p4), .val (.int p5), .val (.ref b216)] [(.int p2), (.ref b216)])) _
                      refine X230.ldcInt hx hown (mvT hZ (hw _ (List.mem_of_getElem? (i := 0) rfl))) (g := (mkF m 571 #[.val (.int p1), .val (.int p2), .val (.int p3), .val (.int p4), .val (.int p5), .val (.ref b216)] [(.int p2), (.ref b216)])) rfl (hb hby d1_571) _ ?_
                      show Steps p.tables e below (T230.setTop (mkF m 573 #[.val (.int p1), .val (.int p2), .val (.int p3), .val (.int p4), .val (.int p5), .val (.ref b216)] [(.int (2147483647 : Int32)), (.int p2), (.ref b216)])) _
                      refine XS.iand X230.here hx rfl (hb hby d1_573) rfl ?_
                      show Steps p.tables e below (T230.setTop (mkF m 574 #[.val (.int p1), .val (.int p2), .val (.int p3), .val (.int p4), .val (.int p5), .val (.ref b216)] [(.int (p2 &&& (2147483647 : Int32))), (.ref b216)])) _
                      refine XS.aload X230.here hx rfl (hb hby d1_574) rfl rfl ?_
                      show Steps p.tables e below (T230.setTop (mkF m 576 #[.val (.int p1), .val (.int p2), .val (.int p3), .val (.int p4), .val (.int p5), .val (.ref b216)] [(.ref b216), (.int (p2 &&& (2147483647 : Int32))), (.ref b216)])) _
                      refine X230.arraylength hx (by rw [e230]; exact Ar235.1) ia235 (g := (mkF m 576 #[.val (.int p1), .val (.int p2), .val (.int p3), .val (.int p4), .val (.int p5), .val (.ref b216)] [(.ref b216), (.int (p2 &&& (2147483647 : Int32))), (.ref b216)])) rfl rfl (hb hby d1_576) _ ?_
                      rw [hl235]
                      show Steps p.tables e below (T230.setTop (mkF m 577 #[.val (.int p1), .val (.int p2), .val (.int p3), .val (.int p4), .val (.int p5), .val (.ref b216)] [(.int (7 : Int32)), (.int (p2 &&& (2147483647 : Int32))), (.ref b216)])) _
                      refine iremM X230 hx rfl (hb hby d1_577) rfl (by decide) ?_
                      show Steps p.tables e below (T230.setTop (mkF m 578 #[.val (.int p1), .val (.int p2), .val (.int p3), .val (.int p4), .val (.int p5), .val (.ref b216)] [(.int ((p2 &&& (2147483647 : Int32)) % (7 : Int32))), (.ref b216)])) _
                      refine XS.iload X230.here hx rfl (hb hby d1_578) rfl ?_
                      show Steps p.tables e below (T230.setTop (mkF m 580 #[.val (.int p1), .val (.int p2), .val (.int p3), .val (.int p4), .val (.int p5), .val (.ref b216)] [(.int p5), (.int ((p2 &&& (2147483647 : Int32)) % (7 : Int32))), (.ref b216)])) _
                      refine st237 _ ?_
                      show Steps p.tables e below (T237.setTop (mkF m 581 #[.val (.int p1), .val (.int p2), .val (.int p3), .val (.int p4), .val (.int p5), .val (.ref b216)] [])) _
                      refine st238 _ ?_
                      show Steps p.tables e below (T238.setTop (mkF m 584 #[.val (.int p1), .val (.int p2), .val (.int p3), .val (.int p4), .val (.int p5), .val (.ref b216)] [(.ref b238)])) _
                      refine XS.dup X238.here hx rfl (hb hby d1_584) rfl rfl ?_
                      show Steps p.tables e below (T238.setTop (mkF m 585 #[.val (.int p1), .val (.int p2), .val (.int p3), .val (.int p4), .val (.int p5), .val (.ref b216)] [(.ref b238), (.ref b238)])) _
                      refine XS.aload X238.here hx rfl (hb hby d1_585) rfl rfl ?_
                      show Steps p.tables e below (T238.setTop (mkF m 587 #[.val (.int p1), .val (.int p2), .val (.int p3), .val (.int p4), .val (.int p5), .val (.ref b216)] [(.ref b216), (.ref b238), (.ref b238)])) _
                      refine st239.trans ?_
                      show Steps p.tables e below (T239.setTop (mkF m 590 #[.val (.int p1), .val (.int p2), .val (.int p3), .val (.int p4), .val (.int p5), .val (.ref b216)] [(.ref b238)])) _
                      exact retOut X239 hx Bd.returns rfl (Or.inr (Or.inr (Or.inr (Or.inr ⟨rfl, rfl, rfl⟩)))) (hb hby d1_590) hr
                    · show QB Z p1 p2 p3 p4 p5 zc h0 n0 _ T239.heap _
                      exact ⟨b238, (([(nar .char (115 : Int32)), (nar .char (110 : Int32)), (nar .char (97 : Int32)), (nar .char (112 : Int32)), (nar .char (115 : Int32)), (nar .char (104 : Int32)), (nar .char (111 : Int32))] : List Int32).set ((p2 &&& (2147483647 : Int32)) % (7 : Int32)).toNatClampNeg (nar .char p5)), rfl, N239, Kp, E_b238, T_b238⟩
                ·
                  have pre240 : ∀ t, Steps p.tables e below (s₁.setTop (mkF m 499 #[.val (.int p1), .val (.int p2), .val (.int p3), .val (.int p4), .val (.int p5), .unset] [(.int (8 : Int32)), (.int p1)])) t → Steps p.tables e below (s₁.setTop (entryFrame m #[(.int p1), (.int p2), (.int p3), (.int p4), (.int p5)] 6)) t := fun t k => pre215 t (by
                    show Steps p.tables e below (s₁.setTop (mkF m 448 #[.val (.int p1), .val (.int p2), .val (.int p3), .val (.int p4), .val (.int p5), .unset] [(.int (7 : Int32)), (.int p1)])) _
                    refine XS.icmpYes X0.here hx rfl (pc0 := 448) (pc' := 496) rfl (hb hby d1_448) rfl (feq hc448).2 (by decide) (by decide) ?_
                    show Steps p.tables e below (s₁.setTop (mkF m 496 #[.val (.int p1), .val (.int p2), .val (.int p3), .val (.int p4), .val (.int p5), .unset] [])) _
                    refine XS.iloadN X0.here hx rfl (hb hby d1_496) rfl ?_
                    show Steps p.tables e below (s₁.setTop (mkF m 497 #[.val (.int p1), .val (.int p2), .val (.int p3), .val (.int p4), .val (.int p5), .unset] [(.int p1)])) _
                    refine XS.bipush X0.here hx rfl (hb hby d1_497) ?_
                    exact k)
                  by_cases hc499 : p1 = (8 : Int32)
                  ·
                    obtain ⟨T241, h241, k241, X241, e241, E241, A241, B241, st241⟩ := newPE X0 hx hZ (hw _ (List.mem_of_getElem? (i := 5) rfl)) e0 (g := (mkF m 503 #[.val (.int p1), .val (.int p2), .val (.int p3), .val (.int p4), .val (.int p5), .unset] [(.int (4 : Int32))])) rfl (hb hby d1_503) rfl (by decide) (cap := 4) (by decide) (by decide) (by decide) (by decide) (ad := "[C") (by decide)
                    obtain ⟨b241, g241⟩ : ∃ z, z = h0.size := ⟨_, rfl⟩
                    rw [← g241] at A241 B241 st241
                    have g_b241 : n0 ≤ b241 := Nat.le_trans Zs (Nat.le_of_eq g241.symm)
                    have sz_b241 : h0.size ≤ b241 := Nat.le_trans Kp.1 (Nat.le_of_eq g241.symm)
                    have Hd : CHr Z ELs s.vm h0 s.vm h241 := Hc.trans (CHr.ext E241 Hc.1)
                    have Hc := Hd
                    have Zs : n0 ≤ h241.size := Nat.le_trans Zs E241.1
                    have Ol : Old Z n0 h241 := Ol.ext E241
                    have Kp : Keep h0 h241 [] := Kp.ext E241
                    have E_b241 : Exa Z h241 b241 "[C" := B241
                    have V_b241 : Arv Z h241 b241 k241 .char (4 : Int32) [(.int (0 : Int32)), (.int (0 : Int32)), (.int (0 : Int32)), (.int (0 : Int32))] (.int (0 : Int32)) := (Arv.new A241 (by decide)).pad (pad_rep [] (.int (0 : Int32)) 4)
                    obtain ⟨cl242, Ar242, q242, S242, M242, H242, G242⟩ := V_b241
                    obtain ⟨T243, h243, X243, e243, W243, st243⟩ := stC X241 hx hZ e241 Ar242 (j := (0 : Int32)) (inb_of S242 (by decide)) (g := (mkF m 509 #[.val (.int p1), .val (.int p2), .val (.int p3), .val (.int p4), .val (.int p5), .unset] [(.int (100 : Int32)), (.int (0 : Int32)), (.ref b241), (.ref b241)])) rfl rfl (hb hby d1_509)
                    have N243 := Fr.snoc X243 N0 g_b241
                    have Sw := ((Safe.exa hZ.alike E_b241 (by decide) (by decide)) : Safe Z ELs s.vm _ b241)
                    have Hd : CHr Z ELs s.vm h0 s.vm h243 := Hc.trans (CHr.wr W243 Sw Hc.1)
                    have Hc := Hd
                    have Zs : n0 ≤ h243.size := Nat.le_trans Zs (Keep.of_wr W243).1
                    have Ol : Old Z n0 h243 := Ol.wr W243 g_b241
                    have Kp : Keep h0 h243 [] := Kp.wr W243 (Or.inr sz_b241)
                    have E_b241 : Exa Z h243 b241 "[C" := E_b241.wr W243
                    have V_b241 : Arv Z h243 b241 k241 .char (4 : Int32) [(.int (nar .char (100 : Int32))), (.int (0 : Int32)), (.int (0 : Int32)), (.int (0 : Int32))] (.int (0 : Int32)) := Arv.set Ar242 q242 S242 M242 H242 G242 (fits_nar_char _) W243 0 rfl (Nat.le_of_ble_eq_true rfl)
                    obtain ⟨cl244, Ar244, q244, S244, M244, H244, G244⟩ := V_b241
                    obtain ⟨T245, h245, X245, e245, W245, st245⟩ := stC X243 hx hZ e243 Ar244 (j := (1 : Int32)) (inb_of S244 (by decide)) (g := (mkF m 514 #[.val (.int p1), .val (.int p2), .val (.int p3), .val (.int p4), .val (.int p5), .unset] [(.int (101 : Int32)), (.int (1 : Int32)), (.ref b241), (.ref b241)])) rfl rfl (hb hby d1_514)
                    have N245 := Fr.snoc X245 N243 g_b241
                    have Sw := ((Safe.exa hZ.alike E_b241 (by decide) (by decide)) : Safe Z ELs s.vm _ b241)
                    have Hd : CHr Z ELs s.vm h0 s.vm h245 := Hc.trans (CHr.wr W245 Sw Hc.1)
                    have Hc := Hd
                    have Zs : n0 ≤ h245.size := Nat.le_trans Zs (Keep.of_wr W245).1
                    have Ol : Old Z n0 h245 := Ol.wr W245 g_b241
                    have Kp : Keep h0 h245 [] := Kp.wr W245 (Or.inr sz_b241)
                    have E_b241 : Exa Z h245 b241 "[C" := E_b241.wr W245
                    have V_b241 : Arv Z h245 b241 k241 .char (4 : Int32) [(.int (nar .char (100 : Int32))), (.int (nar .char (101 : Int32))), (.int (0 : Int32)), (.int (0 : Int32))] (.int (0 : Int32)) := Arv.set Ar244 q244 S244 M244 H244 G244 (fits_nar_char _) W245 1 rfl (Nat.le_of_ble_eq_true rfl)
                    obtain ⟨cl246, Ar246, q246, S246, M246, H246, G246⟩ := V_b241
                    obtain ⟨T247, h247, X247, e247, W247, st247⟩ := stC X245 hx hZ e245 Ar246 (j := (2 : Int32)) (inb_of S246 (by decide)) (g := (mkF m 519 #[.val (.int p1), .val (.int p2), .val (.int p3), .val (.int p4), .val (.int p5), .unset] [(.int (108 : Int32)), (.int (2 : Int32)), (.ref b241), (.ref b241)])) rfl rfl (hb hby d1_519)
                    have N247 := Fr.snoc X247 N245 g_b241
                    have Sw := ((Safe.exa hZ.alike E_b241 (by decide) (by decide)) : Safe Z ELs s.vm _ b241)
                    have Hd : CHr Z ELs s.vm h0 s.vm h247 := Hc.trans (CHr.wr W247 Sw Hc.1)
                    have Hc := Hd
                    have Zs : n0 ≤ h247.size := Nat.le_trans Zs (Keep.of_wr W247).1
                    have Ol : Old Z n0 h247 := Ol.wr W247 g_b241
                    have Kp : Keep h0 h247 [] := Kp.wr W247 (Or.inr sz_b241)
                    have E_b241 : Exa Z h247 b241 "[C" := E_b241.wr W247
                    have V_b241 : Arv Z h247 b241 k241 .char (4 : Int32) [(.int (nar .char (100 : Int32))), (.int (nar .char (101 : Int32))), (.int (nar .char (108 : Int32))), (.int (0 : Int32))] (.int (0 : Int32)) := Arv.set Ar246 q246 S246 M246 H246 G246 (fits_nar_char _) W247 2 rfl (Nat.le_of_ble_eq_true rfl)
                    obtain ⟨cl248, Ar248, q248, S248, M248, H248, G248⟩ := V_b241
                    obtain ⟨T249, h249, X249, e249, W249, st249⟩ := stC X247 hx hZ e247 Ar248 (j := (3 : Int32)) (inb_of S248 (by decide)) (g := (mkF m 524 #[.val (.int p1), .val (.int p2), .val (.int p3), .val (.int p4), .val (.int p5), .unset] [(.int (116 : Int32)), (.int (3 : Int32)), (.ref b241), (.ref b241)])) rfl rfl (hb hby d1_524)
                    have N249 := Fr.snoc X249 N247 g_b241
                    have Sw := ((Safe.exa hZ.alike E_b241 (by decide) (by decide)) : Safe Z ELs s.vm _ b241)
                    have Hd : CHr Z ELs s.vm h0 s.vm h249 := Hc.trans (CHr.wr W249 Sw Hc.1)
                    have Hc := Hd
                    have Zs : n0 ≤ h249.size := Nat.le_trans Zs (Keep.of_wr W249).1
                    have Ol : Old Z n0 h249 := Ol.wr W249 g_b241
                    have Kp : Keep h0 h249 [] := Kp.wr W249 (Or.inr sz_b241)
                    have E_b241 : Exa Z h249 b241 "[C" := E_b241.wr W249
                    have V_b241 : Arv Z h249 b241 k241 .char (4 : Int32) [(.int (nar .char (100 : Int32))), (.int (nar .char (101 : Int32))), (.int (nar .char (108 : Int32))), (.int (nar .char (116 : Int32)))] (.int (0 : Int32)) := Arv.set Ar248 q248 S248 M248 H248 G248 (fits_nar_char _) W249 3 rfl (Nat.le_of_ble_eq_true rfl)
                    have pre250 : ∀ t, Steps p.tables e below (T249.setTop (mkF m 559 #[.val (.int p1), .val (.int p2), .val (.int p3), .val (.int p4), .val (.int p5), .val (.ref b241)] [(.int p3)])) t → Steps p.tables e below (s₁.setTop (entryFrame m #[(.int p1), (.int p2), (.int p3), (.int p4), (.int p5)] 6)) t := fun t k => pre240 t (by
                      show Steps p.tables e below (s₁.setTop (mkF m 499 #[.val (.int p1), .val (.int p2), .val (.int p3), .val (.int p4), .val (.int p5), .unset] [(.int (8 : Int32)), (.int p1)])) _
                      refine XS.icmpNo X0.here hx rfl (hb hby d1_499) rfl (teq hc499).2 ?_
                      show Steps p.tables e below (s₁.setTop (mkF m 502 #[.val (.int p1), .val (.int p2), .val (.int p3), .val (.int p4), .val (.int p5), .unset] [])) _
                      refine XS.iconst X0.here hx rfl (hb hby d1_502) ?_
                      show Steps p.tables e below (s₁.setTop (mkF m 503 #[.val (.int p1), .val (.int p2), .val (.int p3), .val (.int p4), .val (.int p5), .unset] [(.int (4 : Int32))])) _
                      refine st241 _ ?_
                      show Steps p.tables e below (T241.setTop (mkF m 505 #[.val (.int p1), .val (.int p2), .val (.int p3), .val (.int p4), .val (.int p5), .unset] [(.ref b241)])) _
                      refine XS.dup X241.here hx rfl (hb hby d1_505) rfl rfl ?_
                      show Steps p.tables e below (T241.setTop (mkF m 506 #[.val (.int p1), .val (.int p2), .val (.int p3), .val (.int p4), .val (.int p5), .unset] [(.ref b241), (.ref b241)])) _
                      refine XS.iconst X241.here hx rfl (hb hby d1_506) ?_
                      show Steps p.tables e below (T241.setTop (mkF m 507 #[.val (.int p1), .val (.int p2), .val (.int p3), .val (.int p4), .val (.int p5), .unset] [(.int (0 : Int32)), (.ref b241), (.ref b241)])) _
                      refine XS.bipush X241.here hx rfl (hb hby d1_507) ?_
                      show Steps p.tables e below (T241.setTop (mkF m 509 #[.val (.int p1), .val (.int p2), .val (.int p3), .val (.int p4), .val (.int p5), .unset] [(.int (100 : Int32)), (.int (0 : Int32)), (.ref b241), (.ref b241)])) _
                      refine st243 _ ?_
                      show Steps p.tables e below (T243.setTop (mkF m 510 #[.val (.int p1), .val (.int p2), .val (.int p3), .val (.int p4), .val (.int p5), .unset] [(.ref b241)])) _
                      refine XS.dup X243.here hx rfl (hb hby d1_510) rfl rfl ?_
                      show Steps p.tables e below (T243.setTop (mkF m 511 #[.val (.int p1), .val (.int p2), .val (.int p3), .val (.int p4), .val (.int p5), .unset] [(.ref b241), (.ref b241)])) _
                      refine XS.iconst X243.here hx rfl (hb hby d1_511) ?_
                      show Steps p.tables e below (T243.setTop (mkF m 512 #[.val (.int p1), .val (.int p2), .val (.int p3), .val (.int p4), .val (.int p5), .unset] [(.int (1 : Int32)), (.ref b241), (.ref b241)])) _
                      refine XS.bipush X243.here hx rfl (hb hby d1_512) ?_
                      show Steps p.tables e below (T243.setTop (mkF m 514 #[.val (.int p1), .val (.int p2), .val (.int p3), .val (.int p4), .val (.int p5), .unset] [(.int (101 : Int32)), (.int (1 : Int32)), (.ref b241), (.ref b241)])) _
                      refine st245 _ ?_
                      show Steps p.tables e below (T245.setTop (mkF m 515 #[.val (.int p1), .val (.int p2), .val (.int p3), .val (.int p4), .val (.int p5), .unset] [(.ref b241)])) _
                      refine XS.dup X245.here hx rfl (hb hby d1_515) rfl rfl ?_
                      show Steps p.tables e below (T245.setTop (mkF m 516 #[.val (.int p1), .val (.int p2), .val (.int p3), .val (.int p4), .val (.int p5), .unset] [(.ref b241), (.ref b241)])) _
                      refine XS.iconst X245.here hx rfl (hb hby d1_516) ?_
                      show Steps p.tables e below (T245.setTop (mkF m 517 #[.val (.int p1), .val (.int p2), .val (.int p3), .val (.int p4), .val (.int p5), .unset] [(.int (2 : Int32)), (.ref b241), (.ref b241)])) _
                      refine XS.bipush X245.here hx rfl (hb hby d1_517) ?_
                      show Steps p.tables e below (T245.setTop (mkF m 519 #[.val (.int p1), .val (.int p2), .val (.int p3), .val (.int p4), .val (.int p5), .unset] [(.int (108 : Int32)), (.int (2 : Int32)), (.ref b241), (.ref b241)])) _
                      refine st247 _ ?_
                      show Steps p.tables e below (T247.setTop (mkF m 520 #[.val (.int p1), .val (.int p2), .val (.int p3), .val (.int p4), .val (.int p5), .unset] [(.ref b241)])) _
                      refine XS.dup X247.here hx rfl (hb hby d1_520) rfl rfl ?_
                      show Steps p.tables e below (T247.setTop (mkF m 521 #[.val (.int p1), .val (.int p2), .val (.int p3), .val (.int p4), .val (.int p5), .unset] [(.ref b241), (.ref b241)])) _
                      refine XS.iconst X247.here hx rfl (hb hby d1_521) ?_
                      show Steps p.tables e below (T247.setTop (mkF m 522 #[.val (.int p1), .val (.int p2), .val (.int p3), .val (.int p4), .val (.int p5), .unset] [(.int (3 : Int32)), (.ref b241), (.ref b241)])) _
                      refine XS.bipush X247.here hx rfl (hb hby d1_522) ?_
                      show Steps p.tables e below (T247.setTop (mkF m 524 #[.val (.int p1), .val (.int p2), .val (.int p3), .val (.int p4), .val (.int p5), .unset] [(.int (116 : Int32)), (.int (3 : Int32)), (.ref b241), (.ref b241)])) _
                      refine st249 _ ?_
                      show Steps p.tables e below (T249.setTop (mkF m 525 #[.val (.int p1), .val (.int p2), .val (.int p3), .val (.int p4), .val (.int p5), .unset] [(.ref b241)])) _
                      refine XS.astore X249.here hx rfl (hb hby d1_525) rfl rfl (l' := #[.val (.int p1), .val (.int p2), .val (.int p3), .val (.int p4), .val (.int p5), .val (.ref b241)]) rfl ?_
                      show Steps p.tables e below (T249.setTop (mkF m 527 #[.val (.int p1), .val (.int p2), .val (.int p3), .val (.int p4), .val (.int p5), .val (.ref b241)] [])) _
                      refine XS.goto X249.here hx rfl (pc0 := 527) (pc' := 558) rfl (hb hby d1_527) (by decide) (by decide) ?_
                      show Steps p.tables e below (T249.setTop (mkF m 558 #[.val (.int p1), .val (.int p2), .val (.int p3), .val (.int p4), .val (.int p5), .val (.ref b241)] [])) _
                      refine XS.iloadN X249.here hx rfl (hb hby d1_558) rfl ?_
                      exact k)
                    by_cases hc559 : p3 = (0 : Int32)
                    ·
                      obtain ⟨T251, h251, X251, e251, E251, A251, D251, -, st251⟩ := newO X249 hx hZ hown (hw _ (List.mem_of_getElem? (i := 6) rfl)) (hw _ (List.mem_of_getElem? (i := 7) rfl)) (hw _ (List.mem_of_getElem? (i := 8) rfl)) e249 (g := (mkF m 581 #[.val (.int p1), .val (.int p2), .val (.int p3), .val (.int p4), .val (.int p5), .val (.ref b241)] [])) rfl (hb hby d1_581) (by decide) (by decide)
                      obtain ⟨b251, g251⟩ : ∃ z, z = h249.size := ⟨_, rfl⟩
                      rw [← g251] at A251 D251 st251
                      have g_b251 : n0 ≤ b251 := Nat.le_trans Zs (Nat.le_of_eq g251.symm)
                      have sz_b251 : h0.size ≤ b251 := Nat.le_trans Kp.1 (Nat.le_of_eq g251.symm)
                      have ne_b241_b251 : b241 ≠ b251 := Nat.ne_of_lt (Nat.lt_of_lt_of_le E_b241.lt (Nat.le_of_eq g251.symm))
                      have Sf_b251 : Safe Z ELs s.vm h249 b251 := Safe.new (Nat.le_of_eq g251.symm)
                      have Hd : CHr Z ELs s.vm h0 s.vm h251 := Hc.trans (CHr.ext E251 Hc.1)
                      have Sg_b251 : Safe Z ELs s.vm h251 b251 := Safe.ext E251 Hc.1 Sf_b251
                      have Sf_b251 := Sg_b251
                      have Hc := Hd
                      have Zs : n0 ≤ h251.size := Nat.le_trans Zs E251.1
                      have Ol : Old Z n0 h251 := Ol.ext E251
                      have Kp : Keep h0 h251 [] := Kp.ext E251
                      have E_b241 : Exa Z h251 b241 "[C" := E_b241.ext E251
                      have V_b241 : Arv Z h251 b241 k241 .char (4 : Int32) [(.int (nar .char (100 : Int32))), (.int (nar .char (101 : Int32))), (.int (nar .char (108 : Int32))), (.int (nar .char (116 : Int32)))] (.int (0 : Int32)) := V_b241.ext E251
                      have E_b251 : Exa Z h251 b251 "java/lang/String" := A251
                      have F_coder_b251 : Fld Z h251 b251 "java/lang/String" "coder" "B" (.int (0 : Int32)) := D251 (Or.inr (hw _ (List.mem_of_getElem? (i := 32) rfl))) (ty := .byte) (by decide)
                      have F_value_b251 : Fld Z h251 b251 "java/lang/String" "value" "[B" .null := D251 (Or.inr (hw _ (List.mem_of_getElem? (i := 34) rfl))) (ty := (.array .byte)) (by decide)
                      obtain ⟨_, _, ⟨T252, L252, k252, n252⟩, -, X252, ⟨Lc252, hQ252, l252, y252, z252⟩, st252⟩ := X251.specialBack hx (y := (⟨"java/lang/String", "<init>", "([C)V"⟩ : MethodName)) rfl hown (mvT hZ (hw _ (List.mem_of_getElem? (i := 9) rfl))) (mvT hZ (hw _ (List.mem_of_getElem? (i := 10) rfl))) (mvT hZ (hw _ (List.mem_of_getElem? (i := 11) rfl))) (by decide) (own_new (W := 1) hZ hw g_b251 Zs E_b251 F_value_b251 F_coder_b251 (cs := [(nar .char (100 : Int32)), (nar .char (101 : Int32)), (nar .char (108 : Int32)), (nar .char (116 : Int32))]) (n := 4) V_b241 (Sta.ext Ol.2 S_COMPACT_STRINGS) hzc rfl rfl (by decide) (by decide) (alIS (by decide) (alIS (by decide) (alIS (by decide) (alIS (by decide) alI0)))) (by decide) (by decide)) (g := (mkF m 587 #[.val (.int p1), .val (.int p2), .val (.int p3), .val (.int p4), .val (.int p5), .val (.ref b241)] [(.ref b241), (.ref b251), (.ref b251)])) rfl (by rw [hml]; rfl) (Steps.refl _) (a := b251) (argsL := [(.ref b241)]) (rest := [(.ref b251)]) (lenOf pd_1 rfl) rfl (by show 2 * 0 + _ ≤ _; exact Nat.le_of_eq rfl) (hb hby d1_587) (fun _ _ => ⟨rfl, e251, (by decide : 2 + 1 ≤ _), (by decide : 8 + 4 ≤ _)⟩)
                      dsimp only [Pt.U, Pt.locs, Pt.cells, Pt.slots] at X252 l252 y252 z252 st252 hQ252
                      subst l252 y252 z252
                      obtain ⟨rfl, N252q, K252, T252x⟩ := hQ252
                      have Hd : CHr Z ELs s.vm h0 s.vm T252.heap := Hc.trans (CHr.keep K252 (allS (Sf_b251 : Safe Z ELs s.vm _ b251) all0) Hc.1)
                      have Sg_b251 : Safe Z ELs s.vm T252.heap b251 := Safe.keep K252 (allS (Sf_b251 : Safe Z ELs s.vm _ b251) all0) Hc.1 Sf_b251
                      have Sf_b251 := Sg_b251
                      have Hc := Hd
                      have Zs : n0 ≤ T252.heap.size := Nat.le_trans Zs K252.1
                      have Ol : Old Z n0 T252.heap := Ol.keep K252 (allS g_b251 all0)
                      have Kp : Keep h0 T252.heap [] := Kp.trans K252 (allS (Or.inr sz_b251) all0)
                      have E_b241 : Exa Z T252.heap b241 "[C" := E_b241.keep K252
                      have E_b251 : Exa Z T252.heap b251 "java/lang/String" := E_b251.keep K252
                      have T_b251 : Stx Z T252.heap b251 [(nar .char (100 : Int32)), (nar .char (101 : Int32)), (nar .char (108 : Int32)), (nar .char (116 : Int32))] := T252x
                      have N252 := Fr.app N249 N252q
                      obtain ⟨fs, hr, hrun, hended, hRW⟩ := X252.leaveW (s := s) (vm₁ := s.vm) ((State.WarmedH.refl s).since 0) (Nat.zero_le _) (v := some (.ref b251)) (fun h => by rw [Bd.returns] at h; cases h)
                      have hCR : CHr Z ELs s.vm h0 T252.vm T252.heap := Hc.trans (CHv.at X252 hZ hEL Hc.1)
                      refine ⟨_, _, pre250 _ ?_, hrun, hended, _, _, rfl, ?_, (by rw [hh]; show CHr Z ELs s.vm h0 T252.vm T252.heap; exact hCR), ⟨hRW.1, hRW.2.1, hRW.2.2.1, hRW.2.2.2.mono (by decide) (by decide)⟩⟩
                      · show Steps p.tables e below (T249.setTop (mkF m 559 #[.val (.int p1), .val (.int p2), .val (.int p3), .val (.int p4), .val (.int p5), .val (.ref b241)] [(.int p3)])) _
                        refine XS.ifYes X249.here hx rfl (pc0 := 559) (pc' := 581) rfl (hb hby d1_559) rfl ((if0 _ _).trans (teq hc559).1) (by decide) (by decide) ?_
                        show Steps p.tables e below (T249.setTop (mkF m 581 #[.val (.int p1), .val (.int p2), .val (.int p3), .val (.int p4), .val (.int p5), .val (.ref b241)] [])) _
                        refine st251 _ ?_
                        show Steps p.tables e below (T251.setTop (mkF m 584 #[.val (.int p1), .val (.int p2), .val (.int p3), .val (.int p4), .val (.int p5), .val (.ref b241)] [(.ref b251)])) _
                        refine XS.dup X251.here hx rfl (hb hby d1_584) rfl rfl ?_
                        show Steps p.tables e below (T251.setTop (mkF m 585 #[.val (.int p1), .val (.int p2), .val (.int p3), .val (.int p4), .val (.int p5), .val (.ref b241)] [(.ref b251), (.ref b251)])) _
                        refine XS.aload X251.here hx rfl (hb hby d1_585) rfl rfl ?_
                        show Steps p.tables e below (T251.setTop (mkF m 587 #[.val (.int p1), .val (.int p2), .val (.int p3), .val (.int p4), .val (.int p5), .val (.ref b241)] [(.ref b241), (.ref b251), (.ref b251)])) _
                        refine st252.trans ?_
                        show Steps p.tables e below (T252.setTop (mkF m 590 #[.val (.int p1), .val (.int p2), .val (.int p3), .val (.int p4), .val (.int p5), .val (.ref b241)] [(.ref b251)])) _
                        exact retOut X252 hx Bd.returns rfl (Or.inr (Or.inr (Or.inr (Or.inr ⟨rfl, rfl, rfl⟩)))) (hb hby d1_590) hr
                      · show QB Z p1 p2 p3 p4 p5 zc h0 n0 _ T252.heap _
                        exact ⟨b251, [(nar .char (100 : Int32)), (nar .char (101 : Int32)), (nar .char (108 : Int32)), (nar .char (116 : Int32))], rfl, N252, Kp, E_b251, T_b251⟩
                    ·
                      obtain ⟨cl253, Ar253, hl253⟩ := Arv.len V_b241 (by decide)
                      have ia253 := State.isArrayOf_alike hZ.alike Ar253.2.1
                      obtain ⟨cl254, Ar254, hl254⟩ := Arv.len V_b241 (by decide)
                      have ia254 := State.isArrayOf_alike hZ.alike Ar254.2.1
                      obtain ⟨cl255, Ar255, q255, S255, M255, H255, G255⟩ := V_b241
                      obtain ⟨T256, h256, X256, e256, W256, st256⟩ := stC X249 hx hZ e249 Ar255 (j := ((p2 &&& (2147483647 : Int32)) % (4 : Int32))) (inb_of S255 (own_rem p2 (by decide))) (g := (mkF m 580 #[.val (.int p1), .val (.int p2), .val (.int p3), .val (.int p4), .val (.int p5), .val (.ref b241)] [(.int p5), (.int ((p2 &&& (2147483647 : Int32)) % (4 : Int32))), (.ref b241)])) rfl rfl (hb hby d1_580)
                      have N256 := Fr.snoc X256 N249 g_b241
                      have Sw := ((Safe.exa hZ.alike E_b241 (by decide) (by decide)) : Safe Z ELs s.vm _ b241)
                      have Hd : CHr Z ELs s.vm h0 s.vm h256 := Hc.trans (CHr.wr W256 Sw Hc.1)
                      have Hc := Hd
                      have Zs : n0 ≤ h256.size := Nat.le_trans Zs (Keep.of_wr W256).1
                      have Ol : Old Z n0 h256 := Ol.wr W256 g_b241
                      have Kp : Keep h0 h256 [] := Kp.wr W256 (Or.inr sz_b241)
                      have E_b241 : Exa Z h256 b241 "[C" := E_b241.wr W256
                      have V_b241 : Arv Z h256 b241 k241 .char (4 : Int32) ((([(nar .char (100 : Int32)), (nar .char (101 : Int32)), (nar .char (108 : Int32)), (nar .char (116 : Int32))] : List Int32).set ((p2 &&& (2147483647 : Int32)) % (4 : Int32)).toNatClampNeg (nar .char p5)).map Value.int) (.int (0 : Int32)) := by rw [List.map_set]; exact Arv.set Ar255 q255 S255 M255 H255 G255 (fits_nar_char _) W256 _ rfl (own_ix (own_rem p2 (by decide)) (Nat.le_of_eq rfl))
                      obtain ⟨T257, h257, X257, e257, E257, A257, D257, -, st257⟩ := newO X256 hx hZ hown (hw _ (List.mem_of_getElem? (i := 6) rfl)) (hw _ (List.mem_of_getElem? (i := 7) rfl)) (hw _ (List.mem_of_getElem? (i := 8) rfl)) e256 (g := (mkF m 581 #[.val (.int p1), .val (.int p2), .val (.int p3), .val (.int p4), .val (.int p5), .val (.ref b241)] [])) rfl (hb hby d1_581) (by decide) (by decide)
                      obtain ⟨b257, g257⟩ : ∃ z, z = h256.size := ⟨_, rfl⟩
                      rw [← g257] at A257 D257 st257
                      have g_b257 : n0 ≤ b257 := Nat.le_trans Zs (Nat.le_of_eq g257.symm)
                      have sz_b257 : h0.size ≤ b257 := Nat.le_trans Kp.1 (Nat.le_of_eq g257.symm)
                      have ne_b241_b257 : b241 ≠ b257 := Nat.ne_of_lt (Nat.lt_of_lt_of_le E_b241.lt (Nat.le_of_eq g257.symm))
                      have Sf_b257 : Safe Z ELs s.vm h256 b257 := Safe.new (Nat.le_of_eq g257.symm)
                      have Hd : CHr Z ELs s.vm h0 s.vm h257 := Hc.trans (CHr.ext E257 Hc.1)
                      have Sg_b257 : Safe Z ELs s.vm h257 b257 := Safe.ext E257 Hc.1 Sf_b257
                      have Sf_b257 := Sg_b257
                      have Hc := Hd
                      have Zs : n0 ≤ h257.size := Nat.le_trans Zs E257.1
                      have Ol : Old Z n0 h257 := Ol.ext E257
                      have Kp : Keep h0 h257 [] := Kp.ext E257
                      have E_b241 : Exa Z h257 b241 "[C" := E_b241.ext E257
                      have V_b241 : Arv Z h257 b241 k241 .char (4 : Int32) ((([(nar .char (100 : Int32)), (nar .char (101 : Int32)), (nar .char (108 : Int32)), (nar .char (116 : Int32))] : List Int32).set ((p2 &&& (2147483647 : Int32)) % (4 : Int32)).toNatClampNeg (nar .char p5)).map Value.int) (.int (0 : Int32)) := V_b241.ext E257
                      have E_b257 : Exa Z h257 b257 "java/lang/String" := A257
                      have F_coder_b257 : Fld Z h257 b257 "java/lang/String" "coder" "B" (.int (0 : Int32)) := D257 (Or.inr (hw _ (List.mem_of_getElem? (i := 32) rfl))) (ty := .byte) (by decide)
                      have F_value_b257 : Fld Z h257 b257 "java/lang/String" "value" "[B" .null := D257 (Or.inr (hw _ (List.mem_of_getElem? (i := 34) rfl))) (ty := (.array .byte)) (by decide)
                      obtain ⟨_, _, ⟨T258, L258, k258, n258⟩, -, X258, ⟨Lc258, hQ258, l258, y258, z258⟩, st258⟩ := X257.specialBack hx (y := (⟨"java/lang/String", "<init>", "([C)V"⟩ : MethodName)) rfl hown (mvT hZ (hw _ (List.mem_of_getElem? (i := 9) rfl))) (mvT hZ (hw _ (List.mem_of_getElem? (i := 10) rfl))) (mvT hZ (hw _ (List.mem_of_getElem? (i := 11) rfl))) (by decide) (own_new (W := 1) hZ hw g_b257 Zs E_b257 F_value_b257 F_coder_b257 (cs := (([(nar .char (100 : Int32)), (nar .char (101 : Int32)), (nar .char (108 : Int32)), (nar .char (116 : Int32))] : List Int32).set ((p2 &&& (2147483647 : Int32)) % (4 : Int32)).toNatClampNeg (nar .char p5))) (n := 4) V_b241 (Sta.ext Ol.2 S_COMPACT_STRINGS) hzc (by rw [List.length_set]; rfl) rfl (by decide) (by decide) (own_set (alIS (by decide) (alIS (by decide) (alIS (by decide) (alIS (by decide) alI0)))) hd) (by decide) (by decide)) (g := (mkF m 587 #[.val (.int p1), .val (.int p2), .val (.int p3), .val (.int p4), .val (.int p5), .val (.ref b241)] [(.ref b241), (.ref b257), (.ref b257)])) rfl (by rw [hml]; rfl) (Steps.refl _) (a := b257) (argsL := [(.ref b241)]) (rest := [(.ref b257)]) (lenOf pd_1 rfl) rfl (by show 2 * 0 + _ ≤ _; exact Nat.le_of_eq rfl) (hb hby d1_587) (fun _ _ => ⟨rfl, e257, (by decide : 2 + 1 ≤ _), (by decide : 8 + 4 ≤ _)⟩)
                      dsimp only [Pt.U, Pt.locs, Pt.cells, Pt.slots] at X258 l258 y258 z258 st258 hQ258
                      subst l258 y258 z258
                      obtain ⟨rfl, N258q, K258, T258x⟩ := hQ258
                      have Hd : CHr Z ELs s.vm h0 s.vm T258.heap := Hc.trans (CHr.keep K258 (allS (Sf_b257 : Safe Z ELs s.vm _ b257) all0) Hc.1)
                      have Sg_b257 : Safe Z ELs s.vm T258.heap b257 := Safe.keep K258 (allS (Sf_b257 : Safe Z ELs s.vm _ b257) all0) Hc.1 Sf_b257
                      have Sf_b257 := Sg_b257
                      have Hc := Hd
                      have Zs : n0 ≤ T258.heap.size := Nat.le_trans Zs K258.1
                      have Ol : Old Z n0 T258.heap := Ol.keep K258 (allS g_b257 all0)
                      have Kp : Keep h0 T258.heap [] := Kp.trans K258 (allS (Or.inr sz_b257) all0)
                      have E_b241 : Exa Z T258.heap b241 "[C" := E_b241.keep K258
                      have E_b257 : Exa Z T258.heap b257 "java/lang/String" := E_b257.keep K258
                      have T_b257 : Stx Z T258.heap b257 (([(nar .char (100 : Int32)), (nar .char (101 : Int32)), (nar .char (108 : Int32)), (nar .char (116 : Int32))] : List Int32).set ((p2 &&& (2147483647 : Int32)) % (4 : Int32)).toNatClampNeg (nar .char p5)) := T258x
                      have N258 := Fr.app N256 N258q
                      obtain ⟨fs, hr, hrun, hended, hRW⟩ := X258.leaveW (s := s) (vm₁ := s.vm) ((State.WarmedH.refl s).since 0) (Nat.zero_le _) (v := some (.ref b257)) (fun h => by rw [Bd.returns] at h; cases h)
                      have hCR : CHr Z ELs s.vm h0 T258.vm T258.heap := Hc.trans (CHv.at X258 hZ hEL Hc.1)
                      refine ⟨_, _, pre250 _ ?_, hrun, hended, _, _, rfl, ?_, (by rw [hh]; show CHr Z ELs s.vm h0 T258.vm T258.heap; exact hCR), ⟨hRW.1, hRW.2.1, hRW.2.2.1, hRW.2.2.2.mono (by decide) (by decide)⟩⟩
                      · show Steps p.tables e below (T249.setTop (mkF m 559 #[.val (.int p1), .val (.int p2), .val (.int p3), .val (.int p4), .val (.int p5), .val (.ref b241)] [(.int p3)])) _
                        refine XS.ifNo X249.here hx rfl (hb hby d1_559) rfl ((if0 _ _).trans (feq hc559).1) ?_
                        show Steps p.tables e below (T249.setTop (mkF m 562 #[.val (.int p1), .val (.int p2), .val (.int p3), .val (.int p4), .val (.int p5), .val (.ref b241)] [])) _
                        refine XS.aload X249.here hx rfl (hb hby d1_562) rfl rfl ?_
                        show Steps p.tables e below (T249.setTop (mkF m 564 #[.val (.int p1), .val (.int p2), .val (.int p3), .val (.int p4), .val (.int p5), .val (.ref b241)] [(.ref b241)])) _
                        refine X249.arraylength hx (by rw [e249]; exact Ar253.1) ia253 (g := (mkF m 564 #[.val (.int p1), .val (.int p2), .val (.int p3), .val (.int p4), .val (.int p5), .val (.ref b241)] [(.ref b241)])) rfl rfl (hb hby d1_564) _ ?_
                        rw [hl253]
                        show Steps p.tables e below (T249.setTop (mkF m 565 #[.val (.int p1), .val (.int p2), .val (.int p3), .val (.int p4), .val (.int p5), .val (.ref b241)] [(.int (4 : Int32))])) _
                        refine XS.ifNo X249.here hx rfl (hb hby d1_565) rfl ((if0 _ _).trans (tlt (by decide)).2.2.2) ?_
                        show Steps p.tables e below (T249.setTop (mkF m 568 #[.val (.int p1), .val (.int p2), .val (.int p3), .val (.int p4), .val (.int p5), .val (.ref b241)] [])) _
                        refine XS.aload X249.here hx rfl (hb hby d1_568) rfl rfl ?_
                        show Steps p.tables e below (T249.setTop (mkF m 570 #[.val (.int p1), .val (.int p2), .val (.int p3), .val (.int p4), .val (.int p5), .val (.ref b241)] [(.ref b241)])) _
                        refine XS.iloadN X249.here hx rfl (hb hby d1_570) rfl ?_
                        show Steps p.tables e below (T249.setTop (mkF m 571 #[.val (.int p1), .val (.int p2), .val (.int p3), .val (.int p4), .val (.int p5), .val (.ref b241)] [(.int p2), (.ref b241)])) _
                        refine X249.ldcInt hx hown (mvT hZ (hw _ (List.mem_of_getElem? (i := 0) rfl))) (g := (mkF m 571 #[.val (.int p1), .val (.int p2), .val (.int p3), .val (.int p4), .val (.int p5), .val (.ref b241)] [(.int p2), (.ref b241)])) rfl (hb hby d1_571) _ ?_
                        show Steps p.tables e below (T249.setTop (mkF m 573 #[.val (.int p1), .val (.int p2), .val (.int p3), .val (.int p4), .val (.int p5), .val (.ref b241)] [(.int (2147483647 : Int32)), (.int p2), (.ref b241)])) _
                        refine XS.iand X249.here hx rfl (hb hby d1_573) rfl ?_
                        show Steps p.tables e below (T249.setTop (mkF m 574 #[.val (.int p1), .val (.int p2), .val (.int p3), .val (.int p4), .val (.int p5), .val (.ref b241)] [(.int (p2 &&& (2147483647 : Int32))), (.ref b241)])) _
                        refine XS.aload X249.here hx rfl (hb hby d1_574) rfl rfl ?_
                        show Steps p.tables e below (T249.setTop (mkF m 576 #[.val (.int p1), .val (.int p2), .val (.int p3), .val (.int p4), .val (.int p5), .val (.ref b241)] [(.ref b241), (.int (p2 &&& (2147483647 : Int32))), (.ref b241)])) _
                        refine X249.arraylength hx (by rw [e249]; exact Ar254.1) ia254 (g := (mkF m 576 #[.val (.int p1), .val (.int p2), .val (.int p3), .val (.int p4), .val (.int p5), .val (.ref b241)] [(.ref b241), (.int (p2 &&& (2147483647 : Int32))), (.ref b241)])) rfl rfl (hb hby d1_576) _ ?_
                        rw [hl254]
                        show Steps p.tables e below (T249.setTop (mkF m 577 #[.val (.int p1), .val (.int p2), .val (.int p3), .val (.int p4), .val (.int p5), .val (.ref b241)] [(.int (4 : Int32)), (.int (p2 &&& (2147483647 : Int32))), (.ref b241)])) _
                        refine iremM X249 hx rfl (hb hby d1_577) rfl (by decide) ?_
                        show Steps p.tables e below (T249.setTop (mkF m 578 #[.val (.int p1), .val (.int p2), .val (.int p3), .val (.int p4), .val (.int p5), .val (.ref b241)] [(.int ((p2 &&& (2147483647 : Int32)) % (4 : Int32))), (.ref b241)])) _
                        refine XS.iload X249.here hx rfl (hb hby d1_578) rfl ?_
                        show Steps p.tables e below (T249.setTop (mkF m 580 #[.val (.int p1), .val (.int p2), .val (.int p3), .val (.int p4), .val (.int p5), .val (.ref b241)] [(.int p5), (.int ((p2 &&& (2147483647 : Int32)) % (4 : Int32))), (.ref b241)])) _
                        refine st256 _ ?_
                        show Steps p.tables e below (T256.setTop (mkF m 581 #[.val (.int p1), .val (.int p2), .val (.int p3), .val (.int p4), .val (.int p5), .val (.ref b241)] [])) _
                        refine st257 _ ?_
                        show Steps p.tables e below (T257.setTop (mkF m 584 #[.val (.int p1), .val (.int p2), .val (.int p3), .val (.int p4), .val (.int p5), .val (.ref b241)] [(.ref b257)])) _
                        refine XS.dup X257.here hx rfl (hb hby d1_584) rfl rfl ?_
                        show Steps p.tables e below (T257.setTop (mkF m 585 #[.val (.int p1), .val (.int p2), .val (.int p3), .val (.int p4), .val (.int p5), .val (.ref b241)] [(.ref b257), (.ref b257)])) _
                        refine XS.aload X257.here hx rfl (hb hby d1_585) rfl rfl ?_
                        show Steps p.tables e below (T257.setTop (mkF m 587 #[.val (.int p1), .val (.int p2), .val (.int p3), .val (.int p4), .val (.int p5), .val (.ref b241)] [(.ref b241), (.ref b257), (.ref b257)])) _
                        refine st258.trans ?_
                        show Steps p.tables e below (T258.setTop (mkF m 590 #[.val (.int p1), .val (.int p2), .val (.int p3), .val (.int p4), .val (.int p5), .val (.ref b241)] [(.ref b257)])) _
                        exact retOut X258 hx Bd.returns rfl (Or.inr (Or.inr (Or.inr (Or.inr ⟨rfl, rfl, rfl⟩)))) (hb hby d1_590) hr
                      · show QB Z p1 p2 p3 p4 p5 zc h0 n0 _ T258.heap _
                        exact ⟨b257, (([(nar .char (100 : Int32)), (nar .char (101 : Int32)), (nar .char (108 : Int32)), (nar .char (116 : Int32))] : List Int32).set ((p2 &&& (2147483647 : Int32)) % (4 : Int32)).toNatClampNeg (nar .char p5)), rfl, N258, Kp, E_b257, T_b257⟩
                  ·
                    have pre259 : ∀ t, Steps p.tables e below (s₁.setTop (mkF m 533 #[.val (.int p1), .val (.int p2), .val (.int p3), .val (.int p4), .val (.int p5), .unset] [(.int (9 : Int32)), (.int p1)])) t → Steps p.tables e below (s₁.setTop (entryFrame m #[(.int p1), (.int p2), (.int p3), (.int p4), (.int p5)] 6)) t := fun t k => pre240 t (by
                      show Steps p.tables e below (s₁.setTop (mkF m 499 #[.val (.int p1), .val (.int p2), .val (.int p3), .val (.int p4), .val (.int p5), .unset] [(.int (8 : Int32)), (.int p1)])) _
                      refine XS.icmpYes X0.here hx rfl (pc0 := 499) (pc' := 530) rfl (hb hby d1_499) rfl (feq hc499).2 (by decide) (by decide) ?_
                      show Steps p.tables e below (s₁.setTop (mkF m 530 #[.val (.int p1), .val (.int p2), .val (.int p3), .val (.int p4), .val (.int p5), .unset] [])) _
                      refine XS.iloadN X0.here hx rfl (hb hby d1_530) rfl ?_
                      show Steps p.tables e below (s₁.setTop (mkF m 531 #[.val (.int p1), .val (.int p2), .val (.int p3), .val (.int p4), .val (.int p5), .unset] [(.int p1)])) _
                      refine XS.bipush X0.here hx rfl (hb hby d1_531) ?_
                      exact k)
                    by_cases hc533 : p1 = (9 : Int32)
                    ·
                      obtain ⟨T260, h260, k260, X260, e260, E260, A260, B260, st260⟩ := newPE X0 hx hZ (hw _ (List.mem_of_getElem? (i := 5) rfl)) e0 (g := (mkF m 537 #[.val (.int p1), .val (.int p2), .val (.int p3), .val (.int p4), .val (.int p5), .unset] [(.int (0 : Int32))])) rfl (hb hby d1_537) rfl (by decide) (cap := 0) (by decide) (by decide) (by decide) (by decide) (ad := "[C") (by decide)
                      obtain ⟨b260, g260⟩ : ∃ z, z = h0.size := ⟨_, rfl⟩
                      rw [← g260] at A260 B260 st260
                      have g_b260 : n0 ≤ b260 := Nat.le_trans Zs (Nat.le_of_eq g260.symm)
                      have sz_b260 : h0.size ≤ b260 := Nat.le_trans Kp.1 (Nat.le_of_eq g260.symm)
                      have Hd : CHr Z ELs s.vm h0 s.vm h260 := Hc.trans (CHr.ext E260 Hc.1)
                      have Hc := Hd
                      have Zs : n0 ≤ h260.size := Nat.le_trans Zs E260.1
                      have Ol : Old Z n0 h260 := Ol.ext E260
                      have Kp : Keep h0 h260 [] := Kp.ext E260
                      have E_b260 : Exa Z h260 b260 "[C" := B260
                      have V_b260 : Arv Z h260 b260 k260 .char (0 : Int32) [] (.int (0 : Int32)) := (Arv.new A260 (by decide)).pad (pad_rep [] (.int (0 : Int32)) 0)
                      have pre261 : ∀ t, Steps p.tables e below (T260.setTop (mkF m 559 #[.val (.int p1), .val (.int p2), .val (.int p3), .val (.int p4), .val (.int p5), .val (.ref b260)] [(.int p3)])) t → Steps p.tables e below (s₁.setTop (entryFrame m #[(.int p1), (.int p2), (.int p3), (.int p4), (.int p5)] 6)) t := fun t k => pre259 t (by
                        show Steps p.tables e below (s₁.setTop (mkF m 533 #[.val (.int p1), .val (.int p2), .val (.int p3), .val (.int p4), .val (.int p5), .unset] [(.int (9 : Int32)), (.int p1)])) _
                        refine XS.icmpNo X0.here hx rfl (hb hby d1_533) rfl (teq hc533).2 ?_
                        show Steps p.tables e below (s₁.setTop (mkF m 536 #[.val (.int p1), .val (.int p2), .val (.int p3), .val (.int p4), .val (.int p5), .unset] [])) _
                        refine XS.iconst X0.here hx rfl (hb hby d1_536) ?_
                        show Steps p.tables e below (s₁.setTop (mkF m 537 #[.val (.int p1), .val (.int p2), .val (.int p3), .val (.int p4), .val (.int p5), .unset] [(.int (0 : Int32))])) _
                        refine st260 _ ?_
                        show Steps p.tables e below (T260.setTop (mkF m 539 #[.val (.int p1), .val (.int p2), .val (.int p3), .val (.int p4), .val (.int p5), .unset] [(.ref b260)])) _
                        refine XS.astore X260.here hx rfl (hb hby d1_539) rfl rfl (l' := #[.val (.int p1), .val (.int p2), .val (.int p3), .val (.int p4), .val (.int p5), .val (.ref b260)]) rfl ?_
                        show Steps p.tables e below (T260.setTop (mkF m 541 #[.val (.int p1), .val (.int p2), .val (.int p3), .val (.int p4), .val (.int p5), .val (.ref b260)] [])) _
                        refine XS.goto X260.here hx rfl (pc0 := 541) (pc' := 558) rfl (hb hby d1_541) (by decide) (by decide) ?_
                        show Steps p.tables e below (T260.setTop (mkF m 558 #[.val (.int p1), .val (.int p2), .val (.int p3), .val (.int p4), .val (.int p5), .val (.ref b260)] [])) _
                        refine XS.iloadN X260.here hx rfl (hb hby d1_558) rfl ?_
                        exact k)
                      by_cases hc559 : p3 = (0 : Int32)
                      ·
                        obtain ⟨T262, h262, X262, e262, E262, A262, D262, -, st262⟩ := newO X260 hx hZ hown (hw _ (List.mem_of_getElem? (i := 6) rfl)) (hw _ (List.mem_of_getElem? (i := 7) rfl)) (hw _ (List.mem_of_getElem? (i := 8) rfl)) e260 (g := (mkF m 581 #[.val (.int p1), .val (.int p2), .val (.int p3), .val (.int p4), .val (.int p5), .val (.ref b260)] [])) rfl (hb hby d1_581) (by decide) (by decide)
                        obtain ⟨b262, g262⟩ : ∃ z, z = h260.size := ⟨_, rfl⟩
                        rw [← g262] at A262 D262 st262
                        have g_b262 : n0 ≤ b262 := Nat.le_trans Zs (Nat.le_of_eq g262.symm)
                        have sz_b262 : h0.size ≤ b262 := Nat.le_trans Kp.1 (Nat.le_of_eq g262.symm)
                        have ne_b260_b262 : b260 ≠ b262 := Nat.ne_of_lt (Nat.lt_of_lt_of_le E_b260.lt (Nat.le_of_eq g262.symm))
                        have Sf_b262 : Safe Z ELs s.vm h260 b262 := Safe.new (Nat.le_of_eq g262.symm)
                        have Hd : CHr Z ELs s.vm h0 s.vm h262 := Hc.trans (CHr.ext E262 Hc.1)
                        have Sg_b262 : Safe Z ELs s.vm h262 b262 := Safe.ext E262 Hc.1 Sf_b262
                        have Sf_b262 := Sg_b262
                        have Hc := Hd
                        have Zs : n0 ≤ h262.size := Nat.le_trans Zs E262.1
                        have Ol : Old Z n0 h262 := Ol.ext E262
                        have Kp : Keep h0 h262 [] := Kp.ext E262
                        have E_b260 : Exa Z h262 b260 "[C" := E_b260.ext E262
                        have V_b260 : Arv Z h262 b260 k260 .char (0 : Int32) [] (.int (0 : Int32)) := V_b260.ext E262
                        have E_b262 : Exa Z h262 b262 "java/lang/String" := A262
                        have F_coder_b262 : Fld Z h262 b262 "java/lang/String" "coder" "B" (.int (0 : Int32)) := D262 (Or.inr (hw _ (List.mem_of_getElem? (i := 32) rfl))) (ty := .byte) (by decide)
                        have F_value_b262 : Fld Z h262 b262 "java/lang/String" "value" "[B" .null := D262 (Or.inr (hw _ (List.mem_of_getElem? (i := 34) rfl))) (ty := (.array .byte)) (by decide)
                        obtain ⟨_, _, ⟨T263, L263, k263, n263⟩, -, X263, h2263, g2263, ⟨Lc263, hQ263, l263, y263, z263, R263⟩, st263⟩ := Jvm.Stand.specialBackS (s := (s.setVm s.vm)) X262 hx (y := (⟨"java/lang/String", "<init>", "([C)V"⟩ : MethodName)) rfl hown (mvT hZ (hw _ (List.mem_of_getElem? (i := 9) rfl))) (mvT hZ (hw _ (List.mem_of_getElem? (i := 10) rfl))) (mvT hZ (hw _ (List.mem_of_getElem? (i := 11) rfl))) (by decide) (backOfSH (W := 1) (rmS1 l Z a0 hw [] b262 b260 (0 : Int32) k260 h262 n0 Zs E_b262 F_value_b262 F_coder_b262 g_b262 Ol V_b260 (Ne.symm ne_b260_b262)) hZ (hw _ (List.mem_of_getElem? (i := 11) rfl)) (hw _ (List.mem_of_getElem? (i := 8) rfl)) (by decide) (by decide) hEL Hc.1) (g := (mkF m 587 #[.val (.int p1), .val (.int p2), .val (.int p3), .val (.int p4), .val (.int p5), .val (.ref b260)] [(.ref b260), (.ref b262), (.ref b262)])) rfl (by rw [hml]; rfl) (Steps.refl _) (a := b262) (argsL := [(.ref b260)]) (rest := [(.ref b262)]) (lenOf pd_1 rfl) rfl (by show 2 * 0 + _ ≤ _; exact Nat.le_of_eq rfl) (hb hby d1_587) (fun _ _ => ⟨rfl, e262, (by decide : 2 + 4 ≤ _), (by decide : 4 + 8 ≤ _)⟩)
                        dsimp only [Pt.U, Pt.locs, Pt.cells, Pt.slots] at X263 h2263 g2263 l263 y263 z263 st263 hQ263 R263
                        subst l263 y263 z263
                        obtain ⟨X263, hS263, hZ, hown⟩ := rebS ((State.WarmedH.refl s).since 0) (by rw [e262]; exact (Nat.zero_le _)) X263 h2263 g2263 hZ hown
                        obtain ⟨rfl, N263q, K263, P263_1⟩ := hQ263
                        have Hc : CHr Z ELs s.vm h0 T263.vm T263.heap := Hc.trans R263
                        have Zs : n0 ≤ T263.heap.size := Nat.le_trans Zs K263.1
                        have Ol : Old Z n0 T263.heap := Ol.keep K263 (allS g_b262 all0)
                        have Kp : Keep h0 T263.heap [] := Kp.trans K263 (allS (Or.inr sz_b262) all0)
                        have E_b260 : Exa Z T263.heap b260 "[C" := E_b260.keep K263
                        have V_b260 : Arv Z T263.heap b260 k260 .char (0 : Int32) [] (.int (0 : Int32)) := V_b260.keep K263 (ninS ne_b260_b262 nin0)
                        have E_b262 : Exa Z T263.heap b262 "java/lang/String" := E_b262.keep K263
                        have hkc : T263.heap.size ≤ T263.heap.size := Nat.le_refl _
                        have T_b262 : Stx Z T263.heap b262 [] := P263_1
                        have N263 := Fr.app N0 N263q
                        obtain ⟨fs, hr, hrun, hended, hRW⟩ := X263.leaveW (s := s) (vm₁ := T263.vm) hS263 hkc (v := some (.ref b262)) (fun h => by rw [Bd.returns] at h; cases h)
                        have hCR : CHr Z ELs s.vm h0 T263.vm T263.heap := Hc.trans (CHv.at X263 hZ hEL Hc.1)
                        refine ⟨_, _, pre261 _ ?_, hrun, hended, _, _, rfl, ?_, (by rw [hh]; show CHr Z ELs s.vm h0 T263.vm T263.heap; exact hCR), ⟨hRW.1, hRW.2.1, hRW.2.2.1, hRW.2.2.2.mono (by decide) (by decide)⟩⟩
                        · show Steps p.tables e below (T260.setTop (mkF m 559 #[.val (.int p1), .val (.int p2), .val (.int p3), .val (.int p4), .val (.int p5), .val (.ref b260)] [(.int p3)])) _
                          refine XS.ifYes X260.here hx rfl (pc0 := 559) (pc' := 581) rfl (hb hby d1_559) rfl ((if0 _ _).trans (teq hc559).1) (by decide) (by decide) ?_
                          show Steps p.tables e below (T260.setTop (mkF m 581 #[.val (.int p1), .val (.int p2), .val (.int p3), .val (.int p4), .val (.int p5), .val (.ref b260)] [])) _
                          refine st262 _ ?_
                          show Steps p.tables e below (T262.setTop (mkF m 584 #[.val (.int p1), .val (.int p2), .val (.int p3), .val (.int p4), .val (.int p5), .val (.ref b260)] [(.ref b262)])) _
                          refine XS.dup X262.here hx rfl (hb hby d1_584) rfl rfl ?_
                          show Steps p.tables e below (T262.setTop (mkF m 585 #[.val (.int p1), .val (.int p2), .val (.int p3), .val (.int p4), .val (.int p5), .val (.ref b260)] [(.ref b262), (.ref b262)])) _
                          refine XS.aload X262.here hx rfl (hb hby d1_585) rfl rfl ?_
                          show Steps p.tables e below (T262.setTop (mkF m 587 #[.val (.int p1), .val (.int p2), .val (.int p3), .val (.int p4), .val (.int p5), .val (.ref b260)] [(.ref b260), (.ref b262), (.ref b262)])) _
                          refine st263.trans ?_
                          show Steps p.tables e below (T263.setTop (mkF m 590 #[.val (.int p1), .val (.int p2), .val (.int p3), .val (.int p4), .val (.int p5), .val (.ref b260)] [(.ref b262)])) _
                          exact retOut X263 hx Bd.returns rfl (Or.inr (Or.inr (Or.inr (Or.inr ⟨rfl, rfl, rfl⟩)))) (hb hby d1_590) hr
                        · show QB Z p1 p2 p3 p4 p5 zc h0 n0 _ T263.heap _
                          exact ⟨b262, [], rfl, N263, Kp, E_b262, T_b262⟩
                      ·
                        obtain ⟨cl264, Ar264, hl264⟩ := Arv.len V_b260 (by decide)
                        have ia264 := State.isArrayOf_alike hZ.alike Ar264.2.1
                        obtain ⟨T265, h265, X265, e265, E265, A265, D265, -, st265⟩ := newO X260 hx hZ hown (hw _ (List.mem_of_getElem? (i := 6) rfl)) (hw _ (List.mem_of_getElem? (i := 7) rfl)) (hw _ (List.mem_of_getElem? (i := 8) rfl)) e260 (g := (mkF m 581 #[.val (.int p1), .val (.int p2), .val (.int p3), .val (.int p4), .val (.int p5), .val (.ref b260)] [])) rfl (hb hby d1_581) (by decide) (by decide)
                        obtain ⟨b265, g265⟩ : ∃ z, z = h260.size := ⟨_, rfl⟩
                        rw [← g265] at A265 D265 st265
                        have g_b265 : n0 ≤ b265 := Nat.le_trans Zs (Nat.le_of_eq g265.symm)
                        have sz_b265 : h0.size ≤ b265 := Nat.le_trans Kp.1 (Nat.le_of_eq g265.symm)
                        have ne_b260_b265 : b260 ≠ b265 := Nat.ne_of_lt (Nat.lt_of_lt_of_le E_b260.lt (Nat.le_of_eq g265.symm))
                        have Sf_b265 : Safe Z ELs s.vm h260 b265 := Safe.new (Nat.le_of_eq g265.symm)
                        have Hd : CHr Z ELs s.vm h0 s.vm h265 := Hc.trans (CHr.ext E265 Hc.1)
                        have Sg_b265 : Safe Z ELs s.vm h265 b265 := Safe.ext E265 Hc.1 Sf_b265
                        have Sf_b265 := Sg_b265
                        have Hc := Hd
                        have Zs : n0 ≤ h265.size := Nat.le_trans Zs E265.1
                        have Ol : Old Z n0 h265 := Ol.ext E265
                        have Kp : Keep h0 h265 [] := Kp.ext E265
                        have E_b260 : Exa Z h265 b260 "[C" := E_b260.ext E265
                        have V_b260 : Arv Z h265 b260 k260 .char (0 : Int32) [] (.int (0 : Int32)) := V_b260.ext E265
                        have E_b265 : Exa Z h265 b265 "java/lang/String" := A265
                        have F_coder_b265 : Fld Z h265 b265 "java/lang/String" "coder" "B" (.int (0 : Int32)) := D265 (Or.inr (hw _ (List.mem_of_getElem? (i := 32) rfl))) (ty := .byte) (by decide)
                        have F_value_b265 : Fld Z h265 b265 "java/lang/String" "value" "[B" .null := D265 (Or.inr (hw _ (List.mem_of_getElem? (i := 34) rfl))) (ty := (.array .byte)) (by decide)
                        obtain ⟨_, _, ⟨T266, L266, k266, n266⟩, -, X266, h2266, g2266, ⟨Lc266, hQ266, l266, y266, z266, R266⟩, st266⟩ := Jvm.Stand.specialBackS (s := (s.setVm s.vm)) X265 hx (y := (⟨"java/lang/String", "<init>", "([C)V"⟩ : MethodName)) rfl hown (mvT hZ (hw _ (List.mem_of_getElem? (i := 9) rfl))) (mvT hZ (hw _ (List.mem_of_getElem? (i := 10) rfl))) (mvT hZ (hw _ (List.mem_of_getElem? (i := 11) rfl))) (by decide) (backOfSH (W := 1) (rmS1 l Z a0 hw [] b265 b260 (0 : Int32) k260 h265 n0 Zs E_b265 F_value_b265 F_coder_b265 g_b265 Ol V_b260 (Ne.symm ne_b260_b265)) hZ (hw _ (List.mem_of_getElem? (i := 11) rfl)) (hw _ (List.mem_of_getElem? (i := 8) rfl)) (by decide) (by decide) hEL Hc.1) (g := (mkF m 587 #[.val (.int p1), .val (.int p2), .val (.int p3), .val (.int p4), .val (.int p5), .val (.ref b260)] [(.ref b260), (.ref b265), (.ref b265)])) rfl (by rw [hml]; rfl) (Steps.refl _) (a := b265) (argsL := [(.ref b260)]) (rest := [(.ref b265)]) (lenOf pd_1 rfl) rfl (by show 2 * 0 + _ ≤ _; exact Nat.le_of_eq rfl) (hb hby d1_587) (fun _ _ => ⟨rfl, e265, (by decide : 2 + 4 ≤ _), (by decide : 4 + 8 ≤ _)⟩)
                        dsimp only [Pt.U, Pt.locs, Pt.cells, Pt.slots] at X266 h2266 g2266 l266 y266 z266 st266 hQ266 R266
                        subst l266 y266 z266
                        obtain ⟨X266, hS266, hZ, hown⟩ := rebS ((State.WarmedH.refl s).since 0) (by rw [e265]; exact (Nat.zero_le _)) X266 h2266 g2266 hZ hown
                        obtain ⟨rfl, N266q, K266, P266_1⟩ := hQ266
                        have Hc : CHr Z ELs s.vm h0 T266.vm T266.heap := Hc.trans R266
                        have Zs : n0 ≤ T266.heap.size := Nat.le_trans Zs K266.1
                        have Ol : Old Z n0 T266.heap := Ol.keep K266 (allS g_b265 all0)
                        have Kp : Keep h0 T266.heap [] := Kp.trans K266 (allS (Or.inr sz_b265) all0)
                        have E_b260 : Exa Z T266.heap b260 "[C" := E_b260.keep K266
                        have V_b260 : Arv Z T266.heap b260 k260 .char (0 : Int32) [] (.int (0 : Int32)) := V_b260.keep K266 (ninS ne_b260_b265 nin0)
                        have E_b265 : Exa Z T266.heap b265 "java/lang/String" := E_b265.keep K266
                        have hkc : T266.heap.size ≤ T266.heap.size := Nat.le_refl _
                        have T_b265 : Stx Z T266.heap b265 [] := P266_1
                        have N266 := Fr.app N0 N266q
                        obtain ⟨fs, hr, hrun, hended, hRW⟩ := X266.leaveW (s := s) (vm₁ := T266.vm) hS266 hkc (v := some (.ref b265)) (fun h => by rw [Bd.returns] at h; cases h)
                        have hCR : CHr Z ELs s.vm h0 T266.vm T266.heap := Hc.trans (CHv.at X266 hZ hEL Hc.1)
                        refine ⟨_, _, pre261 _ ?_, hrun, hended, _, _, rfl, ?_, (by rw [hh]; show CHr Z ELs s.vm h0 T266.vm T266.heap; exact hCR), ⟨hRW.1, hRW.2.1, hRW.2.2.1, hRW.2.2.2.mono (by decide) (by decide)⟩⟩
                        · show Steps p.tables e below (T260.setTop (mkF m 559 #[.val (.int p1), .val (.int p2), .val (.int p3), .val (.int p4), .val (.int p5), .val (.ref b260)] [(.int p3)])) _
                          refine XS.ifNo X260.here hx rfl (hb hby d1_559) rfl ((if0 _ _).trans (feq hc559).1) ?_
                          show Steps p.tables e below (T260.setTop (mkF m 562 #[.val (.int p1), .val (.int p2), .val (.int p3), .val (.int p4), .val (.int p5), .val (.ref b260)] [])) _
                          refine XS.aload X260.here hx rfl (hb hby d1_562) rfl rfl ?_
                          show Steps p.tables e below (T260.setTop (mkF m 564 #[.val (.int p1), .val (.int p2), .val (.int p3), .val (.int p4), .val (.int p5), .val (.ref b260)] [(.ref b260)])) _
                          refine X260.arraylength hx (by rw [e260]; exact Ar264.1) ia264 (g := (mkF m 564 #[.val (.int p1), .val (.int p2), .val (.int p3), .val (.int p4), .val (.int p5), .val (.ref b260)] [(.ref b260)])) rfl rfl (hb hby d1_564) _ ?_
                          rw [hl264]
                          show Steps p.tables e below (T260.setTop (mkF m 565 #[.val (.int p1), .val (.int p2), .val (.int p3), .val (.int p4), .val (.int p5), .val (.ref b260)] [(.int (0 : Int32))])) _
                          refine XS.ifYes X260.here hx rfl (pc0 := 565) (pc' := 581) rfl (hb hby d1_565) rfl ((if0 _ _).trans (flt (by decide)).2.2.2) (by decide) (by decide) ?_
                          show Steps p.tables e below (T260.setTop (mkF m 581 #[.val (.int p1), .val (.int p2), .val (.int p3), .val (.int p4), .val (.int p5), .val (.ref b260)] [])) _
                          refine st265 _ ?_
                          show Steps p.tables e below (T265.setTop (mkF m 584 #[.val (.int p1), .val (.int p2), .val (.int p3), .val (.int p4), .val (.int p5), .val (.ref b260)] [(.ref b265)])) _
                          refine XS.dup X265.here hx rfl (hb hby d1_584) rfl rfl ?_
                          show Steps p.tables e below (T265.setTop (mkF m 585 #[.val (.int p1), .val (.int p2), .val (.int p3), .val (.int p4), .val (.int p5), .val (.ref b260)] [(.ref b265), (.ref b265)])) _
                          refine XS.aload X265.here hx rfl (hb hby d1_585) rfl rfl ?_
                          show Steps p.tables e below (T265.setTop (mkF m 587 #[.val (.int p1), .val (.int p2), .val (.int p3), .val (.int p4), .val (.int p5), .val (.ref b260)] [(.ref b260), (.ref b265), (.ref b265)])) _
                          refine st266.trans ?_
                          show Steps p.tables e below (T266.setTop (mkF m 590 #[.val (.int p1), .val (.int p2), .val (.int p3), .val (.int p4), .val (.int p5), .val (.ref b260)] [(.ref b265)])) _
                          exact retOut X266 hx Bd.returns rfl (Or.inr (Or.inr (Or.inr (Or.inr ⟨rfl, rfl, rfl⟩)))) (hb hby d1_590) hr
                        · show QB Z p1 p2 p3 p4 p5 zc h0 n0 _ T266.heap _
                          exact ⟨b265, [], rfl, N266, Kp, E_b265, T_b265⟩
                    ·
                      obtain ⟨T267, h267, k267, X267, e267, E267, A267, B267, st267⟩ := newPE X0 hx hZ (hw _ (List.mem_of_getElem? (i := 5) rfl)) e0 (g := (mkF m 545 #[.val (.int p1), .val (.int p2), .val (.int p3), .val (.int p4), .val (.int p5), .unset] [(.int (2 : Int32))])) rfl (hb hby d1_545) rfl (by decide) (cap := 2) (by decide) (by decide) (by decide) (by decide) (ad := "[C") (by decide)
                      obtain ⟨b267, g267⟩ : ∃ z, z = h0.size := ⟨_, rfl⟩
                      rw [← g267] at A267 B267 st267
                      have g_b267 : n0 ≤ b267 := Nat.le_trans Zs (Nat.le_of_eq g267.symm)
                      have sz_b267 : h0.size ≤ b267 := Nat.le_trans Kp.1 (Nat.le_of_eq g267.symm)
                      have Hd : CHr Z ELs s.vm h0 s.vm h267 := Hc.trans (CHr.ext E267 Hc.1)
                      have Hc := Hd
                      have Zs : n0 ≤ h267.size := Nat.le_trans Zs E267.1
                      have Ol : Old Z n0 h267 := Ol.ext E267
                      have Kp : Keep h0 h267 [] := Kp.ext E267
                      have E_b267 : Exa Z h267 b267 "[C" := B267
                      have V_b267 : Arv Z h267 b267 k267 .char (2 : Int32) [(.int (0 : Int32)), (.int (0 : Int32))] (.int (0 : Int32)) := (Arv.new A267 (by decide)).pad (pad_rep [] (.int (0 : Int32)) 2)
                      obtain ⟨cl268, Ar268, q268, S268, M268, H268, G268⟩ := V_b267
                      obtain ⟨T269, h269, X269, e269, W269, st269⟩ := stC X267 hx hZ e267 Ar268 (j := (0 : Int32)) (inb_of S268 (by decide)) (g := (mkF m 550 #[.val (.int p1), .val (.int p2), .val (.int p3), .val (.int p4), .val (.int p5), .unset] [(.int p4), (.int (0 : Int32)), (.ref b267), (.ref b267)])) rfl rfl (hb hby d1_550)
                      have N269 := Fr.snoc X269 N0 g_b267
                      have Sw := ((Safe.exa hZ.alike E_b267 (by decide) (by decide)) : Safe Z ELs s.vm _ b267)
                      have Hd : CHr Z ELs s.vm h0 s.vm h269 := Hc.trans (CHr.wr W269 Sw Hc.1)
                      have Hc := Hd
                      have Zs : n0 ≤ h269.size := Nat.le_trans Zs (Keep.of_wr W269).1
                      have Ol : Old Z n0 h269 := Ol.wr W269 g_b267
                      have Kp : Keep h0 h269 [] := Kp.wr W269 (Or.inr sz_b267)
                      have E_b267 : Exa Z h269 b267 "[C" := E_b267.wr W269
                      have V_b267 : Arv Z h269 b267 k267 .char (2 : Int32) [(.int (nar .char p4)), (.int (0 : Int32))] (.int (0 : Int32)) := Arv.set Ar268 q268 S268 M268 H268 G268 (fits_nar_char _) W269 0 rfl (Nat.le_of_ble_eq_true rfl)
                      obtain ⟨cl270, Ar270, q270, S270, M270, H270, G270⟩ := V_b267
                      obtain ⟨T271, h271, X271, e271, W271, st271⟩ := stC X269 hx hZ e269 Ar270 (j := (1 : Int32)) (inb_of S270 (by decide)) (g := (mkF m 555 #[.val (.int p1), .val (.int p2), .val (.int p3), .val (.int p4), .val (.int p5), .unset] [(.int p5), (.int (1 : Int32)), (.ref b267), (.ref b267)])) rfl rfl (hb hby d1_555)
                      have N271 := Fr.snoc X271 N269 g_b267
                      have Sw := ((Safe.exa hZ.alike E_b267 (by decide) (by decide)) : Safe Z ELs s.vm _ b267)
                      have Hd : CHr Z ELs s.vm h0 s.vm h271 := Hc.trans (CHr.wr W271 Sw Hc.1)
                      have Hc := Hd
                      have Zs : n0 ≤ h271.size := Nat.le_trans Zs (Keep.of_wr W271).1
                      have Ol : Old Z n0 h271 := Ol.wr W271 g_b267
                      have Kp : Keep h0 h271 [] := Kp.wr W271 (Or.inr sz_b267)
                      have E_b267 : Exa Z h271 b267 "[C" := E_b267.wr W271
                      have V_b267 : Arv Z h271 b267 k267 .char (2 : Int32) [(.int (nar .char p4)), (.int (nar .char p5))] (.int (0 : Int32)) := Arv.set Ar270 q270 S270 M270 H270 G270 (fits_nar_char _) W271 1 rfl (Nat.le_of_ble_eq_true rfl)
                      have pre272 : ∀ t, Steps p.tables e below (T271.setTop (mkF m 559 #[.val (.int p1), .val (.int p2), .val (.int p3), .val (.int p4), .val (.int p5), .val (.ref b267)] [(.int p3)])) t → Steps p.tables e below (s₁.setTop (entryFrame m #[(.int p1), (.int p2), (.int p3), (.int p4), (.int p5)] 6)) t := fun t k => pre259 t (by
                        show Steps p.tables e below (s₁.setTop (mkF m 533 #[.val (.int p1), .val (.int p2), .val (.int p3), .val (.int p4), .val (.int p5), .unset] [(.int (9 : Int32)), (.int p1)])) _
                        refine XS.icmpYes X0.here hx rfl (pc0 := 533) (pc' := 544) rfl (hb hby d1_533) rfl (feq hc533).2 (by decide) (by decide) ?_
                        show Steps p.tables e below (s₁.setTop (mkF m 544 #[.val (.int p1), .val (.int p2), .val (.int p3), .val (.int p4), .val (.int p5), .unset] [])) _
                        refine XS.iconst X0.here hx rfl (hb hby d1_544) ?_
                        show Steps p.tables e below (s₁.setTop (mkF m 545 #[.val (.int p1), .val (.int p2), .val (.int p3), .val (.int p4), .val (.int p5), .unset] [(.int (2 : Int32))])) _
                        refine st267 _ ?_
                        show Steps p.tables e below (T267.setTop (mkF m 547 #[.val (.int p1), .val (.int p2), .val (.int p3), .val (.int p4), .val (.int p5), .unset] [(.ref b267)])) _
                        refine XS.dup X267.here hx rfl (hb hby d1_547) rfl rfl ?_
                        show Steps p.tables e below (T267.setTop (mkF m 548 #[.val (.int p1), .val (.int p2), .val (.int p3), .val (.int p4), .val (.int p5), .unset] [(.ref b267), (.ref b267)])) _
                        refine XS.iconst X267.here hx rfl (hb hby d1_548) ?_
                        show Steps p.tables e below (T267.setTop (mkF m 549 #[.val (.int p1), .val (.int p2), .val (.int p3), .val (.int p4), .val (.int p5), .unset] [(.int (0 : Int32)), (.ref b267), (.ref b267)])) _
                        refine XS.iloadN X267.here hx rfl (hb hby d1_549) rfl ?_
                        show Steps p.tables e below (T267.setTop (mkF m 550 #[.val (.int p1), .val (.int p2), .val (.int p3), .val (.int p4), .val (.int p5), .unset] [(.int p4), (.int (0 : Int32)), (.ref b267), (.ref b267)])) _
                        refine st269 _ ?_
                        show Steps p.tables e below (T269.setTop (mkF m 551 #[.val (.int p1), .val (.int p2), .val (.int p3), .val (.int p4), .val (.int p5), .unset] [(.ref b267)])) _
                        refine XS.dup X269.here hx rfl (hb hby d1_551) rfl rfl ?_
                        show Steps p.tables e below (T269.setTop (mkF m 552 #[.val (.int p1), .val (.int p2), .val (.int p3), .val (.int p4), .val (.int p5), .unset] [(.ref b267), (.ref b267)])) _
                        refine XS.iconst X269.here hx rfl (hb hby d1_552) ?_
                        show Steps p.tables e below (T269.setTop (mkF m 553 #[.val (.int p1), .val (.int p2), .val (.int p3), .val (.int p4), .val (.int p5), .unset] [(.int (1 : Int32)), (.ref b267), (.ref b267)])) _
                        refine XS.iload X269.here hx rfl (hb hby d1_553) rfl ?_
                        show Steps p.tables e below (T269.setTop (mkF m 555 #[.val (.int p1), .val (.int p2), .val (.int p3), .val (.int p4), .val (.int p5), .unset] [(.int p5), (.int (1 : Int32)), (.ref b267), (.ref b267)])) _
                        refine st271 _ ?_
                        show Steps p.tables e below (T271.setTop (mkF m 556 #[.val (.int p1), .val (.int p2), .val (.int p3), .val (.int p4), .val (.int p5), .unset] [(.ref b267)])) _
                        refine XS.astore X271.here hx rfl (hb hby d1_556) rfl rfl (l' := #[.val (.int p1), .val (.int p2), .val (.int p3), .val (.int p4), .val (.int p5), .val (.ref b267)]) rfl ?_
                        show Steps p.tables e below (T271.setTop (mkF m 558 #[.val (.int p1), .val (.int p2), .val (.int p3), .val (.int p4), .val (.int p5), .val (.ref b267)] [])) _
                        refine XS.iloadN X271.here hx rfl (hb hby d1_558) rfl ?_
                        exact k)
                      by_cases hc559 : p3 = (0 : Int32)
                      ·
                        obtain ⟨T273, h273, X273, e273, E273, A273, D273, -, st273⟩ := newO X271 hx hZ hown (hw _ (List.mem_of_getElem? (i := 6) rfl)) (hw _ (List.mem_of_getElem? (i := 7) rfl)) (hw _ (List.mem_of_getElem? (i := 8) rfl)) e271 (g := (mkF m 581 #[.val (.int p1), .val (.int p2), .val (.int p3), .val (.int p4), .val (.int p5), .val (.ref b267)] [])) rfl (hb hby d1_581) (by decide) (by decide)
                        obtain ⟨b273, g273⟩ : ∃ z, z = h271.size := ⟨_, rfl⟩
                        rw [← g273] at A273 D273 st273
                        have g_b273 : n0 ≤ b273 := Nat.le_trans Zs (Nat.le_of_eq g273.symm)
                        have sz_b273 : h0.size ≤ b273 := Nat.le_trans Kp.1 (Nat.le_of_eq g273.symm)
                        have ne_b267_b273 : b267 ≠ b273 := Nat.ne_of_lt (Nat.lt_of_lt_of_le E_b267.lt (Nat.le_of_eq g273.symm))
                        have Sf_b273 : Safe Z ELs s.vm h271 b273 := Safe.new (Nat.le_of_eq g273.symm)
                        have Hd : CHr Z ELs s.vm h0 s.vm h273 := Hc.trans (CHr.ext E273 Hc.1)
                        have Sg_b273 : Safe Z ELs s.vm h273 b273 := Safe.ext E273 Hc.1 Sf_b273
                        have Sf_b273 := Sg_b273
                        have Hc := Hd
                        have Zs : n0 ≤ h273.size := Nat.le_trans Zs E273.1
                        have Ol : Old Z n0 h273 := Ol.ext E273
                        have Kp : Keep h0 h273 [] := Kp.ext E273
                        have E_b267 : Exa Z h273 b267 "[C" := E_b267.ext E273
                        have V_b267 : Arv Z h273 b267 k267 .char (2 : Int32) [(.int (nar .char p4)), (.int (nar .char p5))] (.int (0 : Int32)) := V_b267.ext E273
                        have E_b273 : Exa Z h273 b273 "java/lang/String" := A273
                        have F_coder_b273 : Fld Z h273 b273 "java/lang/String" "coder" "B" (.int (0 : Int32)) := D273 (Or.inr (hw _ (List.mem_of_getElem? (i := 32) rfl))) (ty := .byte) (by decide)
                        have F_value_b273 : Fld Z h273 b273 "java/lang/String" "value" "[B" .null := D273 (Or.inr (hw _ (List.mem_of_getElem? (i := 34) rfl))) (ty := (.array .byte)) (by decide)
                        obtain ⟨_, _, ⟨T274, L274, k274, n274⟩, -, X274, ⟨Lc274, hQ274, l274, y274, z274⟩, st274⟩ := X273.specialBack hx (y := (⟨"java/lang/String", "<init>", "([C)V"⟩ : MethodName)) rfl hown (mvT hZ (hw _ (List.mem_of_getElem? (i := 9) rfl))) (mvT hZ (hw _ (List.mem_of_getElem? (i := 10) rfl))) (mvT hZ (hw _ (List.mem_of_getElem? (i := 11) rfl))) (by decide) (own_new (W := 1) hZ hw g_b273 Zs E_b273 F_value_b273 F_coder_b273 (cs := [(nar .char p4), (nar .char p5)]) (n := 2) V_b267 (Sta.ext Ol.2 S_COMPACT_STRINGS) hzc rfl rfl (by decide) (by decide) (alIS hc (alIS hd alI0)) (by decide) (by decide)) (g := (mkF m 587 #[.val (.int p1), .val (.int p2), .val (.int p3), .val (.int p4), .val (.int p5), .val (.ref b267)] [(.ref b267), (.ref b273), (.ref b273)])) rfl (by rw [hml]; rfl) (Steps.refl _) (a := b273) (argsL := [(.ref b267)]) (rest := [(.ref b273)]) (lenOf pd_1 rfl) rfl (by show 2 * 0 + _ ≤ _; exact Nat.le_of_eq rfl) (hb hby d1_587) (fun _ _ => ⟨rfl, e273, (by decide : 2 + 1 ≤ _), (by decide : 6 + 2 ≤ _)⟩)
                        dsimp only [Pt.U, Pt.locs, Pt.cells, Pt.slots] at X274 l274 y274 z274 st274 hQ274
                        subst l274 y274 z274
                        obtain ⟨rfl, N274q, K274, T274x⟩ := hQ274
                        have Hd : CHr Z ELs s.vm h0 s.vm T274.heap := Hc.trans (CHr.keep K274 (allS (Sf_b273 : Safe Z ELs s.vm _ b273) all0) Hc.1)
                        have Sg_b273 : Safe Z ELs s.vm T274.heap b273 := Safe.keep K274 (allS (Sf_b273 : Safe Z ELs s.vm _ b273) all0) Hc.1 Sf_b273
                        have Sf_b273 := Sg_b273
                        have Hc := Hd
                        have Zs : n0 ≤ T274.heap.size := Nat.le_trans Zs K274.1
                        have Ol : Old Z n0 T274.heap := Ol.keep K274 (allS g_b273 all0)
                        have Kp : Keep h0 T274.heap [] := Kp.trans K274 (allS (Or.inr sz_b273) all0)
                        have E_b267 : Exa Z T274.heap b267 "[C" := E_b267.keep K274
                        have E_b273 : Exa Z T274.heap b273 "java/lang/String" := E_b273.keep K274
                        have T_b273 : Stx Z T274.heap b273 [(nar .char p4), (nar .char p5)] := T274x
                        have N274 := Fr.app N271 N274q
                        obtain ⟨fs, hr, hrun, hended, hRW⟩ := X274.leaveW (s := s) (vm₁ := s.vm) ((State.WarmedH.refl s).since 0) (Nat.zero_le _) (v := some (.ref b273)) (fun h => by rw [Bd.returns] at h; cases h)
                        have hCR : CHr Z ELs s.vm h0 T274.vm T274.heap := Hc.trans (CHv.at X274 hZ hEL Hc.1)
                        refine ⟨_, _, pre272 _ ?_, hrun, hended, _, _, rfl, ?_, (by rw [hh]; show CHr Z ELs s.vm h0 T274.vm T274.heap; exact hCR), ⟨hRW.1, hRW.2.1, hRW.2.2.1, hRW.2.2.2.mono (by decide) (by decide)⟩⟩
                        · show Steps p.tables e below (T271.setTop (mkF m 559 #[.val (.int p1), .val (.int p2), .val (.int p3), .val (.int p4), .val (.int p5), .val (.ref b267)] [(.int p3)])) _
                          refine XS.ifYes X271.here hx rfl (pc0 := 559) (pc' := 581) rfl (hb hby d1_559) rfl ((if0 _ _).trans (teq hc559).1) (by decide) (by decide) ?_
                          show Steps p.tables e below (T271.setTop (mkF m 581 #[.val (.int p1), .val (.int p2), .val (.int p3), .val (.int p4), .val (.int p5), .val (.ref b267)] [])) _
                          refine st273 _ ?_
                          show Steps p.tables e below (T273.setTop (mkF m 584 #[.val (.int p1), .val (.int p2), .val (.int p3), .val (.int p4), .val (.int p5), .val (.ref b267)] [(.ref b273)])) _
                          refine XS.dup X273.here hx rfl (hb hby d1_584) rfl rfl ?_
                          show Steps p.tables e below (T273.setTop (mkF m 585 #[.val (.int p1), .val (.int p2), .val (.int p3), .val (.int p4), .val (.int p5), .val (.ref b267)] [(.ref b273), (.ref b273)])) _
                          refine XS.aload X273.here hx rfl (hb hby d1_585) rfl rfl ?_
                          show Steps p.tables e below (T273.setTop (mkF m 587 #[.val (.int p1), .val (.int p2), .val (.int p3), .val (.int p4), .val (.int p5), .val (.ref b267)] [(.ref b267), (.ref b273), (.ref b273)])) _
                          refine st274.trans ?_
                          show Steps p.tables e below (T274.setTop (mkF m 590 #[.val (.int p1), .val (.int p2), .val (.int p3), .val (.int p4), .val (.int p5), .val (.ref b267)] [(.ref b273)])) _
                          exact retOut X274 hx Bd.returns rfl (Or.inr (Or.inr (Or.inr (Or.inr ⟨rfl, rfl, rfl⟩)))) (hb hby d1_590) hr
                        · show QB Z p1 p2 p3 p4 p5 zc h0 n0 _ T274.heap _
                          exact ⟨b273, [(nar .char p4), (nar .char p5)], rfl, N274, Kp, E_b273, T_b273⟩
                      ·
                        obtain ⟨cl275, Ar275, hl275⟩ := Arv.len V_b267 (by decide)
                        have ia275 := State.isArrayOf_alike hZ.alike Ar275.2.1
                        obtain ⟨cl276, Ar276, hl276⟩ := Arv.len V_b267 (by decide)
                        have ia276 := State.isArrayOf_alike hZ.alike Ar276.2.1
                        obtain ⟨cl277, Ar277, q277, S277, M277, H277, G277⟩ := V_b267
                        obtain ⟨T278, h278, X278, e278, W278, st278⟩ := stC X271 hx hZ e271 Ar277 (j := ((p2 &&& (2147483647 : Int32)) % (2 : Int32))) (inb_of S277 (own_rem p2 (by decide))) (g := (mkF m 580 #[.val (.int p1), .val (.int p2), .val (.int p3), .val (.int p4), .val (.int p5), .val (.ref b267)] [(.int p5), (.int ((p2 &&& (2147483647 : Int32)) % (2 : Int32))), (.ref b267)])) rfl rfl (hb hby d1_580)
                        have N278 := Fr.snoc X278 N271 g_b267
                        have Sw := ((Safe.exa hZ.alike E_b267 (by decide) (by decide)) : Safe Z ELs s.vm _ b267)
                        have Hd : CHr Z ELs s.vm h0 s.vm h278 := Hc.trans (CHr.wr W278 Sw Hc.1)
                        have Hc := Hd
                        have Zs : n0 ≤ h278.size := Nat.le_trans Zs (Keep.of_wr W278).1
                        have Ol : Old Z n0 h278 := Ol.wr W278 g_b267
                        have Kp : Keep h0 h278 [] := Kp.wr W278 (Or.inr sz_b267)
                        have E_b267 : Exa Z h278 b267 "[C" := E_b267.wr W278
                        have V_b267 : Arv Z h278 b267 k267 .char (2 : Int32) ((([(nar .char p4), (nar .char p5)] : List Int32).set ((p2 &&& (2147483647 : Int32)) % (2 : Int32)).toNatClampNeg (nar .char p5)).map Value.int) (.int (0 : Int32)) := by rw [List.map_set]; exact Arv.set Ar277 q277 S277 M277 H277 G277 (fits_nar_char _) W278 _ rfl (own_ix (own_rem p2 (by decide)) (Nat.le_of_eq rfl))
                        obtain ⟨T279, h279, X279, e279, E279, A279, D279, -, st279⟩ := newO X278 hx hZ hown (hw _ (List.mem_of_getElem? (i := 6) rfl)) (hw _ (List.mem_of_getElem? (i := 7) rfl)) (hw _ (List.mem_of_getElem? (i := 8) rfl)) e278 (g := (mkF m 581 #[.val (.int p1), .val (.int p2), .val (.int p3), .val (.int p4), .val (.int p5), .val (.ref b267)] [])) rfl (hb hby d1_581) (by decide) (by decide)
                        obtain ⟨b279, g279⟩ : ∃ z, z = h278.size := ⟨_, rfl⟩
                        rw [← g279] at A279 D279 st279
                        have g_b279 : n0 ≤ b279 := Nat.le_trans Zs (Nat.le_of_eq g279.symm)
                        have sz_b279 : h0.size ≤ b279 := Nat.le_trans Kp.1 (Nat.le_of_eq g279.symm)
                        have ne_b267_b279 : b267 ≠ b279 := Nat.ne_of_lt (Nat.lt_of_lt_of_le E_b267.lt (Nat.le_of_eq g279.symm))
                        have Sf_b279 : Safe Z ELs s.vm h278 b279 := Safe.new (Nat.le_of_eq g279.symm)
                        have Hd : CHr Z ELs s.vm h0 s.vm h279 := Hc.trans (CHr.ext E279 Hc.1)
                        have Sg_b279 : Safe Z ELs s.vm h279 b279 := Safe.ext E279 Hc.1 Sf_b279
                        have Sf_b279 := Sg_b279
                        have Hc := Hd
                        have Zs : n0 ≤ h279.size := Nat.le_trans Zs E279.1
                        have Ol : Old Z n0 h279 := Ol.ext E279
                        have Kp : Keep h0 h279 [] := Kp.ext E279
                        have E_b267 : Exa Z h279 b267 "[C" := E_b267.ext E279
                        have V_b267 : Arv Z h279 b267 k267 .char (2 : Int32) ((([(nar .char p4), (nar .char p5)] : List Int32).set ((p2 &&& (2147483647 : Int32)) % (2 : Int32)).toNatClampNeg (nar .char p5)).map Value.int) (.int (0 : Int32)) := V_b267.ext E279
                        have E_b279 : Exa Z h279 b279 "java/lang/String" := A279
                        have F_coder_b279 : Fld Z h279 b279 "java/lang/String" "coder" "B" (.int (0 : Int32)) := D279 (Or.inr (hw _ (List.mem_of_getElem? (i := 32) rfl))) (ty := .byte) (by decide)
                        have F_value_b279 : Fld Z h279 b279 "java/lang/String" "value" "[B" .null := D279 (Or.inr (hw _ (List.mem_of_getElem? (i := 34) rfl))) (ty := (.array .byte)) (by decide)
                        obtain ⟨_, _, ⟨T280, L280, k280, n280⟩, -, X280, ⟨Lc280, hQ280, l280, y280, z280⟩, st280⟩ := X279.specialBack hx (y := (⟨"java/lang/String", "<init>", "([C)V"⟩ : MethodName)) rfl hown (mvT hZ (hw _ (List.mem_of_getElem? (i := 9) rfl))) (mvT hZ (hw _ (List.mem_of_getElem? (i := 10) rfl))) (mvT hZ (hw _ (List.mem_of_getElem? (i := 11) rfl))) (by decide) (own_new (W := 1) hZ hw g_b279 Zs E_b279 F_value_b279 F_coder_b279 (cs := (([(nar .char p4), (nar .char p5)] : List Int32).set ((p2 &&& (2147483647 : Int32)) % (2 : Int32)).toNatClampNeg (nar .char p5))) (n := 2) V_b267 (Sta.ext Ol.2 S_COMPACT_STRINGS) hzc (by rw [List.length_set]; rfl) rfl (by decide) (by decide) (own_set (alIS hc (alIS hd alI0)) hd) (by decide) (by decide)) (g := (mkF m 587 #[.val (.int p1), .val (.int p2), .val (.int p3), .val (.int p4), .val (.int p5), .val (.ref b267)] [(.ref b267), (.ref b279), (.ref b279)])) rfl (by rw [hml]; rfl) (Steps.refl _) (a := b279) (argsL := [(.ref b267)]) (rest := [(.ref b279)]) (lenOf pd_1 rfl) rfl (by show 2 * 0 + _ ≤ _; exact Nat.le_of_eq rfl) (hb hby d1_587) (fun _ _ => ⟨rfl, e279, (by decide : 2 + 1 ≤ _), (by decide : 6 + 2 ≤ _)⟩)
                        dsimp only [Pt.U, Pt.locs, Pt.cells, Pt.slots] at X280 l280 y280 z280 st280 hQ280
                        subst l280 y280 z280
                        obtain ⟨rfl, N280q, K280, T280x⟩ := hQ280
                        have Hd : CHr Z ELs s.vm h0 s.vm T280.heap := Hc.trans (CHr.keep K280 (allS (Sf_b279 : Safe Z ELs s.vm _ b279) all0) Hc.1)
                        have Sg_b279 : Safe Z ELs s.vm T280.heap b279 := Safe.keep K280 (allS (Sf_b279 : Safe Z ELs s.vm _ b279) all0) Hc.1 Sf_b279
                        have Sf_b279 := Sg_b279
                        have Hc := Hd
                        have Zs : n0 ≤ T280.heap.size := Nat.le_trans Zs K280.1
                        have Ol : Old Z n0 T280.heap := Ol.keep K280 (allS g_b279 all0)
                        have Kp : Keep h0 T280.heap [] := Kp.trans K280 (allS (Or.inr sz_b279) all0)
                        have E_b267 : Exa Z T280.heap b267 "[C" := E_b267.keep K280
                        have E_b279 : Exa Z T280.heap b279 "java/lang/String" := E_b279.keep K280
                        have T_b279 : Stx Z T280.heap b279 (([(nar .char p4), (nar .char p5)] : List Int32).set ((p2 &&& (2147483647 : Int32)) % (2 : Int32)).toNatClampNeg (nar .char p5)) := T280x
                        have N280 := Fr.app N278 N280q
                        obtain ⟨fs, hr, hrun, hended, hRW⟩ := X280.leaveW (s := s) (vm₁ := s.vm) ((State.WarmedH.refl s).since 0) (Nat.zero_le _) (v := some (.ref b279)) (fun h => by rw [Bd.returns] at h; cases h)
                        have hCR : CHr Z ELs s.vm h0 T280.vm T280.heap := Hc.trans (CHv.at X280 hZ hEL Hc.1)
                        refine ⟨_, _, pre272 _ ?_, hrun, hended, _, _, rfl, ?_, (by rw [hh]; show CHr Z ELs s.vm h0 T280.vm T280.heap; exact hCR), ⟨hRW.1, hRW.2.1, hRW.2.2.1, hRW.2.2.2.mono (by decide) (by decide)⟩⟩
                        · show Steps p.tables e below (T271.setTop (mkF m 559 #[.val (.int p1), .val (.int p2), .val (.int p3), .val (.int p4), .val (.int p5), .val (.ref b267)] [(.int p3)])) _
                          refine XS.ifNo X271.here hx rfl (hb hby d1_559) rfl ((if0 _ _).trans (feq hc559).1) ?_
                          show Steps p.tables e below (T271.setTop (mkF m 562 #[.val (.int p1), .val (.int p2), .val (.int p3), .val (.int p4), .val (.int p5), .val (.ref b267)] [])) _
                          refine XS.aload X271.here hx rfl (hb hby d1_562) rfl rfl ?_
                          show Steps p.tables e below (T271.setTop (mkF m 564 #[.val (.int p1), .val (.int p2), .val (.int p3), .val (.int p4), .val (.int p5), .val (.ref b267)] [(.ref b267)])) _
                          refine X271.arraylength hx (by rw [e271]; exact Ar275.1) ia275 (g := (mkF m 564 #[.val (.int p1), .val (.int p2), .val (.int p3), .val (.int p4), .val (.int p5), .val (.ref b267)] [(.ref b267)])) rfl rfl (hb hby d1_564) _ ?_
                          rw [hl275]
                          show Steps p.tables e below (T271.setTop (mkF m 565 #[.val (.int p1), .val (.int p2), .val (.int p3), .val (.int p4), .val (.int p5), .val (.ref b267)] [(.int (2 : Int32))])) _
                          refine XS.ifNo X271.here hx rfl (hb hby d1_565) rfl ((if0 _ _).trans (tlt (by decide)).2.2.2) ?_
                          show Steps p.tables e below (T271.setTop (mkF m 568 #[.val (.int p1), .val (.int p2), .val (.int p3), .val (.int p4), .val (.int p5), .val (.ref b267)] [])) _
                          refine XS.aload X271.here hx rfl (hb hby d1_568) rfl rfl ?_
                          show Steps p.tables e below (T271.setTop (mkF m 570 #[.val (.int p1), .val (.int p2), .val (.int p3), .val (.int p4), .val (.int p5), .val (.ref b267)] [(.ref b267)])) _
                          refine XS.iloadN X271.here hx rfl (hb hby d1_570) rfl ?_
                          show Steps p.tables e below (T271.setTop (mkF m 571 #[.val (.int p1), .val (.int p2), .val (.int p3), .val (.int p4), .val (.int p5), .val (.ref b267)] [(.int p2), (.ref b267)])) _
                          refine X271.ldcInt hx hown (mvT hZ (hw _ (List.mem_of_getElem? (i := 0) rfl))) (g := (mkF m 571 #[.val (.int p1), .val (.int p2), .val (.int p3), .val (.int p4), .val (.int p5), .val (.ref b267)] [(.int p2), (.ref b267)])) rfl (hb hby d1_571) _ ?_
                          show Steps p.tables e below (T271.setTop (mkF m 573 #[.val (.int p1), .val (.int p2), .val (.int p3), .val (.int p4), .val (.int p5), .val (.ref b267)] [(.int (2147483647 : Int32)), (.int p2), (.ref b267)])) _
                          refine XS.iand X271.here hx rfl (hb hby d1_573) rfl ?_
                          show Steps p.tables e below (T271.setTop (mkF m 574 #[.val (.int p1), .val (.int p2), .val (.int p3), .val (.int p4), .val (.int p5), .val (.ref b267)] [(.int (p2 &&& (2147483647 : Int32))), (.ref b267)])) _
                          refine XS.aload X271.here hx rfl (hb hby d1_574) rfl rfl ?_
                          show Steps p.tables e below (T271.setTop (mkF m 576 #[.val (.int p1), .val (.int p2), .val (.int p3), .val (.int p4), .val (.int p5), .val (.ref b267)] [(.ref b267), (.int (p2 &&& (2147483647 : Int32))), (.ref b267)])) _
                          refine X271.arraylength hx (by rw [e271]; exact Ar276.1) ia276 (g := (mkF m 576 #[.val (.int p1), .val (.int p2), .val (.int p3), .val (.int p4), .val (.int p5), .val (.ref b267)] [(.ref b267), (.int (p2 &&& (2147483647 : Int32))), (.ref b267)])) rfl rfl (hb hby d1_576) _ ?_
                          rw [hl276]
                          show Steps p.tables e below (T271.setTop (mkF m 577 #[.val (.int p1), .val (.int p2), .val (.int p3), .val (.int p4), .val (.int p5), .val (.ref b267)] [(.int (2 : Int32)), (.int (p2 &&& (2147483647 : Int32))), (.ref b267)])) _
                          refine iremM X271 hx rfl (hb hby d1_577) rfl (by decide) ?_
                          show Steps p.tables e below (T271.setTop (mkF m 578 #[.val (.int p1), .val (.int p2), .val (.int p3), .val (.int p4), .val (.int p5), .val (.ref b267)] [(.int ((p2 &&& (2147483647 : Int32)) % (2 : Int32))), (.ref b267)])) _
                          refine XS.iload X271.here hx rfl (hb hby d1_578) rfl ?_
                          show Steps p.tables e below (T271.setTop (mkF m 580 #[.val (.int p1), .val (.int p2), .val (.int p3), .val (.int p4), .val (.int p5), .val (.ref b267)] [(.int p5), (.int ((p2 &&& (2147483647 : Int32)) % (2 : Int32))), (.ref b267)])) _
                          refine st278 _ ?_
                          show Steps p.tables e below (T278.setTop (mkF m 581 #[.val (.int p1), .val (.int p2), .val (.int p3), .val (.int p4), .val (.int p5), .val (.ref b267)] [])) _
                          refine st279 _ ?_
                          show Steps p.tables e below (T279.setTop (mkF m 584 #[.val (.int p1), .val (.int p2), .val (.int p3), .val (.int p4), .val (.int p5), .val (.ref b267)] [(.ref b279)])) _
                          refine XS.dup X279.here hx rfl (hb hby d1_584) rfl rfl ?_
                          show Steps p.tables e below (T279.setTop (mkF m 585 #[.val (.int p1), .val (.int p2), .val (.int p3), .val (.int p4), .val (.int p5), .val (.ref b267)] [(.ref b279), (.ref b279)])) _
                          refine XS.aload X279.here hx rfl (hb hby d1_585) rfl rfl ?_
                          show Steps p.tables e below (T279.setTop (mkF m 587 #[.val (.int p1), .val (.int p2), .val (.int p3), .val (.int p4), .val (.int p5), .val (.ref b267)] [(.ref b267), (.ref b279), (.ref b279)])) _
                          refine st280.trans ?_
                          show Steps p.tables e below (T280.setTop (mkF m 590 #[.val (.int p1), .val (.int p2), .val (.int p3), .val (.int p4), .val (.int p5), .val (.ref b267)] [(.ref b279)])) _
                          exact retOut X280 hx Bd.returns rfl (Or.inr (Or.inr (Or.inr (Or.inr ⟨rfl, rfl, rfl⟩)))) (hb hby d1_590) hr
                        · show QB Z p1 p2 p3 p4 p5 zc h0 n0 _ T280.heap _
                          exact ⟨b279, (([(nar .char p4), (nar .char p5)] : List Int32).set ((p2 &&& (2147483647 : Int32)) % (2 : Int32)).toNatClampNeg (nar .char p5)), rfl, N280, Kp, E_b279, T_b279⟩
def QB0 (Z : State) (p1 : Int32) (p2 : Int32) (p3 : Int32) (p4 : Int32) (p5 : Int32) (h0 : Heap) (n0 : Nat) (v : Option Value) (h : Heap) (L : List Loc) : Prop := v = some .null ∧ Fr n0 L ∧ h = h0
theorem ef_B0 (m : MethodId) (p1 : Int32) (p2 : Int32) (p3 : Int32) (p4 : Int32) (p5 : Int32) : entryFrame m #[(.int p1), (.int p2), (.int p3), (.int p4), (.int p5)] 6 = mkF m 0 #[.val (.int p1), .val (.int p2), .val (.int p3), .val (.int p4), .val (.int p5), .unset] [] := by first | (simp [entryFrame, mkF, argsToLocals, Value.category]; done) | rfl
set_option maxRecDepth 65536 in
set_option maxHeartbeats 40000000 in
theorem rmB0 (l : Launch) (Z : State) (a0 : Array Value) (hw : ∀ d ∈ tables_1, d.before a0 Z = true) (ws : List Jvm.Cond) (p1 : Int32) (p2 : Int32) (p3 : Int32) (p4 : Int32) (p5 : Int32) (h0 : Heap) (n0 : Nat) (Zs : n0 ≤ h0.size) (hk : p1 = (11 : Int32)) :
    MetFree l (⟨"com/example/verschil/verschil/rrdp/FileKindOfRootPinLaw", "build", "(IIZCC)Ljava/lang/String;"⟩ : MethodName) (head1 (Jvm.Cond.code (⟨"com/example/verschil/verschil/rrdp/FileKindOfRootPinLaw", "build", "(IIZCC)Ljava/lang/String;"⟩ : MethodName) method_3_code 6 (some (.object "java/lang/String")) :: ws) ({ frames := 0, cells := 0, slots := 0, locals := 0 } : Room)) (fun a U => a = #[(.int p1), (.int p2), (.int p3), (.int p4), (.int p5)] ∧ Z.Warmed39 U.vm ∧ U.heap = h0) (fun _ _ _ _ _ => True) (fun _ U o U' => ∃ v L, o = .returned v ∧ QB0 Z p1 p2 p3 p4 p5 h0 n0 v U'.heap L ∧ FrameEnd U o U' L ({ frames := 0, cells := 0, slots := 0, locals := 0 } : Room).cells ({ frames := 0, cells := 0, slots := 0, locals := 0 } : Room).slots) := by
  refine MetFree.of_bodySF (plainFor_of_name pn_1) hisR ?_
  intro p e s m args below meth c s₁ Bd hml0 hP hK
  obtain ⟨rfl, hZ, hh⟩ := hP
  have hx := Bd.exec
  have hby := Bd.bytes
  have hml : c.maxLocals = 6 := hml0
  have hown : s.vm.findClass "com/example/verschil/verschil/rrdp/FileKindOfRootPinLaw" = some m.cls := findClass_of_methodNamed Bd.named
  have hnm := (name_of_methodNamed Bd.named Bd.method).1
  have X0 : Stand p l e ({ frames := 0, cells := 0, slots := 0, locals := 0 } : Room) s m #[(.int p1), (.int p2), (.int p3), (.int p4), (.int p5)] below meth c s₁ [] 0 0 := Stand.of_body Bd
  have e0 : s₁.heap = h0 := by rw [← hh, Bd.state]; rfl
  have N0 := Fr.nil n0
  have pre0 : ∀ t, Steps p.tables e below (s₁.setTop (mkF m 0 #[.val (.int p1), .val (.int p2), .val (.int p3), .val (.int p4), .val (.int p5), .unset] [])) t → Steps p.tables e below (s₁.setTop (entryFrame m #[(.int p1), (.int p2), (.int p3), (.int p4), (.int p5)] 6)) t := fun t k => castTop (ef_B0 m p1 p2 p3 p4 p5) k
  obtain ⟨fs, hr, hrun, hended, hW, hsame⟩ := X0.leave (v := some .null) (fun h => by rw [Bd.returns] at h; cases h)
  refine ⟨_, _, pre0 _ ?_, hrun, hended, _, _, rfl, ?_, ⟨_, rfl⟩, hW, hsame.mono (by decide) (by decide)⟩
  · show Steps p.tables e below (s₁.setTop (mkF m 0 #[.val (.int p1), .val (.int p2), .val (.int p3), .val (.int p4), .val (.int p5), .unset] [])) _
    refine XS.iloadN X0.here hx rfl (hb hby d1_0) rfl ?_
    show Steps p.tables e below (s₁.setTop (mkF m 1 #[.val (.int p1), .val (.int p2), .val (.int p3), .val (.int p4), .val (.int p5), .unset] [(.int p1)])) _
    refine XS.bipush X0.here hx rfl (hb hby d1_1) ?_
    show Steps p.tables e below (s₁.setTop (mkF m 3 #[.val (.int p1), .val (.int p2), .val (.int p3), .val (.int p4), .val (.int p5), .unset] [(.int (11 : Int32)), (.int p1)])) _
    refine XS.icmpNo X0.here hx rfl (hb hby d1_3) rfl (teq hk).2 ?_
    show Steps p.tables e below (s₁.setTop (mkF m 6 #[.val (.int p1), .val (.int p2), .val (.int p3), .val (.int p4), .val (.int p5), .unset] [])) _
    refine XS.aconstNull X0.here hx rfl (hb hby d1_6) ?_
    show Steps p.tables e below (s₁.setTop (mkF m 7 #[.val (.int p1), .val (.int p2), .val (.int p3), .val (.int p4), .val (.int p5), .unset] [.null])) _
    exact retOut X0 hx Bd.returns rfl (Or.inr (Or.inr (Or.inr (Or.inr ⟨rfl, rfl, rfl⟩)))) (hb hby d1_7) hr
  · show QB0 Z p1 p2 p3 p4 p5 h0 n0 _ s₁.heap _
    rw [e0]
    exact ⟨rfl, N0, rfl⟩
def QXN (Z : State) (a1 : Addr) (cs : List Int32) (zc : Int32) (kN : Addr) (h0 : Heap) (n0 : Nat) (v : Option Value) (h : Heap) (L : List Loc) : Prop := v = some (.ref kN) ∧ Fr n0 L ∧ (Keep h0 h [])
theorem ef_XN (m : MethodId) (a1 : Addr) : entryFrame m #[(.ref a1)] 1 = mkF m 0 #[.val (.ref a1)] [] := by first | (simp [entryFrame, mkF, argsToLocals, Value.category]; done) | rfl
set_option maxRecDepth 65536 in
set_option maxHeartbeats 40000000 in
theorem rmXN (l : Launch) (Z : State) (a0 : Array Value) (hw : ∀ d ∈ tables_1, d.before a0 Z = true) (ws : List Jvm.Cond) (a1 : Addr) (cs : List Int32) (zc : Int32) (kN : Addr) (h0 : Heap) (n0 : Nat) (Zs : n0 ≤ h0.size) (E_a1 : Exa Z h0 a1 "java/lang/String") (T_a1 : Stx Z h0 a1 cs) (Ol : Old Z n0 h0) (S_COMPACT_STRINGS : Sta Z Z.heap "java/lang/String" "COMPACT_STRINGS" "Z" (.int zc)) (hzc : ¬ zc = 0) (S_NOTIFICATION : Sta Z Z.heap "com/example/verschil/verschil/rrdp/FileKind" "NOTIFICATION" "Lcom/example/verschil/verschil/rrdp/FileKind;" (.ref kN)) (hN : cs = [(110 : Int32), (111 : Int32), (116 : Int32), (105 : Int32), (102 : Int32), (105 : Int32), (99 : Int32), (97 : Int32), (116 : Int32), (105 : Int32), (111 : Int32), (110 : Int32)]) :
    MetFree l (⟨"com/example/verschil/verschil/rrdp/FileKindOfRootPinLaw", "expected", "(Ljava/lang/String;)Lcom/example/verschil/verschil/rrdp/FileKind;"⟩ : MethodName) (head1 (Jvm.Cond.code (⟨"com/example/verschil/verschil/rrdp/FileKindOfRootPinLaw", "expected", "(Ljava/lang/String;)Lcom/example/verschil/verschil/rrdp/FileKind;"⟩ : MethodName) method_4_code 1 (some (.object "com/example/verschil/verschil/rrdp/FileKind")) :: ws) ({ frames := 2, cells := 2, slots := 52, locals := 28 } : Room)) (fun a U => a = #[(.ref a1)] ∧ Z.Warmed39 U.vm ∧ U.heap = h0 ∧ CHv Z ELs U.vm h0) (fun _ _ _ _ _ => True) (fun _ U o U' => ∃ v L, o = .returned v ∧ QXN Z a1 cs zc kN h0 n0 v U'.heap L ∧ CHr Z ELs U.vm U.heap U'.vm U'.heap ∧ ReturnedEndW U o U' L ({ frames := 2, cells := 2, slots := 52, locals := 28 } : Room).cells ({ frames := 2, cells := 2, slots := 52, locals := 28 } : Room).slots) := by
  refine MetFree.of_bodySF (plainFor_of_name pn_1) hisR ?_
  intro p e s m args below meth c s₁ Bd hml0 hP hK
  obtain ⟨rfl, hZ, hh, hCH⟩ := hP
  have hx := Bd.exec
  have hby := Bd.bytes
  have hml : c.maxLocals = 1 := hml0
  have hown : s.vm.findClass "com/example/verschil/verschil/rrdp/FileKindOfRootPinLaw" = some m.cls := findClass_of_methodNamed Bd.named
  have hnm := (name_of_methodNamed Bd.named Bd.method).1
  have X0 : Stand p l e ({ frames := 2, cells := 2, slots := 52, locals := 28 } : Room) s m #[(.ref a1)] below meth c s₁ [] 0 0 := Stand.of_body Bd
  have e0 : s₁.heap = h0 := by rw [← hh, Bd.state]; rfl
  have N0 := Fr.nil n0
  have pre0 : ∀ t, Steps p.tables e below (s₁.setTop (mkF m 0 #[.val (.ref a1)] [])) t → Steps p.tables e below (s₁.setTop (entryFrame m #[(.ref a1)] 1)) t := fun t k => castTop (ef_XN m a1) k
  have hEL := own_EL hw
  have hStr := own_str hw
  have Hc : CHr Z ELs s.vm h0 s.vm h0 := CHr.refl hCH
  have Kp : Keep h0 h0 [] := Keep.refl h0 []
  obtain ⟨la281, T281, h281, k281, lb281, kb281, X281, e281, E281, hS281, hk281, hZ, hown, Ea281, C281, V281, K281, -, -, R281, -, Dn281, st281⟩ := ldcCH X0 hx hZ hown (hw _ (List.mem_of_getElem? (i := 38) rfl)) hStr e0 ((State.WarmedH.refl s).since 0) (Nat.zero_le _) hEL (by decide) Hc.1 (text := "notification") (vs := ((([(110 : Int32), (111 : Int32), (116 : Int32), (105 : Int32), (102 : Int32), (105 : Int32), (99 : Int32), (97 : Int32), (116 : Int32), (105 : Int32), (111 : Int32), (110 : Int32)] : List Int32).map (fun c => c.toInt8.toInt32)).map Value.int)) (z := (12 : Int32)) (by decide +kernel) (by decide) rfl (g := (mkF m 7 #[.val (.ref a1)] [(.ref a1)])) rfl (hb hby d8_7) (n := 48) (by decide) (by decide) (by decide) (by decide)
  have Hc : CHr Z ELs s.vm h0 T281.vm h281 := Hc.trans R281
  have Zs : n0 ≤ h281.size := Nat.le_trans Zs E281.1
  have E_a1 : Exa Z h281 a1 "java/lang/String" := E_a1.ext E281
  have T_a1 : Stx Z h281 a1 cs := T_a1.ext E281
  have Ol : Old Z n0 h281 := Ol.ext E281
  have Kp : Keep h0 h281 [] := Kp.ext E281
  have hkc : k281 ≤ h281.size := hk281
  have E_la281 : Exa Z h281 la281 "java/lang/String" := Ea281
  have T_la281 : Stx Z h281 la281 [(110 : Int32), (111 : Int32), (116 : Int32), (105 : Int32), (102 : Int32), (105 : Int32), (99 : Int32), (97 : Int32), (116 : Int32), (105 : Int32), (111 : Int32), (110 : Int32)] := ⟨lb281, kb281, Ea281, V281, C281, K281, by decide, by decide⟩
  obtain ⟨cq282, kq282, q282a, q282b, q282c⟩ := isOf hZ e281 E_a1
  obtain ⟨_, _, ⟨T282, L282, k282, n282⟩, -, X282, ⟨Lc282, hQ282, l282, y282, z282⟩, st282⟩ := X281.virtualBack hx (y := (⟨"java/lang/String", "equals", "(Ljava/lang/Object;)Z"⟩ : MethodName)) (z := (⟨"java/lang/String", "equals", "(Ljava/lang/Object;)Z"⟩ : MethodName)) hown (mvT hZ (hw _ (List.mem_of_getElem? (i := 41) rfl))) (mvT hZ (hw _ (List.mem_of_getElem? (i := 42) rfl))) (notFace_of_selects (args := #[]) (mvT hZ (hw _ (List.mem_of_getElem? (i := 44) rfl)))) (mvT hZ (hw _ (List.mem_of_getElem? (i := 44) rfl))) (mvT hZ (hw _ (List.mem_of_getElem? (i := 43) rfl))) (by decide) (own_eqT (W := 0) hZ hw T_a1 T_la281 (Sta.ext Ol.2 S_COMPACT_STRINGS) hzc hN (by decide) (by decide)) q282a q282c (g := (mkF m 9 #[.val (.ref a1)] [(.ref la281), (.ref a1)])) rfl (by rw [hml]; rfl) (Steps.refl _) (argsL := [(.ref la281)]) (rest := []) (lenOf pd_2 rfl) rfl (by show 2 * 0 + _ ≤ _; exact Nat.le_of_eq rfl) (hb hby d8_9) (fun _ _ => ⟨rfl, e281, (by decide : 2 + 0 ≤ _), (by decide : 52 + 0 ≤ _)⟩)
  dsimp only [Pt.U, Pt.locs, Pt.cells, Pt.slots] at X282 l282 y282 z282 st282 hQ282
  subst l282 y282 z282
  obtain ⟨rfl, rfl, e282⟩ := hQ282
  have N282 := Fr.app N0 (Fr.nil n0)
  obtain ⟨T283, X283, e283, st283⟩ := getS2 X282 hx hZ hown (host := "") (Or.inl (hw _ (List.mem_of_getElem? (i := 51) rfl))) Via.refl e282 (Sta.ext Ol.2 S_NOTIFICATION) (g := (mkF m 15 #[.val (.ref a1)] [])) rfl (hb hby d8_15)
  obtain ⟨fs, hr, hrun, hended, hRW⟩ := X283.leaveW (s := s) (vm₁ := T281.vm) hS281 (by rw [e283]; exact hkc) (v := some (.ref kN)) (fun h => by rw [Bd.returns] at h; cases h)
  have hCR : CHr Z ELs s.vm h0 T283.vm h281 := Hc.trans (CHv.at X283 hZ hEL Hc.1)
  refine ⟨_, _, pre0 _ ?_, hrun, hended, _, _, rfl, ?_, (by rw [hh]; show CHr Z ELs s.vm h0 T283.vm T283.heap; rw [e283]; exact hCR), ⟨hRW.1, hRW.2.1, hRW.2.2.1, hRW.2.2.2.mono (by decide) (by decide)⟩⟩
  · show Steps p.tables e below (s₁.setTop (mkF m 0 #[.val (.ref a1)] [])) _
    refine XS.aloadN X0.here hx rfl (hb hby d8_0) rfl rfl ?_
    show Steps p.tables e below (s₁.setTop (mkF m 1 #[.val (.ref a1)] [(.ref a1)])) _
    refine XS.ifnonnullYes X0.here hx rfl (pc0 := 1) (pc' := 6) rfl (hb hby d8_1) rfl (by decide) (by decide) ?_
    show Steps p.tables e below (s₁.setTop (mkF m 6 #[.val (.ref a1)] [])) _
    refine XS.aloadN X0.here hx rfl (hb hby d8_6) rfl rfl ?_
    show Steps p.tables e below (s₁.setTop (mkF m 7 #[.val (.ref a1)] [(.ref a1)])) _
    refine st281 _ ?_
    show Steps p.tables e below (T281.setTop (mkF m 9 #[.val (.ref a1)] [(.ref la281), (.ref a1)])) _
    refine st282.trans ?_
    show Steps p.tables e below (T282.setTop (mkF m 12 #[.val (.ref a1)] [(.int (1 : Int32))])) _
    refine XS.ifNo X282.here hx rfl (hb hby d8_12) rfl ((if0 _ _).trans (feq (by decide)).1) ?_
    show Steps p.tables e below (T282.setTop (mkF m 15 #[.val (.ref a1)] [])) _
    refine st283 _ ?_
    show Steps p.tables e below (T283.setTop (mkF m 18 #[.val (.ref a1)] [(.ref kN)])) _
    exact retOut X283 hx Bd.returns rfl (Or.inr (Or.inr (Or.inr (Or.inr ⟨rfl, rfl, rfl⟩)))) (hb hby d8_18) hr
  · show QXN Z a1 cs zc kN h0 n0 _ T283.heap _
    rw [e283]
    exact ⟨rfl, N282, Kp⟩
def QXS (Z : State) (a1 : Addr) (cs : List Int32) (zc : Int32) (kS : Addr) (h0 : Heap) (n0 : Nat) (v : Option Value) (h : Heap) (L : List Loc) : Prop := v = some (.ref kS) ∧ Fr n0 L ∧ (Keep h0 h [])
theorem ef_XS (m : MethodId) (a1 : Addr) : entryFrame m #[(.ref a1)] 1 = mkF m 0 #[.val (.ref a1)] [] := by first | (simp [entryFrame, mkF, argsToLocals, Value.category]; done) | rfl
set_option maxRecDepth 65536 in
set_option maxHeartbeats 40000000 in
theorem rmXS (l : Launch) (Z : State) (a0 : Array Value) (hw : ∀ d ∈ tables_1, d.before a0 Z = true) (ws : List Jvm.Cond) (a1 : Addr) (cs : List Int32) (zc : Int32) (kS : Addr) (h0 : Heap) (n0 : Nat) (Zs : n0 ≤ h0.size) (E_a1 : Exa Z h0 a1 "java/lang/String") (T_a1 : Stx Z h0 a1 cs) (Ol : Old Z n0 h0) (S_COMPACT_STRINGS : Sta Z Z.heap "java/lang/String" "COMPACT_STRINGS" "Z" (.int zc)) (hzc : ¬ zc = 0) (S_SNAPSHOT : Sta Z Z.heap "com/example/verschil/verschil/rrdp/FileKind" "SNAPSHOT" "Lcom/example/verschil/verschil/rrdp/FileKind;" (.ref kS)) (hN : ¬ cs = [(110 : Int32), (111 : Int32), (116 : Int32), (105 : Int32), (102 : Int32), (105 : Int32), (99 : Int32), (97 : Int32), (116 : Int32), (105 : Int32), (111 : Int32), (110 : Int32)]) (hS : cs = [(115 : Int32), (110 : Int32), (97 : Int32), (112 : Int32), (115 : Int32), (104 : Int32), (111 : Int32), (116 : Int32)]) :
    MetFree l (⟨"com/example/verschil/verschil/rrdp/FileKindOfRootPinLaw", "expected", "(Ljava/lang/String;)Lcom/example/verschil/verschil/rrdp/FileKind;"⟩ : MethodName) (head1 (Jvm.Cond.code (⟨"com/example/verschil/verschil/rrdp/FileKindOfRootPinLaw", "expected", "(Ljava/lang/String;)Lcom/example/verschil/verschil/rrdp/FileKind;"⟩ : MethodName) method_4_code 1 (some (.object "com/example/verschil/verschil/rrdp/FileKind")) :: ws) ({ frames := 2, cells := 4, slots := 88, locals := 28 } : Room)) (fun a U => a = #[(.ref a1)] ∧ Z.Warmed39 U.vm ∧ U.heap = h0 ∧ CHv Z ELs U.vm h0) (fun _ _ _ _ _ => True) (fun _ U o U' => ∃ v L, o = .returned v ∧ QXS Z a1 cs zc kS h0 n0 v U'.heap L ∧ CHr Z ELs U.vm U.heap U'.vm U'.heap ∧ ReturnedEndW U o U' L ({ frames := 2, cells := 4, slots := 88, locals := 28 } : Room).cells ({ frames := 2, cells := 4, slots := 88, locals := 28 } : Room).slots) := by
  refine MetFree.of_bodySF (plainFor_of_name pn_1) hisR ?_
  intro p e s m args below meth c s₁ Bd hml0 hP hK
  obtain ⟨rfl, hZ, hh, hCH⟩ := hP
  have hx := Bd.exec
  have hby := Bd.bytes
  have hml : c.maxLocals = 1 := hml0
  have hown : s.vm.findClass "com/example/verschil/verschil/rrdp/FileKindOfRootPinLaw" = some m.cls := findClass_of_methodNamed Bd.named
  have hnm := (name_of_methodNamed Bd.named Bd.method).1
  have X0 : Stand p l e ({ frames := 2, cells := 4, slots := 88, locals := 28 } : Room) s m #[(.ref a1)] below meth c s₁ [] 0 0 := Stand.of_body Bd
  have e0 : s₁.heap = h0 := by rw [← hh, Bd.state]; rfl
  have N0 := Fr.nil n0
  have pre0 : ∀ t, Steps p.tables e below (s₁.setTop (mkF m 0 #[.val (.ref a1)] [])) t → Steps p.tables e below (s₁.setTop (entryFrame m #[(.ref a1)] 1)) t := fun t k => castTop (ef_XS m a1) k
  have hEL := own_EL hw
  have hStr := own_str hw
  have Hc : CHr Z ELs s.vm h0 s.vm h0 := CHr.refl hCH
  have Kp : Keep h0 h0 [] := Keep.refl h0 []
  obtain ⟨la284, T284, h284, k284, lb284, kb284, X284, e284, E284, hS284, hk284, hZ, hown, Ea284, C284, V284, K284, -, -, R284, -, Dn284, st284⟩ := ldcCH X0 hx hZ hown (hw _ (List.mem_of_getElem? (i := 38) rfl)) hStr e0 ((State.WarmedH.refl s).since 0) (Nat.zero_le _) hEL (by decide) Hc.1 (text := "notification") (vs := ((([(110 : Int32), (111 : Int32), (116 : Int32), (105 : Int32), (102 : Int32), (105 : Int32), (99 : Int32), (97 : Int32), (116 : Int32), (105 : Int32), (111 : Int32), (110 : Int32)] : List Int32).map (fun c => c.toInt8.toInt32)).map Value.int)) (z := (12 : Int32)) (by decide +kernel) (by decide) rfl (g := (mkF m 7 #[.val (.ref a1)] [(.ref a1)])) rfl (hb hby d8_7) (n := 48) (by decide) (by decide) (by decide) (by decide)
  have Hc : CHr Z ELs s.vm h0 T284.vm h284 := Hc.trans R284
  have Zs : n0 ≤ h284.size := Nat.le_trans Zs E284.1
  have E_a1 : Exa Z h284 a1 "java/lang/String" := E_a1.ext E284
  have T_a1 : Stx Z h284 a1 cs := T_a1.ext E284
  have Ol : Old Z n0 h284 := Ol.ext E284
  have Kp : Keep h0 h284 [] := Kp.ext E284
  have hkc : k284 ≤ h284.size := hk284
  have E_la284 : Exa Z h284 la284 "java/lang/String" := Ea284
  have T_la284 : Stx Z h284 la284 [(110 : Int32), (111 : Int32), (116 : Int32), (105 : Int32), (102 : Int32), (105 : Int32), (99 : Int32), (97 : Int32), (116 : Int32), (105 : Int32), (111 : Int32), (110 : Int32)] := ⟨lb284, kb284, Ea284, V284, C284, K284, by decide, by decide⟩
  obtain ⟨cq285, kq285, q285a, q285b, q285c⟩ := isOf hZ e284 E_a1
  obtain ⟨_, _, ⟨T285, L285, k285, n285⟩, -, X285, ⟨Lc285, hQ285, l285, y285, z285⟩, st285⟩ := X284.virtualBack hx (y := (⟨"java/lang/String", "equals", "(Ljava/lang/Object;)Z"⟩ : MethodName)) (z := (⟨"java/lang/String", "equals", "(Ljava/lang/Object;)Z"⟩ : MethodName)) hown (mvT hZ (hw _ (List.mem_of_getElem? (i := 41) rfl))) (mvT hZ (hw _ (List.mem_of_getElem? (i := 42) rfl))) (notFace_of_selects (args := #[]) (mvT hZ (hw _ (List.mem_of_getElem? (i := 44) rfl)))) (mvT hZ (hw _ (List.mem_of_getElem? (i := 44) rfl))) (mvT hZ (hw _ (List.mem_of_getElem? (i := 43) rfl))) (by decide) (own_eqF (W := 0) hZ hw T_a1 T_la284 (Sta.ext Ol.2 S_COMPACT_STRINGS) hzc hN (by decide) (by decide)) q285a q285c (g := (mkF m 9 #[.val (.ref a1)] [(.ref la284), (.ref a1)])) rfl (by rw [hml]; rfl) (Steps.refl _) (argsL := [(.ref la284)]) (rest := []) (lenOf pd_2 rfl) rfl (by show 2 * 0 + _ ≤ _; exact Nat.le_of_eq rfl) (hb hby d8_9) (fun _ _ => ⟨rfl, e284, (by decide : 2 + 0 ≤ _), (by decide : 52 + 0 ≤ _)⟩)
  dsimp only [Pt.U, Pt.locs, Pt.cells, Pt.slots] at X285 l285 y285 z285 st285 hQ285
  subst l285 y285 z285
  obtain ⟨rfl, rfl, e285⟩ := hQ285
  have N285 := Fr.app N0 (Fr.nil n0)
  obtain ⟨la286, T286, h286, k286, lb286, kb286, X286, e286, E286, hS286, hk286, hZ, hown, Ea286, C286, V286, K286, -, -, R286, -, Dn286, st286⟩ := ldcCH X285 hx hZ hown (hw _ (List.mem_of_getElem? (i := 77) rfl)) hStr e285 hS284 hkc hEL (by decide) Hc.1 (text := "snapshot") (vs := ((([(115 : Int32), (110 : Int32), (97 : Int32), (112 : Int32), (115 : Int32), (104 : Int32), (111 : Int32), (116 : Int32)] : List Int32).map (fun c => c.toInt8.toInt32)).map Value.int)) (z := (8 : Int32)) (by decide +kernel) (by decide) rfl (g := (mkF m 20 #[.val (.ref a1)] [(.ref a1)])) rfl (hb hby d8_20) (n := 32) (by decide) (by decide) (by decide) (by decide)
  have hkc : k284 ≤ h286.size := Nat.le_trans hkc E286.1
  have Hc : CHr Z ELs s.vm h0 T286.vm h286 := Hc.trans R286
  have Zs : n0 ≤ h286.size := Nat.le_trans Zs E286.1
  have E_a1 : Exa Z h286 a1 "java/lang/String" := E_a1.ext E286
  have T_a1 : Stx Z h286 a1 cs := T_a1.ext E286
  have Ol : Old Z n0 h286 := Ol.ext E286
  have Kp : Keep h0 h286 [] := Kp.ext E286
  have E_la284 : Exa Z h286 la284 "java/lang/String" := E_la284.ext E286
  have T_la284 : Stx Z h286 la284 [(110 : Int32), (111 : Int32), (116 : Int32), (105 : Int32), (102 : Int32), (105 : Int32), (99 : Int32), (97 : Int32), (116 : Int32), (105 : Int32), (111 : Int32), (110 : Int32)] := T_la284.ext E286
  have hkc : k286 ≤ h286.size := hk286
  have E_la286 : Exa Z h286 la286 "java/lang/String" := Ea286
  have T_la286 : Stx Z h286 la286 [(115 : Int32), (110 : Int32), (97 : Int32), (112 : Int32), (115 : Int32), (104 : Int32), (111 : Int32), (116 : Int32)] := ⟨lb286, kb286, Ea286, V286, C286, K286, by decide, by decide⟩
  obtain ⟨cq287, kq287, q287a, q287b, q287c⟩ := isOf hZ e286 E_a1
  obtain ⟨_, _, ⟨T287, L287, k287, n287⟩, -, X287, ⟨Lc287, hQ287, l287, y287, z287⟩, st287⟩ := X286.virtualBack hx (y := (⟨"java/lang/String", "equals", "(Ljava/lang/Object;)Z"⟩ : MethodName)) (z := (⟨"java/lang/String", "equals", "(Ljava/lang/Object;)Z"⟩ : MethodName)) hown (mvT hZ (hw _ (List.mem_of_getElem? (i := 41) rfl))) (mvT hZ (hw _ (List.mem_of_getElem? (i := 42) rfl))) (notFace_of_selects (args := #[]) (mvT hZ (hw _ (List.mem_of_getElem? (i := 44) rfl)))) (mvT hZ (hw _ (List.mem_of_getElem? (i := 44) rfl))) (mvT hZ (hw _ (List.mem_of_getElem? (i := 43) rfl))) (by decide) (own_eqT (W := 0) hZ hw T_a1 T_la286 (Sta.ext Ol.2 S_COMPACT_STRINGS) hzc hS (by decide) (by decide)) q287a q287c (g := (mkF m 22 #[.val (.ref a1)] [(.ref la286), (.ref a1)])) rfl (by rw [hml]; rfl) (Steps.refl _) (argsL := [(.ref la286)]) (rest := []) (lenOf pd_2 rfl) rfl (by show 2 * 0 + _ ≤ _; exact Nat.le_of_eq rfl) (hb hby d8_22) (fun _ _ => ⟨rfl, e286, (by decide : 4 + 0 ≤ _), (by decide : 88 + 0 ≤ _)⟩)
  dsimp only [Pt.U, Pt.locs, Pt.cells, Pt.slots] at X287 l287 y287 z287 st287 hQ287
  subst l287 y287 z287
  obtain ⟨rfl, rfl, e287⟩ := hQ287
  have N287 := Fr.app N285 (Fr.nil n0)
  obtain ⟨T288, X288, e288, st288⟩ := getS2 X287 hx hZ hown (host := "") (Or.inl (hw _ (List.mem_of_getElem? (i := 81) rfl))) Via.refl e287 (Sta.ext Ol.2 S_SNAPSHOT) (g := (mkF m 28 #[.val (.ref a1)] [])) rfl (hb hby d8_28)
  obtain ⟨fs, hr, hrun, hended, hRW⟩ := X288.leaveW (s := s) (vm₁ := T286.vm) hS286 (by rw [e288]; exact hkc) (v := some (.ref kS)) (fun h => by rw [Bd.returns] at h; cases h)
  have hCR : CHr Z ELs s.vm h0 T288.vm h286 := Hc.trans (CHv.at X288 hZ hEL Hc.1)
  refine ⟨_, _, pre0 _ ?_, hrun, hended, _, _, rfl, ?_, (by rw [hh]; show CHr Z ELs s.vm h0 T288.vm T288.heap; rw [e288]; exact hCR), ⟨hRW.1, hRW.2.1, hRW.2.2.1, hRW.2.2.2.mono (by decide) (by decide)⟩⟩
  · show Steps p.tables e below (s₁.setTop (mkF m 0 #[.val (.ref a1)] [])) _
    refine XS.aloadN X0.here hx rfl (hb hby d8_0) rfl rfl ?_
    show Steps p.tables e below (s₁.setTop (mkF m 1 #[.val (.ref a1)] [(.ref a1)])) _
    refine XS.ifnonnullYes X0.here hx rfl (pc0 := 1) (pc' := 6) rfl (hb hby d8_1) rfl (by decide) (by decide) ?_
    show Steps p.tables e below (s₁.setTop (mkF m 6 #[.val (.ref a1)] [])) _
    refine XS.aloadN X0.here hx rfl (hb hby d8_6) rfl rfl ?_
    show Steps p.tables e below (s₁.setTop (mkF m 7 #[.val (.ref a1)] [(.ref a1)])) _
    refine st284 _ ?_
    show Steps p.tables e below (T284.setTop (mkF m 9 #[.val (.ref a1)] [(.ref la284), (.ref a1)])) _
    refine st285.trans ?_
    show Steps p.tables e below (T285.setTop (mkF m 12 #[.val (.ref a1)] [(.int (0 : Int32))])) _
    refine XS.ifYes X285.here hx rfl (pc0 := 12) (pc' := 19) rfl (hb hby d8_12) rfl ((if0 _ _).trans (teq (by decide)).1) (by decide) (by decide) ?_
    show Steps p.tables e below (T285.setTop (mkF m 19 #[.val (.ref a1)] [])) _
    refine XS.aloadN X285.here hx rfl (hb hby d8_19) rfl rfl ?_
    show Steps p.tables e below (T285.setTop (mkF m 20 #[.val (.ref a1)] [(.ref a1)])) _
    refine st286 _ ?_
    show Steps p.tables e below (T286.setTop (mkF m 22 #[.val (.ref a1)] [(.ref la286), (.ref a1)])) _
    refine st287.trans ?_
    show Steps p.tables e below (T287.setTop (mkF m 25 #[.val (.ref a1)] [(.int (1 : Int32))])) _
    refine XS.ifNo X287.here hx rfl (hb hby d8_25) rfl ((if0 _ _).trans (feq (by decide)).1) ?_
    show Steps p.tables e below (T287.setTop (mkF m 28 #[.val (.ref a1)] [])) _
    refine st288 _ ?_
    show Steps p.tables e below (T288.setTop (mkF m 31 #[.val (.ref a1)] [(.ref kS)])) _
    exact retOut X288 hx Bd.returns rfl (Or.inr (Or.inr (Or.inr (Or.inr ⟨rfl, rfl, rfl⟩)))) (hb hby d8_31) hr
  · show QXS Z a1 cs zc kS h0 n0 _ T288.heap _
    rw [e288]
    exact ⟨rfl, N287, Kp⟩
def QXD (Z : State) (a1 : Addr) (cs : List Int32) (zc : Int32) (kD : Addr) (h0 : Heap) (n0 : Nat) (v : Option Value) (h : Heap) (L : List Loc) : Prop := v = some (.ref kD) ∧ Fr n0 L ∧ (Keep h0 h [])
theorem ef_XD (m : MethodId) (a1 : Addr) : entryFrame m #[(.ref a1)] 1 = mkF m 0 #[.val (.ref a1)] [] := by first | (simp [entryFrame, mkF, argsToLocals, Value.category]; done) | rfl
set_option maxRecDepth 65536 in
set_option maxHeartbeats 40000000 in
theorem rmXD (l : Launch) (Z : State) (a0 : Array Value) (hw : ∀ d ∈ tables_1, d.before a0 Z = true) (ws : List Jvm.Cond) (a1 : Addr) (cs : List Int32) (zc : Int32) (kD : Addr) (h0 : Heap) (n0 : Nat) (Zs : n0 ≤ h0.size) (E_a1 : Exa Z h0 a1 "java/lang/String") (T_a1 : Stx Z h0 a1 cs) (Ol : Old Z n0 h0) (S_COMPACT_STRINGS : Sta Z Z.heap "java/lang/String" "COMPACT_STRINGS" "Z" (.int zc)) (hzc : ¬ zc = 0) (S_DELTA : Sta Z Z.heap "com/example/verschil/verschil/rrdp/FileKind" "DELTA" "Lcom/example/verschil/verschil/rrdp/FileKind;" (.ref kD)) (hN : ¬ cs = [(110 : Int32), (111 : Int32), (116 : Int32), (105 : Int32), (102 : Int32), (105 : Int32), (99 : Int32), (97 : Int32), (116 : Int32), (105 : Int32), (111 : Int32), (110 : Int32)]) (hS : ¬ cs = [(115 : Int32), (110 : Int32), (97 : Int32), (112 : Int32), (115 : Int32), (104 : Int32), (111 : Int32), (116 : Int32)]) (hD : cs = [(100 : Int32), (101 : Int32), (108 : Int32), (116 : Int32), (97 : Int32)]) :
    MetFree l (⟨"com/example/verschil/verschil/rrdp/FileKindOfRootPinLaw", "expected", "(Ljava/lang/String;)Lcom/example/verschil/verschil/rrdp/FileKind;"⟩ : MethodName) (head1 (Jvm.Cond.code (⟨"com/example/verschil/verschil/rrdp/FileKindOfRootPinLaw", "expected", "(Ljava/lang/String;)Lcom/example/verschil/verschil/rrdp/FileKind;"⟩ : MethodName) method_4_code 1 (some (.object "com/example/verschil/verschil/rrdp/FileKind")) :: ws) ({ frames := 2, cells := 6, slots := 112, locals := 28 } : Room)) (fun a U => a = #[(.ref a1)] ∧ Z.Warmed39 U.vm ∧ U.heap = h0 ∧ CHv Z ELs U.vm h0) (fun _ _ _ _ _ => True) (fun _ U o U' => ∃ v L, o = .returned v ∧ QXD Z a1 cs zc kD h0 n0 v U'.heap L ∧ CHr Z ELs U.vm U.heap U'.vm U'.heap ∧ ReturnedEndW U o U' L ({ frames := 2, cells := 6, slots := 112, locals := 28 } : Room).cells ({ frames := 2, cells := 6, slots := 112, locals := 28 } : Room).slots) := by
  refine MetFree.of_bodySF (plainFor_of_name pn_1) hisR ?_
  intro p e s m args below meth c s₁ Bd hml0 hP hK
  obtain ⟨rfl, hZ, hh, hCH⟩ := hP
  have hx := Bd.exec
  have hby := Bd.bytes
  have hml : c.maxLocals = 1 := hml0
  have hown : s.vm.findClass "com/example/verschil/verschil/rrdp/FileKindOfRootPinLaw" = some m.cls := findClass_of_methodNamed Bd.named
  have hnm := (name_of_methodNamed Bd.named Bd.method).1
  have X0 : Stand p l e ({ frames := 2, cells := 6, slots := 112, locals := 28 } : Room) s m #[(.ref a1)] below meth c s₁ [] 0 0 := Stand.of_body Bd
  have e0 : s₁.heap = h0 := by rw [← hh, Bd.state]; rfl
  have N0 := Fr.nil n0
  have pre0 : ∀ t, Steps p.tables e below (s₁.setTop (mkF m 0 #[.val (.ref a1)] [])) t → Steps p.tables e below (s₁.setTop (entryFrame m #[(.ref a1)] 1)) t := fun t k => castTop (ef_XD m a1) k
  have hEL := own_EL hw
  have hStr := own_str hw
  have Hc : CHr Z ELs s.vm h0 s.vm h0 := CHr.refl hCH
  have Kp : Keep h0 h0 [] := Keep.refl h0 []
  obtain ⟨la289, T289, h289, k289, lb289, kb289, X289, e289, E289, hS289, hk289, hZ, hown, Ea289, C289, V289, K289, -, -, R289, -, Dn289, st289⟩ := ldcCH X0 hx hZ hown (hw _ (List.mem_of_getElem? (i := 38) rfl)) hStr e0 ((State.WarmedH.refl s).since 0) (Nat.zero_le _) hEL (by decide) Hc.1 (text := "notification") (vs := ((([(110 : Int32), (111 : Int32), (116 : Int32), (105 : Int32), (102 : Int32), (105 : Int32), (99 : Int32), (97 : Int32), (116 : Int32), (105 : Int32), (111 : Int32), (110 : Int32)] : List Int32).map (fun c => c.toInt8.toInt32)).map Value.int)) (z := (12 : Int32)) (by decide +kernel) (by decide) rfl (g := (mkF m 7 #[.val (.ref a1)] [(.ref a1)])) rfl (hb hby d8_7) (n := 48) (by decide) (by decide) (by decide) (by decide)
  have Hc : CHr Z ELs s.vm h0 T289.vm h289 := Hc.trans R289
  have Zs : n0 ≤ h289.size := Nat.le_trans Zs E289.1
  have E_a1 : Exa Z h289 a1 "java/lang/String" := E_a1.ext E289
  have T_a1 : Stx Z h289 a1 cs := T_a1.ext E289
  have Ol : Old Z n0 h289 := Ol.ext E289
  have Kp : Keep h0 h289 [] := Kp.ext E289
  have hkc : k289 ≤ h289.size := hk289
  have E_la289 : Exa Z h289 la289 "java/lang/String" := Ea289
  have T_la289 : Stx Z h289 la289 [(110 : Int32), (111 : Int32), (116 : Int32), (105 : Int32), (102 : Int32), (105 : Int32), (99 : Int32), (97 : Int32), (116 : Int32), (105 : Int32), (111 : Int32), (110 : Int32)] := ⟨lb289, kb289, Ea289, V289, C289, K289, by decide, by decide⟩
  obtain ⟨cq290, kq290, q290a, q290b, q290c⟩ := isOf hZ e289 E_a1
  obtain ⟨_, _, ⟨T290, L290, k290, n290⟩, -, X290, ⟨Lc290, hQ290, l290, y290, z290⟩, st290⟩ := X289.virtualBack hx (y := (⟨"java/lang/String", "equals", "(Ljava/lang/Object;)Z"⟩ : MethodName)) (z := (⟨"java/lang/String", "equals", "(Ljava/lang/Object;)Z"⟩ : MethodName)) hown (mvT hZ (hw _ (List.mem_of_getElem? (i := 41) rfl))) (mvT hZ (hw _ (List.mem_of_getElem? (i := 42) rfl))) (notFace_of_selects (args := #[]) (mvT hZ (hw _ (List.mem_of_getElem? (i := 44) rfl)))) (mvT hZ (hw _ (List.mem_of_getElem? (i := 44) rfl))) (mvT hZ (hw _ (List.mem_of_getElem? (i := 43) rfl))) (by decide) (own_eqF (W := 0) hZ hw T_a1 T_la289 (Sta.ext Ol.2 S_COMPACT_STRINGS) hzc hN (by decide) (by decide)) q290a q290c (g := (mkF m 9 #[.val (.ref a1)] [(.ref la289), (.ref a1)])) rfl (by rw [hml]; rfl) (Steps.refl _) (argsL := [(.ref la289)]) (rest := []) (lenOf pd_2 rfl) rfl (by show 2 * 0 + _ ≤ _; exact Nat.le_of_eq rfl) (hb hby d8_9) (fun _ _ => ⟨rfl, e289, (by decide : 2 + 0 ≤ _), (by decide : 52 + 0 ≤ _)⟩)
  dsimp only [Pt.U, Pt.locs, Pt.cells, Pt.slots] at X290 l290 y290 z290 st290 hQ290
  subst l290 y290 z290
  obtain ⟨rfl, rfl, e290⟩ := hQ290
  have N290 := Fr.app N0 (Fr.nil n0)
  obtain ⟨la291, T291, h291, k291, lb291, kb291, X291, e291, E291, hS291, hk291, hZ, hown, Ea291, C291, V291, K291, -, -, R291, -, Dn291, st291⟩ := ldcCH X290 hx hZ hown (hw _ (List.mem_of_getElem? (i := 77) rfl)) hStr e290 hS289 hkc hEL (by decide) Hc.1 (text := "snapshot") (vs := ((([(115 : Int32), (110 : Int32), (97 : Int32), (112 : Int32), (115 : Int32), (104 : Int32), (111 : Int32), (116 : Int32)] : List Int32).map (fun c => c.toInt8.toInt32)).map Value.int)) (z := (8 : Int32)) (by decide +kernel) (by decide) rfl (g := (mkF m 20 #[.val (.ref a1)] [(.ref a1)])) rfl (hb hby d8_20) (n := 32) (by decide) (by decide) (by decide) (by decide)
  have hkc : k289 ≤ h291.size := Nat.le_trans hkc E291.1
  have Hc : CHr Z ELs s.vm h0 T291.vm h291 := Hc.trans R291
  have Zs : n0 ≤ h291.size := Nat.le_trans Zs E291.1
  have E_a1 : Exa Z h291 a1 "java/lang/String" := E_a1.ext E291
  have T_a1 : Stx Z h291 a1 cs := T_a1.ext E291
  have Ol : Old Z n0 h291 := Ol.ext E291
  have Kp : Keep h0 h291 [] := Kp.ext E291
  have E_la289 : Exa Z h291 la289 "java/lang/String" := E_la289.ext E291
  have T_la289 : Stx Z h291 la289 [(110 : Int32), (111 : Int32), (116 : Int32), (105 : Int32), (102 : Int32), (105 : Int32), (99 : Int32), (97 : Int32), (116 : Int32), (105 : Int32), (111 : Int32), (110 : Int32)] := T_la289.ext E291
  have hkc : k291 ≤ h291.size := hk291
  have E_la291 : Exa Z h291 la291 "java/lang/String" := Ea291
  have T_la291 : Stx Z h291 la291 [(115 : Int32), (110 : Int32), (97 : Int32), (112 : Int32), (115 : Int32), (104 : Int32), (111 : Int32), (116 : Int32)] := ⟨lb291, kb291, Ea291, V291, C291, K291, by decide, by decide⟩
  obtain ⟨cq292, kq292, q292a, q292b, q292c⟩ := isOf hZ e291 E_a1
  obtain ⟨_, _, ⟨T292, L292, k292, n292⟩, -, X292, ⟨Lc292, hQ292, l292, y292, z292⟩, st292⟩ := X291.virtualBack hx (y := (⟨"java/lang/String", "equals", "(Ljava/lang/Object;)Z"⟩ : MethodName)) (z := (⟨"java/lang/String", "equals", "(Ljava/lang/Object;)Z"⟩ : MethodName)) hown (mvT hZ (hw _ (List.mem_of_getElem? (i := 41) rfl))) (mvT hZ (hw _ (List.mem_of_getElem? (i := 42) rfl))) (notFace_of_selects (args := #[]) (mvT hZ (hw _ (List.mem_of_getElem? (i := 44) rfl)))) (mvT hZ (hw _ (List.mem_of_getElem? (i := 44) rfl))) (mvT hZ (hw _ (List.mem_of_getElem? (i := 43) rfl))) (by decide) (own_eqF (W := 0) hZ hw T_a1 T_la291 (Sta.ext Ol.2 S_COMPACT_STRINGS) hzc hS (by decide) (by decide)) q292a q292c (g := (mkF m 22 #[.val (.ref a1)] [(.ref la291), (.ref a1)])) rfl (by rw [hml]; rfl) (Steps.refl _) (argsL := [(.ref la291)]) (rest := []) (lenOf pd_2 rfl) rfl (by show 2 * 0 + _ ≤ _; exact Nat.le_of_eq rfl) (hb hby d8_22) (fun _ _ => ⟨rfl, e291, (by decide : 4 + 0 ≤ _), (by decide : 88 + 0 ≤ _)⟩)
  dsimp only [Pt.U, Pt.locs, Pt.cells, Pt.slots] at X292 l292 y292 z292 st292 hQ292
  subst l292 y292 z292
  obtain ⟨rfl, rfl, e292⟩ := hQ292
  have N292 := Fr.app N290 (Fr.nil n0)
  obtain ⟨la293, T293, h293, k293, lb293, kb293, X293, e293, E293, hS293, hk293, hZ, hown, Ea293, C293, V293, K293, -, -, R293, -, Dn293, st293⟩ := ldcCH X292 hx hZ hown (hw _ (List.mem_of_getElem? (i := 78) rfl)) hStr e292 hS291 hkc hEL (by decide) Hc.1 (text := "delta") (vs := ((([(100 : Int32), (101 : Int32), (108 : Int32), (116 : Int32), (97 : Int32)] : List Int32).map (fun c => c.toInt8.toInt32)).map Value.int)) (z := (5 : Int32)) (by decide +kernel) (by decide) rfl (g := (mkF m 33 #[.val (.ref a1)] [(.ref a1)])) rfl (hb hby d8_33) (n := 20) (by decide) (by decide) (by decide) (by decide)
  have hkc : k291 ≤ h293.size := Nat.le_trans hkc E293.1
  have Hc : CHr Z ELs s.vm h0 T293.vm h293 := Hc.trans R293
  have Zs : n0 ≤ h293.size := Nat.le_trans Zs E293.1
  have E_a1 : Exa Z h293 a1 "java/lang/String" := E_a1.ext E293
  have T_a1 : Stx Z h293 a1 cs := T_a1.ext E293
  have Ol : Old Z n0 h293 := Ol.ext E293
  have Kp : Keep h0 h293 [] := Kp.ext E293
  have E_la289 : Exa Z h293 la289 "java/lang/String" := E_la289.ext E293
  have T_la289 : Stx Z h293 la289 [(110 : Int32), (111 : Int32), (116 : Int32), (105 : Int32), (102 : Int32), (105 : Int32), (99 : Int32), (97 : Int32), (116 : Int32), (105 : Int32), (111 : Int32), (110 : Int32)] := T_la289.ext E293
  have E_la291 : Exa Z h293 la291 "java/lang/String" := E_la291.ext E293
  have T_la291 : Stx Z h293 la291 [(115 : Int32), (110 : Int32), (97 : Int32), (112 : Int32), (115 : Int32), (104 : Int32), (111 : Int32), (116 : Int32)] := T_la291.ext E293
  have hkc : k293 ≤ h293.size := hk293
  have E_la293 : Exa Z h293 la293 "java/lang/String" := Ea293
  have T_la293 : Stx Z h293 la293 [(100 : Int32), (101 : Int32), (108 : Int32), (116 : Int32), (97 : Int32)] := ⟨lb293, kb293, Ea293, V293, C293, K293, by decide, by decide⟩
  obtain ⟨cq294, kq294, q294a, q294b, q294c⟩ := isOf hZ e293 E_a1
  obtain ⟨_, _, ⟨T294, L294, k294, n294⟩, -, X294, ⟨Lc294, hQ294, l294, y294, z294⟩, st294⟩ := X293.virtualBack hx (y := (⟨"java/lang/String", "equals", "(Ljava/lang/Object;)Z"⟩ : MethodName)) (z := (⟨"java/lang/String", "equals", "(Ljava/lang/Object;)Z"⟩ : MethodName)) hown (mvT hZ (hw _ (List.mem_of_getElem? (i := 41) rfl))) (mvT hZ (hw _ (List.mem_of_getElem? (i := 42) rfl))) (notFace_of_selects (args := #[]) (mvT hZ (hw _ (List.mem_of_getElem? (i := 44) rfl)))) (mvT hZ (hw _ (List.mem_of_getElem? (i := 44) rfl))) (mvT hZ (hw _ (List.mem_of_getElem? (i := 43) rfl))) (by decide) (own_eqT (W := 0) hZ hw T_a1 T_la293 (Sta.ext Ol.2 S_COMPACT_STRINGS) hzc hD (by decide) (by decide)) q294a q294c (g := (mkF m 35 #[.val (.ref a1)] [(.ref la293), (.ref a1)])) rfl (by rw [hml]; rfl) (Steps.refl _) (argsL := [(.ref la293)]) (rest := []) (lenOf pd_2 rfl) rfl (by show 2 * 0 + _ ≤ _; exact Nat.le_of_eq rfl) (hb hby d8_35) (fun _ _ => ⟨rfl, e293, (by decide : 6 + 0 ≤ _), (by decide : 112 + 0 ≤ _)⟩)
  dsimp only [Pt.U, Pt.locs, Pt.cells, Pt.slots] at X294 l294 y294 z294 st294 hQ294
  subst l294 y294 z294
  obtain ⟨rfl, rfl, e294⟩ := hQ294
  have N294 := Fr.app N292 (Fr.nil n0)
  obtain ⟨T295, X295, e295, st295⟩ := getS2 X294 hx hZ hown (host := "") (Or.inl (hw _ (List.mem_of_getElem? (i := 80) rfl))) Via.refl e294 (Sta.ext Ol.2 S_DELTA) (g := (mkF m 41 #[.val (.ref a1)] [])) rfl (hb hby d8_41)
  obtain ⟨fs, hr, hrun, hended, hRW⟩ := X295.leaveW (s := s) (vm₁ := T293.vm) hS293 (by rw [e295]; exact hkc) (v := some (.ref kD)) (fun h => by rw [Bd.returns] at h; cases h)
  have hCR : CHr Z ELs s.vm h0 T295.vm h293 := Hc.trans (CHv.at X295 hZ hEL Hc.1)
  refine ⟨_, _, pre0 _ ?_, hrun, hended, _, _, rfl, ?_, (by rw [hh]; show CHr Z ELs s.vm h0 T295.vm T295.heap; rw [e295]; exact hCR), ⟨hRW.1, hRW.2.1, hRW.2.2.1, hRW.2.2.2.mono (by decide) (by decide)⟩⟩
  · show Steps p.tables e below (s₁.setTop (mkF m 0 #[.val (.ref a1)] [])) _
    refine XS.aloadN X0.here hx rfl (hb hby d8_0) rfl rfl ?_
    show Steps p.tables e below (s₁.setTop (mkF m 1 #[.val (.ref a1)] [(.ref a1)])) _
    refine XS.ifnonnullYes X0.here hx rfl (pc0 := 1) (pc' := 6) rfl (hb hby d8_1) rfl (by decide) (by decide) ?_
    show Steps p.tables e below (s₁.setTop (mkF m 6 #[.val (.ref a1)] [])) _
    refine XS.aloadN X0.here hx rfl (hb hby d8_6) rfl rfl ?_
    show Steps p.tables e below (s₁.setTop (mkF m 7 #[.val (.ref a1)] [(.ref a1)])) _
    refine st289 _ ?_
    show Steps p.tables e below (T289.setTop (mkF m 9 #[.val (.ref a1)] [(.ref la289), (.ref a1)])) _
    refine st290.trans ?_
    show Steps p.tables e below (T290.setTop (mkF m 12 #[.val (.ref a1)] [(.int (0 : Int32))])) _
    refine XS.ifYes X290.here hx rfl (pc0 := 12) (pc' := 19) rfl (hb hby d8_12) rfl ((if0 _ _).trans (teq (by decide)).1) (by decide) (by decide) ?_
    show Steps p.tables e below (T290.setTop (mkF m 19 #[.val (.ref a1)] [])) _
    refine XS.aloadN X290.here hx rfl (hb hby d8_19) rfl rfl ?_
    show Steps p.tables e below (T290.setTop (mkF m 20 #[.val (.ref a1)] [(.ref a1)])) _
    refine st291 _ ?_
    show Steps p.tables e below (T291.setTop (mkF m 22 #[.val (.ref a1)] [(.ref la291), (.ref a1)])) _
    refine st292.trans ?_
    show Steps p.tables e below (T292.setTop (mkF m 25 #[.val (.ref a1)] [(.int (0 : Int32))])) _
    refine XS.ifYes X292.here hx rfl (pc0 := 25) (pc' := 32) rfl (hb hby d8_25) rfl ((if0 _ _).trans (teq (by decide)).1) (by decide) (by decide) ?_
    show Steps p.tables e below (T292.setTop (mkF m 32 #[.val (.ref a1)] [])) _
    refine XS.aloadN X292.here hx rfl (hb hby d8_32) rfl rfl ?_
    show Steps p.tables e below (T292.setTop (mkF m 33 #[.val (.ref a1)] [(.ref a1)])) _
    refine st293 _ ?_
    show Steps p.tables e below (T293.setTop (mkF m 35 #[.val (.ref a1)] [(.ref la293), (.ref a1)])) _
    refine st294.trans ?_
    show Steps p.tables e below (T294.setTop (mkF m 38 #[.val (.ref a1)] [(.int (1 : Int32))])) _
    refine XS.ifNo X294.here hx rfl (hb hby d8_38) rfl ((if0 _ _).trans (feq (by decide)).1) ?_
    show Steps p.tables e below (T294.setTop (mkF m 41 #[.val (.ref a1)] [])) _
    refine st295 _ ?_
    show Steps p.tables e below (T295.setTop (mkF m 44 #[.val (.ref a1)] [(.ref kD)])) _
    exact retOut X295 hx Bd.returns rfl (Or.inr (Or.inr (Or.inr (Or.inr ⟨rfl, rfl, rfl⟩)))) (hb hby d8_44) hr
  · show QXD Z a1 cs zc kD h0 n0 _ T295.heap _
    rw [e295]
    exact ⟨rfl, N294, Kp⟩
def QX0 (Z : State) (a1 : Addr) (cs : List Int32) (zc : Int32) (h0 : Heap) (n0 : Nat) (v : Option Value) (h : Heap) (L : List Loc) : Prop := v = some .null ∧ Fr n0 L ∧ (Keep h0 h [])
theorem ef_X0 (m : MethodId) (a1 : Addr) : entryFrame m #[(.ref a1)] 1 = mkF m 0 #[.val (.ref a1)] [] := by first | (simp [entryFrame, mkF, argsToLocals, Value.category]; done) | rfl
set_option maxRecDepth 65536 in
set_option maxHeartbeats 40000000 in
theorem rmX0 (l : Launch) (Z : State) (a0 : Array Value) (hw : ∀ d ∈ tables_1, d.before a0 Z = true) (ws : List Jvm.Cond) (a1 : Addr) (cs : List Int32) (zc : Int32) (h0 : Heap) (n0 : Nat) (Zs : n0 ≤ h0.size) (E_a1 : Exa Z h0 a1 "java/lang/String") (T_a1 : Stx Z h0 a1 cs) (Ol : Old Z n0 h0) (S_COMPACT_STRINGS : Sta Z Z.heap "java/lang/String" "COMPACT_STRINGS" "Z" (.int zc)) (hzc : ¬ zc = 0) (hN : ¬ cs = [(110 : Int32), (111 : Int32), (116 : Int32), (105 : Int32), (102 : Int32), (105 : Int32), (99 : Int32), (97 : Int32), (116 : Int32), (105 : Int32), (111 : Int32), (110 : Int32)]) (hS : ¬ cs = [(115 : Int32), (110 : Int32), (97 : Int32), (112 : Int32), (115 : Int32), (104 : Int32), (111 : Int32), (116 : Int32)]) (hD : ¬ cs = [(100 : Int32), (101 : Int32), (108 : Int32), (116 : Int32), (97 : Int32)]) :
    MetFree l (⟨"com/example/verschil/verschil/rrdp/FileKindOfRootPinLaw", "expected", "(Ljava/lang/String;)Lcom/example/verschil/verschil/rrdp/FileKind;"⟩ : MethodName) (head1 (Jvm.Cond.code (⟨"com/example/verschil/verschil/rrdp/FileKindOfRootPinLaw", "expected", "(Ljava/lang/String;)Lcom/example/verschil/verschil/rrdp/FileKind;"⟩ : MethodName) method_4_code 1 (some (.object "com/example/verschil/verschil/rrdp/FileKind")) :: ws) ({ frames := 2, cells := 6, slots := 112, locals := 28 } : Room)) (fun a U => a = #[(.ref a1)] ∧ Z.Warmed39 U.vm ∧ U.heap = h0 ∧ CHv Z ELs U.vm h0) (fun _ _ _ _ _ => True) (fun _ U o U' => ∃ v L, o = .returned v ∧ QX0 Z a1 cs zc h0 n0 v U'.heap L ∧ CHr Z ELs U.vm U.heap U'.vm U'.heap ∧ ReturnedEndW U o U' L ({ frames := 2, cells := 6, slots := 112, locals := 28 } : Room).cells ({ frames := 2, cells := 6, slots := 112, locals := 28 } : Room).slots) := by
  refine MetFree.of_bodySF (plainFor_of_name pn_1) hisR ?_
  intro p e s m args below meth c s₁ Bd hml0 hP hK
  obtain ⟨rfl, hZ, hh, hCH⟩ := hP
  have hx := Bd.exec
  have hby := Bd.bytes
  have hml : c.maxLocals = 1 := hml0
  have hown : s.vm.findClass "com/example/verschil/verschil/rrdp/FileKindOfRootPinLaw" = some m.cls := findClass_of_methodNamed Bd.named
  have hnm := (name_of_methodNamed Bd.named Bd.method).1
  have X0 : Stand p l e ({ frames := 2, cells := 6, slots := 112, locals := 28 } : Room) s m #[(.ref a1)] below meth c s₁ [] 0 0 := Stand.of_body Bd
  have e0 : s₁.heap = h0 := by rw [← hh, Bd.state]; rfl
  have N0 := Fr.nil n0
  have pre0 : ∀ t, Steps p.tables e below (s₁.setTop (mkF m 0 #[.val (.ref a1)] [])) t → Steps p.tables e below (s₁.setTop (entryFrame m #[(.ref a1)] 1)) t := fun t k => castTop (ef_X0 m a1) k
  have hEL := own_EL hw
  have hStr := own_str hw
  have Hc : CHr Z ELs s.vm h0 s.vm h0 := CHr.refl hCH
  have Kp : Keep h0 h0 [] := Keep.refl h0 []
  obtain ⟨la296, T296, h296, k296, lb296, kb296, X296, e296, E296, hS296, hk296, hZ, hown, Ea296, C296, V296, K296, -, -, R296, -, Dn296, st296⟩ := ldcCH X0 hx hZ hown (hw _ (List.mem_of_getElem? (i := 38) rfl)) hStr e0 ((State.WarmedH.refl s).since 0) (Nat.zero_le _) hEL (by decide) Hc.1 (text := "notification") (vs := ((([(110 : Int32), (111 : Int32), (116 : Int32), (105 : Int32), (102 : Int32), (105 : Int32), (99 : Int32), (97 : Int32), (116 : Int32), (105 : Int32), (111 : Int32), (110 : Int32)] : List Int32).map (fun c => c.toInt8.toInt32)).map Value.int)) (z := (12 : Int32)) (by decide +kernel) (by decide) rfl (g := (mkF m 7 #[.val (.ref a1)] [(.ref a1)])) rfl (hb hby d8_7) (n := 48) (by decide) (by decide) (by decide) (by decide)
  have Hc : CHr Z ELs s.vm h0 T296.vm h296 := Hc.trans R296
  have Zs : n0 ≤ h296.size := Nat.le_trans Zs E296.1
  have E_a1 : Exa Z h296 a1 "java/lang/String" := E_a1.ext E296
  have T_a1 : Stx Z h296 a1 cs := T_a1.ext E296
  have Ol : Old Z n0 h296 := Ol.ext E296
  have Kp : Keep h0 h296 [] := Kp.ext E296
  have hkc : k296 ≤ h296.size := hk296
  have E_la296 : Exa Z h296 la296 "java/lang/String" := Ea296
  have T_la296 : Stx Z h296 la296 [(110 : Int32), (111 : Int32), (116 : Int32), (105 : Int32), (102 : Int32), (105 : Int32), (99 : Int32), (97 : Int32), (116 : Int32), (105 : Int32), (111 : Int32), (110 : Int32)] := ⟨lb296, kb296, Ea296, V296, C296, K296, by decide, by decide⟩
  obtain ⟨cq297, kq297, q297a, q297b, q297c⟩ := isOf hZ e296 E_a1
  obtain ⟨_, _, ⟨T297, L297, k297, n297⟩, -, X297, ⟨Lc297, hQ297, l297, y297, z297⟩, st297⟩ := X296.virtualBack hx (y := (⟨"java/lang/String", "equals", "(Ljava/lang/Object;)Z"⟩ : MethodName)) (z := (⟨"java/lang/String", "equals", "(Ljava/lang/Object;)Z"⟩ : MethodName)) hown (mvT hZ (hw _ (List.mem_of_getElem? (i := 41) rfl))) (mvT hZ (hw _ (List.mem_of_getElem? (i := 42) rfl))) (notFace_of_selects (args := #[]) (mvT hZ (hw _ (List.mem_of_getElem? (i := 44) rfl)))) (mvT hZ (hw _ (List.mem_of_getElem? (i := 44) rfl))) (mvT hZ (hw _ (List.mem_of_getElem? (i := 43) rfl))) (by decide) (own_eqF (W := 0) hZ hw T_a1 T_la296 (Sta.ext Ol.2 S_COMPACT_STRINGS) hzc hN (by decide) (by decide)) q297a q297c (g := (mkF m 9 #[.val (.ref a1)] [(.ref la296), (.ref a1)])) rfl (by rw [hml]; rfl) (Steps.refl _) (argsL := [(.ref la296)]) (rest := []) (lenOf pd_2 rfl) rfl (by show 2 * 0 + _ ≤ _; exact Nat.le_of_eq rfl) (hb hby d8_9) (fun _ _ => ⟨rfl, e296, (by decide : 2 + 0 ≤ _), (by decide : 52 + 0 ≤ _)⟩)
  dsimp only [Pt.U, Pt.locs, Pt.cells, Pt.slots] at X297 l297 y297 z297 st297 hQ297
  subst l297 y297 z297
  obtain ⟨rfl, rfl, e297⟩ := hQ297
  have N297 := Fr.app N0 (Fr.nil n0)
  obtain ⟨la298, T298, h298, k298, lb298, kb298, X298, e298, E298, hS298, hk298, hZ, hown, Ea298, C298, V298, K298, -, -, R298, -, Dn298, st298⟩ := ldcCH X297 hx hZ hown (hw _ (List.mem_of_getElem? (i := 77) rfl)) hStr e297 hS296 hkc hEL (by decide) Hc.1 (text := "snapshot") (vs := ((([(115 : Int32), (110 : Int32), (97 : Int32), (112 : Int32), (115 : Int32), (104 : Int32), (111 : Int32), (116 : Int32)] : List Int32).map (fun c => c.toInt8.toInt32)).map Value.int)) (z := (8 : Int32)) (by decide +kernel) (by decide) rfl (g := (mkF m 20 #[.val (.ref a1)] [(.ref a1)])) rfl (hb hby d8_20) (n := 32) (by decide) (by decide) (by decide) (by decide)
  have hkc : k296 ≤ h298.size := Nat.le_trans hkc E298.1
  have Hc : CHr Z ELs s.vm h0 T298.vm h298 := Hc.trans R298
  have Zs : n0 ≤ h298.size := Nat.le_trans Zs E298.1
  have E_a1 : Exa Z h298 a1 "java/lang/String" := E_a1.ext E298
  have T_a1 : Stx Z h298 a1 cs := T_a1.ext E298
  have Ol : Old Z n0 h298 := Ol.ext E298
  have Kp : Keep h0 h298 [] := Kp.ext E298
  have E_la296 : Exa Z h298 la296 "java/lang/String" := E_la296.ext E298
  have T_la296 : Stx Z h298 la296 [(110 : Int32), (111 : Int32), (116 : Int32), (105 : Int32), (102 : Int32), (105 : Int32), (99 : Int32), (97 : Int32), (116 : Int32), (105 : Int32), (111 : Int32), (110 : Int32)] := T_la296.ext E298
  have hkc : k298 ≤ h298.size := hk298
  have E_la298 : Exa Z h298 la298 "java/lang/String" := Ea298
  have T_la298 : Stx Z h298 la298 [(115 : Int32), (110 : Int32), (97 : Int32), (112 : Int32), (115 : Int32), (104 : Int32), (111 : Int32), (116 : Int32)] := ⟨lb298, kb298, Ea298, V298, C298, K298, by decide, by decide⟩
  obtain ⟨cq299, kq299, q299a, q299b, q299c⟩ := isOf hZ e298 E_a1
  obtain ⟨_, _, ⟨T299, L299, k299, n299⟩, -, X299, ⟨Lc299, hQ299, l299, y299, z299⟩, st299⟩ := X298.virtualBack hx (y := (⟨"java/lang/String", "equals", "(Ljava/lang/Object;)Z"⟩ : MethodName)) (z := (⟨"java/lang/String", "equals", "(Ljava/lang/Object;)Z"⟩ : MethodName)) hown (mvT hZ (hw _ (List.mem_of_getElem? (i := 41) rfl))) (mvT hZ (hw _ (List.mem_of_getElem? (i := 42) rfl))) (notFace_of_selects (args := #[]) (mvT hZ (hw _ (List.mem_of_getElem? (i := 44) rfl)))) (mvT hZ (hw _ (List.mem_of_getElem? (i := 44) rfl))) (mvT hZ (hw _ (List.mem_of_getElem? (i := 43) rfl))) (by decide) (own_eqF (W := 0) hZ hw T_a1 T_la298 (Sta.ext Ol.2 S_COMPACT_STRINGS) hzc hS (by decide) (by decide)) q299a q299c (g := (mkF m 22 #[.val (.ref a1)] [(.ref la298), (.ref a1)])) rfl (by rw [hml]; rfl) (Steps.refl _) (argsL := [(.ref la298)]) (rest := []) (lenOf pd_2 rfl) rfl (by show 2 * 0 + _ ≤ _; exact Nat.le_of_eq rfl) (hb hby d8_22) (fun _ _ => ⟨rfl, e298, (by decide : 4 + 0 ≤ _), (by decide : 88 + 0 ≤ _)⟩)
  dsimp only [Pt.U, Pt.locs, Pt.cells, Pt.slots] at X299 l299 y299 z299 st299 hQ299
  subst l299 y299 z299
  obtain ⟨rfl, rfl, e299⟩ := hQ299
  have N299 := Fr.app N297 (Fr.nil n0)
  obtain ⟨la300, T300, h300, k300, lb300, kb300, X300, e300, E300, hS300, hk300, hZ, hown, Ea300, C300, V300, K300, -, -, R300, -, Dn300, st300⟩ := ldcCH X299 hx hZ hown (hw _ (List.mem_of_getElem? (i := 78) rfl)) hStr e299 hS298 hkc hEL (by decide) Hc.1 (text := "delta") (vs := ((([(100 : Int32), (101 : Int32), (108 : Int32), (116 : Int32), (97 : Int32)] : List Int32).map (fun c => c.toInt8.toInt32)).map Value.int)) (z := (5 : Int32)) (by decide +kernel) (by decide) rfl (g := (mkF m 33 #[.val (.ref a1)] [(.ref a1)])) rfl (hb hby d8_33) (n := 20) (by decide) (by decide) (by decide) (by decide)
  have hkc : k298 ≤ h300.size := Nat.le_trans hkc E300.1
  have Hc : CHr Z ELs s.vm h0 T300.vm h300 := Hc.trans R300
  have Zs : n0 ≤ h300.size := Nat.le_trans Zs E300.1
  have E_a1 : Exa Z h300 a1 "java/lang/String" := E_a1.ext E300
  have T_a1 : Stx Z h300 a1 cs := T_a1.ext E300
  have Ol : Old Z n0 h300 := Ol.ext E300
  have Kp : Keep h0 h300 [] := Kp.ext E300
  have E_la296 : Exa Z h300 la296 "java/lang/String" := E_la296.ext E300
  have T_la296 : Stx Z h300 la296 [(110 : Int32), (111 : Int32), (116 : Int32), (105 : Int32), (102 : Int32), (105 : Int32), (99 : Int32), (97 : Int32), (116 : Int32), (105 : Int32), (111 : Int32), (110 : Int32)] := T_la296.ext E300
  have E_la298 : Exa Z h300 la298 "java/lang/String" := E_la298.ext E300
  have T_la298 : Stx Z h300 la298 [(115 : Int32), (110 : Int32), (97 : Int32), (112 : Int32), (115 : Int32), (104 : Int32), (111 : Int32), (116 : Int32)] := T_la298.ext E300
  have hkc : k300 ≤ h300.size := hk300
  have E_la300 : Exa Z h300 la300 "java/lang/String" := Ea300
  have T_la300 : Stx Z h300 la300 [(100 : Int32), (101 : Int32), (108 : Int32), (116 : Int32), (97 : Int32)] := ⟨lb300, kb300, Ea300, V300, C300, K300, by decide, by decide⟩
  obtain ⟨cq301, kq301, q301a, q301b, q301c⟩ := isOf hZ e300 E_a1
  obtain ⟨_, _, ⟨T301, L301, k301, n301⟩, -, X301, ⟨Lc301, hQ301, l301, y301, z301⟩, st301⟩ := X300.virtualBack hx (y := (⟨"java/lang/String", "equals", "(Ljava/lang/Object;)Z"⟩ : MethodName)) (z := (⟨"java/lang/String", "equals", "(Ljava/lang/Object;)Z"⟩ : MethodName)) hown (mvT hZ (hw _ (List.mem_of_getElem? (i := 41) rfl))) (mvT hZ (hw _ (List.mem_of_getElem? (i := 42) rfl))) (notFace_of_selects (args := #[]) (mvT hZ (hw _ (List.mem_of_getElem? (i := 44) rfl)))) (mvT hZ (hw _ (List.mem_of_getElem? (i := 44) rfl))) (mvT hZ (hw _ (List.mem_of_getElem? (i := 43) rfl))) (by decide) (own_eqF (W := 0) hZ hw T_a1 T_la300 (Sta.ext Ol.2 S_COMPACT_STRINGS) hzc hD (by decide) (by decide)) q301a q301c (g := (mkF m 35 #[.val (.ref a1)] [(.ref la300), (.ref a1)])) rfl (by rw [hml]; rfl) (Steps.refl _) (argsL := [(.ref la300)]) (rest := []) (lenOf pd_2 rfl) rfl (by show 2 * 0 + _ ≤ _; exact Nat.le_of_eq rfl) (hb hby d8_35) (fun _ _ => ⟨rfl, e300, (by decide : 6 + 0 ≤ _), (by decide : 112 + 0 ≤ _)⟩)
  dsimp only [Pt.U, Pt.locs, Pt.cells, Pt.slots] at X301 l301 y301 z301 st301 hQ301
  subst l301 y301 z301
  obtain ⟨rfl, rfl, e301⟩ := hQ301
  have N301 := Fr.app N299 (Fr.nil n0)
  obtain ⟨fs, hr, hrun, hended, hRW⟩ := X301.leaveW (s := s) (vm₁ := T300.vm) hS300 (by rw [e301]; exact hkc) (v := some .null) (fun h => by rw [Bd.returns] at h; cases h)
  have hCR : CHr Z ELs s.vm h0 T301.vm h300 := Hc.trans (CHv.at X301 hZ hEL Hc.1)
  refine ⟨_, _, pre0 _ ?_, hrun, hended, _, _, rfl, ?_, (by rw [hh]; show CHr Z ELs s.vm h0 T301.vm T301.heap; rw [e301]; exact hCR), ⟨hRW.1, hRW.2.1, hRW.2.2.1, hRW.2.2.2.mono (by decide) (by decide)⟩⟩
  · show Steps p.tables e below (s₁.setTop (mkF m 0 #[.val (.ref a1)] [])) _
    refine XS.aloadN X0.here hx rfl (hb hby d8_0) rfl rfl ?_
    show Steps p.tables e below (s₁.setTop (mkF m 1 #[.val (.ref a1)] [(.ref a1)])) _
    refine XS.ifnonnullYes X0.here hx rfl (pc0 := 1) (pc' := 6) rfl (hb hby d8_1) rfl (by decide) (by decide) ?_
    show Steps p.tables e below (s₁.setTop (mkF m 6 #[.val (.ref a1)] [])) _
    refine XS.aloadN X0.here hx rfl (hb hby d8_6) rfl rfl ?_
    show Steps p.tables e below (s₁.setTop (mkF m 7 #[.val (.ref a1)] [(.ref a1)])) _
    refine st296 _ ?_
    show Steps p.tables e below (T296.setTop (mkF m 9 #[.val (.ref a1)] [(.ref la296), (.ref a1)])) _
    refine st297.trans ?_
    show Steps p.tables e below (T297.setTop (mkF m 12 #[.val (.ref a1)] [(.int (0 : Int32))])) _
    refine XS.ifYes X297.here hx rfl (pc0 := 12) (pc' := 19) rfl (hb hby d8_12) rfl ((if0 _ _).trans (teq (by decide)).1) (by decide) (by decide) ?_
    show Steps p.tables e below (T297.setTop (mkF m 19 #[.val (.ref a1)] [])) _
    refine XS.aloadN X297.here hx rfl (hb hby d8_19) rfl rfl ?_
    show Steps p.tables e below (T297.setTop (mkF m 20 #[.val (.ref a1)] [(.ref a1)])) _
    refine st298 _ ?_
    show Steps p.tables e below (T298.setTop (mkF m 22 #[.val (.ref a1)] [(.ref la298), (.ref a1)])) _
    refine st299.trans ?_
    show Steps p.tables e below (T299.setTop (mkF m 25 #[.val (.ref a1)] [(.int (0 : Int32))])) _
    refine XS.ifYes X299.here hx rfl (pc0 := 25) (pc' := 32) rfl (hb hby d8_25) rfl ((if0 _ _).trans (teq (by decide)).1) (by decide) (by decide) ?_
    show Steps p.tables e below (T299.setTop (mkF m 32 #[.val (.ref a1)] [])) _
    refine XS.aloadN X299.here hx rfl (hb hby d8_32) rfl rfl ?_
    show Steps p.tables e below (T299.setTop (mkF m 33 #[.val (.ref a1)] [(.ref a1)])) _
    refine st300 _ ?_
    show Steps p.tables e below (T300.setTop (mkF m 35 #[.val (.ref a1)] [(.ref la300), (.ref a1)])) _
    refine st301.trans ?_
    show Steps p.tables e below (T301.setTop (mkF m 38 #[.val (.ref a1)] [(.int (0 : Int32))])) _
    refine XS.ifYes X301.here hx rfl (pc0 := 38) (pc' := 45) rfl (hb hby d8_38) rfl ((if0 _ _).trans (teq (by decide)).1) (by decide) (by decide) ?_
    show Steps p.tables e below (T301.setTop (mkF m 45 #[.val (.ref a1)] [])) _
    refine XS.aconstNull X301.here hx rfl (hb hby d8_45) ?_
    show Steps p.tables e below (T301.setTop (mkF m 46 #[.val (.ref a1)] [.null])) _
    exact retOut X301 hx Bd.returns rfl (Or.inr (Or.inr (Or.inr (Or.inr ⟨rfl, rfl, rfl⟩)))) (hb hby d8_46) hr
  · show QX0 Z a1 cs zc h0 n0 _ T301.heap _
    rw [e301]
    exact ⟨rfl, N301, Kp⟩
def QXn (Z : State)  (h0 : Heap) (n0 : Nat) (v : Option Value) (h : Heap) (L : List Loc) : Prop := v = some .null ∧ Fr n0 L ∧ h = h0
theorem ef_Xn (m : MethodId)  : entryFrame m #[.null] 1 = mkF m 0 #[.val .null] [] := by first | (simp [entryFrame, mkF, argsToLocals, Value.category]; done) | rfl
set_option maxRecDepth 65536 in
set_option maxHeartbeats 40000000 in
theorem rmXn (l : Launch) (Z : State) (a0 : Array Value) (hw : ∀ d ∈ tables_1, d.before a0 Z = true) (ws : List Jvm.Cond)  (h0 : Heap) (n0 : Nat) (Zs : n0 ≤ h0.size)  :
    MetFree l (⟨"com/example/verschil/verschil/rrdp/FileKindOfRootPinLaw", "expected", "(Ljava/lang/String;)Lcom/example/verschil/verschil/rrdp/FileKind;"⟩ : MethodName) (head1 (Jvm.Cond.code (⟨"com/example/verschil/verschil/rrdp/FileKindOfRootPinLaw", "expected", "(Ljava/lang/String;)Lcom/example/verschil/verschil/rrdp/FileKind;"⟩ : MethodName) method_4_code 1 (some (.object "com/example/verschil/verschil/rrdp/FileKind")) :: ws) ({ frames := 0, cells := 0, slots := 0, locals := 0 } : Room)) (fun a U => a = #[.null] ∧ Z.Warmed39 U.vm ∧ U.heap = h0) (fun _ _ _ _ _ => True) (fun _ U o U' => ∃ v L, o = .returned v ∧ QXn Z  h0 n0 v U'.heap L ∧ FrameEnd U o U' L ({ frames := 0, cells := 0, slots := 0, locals := 0 } : Room).cells ({ frames := 0, cells := 0, slots := 0, locals := 0 } : Room).slots) := by
  refine MetFree.of_bodySF (plainFor_of_name pn_1) hisR ?_
  intro p e s m args below meth c s₁ Bd hml0 hP hK
  obtain ⟨rfl, hZ, hh⟩ := hP
  have hx := Bd.exec
  have hby := Bd.bytes
  have hml : c.maxLocals = 1 := hml0
  have hown : s.vm.findClass "com/example/verschil/verschil/rrdp/FileKindOfRootPinLaw" = some m.cls := findClass_of_methodNamed Bd.named
  have hnm := (name_of_methodNamed Bd.named Bd.method).1
  have X0 : Stand p l e ({ frames := 0, cells := 0, slots := 0, locals := 0 } : Room) s m #[.null] below meth c s₁ [] 0 0 := Stand.of_body Bd
  have e0 : s₁.heap = h0 := by rw [← hh, Bd.state]; rfl
  have N0 := Fr.nil n0
  have pre0 : ∀ t, Steps p.tables e below (s₁.setTop (mkF m 0 #[.val .null] [])) t → Steps p.tables e below (s₁.setTop (entryFrame m #[.null] 1)) t := fun t k => castTop (ef_Xn m ) k
  obtain ⟨fs, hr, hrun, hended, hW, hsame⟩ := X0.leave (v := some .null) (fun h => by rw [Bd.returns] at h; cases h)
  refine ⟨_, _, pre0 _ ?_, hrun, hended, _, _, rfl, ?_, ⟨_, rfl⟩, hW, hsame.mono (by decide) (by decide)⟩
  · show Steps p.tables e below (s₁.setTop (mkF m 0 #[.val .null] [])) _
    refine XS.aloadN X0.here hx rfl (hb hby d8_0) rfl rfl ?_
    show Steps p.tables e below (s₁.setTop (mkF m 1 #[.val .null] [.null])) _
    refine XS.ifnonnullNo X0.here hx rfl (hb hby d8_1) rfl ?_
    show Steps p.tables e below (s₁.setTop (mkF m 4 #[.val .null] [])) _
    refine XS.aconstNull X0.here hx rfl (hb hby d8_4) ?_
    show Steps p.tables e below (s₁.setTop (mkF m 5 #[.val .null] [.null])) _
    exact retOut X0 hx Bd.returns rfl (Or.inr (Or.inr (Or.inr (Or.inr ⟨rfl, rfl, rfl⟩)))) (hb hby d8_5) hr
  · show QXn Z  h0 n0 _ s₁.heap _
    rw [e0]
    exact ⟨rfl, N0, rfl⟩
def QVL (Z : State) (va : Addr) (kv : ClassId) (fv : Nat → Value) (kN : Addr) (kS : Addr) (kD : Addr) (h0 : Heap) (n0 : Nat) (v : Option Value) (h : Heap) (L : List Loc) : Prop := ∃ b : Addr, v = some (.ref b) ∧ Fr n0 L ∧ (Keep h0 h []) ∧ (h0.size ≤ b) ∧ (ArR Z h b kv "com/example/verschil/verschil/rrdp/FileKind" (3 : Int32) fv) ∧ (Exa Z h b "[Lcom/example/verschil/verschil/rrdp/FileKind;")
theorem ef_VL (m : MethodId)  : entryFrame m #[] 0 = mkF m 0 #[] [] := by first | (simp [entryFrame, mkF, argsToLocals, Value.category]; done) | rfl
set_option maxRecDepth 65536 in
set_option maxHeartbeats 40000000 in
theorem rmVL (l : Launch) (Z : State) (a0 : Array Value) (hw : ∀ d ∈ tables_1, d.before a0 Z = true) (ws : List Jvm.Cond) (va : Addr) (kv : ClassId) (fv : Nat → Value) (kN : Addr) (kS : Addr) (kD : Addr) (h0 : Heap) (n0 : Nat) (Zs : n0 ≤ h0.size) (Ol : Old Z n0 h0) (S__VALUES : Sta Z Z.heap "com/example/verschil/verschil/rrdp/FileKind" "$VALUES" "[Lcom/example/verschil/verschil/rrdp/FileKind;" (.ref va)) (E_va : Exa Z Z.heap va "[Lcom/example/verschil/verschil/rrdp/FileKind;") (A_va : ArR Z Z.heap va kv "com/example/verschil/verschil/rrdp/FileKind" (3 : Int32) fv) (hv0 : fv (0 : Int32).toNatClampNeg = .ref kN) (hv1 : fv (1 : Int32).toNatClampNeg = .ref kS) (hv2 : fv (2 : Int32).toNatClampNeg = .ref kD) :
    MetFree l (⟨"com/example/verschil/verschil/rrdp/FileKind", "values", "()[Lcom/example/verschil/verschil/rrdp/FileKind;"⟩ : MethodName) (head1 (Jvm.Cond.code (⟨"com/example/verschil/verschil/rrdp/FileKind", "values", "()[Lcom/example/verschil/verschil/rrdp/FileKind;"⟩ : MethodName) prog_84_method_1_code 0 (some (.array (.object "com/example/verschil/verschil/rrdp/FileKind"))) :: ws) ({ frames := 1, cells := 1, slots := 3, locals := 14 } : Room)) (fun a U => a = #[] ∧ Z.Warmed39 U.vm ∧ U.heap = h0) (fun _ _ _ _ _ => True) (fun _ U o U' => ∃ v L, o = .returned v ∧ QVL Z va kv fv kN kS kD h0 n0 v U'.heap L ∧ FrameEnd U o U' L ({ frames := 1, cells := 1, slots := 3, locals := 14 } : Room).cells ({ frames := 1, cells := 1, slots := 3, locals := 14 } : Room).slots) := by
  refine MetFree.of_bodySF (plainFor_of_name pn_2) hisR ?_
  intro p e s m args below meth c s₁ Bd hml0 hP hK
  obtain ⟨rfl, hZ, hh⟩ := hP
  have hx := Bd.exec
  have hby := Bd.bytes
  have hml : c.maxLocals = 0 := hml0
  have hown : s.vm.findClass "com/example/verschil/verschil/rrdp/FileKind" = some m.cls := findClass_of_methodNamed Bd.named
  have hnm := (name_of_methodNamed Bd.named Bd.method).1
  have X0 : Stand p l e ({ frames := 1, cells := 1, slots := 3, locals := 14 } : Room) s m #[] below meth c s₁ [] 0 0 := Stand.of_body Bd
  have e0 : s₁.heap = h0 := by rw [← hh, Bd.state]; rfl
  have N0 := Fr.nil n0
  have pre0 : ∀ t, Steps p.tables e below (s₁.setTop (mkF m 0 #[] [])) t → Steps p.tables e below (s₁.setTop (entryFrame m #[] 0)) t := fun t k => castTop (ef_VL m ) k
  have Kp : Keep h0 h0 [] := Keep.refl h0 []
  obtain ⟨T302, X302, e302, st302⟩ := getS2 X0 hx hZ hown (host := "") (Or.inl (hw _ (List.mem_of_getElem? (i := 60) rfl))) Via.refl e0 (Sta.ext Ol.2 S__VALUES) (g := (mkF m 0 #[] [])) rfl (hb hby d12_0)
  obtain ⟨cl303, Ar303, fc303, hs303, mk303⟩ := ArR.fit (A_va.ext Ol.2) (own_f3 hv0 hv1 hv2)
  obtain ⟨T304, h304, X304, e304, E304, A304, B304, st304⟩ := cloneA X302 hx hZ hown (hw _ (List.mem_of_getElem? (i := 62) rfl)) (hw _ (List.mem_of_getElem? (i := 63) rfl)) (hw _ (List.mem_of_getElem? (i := 67) rfl)) (hw _ (List.mem_of_getElem? (i := 65) rfl)) (hw _ (List.mem_of_getElem? (i := 66) rfl)) (hw _ (List.mem_of_getElem? (i := 68) rfl)) e302 Ar303 (E_va.ext Ol.2) fc303 (g := (mkF m 3 #[] [(.ref va)])) rfl (by rw [hml]; rfl) rfl (hb hby d12_3) (by decide) (W := 0) (cap := 3) (by show 2 * 0 + _ ≤ _; exact Nat.le_of_eq rfl) (by decide) (by rw [hs303]; decide) (by decide) (by decide)
  obtain ⟨b304, g304⟩ : ∃ z, z = h0.size := ⟨_, rfl⟩
  rw [← g304] at A304 B304 st304
  have g_b304 : n0 ≤ b304 := Nat.le_trans Zs (Nat.le_of_eq g304.symm)
  have sz_b304 : h0.size ≤ b304 := Nat.le_trans Kp.1 (Nat.le_of_eq g304.symm)
  have Zs : n0 ≤ h304.size := Nat.le_trans Zs E304.1
  have Ol : Old Z n0 h304 := Ol.ext E304
  have Kp : Keep h0 h304 [] := Kp.ext E304
  have E_b304 : Exa Z h304 b304 "[Lcom/example/verschil/verschil/rrdp/FileKind;" := B304
  have A_b304 : ArR Z h304 b304 kv "com/example/verschil/verschil/rrdp/FileKind" (3 : Int32) fv := mk303 A304
  obtain ⟨T305, X305, e305, st305⟩ := castY X304 hx hZ hown (hw _ (List.mem_of_getElem? (i := 72) rfl)) e304 (Ins.self E_b304) (g := (mkF m 6 #[] [(.ref b304)])) rfl rfl (hb hby d12_6)
  obtain ⟨fs, hr, hrun, hended, hW, hsame⟩ := X305.leave (v := some (.ref b304)) (fun h => by rw [Bd.returns] at h; cases h)
  refine ⟨_, _, pre0 _ ?_, hrun, hended, _, _, rfl, ?_, ⟨_, rfl⟩, hW, hsame.mono (by decide) (by decide)⟩
  · show Steps p.tables e below (s₁.setTop (mkF m 0 #[] [])) _
    refine st302 _ ?_
    show Steps p.tables e below (T302.setTop (mkF m 3 #[] [(.ref va)])) _
    refine st304 _ ?_
    show Steps p.tables e below (T304.setTop (mkF m 6 #[] [(.ref b304)])) _
    refine st305 _ ?_
    show Steps p.tables e below (T305.setTop (mkF m 9 #[] [(.ref b304)])) _
    exact retOut X305 hx Bd.returns rfl (Or.inr (Or.inr (Or.inr (Or.inr ⟨rfl, rfl, rfl⟩)))) (hb hby d12_9) hr
  · show QVL Z va kv fv kN kS kD h0 n0 _ T305.heap _
    rw [e305]
    exact ⟨b304, rfl, N0, Kp, sz_b304, A_b304, E_b304⟩
def QEQ0 (Z : State) (a1 : Addr) (h0 : Heap) (n0 : Nat) (v : Option Value) (h : Heap) (L : List Loc) : Prop := v = some (.int (0 : Int32)) ∧ Fr n0 L ∧ h = h0
theorem ef_EQ0 (m : MethodId) (a1 : Addr) : entryFrame m #[(.ref a1), .null] 3 = mkF m 0 #[.val (.ref a1), .val .null, .unset] [] := by first | (simp [entryFrame, mkF, argsToLocals, Value.category]; done) | rfl
set_option maxRecDepth 65536 in
set_option maxHeartbeats 40000000 in
theorem rmEQ0 (l : Launch) (Z : State) (a0 : Array Value) (hw : ∀ d ∈ tables_1, d.before a0 Z = true) (ws : List Jvm.Cond) (a1 : Addr) (h0 : Heap) (n0 : Nat) (Zs : n0 ≤ h0.size)  :
    MetFree l (⟨"java/lang/String", "equals", "(Ljava/lang/Object;)Z"⟩ : MethodName) (head1 (Jvm.Cond.code (⟨"java/lang/String", "equals", "(Ljava/lang/Object;)Z"⟩ : MethodName) jdk_42_method_66_code 3 (some .boolean) :: ws) ({ frames := 0, cells := 0, slots := 0, locals := 0 } : Room)) (fun a U => a = #[(.ref a1), .null] ∧ Z.Warmed39 U.vm ∧ U.heap = h0) (fun _ _ _ _ _ => True) (fun _ U o U' => ∃ v L, o = .returned v ∧ QEQ0 Z a1 h0 n0 v U'.heap L ∧ FrameEnd U o U' L ({ frames := 0, cells := 0, slots := 0, locals := 0 } : Room).cells ({ frames := 0, cells := 0, slots := 0, locals := 0 } : Room).slots) := by
  refine MetFree.of_bodySF (plainFor_of_name pn_0) hisR ?_
  intro p e s m args below meth c s₁ Bd hml0 hP hK
  obtain ⟨rfl, hZ, hh⟩ := hP
  have hx := Bd.exec
  have hby := Bd.bytes
  have hml : c.maxLocals = 3 := hml0
  have hown : s.vm.findClass "java/lang/String" = some m.cls := findClass_of_methodNamed Bd.named
  have hnm := (name_of_methodNamed Bd.named Bd.method).1
  have X0 : Stand p l e ({ frames := 0, cells := 0, slots := 0, locals := 0 } : Room) s m #[(.ref a1), .null] below meth c s₁ [] 0 0 := Stand.of_body Bd
  have e0 : s₁.heap = h0 := by rw [← hh, Bd.state]; rfl
  have N0 := Fr.nil n0
  have pre0 : ∀ t, Steps p.tables e below (s₁.setTop (mkF m 0 #[.val (.ref a1), .val .null, .unset] [])) t → Steps p.tables e below (s₁.setTop (entryFrame m #[(.ref a1), .null] 3)) t := fun t k => castTop (ef_EQ0 m a1) k
  obtain ⟨fs, hr, hrun, hended, hW, hsame⟩ := X0.leave (v := some (.int (0 : Int32))) (fun h => by rw [Bd.returns] at h; cases h)
  refine ⟨_, _, pre0 _ ?_, hrun, hended, _, _, rfl, ?_, ⟨_, rfl⟩, hW, hsame.mono (by decide) (by decide)⟩
  · show Steps p.tables e below (s₁.setTop (mkF m 0 #[.val (.ref a1), .val .null, .unset] [])) _
    refine XS.aloadN X0.here hx rfl (hb hby d9_0) rfl rfl ?_
    show Steps p.tables e below (s₁.setTop (mkF m 1 #[.val (.ref a1), .val .null, .unset] [(.ref a1)])) _
    refine XS.aloadN X0.here hx rfl (hb hby d9_1) rfl rfl ?_
    show Steps p.tables e below (s₁.setTop (mkF m 2 #[.val (.ref a1), .val .null, .unset] [.null, (.ref a1)])) _
    refine Jvm.RoadKit.acmp (g := (mkF m 2 #[.val (.ref a1), .val .null, .unset] [.null, (.ref a1)])) X0 hx rfl rfl rfl (pc0 := 2) (pc' := 7) (same := false) rfl (hb hby d9_2) rfl (decide_eq_false nofun) (by decide) (by decide) ?_
    show Steps p.tables e below (s₁.setTop (mkF m 7 #[.val (.ref a1), .val .null, .unset] [])) _
    refine XS.aloadN X0.here hx rfl (hb hby d9_7) rfl rfl ?_
    show Steps p.tables e below (s₁.setTop (mkF m 8 #[.val (.ref a1), .val .null, .unset] [.null])) _
    refine X0.instanceofNull hx (g := (mkF m 8 #[.val (.ref a1), .val .null, .unset] [.null])) rfl rfl (hb hby d9_8) _ ?_
    show Steps p.tables e below (s₁.setTop (mkF m 11 #[.val (.ref a1), .val .null, .unset] [(.int (0 : Int32))])) _
    refine XS.ifYes X0.here hx rfl (pc0 := 11) (pc' := 54) rfl (hb hby d9_11) rfl ((if0 _ _).trans (teq rfl).1) (by decide) (by decide) ?_
    show Steps p.tables e below (s₁.setTop (mkF m 54 #[.val (.ref a1), .val .null, .unset] [])) _
    refine XS.iconst X0.here hx rfl (hb hby d9_54) ?_
    show Steps p.tables e below (s₁.setTop (mkF m 55 #[.val (.ref a1), .val .null, .unset] [(.int (0 : Int32))])) _
    exact retN X0 hx (t := .boolean) Bd.returns (by simp) (hb hby d9_55) hr
  · show QEQ0 Z a1 h0 n0 _ s₁.heap _
    rw [e0]
    exact ⟨rfl, N0, rfl⟩
def QON (Z : State) (a1 : Addr) (cs : List Int32) (zc : Int32) (va : Addr) (kv : ClassId) (fv : Nat → Value) (kN : Addr) (kS : Addr) (kD : Addr) (rN : Addr) (rS : Addr) (rD : Addr) (h0 : Heap) (n0 : Nat) (v : Option Value) (h : Heap) (L : List Loc) : Prop := v = some (.ref kN) ∧ Fr n0 L ∧ (Keep h0 h [])
theorem ef_ON (m : MethodId) (a1 : Addr) : entryFrame m #[(.ref a1)] 5 = mkF m 0 #[.val (.ref a1), .unset, .unset, .unset, .unset] [] := by first | (simp [entryFrame, mkF, argsToLocals, Value.category]; done) | rfl
set_option maxRecDepth 65536 in
set_option maxHeartbeats 40000000 in
theorem rmON (l : Launch) (Z : State) (a0 : Array Value) (hw : ∀ d ∈ tables_1, d.before a0 Z = true) (ws : List Jvm.Cond) (a1 : Addr) (cs : List Int32) (zc : Int32) (va : Addr) (kv : ClassId) (fv : Nat → Value) (kN : Addr) (kS : Addr) (kD : Addr) (rN : Addr) (rS : Addr) (rD : Addr) (h0 : Heap) (n0 : Nat) (Zs : n0 ≤ h0.size) (E_a1 : Exa Z h0 a1 "java/lang/String") (T_a1 : Stx Z h0 a1 cs) (Ol : Old Z n0 h0) (S_COMPACT_STRINGS : Sta Z Z.heap "java/lang/String" "COMPACT_STRINGS" "Z" (.int zc)) (hzc : ¬ zc = 0) (S__VALUES : Sta Z Z.heap "com/example/verschil/verschil/rrdp/FileKind" "$VALUES" "[Lcom/example/verschil/verschil/rrdp/FileKind;" (.ref va)) (E_va : Exa Z Z.heap va "[Lcom/example/verschil/verschil/rrdp/FileKind;") (A_va : ArR Z Z.heap va kv "com/example/verschil/verschil/rrdp/FileKind" (3 : Int32) fv) (hv0 : fv (0 : Int32).toNatClampNeg = .ref kN) (hv1 : fv (1 : Int32).toNatClampNeg = .ref kS) (hv2 : fv (2 : Int32).toNatClampNeg = .ref kD) (F_root_kN : Fld Z Z.heap kN "com/example/verschil/verschil/rrdp/FileKind" "root" "Ljava/lang/String;" (.ref rN)) (E_rN : Exa Z Z.heap rN "java/lang/String") (T_rN : Stx Z Z.heap rN [(110 : Int32), (111 : Int32), (116 : Int32), (105 : Int32), (102 : Int32), (105 : Int32), (99 : Int32), (97 : Int32), (116 : Int32), (105 : Int32), (111 : Int32), (110 : Int32)]) (F_root_kS : Fld Z Z.heap kS "com/example/verschil/verschil/rrdp/FileKind" "root" "Ljava/lang/String;" (.ref rS)) (E_rS : Exa Z Z.heap rS "java/lang/String") (T_rS : Stx Z Z.heap rS [(115 : Int32), (110 : Int32), (97 : Int32), (112 : Int32), (115 : Int32), (104 : Int32), (111 : Int32), (116 : Int32)]) (F_root_kD : Fld Z Z.heap kD "com/example/verschil/verschil/rrdp/FileKind" "root" "Ljava/lang/String;" (.ref rD)) (E_rD : Exa Z Z.heap rD "java/lang/String") (T_rD : Stx Z Z.heap rD [(100 : Int32), (101 : Int32), (108 : Int32), (116 : Int32), (97 : Int32)]) (hN : cs = [(110 : Int32), (111 : Int32), (116 : Int32), (105 : Int32), (102 : Int32), (105 : Int32), (99 : Int32), (97 : Int32), (116 : Int32), (105 : Int32), (111 : Int32), (110 : Int32)]) :
    MetFree l (⟨"com/example/verschil/verschil/rrdp/FileKind", "ofRoot", "(Ljava/lang/String;)Lcom/example/verschil/verschil/rrdp/FileKind;"⟩ : MethodName) (head1 (Jvm.Cond.code (⟨"com/example/verschil/verschil/rrdp/FileKind", "ofRoot", "(Ljava/lang/String;)Lcom/example/verschil/verschil/rrdp/FileKind;"⟩ : MethodName) prog_84_method_5_code 5 (some (.object "com/example/verschil/verschil/rrdp/FileKind")) :: ws) ({ frames := 2, cells := 1, slots := 3, locals := 28 } : Room)) (fun a U => a = #[(.ref a1)] ∧ Z.Warmed39 U.vm ∧ U.heap = h0) (fun _ _ _ _ _ => True) (fun _ U o U' => ∃ v L, o = .returned v ∧ QON Z a1 cs zc va kv fv kN kS kD rN rS rD h0 n0 v U'.heap L ∧ FrameEnd U o U' L ({ frames := 2, cells := 1, slots := 3, locals := 28 } : Room).cells ({ frames := 2, cells := 1, slots := 3, locals := 28 } : Room).slots) := by
  refine MetFree.of_bodySF (plainFor_of_name pn_2) hisR ?_
  intro p e s m args below meth c s₁ Bd hml0 hP hK
  obtain ⟨rfl, hZ, hh⟩ := hP
  have hx := Bd.exec
  have hby := Bd.bytes
  have hml : c.maxLocals = 5 := hml0
  have hown : s.vm.findClass "com/example/verschil/verschil/rrdp/FileKind" = some m.cls := findClass_of_methodNamed Bd.named
  have hnm := (name_of_methodNamed Bd.named Bd.method).1
  have X0 : Stand p l e ({ frames := 2, cells := 1, slots := 3, locals := 28 } : Room) s m #[(.ref a1)] below meth c s₁ [] 0 0 := Stand.of_body Bd
  have e0 : s₁.heap = h0 := by rw [← hh, Bd.state]; rfl
  have N0 := Fr.nil n0
  have pre0 : ∀ t, Steps p.tables e below (s₁.setTop (mkF m 0 #[.val (.ref a1), .unset, .unset, .unset, .unset] [])) t → Steps p.tables e below (s₁.setTop (entryFrame m #[(.ref a1)] 5)) t := fun t k => castTop (ef_ON m a1) k
  have Kp : Keep h0 h0 [] := Keep.refl h0 []
  obtain ⟨_, _, ⟨T306, L306, k306, n306⟩, -, X306, ⟨Lc306, hQ306, l306, y306, z306⟩, st306⟩ := Jvm.LawKit.callS X0 hx (y := (⟨"com/example/verschil/verschil/rrdp/FileKind", "values", "()[Lcom/example/verschil/verschil/rrdp/FileKind;"⟩ : MethodName)) hown (mvT hZ (hw _ (List.mem_of_getElem? (i := 57) rfl))) (mvT hZ (hw _ (List.mem_of_getElem? (i := 58) rfl))) (mvT hZ (hw _ (List.mem_of_getElem? (i := 52) rfl))) (mvT hZ (hw _ (List.mem_of_getElem? (i := 59) rfl))) (by decide) (backOf (W := 0) (rmVL l Z a0 hw [] va kv fv kN kS kD h0 n0 Zs Ol S__VALUES E_va A_va hv0 hv1 hv2) hZ (hw _ (List.mem_of_getElem? (i := 59) rfl)) (hw _ (List.mem_of_getElem? (i := 52) rfl)) (by decide) (by decide)) (g := (mkF m 0 #[.val (.ref a1), .unset, .unset, .unset, .unset] [])) rfl (by rw [hml]; rfl) (argsL := []) (rest := []) (lenOf pd_3 rfl) rfl (by show 2 * 0 + _ ≤ _; exact Nat.le_of_eq rfl) (hb hby d11_0) (fun _ _ => ⟨rfl, e0, (by decide : 0 + 1 ≤ _), (by decide : 0 + 3 ≤ _)⟩)
  dsimp only [Pt.U, Pt.locs, Pt.cells, Pt.slots] at X306 l306 y306 z306 st306 hQ306
  subst l306 y306 z306
  obtain ⟨b_306, rfl, N306q, K306, szc_b_306, P306_2, P306_3⟩ := hQ306
  have sz_b_306 : h0.size ≤ b_306 := Nat.le_trans Kp.1 szc_b_306
  have ne_a1_b_306 : a1 ≠ b_306 := Nat.ne_of_lt (Nat.lt_of_lt_of_le E_a1.lt szc_b_306)
  have Zs : n0 ≤ T306.heap.size := Nat.le_trans Zs K306.1
  have E_a1 : Exa Z T306.heap a1 "java/lang/String" := E_a1.keep K306
  have T_a1 : Stx Z T306.heap a1 cs := T_a1.keep K306
  have Ol : Old Z n0 T306.heap := Ol.keep K306 all0
  have Kp : Keep h0 T306.heap [] := Kp.trans K306 all0
  have A_b_306 : ArR Z T306.heap b_306 kv "com/example/verschil/verschil/rrdp/FileKind" (3 : Int32) fv := P306_2
  have E_b_306 : Exa Z T306.heap b_306 "[Lcom/example/verschil/verschil/rrdp/FileKind;" := P306_3
  have N306 := Fr.app N0 N306q
  obtain ⟨cl307, Ar307, hl307⟩ := ArR.len A_b_306 (by decide)
  obtain ⟨cl308, Ar308, hs308, hin308, hat308, -⟩ := ArR.open (j := (0 : Int32)) A_b_306 (by decide)
  rw [hv0] at hat308
  obtain ⟨T309, X309, e309, st309⟩ := getF X306 hx hZ hown (host := "") (Or.inl (hw _ (List.mem_of_getElem? (i := 74) rfl))) Via.refl rfl (F_root_kN.ext Ol.2) (g := (mkF m 21 #[.val (.ref a1), .val (.ref b_306), .val (.int (3 : Int32)), .val (.int (0 : Int32)), .val (.ref kN)] [(.ref kN)])) rfl rfl (hb hby d11_21)
  obtain ⟨cq310, kq310, q310a, q310b, q310c⟩ := isOf hZ e309 (E_rN.ext Ol.2)
  obtain ⟨_, _, ⟨T310, L310, k310, n310⟩, -, X310, ⟨Lc310, hQ310, l310, y310, z310⟩, st310⟩ := X309.virtualBack hx (y := (⟨"java/lang/String", "equals", "(Ljava/lang/Object;)Z"⟩ : MethodName)) (z := (⟨"java/lang/String", "equals", "(Ljava/lang/Object;)Z"⟩ : MethodName)) hown (mvT hZ (hw _ (List.mem_of_getElem? (i := 76) rfl))) (mvT hZ (hw _ (List.mem_of_getElem? (i := 42) rfl))) (notFace_of_selects (args := #[]) (mvT hZ (hw _ (List.mem_of_getElem? (i := 44) rfl)))) (mvT hZ (hw _ (List.mem_of_getElem? (i := 44) rfl))) (mvT hZ (hw _ (List.mem_of_getElem? (i := 43) rfl))) (by decide) (own_eqT (W := 0) hZ hw (T_rN.ext Ol.2) T_a1 (Sta.ext Ol.2 S_COMPACT_STRINGS) hzc hN.symm (by decide) (by decide)) q310a q310c (g := (mkF m 25 #[.val (.ref a1), .val (.ref b_306), .val (.int (3 : Int32)), .val (.int (0 : Int32)), .val (.ref kN)] [(.ref a1), (.ref rN)])) rfl (by rw [hml]; rfl) (Steps.refl _) (argsL := [(.ref a1)]) (rest := []) (lenOf pd_2 rfl) rfl (by show 2 * 0 + _ ≤ _; exact Nat.le_of_eq rfl) (hb hby d11_25) (fun _ _ => ⟨rfl, e309, (by decide : 1 + 0 ≤ _), (by decide : 3 + 0 ≤ _)⟩)
  dsimp only [Pt.U, Pt.locs, Pt.cells, Pt.slots] at X310 l310 y310 z310 st310 hQ310
  subst l310 y310 z310
  obtain ⟨rfl, rfl, e310⟩ := hQ310
  have N310 := Fr.app N306 (Fr.nil n0)
  obtain ⟨fs, hr, hrun, hended, hW, hsame⟩ := X310.leave (v := some (.ref kN)) (fun h => by rw [Bd.returns] at h; cases h)
  refine ⟨_, _, pre0 _ ?_, hrun, hended, _, _, rfl, ?_, ⟨_, rfl⟩, hW, hsame.mono (by decide) (by decide)⟩
  · show Steps p.tables e below (s₁.setTop (mkF m 0 #[.val (.ref a1), .unset, .unset, .unset, .unset] [])) _
    refine st306 _ ?_
    show Steps p.tables e below (T306.setTop (mkF m 3 #[.val (.ref a1), .unset, .unset, .unset, .unset] [(.ref b_306)])) _
    refine XS.astoreN X306.here hx rfl (hb hby d11_3) rfl rfl (l' := #[.val (.ref a1), .val (.ref b_306), .unset, .unset, .unset]) rfl ?_
    show Steps p.tables e below (T306.setTop (mkF m 4 #[.val (.ref a1), .val (.ref b_306), .unset, .unset, .unset] [])) _
    refine XS.aloadN X306.here hx rfl (hb hby d11_4) rfl rfl ?_
    show Steps p.tables e below (T306.setTop (mkF m 5 #[.val (.ref a1), .val (.ref b_306), .unset, .unset, .unset] [(.ref b_306)])) _
    refine X306.arraylength hx Ar307.1 (State.isArrayOf_alike hZ.alike Ar307.2.1) (g := (mkF m 5 #[.val (.ref a1), .val (.ref b_306), .unset, .unset, .unset] [(.ref b_306)])) rfl rfl (hb hby d11_5) _ ?_
    rw [hl307]
    show Steps p.tables e below (T306.setTop (mkF m 6 #[.val (.ref a1), .val (.ref b_306), .unset, .unset, .unset] [(.int (3 : Int32))])) _
    refine XS.istoreN X306.here hx rfl (hb hby d11_6) rfl (l' := #[.val (.ref a1), .val (.ref b_306), .val (.int (3 : Int32)), .unset, .unset]) rfl ?_
    show Steps p.tables e below (T306.setTop (mkF m 7 #[.val (.ref a1), .val (.ref b_306), .val (.int (3 : Int32)), .unset, .unset] [])) _
    refine XS.iconst X306.here hx rfl (hb hby d11_7) ?_
    show Steps p.tables e below (T306.setTop (mkF m 8 #[.val (.ref a1), .val (.ref b_306), .val (.int (3 : Int32)), .unset, .unset] [(.int (0 : Int32))])) _
    refine XS.istoreN X306.here hx rfl (hb hby d11_8) rfl (l' := #[.val (.ref a1), .val (.ref b_306), .val (.int (3 : Int32)), .val (.int (0 : Int32)), .unset]) rfl ?_
    show Steps p.tables e below (T306.setTop (mkF m 9 #[.val (.ref a1), .val (.ref b_306), .val (.int (3 : Int32)), .val (.int (0 : Int32)), .unset] [])) _
    refine XS.iloadN X306.here hx rfl (hb hby d11_9) rfl ?_
    show Steps p.tables e below (T306.setTop (mkF m 10 #[.val (.ref a1), .val (.ref b_306), .val (.int (3 : Int32)), .val (.int (0 : Int32)), .unset] [(.int (0 : Int32))])) _
    refine XS.iloadN X306.here hx rfl (hb hby d11_10) rfl ?_
    show Steps p.tables e below (T306.setTop (mkF m 11 #[.val (.ref a1), .val (.ref b_306), .val (.int (3 : Int32)), .val (.int (0 : Int32)), .unset] [(.int (3 : Int32)), (.int (0 : Int32))])) _
    refine XS.icmpNo X306.here hx rfl (hb hby d11_11) rfl (tlt (by decide)).2.1 ?_
    show Steps p.tables e below (T306.setTop (mkF m 14 #[.val (.ref a1), .val (.ref b_306), .val (.int (3 : Int32)), .val (.int (0 : Int32)), .unset] [])) _
    refine XS.aloadN X306.here hx rfl (hb hby d11_14) rfl rfl ?_
    show Steps p.tables e below (T306.setTop (mkF m 15 #[.val (.ref a1), .val (.ref b_306), .val (.int (3 : Int32)), .val (.int (0 : Int32)), .unset] [(.ref b_306)])) _
    refine XS.iloadN X306.here hx rfl (hb hby d11_15) rfl ?_
    show Steps p.tables e below (T306.setTop (mkF m 16 #[.val (.ref a1), .val (.ref b_306), .val (.int (3 : Int32)), .val (.int (0 : Int32)), .unset] [(.int (0 : Int32)), (.ref b_306)])) _
    refine X306.aaload hx (j := (0 : Int32)) (v := (.ref kN)) Ar308.1 (State.isArrayOf_alike hZ.alike Ar308.2.1) rfl Ar308.2.2 hin308 hat308 (g := (mkF m 16 #[.val (.ref a1), .val (.ref b_306), .val (.int (3 : Int32)), .val (.int (0 : Int32)), .unset] [(.int (0 : Int32)), (.ref b_306)])) rfl rfl (hb hby d11_16) _ ?_
    show Steps p.tables e below (T306.setTop (mkF m 17 #[.val (.ref a1), .val (.ref b_306), .val (.int (3 : Int32)), .val (.int (0 : Int32)), .unset] [(.ref kN)])) _
    refine XS.astore X306.here hx rfl (hb hby d11_17) rfl rfl (l' := #[.val (.ref a1), .val (.ref b_306), .val (.int (3 : Int32)), .val (.int (0 : Int32)), .val (.ref kN)]) rfl ?_
    show Steps p.tables e below (T306.setTop (mkF m 19 #[.val (.ref a1), .val (.ref b_306), .val (.int (3 : Int32)), .val (.int (0 : Int32)), .val (.ref kN)] [])) _
    refine XS.aload X306.here hx rfl (hb hby d11_19) rfl rfl ?_
    show Steps p.tables e below (T306.setTop (mkF m 21 #[.val (.ref a1), .val (.ref b_306), .val (.int (3 : Int32)), .val (.int (0 : Int32)), .val (.ref kN)] [(.ref kN)])) _
    refine st309 _ ?_
    show Steps p.tables e below (T309.setTop (mkF m 24 #[.val (.ref a1), .val (.ref b_306), .val (.int (3 : Int32)), .val (.int (0 : Int32)), .val (.ref kN)] [(.ref rN)])) _
    refine XS.aloadN X309.here hx rfl (hb hby d11_24) rfl rfl ?_
    show Steps p.tables e below (T309.setTop (mkF m 25 #[.val (.ref a1), .val (.ref b_306), .val (.int (3 : Int32)), .val (.int (0 : Int32)), .val (.ref kN)] [(.ref a1), (.ref rN)])) _
    refine st310.trans ?_
    show Steps p.tables e below (T310.setTop (mkF m 28 #[.val (.ref a1), .val (.ref b_306), .val (.int (3 : Int32)), .val (.int (0 : Int32)), .val (.ref kN)] [(.int (1 : Int32))])) _
    refine XS.ifNo X310.here hx rfl (hb hby d11_28) rfl ((if0 _ _).trans (feq (by decide)).1) ?_
    show Steps p.tables e below (T310.setTop (mkF m 31 #[.val (.ref a1), .val (.ref b_306), .val (.int (3 : Int32)), .val (.int (0 : Int32)), .val (.ref kN)] [])) _
    refine XS.aload X310.here hx rfl (hb hby d11_31) rfl rfl ?_
    show Steps p.tables e below (T310.setTop (mkF m 33 #[.val (.ref a1), .val (.ref b_306), .val (.int (3 : Int32)), .val (.int (0 : Int32)), .val (.ref kN)] [(.ref kN)])) _
    exact retOut X310 hx Bd.returns rfl (Or.inr (Or.inr (Or.inr (Or.inr ⟨rfl, rfl, rfl⟩)))) (hb hby d11_33) hr
  · show QON Z a1 cs zc va kv fv kN kS kD rN rS rD h0 n0 _ T310.heap _
    rw [e310]
    exact ⟨rfl, N310, Kp⟩
def QOS (Z : State) (a1 : Addr) (cs : List Int32) (zc : Int32) (va : Addr) (kv : ClassId) (fv : Nat → Value) (kN : Addr) (kS : Addr) (kD : Addr) (rN : Addr) (rS : Addr) (rD : Addr) (h0 : Heap) (n0 : Nat) (v : Option Value) (h : Heap) (L : List Loc) : Prop := v = some (.ref kS) ∧ Fr n0 L ∧ (Keep h0 h [])
theorem ef_OS (m : MethodId) (a1 : Addr) : entryFrame m #[(.ref a1)] 5 = mkF m 0 #[.val (.ref a1), .unset, .unset, .unset, .unset] [] := by first | (simp [entryFrame, mkF, argsToLocals, Value.category]; done) | rfl
set_option maxRecDepth 65536 in
set_option maxHeartbeats 40000000 in
theorem rmOS (l : Launch) (Z : State) (a0 : Array Value) (hw : ∀ d ∈ tables_1, d.before a0 Z = true) (ws : List Jvm.Cond) (a1 : Addr) (cs : List Int32) (zc : Int32) (va : Addr) (kv : ClassId) (fv : Nat → Value) (kN : Addr) (kS : Addr) (kD : Addr) (rN : Addr) (rS : Addr) (rD : Addr) (h0 : Heap) (n0 : Nat) (Zs : n0 ≤ h0.size) (E_a1 : Exa Z h0 a1 "java/lang/String") (T_a1 : Stx Z h0 a1 cs) (Ol : Old Z n0 h0) (S_COMPACT_STRINGS : Sta Z Z.heap "java/lang/String" "COMPACT_STRINGS" "Z" (.int zc)) (hzc : ¬ zc = 0) (S__VALUES : Sta Z Z.heap "com/example/verschil/verschil/rrdp/FileKind" "$VALUES" "[Lcom/example/verschil/verschil/rrdp/FileKind;" (.ref va)) (E_va : Exa Z Z.heap va "[Lcom/example/verschil/verschil/rrdp/FileKind;") (A_va : ArR Z Z.heap va kv "com/example/verschil/verschil/rrdp/FileKind" (3 : Int32) fv) (hv0 : fv (0 : Int32).toNatClampNeg = .ref kN) (hv1 : fv (1 : Int32).toNatClampNeg = .ref kS) (hv2 : fv (2 : Int32).toNatClampNeg = .ref kD) (F_root_kN : Fld Z Z.heap kN "com/example/verschil/verschil/rrdp/FileKind" "root" "Ljava/lang/String;" (.ref rN)) (E_rN : Exa Z Z.heap rN "java/lang/String") (T_rN : Stx Z Z.heap rN [(110 : Int32), (111 : Int32), (116 : Int32), (105 : Int32), (102 : Int32), (105 : Int32), (99 : Int32), (97 : Int32), (116 : Int32), (105 : Int32), (111 : Int32), (110 : Int32)]) (F_root_kS : Fld Z Z.heap kS "com/example/verschil/verschil/rrdp/FileKind" "root" "Ljava/lang/String;" (.ref rS)) (E_rS : Exa Z Z.heap rS "java/lang/String") (T_rS : Stx Z Z.heap rS [(115 : Int32), (110 : Int32), (97 : Int32), (112 : Int32), (115 : Int32), (104 : Int32), (111 : Int32), (116 : Int32)]) (F_root_kD : Fld Z Z.heap kD "com/example/verschil/verschil/rrdp/FileKind" "root" "Ljava/lang/String;" (.ref rD)) (E_rD : Exa Z Z.heap rD "java/lang/String") (T_rD : Stx Z Z.heap rD [(100 : Int32), (101 : Int32), (108 : Int32), (116 : Int32), (97 : Int32)]) (hN : ¬ cs = [(110 : Int32), (111 : Int32), (116 : Int32), (105 : Int32), (102 : Int32), (105 : Int32), (99 : Int32), (97 : Int32), (116 : Int32), (105 : Int32), (111 : Int32), (110 : Int32)]) (hS : cs = [(115 : Int32), (110 : Int32), (97 : Int32), (112 : Int32), (115 : Int32), (104 : Int32), (111 : Int32), (116 : Int32)]) :
    MetFree l (⟨"com/example/verschil/verschil/rrdp/FileKind", "ofRoot", "(Ljava/lang/String;)Lcom/example/verschil/verschil/rrdp/FileKind;"⟩ : MethodName) (head1 (Jvm.Cond.code (⟨"com/example/verschil/verschil/rrdp/FileKind", "ofRoot", "(Ljava/lang/String;)Lcom/example/verschil/verschil/rrdp/FileKind;"⟩ : MethodName) prog_84_method_5_code 5 (some (.object "com/example/verschil/verschil/rrdp/FileKind")) :: ws) ({ frames := 2, cells := 1, slots := 3, locals := 28 } : Room)) (fun a U => a = #[(.ref a1)] ∧ Z.Warmed39 U.vm ∧ U.heap = h0) (fun _ _ _ _ _ => True) (fun _ U o U' => ∃ v L, o = .returned v ∧ QOS Z a1 cs zc va kv fv kN kS kD rN rS rD h0 n0 v U'.heap L ∧ FrameEnd U o U' L ({ frames := 2, cells := 1, slots := 3, locals := 28 } : Room).cells ({ frames := 2, cells := 1, slots := 3, locals := 28 } : Room).slots) := by
  refine MetFree.of_bodySF (plainFor_of_name pn_2) hisR ?_
  intro p e s m args below meth c s₁ Bd hml0 hP hK
  obtain ⟨rfl, hZ, hh⟩ := hP
  have hx := Bd.exec
  have hby := Bd.bytes
  have hml : c.maxLocals = 5 := hml0
  have hown : s.vm.findClass "com/example/verschil/verschil/rrdp/FileKind" = some m.cls := findClass_of_methodNamed Bd.named
  have hnm := (name_of_methodNamed Bd.named Bd.method).1
  have X0 : Stand p l e ({ frames := 2, cells := 1, slots := 3, locals := 28 } : Room) s m #[(.ref a1)] below meth c s₁ [] 0 0 := Stand.of_body Bd
  have e0 : s₁.heap = h0 := by rw [← hh, Bd.state]; rfl
  have N0 := Fr.nil n0
  have pre0 : ∀ t, Steps p.tables e below (s₁.setTop (mkF m 0 #[.val (.ref a1), .unset, .unset, .unset, .unset] [])) t → Steps p.tables e below (s₁.setTop (entryFrame m #[(.ref a1)] 5)) t := fun t k => castTop (ef_OS m a1) k
  have Kp : Keep h0 h0 [] := Keep.refl h0 []
  obtain ⟨_, _, ⟨T311, L311, k311, n311⟩, -, X311, ⟨Lc311, hQ311, l311, y311, z311⟩, st311⟩ := Jvm.LawKit.callS X0 hx (y := (⟨"com/example/verschil/verschil/rrdp/FileKind", "values", "()[Lcom/example/verschil/verschil/rrdp/FileKind;"⟩ : MethodName)) hown (mvT hZ (hw _ (List.mem_of_getElem? (i := 57) rfl))) (mvT hZ (hw _ (List.mem_of_getElem? (i := 58) rfl))) (mvT hZ (hw _ (List.mem_of_getElem? (i := 52) rfl))) (mvT hZ (hw _ (List.mem_of_getElem? (i := 59) rfl))) (by decide) (backOf (W := 0) (rmVL l Z a0 hw [] va kv fv kN kS kD h0 n0 Zs Ol S__VALUES E_va A_va hv0 hv1 hv2) hZ (hw _ (List.mem_of_getElem? (i := 59) rfl)) (hw _ (List.mem_of_getElem? (i := 52) rfl)) (by decide) (by decide)) (g := (mkF m 0 #[.val (.ref a1), .unset, .unset, .unset, .unset] [])) rfl (by rw [hml]; rfl) (argsL := []) (rest := []) (lenOf pd_3 rfl) rfl (by show 2 * 0 + _ ≤ _; exact Nat.le_of_eq rfl) (hb hby d11_0) (fun _ _ => ⟨rfl, e0, (by decide : 0 + 1 ≤ _), (by decide : 0 + 3 ≤ _)⟩)
  dsimp only [Pt.U, Pt.locs, Pt.cells, Pt.slots] at X311 l311 y311 z311 st311 hQ311
  subst l311 y311 z311
  obtain ⟨b_311, rfl, N311q, K311, szc_b_311, P311_2, P311_3⟩ := hQ311
  have sz_b_311 : h0.size ≤ b_311 := Nat.le_trans Kp.1 szc_b_311
  have ne_a1_b_311 : a1 ≠ b_311 := Nat.ne_of_lt (Nat.lt_of_lt_of_le E_a1.lt szc_b_311)
  have Zs : n0 ≤ T311.heap.size := Nat.le_trans Zs K311.1
  have E_a1 : Exa Z T311.heap a1 "java/lang/String" := E_a1.keep K311
  have T_a1 : Stx Z T311.heap a1 cs := T_a1.keep K311
  have Ol : Old Z n0 T311.heap := Ol.keep K311 all0
  have Kp : Keep h0 T311.heap [] := Kp.trans K311 all0
  have A_b_311 : ArR Z T311.heap b_311 kv "com/example/verschil/verschil/rrdp/FileKind" (3 : Int32) fv := P311_2
  have E_b_311 : Exa Z T311.heap b_311 "[Lcom/example/verschil/verschil/rrdp/FileKind;" := P311_3
  have N311 := Fr.app N0 N311q
  obtain ⟨cl312, Ar312, hl312⟩ := ArR.len A_b_311 (by decide)
  obtain ⟨cl313, Ar313, hs313, hin313, hat313, -⟩ := ArR.open (j := (0 : Int32)) A_b_311 (by decide)
  rw [hv0] at hat313
  obtain ⟨T314, X314, e314, st314⟩ := getF X311 hx hZ hown (host := "") (Or.inl (hw _ (List.mem_of_getElem? (i := 74) rfl))) Via.refl rfl (F_root_kN.ext Ol.2) (g := (mkF m 21 #[.val (.ref a1), .val (.ref b_311), .val (.int (3 : Int32)), .val (.int (0 : Int32)), .val (.ref kN)] [(.ref kN)])) rfl rfl (hb hby d11_21)
  obtain ⟨cq315, kq315, q315a, q315b, q315c⟩ := isOf hZ e314 (E_rN.ext Ol.2)
  obtain ⟨_, _, ⟨T315, L315, k315, n315⟩, -, X315, ⟨Lc315, hQ315, l315, y315, z315⟩, st315⟩ := X314.virtualBack hx (y := (⟨"java/lang/String", "equals", "(Ljava/lang/Object;)Z"⟩ : MethodName)) (z := (⟨"java/lang/String", "equals", "(Ljava/lang/Object;)Z"⟩ : MethodName)) hown (mvT hZ (hw _ (List.mem_of_getElem? (i := 76) rfl))) (mvT hZ (hw _ (List.mem_of_getElem? (i := 42) rfl))) (notFace_of_selects (args := #[]) (mvT hZ (hw _ (List.mem_of_getElem? (i := 44) rfl)))) (mvT hZ (hw _ (List.mem_of_getElem? (i := 44) rfl))) (mvT hZ (hw _ (List.mem_of_getElem? (i := 43) rfl))) (by decide) (own_eqF (W := 0) hZ hw (T_rN.ext Ol.2) T_a1 (Sta.ext Ol.2 S_COMPACT_STRINGS) hzc (Ne.symm hN) (by decide) (by decide)) q315a q315c (g := (mkF m 25 #[.val (.ref a1), .val (.ref b_311), .val (.int (3 : Int32)), .val (.int (0 : Int32)), .val (.ref kN)] [(.ref a1), (.ref rN)])) rfl (by rw [hml]; rfl) (Steps.refl _) (argsL := [(.ref a1)]) (rest := []) (lenOf pd_2 rfl) rfl (by show 2 * 0 + _ ≤ _; exact Nat.le_of_eq rfl) (hb hby d11_25) (fun _ _ => ⟨rfl, e314, (by decide : 1 + 0 ≤ _), (by decide : 3 + 0 ≤ _)⟩)
  dsimp only [Pt.U, Pt.locs, Pt.cells, Pt.slots] at X315 l315 y315 z315 st315 hQ315
  subst l315 y315 z315
  obtain ⟨rfl, rfl, e315⟩ := hQ315
  have N315 := Fr.app N311 (Fr.nil n0)
  obtain ⟨cl316, Ar316, hs316, hin316, hat316, -⟩ := ArR.open (j := (1 : Int32)) A_b_311 (by decide)
  rw [hv1] at hat316
  obtain ⟨T317, X317, e317, st317⟩ := getF X315 hx hZ hown (host := "") (Or.inl (hw _ (List.mem_of_getElem? (i := 74) rfl))) Via.refl e315 (F_root_kS.ext Ol.2) (g := (mkF m 21 #[.val (.ref a1), .val (.ref b_311), .val (.int (3 : Int32)), .val (.int (1 : Int32)), .val (.ref kS)] [(.ref kS)])) rfl rfl (hb hby d11_21)
  obtain ⟨cq318, kq318, q318a, q318b, q318c⟩ := isOf hZ e317 (E_rS.ext Ol.2)
  obtain ⟨_, _, ⟨T318, L318, k318, n318⟩, -, X318, ⟨Lc318, hQ318, l318, y318, z318⟩, st318⟩ := X317.virtualBack hx (y := (⟨"java/lang/String", "equals", "(Ljava/lang/Object;)Z"⟩ : MethodName)) (z := (⟨"java/lang/String", "equals", "(Ljava/lang/Object;)Z"⟩ : MethodName)) hown (mvT hZ (hw _ (List.mem_of_getElem? (i := 76) rfl))) (mvT hZ (hw _ (List.mem_of_getElem? (i := 42) rfl))) (notFace_of_selects (args := #[]) (mvT hZ (hw _ (List.mem_of_getElem? (i := 44) rfl)))) (mvT hZ (hw _ (List.mem_of_getElem? (i := 44) rfl))) (mvT hZ (hw _ (List.mem_of_getElem? (i := 43) rfl))) (by decide) (own_eqT (W := 0) hZ hw (T_rS.ext Ol.2) T_a1 (Sta.ext Ol.2 S_COMPACT_STRINGS) hzc hS.symm (by decide) (by decide)) q318a q318c (g := (mkF m 25 #[.val (.ref a1), .val (.ref b_311), .val (.int (3 : Int32)), .val (.int (1 : Int32)), .val (.ref kS)] [(.ref a1), (.ref rS)])) rfl (by rw [hml]; rfl) (Steps.refl _) (argsL := [(.ref a1)]) (rest := []) (lenOf pd_2 rfl) rfl (by show 2 * 0 + _ ≤ _; exact Nat.le_of_eq rfl) (hb hby d11_25) (fun _ _ => ⟨rfl, e317, (by decide : 1 + 0 ≤ _), (by decide : 3 + 0 ≤ _)⟩)
  dsimp only [Pt.U, Pt.locs, Pt.cells, Pt.slots] at X318 l318 y318 z318 st318 hQ318
  subst l318 y318 z318
  obtain ⟨rfl, rfl, e318⟩ := hQ318
  have N318 := Fr.app N315 (Fr.nil n0)
  obtain ⟨fs, hr, hrun, hended, hW, hsame⟩ := X318.leave (v := some (.ref kS)) (fun h => by rw [Bd.returns] at h; cases h)
  refine ⟨_, _, pre0 _ ?_, hrun, hended, _, _, rfl, ?_, ⟨_, rfl⟩, hW, hsame.mono (by decide) (by decide)⟩
  · show Steps p.tables e below (s₁.setTop (mkF m 0 #[.val (.ref a1), .unset, .unset, .unset, .unset] [])) _
    refine st311 _ ?_
    show Steps p.tables e below (T311.setTop (mkF m 3 #[.val (.ref a1), .unset, .unset, .unset, .unset] [(.ref b_311)])) _
    refine XS.astoreN X311.here hx rfl (hb hby d11_3) rfl rfl (l' := #[.val (.ref a1), .val (.ref b_311), .unset, .unset, .unset]) rfl ?_
    show Steps p.tables e below (T311.setTop (mkF m 4 #[.val (.ref a1), .val (.ref b_311), .unset, .unset, .unset] [])) _
    refine XS.aloadN X311.here hx rfl (hb hby d11_4) rfl rfl ?_
    show Steps p.tables e below (T311.setTop (mkF m 5 #[.val (.ref a1), .val (.ref b_311), .unset, .unset, .unset] [(.ref b_311)])) _
    refine X311.arraylength hx Ar312.1 (State.isArrayOf_alike hZ.alike Ar312.2.1) (g := (mkF m 5 #[.val (.ref a1), .val (.ref b_311), .unset, .unset, .unset] [(.ref b_311)])) rfl rfl (hb hby d11_5) _ ?_
    rw [hl312]
    show Steps p.tables e below (T311.setTop (mkF m 6 #[.val (.ref a1), .val (.ref b_311), .unset, .unset, .unset] [(.int (3 : Int32))])) _
    refine XS.istoreN X311.here hx rfl (hb hby d11_6) rfl (l' := #[.val (.ref a1), .val (.ref b_311), .val (.int (3 : Int32)), .unset, .unset]) rfl ?_
    show Steps p.tables e below (T311.setTop (mkF m 7 #[.val (.ref a1), .val (.ref b_311), .val (.int (3 : Int32)), .unset, .unset] [])) _
    refine XS.iconst X311.here hx rfl (hb hby d11_7) ?_
    show Steps p.tables e below (T311.setTop (mkF m 8 #[.val (.ref a1), .val (.ref b_311), .val (.int (3 : Int32)), .unset, .unset] [(.int (0 : Int32))])) _
    refine XS.istoreN X311.here hx rfl (hb hby d11_8) rfl (l' := #[.val (.ref a1), .val (.ref b_311), .val (.int (3 : Int32)), .val (.int (0 : Int32)), .unset]) rfl ?_
    show Steps p.tables e below (T311.setTop (mkF m 9 #[.val (.ref a1), .val (.ref b_311), .val (.int (3 : Int32)), .val (.int (0 : Int32)), .unset] [])) _
    refine XS.iloadN X311.here hx rfl (hb hby d11_9) rfl ?_
    show Steps p.tables e below (T311.setTop (mkF m 10 #[.val (.ref a1), .val (.ref b_311), .val (.int (3 : Int32)), .val (.int (0 : Int32)), .unset] [(.int (0 : Int32))])) _
    refine XS.iloadN X311.here hx rfl (hb hby d11_10) rfl ?_
    show Steps p.tables e below (T311.setTop (mkF m 11 #[.val (.ref a1), .val (.ref b_311), .val (.int (3 : Int32)), .val (.int (0 : Int32)), .unset] [(.int (3 : Int32)), (.int (0 : Int32))])) _
    refine XS.icmpNo X311.here hx rfl (hb hby d11_11) rfl (tlt (by decide)).2.1 ?_
    show Steps p.tables e below (T311.setTop (mkF m 14 #[.val (.ref a1), .val (.ref b_311), .val (.int (3 : Int32)), .val (.int (0 : Int32)), .unset] [])) _
    refine XS.aloadN X311.here hx rfl (hb hby d11_14) rfl rfl ?_
    show Steps p.tables e below (T311.setTop (mkF m 15 #[.val (.ref a1), .val (.ref b_311), .val (.int (3 : Int32)), .val (.int (0 : Int32)), .unset] [(.ref b_311)])) _
    refine XS.iloadN X311.here hx rfl (hb hby d11_15) rfl ?_
    show Steps p.tables e below (T311.setTop (mkF m 16 #[.val (.ref a1), .val (.ref b_311), .val (.int (3 : Int32)), .val (.int (0 : Int32)), .unset] [(.int (0 : Int32)), (.ref b_311)])) _
    refine X311.aaload hx (j := (0 : Int32)) (v := (.ref kN)) Ar313.1 (State.isArrayOf_alike hZ.alike Ar313.2.1) rfl Ar313.2.2 hin313 hat313 (g := (mkF m 16 #[.val (.ref a1), .val (.ref b_311), .val (.int (3 : Int32)), .val (.int (0 : Int32)), .unset] [(.int (0 : Int32)), (.ref b_311)])) rfl rfl (hb hby d11_16) _ ?_
    show Steps p.tables e below (T311.setTop (mkF m 17 #[.val (.ref a1), .val (.ref b_311), .val (.int (3 : Int32)), .val (.int (0 : Int32)), .unset] [(.ref kN)])) _
    refine XS.astore X311.here hx rfl (hb hby d11_17) rfl rfl (l' := #[.val (.ref a1), .val (.ref b_311), .val (.int (3 : Int32)), .val (.int (0 : Int32)), .val (.ref kN)]) rfl ?_
    show Steps p.tables e below (T311.setTop (mkF m 19 #[.val (.ref a1), .val (.ref b_311), .val (.int (3 : Int32)), .val (.int (0 : Int32)), .val (.ref kN)] [])) _
    refine XS.aload X311.here hx rfl (hb hby d11_19) rfl rfl ?_
    show Steps p.tables e below (T311.setTop (mkF m 21 #[.val (.ref a1), .val (.ref b_311), .val (.int (3 : Int32)), .val (.int (0 : Int32)), .val (.ref kN)] [(.ref kN)])) _
    refine st314 _ ?_
    show Steps p.tables e below (T314.setTop (mkF m 24 #[.val (.ref a1), .val (.ref b_311), .val (.int (3 : Int32)), .val (.int (0 : Int32)), .val (.ref kN)] [(.ref rN)])) _
    refine XS.aloadN X314.here hx rfl (hb hby d11_24) rfl rfl ?_
    show Steps p.tables e below (T314.setTop (mkF m 25 #[.val (.ref a1), .val (.ref b_311), .val (.int (3 : Int32)), .val (.int (0 : Int32)), .val (.ref kN)] [(.ref a1), (.ref rN)])) _
    refine st315.trans ?_
    show Steps p.tables e below (T315.setTop (mkF m 28 #[.val (.ref a1), .val (.ref b_311), .val (.int (3 : Int32)), .val (.int (0 : Int32)), .val (.ref kN)] [(.int (0 : Int32))])) _
    refine XS.ifYes X315.here hx rfl (pc0 := 28) (pc' := 34) rfl (hb hby d11_28) rfl ((if0 _ _).trans (teq (by decide)).1) (by decide) (by decide) ?_
    show Steps p.tables e below (T315.setTop (mkF m 34 #[.val (.ref a1), .val (.ref b_311), .val (.int (3 : Int32)), .val (.int (0 : Int32)), .val (.ref kN)] [])) _
    refine XS.iinc X315.here hx rfl (hb hby d11_34) rfl (l' := #[.val (.ref a1), .val (.ref b_311), .val (.int (3 : Int32)), .val (.int (1 : Int32)), .val (.ref kN)]) rfl ?_
    show Steps p.tables e below (T315.setTop (mkF m 37 #[.val (.ref a1), .val (.ref b_311), .val (.int (3 : Int32)), .val (.int (1 : Int32)), .val (.ref kN)] [])) _
    refine XS.goto X315.here hx rfl (pc0 := 37) (pc' := 9) rfl (hb hby d11_37) (by decide) (by decide) ?_
    show Steps p.tables e below (T315.setTop (mkF m 9 #[.val (.ref a1), .val (.ref b_311), .val (.int (3 : Int32)), .val (.int (1 : Int32)), .val (.ref kN)] [])) _
    refine XS.iloadN X315.here hx rfl (hb hby d11_9) rfl ?_
    show Steps p.tables e below (T315.setTop (mkF m 10 #[.val (.ref a1), .val (.ref b_311), .val (.int (3 : Int32)), .val (.int (1 : Int32)), .val (.ref kN)] [(.int (1 : Int32))])) _
    refine XS.iloadN X315.here hx rfl (hb hby d11_10) rfl ?_
    show Steps p.tables e below (T315.setTop (mkF m 11 #[.val (.ref a1), .val (.ref b_311), .val (.int (3 : Int32)), .val (.int (1 : Int32)), .val (.ref kN)] [(.int (3 : Int32)), (.int (1 : Int32))])) _
    refine XS.icmpNo X315.here hx rfl (hb hby d11_11) rfl (tlt (by decide)).2.1 ?_
    show Steps p.tables e below (T315.setTop (mkF m 14 #[.val (.ref a1), .val (.ref b_311), .val (.int (3 : Int32)), .val (.int (1 : Int32)), .val (.ref kN)] [])) _
    refine XS.aloadN X315.here hx rfl (hb hby d11_14) rfl rfl ?_
    show Steps p.tables e below (T315.setTop (mkF m 15 #[.val (.ref a1), .val (.ref b_311), .val (.int (3 : Int32)), .val (.int (1 : Int32)), .val (.ref kN)] [(.ref b_311)])) _
    refine XS.iloadN X315.here hx rfl (hb hby d11_15) rfl ?_
    show Steps p.tables e below (T315.setTop (mkF m 16 #[.val (.ref a1), .val (.ref b_311), .val (.int (3 : Int32)), .val (.int (1 : Int32)), .val (.ref kN)] [(.int (1 : Int32)), (.ref b_311)])) _
    refine X315.aaload hx (j := (1 : Int32)) (v := (.ref kS)) (by rw [e315]; exact Ar316.1) (State.isArrayOf_alike hZ.alike Ar316.2.1) rfl Ar316.2.2 hin316 hat316 (g := (mkF m 16 #[.val (.ref a1), .val (.ref b_311), .val (.int (3 : Int32)), .val (.int (1 : Int32)), .val (.ref kN)] [(.int (1 : Int32)), (.ref b_311)])) rfl rfl (hb hby d11_16) _ ?_
    show Steps p.tables e below (T315.setTop (mkF m 17 #[.val (.ref a1), .val (.ref b_311), .val (.int (3 : Int32)), .val (.int (1 : Int32)), .val (.ref kN)] [(.ref kS)])) _
    refine XS.astore X315.here hx rfl (hb hby d11_17) rfl rfl (l' := #[.val (.ref a1), .val (.ref b_311), .val (.int (3 : Int32)), .val (.int (1 : Int32)), .val (.ref kS)]) rfl ?_
    show Steps p.tables e below (T315.setTop (mkF m 19 #[.val (.ref a1), .val (.ref b_311), .val (.int (3 : Int32)), .val (.int (1 : Int32)), .val (.ref kS)] [])) _
    refine XS.aload X315.here hx rfl (hb hby d11_19) rfl rfl ?_
    show Steps p.tables e below (T315.setTop (mkF m 21 #[.val (.ref a1), .val (.ref b_311), .val (.int (3 : Int32)), .val (.int (1 : Int32)), .val (.ref kS)] [(.ref kS)])) _
    refine st317 _ ?_
    show Steps p.tables e below (T317.setTop (mkF m 24 #[.val (.ref a1), .val (.ref b_311), .val (.int (3 : Int32)), .val (.int (1 : Int32)), .val (.ref kS)] [(.ref rS)])) _
    refine XS.aloadN X317.here hx rfl (hb hby d11_24) rfl rfl ?_
    show Steps p.tables e below (T317.setTop (mkF m 25 #[.val (.ref a1), .val (.ref b_311), .val (.int (3 : Int32)), .val (.int (1 : Int32)), .val (.ref kS)] [(.ref a1), (.ref rS)])) _
    refine st318.trans ?_
    show Steps p.tables e below (T318.setTop (mkF m 28 #[.val (.ref a1), .val (.ref b_311), .val (.int (3 : Int32)), .val (.int (1 : Int32)), .val (.ref kS)] [(.int (1 : Int32))])) _
    refine XS.ifNo X318.here hx rfl (hb hby d11_28) rfl ((if0 _ _).trans (feq (by decide)).1) ?_
    show Steps p.tables e below (T318.setTop (mkF m 31 #[.val (.ref a1), .val (.ref b_311), .val (.int (3 : Int32)), .val (.int (1 : Int32)), .val (.ref kS)] [])) _
    refine XS.aload X318.here hx rfl (hb hby d11_31) rfl rfl ?_
    show Steps p.tables e below (T318.setTop (mkF m 33 #[.val (.ref a1), .val (.ref b_311), .val (.int (3 : Int32)), .val (.int (1 : Int32)), .val (.ref kS)] [(.ref kS)])) _
    exact retOut X318 hx Bd.returns rfl (Or.inr (Or.inr (Or.inr (Or.inr ⟨rfl, rfl, rfl⟩)))) (hb hby d11_33) hr
  · show QOS Z a1 cs zc va kv fv kN kS kD rN rS rD h0 n0 _ T318.heap _
    rw [e318]
    exact ⟨rfl, N318, Kp⟩
def QOD (Z : State) (a1 : Addr) (cs : List Int32) (zc : Int32) (va : Addr) (kv : ClassId) (fv : Nat → Value) (kN : Addr) (kS : Addr) (kD : Addr) (rN : Addr) (rS : Addr) (rD : Addr) (h0 : Heap) (n0 : Nat) (v : Option Value) (h : Heap) (L : List Loc) : Prop := v = some (.ref kD) ∧ Fr n0 L ∧ (Keep h0 h [])
theorem ef_OD (m : MethodId) (a1 : Addr) : entryFrame m #[(.ref a1)] 5 = mkF m 0 #[.val (.ref a1), .unset, .unset, .unset, .unset] [] := by first | (simp [entryFrame, mkF, argsToLocals, Value.category]; done) | rfl
set_option maxRecDepth 65536 in
set_option maxHeartbeats 40000000 in
theorem rmOD (l : Launch) (Z : State) (a0 : Array Value) (hw : ∀ d ∈ tables_1, d.before a0 Z = true) (ws : List Jvm.Cond) (a1 : Addr) (cs : List Int32) (zc : Int32) (va : Addr) (kv : ClassId) (fv : Nat → Value) (kN : Addr) (kS : Addr) (kD : Addr) (rN : Addr) (rS : Addr) (rD : Addr) (h0 : Heap) (n0 : Nat) (Zs : n0 ≤ h0.size) (E_a1 : Exa Z h0 a1 "java/lang/String") (T_a1 : Stx Z h0 a1 cs) (Ol : Old Z n0 h0) (S_COMPACT_STRINGS : Sta Z Z.heap "java/lang/String" "COMPACT_STRINGS" "Z" (.int zc)) (hzc : ¬ zc = 0) (S__VALUES : Sta Z Z.heap "com/example/verschil/verschil/rrdp/FileKind" "$VALUES" "[Lcom/example/verschil/verschil/rrdp/FileKind;" (.ref va)) (E_va : Exa Z Z.heap va "[Lcom/example/verschil/verschil/rrdp/FileKind;") (A_va : ArR Z Z.heap va kv "com/example/verschil/verschil/rrdp/FileKind" (3 : Int32) fv) (hv0 : fv (0 : Int32).toNatClampNeg = .ref kN) (hv1 : fv (1 : Int32).toNatClampNeg = .ref kS) (hv2 : fv (2 : Int32).toNatClampNeg = .ref kD) (F_root_kN : Fld Z Z.heap kN "com/example/verschil/verschil/rrdp/FileKind" "root" "Ljava/lang/String;" (.ref rN)) (E_rN : Exa Z Z.heap rN "java/lang/String") (T_rN : Stx Z Z.heap rN [(110 : Int32), (111 : Int32), (116 : Int32), (105 : Int32), (102 : Int32), (105 : Int32), (99 : Int32), (97 : Int32), (116 : Int32), (105 : Int32), (111 : Int32), (110 : Int32)]) (F_root_kS : Fld Z Z.heap kS "com/example/verschil/verschil/rrdp/FileKind" "root" "Ljava/lang/String;" (.ref rS)) (E_rS : Exa Z Z.heap rS "java/lang/String") (T_rS : Stx Z Z.heap rS [(115 : Int32), (110 : Int32), (97 : Int32), (112 : Int32), (115 : Int32), (104 : Int32), (111 : Int32), (116 : Int32)]) (F_root_kD : Fld Z Z.heap kD "com/example/verschil/verschil/rrdp/FileKind" "root" "Ljava/lang/String;" (.ref rD)) (E_rD : Exa Z Z.heap rD "java/lang/String") (T_rD : Stx Z Z.heap rD [(100 : Int32), (101 : Int32), (108 : Int32), (116 : Int32), (97 : Int32)]) (hN : ¬ cs = [(110 : Int32), (111 : Int32), (116 : Int32), (105 : Int32), (102 : Int32), (105 : Int32), (99 : Int32), (97 : Int32), (116 : Int32), (105 : Int32), (111 : Int32), (110 : Int32)]) (hS : ¬ cs = [(115 : Int32), (110 : Int32), (97 : Int32), (112 : Int32), (115 : Int32), (104 : Int32), (111 : Int32), (116 : Int32)]) (hD : cs = [(100 : Int32), (101 : Int32), (108 : Int32), (116 : Int32), (97 : Int32)]) :
    MetFree l (⟨"com/example/verschil/verschil/rrdp/FileKind", "ofRoot", "(Ljava/lang/String;)Lcom/example/verschil/verschil/rrdp/FileKind;"⟩ : MethodName) (head1 (Jvm.Cond.code (⟨"com/example/verschil/verschil/rrdp/FileKind", "ofRoot", "(Ljava/lang/String;)Lcom/example/verschil/verschil/rrdp/FileKind;"⟩ : MethodName) prog_84_method_5_code 5 (some (.object "com/example/verschil/verschil/rrdp/FileKind")) :: ws) ({ frames := 2, cells := 1, slots := 3, locals := 28 } : Room)) (fun a U => a = #[(.ref a1)] ∧ Z.Warmed39 U.vm ∧ U.heap = h0) (fun _ _ _ _ _ => True) (fun _ U o U' => ∃ v L, o = .returned v ∧ QOD Z a1 cs zc va kv fv kN kS kD rN rS rD h0 n0 v U'.heap L ∧ FrameEnd U o U' L ({ frames := 2, cells := 1, slots := 3, locals := 28 } : Room).cells ({ frames := 2, cells := 1, slots := 3, locals := 28 } : Room).slots) := by
  refine MetFree.of_bodySF (plainFor_of_name pn_2) hisR ?_
  intro p e s m args below meth c s₁ Bd hml0 hP hK
  obtain ⟨rfl, hZ, hh⟩ := hP
  have hx := Bd.exec
  have hby := Bd.bytes
  have hml : c.maxLocals = 5 := hml0
  have hown : s.vm.findClass "com/example/verschil/verschil/rrdp/FileKind" = some m.cls := findClass_of_methodNamed Bd.named
  have hnm := (name_of_methodNamed Bd.named Bd.method).1
  have X0 : Stand p l e ({ frames := 2, cells := 1, slots := 3, locals := 28 } : Room) s m #[(.ref a1)] below meth c s₁ [] 0 0 := Stand.of_body Bd
  have e0 : s₁.heap = h0 := by rw [← hh, Bd.state]; rfl
  have N0 := Fr.nil n0
  have pre0 : ∀ t, Steps p.tables e below (s₁.setTop (mkF m 0 #[.val (.ref a1), .unset, .unset, .unset, .unset] [])) t → Steps p.tables e below (s₁.setTop (entryFrame m #[(.ref a1)] 5)) t := fun t k => castTop (ef_OD m a1) k
  have Kp : Keep h0 h0 [] := Keep.refl h0 []
  obtain ⟨_, _, ⟨T319, L319, k319, n319⟩, -, X319, ⟨Lc319, hQ319, l319, y319, z319⟩, st319⟩ := Jvm.LawKit.callS X0 hx (y := (⟨"com/example/verschil/verschil/rrdp/FileKind", "values", "()[Lcom/example/verschil/verschil/rrdp/FileKind;"⟩ : MethodName)) hown (mvT hZ (hw _ (List.mem_of_getElem? (i := 57) rfl))) (mvT hZ (hw _ (List.mem_of_getElem? (i := 58) rfl))) (mvT hZ (hw _ (List.mem_of_getElem? (i := 52) rfl))) (mvT hZ (hw _ (List.mem_of_getElem? (i := 59) rfl))) (by decide) (backOf (W := 0) (rmVL l Z a0 hw [] va kv fv kN kS kD h0 n0 Zs Ol S__VALUES E_va A_va hv0 hv1 hv2) hZ (hw _ (List.mem_of_getElem? (i := 59) rfl)) (hw _ (List.mem_of_getElem? (i := 52) rfl)) (by decide) (by decide)) (g := (mkF m 0 #[.val (.ref a1), .unset, .unset, .unset, .unset] [])) rfl (by rw [hml]; rfl) (argsL := []) (rest := []) (lenOf pd_3 rfl) rfl (by show 2 * 0 + _ ≤ _; exact Nat.le_of_eq rfl) (hb hby d11_0) (fun _ _ => ⟨rfl, e0, (by decide : 0 + 1 ≤ _), (by decide : 0 + 3 ≤ _)⟩)
  dsimp only [Pt.U, Pt.locs, Pt.cells, Pt.slots] at X319 l319 y319 z319 st319 hQ319
  subst l319 y319 z319
  obtain ⟨b_319, rfl, N319q, K319, szc_b_319, P319_2, P319_3⟩ := hQ319
  have sz_b_319 : h0.size ≤ b_319 := Nat.le_trans Kp.1 szc_b_319
  have ne_a1_b_319 : a1 ≠ b_319 := Nat.ne_of_lt (Nat.lt_of_lt_of_le E_a1.lt szc_b_319)
  have Zs : n0 ≤ T319.heap.size := Nat.le_trans Zs K319.1
  have E_a1 : Exa Z T319.heap a1 "java/lang/String" := E_a1.keep K319
  have T_a1 : Stx Z T319.heap a1 cs := T_a1.keep K319
  have Ol : Old Z n0 T319.heap := Ol.keep K319 all0
  have Kp : Keep h0 T319.heap [] := Kp.trans K319 all0
  have A_b_319 : ArR Z T319.heap b_319 kv "com/example/verschil/verschil/rrdp/FileKind" (3 : Int32) fv := P319_2
  have E_b_319 : Exa Z T319.heap b_319 "[Lcom/example/verschil/verschil/rrdp/FileKind;" := P319_3
  have N319 := Fr.app N0 N319q
  obtain ⟨cl320, Ar320, hl320⟩ := ArR.len A_b_319 (by decide)
  obtain ⟨cl321, Ar321, hs321, hin321, hat321, -⟩ := ArR.open (j := (0 : Int32)) A_b_319 (by decide)
  rw [hv0] at hat321
  obtain ⟨T322, X322, e322, st322⟩ := getF X319 hx hZ hown (host := "") (Or.inl (hw _ (List.mem_of_getElem? (i := 74) rfl))) Via.refl rfl (F_root_kN.ext Ol.2) (g := (mkF m 21 #[.val (.ref a1), .val (.ref b_319), .val (.int (3 : Int32)), .val (.int (0 : Int32)), .val (.ref kN)] [(.ref kN)])) rfl rfl (hb hby d11_21)
  obtain ⟨cq323, kq323, q323a, q323b, q323c⟩ := isOf hZ e322 (E_rN.ext Ol.2)
  obtain ⟨_, _, ⟨T323, L323, k323, n323⟩, -, X323, ⟨Lc323, hQ323, l323, y323, z323⟩, st323⟩ := X322.virtualBack hx (y := (⟨"java/lang/String", "equals", "(Ljava/lang/Object;)Z"⟩ : MethodName)) (z := (⟨"java/lang/String", "equals", "(Ljava/lang/Object;)Z"⟩ : MethodName)) hown (mvT hZ (hw _ (List.mem_of_getElem? (i := 76) rfl))) (mvT hZ (hw _ (List.mem_of_getElem? (i := 42) rfl))) (notFace_of_selects (args := #[]) (mvT hZ (hw _ (List.mem_of_getElem? (i := 44) rfl)))) (mvT hZ (hw _ (List.mem_of_getElem? (i := 44) rfl))) (mvT hZ (hw _ (List.mem_of_getElem? (i := 43) rfl))) (by decide) (own_eqF (W := 0) hZ hw (T_rN.ext Ol.2) T_a1 (Sta.ext Ol.2 S_COMPACT_STRINGS) hzc (Ne.symm hN) (by decide) (by decide)) q323a q323c (g := (mkF m 25 #[.val (.ref a1), .val (.ref b_319), .val (.int (3 : Int32)), .val (.int (0 : Int32)), .val (.ref kN)] [(.ref a1), (.ref rN)])) rfl (by rw [hml]; rfl) (Steps.refl _) (argsL := [(.ref a1)]) (rest := []) (lenOf pd_2 rfl) rfl (by show 2 * 0 + _ ≤ _; exact Nat.le_of_eq rfl) (hb hby d11_25) (fun _ _ => ⟨rfl, e322, (by decide : 1 + 0 ≤ _), (by decide : 3 + 0 ≤ _)⟩)
  dsimp only [Pt.U, Pt.locs, Pt.cells, Pt.slots] at X323 l323 y323 z323 st323 hQ323
  subst l323 y323 z323
  obtain ⟨rfl, rfl, e323⟩ := hQ323
  have N323 := Fr.app N319 (Fr.nil n0)
  obtain ⟨cl324, Ar324, hs324, hin324, hat324, -⟩ := ArR.open (j := (1 : Int32)) A_b_319 (by decide)
  rw [hv1] at hat324
  obtain ⟨T325, X325, e325, st325⟩ := getF X323 hx hZ hown (host := "") (Or.inl (hw _ (List.mem_of_getElem? (i := 74) rfl))) Via.refl e323 (F_root_kS.ext Ol.2) (g := (mkF m 21 #[.val (.ref a1), .val (.ref b_319), .val (.int (3 : Int32)), .val (.int (1 : Int32)), .val (.ref kS)] [(.ref kS)])) rfl rfl (hb hby d11_21)
  obtain ⟨cq326, kq326, q326a, q326b, q326c⟩ := isOf hZ e325 (E_rS.ext Ol.2)
  obtain ⟨_, _, ⟨T326, L326, k326, n326⟩, -, X326, ⟨Lc326, hQ326, l326, y326, z326⟩, st326⟩ := X325.virtualBack hx (y := (⟨"java/lang/String", "equals", "(Ljava/lang/Object;)Z"⟩ : MethodName)) (z := (⟨"java/lang/String", "equals", "(Ljava/lang/Object;)Z"⟩ : MethodName)) hown (mvT hZ (hw _ (List.mem_of_getElem? (i := 76) rfl))) (mvT hZ (hw _ (List.mem_of_getElem? (i := 42) rfl))) (notFace_of_selects (args := #[]) (mvT hZ (hw _ (List.mem_of_getElem? (i := 44) rfl)))) (mvT hZ (hw _ (List.mem_of_getElem? (i := 44) rfl))) (mvT hZ (hw _ (List.mem_of_getElem? (i := 43) rfl))) (by decide) (own_eqF (W := 0) hZ hw (T_rS.ext Ol.2) T_a1 (Sta.ext Ol.2 S_COMPACT_STRINGS) hzc (Ne.symm hS) (by decide) (by decide)) q326a q326c (g := (mkF m 25 #[.val (.ref a1), .val (.ref b_319), .val (.int (3 : Int32)), .val (.int (1 : Int32)), .val (.ref kS)] [(.ref a1), (.ref rS)])) rfl (by rw [hml]; rfl) (Steps.refl _) (argsL := [(.ref a1)]) (rest := []) (lenOf pd_2 rfl) rfl (by show 2 * 0 + _ ≤ _; exact Nat.le_of_eq rfl) (hb hby d11_25) (fun _ _ => ⟨rfl, e325, (by decide : 1 + 0 ≤ _), (by decide : 3 + 0 ≤ _)⟩)
  dsimp only [Pt.U, Pt.locs, Pt.cells, Pt.slots] at X326 l326 y326 z326 st326 hQ326
  subst l326 y326 z326
  obtain ⟨rfl, rfl, e326⟩ := hQ326
  have N326 := Fr.app N323 (Fr.nil n0)
  obtain ⟨cl327, Ar327, hs327, hin327, hat327, -⟩ := ArR.open (j := (2 : Int32)) A_b_319 (by decide)
  rw [hv2] at hat327
  obtain ⟨T328, X328, e328, st328⟩ := getF X326 hx hZ hown (host := "") (Or.inl (hw _ (List.mem_of_getElem? (i := 74) rfl))) Via.refl e326 (F_root_kD.ext Ol.2) (g := (mkF m 21 #[.val (.ref a1), .val (.ref b_319), .val (.int (3 : Int32)), .val (.int (2 : Int32)), .val (.ref kD)] [(.ref kD)])) rfl rfl (hb hby d11_21)
  obtain ⟨cq329, kq329, q329a, q329b, q329c⟩ := isOf hZ e328 (E_rD.ext Ol.2)
  obtain ⟨_, _, ⟨T329, L329, k329, n329⟩, -, X329, ⟨Lc329, hQ329, l329, y329, z329⟩, st329⟩ := X328.virtualBack hx (y := (⟨"java/lang/String", "equals", "(Ljava/lang/Object;)Z"⟩ : MethodName)) (z := (⟨"java/lang/String", "equals", "(Ljava/lang/Object;)Z"⟩ : MethodName)) hown (mvT hZ (hw _ (List.mem_of_getElem? (i := 76) rfl))) (mvT hZ (hw _ (List.mem_of_getElem? (i := 42) rfl))) (notFace_of_selects (args := #[]) (mvT hZ (hw _ (List.mem_of_getElem? (i := 44) rfl)))) (mvT hZ (hw _ (List.mem_of_getElem? (i := 44) rfl))) (mvT hZ (hw _ (List.mem_of_getElem? (i := 43) rfl))) (by decide) (own_eqT (W := 0) hZ hw (T_rD.ext Ol.2) T_a1 (Sta.ext Ol.2 S_COMPACT_STRINGS) hzc hD.symm (by decide) (by decide)) q329a q329c (g := (mkF m 25 #[.val (.ref a1), .val (.ref b_319), .val (.int (3 : Int32)), .val (.int (2 : Int32)), .val (.ref kD)] [(.ref a1), (.ref rD)])) rfl (by rw [hml]; rfl) (Steps.refl _) (argsL := [(.ref a1)]) (rest := []) (lenOf pd_2 rfl) rfl (by show 2 * 0 + _ ≤ _; exact Nat.le_of_eq rfl) (hb hby d11_25) (fun _ _ => ⟨rfl, e328, (by decide : 1 + 0 ≤ _), (by decide : 3 + 0 ≤ _)⟩)
  dsimp only [Pt.U, Pt.locs, Pt.cells, Pt.slots] at X329 l329 y329 z329 st329 hQ329
  subst l329 y329 z329
  obtain ⟨rfl, rfl, e329⟩ := hQ329
  have N329 := Fr.app N326 (Fr.nil n0)
  obtain ⟨fs, hr, hrun, hended, hW, hsame⟩ := X329.leave (v := some (.ref kD)) (fun h => by rw [Bd.returns] at h; cases h)
  refine ⟨_, _, pre0 _ ?_, hrun, hended, _, _, rfl, ?_, ⟨_, rfl⟩, hW, hsame.mono (by decide) (by decide)⟩
  · show Steps p.tables e below (s₁.setTop (mkF m 0 #[.val (.ref a1), .unset, .unset, .unset, .unset] [])) _
    refine st319 _ ?_
    show Steps p.tables e below (T319.setTop (mkF m 3 #[.val (.ref a1), .unset, .unset, .unset, .unset] [(.ref b_319)])) _
    refine XS.astoreN X319.here hx rfl (hb hby d11_3) rfl rfl (l' := #[.val (.ref a1), .val (.ref b_319), .unset, .unset, .unset]) rfl ?_
    show Steps p.tables e below (T319.setTop (mkF m 4 #[.val (.ref a1), .val (.ref b_319), .unset, .unset, .unset] [])) _
    refine XS.aloadN X319.here hx rfl (hb hby d11_4) rfl rfl ?_
    show Steps p.tables e below (T319.setTop (mkF m 5 #[.val (.ref a1), .val (.ref b_319), .unset, .unset, .unset] [(.ref b_319)])) _
    refine X319.arraylength hx Ar320.1 (State.isArrayOf_alike hZ.alike Ar320.2.1) (g := (mkF m 5 #[.val (.ref a1), .val (.ref b_319), .unset, .unset, .unset] [(.ref b_319)])) rfl rfl (hb hby d11_5) _ ?_
    rw [hl320]
    show Steps p.tables e below (T319.setTop (mkF m 6 #[.val (.ref a1), .val (.ref b_319), .unset, .unset, .unset] [(.int (3 : Int32))])) _
    refine XS.istoreN X319.here hx rfl (hb hby d11_6) rfl (l' := #[.val (.ref a1), .val (.ref b_319), .val (.int (3 : Int32)), .unset, .unset]) rfl ?_
    show Steps p.tables e below (T319.setTop (mkF m 7 #[.val (.ref a1), .val (.ref b_319), .val (.int (3 : Int32)), .unset, .unset] [])) _
    refine XS.iconst X319.here hx rfl (hb hby d11_7) ?_
    show Steps p.tables e below (T319.setTop (mkF m 8 #[.val (.ref a1), .val (.ref b_319), .val (.int (3 : Int32)), .unset, .unset] [(.int (0 : Int32))])) _
    refine XS.istoreN X319.here hx rfl (hb hby d11_8) rfl (l' := #[.val (.ref a1), .val (.ref b_319), .val (.int (3 : Int32)), .val (.int (0 : Int32)), .unset]) rfl ?_
    show Steps p.tables e below (T319.setTop (mkF m 9 #[.val (.ref a1), .val (.ref b_319), .val (.int (3 : Int32)), .val (.int (0 : Int32)), .unset] [])) _
    refine XS.iloadN X319.here hx rfl (hb hby d11_9) rfl ?_
    show Steps p.tables e below (T319.setTop (mkF m 10 #[.val (.ref a1), .val (.ref b_319), .val (.int (3 : Int32)), .val (.int (0 : Int32)), .unset] [(.int (0 : Int32))])) _
    refine XS.iloadN X319.here hx rfl (hb hby d11_10) rfl ?_
    show Steps p.tables e below (T319.setTop (mkF m 11 #[.val (.ref a1), .val (.ref b_319), .val (.int (3 : Int32)), .val (.int (0 : Int32)), .unset] [(.int (3 : Int32)), (.int (0 : Int32))])) _
    refine XS.icmpNo X319.here hx rfl (hb hby d11_11) rfl (tlt (by decide)).2.1 ?_
    show Steps p.tables e below (T319.setTop (mkF m 14 #[.val (.ref a1), .val (.ref b_319), .val (.int (3 : Int32)), .val (.int (0 : Int32)), .unset] [])) _
    refine XS.aloadN X319.here hx rfl (hb hby d11_14) rfl rfl ?_
    show Steps p.tables e below (T319.setTop (mkF m 15 #[.val (.ref a1), .val (.ref b_319), .val (.int (3 : Int32)), .val (.int (0 : Int32)), .unset] [(.ref b_319)])) _
    refine XS.iloadN X319.here hx rfl (hb hby d11_15) rfl ?_
    show Steps p.tables e below (T319.setTop (mkF m 16 #[.val (.ref a1), .val (.ref b_319), .val (.int (3 : Int32)), .val (.int (0 : Int32)), .unset] [(.int (0 : Int32)), (.ref b_319)])) _
    refine X319.aaload hx (j := (0 : Int32)) (v := (.ref kN)) Ar321.1 (State.isArrayOf_alike hZ.alike Ar321.2.1) rfl Ar321.2.2 hin321 hat321 (g := (mkF m 16 #[.val (.ref a1), .val (.ref b_319), .val (.int (3 : Int32)), .val (.int (0 : Int32)), .unset] [(.int (0 : Int32)), (.ref b_319)])) rfl rfl (hb hby d11_16) _ ?_
    show Steps p.tables e below (T319.setTop (mkF m 17 #[.val (.ref a1), .val (.ref b_319), .val (.int (3 : Int32)), .val (.int (0 : Int32)), .unset] [(.ref kN)])) _
    refine XS.astore X319.here hx rfl (hb hby d11_17) rfl rfl (l' := #[.val (.ref a1), .val (.ref b_319), .val (.int (3 : Int32)), .val (.int (0 : Int32)), .val (.ref kN)]) rfl ?_
    show Steps p.tables e below (T319.setTop (mkF m 19 #[.val (.ref a1), .val (.ref b_319), .val (.int (3 : Int32)), .val (.int (0 : Int32)), .val (.ref kN)] [])) _
    refine XS.aload X319.here hx rfl (hb hby d11_19) rfl rfl ?_
    show Steps p.tables e below (T319.setTop (mkF m 21 #[.val (.ref a1), .val (.ref b_319), .val (.int (3 : Int32)), .val (.int (0 : Int32)), .val (.ref kN)] [(.ref kN)])) _
    refine st322 _ ?_
    show Steps p.tables e below (T322.setTop (mkF m 24 #[.val (.ref a1), .val (.ref b_319), .val (.int (3 : Int32)), .val (.int (0 : Int32)), .val (.ref kN)] [(.ref rN)])) _
    refine XS.aloadN X322.here hx rfl (hb hby d11_24) rfl rfl ?_
    show Steps p.tables e below (T322.setTop (mkF m 25 #[.val (.ref a1), .val (.ref b_319), .val (.int (3 : Int32)), .val (.int (0 : Int32)), .val (.ref kN)] [(.ref a1), (.ref rN)])) _
    refine st323.trans ?_
    show Steps p.tables e below (T323.setTop (mkF m 28 #[.val (.ref a1), .val (.ref b_319), .val (.int (3 : Int32)), .val (.int (0 : Int32)), .val (.ref kN)] [(.int (0 : Int32))])) _
    refine XS.ifYes X323.here hx rfl (pc0 := 28) (pc' := 34) rfl (hb hby d11_28) rfl ((if0 _ _).trans (teq (by decide)).1) (by decide) (by decide) ?_
    show Steps p.tables e below (T323.setTop (mkF m 34 #[.val (.ref a1), .val (.ref b_319), .val (.int (3 : Int32)), .val (.int (0 : Int32)), .val (.ref kN)] [])) _
    refine XS.iinc X323.here hx rfl (hb hby d11_34) rfl (l' := #[.val (.ref a1), .val (.ref b_319), .val (.int (3 : Int32)), .val (.int (1 : Int32)), .val (.ref kN)]) rfl ?_
    show Steps p.tables e below (T323.setTop (mkF m 37 #[.val (.ref a1), .val (.ref b_319), .val (.int (3 : Int32)), .val (.int (1 : Int32)), .val (.ref kN)] [])) _
    refine XS.goto X323.here hx rfl (pc0 := 37) (pc' := 9) rfl (hb hby d11_37) (by decide) (by decide) ?_
    show Steps p.tables e below (T323.setTop (mkF m 9 #[.val (.ref a1), .val (.ref b_319), .val (.int (3 : Int32)), .val (.int (1 : Int32)), .val (.ref kN)] [])) _
    refine XS.iloadN X323.here hx rfl (hb hby d11_9) rfl ?_
    show Steps p.tables e below (T323.setTop (mkF m 10 #[.val (.ref a1), .val (.ref b_319), .val (.int (3 : Int32)), .val (.int (1 : Int32)), .val (.ref kN)] [(.int (1 : Int32))])) _
    refine XS.iloadN X323.here hx rfl (hb hby d11_10) rfl ?_
    show Steps p.tables e below (T323.setTop (mkF m 11 #[.val (.ref a1), .val (.ref b_319), .val (.int (3 : Int32)), .val (.int (1 : Int32)), .val (.ref kN)] [(.int (3 : Int32)), (.int (1 : Int32))])) _
    refine XS.icmpNo X323.here hx rfl (hb hby d11_11) rfl (tlt (by decide)).2.1 ?_
    show Steps p.tables e below (T323.setTop (mkF m 14 #[.val (.ref a1), .val (.ref b_319), .val (.int (3 : Int32)), .val (.int (1 : Int32)), .val (.ref kN)] [])) _
    refine XS.aloadN X323.here hx rfl (hb hby d11_14) rfl rfl ?_
    show Steps p.tables e below (T323.setTop (mkF m 15 #[.val (.ref a1), .val (.ref b_319), .val (.int (3 : Int32)), .val (.int (1 : Int32)), .val (.ref kN)] [(.ref b_319)])) _
    refine XS.iloadN X323.here hx rfl (hb hby d11_15) rfl ?_
    show Steps p.tables e below (T323.setTop (mkF m 16 #[.val (.ref a1), .val (.ref b_319), .val (.int (3 : Int32)), .val (.int (1 : Int32)), .val (.ref kN)] [(.int (1 : Int32)), (.ref b_319)])) _
    refine X323.aaload hx (j := (1 : Int32)) (v := (.ref kS)) (by rw [e323]; exact Ar324.1) (State.isArrayOf_alike hZ.alike Ar324.2.1) rfl Ar324.2.2 hin324 hat324 (g := (mkF m 16 #[.val (.ref a1), .val (.ref b_319), .val (.int (3 : Int32)), .val (.int (1 : Int32)), .val (.ref kN)] [(.int (1 : Int32)), (.ref b_319)])) rfl rfl (hb hby d11_16) _ ?_
    show Steps p.tables e below (T323.setTop (mkF m 17 #[.val (.ref a1), .val (.ref b_319), .val (.int (3 : Int32)), .val (.int (1 : Int32)), .val (.ref kN)] [(.ref kS)])) _
    refine XS.astore X323.here hx rfl (hb hby d11_17) rfl rfl (l' := #[.val (.ref a1), .val (.ref b_319), .val (.int (3 : Int32)), .val (.int (1 : Int32)), .val (.ref kS)]) rfl ?_
    show Steps p.tables e below (T323.setTop (mkF m 19 #[.val (.ref a1), .val (.ref b_319), .val (.int (3 : Int32)), .val (.int (1 : Int32)), .val (.ref kS)] [])) _
    refine XS.aload X323.here hx rfl (hb hby d11_19) rfl rfl ?_
    show Steps p.tables e below (T323.setTop (mkF m 21 #[.val (.ref a1), .val (.ref b_319), .val (.int (3 : Int32)), .val (.int (1 : Int32)), .val (.ref kS)] [(.ref kS)])) _
    refine st325 _ ?_
    show Steps p.tables e below (T325.setTop (mkF m 24 #[.val (.ref a1), .val (.ref b_319), .val (.int (3 : Int32)), .val (.int (1 : Int32)), .val (.ref kS)] [(.ref rS)])) _
    refine XS.aloadN X325.here hx rfl (hb hby d11_24) rfl rfl ?_
    show Steps p.tables e below (T325.setTop (mkF m 25 #[.val (.ref a1), .val (.ref b_319), .val (.int (3 : Int32)), .val (.int (1 : Int32)), .val (.ref kS)] [(.ref a1), (.ref rS)])) _
    refine st326.trans ?_
    show Steps p.tables e below (T326.setTop (mkF m 28 #[.val (.ref a1), .val (.ref b_319), .val (.int (3 : Int32)), .val (.int (1 : Int32)), .val (.ref kS)] [(.int (0 : Int32))])) _
    refine XS.ifYes X326.here hx rfl (pc0 := 28) (pc' := 34) rfl (hb hby d11_28) rfl ((if0 _ _).trans (teq (by decide)).1) (by decide) (by decide) ?_
    show Steps p.tables e below (T326.setTop (mkF m 34 #[.val (.ref a1), .val (.ref b_319), .val (.int (3 : Int32)), .val (.int (1 : Int32)), .val (.ref kS)] [])) _
    refine XS.iinc X326.here hx rfl (hb hby d11_34) rfl (l' := #[.val (.ref a1), .val (.ref b_319), .val (.int (3 : Int32)), .val (.int (2 : Int32)), .val (.ref kS)]) rfl ?_
    show Steps p.tables e below (T326.setTop (mkF m 37 #[.val (.ref a1), .val (.ref b_319), .val (.int (3 : Int32)), .val (.int (2 : Int32)), .val (.ref kS)] [])) _
    refine XS.goto X326.here hx rfl (pc0 := 37) (pc' := 9) rfl (hb hby d11_37) (by decide) (by decide) ?_
    show Steps p.tables e below (T326.setTop (mkF m 9 #[.val (.ref a1), .val (.ref b_319), .val (.int (3 : Int32)), .val (.int (2 : Int32)), .val (.ref kS)] [])) _
    refine XS.iloadN X326.here hx rfl (hb hby d11_9) rfl ?_
    show Steps p.tables e below (T326.setTop (mkF m 10 #[.val (.ref a1), .val (.ref b_319), .val (.int (3 : Int32)), .val (.int (2 : Int32)), .val (.ref kS)] [(.int (2 : Int32))])) _
    refine XS.iloadN X326.here hx rfl (hb hby d11_10) rfl ?_
    show Steps p.tables e below (T326.setTop (mkF m 11 #[.val (.ref a1), .val (.ref b_319), .val (.int (3 : Int32)), .val (.int (2 : Int32)), .val (.ref kS)] [(.int (3 : Int32)), (.int (2 : Int32))])) _
    refine XS.icmpNo X326.here hx rfl (hb hby d11_11) rfl (tlt (by decide)).2.1 ?_
    show Steps p.tables e below (T326.setTop (mkF m 14 #[.val (.ref a1), .val (.ref b_319), .val (.int (3 : Int32)), .val (.int (2 : Int32)), .val (.ref kS)] [])) _
    refine XS.aloadN X326.here hx rfl (hb hby d11_14) rfl rfl ?_
    show Steps p.tables e below (T326.setTop (mkF m 15 #[.val (.ref a1), .val (.ref b_319), .val (.int (3 : Int32)), .val (.int (2 : Int32)), .val (.ref kS)] [(.ref b_319)])) _
    refine XS.iloadN X326.here hx rfl (hb hby d11_15) rfl ?_
    show Steps p.tables e below (T326.setTop (mkF m 16 #[.val (.ref a1), .val (.ref b_319), .val (.int (3 : Int32)), .val (.int (2 : Int32)), .val (.ref kS)] [(.int (2 : Int32)), (.ref b_319)])) _
    refine X326.aaload hx (j := (2 : Int32)) (v := (.ref kD)) (by rw [e326]; exact Ar327.1) (State.isArrayOf_alike hZ.alike Ar327.2.1) rfl Ar327.2.2 hin327 hat327 (g := (mkF m 16 #[.val (.ref a1), .val (.ref b_319), .val (.int (3 : Int32)), .val (.int (2 : Int32)), .val (.ref kS)] [(.int (2 : Int32)), (.ref b_319)])) rfl rfl (hb hby d11_16) _ ?_
    show Steps p.tables e below (T326.setTop (mkF m 17 #[.val (.ref a1), .val (.ref b_319), .val (.int (3 : Int32)), .val (.int (2 : Int32)), .val (.ref kS)] [(.ref kD)])) _
    refine XS.astore X326.here hx rfl (hb hby d11_17) rfl rfl (l' := #[.val (.ref a1), .val (.ref b_319), .val (.int (3 : Int32)), .val (.int (2 : Int32)), .val (.ref kD)]) rfl ?_
    show Steps p.tables e below (T326.setTop (mkF m 19 #[.val (.ref a1), .val (.ref b_319), .val (.int (3 : Int32)), .val (.int (2 : Int32)), .val (.ref kD)] [])) _
    refine XS.aload X326.here hx rfl (hb hby d11_19) rfl rfl ?_
    show Steps p.tables e below (T326.setTop (mkF m 21 #[.val (.ref a1), .val (.ref b_319), .val (.int (3 : Int32)), .val (.int (2 : Int32)), .val (.ref kD)] [(.ref kD)])) _
    refine st328 _ ?_
    show Steps p.tables e below (T328.setTop (mkF m 24 #[.val (.ref a1), .val (.ref b_319), .val (.int (3 : Int32)), .val (.int (2 : Int32)), .val (.ref kD)] [(.ref rD)])) _
    refine XS.aloadN X328.here hx rfl (hb hby d11_24) rfl rfl ?_
    show Steps p.tables e below (T328.setTop (mkF m 25 #[.val (.ref a1), .val (.ref b_319), .val (.int (3 : Int32)), .val (.int (2 : Int32)), .val (.ref kD)] [(.ref a1), (.ref rD)])) _
    refine st329.trans ?_
    show Steps p.tables e below (T329.setTop (mkF m 28 #[.val (.ref a1), .val (.ref b_319), .val (.int (3 : Int32)), .val (.int (2 : Int32)), .val (.ref kD)] [(.int (1 : Int32))])) _
    refine XS.ifNo X329.here hx rfl (hb hby d11_28) rfl ((if0 _ _).trans (feq (by decide)).1) ?_
    show Steps p.tables e below (T329.setTop (mkF m 31 #[.val (.ref a1), .val (.ref b_319), .val (.int (3 : Int32)), .val (.int (2 : Int32)), .val (.ref kD)] [])) _
    refine XS.aload X329.here hx rfl (hb hby d11_31) rfl rfl ?_
    show Steps p.tables e below (T329.setTop (mkF m 33 #[.val (.ref a1), .val (.ref b_319), .val (.int (3 : Int32)), .val (.int (2 : Int32)), .val (.ref kD)] [(.ref kD)])) _
    exact retOut X329 hx Bd.returns rfl (Or.inr (Or.inr (Or.inr (Or.inr ⟨rfl, rfl, rfl⟩)))) (hb hby d11_33) hr
  · show QOD Z a1 cs zc va kv fv kN kS kD rN rS rD h0 n0 _ T329.heap _
    rw [e329]
    exact ⟨rfl, N329, Kp⟩
def QO0 (Z : State) (a1 : Addr) (cs : List Int32) (zc : Int32) (va : Addr) (kv : ClassId) (fv : Nat → Value) (kN : Addr) (kS : Addr) (kD : Addr) (rN : Addr) (rS : Addr) (rD : Addr) (h0 : Heap) (n0 : Nat) (v : Option Value) (h : Heap) (L : List Loc) : Prop := v = some .null ∧ Fr n0 L ∧ (Keep h0 h [])
theorem ef_O0 (m : MethodId) (a1 : Addr) : entryFrame m #[(.ref a1)] 5 = mkF m 0 #[.val (.ref a1), .unset, .unset, .unset, .unset] [] := by first | (simp [entryFrame, mkF, argsToLocals, Value.category]; done) | rfl
set_option maxRecDepth 65536 in
set_option maxHeartbeats 40000000 in
theorem rmO0 (l : Launch) (Z : State) (a0 : Array Value) (hw : ∀ d ∈ tables_1, d.before a0 Z = true) (ws : List Jvm.Cond) (a1 : Addr) (cs : List Int32) (zc : Int32) (va : Addr) (kv : ClassId) (fv : Nat → Value) (kN : Addr) (kS : Addr) (kD : Addr) (rN : Addr) (rS : Addr) (rD : Addr) (h0 : Heap) (n0 : Nat) (Zs : n0 ≤ h0.size) (E_a1 : Exa Z h0 a1 "java/lang/String") (T_a1 : Stx Z h0 a1 cs) (Ol : Old Z n0 h0) (S_COMPACT_STRINGS : Sta Z Z.heap "java/lang/String" "COMPACT_STRINGS" "Z" (.int zc)) (hzc : ¬ zc = 0) (S__VALUES : Sta Z Z.heap "com/example/verschil/verschil/rrdp/FileKind" "$VALUES" "[Lcom/example/verschil/verschil/rrdp/FileKind;" (.ref va)) (E_va : Exa Z Z.heap va "[Lcom/example/verschil/verschil/rrdp/FileKind;") (A_va : ArR Z Z.heap va kv "com/example/verschil/verschil/rrdp/FileKind" (3 : Int32) fv) (hv0 : fv (0 : Int32).toNatClampNeg = .ref kN) (hv1 : fv (1 : Int32).toNatClampNeg = .ref kS) (hv2 : fv (2 : Int32).toNatClampNeg = .ref kD) (F_root_kN : Fld Z Z.heap kN "com/example/verschil/verschil/rrdp/FileKind" "root" "Ljava/lang/String;" (.ref rN)) (E_rN : Exa Z Z.heap rN "java/lang/String") (T_rN : Stx Z Z.heap rN [(110 : Int32), (111 : Int32), (116 : Int32), (105 : Int32), (102 : Int32), (105 : Int32), (99 : Int32), (97 : Int32), (116 : Int32), (105 : Int32), (111 : Int32), (110 : Int32)]) (F_root_kS : Fld Z Z.heap kS "com/example/verschil/verschil/rrdp/FileKind" "root" "Ljava/lang/String;" (.ref rS)) (E_rS : Exa Z Z.heap rS "java/lang/String") (T_rS : Stx Z Z.heap rS [(115 : Int32), (110 : Int32), (97 : Int32), (112 : Int32), (115 : Int32), (104 : Int32), (111 : Int32), (116 : Int32)]) (F_root_kD : Fld Z Z.heap kD "com/example/verschil/verschil/rrdp/FileKind" "root" "Ljava/lang/String;" (.ref rD)) (E_rD : Exa Z Z.heap rD "java/lang/String") (T_rD : Stx Z Z.heap rD [(100 : Int32), (101 : Int32), (108 : Int32), (116 : Int32), (97 : Int32)]) (hN : ¬ cs = [(110 : Int32), (111 : Int32), (116 : Int32), (105 : Int32), (102 : Int32), (105 : Int32), (99 : Int32), (97 : Int32), (116 : Int32), (105 : Int32), (111 : Int32), (110 : Int32)]) (hS : ¬ cs = [(115 : Int32), (110 : Int32), (97 : Int32), (112 : Int32), (115 : Int32), (104 : Int32), (111 : Int32), (116 : Int32)]) (hD : ¬ cs = [(100 : Int32), (101 : Int32), (108 : Int32), (116 : Int32), (97 : Int32)]) :
    MetFree l (⟨"com/example/verschil/verschil/rrdp/FileKind", "ofRoot", "(Ljava/lang/String;)Lcom/example/verschil/verschil/rrdp/FileKind;"⟩ : MethodName) (head1 (Jvm.Cond.code (⟨"com/example/verschil/verschil/rrdp/FileKind", "ofRoot", "(Ljava/lang/String;)Lcom/example/verschil/verschil/rrdp/FileKind;"⟩ : MethodName) prog_84_method_5_code 5 (some (.object "com/example/verschil/verschil/rrdp/FileKind")) :: ws) ({ frames := 2, cells := 1, slots := 3, locals := 28 } : Room)) (fun a U => a = #[(.ref a1)] ∧ Z.Warmed39 U.vm ∧ U.heap = h0) (fun _ _ _ _ _ => True) (fun _ U o U' => ∃ v L, o = .returned v ∧ QO0 Z a1 cs zc va kv fv kN kS kD rN rS rD h0 n0 v U'.heap L ∧ FrameEnd U o U' L ({ frames := 2, cells := 1, slots := 3, locals := 28 } : Room).cells ({ frames := 2, cells := 1, slots := 3, locals := 28 } : Room).slots) := by
  refine MetFree.of_bodySF (plainFor_of_name pn_2) hisR ?_
  intro p e s m args below meth c s₁ Bd hml0 hP hK
  obtain ⟨rfl, hZ, hh⟩ := hP
  have hx := Bd.exec
  have hby := Bd.bytes
  have hml : c.maxLocals = 5 := hml0
  have hown : s.vm.findClass "com/example/verschil/verschil/rrdp/FileKind" = some m.cls := findClass_of_methodNamed Bd.named
  have hnm := (name_of_methodNamed Bd.named Bd.method).1
  have X0 : Stand p l e ({ frames := 2, cells := 1, slots := 3, locals := 28 } : Room) s m #[(.ref a1)] below meth c s₁ [] 0 0 := Stand.of_body Bd
  have e0 : s₁.heap = h0 := by rw [← hh, Bd.state]; rfl
  have N0 := Fr.nil n0
  have pre0 : ∀ t, Steps p.tables e below (s₁.setTop (mkF m 0 #[.val (.ref a1), .unset, .unset, .unset, .unset] [])) t → Steps p.tables e below (s₁.setTop (entryFrame m #[(.ref a1)] 5)) t := fun t k => castTop (ef_O0 m a1) k
  have Kp : Keep h0 h0 [] := Keep.refl h0 []
  obtain ⟨_, _, ⟨T330, L330, k330, n330⟩, -, X330, ⟨Lc330, hQ330, l330, y330, z330⟩, st330⟩ := Jvm.LawKit.callS X0 hx (y := (⟨"com/example/verschil/verschil/rrdp/FileKind", "values", "()[Lcom/example/verschil/verschil/rrdp/FileKind;"⟩ : MethodName)) hown (mvT hZ (hw _ (List.mem_of_getElem? (i := 57) rfl))) (mvT hZ (hw _ (List.mem_of_getElem? (i := 58) rfl))) (mvT hZ (hw _ (List.mem_of_getElem? (i := 52) rfl))) (mvT hZ (hw _ (List.mem_of_getElem? (i := 59) rfl))) (by decide) (backOf (W := 0) (rmVL l Z a0 hw [] va kv fv kN kS kD h0 n0 Zs Ol S__VALUES E_va A_va hv0 hv1 hv2) hZ (hw _ (List.mem_of_getElem? (i := 59) rfl)) (hw _ (List.mem_of_getElem? (i := 52) rfl)) (by decide) (by decide)) (g := (mkF m 0 #[.val (.ref a1), .unset, .unset, .unset, .unset] [])) rfl (by rw [hml]; rfl) (argsL := []) (rest := []) (lenOf pd_3 rfl) rfl (by show 2 * 0 + _ ≤ _; exact Nat.le_of_eq rfl) (hb hby d11_0) (fun _ _ => ⟨rfl, e0, (by decide : 0 + 1 ≤ _), (by decide : 0 + 3 ≤ _)⟩)
  dsimp only [Pt.U, Pt.locs, Pt.cells, Pt.slots] at X330 l330 y330 z330 st330 hQ330
  subst l330 y330 z330
  obtain ⟨b_330, rfl, N330q, K330, szc_b_330, P330_2, P330_3⟩ := hQ330
  have sz_b_330 : h0.size ≤ b_330 := Nat.le_trans Kp.1 szc_b_330
  have ne_a1_b_330 : a1 ≠ b_330 := Nat.ne_of_lt (Nat.lt_of_lt_of_le E_a1.lt szc_b_330)
  have Zs : n0 ≤ T330.heap.size := Nat.le_trans Zs K330.1
  have E_a1 : Exa Z T330.heap a1 "java/lang/String" := E_a1.keep K330
  have T_a1 : Stx Z T330.heap a1 cs := T_a1.keep K330
  have Ol : Old Z n0 T330.heap := Ol.keep K330 all0
  have Kp : Keep h0 T330.heap [] := Kp.trans K330 all0
  have A_b_330 : ArR Z T330.heap b_330 kv "com/example/verschil/verschil/rrdp/FileKind" (3 : Int32) fv := P330_2
  have E_b_330 : Exa Z T330.heap b_330 "[Lcom/example/verschil/verschil/rrdp/FileKind;" := P330_3
  have N330 := Fr.app N0 N330q
  obtain ⟨cl331, Ar331, hl331⟩ := ArR.len A_b_330 (by decide)
  obtain ⟨cl332, Ar332, hs332, hin332, hat332, -⟩ := ArR.open (j := (0 : Int32)) A_b_330 (by decide)
  rw [hv0] at hat332
  obtain ⟨T333, X333, e333, st333⟩ := getF X330 hx hZ hown (host := "") (Or.inl (hw _ (List.mem_of_getElem? (i := 74) rfl))) Via.refl rfl (F_root_kN.ext Ol.2) (g := (mkF m 21 #[.val (.ref a1), .val (.ref b_330), .val (.int (3 : Int32)), .val (.int (0 : Int32)), .val (.ref kN)] [(.ref kN)])) rfl rfl (hb hby d11_21)
  obtain ⟨cq334, kq334, q334a, q334b, q334c⟩ := isOf hZ e333 (E_rN.ext Ol.2)
  obtain ⟨_, _, ⟨T334, L334, k334, n334⟩, -, X334, ⟨Lc334, hQ334, l334, y334, z334⟩, st334⟩ := X333.virtualBack hx (y := (⟨"java/lang/String", "equals", "(Ljava/lang/Object;)Z"⟩ : MethodName)) (z := (⟨"java/lang/String", "equals", "(Ljava/lang/Object;)Z"⟩ : MethodName)) hown (mvT hZ (hw _ (List.mem_of_getElem? (i := 76) rfl))) (mvT hZ (hw _ (List.mem_of_getElem? (i := 42) rfl))) (notFace_of_selects (args := #[]) (mvT hZ (hw _ (List.mem_of_getElem? (i := 44) rfl)))) (mvT hZ (hw _ (List.mem_of_getElem? (i := 44) rfl))) (mvT hZ (hw _ (List.mem_of_getElem? (i := 43) rfl))) (by decide) (own_eqF (W := 0) hZ hw (T_rN.ext Ol.2) T_a1 (Sta.ext Ol.2 S_COMPACT_STRINGS) hzc (Ne.symm hN) (by decide) (by decide)) q334a q334c (g := (mkF m 25 #[.val (.ref a1), .val (.ref b_330), .val (.int (3 : Int32)), .val (.int (0 : Int32)), .val (.ref kN)] [(.ref a1), (.ref rN)])) rfl (by rw [hml]; rfl) (Steps.refl _) (argsL := [(.ref a1)]) (rest := []) (lenOf pd_2 rfl) rfl (by show 2 * 0 + _ ≤ _; exact Nat.le_of_eq rfl) (hb hby d11_25) (fun _ _ => ⟨rfl, e333, (by decide : 1 + 0 ≤ _), (by decide : 3 + 0 ≤ _)⟩)
  dsimp only [Pt.U, Pt.locs, Pt.cells, Pt.slots] at X334 l334 y334 z334 st334 hQ334
  subst l334 y334 z334
  obtain ⟨rfl, rfl, e334⟩ := hQ334
  have N334 := Fr.app N330 (Fr.nil n0)
  obtain ⟨cl335, Ar335, hs335, hin335, hat335, -⟩ := ArR.open (j := (1 : Int32)) A_b_330 (by decide)
  rw [hv1] at hat335
  obtain ⟨T336, X336, e336, st336⟩ := getF X334 hx hZ hown (host := "") (Or.inl (hw _ (List.mem_of_getElem? (i := 74) rfl))) Via.refl e334 (F_root_kS.ext Ol.2) (g := (mkF m 21 #[.val (.ref a1), .val (.ref b_330), .val (.int (3 : Int32)), .val (.int (1 : Int32)), .val (.ref kS)] [(.ref kS)])) rfl rfl (hb hby d11_21)
  obtain ⟨cq337, kq337, q337a, q337b, q337c⟩ := isOf hZ e336 (E_rS.ext Ol.2)
  obtain ⟨_, _, ⟨T337, L337, k337, n337⟩, -, X337, ⟨Lc337, hQ337, l337, y337, z337⟩, st337⟩ := X336.virtualBack hx (y := (⟨"java/lang/String", "equals", "(Ljava/lang/Object;)Z"⟩ : MethodName)) (z := (⟨"java/lang/String", "equals", "(Ljava/lang/Object;)Z"⟩ : MethodName)) hown (mvT hZ (hw _ (List.mem_of_getElem? (i := 76) rfl))) (mvT hZ (hw _ (List.mem_of_getElem? (i := 42) rfl))) (notFace_of_selects (args := #[]) (mvT hZ (hw _ (List.mem_of_getElem? (i := 44) rfl)))) (mvT hZ (hw _ (List.mem_of_getElem? (i := 44) rfl))) (mvT hZ (hw _ (List.mem_of_getElem? (i := 43) rfl))) (by decide) (own_eqF (W := 0) hZ hw (T_rS.ext Ol.2) T_a1 (Sta.ext Ol.2 S_COMPACT_STRINGS) hzc (Ne.symm hS) (by decide) (by decide)) q337a q337c (g := (mkF m 25 #[.val (.ref a1), .val (.ref b_330), .val (.int (3 : Int32)), .val (.int (1 : Int32)), .val (.ref kS)] [(.ref a1), (.ref rS)])) rfl (by rw [hml]; rfl) (Steps.refl _) (argsL := [(.ref a1)]) (rest := []) (lenOf pd_2 rfl) rfl (by show 2 * 0 + _ ≤ _; exact Nat.le_of_eq rfl) (hb hby d11_25) (fun _ _ => ⟨rfl, e336, (by decide : 1 + 0 ≤ _), (by decide : 3 + 0 ≤ _)⟩)
  dsimp only [Pt.U, Pt.locs, Pt.cells, Pt.slots] at X337 l337 y337 z337 st337 hQ337
  subst l337 y337 z337
  obtain ⟨rfl, rfl, e337⟩ := hQ337
  have N337 := Fr.app N334 (Fr.nil n0)
  obtain ⟨cl338, Ar338, hs338, hin338, hat338, -⟩ := ArR.open (j := (2 : Int32)) A_b_330 (by decide)
  rw [hv2] at hat338
  obtain ⟨T339, X339, e339, st339⟩ := getF X337 hx hZ hown (host := "") (Or.inl (hw _ (List.mem_of_getElem? (i := 74) rfl))) Via.refl e337 (F_root_kD.ext Ol.2) (g := (mkF m 21 #[.val (.ref a1), .val (.ref b_330), .val (.int (3 : Int32)), .val (.int (2 : Int32)), .val (.ref kD)] [(.ref kD)])) rfl rfl (hb hby d11_21)
  obtain ⟨cq340, kq340, q340a, q340b, q340c⟩ := isOf hZ e339 (E_rD.ext Ol.2)
  obtain ⟨_, _, ⟨T340, L340, k340, n340⟩, -, X340, ⟨Lc340, hQ340, l340, y340, z340⟩, st340⟩ := X339.virtualBack hx (y := (⟨"java/lang/String", "equals", "(Ljava/lang/Object;)Z"⟩ : MethodName)) (z := (⟨"java/lang/String", "equals", "(Ljava/lang/Object;)Z"⟩ : MethodName)) hown (mvT hZ (hw _ (List.mem_of_getElem? (i := 76) rfl))) (mvT hZ (hw _ (List.mem_of_getElem? (i := 42) rfl))) (notFace_of_selects (args := #[]) (mvT hZ (hw _ (List.mem_of_getElem? (i := 44) rfl)))) (mvT hZ (hw _ (List.mem_of_getElem? (i := 44) rfl))) (mvT hZ (hw _ (List.mem_of_getElem? (i := 43) rfl))) (by decide) (own_eqF (W := 0) hZ hw (T_rD.ext Ol.2) T_a1 (Sta.ext Ol.2 S_COMPACT_STRINGS) hzc (Ne.symm hD) (by decide) (by decide)) q340a q340c (g := (mkF m 25 #[.val (.ref a1), .val (.ref b_330), .val (.int (3 : Int32)), .val (.int (2 : Int32)), .val (.ref kD)] [(.ref a1), (.ref rD)])) rfl (by rw [hml]; rfl) (Steps.refl _) (argsL := [(.ref a1)]) (rest := []) (lenOf pd_2 rfl) rfl (by show 2 * 0 + _ ≤ _; exact Nat.le_of_eq rfl) (hb hby d11_25) (fun _ _ => ⟨rfl, e339, (by decide : 1 + 0 ≤ _), (by decide : 3 + 0 ≤ _)⟩)
  dsimp only [Pt.U, Pt.locs, Pt.cells, Pt.slots] at X340 l340 y340 z340 st340 hQ340
  subst l340 y340 z340
  obtain ⟨rfl, rfl, e340⟩ := hQ340
  have N340 := Fr.app N337 (Fr.nil n0)
  obtain ⟨fs, hr, hrun, hended, hW, hsame⟩ := X340.leave (v := some .null) (fun h => by rw [Bd.returns] at h; cases h)
  refine ⟨_, _, pre0 _ ?_, hrun, hended, _, _, rfl, ?_, ⟨_, rfl⟩, hW, hsame.mono (by decide) (by decide)⟩
  · show Steps p.tables e below (s₁.setTop (mkF m 0 #[.val (.ref a1), .unset, .unset, .unset, .unset] [])) _
    refine st330 _ ?_
    show Steps p.tables e below (T330.setTop (mkF m 3 #[.val (.ref a1), .unset, .unset, .unset, .unset] [(.ref b_330)])) _
    refine XS.astoreN X330.here hx rfl (hb hby d11_3) rfl rfl (l' := #[.val (.ref a1), .val (.ref b_330), .unset, .unset, .unset]) rfl ?_
    show Steps p.tables e below (T330.setTop (mkF m 4 #[.val (.ref a1), .val (.ref b_330), .unset, .unset, .unset] [])) _
    refine XS.aloadN X330.here hx rfl (hb hby d11_4) rfl rfl ?_
    show Steps p.tables e below (T330.setTop (mkF m 5 #[.val (.ref a1), .val (.ref b_330), .unset, .unset, .unset] [(.ref b_330)])) _
    refine X330.arraylength hx Ar331.1 (State.isArrayOf_alike hZ.alike Ar331.2.1) (g := (mkF m 5 #[.val (.ref a1), .val (.ref b_330), .unset, .unset, .unset] [(.ref b_330)])) rfl rfl (hb hby d11_5) _ ?_
    rw [hl331]
    show Steps p.tables e below (T330.setTop (mkF m 6 #[.val (.ref a1), .val (.ref b_330), .unset, .unset, .unset] [(.int (3 : Int32))])) _
    refine XS.istoreN X330.here hx rfl (hb hby d11_6) rfl (l' := #[.val (.ref a1), .val (.ref b_330), .val (.int (3 : Int32)), .unset, .unset]) rfl ?_
    show Steps p.tables e below (T330.setTop (mkF m 7 #[.val (.ref a1), .val (.ref b_330), .val (.int (3 : Int32)), .unset, .unset] [])) _
    refine XS.iconst X330.here hx rfl (hb hby d11_7) ?_
    show Steps p.tables e below (T330.setTop (mkF m 8 #[.val (.ref a1), .val (.ref b_330), .val (.int (3 : Int32)), .unset, .unset] [(.int (0 : Int32))])) _
    refine XS.istoreN X330.here hx rfl (hb hby d11_8) rfl (l' := #[.val (.ref a1), .val (.ref b_330), .val (.int (3 : Int32)), .val (.int (0 : Int32)), .unset]) rfl ?_
    show Steps p.tables e below (T330.setTop (mkF m 9 #[.val (.ref a1), .val (.ref b_330), .val (.int (3 : Int32)), .val (.int (0 : Int32)), .unset] [])) _
    refine XS.iloadN X330.here hx rfl (hb hby d11_9) rfl ?_
    show Steps p.tables e below (T330.setTop (mkF m 10 #[.val (.ref a1), .val (.ref b_330), .val (.int (3 : Int32)), .val (.int (0 : Int32)), .unset] [(.int (0 : Int32))])) _
    refine XS.iloadN X330.here hx rfl (hb hby d11_10) rfl ?_
    show Steps p.tables e below (T330.setTop (mkF m 11 #[.val (.ref a1), .val (.ref b_330), .val (.int (3 : Int32)), .val (.int (0 : Int32)), .unset] [(.int (3 : Int32)), (.int (0 : Int32))])) _
    refine XS.icmpNo X330.here hx rfl (hb hby d11_11) rfl (tlt (by decide)).2.1 ?_
    show Steps p.tables e below (T330.setTop (mkF m 14 #[.val (.ref a1), .val (.ref b_330), .val (.int (3 : Int32)), .val (.int (0 : Int32)), .unset] [])) _
    refine XS.aloadN X330.here hx rfl (hb hby d11_14) rfl rfl ?_
    show Steps p.tables e below (T330.setTop (mkF m 15 #[.val (.ref a1), .val (.ref b_330), .val (.int (3 : Int32)), .val (.int (0 : Int32)), .unset] [(.ref b_330)])) _
    refine XS.iloadN X330.here hx rfl (hb hby d11_15) rfl ?_
    show Steps p.tables e below (T330.setTop (mkF m 16 #[.val (.ref a1), .val (.ref b_330), .val (.int (3 : Int32)), .val (.int (0 : Int32)), .unset] [(.int (0 : Int32)), (.ref b_330)])) _
    refine X330.aaload hx (j := (0 : Int32)) (v := (.ref kN)) Ar332.1 (State.isArrayOf_alike hZ.alike Ar332.2.1) rfl Ar332.2.2 hin332 hat332 (g := (mkF m 16 #[.val (.ref a1), .val (.ref b_330), .val (.int (3 : Int32)), .val (.int (0 : Int32)), .unset] [(.int (0 : Int32)), (.ref b_330)])) rfl rfl (hb hby d11_16) _ ?_
    show Steps p.tables e below (T330.setTop (mkF m 17 #[.val (.ref a1), .val (.ref b_330), .val (.int (3 : Int32)), .val (.int (0 : Int32)), .unset] [(.ref kN)])) _
    refine XS.astore X330.here hx rfl (hb hby d11_17) rfl rfl (l' := #[.val (.ref a1), .val (.ref b_330), .val (.int (3 : Int32)), .val (.int (0 : Int32)), .val (.ref kN)]) rfl ?_
    show Steps p.tables e below (T330.setTop (mkF m 19 #[.val (.ref a1), .val (.ref b_330), .val (.int (3 : Int32)), .val (.int (0 : Int32)), .val (.ref kN)] [])) _
    refine XS.aload X330.here hx rfl (hb hby d11_19) rfl rfl ?_
    show Steps p.tables e below (T330.setTop (mkF m 21 #[.val (.ref a1), .val (.ref b_330), .val (.int (3 : Int32)), .val (.int (0 : Int32)), .val (.ref kN)] [(.ref kN)])) _
    refine st333 _ ?_
    show Steps p.tables e below (T333.setTop (mkF m 24 #[.val (.ref a1), .val (.ref b_330), .val (.int (3 : Int32)), .val (.int (0 : Int32)), .val (.ref kN)] [(.ref rN)])) _
    refine XS.aloadN X333.here hx rfl (hb hby d11_24) rfl rfl ?_
    show Steps p.tables e below (T333.setTop (mkF m 25 #[.val (.ref a1), .val (.ref b_330), .val (.int (3 : Int32)), .val (.int (0 : Int32)), .val (.ref kN)] [(.ref a1), (.ref rN)])) _
    refine st334.trans ?_
    show Steps p.tables e below (T334.setTop (mkF m 28 #[.val (.ref a1), .val (.ref b_330), .val (.int (3 : Int32)), .val (.int (0 : Int32)), .val (.ref kN)] [(.int (0 : Int32))])) _
    refine XS.ifYes X334.here hx rfl (pc0 := 28) (pc' := 34) rfl (hb hby d11_28) rfl ((if0 _ _).trans (teq (by decide)).1) (by decide) (by decide) ?_
    show Steps p.tables e below (T334.setTop (mkF m 34 #[.val (.ref a1), .val (.ref b_330), .val (.int (3 : Int32)), .val (.int (0 : Int32)), .val (.ref kN)] [])) _
    refine XS.iinc X334.here hx rfl (hb hby d11_34) rfl (l' := #[.val (.ref a1), .val (.ref b_330), .val (.int (3 : Int32)), .val (.int (1 : Int32)), .val (.ref kN)]) rfl ?_
    show Steps p.tables e below (T334.setTop (mkF m 37 #[.val (.ref a1), .val (.ref b_330), .val (.int (3 : Int32)), .val (.int (1 : Int32)), .val (.ref kN)] [])) _
    refine XS.goto X334.here hx rfl (pc0 := 37) (pc' := 9) rfl (hb hby d11_37) (by decide) (by decide) ?_
    show Steps p.tables e below (T334.setTop (mkF m 9 #[.val (.ref a1), .val (.ref b_330), .val (.int (3 : Int32)), .val (.int (1 : Int32)), .val (.ref kN)] [])) _
    refine XS.iloadN X334.here hx rfl (hb hby d11_9) rfl ?_
    show Steps p.tables e below (T334.setTop (mkF m 10 #[.val (.ref a1), .val (.ref b_330), .val (.int (3 : Int32)), .val (.int (1 : Int32)), .val (.ref kN)] [(.int (1 : Int32))])) _
    refine XS.iloadN X334.here hx rfl (hb hby d11_10) rfl ?_
    show Steps p.tables e below (T334.setTop (mkF m 11 #[.val (.ref a1), .val (.ref b_330), .val (.int (3 : Int32)), .val (.int (1 : Int32)), .val (.ref kN)] [(.int (3 : Int32)), (.int (1 : Int32))])) _
    refine XS.icmpNo X334.here hx rfl (hb hby d11_11) rfl (tlt (by decide)).2.1 ?_
    show Steps p.tables e below (T334.setTop (mkF m 14 #[.val (.ref a1), .val (.ref b_330), .val (.int (3 : Int32)), .val (.int (1 : Int32)), .val (.ref kN)] [])) _
    refine XS.aloadN X334.here hx rfl (hb hby d11_14) rfl rfl ?_
    show Steps p.tables e below (T334.setTop (mkF m 15 #[.val (.ref a1), .val (.ref b_330), .val (.int (3 : Int32)), .val (.int (1 : Int32)), .val (.ref kN)] [(.ref b_330)])) _
    refine XS.iloadN X334.here hx rfl (hb hby d11_15) rfl ?_
    show Steps p.tables e below (T334.setTop (mkF m 16 #[.val (.ref a1), .val (.ref b_330), .val (.int (3 : Int32)), .val (.int (1 : Int32)), .val (.ref kN)] [(.int (1 : Int32)), (.ref b_330)])) _
    refine X334.aaload hx (j := (1 : Int32)) (v := (.ref kS)) (by rw [e334]; exact Ar335.1) (State.isArrayOf_alike hZ.alike Ar335.2.1) rfl Ar335.2.2 hin335 hat335 (g := (mkF m 16 #[.val (.ref a1), .val (.ref b_330), .val (.int (3 : Int32)), .val (.int (1 : Int32)), .val (.ref kN)] [(.int (1 : Int32)), (.ref b_330)])) rfl rfl (hb hby d11_16) _ ?_
    show Steps p.tables e below (T334.setTop (mkF m 17 #[.val (.ref a1), .val (.ref b_330), .val (.int (3 : Int32)), .val (.int (1 : Int32)), .val (.ref kN)] [(.ref kS)])) _
    refine XS.astore X334.here hx rfl (hb hby d11_17) rfl rfl (l' := #[.val (.ref a1), .val (.ref b_330), .val (.int (3 : Int32)), .val (.int (1 : Int32)), .val (.ref kS)]) rfl ?_
    show Steps p.tables e below (T334.setTop (mkF m 19 #[.val (.ref a1), .val (.ref b_330), .val (.int (3 : Int32)), .val (.int (1 : Int32)), .val (.ref kS)] [])) _
    refine XS.aload X334.here hx rfl (hb hby d11_19) rfl rfl ?_
    show Steps p.tables e below (T334.setTop (mkF m 21 #[.val (.ref a1), .val (.ref b_330), .val (.int (3 : Int32)), .val (.int (1 : Int32)), .val (.ref kS)] [(.ref kS)])) _
    refine st336 _ ?_
    show Steps p.tables e below (T336.setTop (mkF m 24 #[.val (.ref a1), .val (.ref b_330), .val (.int (3 : Int32)), .val (.int (1 : Int32)), .val (.ref kS)] [(.ref rS)])) _
    refine XS.aloadN X336.here hx rfl (hb hby d11_24) rfl rfl ?_
    show Steps p.tables e below (T336.setTop (mkF m 25 #[.val (.ref a1), .val (.ref b_330), .val (.int (3 : Int32)), .val (.int (1 : Int32)), .val (.ref kS)] [(.ref a1), (.ref rS)])) _
    refine st337.trans ?_
    show Steps p.tables e below (T337.setTop (mkF m 28 #[.val (.ref a1), .val (.ref b_330), .val (.int (3 : Int32)), .val (.int (1 : Int32)), .val (.ref kS)] [(.int (0 : Int32))])) _
    refine XS.ifYes X337.here hx rfl (pc0 := 28) (pc' := 34) rfl (hb hby d11_28) rfl ((if0 _ _).trans (teq (by decide)).1) (by decide) (by decide) ?_
    show Steps p.tables e below (T337.setTop (mkF m 34 #[.val (.ref a1), .val (.ref b_330), .val (.int (3 : Int32)), .val (.int (1 : Int32)), .val (.ref kS)] [])) _
    refine XS.iinc X337.here hx rfl (hb hby d11_34) rfl (l' := #[.val (.ref a1), .val (.ref b_330), .val (.int (3 : Int32)), .val (.int (2 : Int32)), .val (.ref kS)]) rfl ?_
    show Steps p.tables e below (T337.setTop (mkF m 37 #[.val (.ref a1), .val (.ref b_330), .val (.int (3 : Int32)), .val (.int (2 : Int32)), .val (.ref kS)] [])) _
    refine XS.goto X337.here hx rfl (pc0 := 37) (pc' := 9) rfl (hb hby d11_37) (by decide) (by decide) ?_
    show Steps p.tables e below (T337.setTop (mkF m 9 #[.val (.ref a1), .val (.ref b_330), .val (.int (3 : Int32)), .val (.int (2 : Int32)), .val (.ref kS)] [])) _
    refine XS.iloadN X337.here hx rfl (hb hby d11_9) rfl ?_
    show Steps p.tables e below (T337.setTop (mkF m 10 #[.val (.ref a1), .val (.ref b_330), .val (.int (3 : Int32)), .val (.int (2 : Int32)), .val (.ref kS)] [(.int (2 : Int32))])) _
    refine XS.iloadN X337.here hx rfl (hb hby d11_10) rfl ?_
    show Steps p.tables e below (T337.setTop (mkF m 11 #[.val (.ref a1), .val (.ref b_330), .val (.int (3 : Int32)), .val (.int (2 : Int32)), .val (.ref kS)] [(.int (3 : Int32)), (.int (2 : Int32))])) _
    refine XS.icmpNo X337.here hx rfl (hb hby d11_11) rfl (tlt (by decide)).2.1 ?_
    show Steps p.tables e below (T337.setTop (mkF m 14 #[.val (.ref a1), .val (.ref b_330), .val (.int (3 : Int32)), .val (.int (2 : Int32)), .val (.ref kS)] [])) _
    refine XS.aloadN X337.here hx rfl (hb hby d11_14) rfl rfl ?_
    show Steps p.tables e below (T337.setTop (mkF m 15 #[.val (.ref a1), .val (.ref b_330), .val (.int (3 : Int32)), .val (.int (2 : Int32)), .val (.ref kS)] [(.ref b_330)])) _
    refine XS.iloadN X337.here hx rfl (hb hby d11_15) rfl ?_
    show Steps p.tables e below (T337.setTop (mkF m 16 #[.val (.ref a1), .val (.ref b_330), .val (.int (3 : Int32)), .val (.int (2 : Int32)), .val (.ref kS)] [(.int (2 : Int32)), (.ref b_330)])) _
    refine X337.aaload hx (j := (2 : Int32)) (v := (.ref kD)) (by rw [e337]; exact Ar338.1) (State.isArrayOf_alike hZ.alike Ar338.2.1) rfl Ar338.2.2 hin338 hat338 (g := (mkF m 16 #[.val (.ref a1), .val (.ref b_330), .val (.int (3 : Int32)), .val (.int (2 : Int32)), .val (.ref kS)] [(.int (2 : Int32)), (.ref b_330)])) rfl rfl (hb hby d11_16) _ ?_
    show Steps p.tables e below (T337.setTop (mkF m 17 #[.val (.ref a1), .val (.ref b_330), .val (.int (3 : Int32)), .val (.int (2 : Int32)), .val (.ref kS)] [(.ref kD)])) _
    refine XS.astore X337.here hx rfl (hb hby d11_17) rfl rfl (l' := #[.val (.ref a1), .val (.ref b_330), .val (.int (3 : Int32)), .val (.int (2 : Int32)), .val (.ref kD)]) rfl ?_
    show Steps p.tables e below (T337.setTop (mkF m 19 #[.val (.ref a1), .val (.ref b_330), .val (.int (3 : Int32)), .val (.int (2 : Int32)), .val (.ref kD)] [])) _
    refine XS.aload X337.here hx rfl (hb hby d11_19) rfl rfl ?_
    show Steps p.tables e below (T337.setTop (mkF m 21 #[.val (.ref a1), .val (.ref b_330), .val (.int (3 : Int32)), .val (.int (2 : Int32)), .val (.ref kD)] [(.ref kD)])) _
    refine st339 _ ?_
    show Steps p.tables e below (T339.setTop (mkF m 24 #[.val (.ref a1), .val (.ref b_330), .val (.int (3 : Int32)), .val (.int (2 : Int32)), .val (.ref kD)] [(.ref rD)])) _
    refine XS.aloadN X339.here hx rfl (hb hby d11_24) rfl rfl ?_
    show Steps p.tables e below (T339.setTop (mkF m 25 #[.val (.ref a1), .val (.ref b_330), .val (.int (3 : Int32)), .val (.int (2 : Int32)), .val (.ref kD)] [(.ref a1), (.ref rD)])) _
    refine st340.trans ?_
    show Steps p.tables e below (T340.setTop (mkF m 28 #[.val (.ref a1), .val (.ref b_330), .val (.int (3 : Int32)), .val (.int (2 : Int32)), .val (.ref kD)] [(.int (0 : Int32))])) _
    refine XS.ifYes X340.here hx rfl (pc0 := 28) (pc' := 34) rfl (hb hby d11_28) rfl ((if0 _ _).trans (teq (by decide)).1) (by decide) (by decide) ?_
    show Steps p.tables e below (T340.setTop (mkF m 34 #[.val (.ref a1), .val (.ref b_330), .val (.int (3 : Int32)), .val (.int (2 : Int32)), .val (.ref kD)] [])) _
    refine XS.iinc X340.here hx rfl (hb hby d11_34) rfl (l' := #[.val (.ref a1), .val (.ref b_330), .val (.int (3 : Int32)), .val (.int (3 : Int32)), .val (.ref kD)]) rfl ?_
    show Steps p.tables e below (T340.setTop (mkF m 37 #[.val (.ref a1), .val (.ref b_330), .val (.int (3 : Int32)), .val (.int (3 : Int32)), .val (.ref kD)] [])) _
    refine XS.goto X340.here hx rfl (pc0 := 37) (pc' := 9) rfl (hb hby d11_37) (by decide) (by decide) ?_
    show Steps p.tables e below (T340.setTop (mkF m 9 #[.val (.ref a1), .val (.ref b_330), .val (.int (3 : Int32)), .val (.int (3 : Int32)), .val (.ref kD)] [])) _
    refine XS.iloadN X340.here hx rfl (hb hby d11_9) rfl ?_
    show Steps p.tables e below (T340.setTop (mkF m 10 #[.val (.ref a1), .val (.ref b_330), .val (.int (3 : Int32)), .val (.int (3 : Int32)), .val (.ref kD)] [(.int (3 : Int32))])) _
    refine XS.iloadN X340.here hx rfl (hb hby d11_10) rfl ?_
    show Steps p.tables e below (T340.setTop (mkF m 11 #[.val (.ref a1), .val (.ref b_330), .val (.int (3 : Int32)), .val (.int (3 : Int32)), .val (.ref kD)] [(.int (3 : Int32)), (.int (3 : Int32))])) _
    refine XS.icmpYes X340.here hx rfl (pc0 := 11) (pc' := 40) rfl (hb hby d11_11) rfl (flt (by decide)).2.1 (by decide) (by decide) ?_
    show Steps p.tables e below (T340.setTop (mkF m 40 #[.val (.ref a1), .val (.ref b_330), .val (.int (3 : Int32)), .val (.int (3 : Int32)), .val (.ref kD)] [])) _
    refine XS.aconstNull X340.here hx rfl (hb hby d11_40) ?_
    show Steps p.tables e below (T340.setTop (mkF m 41 #[.val (.ref a1), .val (.ref b_330), .val (.int (3 : Int32)), .val (.int (3 : Int32)), .val (.ref kD)] [.null])) _
    exact retOut X340 hx Bd.returns rfl (Or.inr (Or.inr (Or.inr (Or.inr ⟨rfl, rfl, rfl⟩)))) (hb hby d11_41) hr
  · show QO0 Z a1 cs zc va kv fv kN kS kD rN rS rD h0 n0 _ T340.heap _
    rw [e340]
    exact ⟨rfl, N340, Kp⟩
def QOn (Z : State) (zc : Int32) (va : Addr) (kv : ClassId) (fv : Nat → Value) (kN : Addr) (kS : Addr) (kD : Addr) (rN : Addr) (rS : Addr) (rD : Addr) (h0 : Heap) (n0 : Nat) (v : Option Value) (h : Heap) (L : List Loc) : Prop := v = some .null ∧ Fr n0 L ∧ (Keep h0 h [])
theorem ef_On (m : MethodId)  : entryFrame m #[.null] 5 = mkF m 0 #[.val .null, .unset, .unset, .unset, .unset] [] := by first | (simp [entryFrame, mkF, argsToLocals, Value.category]; done) | rfl
set_option maxRecDepth 65536 in
set_option maxHeartbeats 40000000 in
theorem rmOn (l : Launch) (Z : State) (a0 : Array Value) (hw : ∀ d ∈ tables_1, d.before a0 Z = true) (ws : List Jvm.Cond) (zc : Int32) (va : Addr) (kv : ClassId) (fv : Nat → Value) (kN : Addr) (kS : Addr) (kD : Addr) (rN : Addr) (rS : Addr) (rD : Addr) (h0 : Heap) (n0 : Nat) (Zs : n0 ≤ h0.size) (Ol : Old Z n0 h0) (S_COMPACT_STRINGS : Sta Z Z.heap "java/lang/String" "COMPACT_STRINGS" "Z" (.int zc)) (hzc : ¬ zc = 0) (S__VALUES : Sta Z Z.heap "com/example/verschil/verschil/rrdp/FileKind" "$VALUES" "[Lcom/example/verschil/verschil/rrdp/FileKind;" (.ref va)) (E_va : Exa Z Z.heap va "[Lcom/example/verschil/verschil/rrdp/FileKind;") (A_va : ArR Z Z.heap va kv "com/example/verschil/verschil/rrdp/FileKind" (3 : Int32) fv) (hv0 : fv (0 : Int32).toNatClampNeg = .ref kN) (hv1 : fv (1 : Int32).toNatClampNeg = .ref kS) (hv2 : fv (2 : Int32).toNatClampNeg = .ref kD) (F_root_kN : Fld Z Z.heap kN "com/example/verschil/verschil/rrdp/FileKind" "root" "Ljava/lang/String;" (.ref rN)) (E_rN : Exa Z Z.heap rN "java/lang/String") (T_rN : Stx Z Z.heap rN [(110 : Int32), (111 : Int32), (116 : Int32), (105 : Int32), (102 : Int32), (105 : Int32), (99 : Int32), (97 : Int32), (116 : Int32), (105 : Int32), (111 : Int32), (110 : Int32)]) (F_root_kS : Fld Z Z.heap kS "com/example/verschil/verschil/rrdp/FileKind" "root" "Ljava/lang/String;" (.ref rS)) (E_rS : Exa Z Z.heap rS "java/lang/String") (T_rS : Stx Z Z.heap rS [(115 : Int32), (110 : Int32), (97 : Int32), (112 : Int32), (115 : Int32), (104 : Int32), (111 : Int32), (116 : Int32)]) (F_root_kD : Fld Z Z.heap kD "com/example/verschil/verschil/rrdp/FileKind" "root" "Ljava/lang/String;" (.ref rD)) (E_rD : Exa Z Z.heap rD "java/lang/String") (T_rD : Stx Z Z.heap rD [(100 : Int32), (101 : Int32), (108 : Int32), (116 : Int32), (97 : Int32)]) :
    MetFree l (⟨"com/example/verschil/verschil/rrdp/FileKind", "ofRoot", "(Ljava/lang/String;)Lcom/example/verschil/verschil/rrdp/FileKind;"⟩ : MethodName) (head1 (Jvm.Cond.code (⟨"com/example/verschil/verschil/rrdp/FileKind", "ofRoot", "(Ljava/lang/String;)Lcom/example/verschil/verschil/rrdp/FileKind;"⟩ : MethodName) prog_84_method_5_code 5 (some (.object "com/example/verschil/verschil/rrdp/FileKind")) :: ws) ({ frames := 2, cells := 1, slots := 3, locals := 25 } : Room)) (fun a U => a = #[.null] ∧ Z.Warmed39 U.vm ∧ U.heap = h0) (fun _ _ _ _ _ => True) (fun _ U o U' => ∃ v L, o = .returned v ∧ QOn Z zc va kv fv kN kS kD rN rS rD h0 n0 v U'.heap L ∧ FrameEnd U o U' L ({ frames := 2, cells := 1, slots := 3, locals := 25 } : Room).cells ({ frames := 2, cells := 1, slots := 3, locals := 25 } : Room).slots) := by
  refine MetFree.of_bodySF (plainFor_of_name pn_2) hisR ?_
  intro p e s m args below meth c s₁ Bd hml0 hP hK
  obtain ⟨rfl, hZ, hh⟩ := hP
  have hx := Bd.exec
  have hby := Bd.bytes
  have hml : c.maxLocals = 5 := hml0
  have hown : s.vm.findClass "com/example/verschil/verschil/rrdp/FileKind" = some m.cls := findClass_of_methodNamed Bd.named
  have hnm := (name_of_methodNamed Bd.named Bd.method).1
  have X0 : Stand p l e ({ frames := 2, cells := 1, slots := 3, locals := 25 } : Room) s m #[.null] below meth c s₁ [] 0 0 := Stand.of_body Bd
  have e0 : s₁.heap = h0 := by rw [← hh, Bd.state]; rfl
  have N0 := Fr.nil n0
  have pre0 : ∀ t, Steps p.tables e below (s₁.setTop (mkF m 0 #[.val .null, .unset, .unset, .unset, .unset] [])) t → Steps p.tables e below (s₁.setTop (entryFrame m #[.null] 5)) t := fun t k => castTop (ef_On m ) k
  have Kp : Keep h0 h0 [] := Keep.refl h0 []
  obtain ⟨_, _, ⟨T341, L341, k341, n341⟩, -, X341, ⟨Lc341, hQ341, l341, y341, z341⟩, st341⟩ := Jvm.LawKit.callS X0 hx (y := (⟨"com/example/verschil/verschil/rrdp/FileKind", "values", "()[Lcom/example/verschil/verschil/rrdp/FileKind;"⟩ : MethodName)) hown (mvT hZ (hw _ (List.mem_of_getElem? (i := 57) rfl))) (mvT hZ (hw _ (List.mem_of_getElem? (i := 58) rfl))) (mvT hZ (hw _ (List.mem_of_getElem? (i := 52) rfl))) (mvT hZ (hw _ (List.mem_of_getElem? (i := 59) rfl))) (by decide) (backOf (W := 0) (rmVL l Z a0 hw [] va kv fv kN kS kD h0 n0 Zs Ol S__VALUES E_va A_va hv0 hv1 hv2) hZ (hw _ (List.mem_of_getElem? (i := 59) rfl)) (hw _ (List.mem_of_getElem? (i := 52) rfl)) (by decide) (by decide)) (g := (mkF m 0 #[.val .null, .unset, .unset, .unset, .unset] [])) rfl (by rw [hml]; rfl) (argsL := []) (rest := []) (lenOf pd_3 rfl) rfl (by show 2 * 0 + _ ≤ _; exact Nat.le_of_eq rfl) (hb hby d11_0) (fun _ _ => ⟨rfl, e0, (by decide : 0 + 1 ≤ _), (by decide : 0 + 3 ≤ _)⟩)
  dsimp only [Pt.U, Pt.locs, Pt.cells, Pt.slots] at X341 l341 y341 z341 st341 hQ341
  subst l341 y341 z341
  obtain ⟨b_341, rfl, N341q, K341, szc_b_341, P341_2, P341_3⟩ := hQ341
  have sz_b_341 : h0.size ≤ b_341 := Nat.le_trans Kp.1 szc_b_341
  have Zs : n0 ≤ T341.heap.size := Nat.le_trans Zs K341.1
  have Ol : Old Z n0 T341.heap := Ol.keep K341 all0
  have Kp : Keep h0 T341.heap [] := Kp.trans K341 all0
  have A_b_341 : ArR Z T341.heap b_341 kv "com/example/verschil/verschil/rrdp/FileKind" (3 : Int32) fv := P341_2
  have E_b_341 : Exa Z T341.heap b_341 "[Lcom/example/verschil/verschil/rrdp/FileKind;" := P341_3
  have N341 := Fr.app N0 N341q
  obtain ⟨cl342, Ar342, hl342⟩ := ArR.len A_b_341 (by decide)
  obtain ⟨cl343, Ar343, hs343, hin343, hat343, -⟩ := ArR.open (j := (0 : Int32)) A_b_341 (by decide)
  rw [hv0] at hat343
  obtain ⟨T344, X344, e344, st344⟩ := getF X341 hx hZ hown (host := "") (Or.inl (hw _ (List.mem_of_getElem? (i := 74) rfl))) Via.refl rfl (F_root_kN.ext Ol.2) (g := (mkF m 21 #[.val .null, .val (.ref b_341), .val (.int (3 : Int32)), .val (.int (0 : Int32)), .val (.ref kN)] [(.ref kN)])) rfl rfl (hb hby d11_21)
  obtain ⟨cq345, kq345, q345a, q345b, q345c⟩ := isOf hZ e344 (E_rN.ext Ol.2)
  obtain ⟨_, _, ⟨T345, L345, k345, n345⟩, -, X345, ⟨Lc345, hQ345, l345, y345, z345⟩, st345⟩ := X344.virtualBack hx (y := (⟨"java/lang/String", "equals", "(Ljava/lang/Object;)Z"⟩ : MethodName)) (z := (⟨"java/lang/String", "equals", "(Ljava/lang/Object;)Z"⟩ : MethodName)) hown (mvT hZ (hw _ (List.mem_of_getElem? (i := 76) rfl))) (mvT hZ (hw _ (List.mem_of_getElem? (i := 42) rfl))) (notFace_of_selects (args := #[]) (mvT hZ (hw _ (List.mem_of_getElem? (i := 44) rfl)))) (mvT hZ (hw _ (List.mem_of_getElem? (i := 44) rfl))) (mvT hZ (hw _ (List.mem_of_getElem? (i := 43) rfl))) (by decide) (backOf (W := 0) (rmEQ0 l Z a0 hw [] rN T341.heap n0 Zs ) hZ (hw _ (List.mem_of_getElem? (i := 45) rfl)) (hw _ (List.mem_of_getElem? (i := 8) rfl)) (by decide) (by decide)) q345a q345c (g := (mkF m 25 #[.val .null, .val (.ref b_341), .val (.int (3 : Int32)), .val (.int (0 : Int32)), .val (.ref kN)] [.null, (.ref rN)])) rfl (by rw [hml]; rfl) (Steps.refl _) (argsL := [.null]) (rest := []) (lenOf pd_2 rfl) rfl (by show 2 * 0 + _ ≤ _; exact Nat.le_of_eq rfl) (hb hby d11_25) (fun _ _ => ⟨rfl, e344, (by decide : 1 + 0 ≤ _), (by decide : 3 + 0 ≤ _)⟩)
  dsimp only [Pt.U, Pt.locs, Pt.cells, Pt.slots] at X345 l345 y345 z345 st345 hQ345
  subst l345 y345 z345
  obtain ⟨rfl, N345q, e345⟩ := hQ345
  have N345 := Fr.app N341 N345q
  obtain ⟨cl346, Ar346, hs346, hin346, hat346, -⟩ := ArR.open (j := (1 : Int32)) A_b_341 (by decide)
  rw [hv1] at hat346
  obtain ⟨T347, X347, e347, st347⟩ := getF X345 hx hZ hown (host := "") (Or.inl (hw _ (List.mem_of_getElem? (i := 74) rfl))) Via.refl e345 (F_root_kS.ext Ol.2) (g := (mkF m 21 #[.val .null, .val (.ref b_341), .val (.int (3 : Int32)), .val (.int (1 : Int32)), .val (.ref kS)] [(.ref kS)])) rfl rfl (hb hby d11_21)
  obtain ⟨cq348, kq348, q348a, q348b, q348c⟩ := isOf hZ e347 (E_rS.ext Ol.2)
  obtain ⟨_, _, ⟨T348, L348, k348, n348⟩, -, X348, ⟨Lc348, hQ348, l348, y348, z348⟩, st348⟩ := X347.virtualBack hx (y := (⟨"java/lang/String", "equals", "(Ljava/lang/Object;)Z"⟩ : MethodName)) (z := (⟨"java/lang/String", "equals", "(Ljava/lang/Object;)Z"⟩ : MethodName)) hown (mvT hZ (hw _ (List.mem_of_getElem? (i := 76) rfl))) (mvT hZ (hw _ (List.mem_of_getElem? (i := 42) rfl))) (notFace_of_selects (args := #[]) (mvT hZ (hw _ (List.mem_of_getElem? (i := 44) rfl)))) (mvT hZ (hw _ (List.mem_of_getElem? (i := 44) rfl))) (mvT hZ (hw _ (List.mem_of_getElem? (i := 43) rfl))) (by decide) (backOf (W := 0) (rmEQ0 l Z a0 hw [] rS T341.heap n0 Zs ) hZ (hw _ (List.mem_of_getElem? (i := 45) rfl)) (hw _ (List.mem_of_getElem? (i := 8) rfl)) (by decide) (by decide)) q348a q348c (g := (mkF m 25 #[.val .null, .val (.ref b_341), .val (.int (3 : Int32)), .val (.int (1 : Int32)), .val (.ref kS)] [.null, (.ref rS)])) rfl (by rw [hml]; rfl) (Steps.refl _) (argsL := [.null]) (rest := []) (lenOf pd_2 rfl) rfl (by show 2 * 0 + _ ≤ _; exact Nat.le_of_eq rfl) (hb hby d11_25) (fun _ _ => ⟨rfl, e347, (by decide : 1 + 0 ≤ _), (by decide : 3 + 0 ≤ _)⟩)
  dsimp only [Pt.U, Pt.locs, Pt.cells, Pt.slots] at X348 l348 y348 z348 st348 hQ348
  subst l348 y348 z348
  obtain ⟨rfl, N348q, e348⟩ := hQ348
  have N348 := Fr.app N345 N348q
  obtain ⟨cl349, Ar349, hs349, hin349, hat349, -⟩ := ArR.open (j := (2 : Int32)) A_b_341 (by decide)
  rw [hv2] at hat349
  obtain ⟨T350, X350, e350, st350⟩ := getF X348 hx hZ hown (host := "") (Or.inl (hw _ (List.mem_of_getElem? (i := 74) rfl))) Via.refl e348 (F_root_kD.ext Ol.2) (g := (mkF m 21 #[.val .null, .val (.ref b_341), .val (.int (3 : Int32)), .val (.int (2 : Int32)), .val (.ref kD)] [(.ref kD)])) rfl rfl (hb hby d11_21)
  obtain ⟨cq351, kq351, q351a, q351b, q351c⟩ := isOf hZ e350 (E_rD.ext Ol.2)
  obtain ⟨_, _, ⟨T351, L351, k351, n351⟩, -, X351, ⟨Lc351, hQ351, l351, y351, z351⟩, st351⟩ := X350.virtualBack hx (y := (⟨"java/lang/String", "equals", "(Ljava/lang/Object;)Z"⟩ : MethodName)) (z := (⟨"java/lang/String", "equals", "(Ljava/lang/Object;)Z"⟩ : MethodName)) hown (mvT hZ (hw _ (List.mem_of_getElem? (i := 76) rfl))) (mvT hZ (hw _ (List.mem_of_getElem? (i := 42) rfl))) (notFace_of_selects (args := #[]) (mvT hZ (hw _ (List.mem_of_getElem? (i := 44) rfl)))) (mvT hZ (hw _ (List.mem_of_getElem? (i := 44) rfl))) (mvT hZ (hw _ (List.mem_of_getElem? (i := 43) rfl))) (by decide) (backOf (W := 0) (rmEQ0 l Z a0 hw [] rD T341.heap n0 Zs ) hZ (hw _ (List.mem_of_getElem? (i := 45) rfl)) (hw _ (List.mem_of_getElem? (i := 8) rfl)) (by decide) (by decide)) q351a q351c (g := (mkF m 25 #[.val .null, .val (.ref b_341), .val (.int (3 : Int32)), .val (.int (2 : Int32)), .val (.ref kD)] [.null, (.ref rD)])) rfl (by rw [hml]; rfl) (Steps.refl _) (argsL := [.null]) (rest := []) (lenOf pd_2 rfl) rfl (by show 2 * 0 + _ ≤ _; exact Nat.le_of_eq rfl) (hb hby d11_25) (fun _ _ => ⟨rfl, e350, (by decide : 1 + 0 ≤ _), (by decide : 3 + 0 ≤ _)⟩)
  dsimp only [Pt.U, Pt.locs, Pt.cells, Pt.slots] at X351 l351 y351 z351 st351 hQ351
  subst l351 y351 z351
  obtain ⟨rfl, N351q, e351⟩ := hQ351
  have N351 := Fr.app N348 N351q
  obtain ⟨fs, hr, hrun, hended, hW, hsame⟩ := X351.leave (v := some .null) (fun h => by rw [Bd.returns] at h; cases h)
  refine ⟨_, _, pre0 _ ?_, hrun, hended, _, _, rfl, ?_, ⟨_, rfl⟩, hW, hsame.mono (by decide) (by decide)⟩
  · show Steps p.tables e below (s₁.setTop (mkF m 0 #[.val .null, .unset, .unset, .unset, .unset] [])) _
    refine st341 _ ?_
    show Steps p.tables e below (T341.setTop (mkF m 3 #[.val .null, .unset, .unset, .unset, .unset] [(.ref b_341)])) _
    refine XS.astoreN X341.here hx rfl (hb hby d11_3) rfl rfl (l' := #[.val .null, .val (.ref b_341), .unset, .unset, .unset]) rfl ?_
    show Steps p.tables e below (T341.setTop (mkF m 4 #[.val .null, .val (.ref b_341), .unset, .unset, .unset] [])) _
    refine XS.aloadN X341.here hx rfl (hb hby d11_4) rfl rfl ?_
    show Steps p.tables e below (T341.setTop (mkF m 5 #[.val .null, .val (.ref b_341), .unset, .unset, .unset] [(.ref b_341)])) _
    refine X341.arraylength hx Ar342.1 (State.isArrayOf_alike hZ.alike Ar342.2.1) (g := (mkF m 5 #[.val .null, .val (.ref b_341), .unset, .unset, .unset] [(.ref b_341)])) rfl rfl (hb hby d11_5) _ ?_
    rw [hl342]
    show Steps p.tables e below (T341.setTop (mkF m 6 #[.val .null, .val (.ref b_341), .unset, .unset, .unset] [(.int (3 : Int32))])) _
    refine XS.istoreN X341.here hx rfl (hb hby d11_6) rfl (l' := #[.val .null, .val (.ref b_341), .val (.int (3 : Int32)), .unset, .unset]) rfl ?_
    show Steps p.tables e below (T341.setTop (mkF m 7 #[.val .null, .val (.ref b_341), .val (.int (3 : Int32)), .unset, .unset] [])) _
    refine XS.iconst X341.here hx rfl (hb hby d11_7) ?_
    show Steps p.tables e below (T341.setTop (mkF m 8 #[.val .null, .val (.ref b_341), .val (.int (3 : Int32)), .unset, .unset] [(.int (0 : Int32))])) _
    refine XS.istoreN X341.here hx rfl (hb hby d11_8) rfl (l' := #[.val .null, .val (.ref b_341), .val (.int (3 : Int32)), .val (.int (0 : Int32)), .unset]) rfl ?_
    show Steps p.tables e below (T341.setTop (mkF m 9 #[.val .null, .val (.ref b_341), .val (.int (3 : Int32)), .val (.int (0 : Int32)), .unset] [])) _
    refine XS.iloadN X341.here hx rfl (hb hby d11_9) rfl ?_
    show Steps p.tables e below (T341.setTop (mkF m 10 #[.val .null, .val (.ref b_341), .val (.int (3 : Int32)), .val (.int (0 : Int32)), .unset] [(.int (0 : Int32))])) _
    refine XS.iloadN X341.here hx rfl (hb hby d11_10) rfl ?_
    show Steps p.tables e below (T341.setTop (mkF m 11 #[.val .null, .val (.ref b_341), .val (.int (3 : Int32)), .val (.int (0 : Int32)), .unset] [(.int (3 : Int32)), (.int (0 : Int32))])) _
    refine XS.icmpNo X341.here hx rfl (hb hby d11_11) rfl (tlt (by decide)).2.1 ?_
    show Steps p.tables e below (T341.setTop (mkF m 14 #[.val .null, .val (.ref b_341), .val (.int (3 : Int32)), .val (.int (0 : Int32)), .unset] [])) _
    refine XS.aloadN X341.here hx rfl (hb hby d11_14) rfl rfl ?_
    show Steps p.tables e below (T341.setTop (mkF m 15 #[.val .null, .val (.ref b_341), .val (.int (3 : Int32)), .val (.int (0 : Int32)), .unset] [(.ref b_341)])) _
    refine XS.iloadN X341.here hx rfl (hb hby d11_15) rfl ?_
    show Steps p.tables e below (T341.setTop (mkF m 16 #[.val .null, .val (.ref b_341), .val (.int (3 : Int32)), .val (.int (0 : Int32)), .unset] [(.int (0 : Int32)), (.ref b_341)])) _
    refine X341.aaload hx (j := (0 : Int32)) (v := (.ref kN)) Ar343.1 (State.isArrayOf_alike hZ.alike Ar343.2.1) rfl Ar343.2.2 hin343 hat343 (g := (mkF m 16 #[.val .null, .val (.ref b_341), .val (.int (3 : Int32)), .val (.int (0 : Int32)), .unset] [(.int (0 : Int32)), (.ref b_341)])) rfl rfl (hb hby d11_16) _ ?_
    show Steps p.tables e below (T341.setTop (mkF m 17 #[.val .null, .val (.ref b_341), .val (.int (3 : Int32)), .val (.int (0 : Int32)), .unset] [(.ref kN)])) _
    refine XS.astore X341.here hx rfl (hb hby d11_17) rfl rfl (l' := #[.val .null, .val (.ref b_341), .val (.int (3 : Int32)), .val (.int (0 : Int32)), .val (.ref kN)]) rfl ?_
    show Steps p.tables e below (T341.setTop (mkF m 19 #[.val .null, .val (.ref b_341), .val (.int (3 : Int32)), .val (.int (0 : Int32)), .val (.ref kN)] [])) _
    refine XS.aload X341.here hx rfl (hb hby d11_19) rfl rfl ?_
    show Steps p.tables e below (T341.setTop (mkF m 21 #[.val .null, .val (.ref b_341), .val (.int (3 : Int32)), .val (.int (0 : Int32)), .val (.ref kN)] [(.ref kN)])) _
    refine st344 _ ?_
    show Steps p.tables e below (T344.setTop (mkF m 24 #[.val .null, .val (.ref b_341), .val (.int (3 : Int32)), .val (.int (0 : Int32)), .val (.ref kN)] [(.ref rN)])) _
    refine XS.aloadN X344.here hx rfl (hb hby d11_24) rfl rfl ?_
    show Steps p.tables e below (T344.setTop (mkF m 25 #[.val .null, .val (.ref b_341), .val (.int (3 : Int32)), .val (.int (0 : Int32)), .val (.ref kN)] [.null, (.ref rN)])) _
    refine st345.trans ?_
    show Steps p.tables e below (T345.setTop (mkF m 28 #[.val .null, .val (.ref b_341), .val (.int (3 : Int32)), .val (.int (0 : Int32)), .val (.ref kN)] [(.int (0 : Int32))])) _
    refine XS.ifYes X345.here hx rfl (pc0 := 28) (pc' := 34) rfl (hb hby d11_28) rfl ((if0 _ _).trans (teq (by decide)).1) (by decide) (by decide) ?_
    show Steps p.tables e below (T345.setTop (mkF m 34 #[.val .null, .val (.ref b_341), .val (.int (3 : Int32)), .val (.int (0 : Int32)), .val (.ref kN)] [])) _
    refine XS.iinc X345.here hx rfl (hb hby d11_34) rfl (l' := #[.val .null, .val (.ref b_341), .val (.int (3 : Int32)), .val (.int (1 : Int32)), .val (.ref kN)]) rfl ?_
    show Steps p.tables e below (T345.setTop (mkF m 37 #[.val .null, .val (.ref b_341), .val (.int (3 : Int32)), .val (.int (1 : Int32)), .val (.ref kN)] [])) _
    refine XS.goto X345.here hx rfl (pc0 := 37) (pc' := 9) rfl (hb hby d11_37) (by decide) (by decide) ?_
    show Steps p.tables e below (T345.setTop (mkF m 9 #[.val .null, .val (.ref b_341), .val (.int (3 : Int32)), .val (.int (1 : Int32)), .val (.ref kN)] [])) _
    refine XS.iloadN X345.here hx rfl (hb hby d11_9) rfl ?_
    show Steps p.tables e below (T345.setTop (mkF m 10 #[.val .null, .val (.ref b_341), .val (.int (3 : Int32)), .val (.int (1 : Int32)), .val (.ref kN)] [(.int (1 : Int32))])) _
    refine XS.iloadN X345.here hx rfl (hb hby d11_10) rfl ?_
    show Steps p.tables e below (T345.setTop (mkF m 11 #[.val .null, .val (.ref b_341), .val (.int (3 : Int32)), .val (.int (1 : Int32)), .val (.ref kN)] [(.int (3 : Int32)), (.int (1 : Int32))])) _
    refine XS.icmpNo X345.here hx rfl (hb hby d11_11) rfl (tlt (by decide)).2.1 ?_
    show Steps p.tables e below (T345.setTop (mkF m 14 #[.val .null, .val (.ref b_341), .val (.int (3 : Int32)), .val (.int (1 : Int32)), .val (.ref kN)] [])) _
    refine XS.aloadN X345.here hx rfl (hb hby d11_14) rfl rfl ?_
    show Steps p.tables e below (T345.setTop (mkF m 15 #[.val .null, .val (.ref b_341), .val (.int (3 : Int32)), .val (.int (1 : Int32)), .val (.ref kN)] [(.ref b_341)])) _
    refine XS.iloadN X345.here hx rfl (hb hby d11_15) rfl ?_
    show Steps p.tables e below (T345.setTop (mkF m 16 #[.val .null, .val (.ref b_341), .val (.int (3 : Int32)), .val (.int (1 : Int32)), .val (.ref kN)] [(.int (1 : Int32)), (.ref b_341)])) _
    refine X345.aaload hx (j := (1 : Int32)) (v := (.ref kS)) (by rw [e345]; exact Ar346.1) (State.isArrayOf_alike hZ.alike Ar346.2.1) rfl Ar346.2.2 hin346 hat346 (g := (mkF m 16 #[.val .null, .val (.ref b_341), .val (.int (3 : Int32)), .val (.int (1 : Int32)), .val (.ref kN)] [(.int (1 : Int32)), (.ref b_341)])) rfl rfl (hb hby d11_16) _ ?_
    show Steps p.tables e below (T345.setTop (mkF m 17 #[.val .null, .val (.ref b_341), .val (.int (3 : Int32)), .val (.int (1 : Int32)), .val (.ref kN)] [(.ref kS)])) _
    refine XS.astore X345.here hx rfl (hb hby d11_17) rfl rfl (l' := #[.val .null, .val (.ref b_341), .val (.int (3 : Int32)), .val (.int (1 : Int32)), .val (.ref kS)]) rfl ?_
    show Steps p.tables e below (T345.setTop (mkF m 19 #[.val .null, .val (.ref b_341), .val (.int (3 : Int32)), .val (.int (1 : Int32)), .val (.ref kS)] [])) _
    refine XS.aload X345.here hx rfl (hb hby d11_19) rfl rfl ?_
    show Steps p.tables e below (T345.setTop (mkF m 21 #[.val .null, .val (.ref b_341), .val (.int (3 : Int32)), .val (.int (1 : Int32)), .val (.ref kS)] [(.ref kS)])) _
    refine st347 _ ?_
    show Steps p.tables e below (T347.setTop (mkF m 24 #[.val .null, .val (.ref b_341), .val (.int (3 : Int32)), .val (.int (1 : Int32)), .val (.ref kS)] [(.ref rS)])) _
    refine XS.aloadN X347.here hx rfl (hb hby d11_24) rfl rfl ?_
    show Steps p.tables e below (T347.setTop (mkF m 25 #[.val .null, .val (.ref b_341), .val (.int (3 : Int32)), .val (.int (1 : Int32)), .val (.ref kS)] [.null, (.ref rS)])) _
    refine st348.trans ?_
    show Steps p.tables e below (T348.setTop (mkF m 28 #[.val .null, .val (.ref b_341), .val (.int (3 : Int32)), .val (.int (1 : Int32)), .val (.ref kS)] [(.int (0 : Int32))])) _
    refine XS.ifYes X348.here hx rfl (pc0 := 28) (pc' := 34) rfl (hb hby d11_28) rfl ((if0 _ _).trans (teq (by decide)).1) (by decide) (by decide) ?_
    show Steps p.tables e below (T348.setTop (mkF m 34 #[.val .null, .val (.ref b_341), .val (.int (3 : Int32)), .val (.int (1 : Int32)), .val (.ref kS)] [])) _
    refine XS.iinc X348.here hx rfl (hb hby d11_34) rfl (l' := #[.val .null, .val (.ref b_341), .val (.int (3 : Int32)), .val (.int (2 : Int32)), .val (.ref kS)]) rfl ?_
    show Steps p.tables e below (T348.setTop (mkF m 37 #[.val .null, .val (.ref b_341), .val (.int (3 : Int32)), .val (.int (2 : Int32)), .val (.ref kS)] [])) _
    refine XS.goto X348.here hx rfl (pc0 := 37) (pc' := 9) rfl (hb hby d11_37) (by decide) (by decide) ?_
    show Steps p.tables e below (T348.setTop (mkF m 9 #[.val .null, .val (.ref b_341), .val (.int (3 : Int32)), .val (.int (2 : Int32)), .val (.ref kS)] [])) _
    refine XS.iloadN X348.here hx rfl (hb hby d11_9) rfl ?_
    show Steps p.tables e below (T348.setTop (mkF m 10 #[.val .null, .val (.ref b_341), .val (.int (3 : Int32)), .val (.int (2 : Int32)), .val (.ref kS)] [(.int (2 : Int32))])) _
    refine XS.iloadN X348.here hx rfl (hb hby d11_10) rfl ?_
    show Steps p.tables e below (T348.setTop (mkF m 11 #[.val .null, .val (.ref b_341), .val (.int (3 : Int32)), .val (.int (2 : Int32)), .val (.ref kS)] [(.int (3 : Int32)), (.int (2 : Int32))])) _
    refine XS.icmpNo X348.here hx rfl (hb hby d11_11) rfl (tlt (by decide)).2.1 ?_
    show Steps p.tables e below (T348.setTop (mkF m 14 #[.val .null, .val (.ref b_341), .val (.int (3 : Int32)), .val (.int (2 : Int32)), .val (.ref kS)] [])) _
    refine XS.aloadN X348.here hx rfl (hb hby d11_14) rfl rfl ?_
    show Steps p.tables e below (T348.setTop (mkF m 15 #[.val .null, .val (.ref b_341), .val (.int (3 : Int32)), .val (.int (2 : Int32)), .val (.ref kS)] [(.ref b_341)])) _
    refine XS.iloadN X348.here hx rfl (hb hby d11_15) rfl ?_
    show Steps p.tables e below (T348.setTop (mkF m 16 #[.val .null, .val (.ref b_341), .val (.int (3 : Int32)), .val (.int (2 : Int32)), .val (.ref kS)] [(.int (2 : Int32)), (.ref b_341)])) _
    refine X348.aaload hx (j := (2 : Int32)) (v := (.ref kD)) (by rw [e348]; exact Ar349.1) (State.isArrayOf_alike hZ.alike Ar349.2.1) rfl Ar349.2.2 hin349 hat349 (g := (mkF m 16 #[.val .null, .val (.ref b_341), .val (.int (3 : Int32)), .val (.int (2 : Int32)), .val (.ref kS)] [(.int (2 : Int32)), (.ref b_341)])) rfl rfl (hb hby d11_16) _ ?_
    show Steps p.tables e below (T348.setTop (mkF m 17 #[.val .null, .val (.ref b_341), .val (.int (3 : Int32)), .val (.int (2 : Int32)), .val (.ref kS)] [(.ref kD)])) _
    refine XS.astore X348.here hx rfl (hb hby d11_17) rfl rfl (l' := #[.val .null, .val (.ref b_341), .val (.int (3 : Int32)), .val (.int (2 : Int32)), .val (.ref kD)]) rfl ?_
    show Steps p.tables e below (T348.setTop (mkF m 19 #[.val .null, .val (.ref b_341), .val (.int (3 : Int32)), .val (.int (2 : Int32)), .val (.ref kD)] [])) _
    refine XS.aload X348.here hx rfl (hb hby d11_19) rfl rfl ?_
    show Steps p.tables e below (T348.setTop (mkF m 21 #[.val .null, .val (.ref b_341), .val (.int (3 : Int32)), .val (.int (2 : Int32)), .val (.ref kD)] [(.ref kD)])) _
    refine st350 _ ?_
    show Steps p.tables e below (T350.setTop (mkF m 24 #[.val .null, .val (.ref b_341), .val (.int (3 : Int32)), .val (.int (2 : Int32)), .val (.ref kD)] [(.ref rD)])) _
    refine XS.aloadN X350.here hx rfl (hb hby d11_24) rfl rfl ?_
    show Steps p.tables e below (T350.setTop (mkF m 25 #[.val .null, .val (.ref b_341), .val (.int (3 : Int32)), .val (.int (2 : Int32)), .val (.ref kD)] [.null, (.ref rD)])) _
    refine st351.trans ?_
    show Steps p.tables e below (T351.setTop (mkF m 28 #[.val .null, .val (.ref b_341), .val (.int (3 : Int32)), .val (.int (2 : Int32)), .val (.ref kD)] [(.int (0 : Int32))])) _
    refine XS.ifYes X351.here hx rfl (pc0 := 28) (pc' := 34) rfl (hb hby d11_28) rfl ((if0 _ _).trans (teq (by decide)).1) (by decide) (by decide) ?_
    show Steps p.tables e below (T351.setTop (mkF m 34 #[.val .null, .val (.ref b_341), .val (.int (3 : Int32)), .val (.int (2 : Int32)), .val (.ref kD)] [])) _
    refine XS.iinc X351.here hx rfl (hb hby d11_34) rfl (l' := #[.val .null, .val (.ref b_341), .val (.int (3 : Int32)), .val (.int (3 : Int32)), .val (.ref kD)]) rfl ?_
    show Steps p.tables e below (T351.setTop (mkF m 37 #[.val .null, .val (.ref b_341), .val (.int (3 : Int32)), .val (.int (3 : Int32)), .val (.ref kD)] [])) _
    refine XS.goto X351.here hx rfl (pc0 := 37) (pc' := 9) rfl (hb hby d11_37) (by decide) (by decide) ?_
    show Steps p.tables e below (T351.setTop (mkF m 9 #[.val .null, .val (.ref b_341), .val (.int (3 : Int32)), .val (.int (3 : Int32)), .val (.ref kD)] [])) _
    refine XS.iloadN X351.here hx rfl (hb hby d11_9) rfl ?_
    show Steps p.tables e below (T351.setTop (mkF m 10 #[.val .null, .val (.ref b_341), .val (.int (3 : Int32)), .val (.int (3 : Int32)), .val (.ref kD)] [(.int (3 : Int32))])) _
    refine XS.iloadN X351.here hx rfl (hb hby d11_10) rfl ?_
    show Steps p.tables e below (T351.setTop (mkF m 11 #[.val .null, .val (.ref b_341), .val (.int (3 : Int32)), .val (.int (3 : Int32)), .val (.ref kD)] [(.int (3 : Int32)), (.int (3 : Int32))])) _
    refine XS.icmpYes X351.here hx rfl (pc0 := 11) (pc' := 40) rfl (hb hby d11_11) rfl (flt (by decide)).2.1 (by decide) (by decide) ?_
    show Steps p.tables e below (T351.setTop (mkF m 40 #[.val .null, .val (.ref b_341), .val (.int (3 : Int32)), .val (.int (3 : Int32)), .val (.ref kD)] [])) _
    refine XS.aconstNull X351.here hx rfl (hb hby d11_40) ?_
    show Steps p.tables e below (T351.setTop (mkF m 41 #[.val .null, .val (.ref b_341), .val (.int (3 : Int32)), .val (.int (3 : Int32)), .val (.ref kD)] [.null])) _
    exact retOut X351 hx Bd.returns rfl (Or.inr (Or.inr (Or.inr (Or.inr ⟨rfl, rfl, rfl⟩)))) (hb hby d11_41) hr
  · show QOn Z zc va kv fv kN kS kD rN rS rD h0 n0 _ T351.heap _
    rw [e351]
    exact ⟨rfl, N351, Kp⟩
def Q0 (Z : State) (p1 : Int32) (p2 : Int32) (p3 : Int32) (p4 : Int32) (zc : Int32) (va : Addr) (kv : ClassId) (fv : Nat → Value) (kN : Addr) (kS : Addr) (kD : Addr) (rN : Addr) (rS : Addr) (rD : Addr) (h0 : Heap) (n0 : Nat) (v : Option Value) (h : Heap) (L : List Loc) : Prop := v = some (.int (1 : Int32)) ∧ Fr n0 L
theorem ef_0 (m : MethodId) (p1 : Int32) (p2 : Int32) (p3 : Int32) (p4 : Int32) : entryFrame m #[(.int p1), (.int p2), (.int p3), (.int p4)] maxLocals = mkF m 0 #[.val (.int p1), .val (.int p2), .val (.int p3), .val (.int p4), .unset, .unset, .unset, .unset, .unset, .unset] [] := by first | (simp [entryFrame, mkF, argsToLocals, Value.category, maxLocals]; done) | rfl
set_option maxRecDepth 65536 in
set_option maxHeartbeats 40000000 in
theorem rm0 (l : Launch) (Z : State) (a0 : Array Value) (hw : ∀ d ∈ tables_1, d.before a0 Z = true) (ws : List Jvm.Cond) (p1 : Int32) (p2 : Int32) (p3 : Int32) (p4 : Int32) (zc : Int32) (va : Addr) (kv : ClassId) (fv : Nat → Value) (kN : Addr) (kS : Addr) (kD : Addr) (rN : Addr) (rS : Addr) (rD : Addr) (h0 : Heap) (n0 : Nat) (Zs : n0 ≤ h0.size) (Ol : Old Z n0 h0) (S_COMPACT_STRINGS : Sta Z Z.heap "java/lang/String" "COMPACT_STRINGS" "Z" (.int zc)) (hzc : ¬ zc = 0) (S__VALUES : Sta Z Z.heap "com/example/verschil/verschil/rrdp/FileKind" "$VALUES" "[Lcom/example/verschil/verschil/rrdp/FileKind;" (.ref va)) (E_va : Exa Z Z.heap va "[Lcom/example/verschil/verschil/rrdp/FileKind;") (A_va : ArR Z Z.heap va kv "com/example/verschil/verschil/rrdp/FileKind" (3 : Int32) fv) (hv0 : fv (0 : Int32).toNatClampNeg = .ref kN) (hv1 : fv (1 : Int32).toNatClampNeg = .ref kS) (hv2 : fv (2 : Int32).toNatClampNeg = .ref kD) (F_root_kN : Fld Z Z.heap kN "com/example/verschil/verschil/rrdp/FileKind" "root" "Ljava/lang/String;" (.ref rN)) (E_rN : Exa Z Z.heap rN "java/lang/String") (T_rN : Stx Z Z.heap rN [(110 : Int32), (111 : Int32), (116 : Int32), (105 : Int32), (102 : Int32), (105 : Int32), (99 : Int32), (97 : Int32), (116 : Int32), (105 : Int32), (111 : Int32), (110 : Int32)]) (F_root_kS : Fld Z Z.heap kS "com/example/verschil/verschil/rrdp/FileKind" "root" "Ljava/lang/String;" (.ref rS)) (E_rS : Exa Z Z.heap rS "java/lang/String") (T_rS : Stx Z Z.heap rS [(115 : Int32), (110 : Int32), (97 : Int32), (112 : Int32), (115 : Int32), (104 : Int32), (111 : Int32), (116 : Int32)]) (F_root_kD : Fld Z Z.heap kD "com/example/verschil/verschil/rrdp/FileKind" "root" "Ljava/lang/String;" (.ref rD)) (E_rD : Exa Z Z.heap rD "java/lang/String") (T_rD : Stx Z Z.heap rD [(100 : Int32), (101 : Int32), (108 : Int32), (116 : Int32), (97 : Int32)]) (S_NOTIFICATION : Sta Z Z.heap "com/example/verschil/verschil/rrdp/FileKind" "NOTIFICATION" "Lcom/example/verschil/verschil/rrdp/FileKind;" (.ref kN)) (S_SNAPSHOT : Sta Z Z.heap "com/example/verschil/verschil/rrdp/FileKind" "SNAPSHOT" "Lcom/example/verschil/verschil/rrdp/FileKind;" (.ref kS)) (S_DELTA : Sta Z Z.heap "com/example/verschil/verschil/rrdp/FileKind" "DELTA" "Lcom/example/verschil/verschil/rrdp/FileKind;" (.ref kD)) :
    MetFree l x (head1 (Jvm.Cond.code x code maxLocals ret :: ws) room_1) (fun a U => a = #[(.int p1), (.int p2), (.int p3), (.int p4)] ∧ Z.Warmed39 U.vm ∧ U.heap = h0 ∧ CHv Z ELs U.vm Z.heap) (fun _ _ _ _ _ => True) (fun _ U o U' => ∃ v L, o = .returned v ∧ Q0 Z p1 p2 p3 p4 zc va kv fv kN kS kD rN rS rD h0 n0 v U'.heap L ∧ ReturnedEndW U o U' L room_1.cells room_1.slots) := by
  refine MetFree.of_bodySF (plainFor_of_name pn_1) hisR ?_
  intro p e s m args below meth c s₁ Bd hml0 hP hK
  obtain ⟨rfl, hZ, hh, hCH⟩ := hP
  have hx := Bd.exec
  have hby := Bd.bytes
  have hml : c.maxLocals = 10 := hml0
  have hown : s.vm.findClass "com/example/verschil/verschil/rrdp/FileKindOfRootPinLaw" = some m.cls := findClass_of_methodNamed Bd.named
  have hnm := (name_of_methodNamed Bd.named Bd.method).1
  have X0 : Stand p l e room_1 s m #[(.int p1), (.int p2), (.int p3), (.int p4)] below meth c s₁ [] 0 0 := Stand.of_body Bd
  have e0 : s₁.heap = h0 := by rw [← hh, Bd.state]; rfl
  have N0 := Fr.nil n0
  have pre0 : ∀ t, Steps p.tables e below (s₁.setTop (mkF m 0 #[.val (.int p1), .val (.int p2), .val (.int p3), .val (.int p4), .unset, .unset, .unset, .unset, .unset, .unset] [])) t → Steps p.tables e below (s₁.setTop (entryFrame m #[(.int p1), (.int p2), (.int p3), (.int p4)] maxLocals)) t := fun t k => castTop (ef_0 m p1 p2 p3 p4) k
  have hEL := own_EL hw
  have hStr := own_str hw
  have Hc : CHr Z ELs s.vm h0 s.vm h0 := CHr.refl (CHv.ext Ol.2 hCH)
  obtain ⟨v7, hv7⟩ : ∃ z : Int32, z = ((p1 &&& (2147483647 : Int32)) % (12 : Int32)) := ⟨_, rfl⟩
  have pre352 : ∀ t, Steps p.tables e below (s₁.setTop (mkF m 9 #[.val (.int p1), .val (.int p2), .val (.int p3), .val (.int p4), .val (.int v7), .unset, .unset, .unset, .unset, .unset] [])) t → Steps p.tables e below (s₁.setTop (entryFrame m #[(.int p1), (.int p2), (.int p3), (.int p4)] maxLocals)) t := fun t k => pre0 t (by
    show Steps p.tables e below (s₁.setTop (mkF m 0 #[.val (.int p1), .val (.int p2), .val (.int p3), .val (.int p4), .unset, .unset, .unset, .unset, .unset, .unset] [])) _
    refine XS.iloadN X0.here hx rfl (hb hby at_0) rfl ?_
    show Steps p.tables e below (s₁.setTop (mkF m 1 #[.val (.int p1), .val (.int p2), .val (.int p3), .val (.int p4), .unset, .unset, .unset, .unset, .unset, .unset] [(.int p1)])) _
    refine X0.ldcInt hx hown (mvT hZ (hw _ (List.mem_of_getElem? (i := 0) rfl))) (g := (mkF m 1 #[.val (.int p1), .val (.int p2), .val (.int p3), .val (.int p4), .unset, .unset, .unset, .unset, .unset, .unset] [(.int p1)])) rfl (hb hby at_1) _ ?_
    show Steps p.tables e below (s₁.setTop (mkF m 3 #[.val (.int p1), .val (.int p2), .val (.int p3), .val (.int p4), .unset, .unset, .unset, .unset, .unset, .unset] [(.int (2147483647 : Int32)), (.int p1)])) _
    refine XS.iand X0.here hx rfl (hb hby at_3) rfl ?_
    show Steps p.tables e below (s₁.setTop (mkF m 4 #[.val (.int p1), .val (.int p2), .val (.int p3), .val (.int p4), .unset, .unset, .unset, .unset, .unset, .unset] [(.int (p1 &&& (2147483647 : Int32)))])) _
    refine XS.bipush X0.here hx rfl (hb hby at_4) ?_
    show Steps p.tables e below (s₁.setTop (mkF m 6 #[.val (.int p1), .val (.int p2), .val (.int p3), .val (.int p4), .unset, .unset, .unset, .unset, .unset, .unset] [(.int (12 : Int32)), (.int (p1 &&& (2147483647 : Int32)))])) _
    refine iremM X0 hx rfl (hb hby at_6) rfl (by decide) ?_
    show Steps p.tables e below (s₁.setTop (mkF m 7 #[.val (.int p1), .val (.int p2), .val (.int p3), .val (.int p4), .unset, .unset, .unset, .unset, .unset, .unset] [(.int ((p1 &&& (2147483647 : Int32)) % (12 : Int32)))])) _
    refine XS.istore X0.here hx rfl (hb hby at_7) rfl (l' := #[.val (.int p1), .val (.int p2), .val (.int p3), .val (.int p4), .val (.int ((p1 &&& (2147483647 : Int32)) % (12 : Int32))), .unset, .unset, .unset, .unset, .unset]) rfl ?_
    rw [hv7] at k
    exact k)
  have pre353 : ∀ t, Steps p.tables e below (s₁.setTop (mkF m 14 #[.val (.int p1), .val (.int p2), .val (.int p3), .val (.int p4), .val (.int v7), .unset, .unset, .unset, .unset, .unset] [(.int (p3 &&& (256 : Int32)))])) t → Steps p.tables e below (s₁.setTop (entryFrame m #[(.int p1), (.int p2), (.int p3), (.int p4)] maxLocals)) t := fun t k => pre352 t (by
    show Steps p.tables e below (s₁.setTop (mkF m 9 #[.val (.int p1), .val (.int p2), .val (.int p3), .val (.int p4), .val (.int v7), .unset, .unset, .unset, .unset, .unset] [])) _
    refine XS.iloadN X0.here hx rfl (hb hby at_9) rfl ?_
    show Steps p.tables e below (s₁.setTop (mkF m 10 #[.val (.int p1), .val (.int p2), .val (.int p3), .val (.int p4), .val (.int v7), .unset, .unset, .unset, .unset, .unset] [(.int p3)])) _
    refine XS.sipush X0.here hx rfl (hb hby at_10) ?_
    show Steps p.tables e below (s₁.setTop (mkF m 13 #[.val (.int p1), .val (.int p2), .val (.int p3), .val (.int p4), .val (.int v7), .unset, .unset, .unset, .unset, .unset] [(.int (256 : Int32)), (.int p3)])) _
    refine XS.iand X0.here hx rfl (hb hby at_13) rfl ?_
    exact k)
  obtain ⟨z22_s0, hz22_s0⟩ : ∃ z : Int32, z = (if (p3 &&& (256 : Int32)) = (0 : Int32) then (0 : Int32) else (1 : Int32)) := ⟨_, rfl⟩
  obtain ⟨T356, Lc356, X356, e356, N356, pre356⟩ : ∃ (T' : State) (locs' : List Loc), Stand p l e room_1 s m #[(.int p1), (.int p2), (.int p3), (.int p4)] below meth c T' locs' 0 0 ∧ T'.heap = h0 ∧ Fr n0 locs' ∧ ∀ t, Steps p.tables e below (T'.setTop (mkF m 22 #[.val (.int p1), .val (.int p2), .val (.int p3), .val (.int p4), .val (.int v7), .unset, .unset, .unset, .unset, .unset] [(.int z22_s0)])) t → Steps p.tables e below (s₁.setTop (entryFrame m #[(.int p1), (.int p2), (.int p3), (.int p4)] maxLocals)) t := by
    by_cases hc14 : (p3 &&& (256 : Int32)) = (0 : Int32)
    ·
      have pre354 : ∀ t, Steps p.tables e below (s₁.setTop (mkF m 22 #[.val (.int p1), .val (.int p2), .val (.int p3), .val (.int p4), .val (.int v7), .unset, .unset, .unset, .unset, .unset] [(.int (0 : Int32))])) t → Steps p.tables e below (s₁.setTop (entryFrame m #[(.int p1), (.int p2), (.int p3), (.int p4)] maxLocals)) t := fun t k => pre353 t (by
        show Steps p.tables e below (s₁.setTop (mkF m 14 #[.val (.int p1), .val (.int p2), .val (.int p3), .val (.int p4), .val (.int v7), .unset, .unset, .unset, .unset, .unset] [(.int (p3 &&& (256 : Int32)))])) _
        refine XS.ifYes X0.here hx rfl (pc0 := 14) (pc' := 21) rfl (hb hby at_14) rfl ((if0 _ _).trans (teq hc14).1) (by decide) (by decide) ?_
        show Steps p.tables e below (s₁.setTop (mkF m 21 #[.val (.int p1), .val (.int p2), .val (.int p3), .val (.int p4), .val (.int v7), .unset, .unset, .unset, .unset, .unset] [])) _
        refine XS.iconst X0.here hx rfl (hb hby at_21) ?_
        exact k)
      have q_z22_s0 : z22_s0 = (0 : Int32) := by rw [hz22_s0, if_pos hc14]
      refine ⟨_, _, X0, e0, N0, fun t k => ?_⟩
      rw [q_z22_s0] at k
      exact pre354 t k
    ·
      have pre355 : ∀ t, Steps p.tables e below (s₁.setTop (mkF m 22 #[.val (.int p1), .val (.int p2), .val (.int p3), .val (.int p4), .val (.int v7), .unset, .unset, .unset, .unset, .unset] [(.int (1 : Int32))])) t → Steps p.tables e below (s₁.setTop (entryFrame m #[(.int p1), (.int p2), (.int p3), (.int p4)] maxLocals)) t := fun t k => pre353 t (by
        show Steps p.tables e below (s₁.setTop (mkF m 14 #[.val (.int p1), .val (.int p2), .val (.int p3), .val (.int p4), .val (.int v7), .unset, .unset, .unset, .unset, .unset] [(.int (p3 &&& (256 : Int32)))])) _
        refine XS.ifNo X0.here hx rfl (hb hby at_14) rfl ((if0 _ _).trans (feq hc14).1) ?_
        show Steps p.tables e below (s₁.setTop (mkF m 17 #[.val (.int p1), .val (.int p2), .val (.int p3), .val (.int p4), .val (.int v7), .unset, .unset, .unset, .unset, .unset] [])) _
        refine XS.iconst X0.here hx rfl (hb hby at_17) ?_
        show Steps p.tables e below (s₁.setTop (mkF m 18 #[.val (.int p1), .val (.int p2), .val (.int p3), .val (.int p4), .val (.int v7), .unset, .unset, .unset, .unset, .unset] [(.int (1 : Int32))])) _
        refine XS.goto X0.here hx rfl (pc0 := 18) (pc' := 22) rfl (hb hby at_18) (by decide) (by decide) ?_
        exact k)
      have q_z22_s0 : z22_s0 = (1 : Int32) := by rw [hz22_s0, if_neg hc14]
      refine ⟨_, _, X0, e0, N0, fun t k => ?_⟩
      rw [q_z22_s0] at k
      exact pre355 t k
  obtain ⟨v30, hv30⟩ : ∃ z : Int32, z = ((p3 &&& (255 : Int32)).toUInt32.toUInt16.toUInt32.toInt32) := ⟨_, rfl⟩
  have pre357 : ∀ t, Steps p.tables e below (T356.setTop (mkF m 32 #[.val (.int p1), .val (.int p2), .val (.int p3), .val (.int p4), .val (.int v7), .val (.int z22_s0), .val (.int v30), .unset, .unset, .unset] [])) t → Steps p.tables e below (s₁.setTop (entryFrame m #[(.int p1), (.int p2), (.int p3), (.int p4)] maxLocals)) t := fun t k => pre356 t (by
    show Steps p.tables e below (T356.setTop (mkF m 22 #[.val (.int p1), .val (.int p2), .val (.int p3), .val (.int p4), .val (.int v7), .unset, .unset, .unset, .unset, .unset] [(.int z22_s0)])) _
    refine XS.istore X356.here hx rfl (hb hby at_22) rfl (l' := #[.val (.int p1), .val (.int p2), .val (.int p3), .val (.int p4), .val (.int v7), .val (.int z22_s0), .unset, .unset, .unset, .unset]) rfl ?_
    show Steps p.tables e below (T356.setTop (mkF m 24 #[.val (.int p1), .val (.int p2), .val (.int p3), .val (.int p4), .val (.int v7), .val (.int z22_s0), .unset, .unset, .unset, .unset] [])) _
    refine XS.iloadN X356.here hx rfl (hb hby at_24) rfl ?_
    show Steps p.tables e below (T356.setTop (mkF m 25 #[.val (.int p1), .val (.int p2), .val (.int p3), .val (.int p4), .val (.int v7), .val (.int z22_s0), .unset, .unset, .unset, .unset] [(.int p3)])) _
    refine XS.sipush X356.here hx rfl (hb hby at_25) ?_
    show Steps p.tables e below (T356.setTop (mkF m 28 #[.val (.int p1), .val (.int p2), .val (.int p3), .val (.int p4), .val (.int v7), .val (.int z22_s0), .unset, .unset, .unset, .unset] [(.int (255 : Int32)), (.int p3)])) _
    refine XS.iand X356.here hx rfl (hb hby at_28) rfl ?_
    show Steps p.tables e below (T356.setTop (mkF m 29 #[.val (.int p1), .val (.int p2), .val (.int p3), .val (.int p4), .val (.int v7), .val (.int z22_s0), .unset, .unset, .unset, .unset] [(.int (p3 &&& (255 : Int32)))])) _
    refine XS.i2c X356.here hx rfl (hb hby at_29) rfl ?_
    show Steps p.tables e below (T356.setTop (mkF m 30 #[.val (.int p1), .val (.int p2), .val (.int p3), .val (.int p4), .val (.int v7), .val (.int z22_s0), .unset, .unset, .unset, .unset] [(.int ((p3 &&& (255 : Int32)).toUInt32.toUInt16.toUInt32.toInt32))])) _
    refine XS.istore X356.here hx rfl (hb hby at_30) rfl (l' := #[.val (.int p1), .val (.int p2), .val (.int p3), .val (.int p4), .val (.int v7), .val (.int z22_s0), .val (.int ((p3 &&& (255 : Int32)).toUInt32.toUInt16.toUInt32.toInt32)), .unset, .unset, .unset]) rfl ?_
    rw [hv30] at k
    exact k)
  obtain ⟨v38, hv38⟩ : ∃ z : Int32, z = ((p4 &&& (255 : Int32)).toUInt32.toUInt16.toUInt32.toInt32) := ⟨_, rfl⟩
  have pre358 : ∀ t, Steps p.tables e below (T356.setTop (mkF m 40 #[.val (.int p1), .val (.int p2), .val (.int p3), .val (.int p4), .val (.int v7), .val (.int z22_s0), .val (.int v30), .val (.int v38), .unset, .unset] [])) t → Steps p.tables e below (s₁.setTop (entryFrame m #[(.int p1), (.int p2), (.int p3), (.int p4)] maxLocals)) t := fun t k => pre357 t (by
    show Steps p.tables e below (T356.setTop (mkF m 32 #[.val (.int p1), .val (.int p2), .val (.int p3), .val (.int p4), .val (.int v7), .val (.int z22_s0), .val (.int v30), .unset, .unset, .unset] [])) _
    refine XS.iloadN X356.here hx rfl (hb hby at_32) rfl ?_
    show Steps p.tables e below (T356.setTop (mkF m 33 #[.val (.int p1), .val (.int p2), .val (.int p3), .val (.int p4), .val (.int v7), .val (.int z22_s0), .val (.int v30), .unset, .unset, .unset] [(.int p4)])) _
    refine XS.sipush X356.here hx rfl (hb hby at_33) ?_
    show Steps p.tables e below (T356.setTop (mkF m 36 #[.val (.int p1), .val (.int p2), .val (.int p3), .val (.int p4), .val (.int v7), .val (.int z22_s0), .val (.int v30), .unset, .unset, .unset] [(.int (255 : Int32)), (.int p4)])) _
    refine XS.iand X356.here hx rfl (hb hby at_36) rfl ?_
    show Steps p.tables e below (T356.setTop (mkF m 37 #[.val (.int p1), .val (.int p2), .val (.int p3), .val (.int p4), .val (.int v7), .val (.int z22_s0), .val (.int v30), .unset, .unset, .unset] [(.int (p4 &&& (255 : Int32)))])) _
    refine XS.i2c X356.here hx rfl (hb hby at_37) rfl ?_
    show Steps p.tables e below (T356.setTop (mkF m 38 #[.val (.int p1), .val (.int p2), .val (.int p3), .val (.int p4), .val (.int v7), .val (.int z22_s0), .val (.int v30), .unset, .unset, .unset] [(.int ((p4 &&& (255 : Int32)).toUInt32.toUInt16.toUInt32.toInt32))])) _
    refine XS.istore X356.here hx rfl (hb hby at_38) rfl (l' := #[.val (.int p1), .val (.int p2), .val (.int p3), .val (.int p4), .val (.int v7), .val (.int z22_s0), .val (.int v30), .val (.int ((p4 &&& (255 : Int32)).toUInt32.toUInt16.toUInt32.toInt32)), .unset, .unset]) rfl ?_
    rw [hv38] at k
    exact k)
  have Bc := own_byt hv30
  have Bd' := own_byt hv38
  have pre359 : ∀ t, Steps p.tables e below (T356.setTop (mkF m 49 #[.val (.int p1), .val (.int p2), .val (.int p3), .val (.int p4), .val (.int v7), .val (.int z22_s0), .val (.int v30), .val (.int v38), .unset, .unset] [(.int v38), (.int v30), (.int z22_s0), (.int p2), (.int v7)])) t → Steps p.tables e below (s₁.setTop (entryFrame m #[(.int p1), (.int p2), (.int p3), (.int p4)] maxLocals)) t := fun t k => pre358 t (by
    show Steps p.tables e below (T356.setTop (mkF m 40 #[.val (.int p1), .val (.int p2), .val (.int p3), .val (.int p4), .val (.int v7), .val (.int z22_s0), .val (.int v30), .val (.int v38), .unset, .unset] [])) _
    refine XS.iload X356.here hx rfl (hb hby at_40) rfl ?_
    show Steps p.tables e below (T356.setTop (mkF m 42 #[.val (.int p1), .val (.int p2), .val (.int p3), .val (.int p4), .val (.int v7), .val (.int z22_s0), .val (.int v30), .val (.int v38), .unset, .unset] [(.int v7)])) _
    refine XS.iloadN X356.here hx rfl (hb hby at_42) rfl ?_
    show Steps p.tables e below (T356.setTop (mkF m 43 #[.val (.int p1), .val (.int p2), .val (.int p3), .val (.int p4), .val (.int v7), .val (.int z22_s0), .val (.int v30), .val (.int v38), .unset, .unset] [(.int p2), (.int v7)])) _
    refine XS.iload X356.here hx rfl (hb hby at_43) rfl ?_
    show Steps p.tables e below (T356.setTop (mkF m 45 #[.val (.int p1), .val (.int p2), .val (.int p3), .val (.int p4), .val (.int v7), .val (.int z22_s0), .val (.int v30), .val (.int v38), .unset, .unset] [(.int z22_s0), (.int p2), (.int v7)])) _
    refine XS.iload X356.here hx rfl (hb hby at_45) rfl ?_
    show Steps p.tables e below (T356.setTop (mkF m 47 #[.val (.int p1), .val (.int p2), .val (.int p3), .val (.int p4), .val (.int v7), .val (.int z22_s0), .val (.int v30), .val (.int v38), .unset, .unset] [(.int v30), (.int z22_s0), (.int p2), (.int v7)])) _
    refine XS.iload X356.here hx rfl (hb hby at_47) rfl ?_
    exact k)
  by_cases hk11 : v7 = (11 : Int32)
  ·
    obtain ⟨_, _, ⟨T360, L360, k360, n360⟩, -, X360, ⟨Lc360, hQ360, l360, y360, z360⟩, st360⟩ := Jvm.LawKit.callS X356 hx (y := (⟨"com/example/verschil/verschil/rrdp/FileKindOfRootPinLaw", "build", "(IIZCC)Ljava/lang/String;"⟩ : MethodName)) hown (mvT hZ (hw _ (List.mem_of_getElem? (i := 1) rfl))) (mvT hZ (hw _ (List.mem_of_getElem? (i := 2) rfl))) (mvT hZ (hw _ (List.mem_of_getElem? (i := 3) rfl))) (mvT hZ (hw _ (List.mem_of_getElem? (i := 4) rfl))) (by decide) (backOf (W := 0) (rmB0 l Z a0 hw [] v7 p2 z22_s0 v30 v38 h0 n0 Zs hk11) hZ (hw _ (List.mem_of_getElem? (i := 4) rfl)) (hw _ (List.mem_of_getElem? (i := 3) rfl)) (by decide) (by decide)) (g := (mkF m 49 #[.val (.int p1), .val (.int p2), .val (.int p3), .val (.int p4), .val (.int v7), .val (.int z22_s0), .val (.int v30), .val (.int v38), .unset, .unset] [(.int v38), (.int v30), (.int z22_s0), (.int p2), (.int v7)])) rfl (by rw [hml]; rfl) (argsL := [(.int v7), (.int p2), (.int z22_s0), (.int v30), (.int v38)]) (rest := []) (lenOf pd_4 rfl) rfl (by show 2 * 0 + _ ≤ _; exact Nat.le_of_eq rfl) (hb hby at_49) (fun _ _ => ⟨rfl, e356, (by decide : 0 + 0 ≤ _), (by decide : 0 + 0 ≤ _)⟩)
    dsimp only [Pt.U, Pt.locs, Pt.cells, Pt.slots] at X360 l360 y360 z360 st360 hQ360
    subst l360 y360 z360
    obtain ⟨rfl, N360q, e360⟩ := hQ360
    have N360 := Fr.app N356 N360q
    obtain ⟨_, _, ⟨T361, L361, k361, n361⟩, -, X361, ⟨Lc361, hQ361, l361, y361, z361⟩, st361⟩ := Jvm.LawKit.callS X360 hx (y := (⟨"com/example/verschil/verschil/rrdp/FileKindOfRootPinLaw", "expected", "(Ljava/lang/String;)Lcom/example/verschil/verschil/rrdp/FileKind;"⟩ : MethodName)) hown (mvT hZ (hw _ (List.mem_of_getElem? (i := 35) rfl))) (mvT hZ (hw _ (List.mem_of_getElem? (i := 36) rfl))) (mvT hZ (hw _ (List.mem_of_getElem? (i := 3) rfl))) (mvT hZ (hw _ (List.mem_of_getElem? (i := 37) rfl))) (by decide) (backOf (W := 0) (rmXn l Z a0 hw []  h0 n0 Zs ) hZ (hw _ (List.mem_of_getElem? (i := 37) rfl)) (hw _ (List.mem_of_getElem? (i := 3) rfl)) (by decide) (by decide)) (g := (mkF m 56 #[.val (.int p1), .val (.int p2), .val (.int p3), .val (.int p4), .val (.int v7), .val (.int z22_s0), .val (.int v30), .val (.int v38), .val .null, .unset] [.null])) rfl (by rw [hml]; rfl) (argsL := [.null]) (rest := []) (lenOf pd_5 rfl) rfl (by show 2 * 0 + _ ≤ _; exact Nat.le_of_eq rfl) (hb hby at_56) (fun _ _ => ⟨rfl, e360, (by decide : 0 + 0 ≤ _), (by decide : 0 + 0 ≤ _)⟩)
    dsimp only [Pt.U, Pt.locs, Pt.cells, Pt.slots] at X361 l361 y361 z361 st361 hQ361
    subst l361 y361 z361
    obtain ⟨rfl, N361q, e361⟩ := hQ361
    have N361 := Fr.app N360 N361q
    obtain ⟨_, _, ⟨T362, L362, k362, n362⟩, -, X362, ⟨Lc362, hQ362, l362, y362, z362⟩, st362⟩ := Jvm.LawKit.callS X361 hx (y := (⟨"com/example/verschil/verschil/rrdp/FileKind", "ofRoot", "(Ljava/lang/String;)Lcom/example/verschil/verschil/rrdp/FileKind;"⟩ : MethodName)) hown (mvT hZ (hw _ (List.mem_of_getElem? (i := 54) rfl))) (mvT hZ (hw _ (List.mem_of_getElem? (i := 55) rfl))) (mvT hZ (hw _ (List.mem_of_getElem? (i := 52) rfl))) (mvT hZ (hw _ (List.mem_of_getElem? (i := 56) rfl))) (by decide) (backOf (W := 0) (rmOn l Z a0 hw [] zc va kv fv kN kS kD rN rS rD h0 n0 Zs Ol S_COMPACT_STRINGS hzc S__VALUES E_va A_va hv0 hv1 hv2 F_root_kN E_rN T_rN F_root_kS E_rS T_rS F_root_kD E_rD T_rD) hZ (hw _ (List.mem_of_getElem? (i := 56) rfl)) (hw _ (List.mem_of_getElem? (i := 52) rfl)) (by decide) (by decide)) (g := (mkF m 63 #[.val (.int p1), .val (.int p2), .val (.int p3), .val (.int p4), .val (.int v7), .val (.int z22_s0), .val (.int v30), .val (.int v38), .val .null, .val .null] [.null])) rfl (by rw [hml]; rfl) (argsL := [.null]) (rest := []) (lenOf pd_5 rfl) rfl (by show 2 * 0 + _ ≤ _; exact Nat.le_of_eq rfl) (hb hby at_63) (fun _ _ => ⟨rfl, e361, (by decide : 0 + 1 ≤ _), (by decide : 0 + 3 ≤ _)⟩)
    dsimp only [Pt.U, Pt.locs, Pt.cells, Pt.slots] at X362 l362 y362 z362 st362 hQ362
    subst l362 y362 z362
    obtain ⟨rfl, N362q, K362⟩ := hQ362
    have Hd : CHr Z ELs s.vm h0 s.vm T362.heap := Hc.trans (CHr.keep K362 all0 Hc.1)
    have Hc := Hd
    have Zs : n0 ≤ T362.heap.size := Nat.le_trans Zs K362.1
    have Ol : Old Z n0 T362.heap := Ol.keep K362 all0
    have N362 := Fr.app N361 N362q
    have pre363 : ∀ t, Steps p.tables e below (T362.setTop (mkF m 76 #[.val (.int p1), .val (.int p2), .val (.int p3), .val (.int p4), .val (.int v7), .val (.int z22_s0), .val (.int v30), .val (.int v38), .val .null, .val .null] [(.int (1 : Int32))])) t → Steps p.tables e below (s₁.setTop (entryFrame m #[(.int p1), (.int p2), (.int p3), (.int p4)] maxLocals)) t := fun t k => pre359 t (by
      show Steps p.tables e below (T356.setTop (mkF m 49 #[.val (.int p1), .val (.int p2), .val (.int p3), .val (.int p4), .val (.int v7), .val (.int z22_s0), .val (.int v30), .val (.int v38), .unset, .unset] [(.int v38), (.int v30), (.int z22_s0), (.int p2), (.int v7)])) _
      refine st360 _ ?_
      show Steps p.tables e below (T360.setTop (mkF m 52 #[.val (.int p1), .val (.int p2), .val (.int p3), .val (.int p4), .val (.int v7), .val (.int z22_s0), .val (.int v30), .val (.int v38), .unset, .unset] [.null])) _
      refine XS.astore X360.here hx rfl (hb hby at_52) rfl rfl (l' := #[.val (.int p1), .val (.int p2), .val (.int p3), .val (.int p4), .val (.int v7), .val (.int z22_s0), .val (.int v30), .val (.int v38), .val .null, .unset]) rfl ?_
      show Steps p.tables e below (T360.setTop (mkF m 54 #[.val (.int p1), .val (.int p2), .val (.int p3), .val (.int p4), .val (.int v7), .val (.int z22_s0), .val (.int v30), .val (.int v38), .val .null, .unset] [])) _
      refine XS.aload X360.here hx rfl (hb hby at_54) rfl rfl ?_
      show Steps p.tables e below (T360.setTop (mkF m 56 #[.val (.int p1), .val (.int p2), .val (.int p3), .val (.int p4), .val (.int v7), .val (.int z22_s0), .val (.int v30), .val (.int v38), .val .null, .unset] [.null])) _
      refine st361 _ ?_
      show Steps p.tables e below (T361.setTop (mkF m 59 #[.val (.int p1), .val (.int p2), .val (.int p3), .val (.int p4), .val (.int v7), .val (.int z22_s0), .val (.int v30), .val (.int v38), .val .null, .unset] [.null])) _
      refine XS.astore X361.here hx rfl (hb hby at_59) rfl rfl (l' := #[.val (.int p1), .val (.int p2), .val (.int p3), .val (.int p4), .val (.int v7), .val (.int z22_s0), .val (.int v30), .val (.int v38), .val .null, .val .null]) rfl ?_
      show Steps p.tables e below (T361.setTop (mkF m 61 #[.val (.int p1), .val (.int p2), .val (.int p3), .val (.int p4), .val (.int v7), .val (.int z22_s0), .val (.int v30), .val (.int v38), .val .null, .val .null] [])) _
      refine XS.aload X361.here hx rfl (hb hby at_61) rfl rfl ?_
      show Steps p.tables e below (T361.setTop (mkF m 63 #[.val (.int p1), .val (.int p2), .val (.int p3), .val (.int p4), .val (.int v7), .val (.int z22_s0), .val (.int v30), .val (.int v38), .val .null, .val .null] [.null])) _
      refine st362 _ ?_
      show Steps p.tables e below (T362.setTop (mkF m 66 #[.val (.int p1), .val (.int p2), .val (.int p3), .val (.int p4), .val (.int v7), .val (.int z22_s0), .val (.int v30), .val (.int v38), .val .null, .val .null] [.null])) _
      refine XS.aload X362.here hx rfl (hb hby at_66) rfl rfl ?_
      show Steps p.tables e below (T362.setTop (mkF m 68 #[.val (.int p1), .val (.int p2), .val (.int p3), .val (.int p4), .val (.int v7), .val (.int z22_s0), .val (.int v30), .val (.int v38), .val .null, .val .null] [.null, .null])) _
      refine Jvm.RoadKit.acmp (g := (mkF m 68 #[.val (.int p1), .val (.int p2), .val (.int p3), .val (.int p4), .val (.int v7), .val (.int z22_s0), .val (.int v30), .val (.int v38), .val .null, .val .null] [.null, .null])) X362 hx rfl rfl rfl (pc0 := 68) (pc' := 71) (same := true) rfl (hb hby at_68) rfl (decide_eq_true rfl) (by decide) (by decide) ?_
      show Steps p.tables e below (T362.setTop (mkF m 71 #[.val (.int p1), .val (.int p2), .val (.int p3), .val (.int p4), .val (.int v7), .val (.int z22_s0), .val (.int v30), .val (.int v38), .val .null, .val .null] [])) _
      refine XS.iconst X362.here hx rfl (hb hby at_71) ?_
      show Steps p.tables e below (T362.setTop (mkF m 72 #[.val (.int p1), .val (.int p2), .val (.int p3), .val (.int p4), .val (.int v7), .val (.int z22_s0), .val (.int v30), .val (.int v38), .val .null, .val .null] [(.int (1 : Int32))])) _
      refine XS.goto X362.here hx rfl (pc0 := 72) (pc' := 76) rfl (hb hby at_72) (by decide) (by decide) ?_
      exact k)
    obtain ⟨fs, hr, hrun, hended, hRW⟩ := X362.leaveW (s := s) (vm₁ := s.vm) ((State.WarmedH.refl s).since 0) (Nat.zero_le _) (v := some (.int (1 : Int32))) (fun h => by rw [Bd.returns] at h; cases h)
    have hCR := trivial
    refine ⟨_, _, pre363 _ ?_, hrun, hended, _, _, rfl, ?_, ⟨hRW.1, hRW.2.1, hRW.2.2.1, hRW.2.2.2.mono (by decide) (by decide)⟩⟩
    · show Steps p.tables e below (T362.setTop (mkF m 76 #[.val (.int p1), .val (.int p2), .val (.int p3), .val (.int p4), .val (.int v7), .val (.int z22_s0), .val (.int v30), .val (.int v38), .val .null, .val .null] [(.int (1 : Int32))])) _
      exact retN X362 hx (t := .boolean) Bd.returns (by simp) (hb hby at_76) hr
    · show Q0 Z p1 p2 p3 p4 zc va kv fv kN kS kD rN rS rD h0 n0 _ T362.heap _
      exact ⟨rfl, N362⟩
  ·
    obtain ⟨_, _, ⟨T364, L364, k364, n364⟩, -, X364, h2364, g2364, ⟨Lc364, hQ364, l364, y364, z364, R364⟩, st364⟩ := callSS (s := (s.setVm s.vm)) X356 hx (y := (⟨"com/example/verschil/verschil/rrdp/FileKindOfRootPinLaw", "build", "(IIZCC)Ljava/lang/String;"⟩ : MethodName)) hown (mvT hZ (hw _ (List.mem_of_getElem? (i := 1) rfl))) (mvT hZ (hw _ (List.mem_of_getElem? (i := 2) rfl))) (mvT hZ (hw _ (List.mem_of_getElem? (i := 3) rfl))) (mvT hZ (hw _ (List.mem_of_getElem? (i := 4) rfl))) (by decide) (backOfSH (W := 0) (rmB l Z a0 hw [] v7 p2 z22_s0 v30 v38 zc h0 n0 Zs Ol S_COMPACT_STRINGS hzc hk11 Bc Bd') hZ (hw _ (List.mem_of_getElem? (i := 4) rfl)) (hw _ (List.mem_of_getElem? (i := 3) rfl)) (by decide) (by decide) hEL Hc.1) (g := (mkF m 49 #[.val (.int p1), .val (.int p2), .val (.int p3), .val (.int p4), .val (.int v7), .val (.int z22_s0), .val (.int v30), .val (.int v38), .unset, .unset] [(.int v38), (.int v30), (.int z22_s0), (.int p2), (.int v7)])) rfl (by rw [hml]; rfl) (argsL := [(.int v7), (.int p2), (.int z22_s0), (.int v30), (.int v38)]) (rest := []) (lenOf pd_4 rfl) rfl (by show 2 * 0 + _ ≤ _; exact Nat.le_of_eq rfl) (hb hby at_49) (fun _ _ => ⟨rfl, e356, (by decide : 0 + 6 ≤ _), (by decide : 0 + 30 ≤ _)⟩)
    dsimp only [Pt.U, Pt.locs, Pt.cells, Pt.slots] at X364 h2364 g2364 l364 y364 z364 st364 hQ364 R364
    subst l364 y364 z364
    obtain ⟨X364, hS364, hZ, hown⟩ := rebS ((State.WarmedH.refl s).since 0) (by rw [e356]; exact (Nat.zero_le _)) X364 h2364 g2364 hZ hown
    obtain ⟨b_364, cs_364, rfl, N364q, K364, P364_1, P364_2⟩ := hQ364
    have Hc : CHr Z ELs s.vm h0 T364.vm T364.heap := Hc.trans R364
    have Zs : n0 ≤ T364.heap.size := Nat.le_trans Zs K364.1
    have Ol : Old Z n0 T364.heap := Ol.keep K364 all0
    have hkc : T364.heap.size ≤ T364.heap.size := Nat.le_refl _
    have E_b_364 : Exa Z T364.heap b_364 "java/lang/String" := P364_1
    have T_b_364 : Stx Z T364.heap b_364 cs_364 := P364_2
    have N364 := Fr.app N356 N364q
    have pre365 : ∀ t, Steps p.tables e below (T364.setTop (mkF m 56 #[.val (.int p1), .val (.int p2), .val (.int p3), .val (.int p4), .val (.int v7), .val (.int z22_s0), .val (.int v30), .val (.int v38), .val (.ref b_364), .unset] [(.ref b_364)])) t → Steps p.tables e below (s₁.setTop (entryFrame m #[(.int p1), (.int p2), (.int p3), (.int p4)] maxLocals)) t := fun t k => pre359 t (by
      show Steps p.tables e below (T356.setTop (mkF m 49 #[.val (.int p1), .val (.int p2), .val (.int p3), .val (.int p4), .val (.int v7), .val (.int z22_s0), .val (.int v30), .val (.int v38), .unset, .unset] [(.int v38), (.int v30), (.int z22_s0), (.int p2), (.int v7)])) _
      refine st364.trans ?_
      show Steps p.tables e below (T364.setTop (mkF m 52 #[.val (.int p1), .val (.int p2), .val (.int p3), .val (.int p4), .val (.int v7), .val (.int z22_s0), .val (.int v30), .val (.int v38), .unset, .unset] [(.ref b_364)])) _
      refine XS.astore X364.here hx rfl (hb hby at_52) rfl rfl (l' := #[.val (.int p1), .val (.int p2), .val (.int p3), .val (.int p4), .val (.int v7), .val (.int z22_s0), .val (.int v30), .val (.int v38), .val (.ref b_364), .unset]) rfl ?_
      show Steps p.tables e below (T364.setTop (mkF m 54 #[.val (.int p1), .val (.int p2), .val (.int p3), .val (.int p4), .val (.int v7), .val (.int z22_s0), .val (.int v30), .val (.int v38), .val (.ref b_364), .unset] [])) _
      refine XS.aload X364.here hx rfl (hb hby at_54) rfl rfl ?_
      exact k)
    by_cases hN : cs_364 = [(110 : Int32), (111 : Int32), (116 : Int32), (105 : Int32), (102 : Int32), (105 : Int32), (99 : Int32), (97 : Int32), (116 : Int32), (105 : Int32), (111 : Int32), (110 : Int32)]
    ·
      obtain ⟨_, _, ⟨T366, L366, k366, n366⟩, -, X366, h2366, g2366, ⟨Lc366, hQ366, l366, y366, z366, R366⟩, st366⟩ := callSS (s := (s.setVm T364.vm)) X364 hx (y := (⟨"com/example/verschil/verschil/rrdp/FileKindOfRootPinLaw", "expected", "(Ljava/lang/String;)Lcom/example/verschil/verschil/rrdp/FileKind;"⟩ : MethodName)) hown (mvT hZ (hw _ (List.mem_of_getElem? (i := 35) rfl))) (mvT hZ (hw _ (List.mem_of_getElem? (i := 36) rfl))) (mvT hZ (hw _ (List.mem_of_getElem? (i := 3) rfl))) (mvT hZ (hw _ (List.mem_of_getElem? (i := 37) rfl))) (by decide) (backOfSH (W := 0) (rmXN l Z a0 hw [] b_364 cs_364 zc kN T364.heap n0 Zs E_b_364 T_b_364 Ol S_COMPACT_STRINGS hzc S_NOTIFICATION hN) hZ (hw _ (List.mem_of_getElem? (i := 37) rfl)) (hw _ (List.mem_of_getElem? (i := 3) rfl)) (by decide) (by decide) hEL Hc.1) (g := (mkF m 56 #[.val (.int p1), .val (.int p2), .val (.int p3), .val (.int p4), .val (.int v7), .val (.int z22_s0), .val (.int v30), .val (.int v38), .val (.ref b_364), .unset] [(.ref b_364)])) rfl (by rw [hml]; rfl) (argsL := [(.ref b_364)]) (rest := []) (lenOf pd_5 rfl) rfl (by show 2 * 0 + _ ≤ _; exact Nat.le_of_eq rfl) (hb hby at_56) (fun _ _ => ⟨rfl, rfl, (by decide : 6 + 2 ≤ _), (by decide : 30 + 52 ≤ _)⟩)
      dsimp only [Pt.U, Pt.locs, Pt.cells, Pt.slots] at X366 h2366 g2366 l366 y366 z366 st366 hQ366 R366
      subst l366 y366 z366
      obtain ⟨X366, hS366, hZ, hown⟩ := rebS hS364 hkc X366 h2366 g2366 hZ hown
      obtain ⟨rfl, N366q, K366⟩ := hQ366
      have Hc : CHr Z ELs s.vm h0 T366.vm T366.heap := Hc.trans R366
      have Zs : n0 ≤ T366.heap.size := Nat.le_trans Zs K366.1
      have Ol : Old Z n0 T366.heap := Ol.keep K366 all0
      have E_b_364 : Exa Z T366.heap b_364 "java/lang/String" := E_b_364.keep K366
      have T_b_364 : Stx Z T366.heap b_364 cs_364 := T_b_364.keep K366
      have hkc : T366.heap.size ≤ T366.heap.size := Nat.le_refl _
      have N366 := Fr.app N364 N366q
      obtain ⟨_, _, ⟨T367, L367, k367, n367⟩, -, X367, ⟨Lc367, hQ367, l367, y367, z367⟩, st367⟩ := Jvm.LawKit.callS X366 hx (y := (⟨"com/example/verschil/verschil/rrdp/FileKind", "ofRoot", "(Ljava/lang/String;)Lcom/example/verschil/verschil/rrdp/FileKind;"⟩ : MethodName)) hown (mvT hZ (hw _ (List.mem_of_getElem? (i := 54) rfl))) (mvT hZ (hw _ (List.mem_of_getElem? (i := 55) rfl))) (mvT hZ (hw _ (List.mem_of_getElem? (i := 52) rfl))) (mvT hZ (hw _ (List.mem_of_getElem? (i := 56) rfl))) (by decide) (backOf (W := 0) (rmON l Z a0 hw [] b_364 cs_364 zc va kv fv kN kS kD rN rS rD T366.heap n0 Zs E_b_364 T_b_364 Ol S_COMPACT_STRINGS hzc S__VALUES E_va A_va hv0 hv1 hv2 F_root_kN E_rN T_rN F_root_kS E_rS T_rS F_root_kD E_rD T_rD hN) hZ (hw _ (List.mem_of_getElem? (i := 56) rfl)) (hw _ (List.mem_of_getElem? (i := 52) rfl)) (by decide) (by decide)) (g := (mkF m 63 #[.val (.int p1), .val (.int p2), .val (.int p3), .val (.int p4), .val (.int v7), .val (.int z22_s0), .val (.int v30), .val (.int v38), .val (.ref b_364), .val (.ref kN)] [(.ref b_364)])) rfl (by rw [hml]; rfl) (argsL := [(.ref b_364)]) (rest := []) (lenOf pd_5 rfl) rfl (by show 2 * 0 + _ ≤ _; exact Nat.le_of_eq rfl) (hb hby at_63) (fun _ _ => ⟨rfl, rfl, (by decide : 8 + 1 ≤ _), (by decide : 82 + 3 ≤ _)⟩)
      dsimp only [Pt.U, Pt.locs, Pt.cells, Pt.slots] at X367 l367 y367 z367 st367 hQ367
      subst l367 y367 z367
      obtain ⟨rfl, N367q, K367⟩ := hQ367
      have hkc : T366.heap.size ≤ T367.heap.size := Nat.le_trans hkc K367.1
      have Hd : CHr Z ELs s.vm h0 T366.vm T367.heap := Hc.trans (CHr.keep K367 all0 Hc.1)
      have Hc := Hd
      have Zs : n0 ≤ T367.heap.size := Nat.le_trans Zs K367.1
      have Ol : Old Z n0 T367.heap := Ol.keep K367 all0
      have E_b_364 : Exa Z T367.heap b_364 "java/lang/String" := E_b_364.keep K367
      have T_b_364 : Stx Z T367.heap b_364 cs_364 := T_b_364.keep K367
      have N367 := Fr.app N366 N367q
      have pre368 : ∀ t, Steps p.tables e below (T367.setTop (mkF m 76 #[.val (.int p1), .val (.int p2), .val (.int p3), .val (.int p4), .val (.int v7), .val (.int z22_s0), .val (.int v30), .val (.int v38), .val (.ref b_364), .val (.ref kN)] [(.int (1 : Int32))])) t → Steps p.tables e below (s₁.setTop (entryFrame m #[(.int p1), (.int p2), (.int p3), (.int p4)] maxLocals)) t := fun t k => pre365 t (by
        show Steps p.tables e below (T364.setTop (mkF m 56 #[.val (.int p1), .val (.int p2), .val (.int p3), .val (.int p4), .val (.int v7), .val (.int z22_s0), .val (.int v30), .val (.int v38), .val (.ref b_364), .unset] [(.ref b_364)])) _
        refine st366.trans ?_
        show Steps p.tables e below (T366.setTop (mkF m 59 #[.val (.int p1), .val (.int p2), .val (.int p3), .val (.int p4), .val (.int v7), .val (.int z22_s0), .val (.int v30), .val (.int v38), .val (.ref b_364), .unset] [(.ref kN)])) _
        refine XS.astore X366.here hx rfl (hb hby at_59) rfl rfl (l' := #[.val (.int p1), .val (.int p2), .val (.int p3), .val (.int p4), .val (.int v7), .val (.int z22_s0), .val (.int v30), .val (.int v38), .val (.ref b_364), .val (.ref kN)]) rfl ?_
        show Steps p.tables e below (T366.setTop (mkF m 61 #[.val (.int p1), .val (.int p2), .val (.int p3), .val (.int p4), .val (.int v7), .val (.int z22_s0), .val (.int v30), .val (.int v38), .val (.ref b_364), .val (.ref kN)] [])) _
        refine XS.aload X366.here hx rfl (hb hby at_61) rfl rfl ?_
        show Steps p.tables e below (T366.setTop (mkF m 63 #[.val (.int p1), .val (.int p2), .val (.int p3), .val (.int p4), .val (.int v7), .val (.int z22_s0), .val (.int v30), .val (.int v38), .val (.ref b_364), .val (.ref kN)] [(.ref b_364)])) _
        refine st367 _ ?_
        show Steps p.tables e below (T367.setTop (mkF m 66 #[.val (.int p1), .val (.int p2), .val (.int p3), .val (.int p4), .val (.int v7), .val (.int z22_s0), .val (.int v30), .val (.int v38), .val (.ref b_364), .val (.ref kN)] [(.ref kN)])) _
        refine XS.aload X367.here hx rfl (hb hby at_66) rfl rfl ?_
        show Steps p.tables e below (T367.setTop (mkF m 68 #[.val (.int p1), .val (.int p2), .val (.int p3), .val (.int p4), .val (.int v7), .val (.int z22_s0), .val (.int v30), .val (.int v38), .val (.ref b_364), .val (.ref kN)] [(.ref kN), (.ref kN)])) _
        refine Jvm.RoadKit.acmp (g := (mkF m 68 #[.val (.int p1), .val (.int p2), .val (.int p3), .val (.int p4), .val (.int v7), .val (.int z22_s0), .val (.int v30), .val (.int v38), .val (.ref b_364), .val (.ref kN)] [(.ref kN), (.ref kN)])) X367 hx rfl rfl rfl (pc0 := 68) (pc' := 71) (same := true) rfl (hb hby at_68) rfl (decide_eq_true rfl) (by decide) (by decide) ?_
        show Steps p.tables e below (T367.setTop (mkF m 71 #[.val (.int p1), .val (.int p2), .val (.int p3), .val (.int p4), .val (.int v7), .val (.int z22_s0), .val (.int v30), .val (.int v38), .val (.ref b_364), .val (.ref kN)] [])) _
        refine XS.iconst X367.here hx rfl (hb hby at_71) ?_
        show Steps p.tables e below (T367.setTop (mkF m 72 #[.val (.int p1), .val (.int p2), .val (.int p3), .val (.int p4), .val (.int v7), .val (.int z22_s0), .val (.int v30), .val (.int v38), .val (.ref b_364), .val (.ref kN)] [(.int (1 : Int32))])) _
        refine XS.goto X367.here hx rfl (pc0 := 72) (pc' := 76) rfl (hb hby at_72) (by decide) (by decide) ?_
        exact k)
      obtain ⟨fs, hr, hrun, hended, hRW⟩ := X367.leaveW (s := s) (vm₁ := T366.vm) hS366 hkc (v := some (.int (1 : Int32))) (fun h => by rw [Bd.returns] at h; cases h)
      have hCR := trivial
      refine ⟨_, _, pre368 _ ?_, hrun, hended, _, _, rfl, ?_, ⟨hRW.1, hRW.2.1, hRW.2.2.1, hRW.2.2.2.mono (by decide) (by decide)⟩⟩
      · show Steps p.tables e below (T367.setTop (mkF m 76 #[.val (.int p1), .val (.int p2), .val (.int p3), .val (.int p4), .val (.int v7), .val (.int z22_s0), .val (.int v30), .val (.int v38), .val (.ref b_364), .val (.ref kN)] [(.int (1 : Int32))])) _
        exact retN X367 hx (t := .boolean) Bd.returns (by simp) (hb hby at_76) hr
      · show Q0 Z p1 p2 p3 p4 zc va kv fv kN kS kD rN rS rD h0 n0 _ T367.heap _
        exact ⟨rfl, N367⟩
    ·
      by_cases hS : cs_364 = [(115 : Int32), (110 : Int32), (97 : Int32), (112 : Int32), (115 : Int32), (104 : Int32), (111 : Int32), (116 : Int32)]
      ·
        obtain ⟨_, _, ⟨T369, L369, k369, n369⟩, -, X369, h2369, g2369, ⟨Lc369, hQ369, l369, y369, z369, R369⟩, st369⟩ := callSS (s := (s.setVm T364.vm)) X364 hx (y := (⟨"com/example/verschil/verschil/rrdp/FileKindOfRootPinLaw", "expected", "(Ljava/lang/String;)Lcom/example/verschil/verschil/rrdp/FileKind;"⟩ : MethodName)) hown (mvT hZ (hw _ (List.mem_of_getElem? (i := 35) rfl))) (mvT hZ (hw _ (List.mem_of_getElem? (i := 36) rfl))) (mvT hZ (hw _ (List.mem_of_getElem? (i := 3) rfl))) (mvT hZ (hw _ (List.mem_of_getElem? (i := 37) rfl))) (by decide) (backOfSH (W := 0) (rmXS l Z a0 hw [] b_364 cs_364 zc kS T364.heap n0 Zs E_b_364 T_b_364 Ol S_COMPACT_STRINGS hzc S_SNAPSHOT hN hS) hZ (hw _ (List.mem_of_getElem? (i := 37) rfl)) (hw _ (List.mem_of_getElem? (i := 3) rfl)) (by decide) (by decide) hEL Hc.1) (g := (mkF m 56 #[.val (.int p1), .val (.int p2), .val (.int p3), .val (.int p4), .val (.int v7), .val (.int z22_s0), .val (.int v30), .val (.int v38), .val (.ref b_364), .unset] [(.ref b_364)])) rfl (by rw [hml]; rfl) (argsL := [(.ref b_364)]) (rest := []) (lenOf pd_5 rfl) rfl (by show 2 * 0 + _ ≤ _; exact Nat.le_of_eq rfl) (hb hby at_56) (fun _ _ => ⟨rfl, rfl, (by decide : 6 + 4 ≤ _), (by decide : 30 + 88 ≤ _)⟩)
        dsimp only [Pt.U, Pt.locs, Pt.cells, Pt.slots] at X369 h2369 g2369 l369 y369 z369 st369 hQ369 R369
        subst l369 y369 z369
        obtain ⟨X369, hS369, hZ, hown⟩ := rebS hS364 hkc X369 h2369 g2369 hZ hown
        obtain ⟨rfl, N369q, K369⟩ := hQ369
        have Hc : CHr Z ELs s.vm h0 T369.vm T369.heap := Hc.trans R369
        have Zs : n0 ≤ T369.heap.size := Nat.le_trans Zs K369.1
        have Ol : Old Z n0 T369.heap := Ol.keep K369 all0
        have E_b_364 : Exa Z T369.heap b_364 "java/lang/String" := E_b_364.keep K369
        have T_b_364 : Stx Z T369.heap b_364 cs_364 := T_b_364.keep K369
        have hkc : T369.heap.size ≤ T369.heap.size := Nat.le_refl _
        have N369 := Fr.app N364 N369q
        obtain ⟨_, _, ⟨T370, L370, k370, n370⟩, -, X370, ⟨Lc370, hQ370, l370, y370, z370⟩, st370⟩ := Jvm.LawKit.callS X369 hx (y := (⟨"com/example/verschil/verschil/rrdp/FileKind", "ofRoot", "(Ljava/lang/String;)Lcom/example/verschil/verschil/rrdp/FileKind;"⟩ : MethodName)) hown (mvT hZ (hw _ (List.mem_of_getElem? (i := 54) rfl))) (mvT hZ (hw _ (List.mem_of_getElem? (i := 55) rfl))) (mvT hZ (hw _ (List.mem_of_getElem? (i := 52) rfl))) (mvT hZ (hw _ (List.mem_of_getElem? (i := 56) rfl))) (by decide) (backOf (W := 0) (rmOS l Z a0 hw [] b_364 cs_364 zc va kv fv kN kS kD rN rS rD T369.heap n0 Zs E_b_364 T_b_364 Ol S_COMPACT_STRINGS hzc S__VALUES E_va A_va hv0 hv1 hv2 F_root_kN E_rN T_rN F_root_kS E_rS T_rS F_root_kD E_rD T_rD hN hS) hZ (hw _ (List.mem_of_getElem? (i := 56) rfl)) (hw _ (List.mem_of_getElem? (i := 52) rfl)) (by decide) (by decide)) (g := (mkF m 63 #[.val (.int p1), .val (.int p2), .val (.int p3), .val (.int p4), .val (.int v7), .val (.int z22_s0), .val (.int v30), .val (.int v38), .val (.ref b_364), .val (.ref kS)] [(.ref b_364)])) rfl (by rw [hml]; rfl) (argsL := [(.ref b_364)]) (rest := []) (lenOf pd_5 rfl) rfl (by show 2 * 0 + _ ≤ _; exact Nat.le_of_eq rfl) (hb hby at_63) (fun _ _ => ⟨rfl, rfl, (by decide : 10 + 1 ≤ _), (by decide : 118 + 3 ≤ _)⟩)
        dsimp only [Pt.U, Pt.locs, Pt.cells, Pt.slots] at X370 l370 y370 z370 st370 hQ370
        subst l370 y370 z370
        obtain ⟨rfl, N370q, K370⟩ := hQ370
        have hkc : T369.heap.size ≤ T370.heap.size := Nat.le_trans hkc K370.1
        have Hd : CHr Z ELs s.vm h0 T369.vm T370.heap := Hc.trans (CHr.keep K370 all0 Hc.1)
        have Hc := Hd
        have Zs : n0 ≤ T370.heap.size := Nat.le_trans Zs K370.1
        have Ol : Old Z n0 T370.heap := Ol.keep K370 all0
        have E_b_364 : Exa Z T370.heap b_364 "java/lang/String" := E_b_364.keep K370
        have T_b_364 : Stx Z T370.heap b_364 cs_364 := T_b_364.keep K370
        have N370 := Fr.app N369 N370q
        have pre371 : ∀ t, Steps p.tables e below (T370.setTop (mkF m 76 #[.val (.int p1), .val (.int p2), .val (.int p3), .val (.int p4), .val (.int v7), .val (.int z22_s0), .val (.int v30), .val (.int v38), .val (.ref b_364), .val (.ref kS)] [(.int (1 : Int32))])) t → Steps p.tables e below (s₁.setTop (entryFrame m #[(.int p1), (.int p2), (.int p3), (.int p4)] maxLocals)) t := fun t k => pre365 t (by
          show Steps p.tables e below (T364.setTop (mkF m 56 #[.val (.int p1), .val (.int p2), .val (.int p3), .val (.int p4), .val (.int v7), .val (.int z22_s0), .val (.int v30), .val (.int v38), .val (.ref b_364), .unset] [(.ref b_364)])) _
          refine st369.trans ?_
          show Steps p.tables e below (T369.setTop (mkF m 59 #[.val (.int p1), .val (.int p2), .val (.int p3), .val (.int p4), .val (.int v7), .val (.int z22_s0), .val (.int v30), .val (.int v38), .val (.ref b_364), .unset] [(.ref kS)])) _
          refine XS.astore X369.here hx rfl (hb hby at_59) rfl rfl (l' := #[.val (.int p1), .val (.int p2), .val (.int p3), .val (.int p4), .val (.int v7), .val (.int z22_s0), .val (.int v30), .val (.int v38), .val (.ref b_364), .val (.ref kS)]) rfl ?_
          show Steps p.tables e below (T369.setTop (mkF m 61 #[.val (.int p1), .val (.int p2), .val (.int p3), .val (.int p4), .val (.int v7), .val (.int z22_s0), .val (.int v30), .val (.int v38), .val (.ref b_364), .val (.ref kS)] [])) _
          refine XS.aload X369.here hx rfl (hb hby at_61) rfl rfl ?_
          show Steps p.tables e below (T369.setTop (mkF m 63 #[.val (.int p1), .val (.int p2), .val (.int p3), .val (.int p4), .val (.int v7), .val (.int z22_s0), .val (.int v30), .val (.int v38), .val (.ref b_364), .val (.ref kS)] [(.ref b_364)])) _
          refine st370 _ ?_
          show Steps p.tables e below (T370.setTop (mkF m 66 #[.val (.int p1), .val (.int p2), .val (.int p3), .val (.int p4), .val (.int v7), .val (.int z22_s0), .val (.int v30), .val (.int v38), .val (.ref b_364), .val (.ref kS)] [(.ref kS)])) _
          refine XS.aload X370.here hx rfl (hb hby at_66) rfl rfl ?_
          show Steps p.tables e below (T370.setTop (mkF m 68 #[.val (.int p1), .val (.int p2), .val (.int p3), .val (.int p4), .val (.int v7), .val (.int z22_s0), .val (.int v30), .val (.int v38), .val (.ref b_364), .val (.ref kS)] [(.ref kS), (.ref kS)])) _
          refine Jvm.RoadKit.acmp (g := (mkF m 68 #[.val (.int p1), .val (.int p2), .val (.int p3), .val (.int p4), .val (.int v7), .val (.int z22_s0), .val (.int v30), .val (.int v38), .val (.ref b_364), .val (.ref kS)] [(.ref kS), (.ref kS)])) X370 hx rfl rfl rfl (pc0 := 68) (pc' := 71) (same := true) rfl (hb hby at_68) rfl (decide_eq_true rfl) (by decide) (by decide) ?_
          show Steps p.tables e below (T370.setTop (mkF m 71 #[.val (.int p1), .val (.int p2), .val (.int p3), .val (.int p4), .val (.int v7), .val (.int z22_s0), .val (.int v30), .val (.int v38), .val (.ref b_364), .val (.ref kS)] [])) _
          refine XS.iconst X370.here hx rfl (hb hby at_71) ?_
          show Steps p.tables e below (T370.setTop (mkF m 72 #[.val (.int p1), .val (.int p2), .val (.int p3), .val (.int p4), .val (.int v7), .val (.int z22_s0), .val (.int v30), .val (.int v38), .val (.ref b_364), .val (.ref kS)] [(.int (1 : Int32))])) _
          refine XS.goto X370.here hx rfl (pc0 := 72) (pc' := 76) rfl (hb hby at_72) (by decide) (by decide) ?_
          exact k)
        obtain ⟨fs, hr, hrun, hended, hRW⟩ := X370.leaveW (s := s) (vm₁ := T369.vm) hS369 hkc (v := some (.int (1 : Int32))) (fun h => by rw [Bd.returns] at h; cases h)
        have hCR := trivial
        refine ⟨_, _, pre371 _ ?_, hrun, hended, _, _, rfl, ?_, ⟨hRW.1, hRW.2.1, hRW.2.2.1, hRW.2.2.2.mono (by decide) (by decide)⟩⟩
        · show Steps p.tables e below (T370.setTop (mkF m 76 #[.val (.int p1), .val (.int p2), .val (.int p3), .val (.int p4), .val (.int v7), .val (.int z22_s0), .val (.int v30), .val (.int v38), .val (.ref b_364), .val (.ref kS)] [(.int (1 : Int32))])) _
          exact retN X370 hx (t := .boolean) Bd.returns (by simp) (hb hby at_76) hr
        · show Q0 Z p1 p2 p3 p4 zc va kv fv kN kS kD rN rS rD h0 n0 _ T370.heap _
          exact ⟨rfl, N370⟩
      ·
        by_cases hD : cs_364 = [(100 : Int32), (101 : Int32), (108 : Int32), (116 : Int32), (97 : Int32)]
        ·
          obtain ⟨_, _, ⟨T372, L372, k372, n372⟩, -, X372, h2372, g2372, ⟨Lc372, hQ372, l372, y372, z372, R372⟩, st372⟩ := callSS (s := (s.setVm T364.vm)) X364 hx (y := (⟨"com/example/verschil/verschil/rrdp/FileKindOfRootPinLaw", "expected", "(Ljava/lang/String;)Lcom/example/verschil/verschil/rrdp/FileKind;"⟩ : MethodName)) hown (mvT hZ (hw _ (List.mem_of_getElem? (i := 35) rfl))) (mvT hZ (hw _ (List.mem_of_getElem? (i := 36) rfl))) (mvT hZ (hw _ (List.mem_of_getElem? (i := 3) rfl))) (mvT hZ (hw _ (List.mem_of_getElem? (i := 37) rfl))) (by decide) (backOfSH (W := 0) (rmXD l Z a0 hw [] b_364 cs_364 zc kD T364.heap n0 Zs E_b_364 T_b_364 Ol S_COMPACT_STRINGS hzc S_DELTA hN hS hD) hZ (hw _ (List.mem_of_getElem? (i := 37) rfl)) (hw _ (List.mem_of_getElem? (i := 3) rfl)) (by decide) (by decide) hEL Hc.1) (g := (mkF m 56 #[.val (.int p1), .val (.int p2), .val (.int p3), .val (.int p4), .val (.int v7), .val (.int z22_s0), .val (.int v30), .val (.int v38), .val (.ref b_364), .unset] [(.ref b_364)])) rfl (by rw [hml]; rfl) (argsL := [(.ref b_364)]) (rest := []) (lenOf pd_5 rfl) rfl (by show 2 * 0 + _ ≤ _; exact Nat.le_of_eq rfl) (hb hby at_56) (fun _ _ => ⟨rfl, rfl, (by decide : 6 + 6 ≤ _), (by decide : 30 + 112 ≤ _)⟩)
          dsimp only [Pt.U, Pt.locs, Pt.cells, Pt.slots] at X372 h2372 g2372 l372 y372 z372 st372 hQ372 R372
          subst l372 y372 z372
          obtain ⟨X372, hS372, hZ, hown⟩ := rebS hS364 hkc X372 h2372 g2372 hZ hown
          obtain ⟨rfl, N372q, K372⟩ := hQ372
          have Hc : CHr Z ELs s.vm h0 T372.vm T372.heap := Hc.trans R372
          have Zs : n0 ≤ T372.heap.size := Nat.le_trans Zs K372.1
          have Ol : Old Z n0 T372.heap := Ol.keep K372 all0
          have E_b_364 : Exa Z T372.heap b_364 "java/lang/String" := E_b_364.keep K372
          have T_b_364 : Stx Z T372.heap b_364 cs_364 := T_b_364.keep K372
          have hkc : T372.heap.size ≤ T372.heap.size := Nat.le_refl _
          have N372 := Fr.app N364 N372q
          obtain ⟨_, _, ⟨T373, L373, k373, n373⟩, -, X373, ⟨Lc373, hQ373, l373, y373, z373⟩, st373⟩ := Jvm.LawKit.callS X372 hx (y := (⟨"com/example/verschil/verschil/rrdp/FileKind", "ofRoot", "(Ljava/lang/String;)Lcom/example/verschil/verschil/rrdp/FileKind;"⟩ : MethodName)) hown (mvT hZ (hw _ (List.mem_of_getElem? (i := 54) rfl))) (mvT hZ (hw _ (List.mem_of_getElem? (i := 55) rfl))) (mvT hZ (hw _ (List.mem_of_getElem? (i := 52) rfl))) (mvT hZ (hw _ (List.mem_of_getElem? (i := 56) rfl))) (by decide) (backOf (W := 0) (rmOD l Z a0 hw [] b_364 cs_364 zc va kv fv kN kS kD rN rS rD T372.heap n0 Zs E_b_364 T_b_364 Ol S_COMPACT_STRINGS hzc S__VALUES E_va A_va hv0 hv1 hv2 F_root_kN E_rN T_rN F_root_kS E_rS T_rS F_root_kD E_rD T_rD hN hS hD) hZ (hw _ (List.mem_of_getElem? (i := 56) rfl)) (hw _ (List.mem_of_getElem? (i := 52) rfl)) (by decide) (by decide)) (g := (mkF m 63 #[.val (.int p1), .val (.int p2), .val (.int p3), .val (.int p4), .val (.int v7), .val (.int z22_s0), .val (.int v30), .val (.int v38), .val (.ref b_364), .val (.ref kD)] [(.ref b_364)])) rfl (by rw [hml]; rfl) (argsL := [(.ref b_364)]) (rest := []) (lenOf pd_5 rfl) rfl (by show 2 * 0 + _ ≤ _; exact Nat.le_of_eq rfl) (hb hby at_63) (fun _ _ => ⟨rfl, rfl, (by decide : 12 + 1 ≤ _), (by decide : 142 + 3 ≤ _)⟩)
          dsimp only [Pt.U, Pt.locs, Pt.cells, Pt.slots] at X373 l373 y373 z373 st373 hQ373
          subst l373 y373 z373
          obtain ⟨rfl, N373q, K373⟩ := hQ373
          have hkc : T372.heap.size ≤ T373.heap.size := Nat.le_trans hkc K373.1
          have Hd : CHr Z ELs s.vm h0 T372.vm T373.heap := Hc.trans (CHr.keep K373 all0 Hc.1)
          have Hc := Hd
          have Zs : n0 ≤ T373.heap.size := Nat.le_trans Zs K373.1
          have Ol : Old Z n0 T373.heap := Ol.keep K373 all0
          have E_b_364 : Exa Z T373.heap b_364 "java/lang/String" := E_b_364.keep K373
          have T_b_364 : Stx Z T373.heap b_364 cs_364 := T_b_364.keep K373
          have N373 := Fr.app N372 N373q
          have pre374 : ∀ t, Steps p.tables e below (T373.setTop (mkF m 76 #[.val (.int p1), .val (.int p2), .val (.int p3), .val (.int p4), .val (.int v7), .val (.int z22_s0), .val (.int v30), .val (.int v38), .val (.ref b_364), .val (.ref kD)] [(.int (1 : Int32))])) t → Steps p.tables e below (s₁.setTop (entryFrame m #[(.int p1), (.int p2), (.int p3), (.int p4)] maxLocals)) t := fun t k => pre365 t (by
            show Steps p.tables e below (T364.setTop (mkF m 56 #[.val (.int p1), .val (.int p2), .val (.int p3), .val (.int p4), .val (.int v7), .val (.int z22_s0), .val (.int v30), .val (.int v38), .val (.ref b_364), .unset] [(.ref b_364)])) _
            refine st372.trans ?_
            show Steps p.tables e below (T372.setTop (mkF m 59 #[.val (.int p1), .val (.int p2), .val (.int p3), .val (.int p4), .val (.int v7), .val (.int z22_s0), .val (.int v30), .val (.int v38), .val (.ref b_364), .unset] [(.ref kD)])) _
            refine XS.astore X372.here hx rfl (hb hby at_59) rfl rfl (l' := #[.val (.int p1), .val (.int p2), .val (.int p3), .val (.int p4), .val (.int v7), .val (.int z22_s0), .val (.int v30), .val (.int v38), .val (.ref b_364), .val (.ref kD)]) rfl ?_
            show Steps p.tables e below (T372.setTop (mkF m 61 #[.val (.int p1), .val (.int p2), .val (.int p3), .val (.int p4), .val (.int v7), .val (.int z22_s0), .val (.int v30), .val (.int v38), .val (.ref b_364), .val (.ref kD)] [])) _
            refine XS.aload X372.here hx rfl (hb hby at_61) rfl rfl ?_
            show Steps p.tables e below (T372.setTop (mkF m 63 #[.val (.int p1), .val (.int p2), .val (.int p3), .val (.int p4), .val (.int v7), .val (.int z22_s0), .val (.int v30), .val (.int v38), .val (.ref b_364), .val (.ref kD)] [(.ref b_364)])) _
            refine st373 _ ?_
            show Steps p.tables e below (T373.setTop (mkF m 66 #[.val (.int p1), .val (.int p2), .val (.int p3), .val (.int p4), .val (.int v7), .val (.int z22_s0), .val (.int v30), .val (.int v38), .val (.ref b_364), .val (.ref kD)] [(.ref kD)])) _
            refine XS.aload X373.here hx rfl (hb hby at_66) rfl rfl ?_
            show Steps p.tables e below (T373.setTop (mkF m 68 #[.val (.int p1), .val (.int p2), .val (.int p3), .val (.int p4), .val (.int v7), .val (.int z22_s0), .val (.int v30), .val (.int v38), .val (.ref b_364), .val (.ref kD)] [(.ref kD), (.ref kD)])) _
            refine Jvm.RoadKit.acmp (g := (mkF m 68 #[.val (.int p1), .val (.int p2), .val (.int p3), .val (.int p4), .val (.int v7), .val (.int z22_s0), .val (.int v30), .val (.int v38), .val (.ref b_364), .val (.ref kD)] [(.ref kD), (.ref kD)])) X373 hx rfl rfl rfl (pc0 := 68) (pc' := 71) (same := true) rfl (hb hby at_68) rfl (decide_eq_true rfl) (by decide) (by decide) ?_
            show Steps p.tables e below (T373.setTop (mkF m 71 #[.val (.int p1), .val (.int p2), .val (.int p3), .val (.int p4), .val (.int v7), .val (.int z22_s0), .val (.int v30), .val (.int v38), .val (.ref b_364), .val (.ref kD)] [])) _
            refine XS.iconst X373.here hx rfl (hb hby at_71) ?_
            show Steps p.tables e below (T373.setTop (mkF m 72 #[.val (.int p1), .val (.int p2), .val (.int p3), .val (.int p4), .val (.int v7), .val (.int z22_s0), .val (.int v30), .val (.int v38), .val (.ref b_364), .val (.ref kD)] [(.int (1 : Int32))])) _
            refine XS.goto X373.here hx rfl (pc0 := 72) (pc' := 76) rfl (hb hby at_72) (by decide) (by decide) ?_
            exact k)
          obtain ⟨fs, hr, hrun, hended, hRW⟩ := X373.leaveW (s := s) (vm₁ := T372.vm) hS372 hkc (v := some (.int (1 : Int32))) (fun h => by rw [Bd.returns] at h; cases h)
          have hCR := trivial
          refine ⟨_, _, pre374 _ ?_, hrun, hended, _, _, rfl, ?_, ⟨hRW.1, hRW.2.1, hRW.2.2.1, hRW.2.2.2.mono (by decide) (by decide)⟩⟩
          · show Steps p.tables e below (T373.setTop (mkF m 76 #[.val (.int p1), .val (.int p2), .val (.int p3), .val (.int p4), .val (.int v7), .val (.int z22_s0), .val (.int v30), .val (.int v38), .val (.ref b_364), .val (.ref kD)] [(.int (1 : Int32))])) _
            exact retN X373 hx (t := .boolean) Bd.returns (by simp) (hb hby at_76) hr
          · show Q0 Z p1 p2 p3 p4 zc va kv fv kN kS kD rN rS rD h0 n0 _ T373.heap _
            exact ⟨rfl, N373⟩
        ·
          obtain ⟨_, _, ⟨T375, L375, k375, n375⟩, -, X375, h2375, g2375, ⟨Lc375, hQ375, l375, y375, z375, R375⟩, st375⟩ := callSS (s := (s.setVm T364.vm)) X364 hx (y := (⟨"com/example/verschil/verschil/rrdp/FileKindOfRootPinLaw", "expected", "(Ljava/lang/String;)Lcom/example/verschil/verschil/rrdp/FileKind;"⟩ : MethodName)) hown (mvT hZ (hw _ (List.mem_of_getElem? (i := 35) rfl))) (mvT hZ (hw _ (List.mem_of_getElem? (i := 36) rfl))) (mvT hZ (hw _ (List.mem_of_getElem? (i := 3) rfl))) (mvT hZ (hw _ (List.mem_of_getElem? (i := 37) rfl))) (by decide) (backOfSH (W := 0) (rmX0 l Z a0 hw [] b_364 cs_364 zc T364.heap n0 Zs E_b_364 T_b_364 Ol S_COMPACT_STRINGS hzc hN hS hD) hZ (hw _ (List.mem_of_getElem? (i := 37) rfl)) (hw _ (List.mem_of_getElem? (i := 3) rfl)) (by decide) (by decide) hEL Hc.1) (g := (mkF m 56 #[.val (.int p1), .val (.int p2), .val (.int p3), .val (.int p4), .val (.int v7), .val (.int z22_s0), .val (.int v30), .val (.int v38), .val (.ref b_364), .unset] [(.ref b_364)])) rfl (by rw [hml]; rfl) (argsL := [(.ref b_364)]) (rest := []) (lenOf pd_5 rfl) rfl (by show 2 * 0 + _ ≤ _; exact Nat.le_of_eq rfl) (hb hby at_56) (fun _ _ => ⟨rfl, rfl, (by decide : 6 + 6 ≤ _), (by decide : 30 + 112 ≤ _)⟩)
          dsimp only [Pt.U, Pt.locs, Pt.cells, Pt.slots] at X375 h2375 g2375 l375 y375 z375 st375 hQ375 R375
          subst l375 y375 z375
          obtain ⟨X375, hS375, hZ, hown⟩ := rebS hS364 hkc X375 h2375 g2375 hZ hown
          obtain ⟨rfl, N375q, K375⟩ := hQ375
          have Hc : CHr Z ELs s.vm h0 T375.vm T375.heap := Hc.trans R375
          have Zs : n0 ≤ T375.heap.size := Nat.le_trans Zs K375.1
          have Ol : Old Z n0 T375.heap := Ol.keep K375 all0
          have E_b_364 : Exa Z T375.heap b_364 "java/lang/String" := E_b_364.keep K375
          have T_b_364 : Stx Z T375.heap b_364 cs_364 := T_b_364.keep K375
          have hkc : T375.heap.size ≤ T375.heap.size := Nat.le_refl _
          have N375 := Fr.app N364 N375q
          obtain ⟨_, _, ⟨T376, L376, k376, n376⟩, -, X376, ⟨Lc376, hQ376, l376, y376, z376⟩, st376⟩ := Jvm.LawKit.callS X375 hx (y := (⟨"com/example/verschil/verschil/rrdp/FileKind", "ofRoot", "(Ljava/lang/String;)Lcom/example/verschil/verschil/rrdp/FileKind;"⟩ : MethodName)) hown (mvT hZ (hw _ (List.mem_of_getElem? (i := 54) rfl))) (mvT hZ (hw _ (List.mem_of_getElem? (i := 55) rfl))) (mvT hZ (hw _ (List.mem_of_getElem? (i := 52) rfl))) (mvT hZ (hw _ (List.mem_of_getElem? (i := 56) rfl))) (by decide) (backOf (W := 0) (rmO0 l Z a0 hw [] b_364 cs_364 zc va kv fv kN kS kD rN rS rD T375.heap n0 Zs E_b_364 T_b_364 Ol S_COMPACT_STRINGS hzc S__VALUES E_va A_va hv0 hv1 hv2 F_root_kN E_rN T_rN F_root_kS E_rS T_rS F_root_kD E_rD T_rD hN hS hD) hZ (hw _ (List.mem_of_getElem? (i := 56) rfl)) (hw _ (List.mem_of_getElem? (i := 52) rfl)) (by decide) (by decide)) (g := (mkF m 63 #[.val (.int p1), .val (.int p2), .val (.int p3), .val (.int p4), .val (.int v7), .val (.int z22_s0), .val (.int v30), .val (.int v38), .val (.ref b_364), .val .null] [(.ref b_364)])) rfl (by rw [hml]; rfl) (argsL := [(.ref b_364)]) (rest := []) (lenOf pd_5 rfl) rfl (by show 2 * 0 + _ ≤ _; exact Nat.le_of_eq rfl) (hb hby at_63) (fun _ _ => ⟨rfl, rfl, (by decide : 12 + 1 ≤ _), (by decide : 142 + 3 ≤ _)⟩)
          dsimp only [Pt.U, Pt.locs, Pt.cells, Pt.slots] at X376 l376 y376 z376 st376 hQ376
          subst l376 y376 z376
          obtain ⟨rfl, N376q, K376⟩ := hQ376
          have hkc : T375.heap.size ≤ T376.heap.size := Nat.le_trans hkc K376.1
          have Hd : CHr Z ELs s.vm h0 T375.vm T376.heap := Hc.trans (CHr.keep K376 all0 Hc.1)
          have Hc := Hd
          have Zs : n0 ≤ T376.heap.size := Nat.le_trans Zs K376.1
          have Ol : Old Z n0 T376.heap := Ol.keep K376 all0
          have E_b_364 : Exa Z T376.heap b_364 "java/lang/String" := E_b_364.keep K376
          have T_b_364 : Stx Z T376.heap b_364 cs_364 := T_b_364.keep K376
          have N376 := Fr.app N375 N376q
          have pre377 : ∀ t, Steps p.tables e below (T376.setTop (mkF m 76 #[.val (.int p1), .val (.int p2), .val (.int p3), .val (.int p4), .val (.int v7), .val (.int z22_s0), .val (.int v30), .val (.int v38), .val (.ref b_364), .val .null] [(.int (1 : Int32))])) t → Steps p.tables e below (s₁.setTop (entryFrame m #[(.int p1), (.int p2), (.int p3), (.int p4)] maxLocals)) t := fun t k => pre365 t (by
            show Steps p.tables e below (T364.setTop (mkF m 56 #[.val (.int p1), .val (.int p2), .val (.int p3), .val (.int p4), .val (.int v7), .val (.int z22_s0), .val (.int v30), .val (.int v38), .val (.ref b_364), .unset] [(.ref b_364)])) _
            refine st375.trans ?_
            show Steps p.tables e below (T375.setTop (mkF m 59 #[.val (.int p1), .val (.int p2), .val (.int p3), .val (.int p4), .val (.int v7), .val (.int z22_s0), .val (.int v30), .val (.int v38), .val (.ref b_364), .unset] [.null])) _
            refine XS.astore X375.here hx rfl (hb hby at_59) rfl rfl (l' := #[.val (.int p1), .val (.int p2), .val (.int p3), .val (.int p4), .val (.int v7), .val (.int z22_s0), .val (.int v30), .val (.int v38), .val (.ref b_364), .val .null]) rfl ?_
            show Steps p.tables e below (T375.setTop (mkF m 61 #[.val (.int p1), .val (.int p2), .val (.int p3), .val (.int p4), .val (.int v7), .val (.int z22_s0), .val (.int v30), .val (.int v38), .val (.ref b_364), .val .null] [])) _
            refine XS.aload X375.here hx rfl (hb hby at_61) rfl rfl ?_
            show Steps p.tables e below (T375.setTop (mkF m 63 #[.val (.int p1), .val (.int p2), .val (.int p3), .val (.int p4), .val (.int v7), .val (.int z22_s0), .val (.int v30), .val (.int v38), .val (.ref b_364), .val .null] [(.ref b_364)])) _
            refine st376 _ ?_
            show Steps p.tables e below (T376.setTop (mkF m 66 #[.val (.int p1), .val (.int p2), .val (.int p3), .val (.int p4), .val (.int v7), .val (.int z22_s0), .val (.int v30), .val (.int v38), .val (.ref b_364), .val .null] [.null])) _
            refine XS.aload X376.here hx rfl (hb hby at_66) rfl rfl ?_
            show Steps p.tables e below (T376.setTop (mkF m 68 #[.val (.int p1), .val (.int p2), .val (.int p3), .val (.int p4), .val (.int v7), .val (.int z22_s0), .val (.int v30), .val (.int v38), .val (.ref b_364), .val .null] [.null, .null])) _
            refine Jvm.RoadKit.acmp (g := (mkF m 68 #[.val (.int p1), .val (.int p2), .val (.int p3), .val (.int p4), .val (.int v7), .val (.int z22_s0), .val (.int v30), .val (.int v38), .val (.ref b_364), .val .null] [.null, .null])) X376 hx rfl rfl rfl (pc0 := 68) (pc' := 71) (same := true) rfl (hb hby at_68) rfl (decide_eq_true rfl) (by decide) (by decide) ?_
            show Steps p.tables e below (T376.setTop (mkF m 71 #[.val (.int p1), .val (.int p2), .val (.int p3), .val (.int p4), .val (.int v7), .val (.int z22_s0), .val (.int v30), .val (.int v38), .val (.ref b_364), .val .null] [])) _
            refine XS.iconst X376.here hx rfl (hb hby at_71) ?_
            show Steps p.tables e below (T376.setTop (mkF m 72 #[.val (.int p1), .val (.int p2), .val (.int p3), .val (.int p4), .val (.int v7), .val (.int z22_s0), .val (.int v30), .val (.int v38), .val (.ref b_364), .val .null] [(.int (1 : Int32))])) _
            refine XS.goto X376.here hx rfl (pc0 := 72) (pc' := 76) rfl (hb hby at_72) (by decide) (by decide) ?_
            exact k)
          obtain ⟨fs, hr, hrun, hended, hRW⟩ := X376.leaveW (s := s) (vm₁ := T375.vm) hS375 hkc (v := some (.int (1 : Int32))) (fun h => by rw [Bd.returns] at h; cases h)
          have hCR := trivial
          refine ⟨_, _, pre377 _ ?_, hrun, hended, _, _, rfl, ?_, ⟨hRW.1, hRW.2.1, hRW.2.2.1, hRW.2.2.2.mono (by decide) (by decide)⟩⟩
          · show Steps p.tables e below (T376.setTop (mkF m 76 #[.val (.int p1), .val (.int p2), .val (.int p3), .val (.int p4), .val (.int v7), .val (.int z22_s0), .val (.int v30), .val (.int v38), .val (.ref b_364), .val .null] [(.int (1 : Int32))])) _
            exact retN X376 hx (t := .boolean) Bd.returns (by simp) (hb hby at_76) hr
          · show Q0 Z p1 p2 p3 p4 zc va kv fv kN kS kD rN rS rD h0 n0 _ T376.heap _
            exact ⟨rfl, N376⟩
set_option maxRecDepth 65536 in
set_option maxHeartbeats 40000000 in
theorem comes_1 {Post : Tables → Env → Array Value → State → Outcome → State → Prop} (hpost : ∀ tb e args s v u, (limb_1_1.after args s (.returned v) u = true ∧ limb_1_2.after args s (.returned v) u = true ∧ True) → ReturnedEndW s (.returned v) u (Jvm.fieldLocs frame_1_writes args s ++ Jvm.arrayLocs frame_1_arrays args s ++ Jvm.staticLocs frame_1_statics s) 24 4288 → Post tb e args s (.returned v) u) :
    ArmFor flags0 classFile x code maxLocals ret World_1 tables_1 room_1 Calls_1 rest_1 Pre_1 Post := by
  intro l hfl _ _ p e ha hc hk s m args below hf hA hF happ hP
  obtain ⟨hcalls, hrest, hpre⟩ := hP
  obtain ⟨-, -, -, hnamed, -, -, -, hat⟩ := (Spec.applies_iff hf).mp happ
  obtain ⟨hg, hn⟩ := and_e (Cond.before_iff.mp (show (Jvm.Cond.and given_1 narrow_1).before args s = true from hpre))
  obtain ⟨hcount, ha0⟩ := and_e hg
  obtain ⟨ga0, gb0⟩ := and_e ha0
  obtain ⟨ga1, gb1⟩ := and_e gb0
  obtain ⟨ga2, gb2⟩ := and_e gb1
  obtain ⟨w0, w1, w2, w3, rfl⟩ : ∃ w0 w1 w2 w3 : Value, args = #[w0, w1, w2, w3] := by
    have hs : args.size = 4 := by simpa [Cond.value, given_1] using hcount
    obtain ⟨L⟩ := args
    match L, hs with
    | [w0, w1, w2, w3], _ => exact ⟨w0, w1, w2, w3, rfl⟩
  have hw := fun d (hd : d ∈ tables_1) => atoms_spec (ws := Jvm.Cond.code x code maxLocals ret :: tables_1) hat d (List.mem_cons_of_mem _ hd)
  have hfit : Fit s := fun {y c} hc i hi => by
    obtain ⟨ha, rfl⟩ := Array.getElem?_eq_some_iff.mp hc
    have q := List.all_eq_true.mp ((Array.all_eq_true_iff_forall_mem.mp hF) _ (Array.getElem_mem ha)) i (List.mem_range.mpr hi)
    simpa [Array.getElem?_eq_getElem hi] using q
  obtain ⟨hsets, hown0⟩ := atoms_of _ (rest_1_c_eq ▸ (show rest_1_c.before _ s = true from hrest))
  obtain ⟨i0, ei0⟩ := is_v ga0
  obtain rfl : w0 = (.int i0) := Option.some.inj ei0
  obtain ⟨i1, ei1⟩ := is_v ga1
  obtain rfl : w1 = (.int i1) := Option.some.inj ei1
  obtain ⟨i2, ei2⟩ := is_v ga2
  obtain rfl : w2 = (.int i2) := Option.some.inj ei2
  obtain ⟨i3, ei3⟩ := is_v gb2
  obtain rfl : w3 = (.int i3) := Option.some.inj ei3
  obtain ⟨n0, r0⟩ := and_e hn
  obtain ⟨n1, r1⟩ := and_e r0
  obtain ⟨n2, r2⟩ := and_e r1
  obtain ⟨n3, r3⟩ := and_e r2
  obtain ⟨n4, r4⟩ := and_e r3
  obtain ⟨n5, r5⟩ := and_e r4
  obtain ⟨n6, r6⟩ := and_e r5
  obtain ⟨n7, r7⟩ := and_e r6
  obtain ⟨n8, r8⟩ := and_e r7
  obtain ⟨n9, r9⟩ := and_e r8
  obtain ⟨n10, r10⟩ := and_e r9
  obtain ⟨n11, r11⟩ := and_e r10
  obtain ⟨n12, r12⟩ := and_e r11
  obtain ⟨n13, r13⟩ := and_e r12
  obtain ⟨n14, r14⟩ := and_e r13
  obtain ⟨n15, r15⟩ := and_e r14
  obtain ⟨n16, r16⟩ := and_e r15
  obtain ⟨n17, r17⟩ := and_e r16
  obtain ⟨n18, r18⟩ := and_e r17
  obtain ⟨n19, r19⟩ := and_e r18
  obtain ⟨n20, r20⟩ := and_e r19
  obtain ⟨n21, r21⟩ := and_e r20
  obtain ⟨n22, r22⟩ := and_e r21
  obtain ⟨n23, r23⟩ := and_e r22
  obtain ⟨n24, r24⟩ := and_e r23
  obtain ⟨n25, r25⟩ := and_e r24
  obtain ⟨n26, r26⟩ := and_e r25
  obtain ⟨n27, r27⟩ := and_e r26
  obtain ⟨n28, r28⟩ := and_e r27
  obtain ⟨n29, r29⟩ := and_e r28
  obtain ⟨n30, r30⟩ := and_e r29
  obtain ⟨n31, r31⟩ := and_e r30
  obtain ⟨n32, r32⟩ := and_e r31
  obtain ⟨n33, r33⟩ := and_e r32
  obtain ⟨n34, r34⟩ := and_e r33
  obtain ⟨n35, r35⟩ := and_e r34
  obtain ⟨n36, r36⟩ := and_e r35
  obtain ⟨n37, r37⟩ := and_e r36
  obtain ⟨n38, r38⟩ := and_e r37
  obtain ⟨n39, r39⟩ := and_e r38
  obtain ⟨n40, r40⟩ := and_e r39
  obtain ⟨n41, r41⟩ := and_e r40
  obtain ⟨n42, r42⟩ := and_e r41
  obtain ⟨n43, r43⟩ := and_e r42
  obtain ⟨n44, r44⟩ := and_e r43
  have n45 := r44
  have n5' := not_v (Cond.before_iff.mp (hsets _ (List.mem_of_getElem? (i := 2) rfl)))
  obtain ⟨zc, e10⟩ := is_v (Cond.before_iff.mp (hsets _ (List.mem_of_getElem? (i := 1) rfl)))
  have S_CS : Sta s s.heap "java/lang/String" "COMPACT_STRINGS" "Z" (.int zc) := Sta.start e10 (Or.inl (hsets _ (List.mem_of_getElem? (i := 0) rfl)))
  have hzc : ¬ zc = 0 := gotF (Cond.eq_ints e10 (Term.int_eval (0))) n5'
  obtain ⟨va, ev_va⟩ := exa_v n2
  have S_VA := Sta.start ev_va (Or.inr ⟨(hw _ (List.mem_of_getElem? (i := 52) rfl)), (hw _ (List.mem_of_getElem? (i := 61) rfl))⟩)
  have E_va := Exa.start ev_va n2
  obtain ⟨cv, Av⟩ := Arr.start ev_va n1
  have lv := own_arr ev_va Av n3
  obtain ⟨kN, ev_N⟩ := exa_v n0
  have S_N := Sta.start ev_N (Or.inr ⟨(hw _ (List.mem_of_getElem? (i := 52) rfl)), (hw _ (List.mem_of_getElem? (i := 53) rfl))⟩)
  have ve_N := own_elr ev_va Av (by decide) n4 ev_N
  obtain ⟨kS, ev_S⟩ := exa_v n5
  have S_S := Sta.start ev_S (Or.inr ⟨(hw _ (List.mem_of_getElem? (i := 52) rfl)), (hw _ (List.mem_of_getElem? (i := 69) rfl))⟩)
  have ve_S := own_elr ev_va Av (by decide) n6 ev_S
  obtain ⟨kD, ev_D⟩ := exa_v n7
  have S_D := Sta.start ev_D (Or.inr ⟨(hw _ (List.mem_of_getElem? (i := 52) rfl)), (hw _ (List.mem_of_getElem? (i := 70) rfl))⟩)
  have ve_D := own_elr ev_va Av (by decide) n8 ev_D
  have A_va : ArR s s.heap va cv.cls "com/example/verschil/verschil/rrdp/FileKind" (3 : Int32) (fun j => (cv.slots[j]?).getD .null) := ⟨trivial, cv, Av, rfl, own_sz lv, fun j hj => by show _ = some ((cv.slots[j]?).getD _); rw [Array.getElem?_eq_getElem hj]; rfl⟩
  have hv0 : (fun j => (cv.slots[j]?).getD .null) (0 : Int32).toNatClampNeg = Value.ref kN := by show (cv.slots[_]?).getD _ = _; rw [ve_N]; rfl
  have hv1 : (fun j => (cv.slots[j]?).getD .null) (1 : Int32).toNatClampNeg = Value.ref kS := by show (cv.slots[_]?).getD _ = _; rw [ve_S]; rfl
  have hv2 : (fun j => (cv.slots[j]?).getD .null) (2 : Int32).toNatClampNeg = Value.ref kD := by show (cv.slots[_]?).getD _ = _; rw [ve_D]; rfl
  obtain ⟨rN, ev_rN⟩ := exa_v n9
  have F_N := Fld.start ((fld_at ev_N).symm.trans ev_rN)
  have E_rN := Exa.start ev_rN n9
  have C_N := Fld.start (own_fld ev_rN n10)
  obtain ⟨tN, ev_tN⟩ := arr_v n11
  have V_N := Fld.start ((fld_at ev_rN).symm.trans ev_tN)
  obtain ⟨cN, AN⟩ := Arr.start ev_tN n11
  have lN := own_arr ev_tN AN n12
  have T_rN : Stx s s.heap rN [(110 : Int32), (111 : Int32), (116 : Int32), (105 : Int32), (102 : Int32), (105 : Int32), (99 : Int32), (97 : Int32), (116 : Int32), (105 : Int32), (111 : Int32), (110 : Int32)] := ⟨tN, _, E_rN, V_N, C_N, Arv.start hfit AN lN.1 lN.2 (by decide) rfl ⟨own_el ev_tN AN (by decide) n21 (i := 0) rfl (by decide), own_el ev_tN AN (by decide) n22 (i := 1) rfl (by decide), own_el ev_tN AN (by decide) n23 (i := 2) rfl (by decide), own_el ev_tN AN (by decide) n24 (i := 3) rfl (by decide), own_el ev_tN AN (by decide) n25 (i := 4) rfl (by decide), own_el ev_tN AN (by decide) n26 (i := 5) rfl (by decide), own_el ev_tN AN (by decide) n27 (i := 6) rfl (by decide), own_el ev_tN AN (by decide) n28 (i := 7) rfl (by decide), own_el ev_tN AN (by decide) n29 (i := 8) rfl (by decide), own_el ev_tN AN (by decide) n30 (i := 9) rfl (by decide), own_el ev_tN AN (by decide) n31 (i := 10) rfl (by decide), own_el ev_tN AN (by decide) n32 (i := 11) rfl (by decide), trivial⟩, by decide, by decide⟩
  obtain ⟨rS, ev_rS⟩ := exa_v n13
  have F_S := Fld.start ((fld_at ev_S).symm.trans ev_rS)
  have E_rS := Exa.start ev_rS n13
  have C_S := Fld.start (own_fld ev_rS n14)
  obtain ⟨tS, ev_tS⟩ := arr_v n15
  have V_S := Fld.start ((fld_at ev_rS).symm.trans ev_tS)
  obtain ⟨cS, AS⟩ := Arr.start ev_tS n15
  have lS := own_arr ev_tS AS n16
  have T_rS : Stx s s.heap rS [(115 : Int32), (110 : Int32), (97 : Int32), (112 : Int32), (115 : Int32), (104 : Int32), (111 : Int32), (116 : Int32)] := ⟨tS, _, E_rS, V_S, C_S, Arv.start hfit AS lS.1 lS.2 (by decide) rfl ⟨own_el ev_tS AS (by decide) n33 (i := 0) rfl (by decide), own_el ev_tS AS (by decide) n34 (i := 1) rfl (by decide), own_el ev_tS AS (by decide) n35 (i := 2) rfl (by decide), own_el ev_tS AS (by decide) n36 (i := 3) rfl (by decide), own_el ev_tS AS (by decide) n37 (i := 4) rfl (by decide), own_el ev_tS AS (by decide) n38 (i := 5) rfl (by decide), own_el ev_tS AS (by decide) n39 (i := 6) rfl (by decide), own_el ev_tS AS (by decide) n40 (i := 7) rfl (by decide), trivial⟩, by decide, by decide⟩
  obtain ⟨rD, ev_rD⟩ := exa_v n17
  have F_D := Fld.start ((fld_at ev_D).symm.trans ev_rD)
  have E_rD := Exa.start ev_rD n17
  have C_D := Fld.start (own_fld ev_rD n18)
  obtain ⟨tD, ev_tD⟩ := arr_v n19
  have V_D := Fld.start ((fld_at ev_rD).symm.trans ev_tD)
  obtain ⟨cD, AD⟩ := Arr.start ev_tD n19
  have lD := own_arr ev_tD AD n20
  have T_rD : Stx s s.heap rD [(100 : Int32), (101 : Int32), (108 : Int32), (116 : Int32), (97 : Int32)] := ⟨tD, _, E_rD, V_D, C_D, Arv.start hfit AD lD.1 lD.2 (by decide) rfl ⟨own_el ev_tD AD (by decide) n41 (i := 0) rfl (by decide), own_el ev_tD AD (by decide) n42 (i := 1) rfl (by decide), own_el ev_tD AD (by decide) n43 (i := 2) rfl (by decide), own_el ev_tD AD (by decide) n44 (i := 3) rfl (by decide), own_el ev_tD AD (by decide) n45 (i := 4) rfl (by decide), trivial⟩, by decide, by decide⟩
  have hh : ∀ p ∈ ELs, Jvm.Lit.constHeld s p.1 p.2 := fun p hp => hcalls.1 p (own_perm p hp)
  have hCH := CHv.start (own_EL hw) hh (hsets _ (List.mem_of_getElem? (i := 2) rfl)) (hw _ (List.mem_of_getElem? (i := 24) rfl)) (hw _ (List.mem_of_getElem? (i := 7) rfl))
  obtain ⟨n, o, h1, h2, h3, _, L, rfl, ⟨rfl, N⟩, hq⟩ := rm0 l s _ hw tables_1 i0 i1 i2 i3 zc va cv.cls (fun j => (cv.slots[j]?).getD .null) kN kS kD rN rS rD s.heap s.heap.size (Nat.le_refl _) (Old.start s) S_CS hzc S_VA E_va A_va hv0 hv1 hv2 F_N E_rN T_rN F_S E_rS T_rS F_D E_rD T_rD S_N S_S S_D p e ha hc hk s m _ below hf ((Spec.applies_iff_loose hf).mp happ).1 ⟨rfl, State.Warmed39.refl s, rfl, hCH⟩ trivial
  refine ⟨n, _, h1, h2, h3, hpost _ _ _ _ _ _ ⟨Cond.after_iff.mpr rfl, Cond.after_iff.mpr (eq_i res_at (Term.int_eval (1)) rfl), trivial⟩ ⟨hq.1, hq.2.1, hq.2.2.1, (hq.2.2.2.sift fun y hy => Or.inr (N y hy)).mono (by decide) (by decide)⟩⟩
theorem main_1_1 : Claimed_1_1 := comes_1 fun _ _ _ _ _ _ h hF => ⟨h.1, hF⟩
theorem main_1_2 : Claimed_1_2 := comes_1 fun _ _ _ _ _ _ h hF => ⟨h.2.1, hF⟩
end Jvm.Pilot.@@N@@
namespace Jvm.Pilot.@@N@@
open Jvm Jvm.ClassFile Sem Op Lib Jvm.Free Jvm.Stand Jvm.Pilot.@@N@@.Jvm.D
/-! MADE BY PROGRAM (witnessworld.py) out of the Statement's table words and the real class files: 22 classes; the members and pool entries that the words name. The judged class is class 1, her method 1. -/
namespace start1
open Jvm.ClassFile
def u (s : String) : CpInfo := .utf8 (stringToUtf16 s)
/-- a pool by its gaps: so many unusable entries, then the entry; so many at the end -/
def gap : Nat → List CpInfo → List CpInfo
  | 0, r => r
  | n + 1, r => .unusable :: gap n r
def poolList (es : List (Nat × CpInfo)) (last : Nat) : List CpInfo := es.foldr (fun e r => gap e.1 (e.2 :: r)) (gap last [])
def pool (es : List (Nat × CpInfo)) (last : Nat) : Array CpInfo := ⟨poolList es last⟩
def fileOf (pool : Array CpInfo) (this : Nat) (attrs : Array Attribute := #[]) (ms : Array MethodInfo := #[]) (fl : Nat := 33) (sup : Nat := 0) (ifs : Array Nat := #[]) (fds : Array FieldInfo := #[]) : ClassFile where
  minorVersion := 0
  majorVersion := 65
  constantPool := pool
  accessFlags := fl
  thisClass := this
  superClass := sup
  interfaces := ifs
  fields := fds
  methods := ms
  attributes := attrs
def plain (name : String) (sup : Option ClassId) : Class where
  name := name
  kind := .ordinary
  loader := none
  accessFlags := 33
  super := sup
  interfaces := #[]
  cf := none
  fields := #[]
  methods := #[]
  instanceTypes := #[]
  staticTypes := #[]
  resolved := #[]
  callSites := []
  init := .initialized
  statics := none
  mirror := none

def pool0 : Array CpInfo := pool [(5, u "<init>"), (0, u "()V"), (1, .class_ 10), (1, u "java/lang/Object"), (85, u "clone"), (0, u "()Ljava/lang/Object;")] 26

def k0c0 : Code := { maxStack := 0, maxLocals := 1, code := object_method_1_code, exceptionTable := #[], attributes := #[] }
def k0m0 : Method := { name := "<init>", desc := "()V", sig := { parameters := [], returnType := none }, accessFlags := 1, code := some k0c0 }
def k0m1 : Method := { name := "clone", desc := "()Ljava/lang/Object;", sig := { parameters := [], returnType := some (.object "java/lang/Object") }, accessFlags := 260, code := none }
/-- java/lang/Object -/
def k0 : Class := { plain "java/lang/Object" none with
  accessFlags := 33
  interfaces := #[]
  cf := some (fileOf pool0 8 #[] #[{ accessFlags := 1, nameIndex := 5, descriptorIndex := 6, attributes := #[] }, { accessFlags := 260, nameIndex := 96, descriptorIndex := 97, attributes := #[] }] 33 0 #[] #[])
  fields := #[]
  methods := #[k0m0, k0m1]
  instanceTypes := #[]
  staticTypes := #[]
  resolved := Array.replicate 124 none
  statics := none }

def pool1 : Array CpInfo := pool [(2, .class_ 4), (1, u "java/lang/Object"), (0, u "<init>"), (0, u "()V"), (0, .integer 2147483647), (0, .methodref 9 10), (0, .class_ 11), (0, .nameAndType 12 13), (0, u "com/example/verschil/verschil/rrdp/FileKindOfRootPinLaw"), (0, u "build"), (0, u "(IIZCC)Ljava/lang/String;"), (0, .methodref 9 15), (0, .nameAndType 16 17), (0, u "expected"), (0, u "(Ljava/lang/String;)Lcom/example/verschil/verschil/rrdp/FileKind;"), (0, .methodref 19 20), (0, .class_ 21), (0, .nameAndType 22 17), (0, u "com/example/verschil/verschil/rrdp/FileKind"), (0, u "ofRoot"), (0, .class_ 24), (0, u "java/lang/String"), (0, .methodref 23 26), (0, .nameAndType 5 27), (0, u "([C)V"), (0, .string 29), (0, u "notification"), (0, .methodref 23 31), (0, .nameAndType 32 33), (0, u "equals"), (0, u "(Ljava/lang/Object;)Z"), (0, .fieldref 19 35), (0, .nameAndType 36 37), (0, u "NOTIFICATION"), (0, u "Lcom/example/verschil/verschil/rrdp/FileKind;"), (0, .string 39), (0, u "snapshot"), (0, .fieldref 19 41), (0, .nameAndType 42 37), (0, u "SNAPSHOT"), (0, .string 44), (0, u "delta"), (0, .fieldref 19 46), (0, .nameAndType 47 37), (0, u "DELTA"), (2, u "law"), (0, u "(IIII)Z")] 5

def k1m0 : Method := { name := "<init>", desc := "()V", sig := { parameters := [], returnType := none }, accessFlags := 1, code := none }
def k1c1 : Code := { maxStack := 5, maxLocals := 10, code := code, exceptionTable := #[], attributes := #[] }
def k1m1 : Method := { name := "law", desc := "(IIII)Z", sig := { parameters := [.int, .int, .int, .int], returnType := some .boolean }, accessFlags := 9, code := some k1c1 }
def k1c2 : Code := { maxStack := 4, maxLocals := 6, code := method_3_code, exceptionTable := #[], attributes := #[] }
def k1m2 : Method := { name := "build", desc := "(IIZCC)Ljava/lang/String;", sig := { parameters := [.int, .int, .boolean, .char, .char], returnType := some (.object "java/lang/String") }, accessFlags := 10, code := some k1c2 }
def k1c3 : Code := { maxStack := 2, maxLocals := 1, code := method_4_code, exceptionTable := #[], attributes := #[] }
def k1m3 : Method := { name := "expected", desc := "(Ljava/lang/String;)Lcom/example/verschil/verschil/rrdp/FileKind;", sig := { parameters := [(.object "java/lang/String")], returnType := some (.object "com/example/verschil/verschil/rrdp/FileKind") }, accessFlags := 10, code := some k1c3 }
/-- com/example/verschil/verschil/rrdp/FileKindOfRootPinLaw -/
def k1 : Class := { plain "com/example/verschil/verschil/rrdp/FileKindOfRootPinLaw" (some 0) with
  accessFlags := 49
  interfaces := #[]
  cf := some (fileOf pool1 9 #[] #[{ accessFlags := 1, nameIndex := 5, descriptorIndex := 6, attributes := #[] }, { accessFlags := 9, nameIndex := 50, descriptorIndex := 51, attributes := #[] }, { accessFlags := 10, nameIndex := 12, descriptorIndex := 13, attributes := #[] }, { accessFlags := 10, nameIndex := 16, descriptorIndex := 17, attributes := #[] }] 49 2 #[] #[])
  fields := #[]
  methods := #[k1m0, k1m1, k1m2, k1m3]
  instanceTypes := #[]
  staticTypes := #[]
  resolved := Array.replicate 57 none
  statics := none }

def pool2 : Array CpInfo := pool [(1, .class_ 2), (0, u "java/io/Serializable"), (0, .class_ 4), (0, u "java/lang/Object")] 2

/-- java/io/Serializable -/
def k2 : Class := { plain "java/io/Serializable" (some 0) with
  accessFlags := 1537
  interfaces := #[]
  cf := some (fileOf pool2 1 #[] #[] 1537 3 #[] #[])
  fields := #[]
  methods := #[]
  instanceTypes := #[]
  staticTypes := #[]
  resolved := Array.replicate 7 none
  statics := none }

def pool3 : Array CpInfo := pool [(1, .class_ 2), (0, u "java/lang/Comparable"), (0, .class_ 4), (0, u "java/lang/Object")] 7

/-- java/lang/Comparable -/
def k3 : Class := { plain "java/lang/Comparable" (some 0) with
  accessFlags := 1537
  interfaces := #[]
  cf := some (fileOf pool3 1 #[] #[] 1537 3 #[] #[])
  fields := #[]
  methods := #[]
  instanceTypes := #[]
  staticTypes := #[]
  resolved := Array.replicate 12 none
  statics := none }

def pool4 : Array CpInfo := pool [(2, .class_ 4), (1, u "java/lang/CharSequence"), (42, .class_ 48), (0, u "java/lang/CharSequence$1CodePointIterator"), (10, .class_ 60), (0, u "java/lang/CharSequence$1CharIterator"), (5, .class_ 67), (0, u "java/lang/Object")] 63

/-- java/lang/CharSequence -/
def k4 : Class := { plain "java/lang/CharSequence" (some 0) with
  accessFlags := 1537
  interfaces := #[]
  cf := some (fileOf pool4 2 #[.nestMembers #[47, 59]] #[] 1537 66 #[] #[])
  fields := #[]
  methods := #[]
  instanceTypes := #[]
  staticTypes := #[]
  resolved := Array.replicate 131 none
  statics := none }

def pool5 : Array CpInfo := pool [(1, .class_ 2), (0, u "java/lang/constant/Constable"), (0, .class_ 4), (0, u "java/lang/Object")] 6

/-- java/lang/constant/Constable -/
def k5 : Class := { plain "java/lang/constant/Constable" (some 0) with
  accessFlags := 1537
  interfaces := #[]
  cf := some (fileOf pool5 1 #[] #[] 1537 3 #[] #[])
  fields := #[]
  methods := #[]
  instanceTypes := #[]
  staticTypes := #[]
  resolved := Array.replicate 11 none
  statics := none }

def pool6 : Array CpInfo := pool [(1, .class_ 2), (0, u "java/lang/constant/ConstantDesc"), (0, .class_ 4), (0, u "java/lang/Object")] 32

/-- java/lang/constant/ConstantDesc -/
def k6 : Class := { plain "java/lang/constant/ConstantDesc" (some 0) with
  accessFlags := 1537
  interfaces := #[]
  cf := some (fileOf pool6 1 #[] #[] 1537 3 #[] #[])
  fields := #[]
  methods := #[]
  instanceTypes := #[]
  staticTypes := #[]
  resolved := Array.replicate 37 none
  statics := none }

def pool7 : Array CpInfo := pool [(1, .methodref 2 3), (0, .class_ 4), (0, .nameAndType 5 6), (0, u "java/lang/Object"), (0, u "<init>"), (0, u "()V"), (0, .string 8), (0, u ""), (0, .fieldref 10 11), (0, .class_ 12), (0, .nameAndType 13 14), (0, u "java/lang/String"), (0, u "value"), (0, u "[B"), (0, .fieldref 10 16), (0, .nameAndType 17 18), (0, u "coder"), (0, u "B"), (2, u "hash"), (0, u "I"), (2, u "hashIsZero"), (0, u "Z"), (0, .methodref 10 28), (0, .nameAndType 5 29), (0, u "([CIILjava/lang/Void;)V"), (8, .fieldref 10 39), (0, .nameAndType 40 26), (0, u "COMPACT_STRINGS"), (1, .class_ 44), (1, u "java/lang/StringUTF16"), (0, u "compress"), (1, .methodref 42 48), (0, .nameAndType 49 50), (0, u "coderFromArrayLen"), (0, u "([BI)B"), (56, .class_ 109), (1, u "java/lang/StringLatin1"), (67, .methodref 42 178), (0, .nameAndType 45 179), (0, u "([CII)[B"), (361, .methodref 107 542), (0, .nameAndType 543 544), (0, u "equals"), (0, u "([B[B)Z"), (28, u "(Ljava/lang/Object;)Z"), (1, .class_ 576), (0, u "java/lang/CharSequence"), (22, u "CASE_INSENSITIVE_ORDER"), (0, u "Ljava/util/Comparator;"), (409, u "([C)V"), (90, u "serialPersistentFields"), (0, u "[Ljava/io/ObjectStreamField;"), (0, .class_ 1104), (0, u "java/lang/String$CaseInsensitiveComparator"), (1, .class_ 1107), (0, u "java/io/Serializable"), (0, .class_ 1109), (0, u "java/lang/Comparable"), (0, .class_ 1111), (0, u "java/lang/constant/Constable"), (0, .class_ 1113), (0, u "java/lang/constant/ConstantDesc"), (2, u "serialVersionUID"), (0, u "J"), (3, u "REPL"), (0, u "C"), (2, u "LATIN1"), (1, u "UTF16")] 323

def k7m0 : Method := { name := "<init>", desc := "()V", sig := { parameters := [], returnType := none }, accessFlags := 1, code := none }
def k7c1 : Code := { maxStack := 5, maxLocals := 2, code := jdk_42_method_3_code, exceptionTable := #[], attributes := #[] }
def k7m1 : Method := { name := "<init>", desc := "([C)V", sig := { parameters := [(.array .char)], returnType := none }, accessFlags := 1, code := some k7c1 }
def k7c2 : Code := { maxStack := 2, maxLocals := 3, code := jdk_42_method_66_code, exceptionTable := #[], attributes := #[] }
def k7m2 : Method := { name := "equals", desc := "(Ljava/lang/Object;)Z", sig := { parameters := [(.object "java/lang/Object")], returnType := some .boolean }, accessFlags := 1, code := some k7c2 }
def k7c3 : Code := { maxStack := 4, maxLocals := 6, code := jdk_42_method_149_code, exceptionTable := #[], attributes := #[] }
def k7m3 : Method := { name := "<init>", desc := "([CIILjava/lang/Void;)V", sig := { parameters := [(.array .char), .int, .int, (.object "java/lang/Void")], returnType := none }, accessFlags := 2, code := some k7c3 }
/-- java/lang/String -/
def k7 : Class := { plain "java/lang/String" (some 0) with
  accessFlags := 49
  interfaces := #[2, 3, 4, 5, 6]
  cf := some (fileOf pool7 10 #[.nestMembers #[1103]] #[{ accessFlags := 1, nameIndex := 5, descriptorIndex := 6, attributes := #[] }, { accessFlags := 1, nameIndex := 5, descriptorIndex := 1010, attributes := #[] }, { accessFlags := 1, nameIndex := 543, descriptorIndex := 573, attributes := #[] }, { accessFlags := 2, nameIndex := 5, descriptorIndex := 29, attributes := #[] }] 49 2 #[1106, 1108, 575, 1110, 1112] #[{ accessFlags := 18, nameIndex := 13, descriptorIndex := 14, attributes := #[] }, { accessFlags := 18, nameIndex := 17, descriptorIndex := 18, attributes := #[] }, { accessFlags := 2, nameIndex := 21, descriptorIndex := 22, attributes := #[] }, { accessFlags := 2, nameIndex := 25, descriptorIndex := 26, attributes := #[] }, { accessFlags := 26, nameIndex := 1116, descriptorIndex := 1117, attributes := #[] }, { accessFlags := 24, nameIndex := 40, descriptorIndex := 26, attributes := #[] }, { accessFlags := 26, nameIndex := 1101, descriptorIndex := 1102, attributes := #[] }, { accessFlags := 26, nameIndex := 1121, descriptorIndex := 1122, attributes := #[] }, { accessFlags := 25, nameIndex := 599, descriptorIndex := 600, attributes := #[] }, { accessFlags := 24, nameIndex := 1125, descriptorIndex := 18, attributes := #[] }, { accessFlags := 24, nameIndex := 1127, descriptorIndex := 18, attributes := #[] }])
  fields := #[{ name := "value", type := (.array .byte), accessFlags := 18, slot := 0, constantValue := 0 }, { name := "coder", type := .byte, accessFlags := 18, slot := 1, constantValue := 0 }, { name := "hash", type := .int, accessFlags := 2, slot := 2, constantValue := 0 }, { name := "hashIsZero", type := .boolean, accessFlags := 2, slot := 3, constantValue := 0 }, { name := "serialVersionUID", type := .long, accessFlags := 26, slot := 0, constantValue := 0 }, { name := "COMPACT_STRINGS", type := .boolean, accessFlags := 24, slot := 1, constantValue := 0 }, { name := "serialPersistentFields", type := (.array (.object "java/io/ObjectStreamField")), accessFlags := 26, slot := 2, constantValue := 0 }, { name := "REPL", type := .char, accessFlags := 26, slot := 3, constantValue := 0 }, { name := "CASE_INSENSITIVE_ORDER", type := (.object "java/util/Comparator"), accessFlags := 25, slot := 4, constantValue := 0 }, { name := "LATIN1", type := .byte, accessFlags := 24, slot := 5, constantValue := 0 }, { name := "UTF16", type := .byte, accessFlags := 24, slot := 6, constantValue := 0 }]
  methods := #[k7m0, k7m1, k7m2, k7m3]
  instanceTypes := #[(.array .byte), .byte, .int, .boolean]
  staticTypes := #[.long, .boolean, (.array (.object "java/io/ObjectStreamField")), .char, (.object "java/util/Comparator"), .byte, .byte]
  resolved := Array.replicate 1451 none
  statics := some 0 }

def pool8 : Array CpInfo := pool [(6, .class_ 8), (1, u "java/lang/Object"), (0, u "<init>"), (0, u "()V"), (1, .class_ 14), (1, u "java/lang/StringUTF16"), (31, u "$assertionsDisabled"), (0, u "Z"), (13, u "HI_BYTE_SHIFT"), (0, u "I"), (2, u "LO_BYTE_SHIFT"), (49, .methodref 12 116), (0, .nameAndType 117 118), (0, u "compress"), (0, u "([CI[BII)I"), (3, u "([CII)[B"), (138, u "coderFromArrayLen"), (0, u "([BI)B"), (106, .class_ 371), (1, u "java/lang/StringUTF16$LinesSpliterator"), (58, u "MAX_LENGTH"), (196, .class_ 628), (0, u "java/lang/StringUTF16$CodePointsSpliterator"), (0, .class_ 630), (0, u "java/lang/StringUTF16$CharsSpliterator")] 4

def k8m0 : Method := { name := "<init>", desc := "()V", sig := { parameters := [], returnType := none }, accessFlags := 0, code := none }
def k8c1 : Code := { maxStack := 2, maxLocals := 2, code := jdk_52_method_15_code, exceptionTable := #[], attributes := #[] }
def k8m1 : Method := { name := "coderFromArrayLen", desc := "([BI)B", sig := { parameters := [(.array .byte), .int], returnType := some .byte }, accessFlags := 8, code := some k8c1 }
def k8c2 : Code := { maxStack := 5, maxLocals := 6, code := jdk_52_method_16_code, exceptionTable := #[], attributes := #[] }
def k8m2 : Method := { name := "compress", desc := "([CII)[B", sig := { parameters := [(.array .char), .int, .int], returnType := some (.array .byte) }, accessFlags := 9, code := some k8c2 }
def k8c3 : Code := { maxStack := 3, maxLocals := 7, code := jdk_52_method_21_code, exceptionTable := #[], attributes := #[] }
def k8m3 : Method := { name := "compress", desc := "([CI[BII)I", sig := { parameters := [(.array .char), .int, (.array .byte), .int, .int], returnType := some .int }, accessFlags := 9, code := some k8c3 }
/-- java/lang/StringUTF16 -/
def k8 : Class := { plain "java/lang/StringUTF16" (some 0) with
  accessFlags := 48
  interfaces := #[]
  cf := some (fileOf pool8 12 #[.nestMembers #[627, 629, 369]] #[{ accessFlags := 0, nameIndex := 9, descriptorIndex := 10, attributes := #[] }, { accessFlags := 8, nameIndex := 261, descriptorIndex := 262, attributes := #[] }, { accessFlags := 9, nameIndex := 117, descriptorIndex := 122, attributes := #[] }, { accessFlags := 9, nameIndex := 117, descriptorIndex := 118, attributes := #[] }] 48 6 #[] #[{ accessFlags := 26, nameIndex := 61, descriptorIndex := 62, attributes := #[] }, { accessFlags := 26, nameIndex := 65, descriptorIndex := 62, attributes := #[] }, { accessFlags := 24, nameIndex := 430, descriptorIndex := 62, attributes := #[] }, { accessFlags := 4120, nameIndex := 46, descriptorIndex := 47, attributes := #[] }])
  fields := #[{ name := "HI_BYTE_SHIFT", type := .int, accessFlags := 26, slot := 0, constantValue := 0 }, { name := "LO_BYTE_SHIFT", type := .int, accessFlags := 26, slot := 1, constantValue := 0 }, { name := "MAX_LENGTH", type := .int, accessFlags := 24, slot := 2, constantValue := 0 }, { name := "$assertionsDisabled", type := .boolean, accessFlags := 4120, slot := 3, constantValue := 0 }]
  methods := #[k8m0, k8m1, k8m2, k8m3]
  instanceTypes := #[]
  staticTypes := #[.int, .int, .int, .boolean]
  resolved := Array.replicate 635 none
  statics := none }

def pool9 : Array CpInfo := pool [(4, .class_ 6), (1, u "java/lang/Object"), (0, u "<init>"), (0, u "()V"), (5, .class_ 16), (1, u "java/lang/StringLatin1"), (104, u "$assertionsDisabled"), (0, u "Z"), (98, .class_ 223), (1, u "java/lang/StringLatin1$LinesSpliterator"), (57, u "equals"), (0, u "([B[B)Z"), (107, .class_ 391), (0, u "java/lang/StringLatin1$CharsSpliterator")] 3

def k9m0 : Method := { name := "<init>", desc := "()V", sig := { parameters := [], returnType := none }, accessFlags := 0, code := none }
def k9c1 : Code := { maxStack := 3, maxLocals := 3, code := jdk_43_method_13_code, exceptionTable := #[], attributes := #[] }
def k9m1 : Method := { name := "equals", desc := "([B[B)Z", sig := { parameters := [(.array .byte), (.array .byte)], returnType := some .boolean }, accessFlags := 9, code := some k9c1 }
/-- java/lang/StringLatin1 -/
def k9 : Class := { plain "java/lang/StringLatin1" (some 0) with
  accessFlags := 48
  interfaces := #[]
  cf := some (fileOf pool9 14 #[.nestMembers #[390, 221]] #[{ accessFlags := 0, nameIndex := 7, descriptorIndex := 8, attributes := #[] }, { accessFlags := 9, nameIndex := 281, descriptorIndex := 282, attributes := #[] }] 48 4 #[] #[{ accessFlags := 4120, nameIndex := 121, descriptorIndex := 122, attributes := #[] }])
  fields := #[{ name := "$assertionsDisabled", type := .boolean, accessFlags := 4120, slot := 0, constantValue := 0 }]
  methods := #[k9m0, k9m1]
  instanceTypes := #[]
  staticTypes := #[.boolean]
  resolved := Array.replicate 395 none
  statics := none }

def pool10 : Array CpInfo := pool [(2, .class_ 4), (1, u "java/lang/Enum"), (0, u "name"), (0, u "Ljava/lang/String;"), (2, u "ordinal"), (0, u "I"), (1, .class_ 14), (1, u "java/lang/Object"), (4, u "hash"), (86, .class_ 108), (1, u "java/lang/Enum$EnumDesc"), (2, .class_ 112), (0, u "java/lang/constant/Constable"), (0, .class_ 114), (0, u "java/lang/Comparable"), (0, .class_ 116), (0, u "java/io/Serializable")] 87

/-- java/lang/Enum -/
def k10 : Class := { plain "java/lang/Enum" (some 0) with
  accessFlags := 1057
  interfaces := #[5, 3, 2]
  cf := some (fileOf pool10 2 #[.nestMembers #[106]] #[] 1057 12 #[111, 113, 115] #[{ accessFlags := 18, nameIndex := 5, descriptorIndex := 6, attributes := #[] }, { accessFlags := 18, nameIndex := 9, descriptorIndex := 10, attributes := #[] }, { accessFlags := 2, nameIndex := 19, descriptorIndex := 10, attributes := #[] }])
  fields := #[{ name := "name", type := (.object "java/lang/String"), accessFlags := 18, slot := 0, constantValue := 0 }, { name := "ordinal", type := .int, accessFlags := 18, slot := 1, constantValue := 0 }, { name := "hash", type := .int, accessFlags := 2, slot := 2, constantValue := 0 }]
  methods := #[]
  instanceTypes := #[(.object "java/lang/String"), .int, .int]
  staticTypes := #[]
  resolved := Array.replicate 204 none
  statics := none }

def pool11 : Array CpInfo := pool [(1, .class_ 2), (0, u "com/example/verschil/verschil/rrdp/FileKind"), (2, u "NOTIFICATION"), (0, u "Lcom/example/verschil/verschil/rrdp/FileKind;"), (2, u "SNAPSHOT"), (2, u "DELTA"), (0, .fieldref 1 14), (0, .nameAndType 15 16), (0, u "$VALUES"), (0, u "[Lcom/example/verschil/verschil/rrdp/FileKind;"), (0, .methodref 18 19), (0, .class_ 16), (0, .nameAndType 20 21), (0, u "clone"), (0, u "()Ljava/lang/Object;"), (1, .class_ 25), (1, u "java/lang/Enum"), (6, .fieldref 1 33), (0, .nameAndType 34 35), (0, u "root"), (0, u "Ljava/lang/String;"), (0, .methodref 1 37), (0, .nameAndType 38 39), (0, u "values"), (0, u "()[Lcom/example/verschil/verschil/rrdp/FileKind;"), (0, .methodref 41 42), (0, .class_ 43), (0, .nameAndType 44 45), (0, u "java/lang/String"), (0, u "equals"), (0, u "(Ljava/lang/Object;)Z"), (17, u "(Ljava/lang/String;)Lcom/example/verschil/verschil/rrdp/FileKind;"), (4, u "ofRoot")] 6

def k11c0 : Code := { maxStack := 1, maxLocals := 0, code := prog_84_method_1_code, exceptionTable := #[], attributes := #[] }
def k11m0 : Method := { name := "values", desc := "()[Lcom/example/verschil/verschil/rrdp/FileKind;", sig := { parameters := [], returnType := some (.array (.object "com/example/verschil/verschil/rrdp/FileKind")) }, accessFlags := 9, code := some k11c0 }
def k11c1 : Code := { maxStack := 2, maxLocals := 5, code := prog_84_method_5_code, exceptionTable := #[], attributes := #[] }
def k11m1 : Method := { name := "ofRoot", desc := "(Ljava/lang/String;)Lcom/example/verschil/verschil/rrdp/FileKind;", sig := { parameters := [(.object "java/lang/String")], returnType := some (.object "com/example/verschil/verschil/rrdp/FileKind") }, accessFlags := 8, code := some k11c1 }
/-- com/example/verschil/verschil/rrdp/FileKind -/
def k11 : Class := { plain "com/example/verschil/verschil/rrdp/FileKind" (some 10) with
  accessFlags := 16433
  interfaces := #[]
  cf := some (fileOf pool11 1 #[] #[{ accessFlags := 9, nameIndex := 38, descriptorIndex := 39, attributes := #[] }, { accessFlags := 8, nameIndex := 68, descriptorIndex := 63, attributes := #[] }] 16433 23 #[] #[{ accessFlags := 16409, nameIndex := 5, descriptorIndex := 6, attributes := #[] }, { accessFlags := 16409, nameIndex := 9, descriptorIndex := 6, attributes := #[] }, { accessFlags := 16409, nameIndex := 12, descriptorIndex := 6, attributes := #[] }, { accessFlags := 18, nameIndex := 34, descriptorIndex := 35, attributes := #[] }, { accessFlags := 4122, nameIndex := 15, descriptorIndex := 16, attributes := #[] }])
  fields := #[{ name := "NOTIFICATION", type := (.object "com/example/verschil/verschil/rrdp/FileKind"), accessFlags := 16409, slot := 0, constantValue := 0 }, { name := "SNAPSHOT", type := (.object "com/example/verschil/verschil/rrdp/FileKind"), accessFlags := 16409, slot := 1, constantValue := 0 }, { name := "DELTA", type := (.object "com/example/verschil/verschil/rrdp/FileKind"), accessFlags := 16409, slot := 2, constantValue := 0 }, { name := "root", type := (.object "java/lang/String"), accessFlags := 18, slot := 3, constantValue := 0 }, { name := "$VALUES", type := (.array (.object "com/example/verschil/verschil/rrdp/FileKind")), accessFlags := 4122, slot := 3, constantValue := 0 }]
  methods := #[k11m0, k11m1]
  instanceTypes := #[(.object "java/lang/String"), .int, .int, (.object "java/lang/String")]
  staticTypes := #[(.object "com/example/verschil/verschil/rrdp/FileKind"), (.object "com/example/verschil/verschil/rrdp/FileKind"), (.object "com/example/verschil/verschil/rrdp/FileKind"), (.array (.object "com/example/verschil/verschil/rrdp/FileKind"))]
  resolved := Array.replicate 75 none
  statics := some 1 }

def pool12 : Array CpInfo := pool [(1, .class_ 2), (0, u "java/lang/Cloneable"), (0, .class_ 4), (0, u "java/lang/Object")] 2

/-- java/lang/Cloneable -/
def k12 : Class := { plain "java/lang/Cloneable" (some 0) with
  accessFlags := 1537
  interfaces := #[]
  cf := some (fileOf pool12 1 #[] #[] 1537 3 #[] #[])
  fields := #[]
  methods := #[]
  instanceTypes := #[]
  staticTypes := #[]
  resolved := Array.replicate 7 none
  statics := none }

def pool13 : Array CpInfo := pool [(2, .class_ 4), (1, u "java/lang/Object"), (0, u "<init>"), (0, u "()V"), (17, .class_ 26), (1, u "jdk/internal/util/Preconditions"), (28, .class_ 56), (0, u "jdk/internal/util/Preconditions$4"), (57, .class_ 115), (0, u "jdk/internal/util/Preconditions$1"), (7, u "SIOOBE_FORMATTER"), (0, u "Ljava/util/function/BiFunction;"), (0, .class_ 126), (0, u "jdk/internal/util/Preconditions$2"), (3, u "AIOOBE_FORMATTER"), (0, .class_ 132), (0, u "jdk/internal/util/Preconditions$3"), (3, u "IOOBE_FORMATTER")] 57

def k13m0 : Method := { name := "<init>", desc := "()V", sig := { parameters := [], returnType := none }, accessFlags := 1, code := none }
/-- jdk/internal/util/Preconditions -/
def k13 : Class := { plain "jdk/internal/util/Preconditions" (some 0) with
  accessFlags := 33
  interfaces := #[]
  cf := some (fileOf pool13 24 #[.nestMembers #[55, 131, 125, 114]] #[{ accessFlags := 1, nameIndex := 5, descriptorIndex := 6, attributes := #[] }] 33 2 #[] #[{ accessFlags := 25, nameIndex := 123, descriptorIndex := 124, attributes := #[] }, { accessFlags := 25, nameIndex := 130, descriptorIndex := 124, attributes := #[] }, { accessFlags := 25, nameIndex := 136, descriptorIndex := 124, attributes := #[] }])
  fields := #[{ name := "SIOOBE_FORMATTER", type := (.object "java/util/function/BiFunction"), accessFlags := 25, slot := 0, constantValue := 0 }, { name := "AIOOBE_FORMATTER", type := (.object "java/util/function/BiFunction"), accessFlags := 25, slot := 1, constantValue := 0 }, { name := "IOOBE_FORMATTER", type := (.object "java/util/function/BiFunction"), accessFlags := 25, slot := 2, constantValue := 0 }]
  methods := #[k13m0]
  instanceTypes := #[]
  staticTypes := #[(.object "java/util/function/BiFunction"), (.object "java/util/function/BiFunction"), (.object "java/util/function/BiFunction")]
  resolved := Array.replicate 194 none
  statics := some 2 }

def pool14 : Array CpInfo := pool [(9, u "<init>"), (6, .class_ 18), (1, u "java/lang/Object"), (0, u "()V"), (1, .class_ 23), (1, u "jdk/internal/util/ArraysSupport"), (0, u "LOG2_ARRAY_LONG_INDEX_SCALE"), (0, u "I"), (2, u "U"), (0, u "Ljdk/internal/misc/Unsafe;"), (8, u "BIG_ENDIAN"), (0, u "Z"), (8, u "LOG2_BYTE_BIT_SIZE"), (4, u "LOG2_ARRAY_INT_INDEX_SCALE"), (54, u "JLA"), (0, u "Ljdk/internal/access/JavaLangAccess;"), (11, u "LOG2_ARRAY_BOOLEAN_INDEX_SCALE"), (9, u "LOG2_ARRAY_BYTE_INDEX_SCALE"), (5, u "LOG2_ARRAY_CHAR_INDEX_SCALE"), (5, u "LOG2_ARRAY_SHORT_INDEX_SCALE"), (18, u "LOG2_ARRAY_FLOAT_INDEX_SCALE"), (24, u "LOG2_ARRAY_DOUBLE_INDEX_SCALE"), (89, u "T_BOOLEAN"), (2, u "T_CHAR"), (1, u "T_FLOAT"), (1, u "T_DOUBLE"), (1, u "T_BYTE"), (1, u "T_SHORT"), (1, u "T_INT"), (1, u "T_LONG"), (1, u "SOFT_MAX_ARRAY_LENGTH")] 83

def k14m0 : Method := { name := "<init>", desc := "()V", sig := { parameters := [], returnType := none }, accessFlags := 2, code := none }
/-- jdk/internal/util/ArraysSupport -/
def k14 : Class := { plain "jdk/internal/util/ArraysSupport" (some 0) with
  accessFlags := 33
  interfaces := #[]
  cf := some (fileOf pool14 21 #[] #[{ accessFlags := 2, nameIndex := 9, descriptorIndex := 19, attributes := #[] }] 33 16 #[] #[{ accessFlags := 24, nameIndex := 28, descriptorIndex := 29, attributes := #[] }, { accessFlags := 26, nameIndex := 38, descriptorIndex := 39, attributes := #[] }, { accessFlags := 25, nameIndex := 121, descriptorIndex := 25, attributes := #[] }, { accessFlags := 25, nameIndex := 131, descriptorIndex := 25, attributes := #[] }, { accessFlags := 25, nameIndex := 137, descriptorIndex := 25, attributes := #[] }, { accessFlags := 25, nameIndex := 143, descriptorIndex := 25, attributes := #[] }, { accessFlags := 25, nameIndex := 53, descriptorIndex := 25, attributes := #[] }, { accessFlags := 25, nameIndex := 24, descriptorIndex := 25, attributes := #[] }, { accessFlags := 25, nameIndex := 162, descriptorIndex := 25, attributes := #[] }, { accessFlags := 25, nameIndex := 187, descriptorIndex := 25, attributes := #[] }, { accessFlags := 26, nameIndex := 48, descriptorIndex := 25, attributes := #[] }, { accessFlags := 25, nameIndex := 277, descriptorIndex := 25, attributes := #[] }, { accessFlags := 25, nameIndex := 280, descriptorIndex := 25, attributes := #[] }, { accessFlags := 25, nameIndex := 282, descriptorIndex := 25, attributes := #[] }, { accessFlags := 25, nameIndex := 284, descriptorIndex := 25, attributes := #[] }, { accessFlags := 25, nameIndex := 286, descriptorIndex := 25, attributes := #[] }, { accessFlags := 25, nameIndex := 288, descriptorIndex := 25, attributes := #[] }, { accessFlags := 25, nameIndex := 290, descriptorIndex := 25, attributes := #[] }, { accessFlags := 25, nameIndex := 292, descriptorIndex := 25, attributes := #[] }, { accessFlags := 26, nameIndex := 108, descriptorIndex := 109, attributes := #[] }, { accessFlags := 25, nameIndex := 294, descriptorIndex := 25, attributes := #[] }])
  fields := #[{ name := "U", type := (.object "jdk/internal/misc/Unsafe"), accessFlags := 24, slot := 0, constantValue := 0 }, { name := "BIG_ENDIAN", type := .boolean, accessFlags := 26, slot := 1, constantValue := 0 }, { name := "LOG2_ARRAY_BOOLEAN_INDEX_SCALE", type := .int, accessFlags := 25, slot := 2, constantValue := 0 }, { name := "LOG2_ARRAY_BYTE_INDEX_SCALE", type := .int, accessFlags := 25, slot := 3, constantValue := 0 }, { name := "LOG2_ARRAY_CHAR_INDEX_SCALE", type := .int, accessFlags := 25, slot := 4, constantValue := 0 }, { name := "LOG2_ARRAY_SHORT_INDEX_SCALE", type := .int, accessFlags := 25, slot := 5, constantValue := 0 }, { name := "LOG2_ARRAY_INT_INDEX_SCALE", type := .int, accessFlags := 25, slot := 6, constantValue := 0 }, { name := "LOG2_ARRAY_LONG_INDEX_SCALE", type := .int, accessFlags := 25, slot := 7, constantValue := 0 }, { name := "LOG2_ARRAY_FLOAT_INDEX_SCALE", type := .int, accessFlags := 25, slot := 8, constantValue := 0 }, { name := "LOG2_ARRAY_DOUBLE_INDEX_SCALE", type := .int, accessFlags := 25, slot := 9, constantValue := 0 }, { name := "LOG2_BYTE_BIT_SIZE", type := .int, accessFlags := 26, slot := 10, constantValue := 0 }, { name := "T_BOOLEAN", type := .int, accessFlags := 25, slot := 11, constantValue := 0 }, { name := "T_CHAR", type := .int, accessFlags := 25, slot := 12, constantValue := 0 }, { name := "T_FLOAT", type := .int, accessFlags := 25, slot := 13, constantValue := 0 }, { name := "T_DOUBLE", type := .int, accessFlags := 25, slot := 14, constantValue := 0 }, { name := "T_BYTE", type := .int, accessFlags := 25, slot := 15, constantValue := 0 }, { name := "T_SHORT", type := .int, accessFlags := 25, slot := 16, constantValue := 0 }, { name := "T_INT", type := .int, accessFlags := 25, slot := 17, constantValue := 0 }, { name := "T_LONG", type := .int, accessFlags := 25, slot := 18, constantValue := 0 }, { name := "JLA", type := (.object "jdk/internal/access/JavaLangAccess"), accessFlags := 26, slot := 19, constantValue := 0 }, { name := "SOFT_MAX_ARRAY_LENGTH", type := .int, accessFlags := 25, slot := 20, constantValue := 0 }]
  methods := #[k14m0]
  instanceTypes := #[]
  staticTypes := #[(.object "jdk/internal/misc/Unsafe"), .boolean, .int, .int, .int, .int, .int, .int, .int, .int, .int, .int, .int, .int, .int, .int, .int, .int, .int, (.object "jdk/internal/access/JavaLangAccess"), .int]
  resolved := Array.replicate 378 none
  statics := none }

/-- the primitive byte -/
def k15 : Class := { plain "byte" none with kind := .primitive 'B', accessFlags := 0x411 }
/-- [B -/
def k16 : Class := { plain "[B" (some 0) with kind := .array 15 .byte, interfaces := #[12, 2], accessFlags := 1041 }

/-- the primitive char -/
def k17 : Class := { plain "char" none with kind := .primitive 'C', accessFlags := 0x411 }
/-- [C -/
def k18 : Class := { plain "[C" (some 0) with kind := .array 17 .char, interfaces := #[12, 2], accessFlags := 1041 }

/-- the primitive int -/
def k19 : Class := { plain "int" none with kind := .primitive 'I', accessFlags := 0x411 }
/-- [I -/
def k20 : Class := { plain "[I" (some 0) with kind := .array 19 .int, interfaces := #[12, 2], accessFlags := 1041 }

/-- [Lcom/example/verschil/verschil/rrdp/FileKind; -/
def k21 : Class := { plain "[Lcom/example/verschil/verschil/rrdp/FileKind;" (some 0) with kind := .array 11 (.object "com/example/verschil/verschil/rrdp/FileKind"), interfaces := #[12, 2], accessFlags := 1041 }

def heap : Heap := #[{ cls := 7, slots := #[.long 0, .int 1, .null, .int 0, .null, .int 0, .int 0], vm := .statics 7 },
  { cls := 11, slots := #[.ref 4, .ref 5, .ref 6, .ref 3], vm := .statics 11 },
  { cls := 13, slots := #[.null, .null, .null], vm := .statics 13 },
  { cls := 21, slots := #[.ref 4, .ref 5, .ref 6], vm := .none },
  { cls := 11, slots := #[.null, .int 0, .int 0, .ref 7], vm := .none },
  { cls := 11, slots := #[.null, .int 1, .int 0, .ref 8], vm := .none },
  { cls := 11, slots := #[.null, .int 2, .int 0, .ref 9], vm := .none },
  { cls := 7, slots := #[.ref 10, .int 0, .int 0, .int 0], vm := .none },
  { cls := 7, slots := #[.ref 11, .int 0, .int 0, .int 0], vm := .none },
  { cls := 7, slots := #[.ref 12, .int 0, .int 0, .int 0], vm := .none },
  { cls := 16, slots := #[.int 110, .int 111, .int 116, .int 105, .int 102, .int 105, .int 99, .int 97, .int 116, .int 105, .int 111, .int 110], vm := .none },
  { cls := 16, slots := #[.int 115, .int 110, .int 97, .int 112, .int 115, .int 104, .int 111, .int 116], vm := .none },
  { cls := 16, slots := #[.int 100, .int 101, .int 108, .int 116, .int 97], vm := .none }]
def classes : Array Class := #[k0, k1, k2, k3, k4, k5, k6, k7, k8, k9, k10, k11, k12, k13, k14, k15, k16, k17, k18, k19, k20, k21]
def interned : List (Array UInt16 × Addr) := []
def slotsUsed : Nat := 66
def theMethod : MethodId := ⟨1, 1⟩
def args0 : Array Value := #[.int 11, .int 1, .int 1, .int 1]
def aboutOver (below : List Frame) : State where
  vm := { classes := classes, interned := interned.toArray }
  heap := heap
  slotsUsed := slotsUsed
  threads := #[{ frames := .invoking theMethod args0 :: below }]
def below0 : List Frame := [.native { method := ⟨0, 0⟩, args := #[] }]
def about1 : State := aboutOver below0
def p0 : Program := .bare "" "" ""
def e0 : Env := launch0.env 0 0 0
theorem w_frames : about1.frames = Frame.invoking theMethod args0 :: below0 := rfl
set_option maxRecDepth 65536 in
theorem w_args : argsFit about1.vm theMethod args0 = true := by decide +kernel
set_option maxRecDepth 65536 in
theorem w_heap : heapFits about1 = true := by decide +kernel
set_option maxRecDepth 65536 in
theorem w_runnable : about1.curStatus? = some .runnable := by decide +kernel
set_option maxRecDepth 65536 in
theorem w_alone : about1.alone = true := by decide +kernel
set_option maxRecDepth 65536 in
theorem w_named : about1.methodNamed? x = some theMethod := by decide +kernel
set_option maxRecDepth 65536 in
theorem w_hears : about1.hears theMethod below0 = true := by decide +kernel
set_option maxRecDepth 65536 in
theorem w_ripe : about1.ripe theMethod args0 below0 = true := by decide +kernel
theorem w_running : about1.status = .running := rfl
set_option maxRecDepth 65536 in
theorem w_room : about1.hasRoom e0.platform room_1 = true :=
  launch0.hasRoom_least _ room_1 (by decide +kernel) (by decide +kernel) (by decide +kernel) (by decide +kernel) (by decide +kernel) (by decide +kernel)
theorem allAtoms_all (ts : List Jvm.Cond) (a : Array Jvm.Value) (st : Jvm.State) : (allAtoms ts).before a st = ts.all (fun c => c.before a st) := by
  induction ts with
  | nil => rfl
  | cons c t ih =>
    show (Jvm.Cond.and c (allAtoms t)).before a st = _
    rw [Jvm.Cond.before_and, ih, List.all_cons]
def words1 : List Jvm.Cond := Jvm.Cond.code x code maxLocals ret :: tables_1
/-- a 'code' word, met by the world's own term for the bytes: nothing is compared byte by byte -/
theorem code_word {y : MethodName} {bytes : ByteArray} {mx : Nat} {rt : Option FieldType} {a : Array Value} {s : State} {m : MethodId} {meth : Method} {c : Code} (h1 : s.methodNamed? y = some m) (h2 : s.vm.method? m = some meth) (h3 : meth.code = some c) (h4 : c.code = bytes)
    (h5 : (c.maxLocals == mx && c.exceptionTable.isEmpty && decide (c.maxStack ≤ mostOperands) && decide (meth.sig.returnType = rt) && !meth.locks && decide (parseMethodDescriptor y.desc = some meth.sig)) = true) : (Jvm.Cond.code y bytes mx rt).before a s = true := by
  simp only [Bool.and_eq_true, beq_iff_eq, Bool.not_eq_true', decide_eq_true_eq] at h5
  obtain ⟨⟨⟨⟨⟨g1, g2⟩, g3⟩, g4⟩, g5⟩, g6⟩ := h5
  simp [Cond.before, Cond.holds, Cond.value, h1, h2, h3, h4, g1, g2, g3, g4, g5, g6]
def isCode : Jvm.Cond → Bool
  | .code _ _ _ _ => true
  | _ => false
theorem all_split {L : List Jvm.Cond} {P : Jvm.Cond → Bool} (h1 : L.all (fun c => isCode c || P c) = true) (h2 : ∀ c ∈ L.filter isCode, P c = true) : L.all P = true := by
  refine List.all_eq_true.mpr fun c hc => ?_
  have h := List.all_eq_true.mp h1 c hc
  rcases Bool.eq_false_or_eq_true (isCode c) with hi | hi
  · exact h2 c (List.mem_filter.mpr ⟨hc, hi⟩)
  · simpa [hi] using h
set_option maxRecDepth 65536 in
theorem w_c0 : (Jvm.Cond.code x code maxLocals ret).before args0 about1 = true := code_word (m := ⟨1, 1⟩) (meth := k1m1) (c := k1c1) (by decide +kernel) rfl rfl rfl (by decide +kernel)
set_option maxRecDepth 65536 in
theorem w_c1 : (Jvm.Cond.code ({ cls := "com/example/verschil/verschil/rrdp/FileKindOfRootPinLaw", name := "build", desc := "(IIZCC)Ljava/lang/String;" } : Jvm.MethodName) method_3_code (6 : Nat) (Option.some (Jvm.ClassFile.FieldType.object "java/lang/String"))).before args0 about1 = true := code_word (m := ⟨1, 2⟩) (meth := k1m2) (c := k1c2) (by decide +kernel) rfl rfl rfl (by decide +kernel)
set_option maxRecDepth 65536 in
theorem w_c2 : (Jvm.Cond.code ({ cls := "java/lang/String", name := "<init>", desc := "([C)V" } : Jvm.MethodName) jdk_42_method_3_code (2 : Nat) (Option.none : Option Jvm.ClassFile.FieldType)).before args0 about1 = true := code_word (m := ⟨7, 1⟩) (meth := k7m1) (c := k7c1) (by decide +kernel) rfl rfl rfl (by decide +kernel)
set_option maxRecDepth 65536 in
theorem w_c3 : (Jvm.Cond.code ({ cls := "java/lang/String", name := "<init>", desc := "([CIILjava/lang/Void;)V" } : Jvm.MethodName) jdk_42_method_149_code (6 : Nat) (Option.none : Option Jvm.ClassFile.FieldType)).before args0 about1 = true := code_word (m := ⟨7, 3⟩) (meth := k7m3) (c := k7c3) (by decide +kernel) rfl rfl rfl (by decide +kernel)
set_option maxRecDepth 65536 in
theorem w_c4 : (Jvm.Cond.code ({ cls := "java/lang/Object", name := "<init>", desc := "()V" } : Jvm.MethodName) object_method_1_code (1 : Nat) (Option.none : Option Jvm.ClassFile.FieldType)).before args0 about1 = true := code_word (m := ⟨0, 0⟩) (meth := k0m0) (c := k0c0) (by decide +kernel) rfl rfl rfl (by decide +kernel)
set_option maxRecDepth 65536 in
theorem w_c5 : (Jvm.Cond.code ({ cls := "java/lang/StringUTF16", name := "compress", desc := "([CII)[B" } : Jvm.MethodName) jdk_52_method_16_code (6 : Nat) (Option.some (Jvm.ClassFile.FieldType.array Jvm.ClassFile.FieldType.byte))).before args0 about1 = true := code_word (m := ⟨8, 2⟩) (meth := k8m2) (c := k8c2) (by decide +kernel) rfl rfl rfl (by decide +kernel)
set_option maxRecDepth 65536 in
theorem w_c6 : (Jvm.Cond.code ({ cls := "java/lang/StringUTF16", name := "compress", desc := "([CI[BII)I" } : Jvm.MethodName) jdk_52_method_21_code (7 : Nat) (Option.some Jvm.ClassFile.FieldType.int)).before args0 about1 = true := code_word (m := ⟨8, 3⟩) (meth := k8m3) (c := k8c3) (by decide +kernel) rfl rfl rfl (by decide +kernel)
set_option maxRecDepth 65536 in
theorem w_c7 : (Jvm.Cond.code ({ cls := "java/lang/StringUTF16", name := "coderFromArrayLen", desc := "([BI)B" } : Jvm.MethodName) jdk_52_method_15_code (2 : Nat) (Option.some Jvm.ClassFile.FieldType.byte)).before args0 about1 = true := code_word (m := ⟨8, 1⟩) (meth := k8m1) (c := k8c1) (by decide +kernel) rfl rfl rfl (by decide +kernel)
set_option maxRecDepth 65536 in
theorem w_c8 : (Jvm.Cond.code ({ cls := "com/example/verschil/verschil/rrdp/FileKindOfRootPinLaw", name := "expected", desc := "(Ljava/lang/String;)Lcom/example/verschil/verschil/rrdp/FileKind;" } : Jvm.MethodName) method_4_code (1 : Nat) (Option.some (Jvm.ClassFile.FieldType.object "com/example/verschil/verschil/rrdp/FileKind"))).before args0 about1 = true := code_word (m := ⟨1, 3⟩) (meth := k1m3) (c := k1c3) (by decide +kernel) rfl rfl rfl (by decide +kernel)
set_option maxRecDepth 65536 in
theorem w_c9 : (Jvm.Cond.code ({ cls := "java/lang/String", name := "equals", desc := "(Ljava/lang/Object;)Z" } : Jvm.MethodName) jdk_42_method_66_code (3 : Nat) (Option.some Jvm.ClassFile.FieldType.boolean)).before args0 about1 = true := code_word (m := ⟨7, 2⟩) (meth := k7m2) (c := k7c2) (by decide +kernel) rfl rfl rfl (by decide +kernel)
set_option maxRecDepth 65536 in
theorem w_c10 : (Jvm.Cond.code ({ cls := "java/lang/StringLatin1", name := "equals", desc := "([B[B)Z" } : Jvm.MethodName) jdk_43_method_13_code (3 : Nat) (Option.some Jvm.ClassFile.FieldType.boolean)).before args0 about1 = true := code_word (m := ⟨9, 1⟩) (meth := k9m1) (c := k9c1) (by decide +kernel) rfl rfl rfl (by decide +kernel)
set_option maxRecDepth 65536 in
theorem w_c11 : (Jvm.Cond.code ({ cls := "com/example/verschil/verschil/rrdp/FileKind", name := "ofRoot", desc := "(Ljava/lang/String;)Lcom/example/verschil/verschil/rrdp/FileKind;" } : Jvm.MethodName) prog_84_method_5_code (5 : Nat) (Option.some (Jvm.ClassFile.FieldType.object "com/example/verschil/verschil/rrdp/FileKind"))).before args0 about1 = true := code_word (m := ⟨11, 1⟩) (meth := k11m1) (c := k11c1) (by decide +kernel) rfl rfl rfl (by decide +kernel)
set_option maxRecDepth 65536 in
theorem w_c12 : (Jvm.Cond.code ({ cls := "com/example/verschil/verschil/rrdp/FileKind", name := "values", desc := "()[Lcom/example/verschil/verschil/rrdp/FileKind;" } : Jvm.MethodName) prog_84_method_1_code (0 : Nat) (Option.some (Jvm.ClassFile.FieldType.array (Jvm.ClassFile.FieldType.object "com/example/verschil/verschil/rrdp/FileKind")))).before args0 about1 = true := code_word (m := ⟨11, 0⟩) (meth := k11m0) (c := k11c0) (by decide +kernel) rfl rfl rfl (by decide +kernel)
def codes1 : List Jvm.Cond := [Jvm.Cond.code x code maxLocals ret, Jvm.Cond.code ({ cls := "com/example/verschil/verschil/rrdp/FileKindOfRootPinLaw", name := "build", desc := "(IIZCC)Ljava/lang/String;" } : Jvm.MethodName) method_3_code (6 : Nat) (Option.some (Jvm.ClassFile.FieldType.object "java/lang/String")), Jvm.Cond.code ({ cls := "java/lang/String", name := "<init>", desc := "([C)V" } : Jvm.MethodName) jdk_42_method_3_code (2 : Nat) (Option.none : Option Jvm.ClassFile.FieldType), Jvm.Cond.code ({ cls := "java/lang/String", name := "<init>", desc := "([CIILjava/lang/Void;)V" } : Jvm.MethodName) jdk_42_method_149_code (6 : Nat) (Option.none : Option Jvm.ClassFile.FieldType), Jvm.Cond.code ({ cls := "java/lang/Object", name := "<init>", desc := "()V" } : Jvm.MethodName) object_method_1_code (1 : Nat) (Option.none : Option Jvm.ClassFile.FieldType), Jvm.Cond.code ({ cls := "java/lang/StringUTF16", name := "compress", desc := "([CII)[B" } : Jvm.MethodName) jdk_52_method_16_code (6 : Nat) (Option.some (Jvm.ClassFile.FieldType.array Jvm.ClassFile.FieldType.byte)), Jvm.Cond.code ({ cls := "java/lang/StringUTF16", name := "compress", desc := "([CI[BII)I" } : Jvm.MethodName) jdk_52_method_21_code (7 : Nat) (Option.some Jvm.ClassFile.FieldType.int), Jvm.Cond.code ({ cls := "java/lang/StringUTF16", name := "coderFromArrayLen", desc := "([BI)B" } : Jvm.MethodName) jdk_52_method_15_code (2 : Nat) (Option.some Jvm.ClassFile.FieldType.byte), Jvm.Cond.code ({ cls := "com/example/verschil/verschil/rrdp/FileKindOfRootPinLaw", name := "expected", desc := "(Ljava/lang/String;)Lcom/example/verschil/verschil/rrdp/FileKind;" } : Jvm.MethodName) method_4_code (1 : Nat) (Option.some (Jvm.ClassFile.FieldType.object "com/example/verschil/verschil/rrdp/FileKind")), Jvm.Cond.code ({ cls := "java/lang/String", name := "equals", desc := "(Ljava/lang/Object;)Z" } : Jvm.MethodName) jdk_42_method_66_code (3 : Nat) (Option.some Jvm.ClassFile.FieldType.boolean), Jvm.Cond.code ({ cls := "java/lang/StringLatin1", name := "equals", desc := "([B[B)Z" } : Jvm.MethodName) jdk_43_method_13_code (3 : Nat) (Option.some Jvm.ClassFile.FieldType.boolean), Jvm.Cond.code ({ cls := "com/example/verschil/verschil/rrdp/FileKind", name := "ofRoot", desc := "(Ljava/lang/String;)Lcom/example/verschil/verschil/rrdp/FileKind;" } : Jvm.MethodName) prog_84_method_5_code (5 : Nat) (Option.some (Jvm.ClassFile.FieldType.object "com/example/verschil/verschil/rrdp/FileKind")), Jvm.Cond.code ({ cls := "com/example/verschil/verschil/rrdp/FileKind", name := "values", desc := "()[Lcom/example/verschil/verschil/rrdp/FileKind;" } : Jvm.MethodName) prog_84_method_1_code (0 : Nat) (Option.some (Jvm.ClassFile.FieldType.array (Jvm.ClassFile.FieldType.object "com/example/verschil/verschil/rrdp/FileKind")))]
set_option maxRecDepth 65536 in
theorem codes_eq : words1.filter isCode = codes1 := rfl
theorem w_codes : ∀ c ∈ words1.filter isCode, c.before args0 about1 = true := by
  rw [codes_eq]
  intro c hc
  simp only [codes1, List.mem_cons, List.not_mem_nil, or_false] at hc
  rcases hc with rfl | rfl | rfl | rfl | rfl | rfl | rfl | rfl | rfl | rfl | rfl | rfl | rfl
  · exact w_c0
  · exact w_c1
  · exact w_c2
  · exact w_c3
  · exact w_c4
  · exact w_c5
  · exact w_c6
  · exact w_c7
  · exact w_c8
  · exact w_c9
  · exact w_c10
  · exact w_c11
  · exact w_c12
set_option maxRecDepth 65536 in
theorem w_t1 : (words1.take 24).all (fun c => isCode c || c.before args0 about1) = true := by decide +kernel
set_option maxRecDepth 65536 in
theorem w_t2 : ((words1.drop 24).take 24).all (fun c => isCode c || c.before args0 about1) = true := by decide +kernel
set_option maxRecDepth 65536 in
theorem w_t3 : (((words1.drop 24).drop 24).take 24).all (fun c => isCode c || c.before args0 about1) = true := by decide +kernel
set_option maxRecDepth 65536 in
theorem w_t4 : (((words1.drop 24).drop 24).drop 24).all (fun c => isCode c || c.before args0 about1) = true := by decide +kernel
theorem w_tables : (allAtoms (Jvm.Cond.code x code maxLocals ret :: tables_1)).before args0 about1 = true := by
  rw [allAtoms_all]
  show words1.all (fun c => c.before args0 about1) = true
  refine all_split ?_ w_codes
  rw [← List.take_append_drop 24 words1, List.all_append, w_t1, ← List.take_append_drop 24 (words1.drop 24), List.all_append, w_t2, ← List.take_append_drop 24 ((words1.drop 24).drop 24), List.all_append, w_t3, w_t4]
  rfl
set_option maxRecDepth 65536 in
theorem w_rest : rest_1_c.before args0 about1 = true := by decide +kernel
set_option maxRecDepth 65536 in
theorem w_case : (Jvm.Cond.and given_1 narrow_1).before args0 about1 = true := by decide +kernel
set_option maxRecDepth 65536 in
theorem w_consts : constsHeld consts_1 about1 := Jvm.Lit.constsHeldB_iff.mp (by decide +kernel)
theorem w_applies : (headSpec (Jvm.Cond.code x code maxLocals ret :: tables_1) room_1).applies x e0.platform about1 = true :=
  (Spec.applies_iff w_frames).mpr ⟨w_running, w_runnable, w_alone, w_named, w_hears, w_ripe, w_room, w_tables⟩
theorem atStart : AtStart classFile x code maxLocals ret World_1 tables_1 room_1 Calls_1 rest_1 Pre_1 launch0 p0 e0 about1 theMethod args0 below0 :=
  ⟨lists_1, trivial, launch0.admits_env _ _ _, launch0.least_env, fairChoices_fair.cas, fairChoices_fair.clock, w_frames, w_args, w_heap, w_applies, ⟨w_consts, trivial⟩, w_rest, w_case⟩
end start1
theorem witness_1 : WitnessClaimed_1 := ⟨start1.p0, start1.e0, start1.about1, start1.theMethod, start1.args0, start1.below0, start1.atStart⟩
end Jvm.Pilot.@@N@@
