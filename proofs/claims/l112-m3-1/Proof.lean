import JvmDerived
import JvmDerived.Pilot.@@N@@Statement
import JvmDerived.Pilot.@@N@@Code
set_option linter.unusedVariables false
set_option linter.unusedSimpArgs false
@@BLOCK:NumsL.lean.txt@@
/- laws to paste: Road.backV, Road.eqW, Road.codOf (cut by pick.py; bodies as the Statement names them) -/
namespace Jvm.Pilot.@@N@@
namespace StrChars
open Jvm Sem ClassFile Op Lib Jvm.Stand Jvm.Free.XT Jvm.Free.ALB Jvm.Free.JM Jvm.Free
open Jvm.Lib.Cold (StaticIs)
/-- a char array whose places are chars -/
def Ch (a : Addr) (A : Cell) (U : State) : Prop := Arr .char a A U ∧ Typed .char A
theorem Ch.mv {a : Addr} {A : Cell} {U U' : State} (h : Ch a A U) (hal : U.vm.Alike U'.vm) (hh : U'.heap = U.heap) : Ch a A U' := ⟨h.1.mv hal hh, h.2⟩
theorem Ch.keep {a : Addr} {A : Cell} {U U' : State} (h : Ch a A U) (hal : U.vm.Alike U'.vm) (hk : U'.heap[a]? = some A) : Ch a A U' := ⟨h.1.keep hal hk, h.2⟩
/-- what place i of a char[]'s cell holds -/
def cv (A : Cell) (i : Nat) : Int32 := match A.slots[i]? with | some (.int x) => x | _ => 0
theorem Ch.get {a : Addr} {A : Cell} {U : State} (h : Ch a A U) {i : Nat} (hi : i < A.slots.size) : A.slots[i]? = some (.int (cv A i)) := by
  have e := Array.getElem?_eq_getElem hi
  have f := h.2 i _ e
  unfold cv; rw [e]
  generalize A.slots[i] = v at f
  cases v <;> simp [fits] at f ⊢
/-- the byte that i2b leaves of a char -/
def lo8 (x : Int32) : Int32 := x.toInt8.toInt32
theorem fits_lo8 (y : Int32) : fits .byte (.int (lo8 y)) = true := by
  have h1 := y.toInt8.le_toInt
  have h2 := y.toInt8.toInt_lt
  simp only [lo8, fits, Bool.and_eq_true, decide_eq_true_eq, Int32.le_iff_toInt_le, Int8.toInt_toInt32, show (-128 : Int32).toInt = -128 from by decide, show (127 : Int32).toInt = 127 from by decide]
  omega
/-- A' is A but that each place j of lo .. hi - 1 holds f j -/
def Laid (A A' : Cell) (lo hi : Nat) (f : Nat → Value) : Prop := A'.cls = A.cls ∧ A'.vm = A.vm ∧ A'.slots.size = A.slots.size ∧ ∀ i, A'.slots[i]? = if lo ≤ i ∧ i < hi then some (f i) else A.slots[i]?
theorem Laid.zero (A : Cell) (lo : Nat) (f : Nat → Value) : Laid A A lo (lo + 0) f := ⟨rfl, rfl, rfl, fun i => by rw [if_neg (by omega)]⟩
theorem Laid.step {A Ak : Cell} {lo k : Nat} {f : Nat → Value} {v : Value} (h : Laid A Ak lo k f) (hlo : lo ≤ k) (hk : k < Ak.slots.size) (hv : v = f k) : Laid A (Ak.setSlot k v) lo (k + 1) f := by
  refine ⟨h.1, h.2.1, by simpa [Cell.setSlot] using h.2.2.1, fun i => ?_⟩
  by_cases e : k = i
  · subst e; rw [Cell.slots_setSlot_self v hk, if_pos (by omega), hv]
  · rw [Cell.slots_setSlot_ne v e, h.2.2.2 i]
    by_cases q : lo ≤ i ∧ i < k
    · rw [if_pos q, if_pos (by omega)]
    · rw [if_neg q, if_neg (by omega)]
def U16 : String := "java/lang/StringUTF16"
namespace Cmp5
def yN : MethodName := ⟨"java/lang/StringUTF16", "compress", "([CI[BII)I"⟩
abbrev yB : ByteArray := jdk_52_method_21_code
theorem d0 : decode yB 0 = .ok (.iconst 0, 1) := by decide +kernel
theorem d1 : decode yB 1 = .ok (.istore 5, 2) := by decide +kernel
theorem d3 : decode yB 3 = .ok (.iload 5, 2) := by decide +kernel
theorem d5 : decode yB 5 = .ok (.iload 4, 2) := by decide +kernel
theorem d7 : decode yB 7 = .ok (.if_icmp (.ge) 37, 3) := by decide +kernel
theorem d10 : decode yB 10 = .ok (.aload_n 0, 1) := by decide +kernel
theorem d11 : decode yB 11 = .ok (.iload_n 1, 1) := by decide +kernel
theorem d12 : decode yB 12 = .ok (.caload, 1) := by decide +kernel
theorem d13 : decode yB 13 = .ok (.istore 6, 2) := by decide +kernel
theorem d15 : decode yB 15 = .ok (.iload 6, 2) := by decide +kernel
theorem d17 : decode yB 17 = .ok (.sipush 255, 3) := by decide +kernel
theorem d20 : decode yB 20 = .ok (.if_icmp (.le) 6, 3) := by decide +kernel
theorem d26 : decode yB 26 = .ok (.aload_n 2, 1) := by decide +kernel
theorem d27 : decode yB 27 = .ok (.iload_n 3, 1) := by decide +kernel
theorem d28 : decode yB 28 = .ok (.iload 6, 2) := by decide +kernel
theorem d30 : decode yB 30 = .ok (.i2b, 1) := by decide +kernel
theorem d31 : decode yB 31 = .ok (.bastore, 1) := by decide +kernel
theorem d32 : decode yB 32 = .ok (.iinc 1 1, 3) := by decide +kernel
theorem d35 : decode yB 35 = .ok (.iinc 3 1, 3) := by decide +kernel
theorem d38 : decode yB 38 = .ok (.iinc 5 1, 3) := by decide +kernel
theorem d41 : decode yB 41 = .ok (.goto (-38), 3) := by decide +kernel
theorem d44 : decode yB 44 = .ok (.iload 4, 2) := by decide +kernel
theorem d46 : decode yB 46 = .ok (.ireturn, 1) := by decide +kernel
def site : List Cond := []
def tab : Cond := tabOf yN yB 7 (some .int) site
def P (b : Addr) (A : Cell) (d : Addr) (B : Cell) (o q len : Nat) (args : Array Value) (s : State) : Prop := args = #[.ref b, .int (Int32.ofNat o), .ref d, .int (Int32.ofNat q), .int (Int32.ofNat len)] ∧ Ch b A s ∧ Arr .byte d B s ∧ b ≠ d ∧ o + len ≤ A.slots.size ∧ q + len ≤ B.slots.size ∧ ∀ i, i < len → ¬ 255 < cv A (o + i)
def E (b : Addr) (A : Cell) (d : Addr) (B : Cell) (o q len : Nat) (r : Option Value) (s u : State) : Prop := r = some (.int (Int32.ofNat len)) ∧ ∃ B', Put d B' s u ∧ Laid B B' q (q + len) (fun j => Value.int (lo8 (cv A (o + (j - q)))))
/-- no char of the range above 255: len; the places written hold each char's low byte -/
theorem law (l : Launch) (b : Addr) (A : Cell) (d : Addr) (B : Cell) (o q len : Nat) : Law l yN 5 5 0 0 yB 7 (some .int) site (P b A d B o q len) (E b A d B o q len) (copyLocs d q len) 0 0 := by
  refine Law.of_walk (plainFor_of_name (by decide +kernel)) (by decide +kernel) (by decide +kernel) (by decide) (fun _ _ h => by rw [h.1]; rfl) (fun _ U U' hal hh h => ⟨h.1, h.2.1.mv hal hh, h.2.2.1.mv hal hh, h.2.2.2⟩) (fun r U U' V V' h1 hal h2 h => ⟨h.1, h.2.elim fun B' q => ⟨B', q.1.mv h1 h2, q.2⟩⟩) ?_
  intro p e s m args below meth c s₁ X0 hexec hbytes hml hret hlk hnm hown hh0 W hP
  obtain ⟨rfl, hA, hB, hne, l1, l2, hp⟩ := hP
  have c1 : Steps p.tables e below (s₁.setTop (entryFrame m #[.ref b, .int (Int32.ofNat o), .ref d, .int (Int32.ofNat q), .int (Int32.ofNat len)] 7)) (s₁.setTop (mkF m 0 #[.val (.ref b), .val (.int (Int32.ofNat o)), .val (.ref d), .val (.int (Int32.ofNat q)), .val (.int (Int32.ofNat len)), .unset, .unset] [])) := entry rfl
  have hA0 := hA.1.mv X0.warmed.alike hh0
  have hB0 := hB.mv X0.warmed.alike hh0
  have a31 := hA.1.2.2.2
  have c2 : Steps p.tables e below (s₁.setTop (entryFrame m #[.ref b, .int (Int32.ofNat o), .ref d, .int (Int32.ofNat q), .int (Int32.ofNat len)] 7)) (s₁.setTop (mkF m 3 #[.val (.ref b), .val (.int (Int32.ofNat o)), .val (.ref d), .val (.int (Int32.ofNat q)), .val (.int (Int32.ofNat len)), .val (.int 0), .unset] [])) := c1.trans (by
    refine iconstV X0.here hexec rfl 0 (hb hbytes d0) (by decide) ?_
    refine XS.istore X0.here hexec rfl (hb hbytes d1) rfl rfl ?_
    exact Steps.refl _)
  have loop : ∀ (r i : Nat), i + r = len → ∀ (z : Slot), (z = .unset ∨ ∃ w, z = .val w ∧ w.category = 1) → ∀ (Tl : State) (Bk : Cell), Stand p l e { frames := 0, locals := 0, cells := 0, slots := 0 } s m #[.ref b, .int (Int32.ofNat o), .ref d, .int (Int32.ofNat q), .int (Int32.ofNat len)] below meth c Tl ([] ++ copyLocs d q i) 0 0 → Put d Bk s₁ Tl → Laid B Bk q (q + i) (fun j => Value.int (lo8 (cv A (o + (j - q))))) →
      Steps p.tables e below (s₁.setTop (entryFrame m #[.ref b, .int (Int32.ofNat o), .ref d, .int (Int32.ofNat q), .int (Int32.ofNat len)] 7)) (Tl.setTop (mkF m 3 #[.val (.ref b), .val (.int (Int32.ofNat (o + i))), .val (.ref d), .val (.int (Int32.ofNat (q + i))), .val (.int (Int32.ofNat len)), .val (.int (Int32.ofNat i)), z] [])) → ∃ (T' : State) (B' : Cell) (z' : Slot), Stand p l e { frames := 0, locals := 0, cells := 0, slots := 0 } s m #[.ref b, .int (Int32.ofNat o), .ref d, .int (Int32.ofNat q), .int (Int32.ofNat len)] below meth c T' ([] ++ copyLocs d q len) 0 0 ∧ Put d B' s₁ T' ∧ Laid B B' q (q + len) (fun j => Value.int (lo8 (cv A (o + (j - q))))) ∧
      Steps p.tables e below (s₁.setTop (entryFrame m #[.ref b, .int (Int32.ofNat o), .ref d, .int (Int32.ofNat q), .int (Int32.ofNat len)] 7)) (T'.setTop (mkF m 3 #[.val (.ref b), .val (.int (Int32.ofNat (o + len))), .val (.ref d), .val (.int (Int32.ofNat (q + len))), .val (.int (Int32.ofNat len)), .val (.int (Int32.ofNat len)), z'] [])) := by
    intro r
    induction r with
    | zero =>
      intro i hi z hz Tl Bk Xl pl fl cl
      have hil : i = len := by omega
      rw [hil] at Xl fl cl
      exact ⟨Tl, Bk, z, Xl, pl, fl, cl⟩
    | succ r ih =>
      intro i hi z hz Tl Bk Xl pl fl cl
      have all := X0.warmed.alike.symm.trans Xl.warmed.alike
      have hAl := hA0.keep all (pl.other hne hA0.1)
      have hBk := hB0.like all pl.1 fl.1 fl.2.1 fl.2.2.1
      have hlt : q + i < Bk.slots.size := by rw [fl.2.2.1]; omega
      have c3 : Steps p.tables e below (s₁.setTop (entryFrame m #[.ref b, .int (Int32.ofNat o), .ref d, .int (Int32.ofNat q), .int (Int32.ofNat len)] 7)) (Tl.setTop (mkF m 12 #[.val (.ref b), .val (.int (Int32.ofNat (o + i))), .val (.ref d), .val (.int (Int32.ofNat (q + i))), .val (.int (Int32.ofNat len)), .val (.int (Int32.ofNat i)), z] [.int (Int32.ofNat (o + i)), .ref b])) := cl.trans (by
        refine XS.iload Xl.here hexec rfl (hb hbytes d3) rfl ?_
        refine XS.iload Xl.here hexec rfl (hb hbytes d5) rfl ?_
        refine XS.icmpNo Xl.here hexec rfl (hb hbytes d7) rfl (ii_ge_f (lt32 (by omega) (by omega))) ?_
        refine XS.aloadN Xl.here hexec rfl (hb hbytes d10) rfl rfl ?_
        refine XS.iloadN Xl.here hexec rfl (hb hbytes d11) rfl ?_
        exact Steps.refl _)
      have c4 : Steps p.tables e below (s₁.setTop (entryFrame m #[.ref b, .int (Int32.ofNat o), .ref d, .int (Int32.ofNat q), .int (Int32.ofNat len)] 7)) (Tl.setTop (mkF m 13 #[.val (.ref b), .val (.int (Int32.ofNat (o + i))), .val (.ref d), .val (.int (Int32.ofNat (q + i))), .val (.int (Int32.ofNat len)), .val (.int (Int32.ofNat i)), z] [.int (cv A (o + i))])) := c3.trans (by
        refine Xl.aget hexec hAl rfl (hA.get (i := o + i) (by omega)) rfl rfl (hb hbytes d12) ?_
        exact Steps.refl _)
      have c5 : Steps p.tables e below (s₁.setTop (entryFrame m #[.ref b, .int (Int32.ofNat o), .ref d, .int (Int32.ofNat q), .int (Int32.ofNat len)] 7)) (Tl.setTop (mkF m 15 #[.val (.ref b), .val (.int (Int32.ofNat (o + i))), .val (.ref d), .val (.int (Int32.ofNat (q + i))), .val (.int (Int32.ofNat len)), .val (.int (Int32.ofNat i)), .val (.int (cv A (o + i)))] [])) := c4.trans (by
        refine XS.istoreS Xl.here hexec rfl (hb hbytes d13) rfl rfl hz ?_
        exact Steps.refl _)
      have c6 : Steps p.tables e below (s₁.setTop (entryFrame m #[.ref b, .int (Int32.ofNat o), .ref d, .int (Int32.ofNat q), .int (Int32.ofNat len)] 7)) (Tl.setTop (mkF m 31 #[.val (.ref b), .val (.int (Int32.ofNat (o + i))), .val (.ref d), .val (.int (Int32.ofNat (q + i))), .val (.int (Int32.ofNat len)), .val (.int (Int32.ofNat i)), .val (.int (cv A (o + i)))] [.int (lo8 (cv A (o + i))), .int (Int32.ofNat (q + i)), .ref d])) := c5.trans (by
        refine XS.iload Xl.here hexec rfl (hb hbytes d15) rfl ?_
        refine sipushV Xl.here hexec rfl 255 (hb hbytes d17) (by decide) ?_
        refine XS.icmpYes Xl.here hexec rfl (pc0 := 20) rfl (hb hbytes d20) rfl (ii_le_t (hp i (by omega))) (by decide) rfl ?_
        refine XS.aloadN Xl.here hexec rfl (hb hbytes d26) rfl rfl ?_
        refine XS.iloadN Xl.here hexec rfl (hb hbytes d27) rfl ?_
        refine XS.iload Xl.here hexec rfl (hb hbytes d28) rfl ?_
        refine i2b Xl.here hexec rfl (hb hbytes d30) rfl ?_
        exact Steps.refl _)
      obtain ⟨T7, X7, p7, st7⟩ := Xl.aput hexec hBk rfl hlt rfl (fits_lo8 (cv A (o + i))) (g := (mkF m 31 #[.val (.ref b), .val (.int (Int32.ofNat (o + i))), .val (.ref d), .val (.int (Int32.ofNat (q + i))), .val (.int (Int32.ofNat len)), .val (.int (Int32.ofNat i)), .val (.int (cv A (o + i)))] [.int (lo8 (cv A (o + i))), .int (Int32.ofNat (q + i)), .ref d])) rfl (rest := []) rfl (hb hbytes d31)
      have c8 : Steps p.tables e below (s₁.setTop (entryFrame m #[.ref b, .int (Int32.ofNat o), .ref d, .int (Int32.ofNat q), .int (Int32.ofNat len)] 7)) (T7.setTop (mkF m 32 #[.val (.ref b), .val (.int (Int32.ofNat (o + i))), .val (.ref d), .val (.int (Int32.ofNat (q + i))), .val (.int (Int32.ofNat len)), .val (.int (Int32.ofNat i)), .val (.int (cv A (o + i)))] [])) := c6.trans (st7 _ (Steps.refl _))
      have c9 : Steps p.tables e below (s₁.setTop (entryFrame m #[.ref b, .int (Int32.ofNat o), .ref d, .int (Int32.ofNat q), .int (Int32.ofNat len)] 7)) (T7.setTop (mkF m 3 #[.val (.ref b), .val (.int (Int32.ofNat (o + i) + 1)), .val (.ref d), .val (.int (Int32.ofNat (q + i) + 1)), .val (.int (Int32.ofNat len)), .val (.int (Int32.ofNat i + 1)), .val (.int (cv A (o + i)))] [])) := c8.trans (by
        refine iincV X7.here hexec rfl 1 (hb hbytes d32) (by decide) rfl rfl ?_
        refine iincV X7.here hexec rfl 1 (hb hbytes d35) (by decide) rfl rfl ?_
        refine iincV X7.here hexec rfl 1 (hb hbytes d38) (by decide) rfl rfl ?_
        refine XS.goto X7.here hexec rfl (pc0 := 41) rfl (hb hbytes d41) (by decide) rfl ?_
        exact Steps.refl _)
      have c10 : Steps p.tables e below (s₁.setTop (entryFrame m #[.ref b, .int (Int32.ofNat o), .ref d, .int (Int32.ofNat q), .int (Int32.ofNat len)] 7)) (T7.setTop (mkF m 3 #[.val (.ref b), .val (.int (Int32.ofNat (o + (i + 1)))), .val (.ref d), .val (.int (Int32.ofNat (q + (i + 1)))), .val (.int (Int32.ofNat len)), .val (.int (Int32.ofNat (i + 1))), .val (.int (cv A (o + i)))] [])) := by
        have := c9
        rw [succ32, succ32, succ32] at this
        exact this
      exact ih (i + 1) (by omega) _ (Or.inr ⟨_, rfl, rfl⟩) T7 _ (by rw [copyLocs_step, ← List.append_assoc]; exact X7) (pl.trans p7) (fl.step (by omega) hlt (by simp)) c10
  obtain ⟨T9, B9, z9, X9, p9, f9, g9⟩ := loop len 0 (by omega) .unset (Or.inl rfl) s₁ B (by simpa [copyLocs] using X0) ⟨hB0.1, fun _ _ => rfl, rfl⟩ (Laid.zero _ _ _) c2
  have c11 : Steps p.tables e below (s₁.setTop (entryFrame m #[.ref b, .int (Int32.ofNat o), .ref d, .int (Int32.ofNat q), .int (Int32.ofNat len)] 7)) (T9.setTop (mkF m 46 #[.val (.ref b), .val (.int (Int32.ofNat (o + len))), .val (.ref d), .val (.int (Int32.ofNat (q + len))), .val (.int (Int32.ofNat len)), .val (.int (Int32.ofNat len)), z9] [.int (Int32.ofNat len)])) := g9.trans (by
    refine XS.iload X9.here hexec rfl (hb hbytes d3) rfl ?_
    refine XS.iload X9.here hexec rfl (hb hbytes d5) rfl ?_
    refine XS.icmpYes X9.here hexec rfl (pc0 := 7) rfl (hb hbytes d7) rfl (ii_ge_t (nlt32 (by omega) (Nat.le_refl _))) (by decide) rfl ?_
    refine XS.iload X9.here hexec rfl (hb hbytes d44) rfl ?_
    exact Steps.refl _)
  exact ⟨T9, some (.int (Int32.ofNat len)), _, _, _, X9, by simp, rfl, rfl, (fun h => by cases h), ⟨rfl, B9, p9.from hh0, f9⟩, fun fs hl => c11.trans (X9.ireturnOut hexec hret rfl (Or.inl rfl) (hb hbytes d46) hl)⟩
end Cmp5
namespace Cmp3
def yN : MethodName := ⟨"java/lang/StringUTF16", "compress", "([CII)[B"⟩
abbrev yB : ByteArray := jdk_52_method_16_code
theorem d0 : decode yB 0 = .ok (.iload_n 2, 1) := by decide +kernel
theorem d1 : decode yB 1 = .ok (.newarray .byte, 2) := by decide +kernel
theorem d3 : decode yB 3 = .ok (.astore_n 3, 1) := by decide +kernel
theorem d4 : decode yB 4 = .ok (.aload_n 0, 1) := by decide +kernel
theorem d5 : decode yB 5 = .ok (.iload_n 1, 1) := by decide +kernel
theorem d6 : decode yB 6 = .ok (.aload_n 3, 1) := by decide +kernel
theorem d7 : decode yB 7 = .ok (.iconst 0, 1) := by decide +kernel
theorem d8 : decode yB 8 = .ok (.iload_n 2, 1) := by decide +kernel
theorem d9 : decode yB 9 = .ok (.invokestatic 115, 3) := by decide +kernel
theorem d12 : decode yB 12 = .ok (.istore 4, 2) := by decide +kernel
theorem d14 : decode yB 14 = .ok (.iload 4, 2) := by decide +kernel
theorem d16 : decode yB 16 = .ok (.iload_n 2, 1) := by decide +kernel
theorem d17 : decode yB 17 = .ok (.if_icmp (.eq) 40, 3) := by decide +kernel
theorem d57 : decode yB 57 = .ok (.aload_n 3, 1) := by decide +kernel
theorem d58 : decode yB 58 = .ok (.areturn, 1) := by decide +kernel
def site : List Cond := [.arrayClass .byte, Cmp5.tab] ++ staticW U16 115 Cmp5.yN
def tab : Cond := tabOf yN yB 6 (some (.array .byte)) site
def P (b : Addr) (A : Cell) (o len : Nat) (args : Array Value) (s : State) : Prop := args = #[.ref b, .int (Int32.ofNat o), .int (Int32.ofNat len)] ∧ Ch b A s ∧ o + len ≤ A.slots.size ∧ len ≤ 536870912 ∧ ∀ i, i < len → ¬ 255 < cv A (o + i)
def E (b : Addr) (A : Cell) (o len : Nat) (r : Option Value) (s u : State) : Prop := NewArr .byte "[B" len (fun j => .int (lo8 (cv A (o + j)))) r s u ∧ u.heap.size = s.heap.size + 1
/-- no char of the range above 255: a new byte[] of their low bytes -/
theorem law (l : Launch) (b : Addr) (A : Cell) (o len : Nat) : Law l yN 3 3 1 18 yB 6 (some (.array .byte)) site (P b A o len) (E b A o len) [] 1 len := by
  refine Law.of_walk (plainFor_of_name (by decide +kernel)) (by decide +kernel) (by decide +kernel) (by decide) (fun _ _ h => by rw [h.1]; rfl) (fun _ U U' hal hh h => ⟨h.1, h.2.1.mv hal hh, h.2.2⟩) (fun r U U' V V' h1 hal h2 h => ⟨NewArr.mv r U U' V V' h1 hal h2 h.1, by rw [h1, h2]; exact h.2⟩) ?_
  intro p e s m args below meth c s₁ X0 hexec hbytes hml hret hlk hnm hown hh0 W hP
  obtain ⟨rfl, hA, l1, l2, hp⟩ := hP
  have a31 := hA.1.2.2.2
  have c1 : Steps p.tables e below (s₁.setTop (entryFrame m #[.ref b, .int (Int32.ofNat o), .int (Int32.ofNat len)] 6)) (s₁.setTop (mkF m 0 #[.val (.ref b), .val (.int (Int32.ofNat o)), .val (.int (Int32.ofNat len)), .unset, .unset, .unset] [])) := entry rfl
  have c2 : Steps p.tables e below (s₁.setTop (entryFrame m #[.ref b, .int (Int32.ofNat o), .int (Int32.ofNat len)] 6)) (s₁.setTop (mkF m 1 #[.val (.ref b), .val (.int (Int32.ofNat o)), .val (.int (Int32.ofNat len)), .unset, .unset, .unset] [.int (Int32.ofNat len)])) := c1.trans (by
    refine XS.iloadN X0.here hexec rfl (hb hbytes d0) rfl ?_
    exact Steps.refl _)
  obtain ⟨T3, B3, X3, ba3, bs3, bv3, bh3, bf3, st3⟩ := X0.anew hexec (atype := .byte) (wk W (.arrayClass .byte)) rfl (by show len * 1 ≤ _; omega) (by omega) (g := (mkF m 1 #[.val (.ref b), .val (.int (Int32.ofNat o)), .val (.int (Int32.ofNat len)), .unset, .unset, .unset] [.int (Int32.ofNat len)])) rfl (hb hbytes d1) (rest := []) rfl (Nat.le_refl _) (by show 0 + len ≤ len; omega)
  rw [hh0] at ba3 st3
  have kp3 : XT.Kept s T3 := (XT.Kept.of_eq hh0).push bh3
  have hA3 := hA.keep X3.warmed.alike (kp3 _ _ hA.1.1)
  have hne : b ≠ s.heap.size := hA.1.ne
  have c4 : Steps p.tables e below (s₁.setTop (entryFrame m #[.ref b, .int (Int32.ofNat o), .int (Int32.ofNat len)] 6)) (T3.setTop (mkF m 3 #[.val (.ref b), .val (.int (Int32.ofNat o)), .val (.int (Int32.ofNat len)), .unset, .unset, .unset] [.ref s.heap.size])) := c2.trans (st3 _ (Steps.refl _))
  have c5 : Steps p.tables e below (s₁.setTop (entryFrame m #[.ref b, .int (Int32.ofNat o), .int (Int32.ofNat len)] 6)) (T3.setTop (mkF m 9 #[.val (.ref b), .val (.int (Int32.ofNat o)), .val (.int (Int32.ofNat len)), .val (.ref s.heap.size), .unset, .unset] [.int (Int32.ofNat len), .int 0, .ref s.heap.size, .int (Int32.ofNat o), .ref b])) := c4.trans (by
    refine XS.astoreN X3.here hexec rfl (hb hbytes d3) rfl rfl rfl ?_
    refine XS.aloadN X3.here hexec rfl (hb hbytes d4) rfl rfl ?_
    refine XS.iloadN X3.here hexec rfl (hb hbytes d5) rfl ?_
    refine XS.aloadN X3.here hexec rfl (hb hbytes d6) rfl rfl ?_
    refine iconstV X3.here hexec rfl 0 (hb hbytes d7) (by decide) ?_
    refine XS.iloadN X3.here hexec rfl (hb hbytes d8) rfl ?_
    exact Steps.refl _)
  obtain ⟨v6, T6, X6, E6, g6⟩ := X3.callS hexec (Cmp5.law l b A s.heap.size B3 o 0 len) hown (wks W (staticW U16 115 Cmp5.yN)) (wk W Cmp5.tab) (W := 0) (Nat.le_of_ble_eq_true rfl) (Nat.le_of_ble_eq_true rfl) (Nat.le_refl _) (by show 0 + len + 0 ≤ len; omega) (g := (mkF m 9 #[.val (.ref b), .val (.int (Int32.ofNat o)), .val (.int (Int32.ofNat len)), .val (.ref s.heap.size), .unset, .unset] [.int (Int32.ofNat len), .int (Int32.ofNat 0), .ref s.heap.size, .int (Int32.ofNat o), .ref b])) rfl (by rw [hml]; rfl) c5 (argsL := [.ref b, .int (Int32.ofNat o), .ref s.heap.size, .int (Int32.ofNat 0), .int (Int32.ofNat len)]) (rest := []) rfl rfl (by show 2 * 0 + 0 ≤ _; decide) (hb hbytes d9) (⟨rfl, hA3, ba3, hne, l1, by rw [bs3]; simp, hp⟩)
  obtain ⟨rfl, B6, p6, f6⟩ := E6
  have c7 : Steps p.tables e below (s₁.setTop (entryFrame m #[.ref b, .int (Int32.ofNat o), .int (Int32.ofNat len)] 6)) (T6.setTop (mkF m 12 #[.val (.ref b), .val (.int (Int32.ofNat o)), .val (.int (Int32.ofNat len)), .val (.ref s.heap.size), .unset, .unset] [.int (Int32.ofNat len)])) := g6
  have c8 : Steps p.tables e below (s₁.setTop (entryFrame m #[.ref b, .int (Int32.ofNat o), .int (Int32.ofNat len)] 6)) (T6.setTop (mkF m 58 #[.val (.ref b), .val (.int (Int32.ofNat o)), .val (.int (Int32.ofNat len)), .val (.ref s.heap.size), .val (.int (Int32.ofNat len)), .unset] [.ref s.heap.size])) := c7.trans (by
    refine XS.istore X6.here hexec rfl (hb hbytes d12) rfl rfl ?_
    refine XS.iload X6.here hexec rfl (hb hbytes d14) rfl ?_
    refine XS.iloadN X6.here hexec rfl (hb hbytes d16) rfl ?_
    refine XS.icmpYes X6.here hexec rfl (pc0 := 17) rfl (hb hbytes d17) rfl (ii_eq_t rfl) (by decide) rfl ?_
    refine XS.aloadN X6.here hexec rfl (hb hbytes d57) rfl rfl ?_
    exact Steps.refl _)
  have X8 := X6.wide (L' := []) (cells' := 1) (slots' := len) (fun x hx hlt => by
    simp only [List.nil_append, copyLocs, List.mem_map, List.mem_range] at hx
    obtain ⟨i, -, rfl⟩ := hx
    exact absurd hlt (Nat.lt_irrefl _)) (Nat.le_refl _) (by omega)
  exact ⟨T6, some (.ref s.heap.size), _, _, _, X8, rfl, rfl, rfl, (fun h => by cases h), ⟨⟨rfl, B6, ba3.like (X3.warmed.alike.symm.trans X6.warmed.alike) p6.1 f6.1 f6.2.1 f6.2.2.1, f6.2.1.trans bv3, by rw [X6.warmed.alike.findClass, f6.1]; exact bf3, by rw [f6.2.2.1, bs3]; simp, fun j hj => by rw [f6.2.2.2 j, if_pos (by omega)]; rfl, kp3.put p6 (Nat.le_refl _)⟩, by rw [p6.2.2, bh3, hh0]; simp⟩, fun fs hl => c8.trans (X8.areturnOut hexec rfl hret rfl (hb hbytes d58) hl)⟩
end Cmp3
namespace CodL
def yN : MethodName := ⟨"java/lang/StringUTF16", "coderFromArrayLen", "([BI)B"⟩
abbrev yB : ByteArray := jdk_52_method_15_code
theorem d0 : decode yB 0 = .ok (.iload_n 1, 1) := by decide +kernel
theorem d1 : decode yB 1 = .ok (.aload_n 0, 1) := by decide +kernel
theorem d2 : decode yB 2 = .ok (.arraylength, 1) := by decide +kernel
theorem d3 : decode yB 3 = .ok (.isub, 1) := by decide +kernel
theorem d4 : decode yB 4 = .ok (.bipush 31, 2) := by decide +kernel
theorem d6 : decode yB 6 = .ok (.iushr, 1) := by decide +kernel
theorem d7 : decode yB 7 = .ok (.i2b, 1) := by decide +kernel
theorem d8 : decode yB 8 = .ok (.ireturn, 1) := by decide +kernel
def site : List Cond := []
def tab : Cond := tabOf yN yB 2 (some .byte) site
def P (d : Addr) (B : Cell) (args : Array Value) (s : State) : Prop := args = #[.ref d, .int (Int32.ofNat B.slots.size)] ∧ Arr .byte d B s
def E (r : Option Value) (s u : State) : Prop := XT.PureE (some (.int 0)) r s u
/-- an array as long as the number of chars: LATIN1 -/
theorem law (l : Launch) (d : Addr) (B : Cell) : Law l yN 2 2 0 0 yB 2 (some .byte) site (P d B) E [] 0 0 := by
  refine Law.of_walk (plainFor_of_name (by decide +kernel)) (by decide +kernel) (by decide +kernel) (by decide) (fun _ _ h => by rw [h.1]; rfl) (fun _ U U' hal hh h => ⟨h.1, h.2.mv hal hh⟩) (fun r U U' V V' h1 hal h2 h => XT.PureE.mv r U U' V V' h1 hal h2 h) ?_
  intro p e s m args below meth c s₁ X0 hexec hbytes hml hret hlk hnm hown hh0 W hP
  obtain ⟨rfl, hB⟩ := hP
  have hB0 := hB.mv X0.warmed.alike hh0
  have c1 : Steps p.tables e below (s₁.setTop (entryFrame m #[.ref d, .int (Int32.ofNat B.slots.size)] 2)) (s₁.setTop (mkF m 0 #[.val (.ref d), .val (.int (Int32.ofNat B.slots.size))] [])) := entry rfl
  have c2 : Steps p.tables e below (s₁.setTop (entryFrame m #[.ref d, .int (Int32.ofNat B.slots.size)] 2)) (s₁.setTop (mkF m 2 #[.val (.ref d), .val (.int (Int32.ofNat B.slots.size))] [.ref d, .int (Int32.ofNat B.slots.size)])) := c1.trans (by
    refine XS.iloadN X0.here hexec rfl (hb hbytes d0) rfl ?_
    refine XS.aloadN X0.here hexec rfl (hb hbytes d1) rfl rfl ?_
    exact Steps.refl _)
  have c3 : Steps p.tables e below (s₁.setTop (entryFrame m #[.ref d, .int (Int32.ofNat B.slots.size)] 2)) (s₁.setTop (mkF m 8 #[.val (.ref d), .val (.int (Int32.ofNat B.slots.size))] [.int (lo8 (ushr (Int32.ofNat B.slots.size - Int32.ofNat B.slots.size) 31))])) := c2.trans (by
    refine X0.alen hexec hB0 rfl rfl (hb hbytes d2) ?_
    refine XS.isub X0.here hexec rfl (hb hbytes d3) rfl ?_
    refine bipushV X0.here hexec rfl 31 (hb hbytes d4) (by decide) ?_
    refine iushr X0.here hexec rfl (hb hbytes d6) rfl ?_
    refine i2b X0.here hexec rfl (hb hbytes d7) rfl ?_
    exact Steps.refl _)
  have e0 : lo8 (ushr (Int32.ofNat B.slots.size - Int32.ofNat B.slots.size) 31) = 0 := by rw [Int32.sub_self]; decide
  rw [e0] at c3
  exact ⟨s₁, some (.int 0), _, _, _, X0, rfl, rfl, rfl, (fun h => by cases h), ⟨rfl, hh0⟩, fun fs hl => c3.trans (X0.ireturnOut hexec hret rfl (Or.inr (Or.inr (Or.inl rfl))) (hb hbytes d8) hl)⟩
end CodL
/-- the String at a is Latin-1 over a new byte[] (the heap's one new cell): the low bytes of the len chars of A from o on; every cell but a is kept -/
def Got (a : Addr) (D : Cell) (fV fC : Field) (A : Cell) (o len : Nat) (r : Option Value) (s u : State) : Prop := r = none ∧ ∃ D' V : Cell, Blank "java/lang/String" a D' u ∧ Same D D' [fV.slot, fC.slot] ∧ D'.slots[fV.slot]? = some (.ref s.heap.size) ∧ D'.slots[fC.slot]? = some (.int 0) ∧ Arr .byte s.heap.size V u ∧ V.vm = .none ∧ u.vm.findClass "[B" = some V.cls ∧ V.slots.size = len ∧ (∀ j, j < len → V.slots[j]? = some (.int (lo8 (cv A (o + j))))) ∧ (∀ (y : Addr) (c : Cell), y ≠ a → s.heap[y]? = some c → u.heap[y]? = some c) ∧ u.heap.size = s.heap.size + 1
theorem Got.mv {a : Addr} {D A : Cell} {fV fC : Field} {o len : Nat} : ∀ r (U U' V V' : State), U'.heap = U.heap → V.vm.Alike V'.vm → V'.heap = V.heap → Got a D fV fC A o len r U V → Got a D fV fC A o len r U' V' :=
  fun r U U' V V' h1 hal h2 ⟨e0, D', X, a1, a2, a3, a4, a5, a6, a7, a8, a9, a10, a11⟩ => ⟨e0, D', X, a1.mv hal h2, a2, by rw [h1]; exact a3, a4, by rw [h1]; exact a5.mv hal h2, a6, by rw [hal.findClass]; exact a7, a8, a9, by rw [h1, h2]; exact a10, by rw [h1, h2]; exact a11⟩
namespace New4
def yN : MethodName := ⟨"java/lang/String", "<init>", "([CIILjava/lang/Void;)V"⟩
abbrev yB : ByteArray := jdk_42_method_149_code
theorem d0 : decode yB 0 = .ok (.aload_n 0, 1) := by decide +kernel
theorem d1 : decode yB 1 = .ok (.invokespecial 1, 3) := by decide +kernel
theorem d4 : decode yB 4 = .ok (.iload_n 3, 1) := by decide +kernel
theorem d5 : decode yB 5 = .ok (.ifCond (.ne) 22, 3) := by decide +kernel
theorem d27 : decode yB 27 = .ok (.getstatic 38, 3) := by decide +kernel
theorem d30 : decode yB 30 = .ok (.ifCond (.eq) 28, 3) := by decide +kernel
theorem d33 : decode yB 33 = .ok (.aload_n 1, 1) := by decide +kernel
theorem d34 : decode yB 34 = .ok (.iload_n 2, 1) := by decide +kernel
theorem d35 : decode yB 35 = .ok (.iload_n 3, 1) := by decide +kernel
theorem d36 : decode yB 36 = .ok (.invokestatic 177, 3) := by decide +kernel
theorem d39 : decode yB 39 = .ok (.astore 5, 2) := by decide +kernel
theorem d41 : decode yB 41 = .ok (.aload_n 0, 1) := by decide +kernel
theorem d42 : decode yB 42 = .ok (.aload 5, 2) := by decide +kernel
theorem d44 : decode yB 44 = .ok (.iload_n 3, 1) := by decide +kernel
theorem d45 : decode yB 45 = .ok (.invokestatic 47, 3) := by decide +kernel
theorem d48 : decode yB 48 = .ok (.putfield 15, 3) := by decide +kernel
theorem d51 : decode yB 51 = .ok (.aload_n 0, 1) := by decide +kernel
theorem d52 : decode yB 52 = .ok (.aload 5, 2) := by decide +kernel
theorem d54 : decode yB 54 = .ok (.putfield 9, 3) := by decide +kernel
theorem d57 : decode yB 57 = .ok (.return_, 1) := by decide +kernel
def site : List Cond := [.fieldLink "java/lang/String" 38 "java/lang/String" "COMPACT_STRINGS" "Z", Cmp3.tab, CodL.tab, .laysFinal "java/lang/String" "java/lang/String" "value" "[B", .fieldLink "java/lang/String" 9 "java/lang/String" "value" "[B", .laysFinal "java/lang/String" "java/lang/String" "coder" "B", .fieldLink "java/lang/String" 15 "java/lang/String" "coder" "B"] ++ objW "java/lang/String" 1 ++ staticW "java/lang/String" 177 Cmp3.yN ++ staticW "java/lang/String" 47 CodL.yN
def tab : Cond := tabOf yN yB 6 none site
def P (a : Addr) (D : Cell) (fV fC : Field) (b : Addr) (A : Cell) (z : Int32) (o len : Nat) (args : Array Value) (s : State) : Prop := args = #[.ref a, .ref b, .int (Int32.ofNat o), .int (Int32.ofNat len), .null] ∧ Blank "java/lang/String" a D s ∧ Found "java/lang/String" "value" "[B" fV s ∧ Found "java/lang/String" "coder" "B" fC s ∧ Ch b A s ∧ StaticIs s "java/lang/String" "COMPACT_STRINGS" "Z" (.int z) ∧ ¬ z = 0 ∧ 0 < len ∧ o + len ≤ A.slots.size ∧ len ≤ 536870912 ∧ ∀ i, i < len → ¬ 255 < cv A (o + i)
def E (a : Addr) (D : Cell) (fV fC : Field) (A : Cell) (o len : Nat) (r : Option Value) (s u : State) : Prop := Got a D fV fC A o len r s u
/-- len > 0, no char of the range above 255: a Latin-1 String of their low bytes -/
theorem law (l : Launch) (a : Addr) (D : Cell) (fV fC : Field) (b : Addr) (A : Cell) (z : Int32) (o len : Nat) : Law l yN 5 4 2 35 yB 6 none site (P a D fV fC b A z o len) (E a D fV fC A o len) [⟨a, fC.slot⟩, ⟨a, fV.slot⟩] 1 len := by
  refine Law.of_walk (plainFor_of_name (by decide +kernel)) (by decide +kernel) (by decide +kernel) (by decide) (fun _ _ h => by rw [h.1]; rfl) (fun _ U U' hal hh h => ⟨h.1, h.2.1.mv hal hh, h.2.2.1.al hal, h.2.2.2.1.al hal, h.2.2.2.2.1.mv hal hh, h.2.2.2.2.2.1.there hal hh, h.2.2.2.2.2.2⟩) (fun r U U' V V' h1 hal h2 h => Got.mv r U U' V V' h1 hal h2 h) ?_
  intro p e s m args below meth c s₁ X0 hexec hbytes hml hret hlk hnm hown hh0 W hP
  obtain ⟨rfl, hB, f1, f2, hA, s1, hz, l0, l1, l2, hp⟩ := hP
  have a31 := hA.1.2.2.2
  have c1 : Steps p.tables e below (s₁.setTop (entryFrame m #[.ref a, .ref b, .int (Int32.ofNat o), .int (Int32.ofNat len), .null] 6)) (s₁.setTop (mkF m 0 #[.val (.ref a), .val (.ref b), .val (.int (Int32.ofNat o)), .val (.int (Int32.ofNat len)), .val .null, .unset] [])) := entry rfl
  have c2 : Steps p.tables e below (s₁.setTop (entryFrame m #[.ref a, .ref b, .int (Int32.ofNat o), .int (Int32.ofNat len), .null] 6)) (s₁.setTop (mkF m 1 #[.val (.ref a), .val (.ref b), .val (.int (Int32.ofNat o)), .val (.int (Int32.ofNat len)), .val .null, .unset] [.ref a])) := c1.trans (by
    refine XS.aloadN X0.here hexec rfl (hb hbytes d0) rfl rfl ?_
    exact Steps.refl _)
  obtain ⟨T3, X3, q3, st3⟩ := X0.oinit hexec hown (wks W (objW "java/lang/String" 1)) (g := (mkF m 1 #[.val (.ref a), .val (.ref b), .val (.int (Int32.ofNat o)), .val (.int (Int32.ofNat len)), .val .null, .unset] [.ref a])) rfl (by rw [hml]; rfl) (rest := []) rfl (hb hbytes d1) (W := 0) (by show 2 * 0 + 0 ≤ _; decide) (Nat.le_of_ble_eq_true rfl) (Nat.le_of_ble_eq_true rfl)
  have hh3 := q3.trans hh0
  have c4 : Steps p.tables e below (s₁.setTop (entryFrame m #[.ref a, .ref b, .int (Int32.ofNat o), .int (Int32.ofNat len), .null] 6)) (T3.setTop (mkF m 27 #[.val (.ref a), .val (.ref b), .val (.int (Int32.ofNat o)), .val (.int (Int32.ofNat len)), .val .null, .unset] [])) := (c2.trans (st3 _ (Steps.refl _))).trans (by
    refine XS.iloadN X3.here hexec rfl (hb hbytes d4) rfl ?_
    refine XS.ifYes X3.here hexec rfl (pc0 := 5) rfl (hb hbytes d5) rfl (i0_ne_t (nz32 (by omega) l0)) (by decide) rfl ?_
    exact Steps.refl _)
  obtain ⟨T5, X5, q5, st5⟩ := X3.sget hexec hown (wk W (.fieldLink "java/lang/String" 38 "java/lang/String" "COMPACT_STRINGS" "Z")) s1 (fun _ _ h => by rw [hh3]; exact h) (g := (mkF m 27 #[.val (.ref a), .val (.ref b), .val (.int (Int32.ofNat o)), .val (.int (Int32.ofNat len)), .val .null, .unset] [])) rfl (hb hbytes d27)
  have hh5 := q5.trans hh3
  have c6 : Steps p.tables e below (s₁.setTop (entryFrame m #[.ref a, .ref b, .int (Int32.ofNat o), .int (Int32.ofNat len), .null] 6)) (T5.setTop (mkF m 30 #[.val (.ref a), .val (.ref b), .val (.int (Int32.ofNat o)), .val (.int (Int32.ofNat len)), .val .null, .unset] [.int z])) := c4.trans (st5 _ (Steps.refl _))
  have c7 : Steps p.tables e below (s₁.setTop (entryFrame m #[.ref a, .ref b, .int (Int32.ofNat o), .int (Int32.ofNat len), .null] 6)) (T5.setTop (mkF m 36 #[.val (.ref a), .val (.ref b), .val (.int (Int32.ofNat o)), .val (.int (Int32.ofNat len)), .val .null, .unset] [.int (Int32.ofNat len), .int (Int32.ofNat o), .ref b])) := c6.trans (by
    refine XS.ifNo X5.here hexec rfl (hb hbytes d30) rfl (i0_eq_f hz) ?_
    refine XS.aloadN X5.here hexec rfl (hb hbytes d33) rfl rfl ?_
    refine XS.iloadN X5.here hexec rfl (hb hbytes d34) rfl ?_
    refine XS.iloadN X5.here hexec rfl (hb hbytes d35) rfl ?_
    exact Steps.refl _)
  obtain ⟨v8, T8, X8, E8, g8⟩ := X5.callS hexec (Cmp3.law l b A o len) hown (wks W (staticW "java/lang/String" 177 Cmp3.yN)) (wk W Cmp3.tab) (W := 0) (Nat.le_of_ble_eq_true rfl) (Nat.le_of_ble_eq_true rfl) (Nat.le_refl _) (by show 0 + len ≤ len; omega) (g := (mkF m 36 #[.val (.ref a), .val (.ref b), .val (.int (Int32.ofNat o)), .val (.int (Int32.ofNat len)), .val .null, .unset] [.int (Int32.ofNat len), .int (Int32.ofNat o), .ref b])) rfl (by rw [hml]; rfl) c7 (argsL := [.ref b, .int (Int32.ofNat o), .int (Int32.ofNat len)]) (rest := []) rfl rfl (by show 2 * 0 + 0 ≤ _; decide) (hb hbytes d36) (⟨rfl, hA.mv X5.warmed.alike hh5, l1, l2, hp⟩)
  obtain ⟨e8, z8⟩ := E8
  obtain ⟨rfl, N, n1, n2, n3, n4, n5, n6⟩ := NewArr.mv _ T5 s _ _ hh5.symm (Vm.Alike.refl _) rfl e8
  rw [hh5] at z8
  have hB1 := hB.keep X8.warmed.alike (n6 _ _ hB.1)
  have hne : s.heap.size ≠ a := (Nat.ne_of_lt (Array.getElem?_eq_some_iff.mp hB.1).1).symm
  have c9 : Steps p.tables e below (s₁.setTop (entryFrame m #[.ref a, .ref b, .int (Int32.ofNat o), .int (Int32.ofNat len), .null] 6)) (T8.setTop (mkF m 39 #[.val (.ref a), .val (.ref b), .val (.int (Int32.ofNat o)), .val (.int (Int32.ofNat len)), .val .null, .unset] [.ref s.heap.size])) := g8
  have c10 : Steps p.tables e below (s₁.setTop (entryFrame m #[.ref a, .ref b, .int (Int32.ofNat o), .int (Int32.ofNat len), .null] 6)) (T8.setTop (mkF m 45 #[.val (.ref a), .val (.ref b), .val (.int (Int32.ofNat o)), .val (.int (Int32.ofNat len)), .val .null, .val (.ref s.heap.size)] [.int (Int32.ofNat N.slots.size), .ref s.heap.size, .ref a])) := by
    have hc : Steps p.tables e below (s₁.setTop (entryFrame m #[.ref a, .ref b, .int (Int32.ofNat o), .int (Int32.ofNat len), .null] 6)) (T8.setTop (mkF m 45 #[.val (.ref a), .val (.ref b), .val (.int (Int32.ofNat o)), .val (.int (Int32.ofNat len)), .val .null, .val (.ref s.heap.size)] [.int (Int32.ofNat len), .ref s.heap.size, .ref a])) := c9.trans (by
      refine XS.astore X8.here hexec rfl (hb hbytes d39) rfl rfl rfl ?_
      refine XS.aloadN X8.here hexec rfl (hb hbytes d41) rfl rfl ?_
      refine XS.aload X8.here hexec rfl (hb hbytes d42) rfl rfl ?_
      refine XS.iloadN X8.here hexec rfl (hb hbytes d44) rfl ?_
      exact Steps.refl _)
    rw [n4]; exact hc
  obtain ⟨v11, T11, X11, E11, g11⟩ := X8.callS hexec (CodL.law l s.heap.size N) hown (wks W (staticW "java/lang/String" 47 CodL.yN)) (wk W CodL.tab) (W := 1) (Nat.le_of_ble_eq_true rfl) (Nat.le_of_ble_eq_true rfl) (Nat.le_refl _) (by show 0 + len + 0 ≤ len; omega) (g := (mkF m 45 #[.val (.ref a), .val (.ref b), .val (.int (Int32.ofNat o)), .val (.int (Int32.ofNat len)), .val .null, .val (.ref s.heap.size)] [.int (Int32.ofNat N.slots.size), .ref s.heap.size, .ref a])) rfl (by rw [hml]; rfl) c10 (argsL := [.ref s.heap.size, .int (Int32.ofNat N.slots.size)]) (rest := [.ref a]) rfl rfl (by show 2 * 0 + (1 + 0) ≤ _; decide) (hb hbytes d45) (⟨rfl, n1⟩)
  obtain ⟨rfl, q11⟩ := E11
  have hB11 := hB1.mv (X8.warmed.alike.symm.trans X11.warmed.alike) q11
  have c12 : Steps p.tables e below (s₁.setTop (entryFrame m #[.ref a, .ref b, .int (Int32.ofNat o), .int (Int32.ofNat len), .null] 6)) (T11.setTop (mkF m 48 #[.val (.ref a), .val (.ref b), .val (.int (Int32.ofNat o)), .val (.int (Int32.ofNat len)), .val .null, .val (.ref s.heap.size)] [.int 0, .ref a])) := g11
  obtain ⟨T13, X13, p13, bl13, sl13, st13⟩ := X11.finit hexec hown (wk W (.fieldLink "java/lang/String" 15 "java/lang/String" "coder" "B")) (Or.inr ⟨_, (wk W (.laysFinal "java/lang/String" "java/lang/String" "coder" "B"))⟩) (Or.inl ⟨rfl, hnm⟩) f2 (Or.inl rfl) hB11 (t := .byte) (by decide +kernel) rfl (g := (mkF m 48 #[.val (.ref a), .val (.ref b), .val (.int (Int32.ofNat o)), .val (.int (Int32.ofNat len)), .val .null, .val (.ref s.heap.size)] [.int 0, .ref a])) rfl (rest := []) rfl (hb hbytes d48)
  have c14 : Steps p.tables e below (s₁.setTop (entryFrame m #[.ref a, .ref b, .int (Int32.ofNat o), .int (Int32.ofNat len), .null] 6)) (T13.setTop (mkF m 54 #[.val (.ref a), .val (.ref b), .val (.int (Int32.ofNat o)), .val (.int (Int32.ofNat len)), .val .null, .val (.ref s.heap.size)] [.ref s.heap.size, .ref a])) := (c12.trans (st13 _ (Steps.refl _))).trans (by
    refine XS.aloadN X13.here hexec rfl (hb hbytes d51) rfl rfl ?_
    refine XS.aload X13.here hexec rfl (hb hbytes d52) rfl rfl ?_
    exact Steps.refl _)
  obtain ⟨T15, X15, p15, bl15, sl15, st15⟩ := X13.finit hexec hown (wk W (.fieldLink "java/lang/String" 9 "java/lang/String" "value" "[B")) (Or.inr ⟨_, (wk W (.laysFinal "java/lang/String" "java/lang/String" "value" "[B"))⟩) (Or.inl ⟨rfl, hnm⟩) f1 (Or.inl rfl) bl13 (t := (.array .byte)) (by decide +kernel) rfl (g := (mkF m 54 #[.val (.ref a), .val (.ref b), .val (.int (Int32.ofNat o)), .val (.int (Int32.ofNat len)), .val .null, .val (.ref s.heap.size)] [.ref s.heap.size, .ref a])) rfl (rest := []) rfl (hb hbytes d54)
  have c16 : Steps p.tables e below (s₁.setTop (entryFrame m #[.ref a, .ref b, .int (Int32.ofNat o), .int (Int32.ofNat len), .null] 6)) (T15.setTop (mkF m 57 #[.val (.ref a), .val (.ref b), .val (.int (Int32.ofNat o)), .val (.int (Int32.ofNat len)), .val .null, .val (.ref s.heap.size)] [])) := c14.trans (st15 _ (Steps.refl _))
  have ap := apart (Or.inr ⟨_, (wk W (.laysFinal "java/lang/String" "java/lang/String" "value" "[B"))⟩) (Or.inr ⟨_, (wk W (.laysFinal "java/lang/String" "java/lang/String" "coder" "B"))⟩) f1 f2 (t₁ := .array .byte) (t₂ := .byte) (by decide +kernel) (by decide +kernel) (by decide)
  have al := X8.warmed.alike.symm.trans X15.warmed.alike
  have n7 : T11.heap[s.heap.size]? = some N := by rw [q11]; exact n1.1
  exact ⟨T15, none, _, _, _, X15, by simp, rfl, by omega, (fun _ => rfl), ⟨rfl, _, N, bl15, ((Same.refl D _).set _ (by simp)).set _ (by simp), sl15, (Cell.slots_setSlot_ne _ ap).trans sl13, n1.keep al (p15.other hne (p13.other hne n7)), n2, by rw [al.findClass]; exact n3, n4, n5, fun y c h1 h2 => p15.other h1 (p13.other h1 (by rw [q11]; exact n6 y c h2)), by rw [p15.2.2, p13.2.2, q11]; exact z8⟩, fun fs hl => c16.trans (X15.returnOut hexec hret (hb hbytes d57) hl)⟩
end New4
namespace New1
def yN : MethodName := ⟨"java/lang/String", "<init>", "([C)V"⟩
abbrev yB : ByteArray := jdk_42_method_3_code
theorem d0 : decode yB 0 = .ok (.aload_n 0, 1) := by decide +kernel
theorem d1 : decode yB 1 = .ok (.aload_n 1, 1) := by decide +kernel
theorem d2 : decode yB 2 = .ok (.iconst 0, 1) := by decide +kernel
theorem d3 : decode yB 3 = .ok (.aload_n 1, 1) := by decide +kernel
theorem d4 : decode yB 4 = .ok (.arraylength, 1) := by decide +kernel
theorem d5 : decode yB 5 = .ok (.aconst_null, 1) := by decide +kernel
theorem d6 : decode yB 6 = .ok (.invokespecial 27, 3) := by decide +kernel
theorem d9 : decode yB 9 = .ok (.return_, 1) := by decide +kernel
def site : List Cond := [New4.tab] ++ initW "java/lang/String" 27 New4.yN
def tab : Cond := tabOf yN yB 2 none site
def P (a : Addr) (D : Cell) (fV fC : Field) (b : Addr) (A : Cell) (z : Int32) (args : Array Value) (s : State) : Prop := args = #[.ref a, .ref b] ∧ Blank "java/lang/String" a D s ∧ Found "java/lang/String" "value" "[B" fV s ∧ Found "java/lang/String" "coder" "B" fC s ∧ Ch b A s ∧ StaticIs s "java/lang/String" "COMPACT_STRINGS" "Z" (.int z) ∧ ¬ z = 0 ∧ 0 < A.slots.size ∧ A.slots.size ≤ 536870912 ∧ ∀ i, i < A.slots.size → ¬ 255 < cv A i
def E (a : Addr) (D : Cell) (fV fC : Field) (A : Cell) (r : Option Value) (s u : State) : Prop := Got a D fV fC A 0 A.slots.size r s u
/-- new String(chars), not empty, no char above 255: a Latin-1 String of their low bytes -/
theorem law (l : Launch) (a : Addr) (D : Cell) (fV fC : Field) (b : Addr) (A : Cell) (z : Int32) : Law l yN 2 1 3 52 yB 2 none site (P a D fV fC b A z) (E a D fV fC A) [⟨a, fC.slot⟩, ⟨a, fV.slot⟩] 1 A.slots.size := by
  refine Law.of_walk (plainFor_of_name (by decide +kernel)) (by decide +kernel) (by decide +kernel) (by decide) (fun _ _ h => by rw [h.1]; rfl) (fun _ U U' hal hh h => ⟨h.1, h.2.1.mv hal hh, h.2.2.1.al hal, h.2.2.2.1.al hal, h.2.2.2.2.1.mv hal hh, h.2.2.2.2.2.1.there hal hh, h.2.2.2.2.2.2⟩) (fun r U U' V V' h1 hal h2 h => Got.mv r U U' V V' h1 hal h2 h) ?_
  intro p e s m args below meth c s₁ X0 hexec hbytes hml hret hlk hnm hown hh0 W hP
  obtain ⟨rfl, hB, f1, f2, hA, s1, hz, l0, l2, hp⟩ := hP
  have c1 : Steps p.tables e below (s₁.setTop (entryFrame m #[.ref a, .ref b] 2)) (s₁.setTop (mkF m 0 #[.val (.ref a), .val (.ref b)] [])) := entry rfl
  have c2 : Steps p.tables e below (s₁.setTop (entryFrame m #[.ref a, .ref b] 2)) (s₁.setTop (mkF m 6 #[.val (.ref a), .val (.ref b)] [.null, .int (Int32.ofNat A.slots.size), .int 0, .ref b, .ref a])) := c1.trans (by
    refine XS.aloadN X0.here hexec rfl (hb hbytes d0) rfl rfl ?_
    refine XS.aloadN X0.here hexec rfl (hb hbytes d1) rfl rfl ?_
    refine iconstV X0.here hexec rfl 0 (hb hbytes d2) (by decide) ?_
    refine XS.aloadN X0.here hexec rfl (hb hbytes d3) rfl rfl ?_
    refine X0.alen hexec (hA.1.mv X0.warmed.alike hh0) rfl rfl (hb hbytes d4) ?_
    refine XS.aconstNull X0.here hexec rfl (hb hbytes d5) ?_
    exact Steps.refl _)
  obtain ⟨v3, T3, X3, E3, g3⟩ := X0.callN hexec (New4.law l a D fV fC b A z 0 A.slots.size) rfl hown (wks W (initW "java/lang/String" 27 New4.yN)) (W New4.tab (by simp only [site, List.mem_cons, List.mem_append, true_or, or_true])) (W := 0) (Nat.le_of_ble_eq_true rfl) (Nat.le_of_ble_eq_true rfl) (Nat.le_refl _) (by show 0 + A.slots.size ≤ A.slots.size; omega) (g := (mkF m 6 #[.val (.ref a), .val (.ref b)] [.null, .int (Int32.ofNat A.slots.size), .int (Int32.ofNat 0), .ref b, .ref a])) rfl (by rw [hml]; rfl) c2 (argsL := [.ref b, .int (Int32.ofNat 0), .int (Int32.ofNat A.slots.size), .null]) (rest := []) rfl rfl (by show 2 * 0 + 0 ≤ _; decide) (hb hbytes d6) (⟨rfl, hB.mv X0.warmed.alike hh0, f1.al X0.warmed.alike, f2.al X0.warmed.alike, hA.mv X0.warmed.alike hh0, s1.there X0.warmed.alike hh0, hz, l0, by omega, l2, fun i hi => by rw [Nat.zero_add]; exact hp i hi⟩)
  have e0 := Got.mv _ s₁ s _ _ hh0.symm (Vm.Alike.refl _) rfl E3
  obtain rfl := e0.1
  have c4 : Steps p.tables e below (s₁.setTop (entryFrame m #[.ref a, .ref b] 2)) (T3.setTop (mkF m 9 #[.val (.ref a), .val (.ref b)] [])) := g3
  exact ⟨T3, none, _, _, _, X3, by simp, rfl, by omega, (fun _ => rfl), e0, fun fs hl => c4.trans (X3.returnOut hexec hret (hb hbytes d9) hl)⟩
theorem pays {l : Launch} {R : Room} {p : Program} {e : Env} {below : List Frame} {s : State} {sargs : Array Value} {len W : Nat} (a : Addr) (D : Cell) (fV fC : Field) (b : Addr) (A : Cell) (z : Int32) (htab : tab.before sargs s = true) (hfr : 4 ≤ R.frames) (hlo : W + 65 ≤ R.locals) :
    Back l R p e below s sargs yN len W (fun A₁ a₁ => A₁.cells + 1 ≤ R.cells ∧ A₁.slots + A.slots.size ≤ R.slots ∧ P a D fV fC b A z a₁ A₁.U) (fun A₁ _ v₁ B₁ => E a D fV fC A v₁ A₁.U B₁.U ∧ B₁.locs = A₁.locs ++ [⟨a, fC.slot⟩, ⟨a, fV.slot⟩] ∧ B₁.cells = A₁.cells + 1 ∧ B₁.slots = A₁.slots + A.slots.size) :=
  (law l a D fV fC b A z).pays htab hfr (by omega)
end New1
/-- the byte, read back as charAt reads it, is the char -/
theorem lo8_mask {x : Int32} (h0 : ¬ x < 0) (h1 : ¬ 255 < x) : lo8 x &&& 255 = x := by
  have t : ∀ k : Fin 256, lo8 (Int32.ofNat k.val) &&& 255 = Int32.ofNat k.val := by decide +kernel
  rw [Int32.lt_iff_toInt_lt] at h0 h1
  have e0 : (0 : Int32).toInt = 0 := rfl
  have e1 : (255 : Int32).toInt = 255 := rfl
  obtain ⟨k, hk⟩ : ∃ k : Nat, x.toInt = k := ⟨x.toInt.toNat, by omega⟩
  have hx : x = Int32.ofNat k := Int32.toInt_inj.mp (by rw [hk, Int32.toInt_ofNat_small (by omega)])
  rw [hx]
  exact t ⟨k, by omega⟩
end StrChars
namespace StrChars.Road
open Jvm Sem ClassFile Op Lib Jvm.Stand Jvm.Free Jvm.Free.XT
open Jvm.Lib.Cold (StaticIs)
abbrev ST : String := "java/lang/String"
/-- every table word that New1's law asks, flat -/
abbrev words : List Jvm.Cond := [.code New1.yN New1.yB 2 none, .initialized ST, .methodLink ST 27 New4.yN, .instanceMethod New4.yN,
  .code New4.yN New4.yB 6 none, .fieldLink ST 38 ST "COMPACT_STRINGS" "Z", .laysFinal ST ST "value" "[B", .fieldLink ST 9 ST "value" "[B", .laysFinal ST ST "coder" "B", .fieldLink ST 15 ST "coder" "B",
  .methodLink ST 1 Lib.objectInit, .instanceMethod Lib.objectInit, .code Lib.objectInit ⟨#[0xb1]⟩ 1 none, .methodLink ST 177 Cmp3.yN, .static Cmp3.yN, .methodLink ST 47 CodL.yN, .static CodL.yN,
  .code Cmp3.yN Cmp3.yB 6 (some (.array .byte)), .initialized U16, .arrayClass .byte, .methodLink U16 115 Cmp5.yN, .static Cmp5.yN, .code Cmp5.yN Cmp5.yB 7 (some .int), .code CodL.yN CodL.yB 2 (some .byte)]
theorem tab_of {a : Array Value} {s : State} (h : ∀ w ∈ words, w.before a s = true) : New1.tab.before a s = true := by
  have h5 : Cmp5.tab.before a s = true := unparts (wk h (.code Cmp5.yN Cmp5.yB 7 (some .int))) (wks h (.initialized Cmp5.yN.cls :: Cmp5.site))
  have hc : CodL.tab.before a s = true := unparts (wk h (.code CodL.yN CodL.yB 2 (some .byte))) (wks h (.initialized CodL.yN.cls :: CodL.site))
  have q5 : ∀ w ∈ Cmp5.tab :: words, w.before a s = true := fun w hw => (List.mem_cons.mp hw).elim (fun e => e ▸ h5) (h w)
  have h3 : Cmp3.tab.before a s = true := unparts (wk q5 (.code Cmp3.yN Cmp3.yB 6 (some (.array .byte)))) (wks q5 (.initialized Cmp3.yN.cls :: Cmp3.site))
  have q3 : ∀ w ∈ Cmp3.tab :: CodL.tab :: words, w.before a s = true := fun w hw => (List.mem_cons.mp hw).elim (fun e => e ▸ h3) fun hw => (List.mem_cons.mp hw).elim (fun e => e ▸ hc) (h w)
  have h4 : New4.tab.before a s = true := unparts (wk q3 (.code New4.yN New4.yB 6 none)) (wks q3 (.initialized New4.yN.cls :: New4.site))
  have q4 : ∀ w ∈ New4.tab :: words, w.before a s = true := fun w hw => (List.mem_cons.mp hw).elim (fun e => e ▸ h4) (h w)
  exact unparts (wk q4 (.code New1.yN New1.yB 2 none)) (wks q4 (.initialized New1.yN.cls :: New1.site))
/-- the words ride from the start Z to the walk's own state -/
theorem moved {Z s : State} {a0 args : Array Value} (hZ : Z.Warmed39 s.vm) (hw : ∀ d ∈ words, d.before a0 Z = true) : ∀ d ∈ words, d.before args s = true := fun d hd => by
  have q := hw d hd
  have t : ∀ d ∈ words, d = .arrayClass .byte ∨ (d.onTables && d.keepsFace) = true := by decide +kernel
  rcases t d hd with rfl | t
  · exact RoadKit.mvA hZ q
  · exact RoadKit.mv hZ q t
/-- WHAT COMES BACK, over the tables of the start Z: h the heap at the call, h' behind it -/
def Q (Z : State) (x : Addr) (A : Cell) (h : Heap) (v : Option Value) (h' : Heap) (L : List Loc) : Prop := v = none ∧ (∀ y ∈ L, y.base = x) ∧ RoadKit.Keep h h' [x] ∧ h'.size = h.size + 1 ∧ RoadKit.Exa Z h' x ST ∧ RoadKit.Fld Z h' x ST "value" "[B" (.ref h.size) ∧ RoadKit.Fld Z h' x ST "coder" "B" (.int 0) ∧
  (∃ V : Cell, RoadKit.Arr Z h' h.size V .byte ∧ V.vm = .none ∧ Z.vm.findClass "[B" = some V.cls ∧ V.slots.size = A.slots.size ∧ ∀ j, j < A.slots.size → V.slots[j]? = some (.int (lo8 (cv A j)))) ∧
  ∀ (O n d : String) (w : Value), RoadKit.Fld Z h x O n d w → RoadKit.slotOf Z O n d ≠ RoadKit.slotOf Z ST "value" "[B" → RoadKit.slotOf Z O n d ≠ RoadKit.slotOf Z ST "coder" "B" → RoadKit.Fld Z h' x O n d w
/-- **new String(chars) AT A CALL, IN THE ROAD'S FORM**: for specialBack behind newO: x the fresh String, b the char[] with the cell A -/
theorem back {p : Program} {l : Launch} {e : Env} {R : Room} {s : State} {args : Array Value} {below : List Frame} {len W : Nat} {Z : State} {a0 : Array Value} {h : Heap} (hZ : Z.Warmed39 s.vm) (hw : ∀ d ∈ words, d.before a0 Z = true) {kI : Nat} (wi : (Jvm.Cond.instantiable ST kI).before a0 Z = true)
    {x b : Addr} {A : Cell} {z : Int32} {v0 c0 : Value} (E : RoadKit.Exa Z h x ST) (V : RoadKit.Fld Z h x ST "value" "[B" v0) (C : RoadKit.Fld Z h x ST "coder" "B" c0) (K : RoadKit.Arr Z h b A .char) (hty : Typed .char A) (S : RoadKit.Sta Z h ST "COMPACT_STRINGS" "Z" (.int z)) (hz : ¬ z = 0)
    (l0 : 0 < A.slots.size) (l2 : A.slots.size ≤ 536870912) (hp : ∀ i, i < A.slots.size → ¬ 255 < cv A i) (hfr : 4 ≤ R.frames) (hlo : W + 65 ≤ R.locals) :
    Back l R p e below s args New1.yN len W (fun P a => a = #[.ref x, .ref b] ∧ P.U.heap = h ∧ P.cells + 1 ≤ R.cells ∧ P.slots + A.slots.size ≤ R.slots)
      (fun P _ v B => ∃ L, Q Z x A h v B.U.heap L ∧ B.locs = P.locs ++ L ∧ B.cells = P.cells + 1 ∧ B.slots = P.slots + A.slots.size) := by
  intro m meth c P g ig mk a X hg hsize hdg hW hn hp'
  obtain ⟨rfl, rfl, r1, r2⟩ := hp'
  have al : Z.vm.Alike P.U.vm := hZ.alike.trans X.warmed.alike
  obtain ⟨D, cfV, kV, iV, fV, hD, gV, stV, knV, obV, asV, slV⟩ := id V
  obtain ⟨D', cfC, kC, iC, fC, hD', gC, stC, -, -, asC, slC⟩ := id C
  cases hD.symm.trans hD'
  obtain ⟨D2, kD, e1, e2, e3, e4, e5⟩ := id E
  cases hD.symm.trans e1
  obtain ⟨c2, k2, i1, i2, i3, -⟩ := Cond.instantiable_spec wi
  cases e2.symm.trans i1
  cases e3.symm.trans i2
  obtain ⟨kU, u1, u2⟩ := al.2.2 _ _ e3
  have hB : Blank ST x D P.U := ⟨hD, ⟨knV, fun q hq => by rw [hq] at obV; cases obV⟩, by rw [al.findClass]; exact e2, kU, u1, by rw [u2]; exact i3, by rw [u2]; exact e5 i3⟩
  have F1 : Found ST "value" "[B" fV P.U := ⟨SBG.found_only al ⟨cfV, kV, iV, gV⟩, stV⟩
  have F2 : Found ST "coder" "B" fC P.U := ⟨SBG.found_only al ⟨cfC, kC, iC, gC⟩, stC⟩
  have hA : Ch b A P.U := ⟨⟨K.1, State.isArrayOf_alike al K.2.1, K.2.2, by omega⟩, hty⟩
  have hS : StaticIs P.U ST "COMPACT_STRINGS" "Z" (.int z) := by
    obtain ⟨cfS, iS, kS, fS, st, cS, t1, t2, t3, t4, t5, t6, t7⟩ := S
    exact StaticIs.there (s := { Z with heap := P.U.heap }) ⟨cfS, iS, kS, fS, st, cS, t1, t2, t3, t4, t5, (fun q => by rw [q] at t6; cases t6), t7⟩ al rfl
  obtain ⟨v, B, X', ⟨⟨hv, E', V', q1, q2, q3, q4, q5, q6, q7, q8, q9, q10, q11⟩, hl, hc, hs⟩, st⟩ := New1.pays x D fV fC b A z (tab_of (moved hZ hw)) hfr hlo m meth c P g ig mk _ X hg hsize hdg hW hn ⟨r1, r2, rfl, hB, F1, F2, hA, hS, hz, l0, l2, hp⟩
  have al' : Z.vm.Alike B.U.vm := hZ.alike.trans X'.warmed.alike
  have hsz : E'.slots.size = D.slots.size := by
    obtain ⟨-, -, -, kB, w1, w2, w3⟩ := q1
    obtain ⟨kB', y1, y2⟩ := al'.2.2 _ _ e3
    rw [q2.2.1] at w1
    cases w1.symm.trans y1
    rw [w3, e5 i3, y2]
  refine ⟨v, B, X', ⟨_, ⟨hv, ?_, ⟨by omega, fun y cy hy hn' => q10 y cy (by simpa using hn') hy, fun y cy hy => ?_⟩, q11, ⟨E', _, q1.1, by rw [q2.2.1]; exact e2, by rw [q2.2.1]; exact e3, by rw [q2.1]; exact obV, fun _ => by rw [hsz]; exact e5 i3⟩,
    ⟨E', cfV, kV, iV, fV, q1.1, gV, stV, by rw [q2.1]; exact knV, by rw [q2.1]; exact obV, by rw [q2.2.1]; exact asV, q3⟩, ⟨E', cfC, kC, iC, fC, q1.1, gC, stC, by rw [q2.1]; exact knV, by rw [q2.1]; exact obV, by rw [q2.2.1]; exact asC, q4⟩,
    ⟨V', ⟨q5.1, State.isArrayOf_alike al'.symm q5.2.1, q5.2.2.1⟩, q6, by rw [← al'.findClass]; exact q7, q8, fun j hj => by have := q9 j hj; rwa [Nat.zero_add] at this⟩, fun O n d w F n1 n2 => ?_⟩, hl, hc, hs⟩, st⟩
  · intro y hy
    simp only [List.mem_cons, List.not_mem_nil, or_false] at hy
    rcases hy with rfl | rfl <;> rfl
  · by_cases q : y = x
    · subst q
      cases hD.symm.trans hy
      exact ⟨E', q1.1, q2.2.1, q2.1, hsz⟩
    · exact ⟨cy, q10 y cy q hy, rfl, rfl, rfl⟩
  · obtain ⟨D3, cf, k, i, f, g1, g2, g3, g4, g5, g6, g7⟩ := F
    cases hD.symm.trans g1
    simp only [RoadKit.slotOf, g2, gV, gC, Option.map_some, Option.getD_some] at n1 n2
    exact ⟨E', cf, k, i, f, q1.1, g2, g3, by rw [q2.1]; exact g4, by rw [q2.1]; exact g5, by rw [q2.2.1]; exact g6, by rw [q2.2.2 f.slot (by simp [n1, n2])]; exact g7⟩
end StrChars.Road
namespace StrChars.Road
open Jvm Sem ClassFile Op Lib Jvm.Stand Jvm.Free Jvm.Free.XT
/-- WHAT COMES BACK, the byte[] as a list of values -/
def QA (Z : State) (x : Addr) (zn : Int32) (cs : List Int32) (h : Heap) (v : Option Value) (h' : Heap) (L : List Loc) : Prop := v = none ∧ (∀ y ∈ L, y.base = x) ∧ RoadKit.Keep h h' [x] ∧ h'.size = h.size + 1 ∧ RoadKit.Exa Z h' x ST ∧ RoadKit.Fld Z h' x ST "value" "[B" (.ref h.size) ∧ RoadKit.Fld Z h' x ST "coder" "B" (.int 0) ∧
  (∃ kb, Z.vm.findClass "[B" = some kb ∧ RoadKit.Arv Z h' h.size kb .byte zn (cs.map fun c => .int (lo8 c)) (.int 0)) ∧
  ∀ (O n d : String) (w : Value), RoadKit.Fld Z h x O n d w → RoadKit.slotOf Z O n d ≠ RoadKit.slotOf Z ST "value" "[B" → RoadKit.slotOf Z O n d ≠ RoadKit.slotOf Z ST "coder" "B" → RoadKit.Fld Z h' x O n d w
/-- **new String(chars) AT A CALL, THE ARRAYS AS LISTS**: the char[] at b holds cs, not empty, no char above 255 -/
theorem backArv {p : Program} {l : Launch} {e : Env} {R : Room} {s : State} {args : Array Value} {below : List Frame} {len W : Nat} {Z : State} {a0 : Array Value} {h : Heap} (hZ : Z.Warmed39 s.vm) (hw : ∀ d ∈ words, d.before a0 Z = true) {kI : Nat} (wi : (Jvm.Cond.instantiable ST kI).before a0 Z = true)
    {x b : Addr} {k : ClassId} {zn z : Int32} {cs : List Int32} {dv v0 c0 : Value} (E : RoadKit.Exa Z h x ST) (V : RoadKit.Fld Z h x ST "value" "[B" v0) (C : RoadKit.Fld Z h x ST "coder" "B" c0) (K : RoadKit.Arv Z h b k .char zn (cs.map Value.int) dv) (S : RoadKit.Sta Z h ST "COMPACT_STRINGS" "Z" (.int z)) (hz : ¬ z = 0)
    (hlen : zn.toNatClampNeg = cs.length) (h0 : 0 < cs.length) (hbig : cs.length ≤ 536870912) (hall : ∀ c ∈ cs, ¬ 255 < c) (hfr : 4 ≤ R.frames) (hlo : W + 65 ≤ R.locals) :
    Back l R p e below s args New1.yN len W (fun P a => a = #[.ref x, .ref b] ∧ P.U.heap = h ∧ P.cells + 1 ≤ R.cells ∧ P.slots + cs.length ≤ R.slots)
      (fun P _ v B => ∃ L, QA Z x zn cs h v B.U.heap L ∧ B.locs = P.locs ++ L ∧ B.cells = P.cells + 1 ∧ B.slots = P.slots + cs.length) := by
  obtain ⟨A, K1, K2, K3, K4, K5, K6⟩ := K
  have e : A.slots.size = cs.length := K3.trans hlen
  have hat : ∀ (i : Nat) (hi : i < cs.length), A.slots[i]? = some (.int cs[i]) := fun i hi => by rw [K5 i (by omega)]; simp [List.getD_eq_getElem?_getD, hi]
  have hcv : ∀ (i : Nat) (hi : i < cs.length), cv A i = cs[i] := fun i hi => by unfold cv; rw [hat i hi]
  have hty : Typed .char A := fun i v hv => by
    have hi : i < A.slots.size := (Array.getElem?_eq_some_iff.mp hv).1
    have q := K5 i hi
    rw [hv] at q
    rw [Option.some.inj q]
    exact K6 i hi
  refine Back.mono (back hZ hw wi E V C K1 hty S hz (by omega) (by omega) (fun i hi => by rw [hcv i (by omega)]; exact hall _ (List.getElem_mem _)) hfr hlo) (fun P a hp => ⟨hp.1, hp.2.1, hp.2.2.1, by rw [e]; exact hp.2.2.2⟩) (fun P a v B hp hq => ?_)
  obtain ⟨L, ⟨q1, q2, q3, q4, q5, q6, q7, ⟨V', v1, v2, v3, v4, v5⟩, q9⟩, hl, hc, hs⟩ := hq
  refine ⟨L, ⟨q1, q2, q3, q4, q5, q6, q7, ⟨V'.cls, v3, V', v1, rfl, by rw [v4, e, hlen], K4, fun i hi => ?_, fun i hi => ?_⟩, q9⟩, hl, hc, by rw [hs, e]⟩
  · have hi' : i < cs.length := by omega
    rw [v5 i (by omega), hcv i hi']; simp [List.getD_eq_getElem?_getD, hi']
  · have hi' : i < cs.length := by omega
    simp only [List.getD_eq_getElem?_getD, List.getElem?_map, List.getElem?_eq_getElem hi', Option.map_some, Option.getD_some]
    exact fits_lo8 _
end StrChars.Road
namespace StrChars.Road
open Jvm Sem ClassFile Op Lib Jvm.Stand Jvm.Free Jvm.Free.XT
/-- WHAT COMES BACK, in the writer's own shape -/
def QV (Z : State) (x : Addr) (N : Int32) (bs : List Int32) (h : Heap) (n0 : Nat) (v : Option Value) (h' : Heap) (L : List Loc) : Prop := v = none ∧ RoadKit.Fr n0 L ∧ RoadKit.Keep h h' [x] ∧ RoadKit.Exa Z h' x ST ∧ RoadKit.Fld Z h' x ST "coder" "B" (.int 0) ∧
  ∃ (t : Addr) (kb : ClassId), n0 ≤ t ∧ h.size ≤ t ∧ ¬ t = x ∧ RoadKit.Fld Z h' x ST "value" "[B" (.ref t) ∧ RoadKit.Arv Z h' t kb .byte N (bs.map Value.int) (.int 0)
/-- **new String(chars) AT A CALL, FOR THE WRITER**: a char[] of n known ints, each 0 to 255 -/
theorem backV {p : Program} {l : Launch} {e : Env} {R : Room} {s : State} {args : Array Value} {below : List Frame} {len W : Nat} {Z : State} {a0 : Array Value} {h : Heap} (hZ : Z.Warmed39 s.vm) (hw : ∀ d ∈ words, d.before a0 Z = true) {kI : Nat} (wi : (Jvm.Cond.instantiable ST kI).before a0 Z = true)
    {x b : Addr} {kC : ClassId} {cs bs : List Int32} {d v0 c0 : Value} {z N : Int32} {n n0 : Nat} (hx0 : n0 ≤ x) (hh0 : n0 ≤ h.size) (E : RoadKit.Exa Z h x ST) (V : RoadKit.Fld Z h x ST "value" "[B" v0) (C : RoadKit.Fld Z h x ST "coder" "B" c0) (K : RoadKit.Arv Z h b kC .char N (cs.map Value.int) d) (S : RoadKit.Sta Z h ST "COMPACT_STRINGS" "Z" (.int z)) (hz : ¬ z = 0)
    (hn : cs.length = n) (hN : N = Int32.ofNat n) (l0 : 0 < n) (l2 : n ≤ 4000) (hp : ∀ c ∈ cs, ¬ c < 0 ∧ ¬ (255 : Int32) < c) (hb : bs = cs.map (fun c => c.toInt8.toInt32)) (hfr : 4 ≤ R.frames) (hlo : W + 65 ≤ R.locals) :
    Back l R p e below s args (⟨"java/lang/String", "<init>", "([C)V"⟩ : MethodName) len W (fun P a => a = #[.ref x, .ref b] ∧ P.U.heap = h ∧ P.cells + 1 ≤ R.cells ∧ P.slots + n ≤ R.slots)
      (fun P _ v B => ∃ L, QV Z x N bs h n0 v B.U.heap L ∧ B.locs = P.locs ++ L ∧ B.cells = P.cells + 1 ∧ B.slots = P.slots + n) := by
  subst hn hN hb
  refine Back.mono (backArv hZ hw wi E V C K S hz (n32 (by omega)) l0 (by omega) (fun c hc => (hp c hc).2) hfr hlo) (fun P a hp => hp) (fun P a v B hp hq => ?_)
  obtain ⟨L, ⟨q1, q2, q3, q4, q5, q6, q7, ⟨kb, v1, v2⟩, q9⟩, hl, hc, hs⟩ := hq
  exact ⟨L, ⟨q1, fun y hy => by rw [q2 y hy]; exact hx0, q3, q5, q7, h.size, kb, hh0, Nat.le_refl _, Nat.ne_of_gt E.lt, q6, by rw [List.map_map]; exact v2⟩, hl, hc, hs⟩
end StrChars.Road
namespace StrChars
open Jvm Sem ClassFile Op Lib Jvm.Stand Jvm.Free.XT Jvm.Free.ALB Jvm.Free.JM Jvm.Free
open Jvm.Lib.Cold (StaticIs)
def hi8 (x : Int32) : Int32 := lo8 (x >>> ((8 : Int32) &&& 31))
/-- what StringUTF16.getChar makes of two bytes -/
def pairCh (u v : Int32) : Int32 := (((u &&& 255) <<< ((0 : Int32) &&& 31)) ||| ((v &&& 255) <<< ((8 : Int32) &&& 31))).toUInt32.toUInt16.toUInt32.toInt32
theorem lo8_and (x : Int32) : (lo8 x &&& 255).toBitVec.toNat = x.toBitVec.toNat % 256 := by
  have h : (lo8 x).toBitVec = (x.toBitVec.signExtend 8).signExtend 32 := by rw [lo8, Int8.toBitVec_toInt32, Int32.toBitVec_toInt8]
  rw [Int32.toBitVec_and, BitVec.toNat_and, h]
  have e : ((x.toBitVec.signExtend 8).signExtend 32).toNat % 256 = x.toBitVec.toNat % 256 := by
    rw [BitVec.toNat_signExtend]
    have hlt := x.toBitVec.isLt
    simp only [BitVec.toNat_setWidth, BitVec.toNat_signExtend]
    split <;> split <;> omega
  rw [← e]
  exact Nat.and_two_pow_sub_one_eq_mod _ 8
theorem pair_says {c : Int32} (h0 : ¬ c < 0) (h1 : ¬ 65535 < c) : pairCh (lo8 c) (hi8 c) = c := by
  rw [Int32.lt_iff_toInt_lt] at h0 h1
  have e0 : (0 : Int32).toInt = 0 := rfl
  have e1 : (65535 : Int32).toInt = 65535 := rfl
  have hc : c.toInt = c.toBitVec.toNat := by
    have := c.toBitVec.isLt
    have e : c.toInt = c.toBitVec.toInt := rfl
    rw [e] at h0 h1
    rw [e]
    rw [BitVec.toInt_eq_toNat_cond] at h0 h1 ⊢
    split at h0 <;> split <;> omega
  have hn : c.toBitVec.toNat < 65536 := by omega
  have a1 := lo8_and c
  have a2 : (hi8 c &&& 255).toBitVec.toNat = c.toBitVec.toNat / 256 := by
    rw [hi8, lo8_and]
    have e : ((8 : Int32) &&& 31) = 8 := by decide
    rw [e, Int32.toBitVec_shiftRight]
    have e2 : ((8 : Int32).toBitVec.smod 32) = 8#32 := by decide
    rw [e2, BitVec.sshiftRight_eq', BitVec.toNat_sshiftRight_of_msb_false (by rw [BitVec.msb_eq_false_iff_two_mul_lt]; omega)]
    show c.toBitVec.toNat >>> 8 % 256 = _
    rw [Nat.shiftRight_eq_div_pow]
    omega
  unfold pairCh
  apply Int32.toBitVec_inj.mp
  apply BitVec.eq_of_toNat_eq
  have f0 : ((0 : Int32) &&& 31) = 0 := by decide
  have f8 : ((8 : Int32) &&& 31) = 8 := by decide
  rw [f0, f8]
  have g : (((lo8 c &&& 255) <<< (0 : Int32)) ||| ((hi8 c &&& 255) <<< (8 : Int32))).toBitVec.toNat = c.toBitVec.toNat := by
    rw [Int32.toBitVec_or, Int32.toBitVec_shiftLeft, Int32.toBitVec_shiftLeft]
    have s0 : ((0 : Int32).toBitVec.smod 32) = 0#32 := by decide
    have s8 : ((8 : Int32).toBitVec.smod 32) = 8#32 := by decide
    rw [s0, s8, BitVec.toNat_or]
    simp only [BitVec.shiftLeft_eq', BitVec.toNat_shiftLeft, a1, a2]
    show (c.toBitVec.toNat % 256) <<< 0 % 2 ^ 32 ||| (c.toBitVec.toNat / 256) <<< 8 % 2 ^ 32 = _
    rw [Nat.shiftLeft_zero, Nat.mod_eq_of_lt (show c.toBitVec.toNat % 256 < 2 ^ 32 by omega), Nat.mod_eq_of_lt (show (c.toBitVec.toNat / 256) <<< 8 < 2 ^ 32 by rw [Nat.shiftLeft_eq]; omega), Nat.or_comm, ← Nat.shiftLeft_add_eq_or_of_lt (by omega), Nat.shiftLeft_eq]
    omega
  show BitVec.toNat (((((lo8 c &&& 255) <<< (0 : Int32)) ||| ((hi8 c &&& 255) <<< (8 : Int32))).toBitVec.setWidth 16).setWidth 32) = _
  rw [BitVec.toNat_setWidth, BitVec.toNat_setWidth, g]
  omega
end StrChars
namespace StrChars
open Jvm Sem ClassFile Op Lib Jvm.Stand Jvm.Free.XT Jvm.Free.ALB Jvm.Free.JM Jvm.Free
open Jvm.Lib.Cold (StaticIs)
/-- the array's cell V codes the n chars f 0 .. f (n - 1) by the coder cd, as the JDK does: coder 1 just where some char is above 255 -/
def Cod (cd : Int32) (n : Nat) (f : Nat → Int32) (V : Cell) : Prop := (cd = 0 ∧ V.slots.size = n ∧ ∀ j, j < n → V.slots[j]? = some (.int (lo8 (f j))) ∧ ¬ 255 < f j) ∨ (cd = 1 ∧ V.slots.size = 2 * n ∧ (∀ j, j < n → V.slots[2 * j]? = some (.int (lo8 (f j))) ∧ V.slots[2 * j + 1]? = some (.int (hi8 (f j)))) ∧ ∃ j, j < n ∧ 255 < f j)
/-- **x is a String of the n chars f 0 .. f (n - 1)**, Latin-1 or UTF-16; its array at t has the cell V -/
def Txt (x t : Addr) (V : Cell) (cd : Int32) (n : Nat) (f : Nat → Int32) (U : State) : Prop := Exact "java/lang/String" x U ∧ Has x "java/lang/String" "value" "[B" (.ref t) U ∧ Has x "java/lang/String" "coder" "B" (.int cd) U ∧ XT.Arr .byte t V U ∧ Cod cd n f V ∧ ∀ j, j < n → ¬ f j < 0 ∧ ¬ 65535 < f j
theorem Txt.mv {x t : Addr} {V : Cell} {cd : Int32} {n : Nat} {f : Nat → Int32} {U U' : State} (h : Txt x t V cd n f U) (hal : U.vm.Alike U'.vm) (hh : U'.heap = U.heap) : Txt x t V cd n f U' := ⟨h.1.mv hal hh, h.2.1.mv hal hh, h.2.2.1.mv hal hh, h.2.2.2.1.mv hal hh, h.2.2.2.2⟩
end StrChars
namespace StrChars.Road
open Jvm Sem ClassFile Op Lib Jvm.Stand Jvm.Free Jvm.Free.XT
open Jvm.Lib.Cold (StaticIs)
theorem consq {a : Array Value} {s : State} {c : Jvm.Cond} {L : List Jvm.Cond} (h0 : c.before a s = true) (h : ∀ w ∈ L, w.before a s = true) : ∀ w ∈ c :: L, w.before a s = true := fun w hw => (List.mem_cons.mp hw).elim (fun e => e ▸ h0) (h w)
/-- the bytes of the chars cs, low before high -/
def wideBytes : List Int32 → List Value
  | [] => []
  | c :: cs => .int (lo8 c) :: .int (hi8 c) :: wideBytes cs
theorem wide_lo (d : Value) : ∀ (cs : List Int32) (j : Nat), j < cs.length → (wideBytes cs).getD (2 * j) d = .int (lo8 (cs.getD j 0))
  | [], j, h => absurd h (Nat.not_lt_zero j)
  | c :: cs, 0, _ => rfl
  | c :: cs, j + 1, h => by
    have q := wide_lo d cs j (by simpa using h)
    rw [show 2 * (j + 1) = 2 * j + 1 + 1 from by omega]
    simpa [wideBytes] using q
theorem wide_hi (d : Value) : ∀ (cs : List Int32) (j : Nat), j < cs.length → (wideBytes cs).getD (2 * j + 1) d = .int (hi8 (cs.getD j 0))
  | [], j, h => absurd h (Nat.not_lt_zero j)
  | c :: cs, 0, _ => rfl
  | c :: cs, j + 1, h => by
    have q := wide_hi d cs j (by simpa using h)
    rw [show 2 * (j + 1) + 1 = 2 * j + 1 + 1 + 1 from by omega]
    simpa [wideBytes] using q
theorem low_at (d : Value) (cs : List Int32) (j : Nat) (h : j < cs.length) : (cs.map fun c => Value.int (lo8 c)).getD j d = .int (lo8 (cs.getD j 0)) := by
  simp [List.getD_eq_getElem?_getD, h]
/-- an array of N2 bytes vs codes the chars cs by the coder cd -/
def CodA (cs : List Int32) (cd N2 : Int32) (vs : List Value) : Prop := (cd = 0 ∧ N2 = Int32.ofNat cs.length ∧ vs = (cs.map fun c => Value.int (lo8 c)) ∧ ∀ c ∈ cs, ¬ 255 < c) ∨ (cd = 1 ∧ N2 = Int32.ofNat (2 * cs.length) ∧ vs = wideBytes cs ∧ ∃ c ∈ cs, 255 < c)
theorem CodA.cod {cs : List Int32} {cd N2 : Int32} {vs : List Value} {V : Cell} (h : CodA cs cd N2 vs) (hn : 2 * cs.length < 2 ^ 31) (hs : V.slots.size = N2.toNatClampNeg) (hv : RoadKit.Has V vs (.int 0)) : Cod cd cs.length (fun j => cs.getD j 0) V := by
  rcases h with ⟨rfl, rfl, rfl, h⟩ | ⟨rfl, rfl, rfl, c, hc, hw⟩
  · rw [n32 (by omega)] at hs
    exact Or.inl ⟨rfl, hs, fun j hj => ⟨by rw [hv j (by omega), low_at _ _ _ hj], by
      have e : cs.getD j 0 = cs[j] := by simp [List.getD_eq_getElem?_getD, hj]
      show ¬ 255 < cs.getD j 0
      rw [e]; exact h _ (List.getElem_mem _)⟩⟩
  · rw [n32 (by omega)] at hs
    obtain ⟨j, hj, rfl⟩ := List.getElem_of_mem hc
    exact Or.inr ⟨rfl, hs, fun j hj => ⟨by rw [hv _ (by omega), wide_lo _ _ _ hj], by rw [hv _ (by omega), wide_hi _ _ _ hj]⟩, j, hj, by
      have e : cs.getD j 0 = cs[j] := by simp [List.getD_eq_getElem?_getD, hj]
      show 255 < cs.getD j 0
      rw [e]; exact hw⟩
/-- an object of exactly java/lang/String, its two fields found: as the laws ask it -/
theorem strObj {Z U : State} {a0 : Array Value} {kI : Nat} (wi : (Jvm.Cond.instantiable ST kI).before a0 Z = true) (al : Z.vm.Alike U.vm) {x : Addr} {v0 c0 : Value} (E : RoadKit.Exa Z U.heap x ST) (V : RoadKit.Fld Z U.heap x ST "value" "[B" v0) (C : RoadKit.Fld Z U.heap x ST "coder" "B" c0) :
    ∃ (D : Cell) (fV fC : Field), Blank ST x D U ∧ Found ST "value" "[B" fV U ∧ Found ST "coder" "B" fC U ∧ D.slots[fV.slot]? = some v0 ∧ D.slots[fC.slot]? = some c0 ∧ RoadKit.slotOf Z ST "value" "[B" = fV.slot ∧ RoadKit.slotOf Z ST "coder" "B" = fC.slot := by
  obtain ⟨D, cfV, kV, iV, fV, hD, gV, stV, knV, obV, asV, slV⟩ := V
  obtain ⟨D', cfC, kC, iC, fC, hD', gC, stC, -, -, asC, slC⟩ := C
  cases hD.symm.trans hD'
  obtain ⟨D2, kD, e1, e2, e3, e4, e5⟩ := E
  cases hD.symm.trans e1
  obtain ⟨c2, k2, i1, i2, i3, -⟩ := Cond.instantiable_spec wi
  cases e2.symm.trans i1
  cases e3.symm.trans i2
  obtain ⟨kU, u1, u2⟩ := al.2.2 _ _ e3
  exact ⟨D, fV, fC, ⟨hD, ⟨knV, fun q hq => by rw [hq] at obV; cases obV⟩, by rw [al.findClass]; exact e2, kU, u1, by rw [u2]; exact i3, by rw [u2]; exact e5 i3⟩, ⟨SBG.found_only al ⟨cfV, kV, iV, gV⟩, stV⟩, ⟨SBG.found_only al ⟨cfC, kC, iC, gC⟩, stC⟩, slV, slC, by simp [RoadKit.slotOf, gV], by simp [RoadKit.slotOf, gC]⟩
theorem sta_is {Z U : State} (al : Z.vm.Alike U.vm) {C n d : String} {v : Value} (S : RoadKit.Sta Z U.heap C n d v) : StaticIs U C n d v := by
  obtain ⟨cfS, iS, kS, fS, st, cS, t1, t2, t3, t4, t5, t6, t7⟩ := S
  exact StaticIs.there (s := { Z with heap := U.heap }) ⟨cfS, iS, kS, fS, st, cS, t1, t2, t3, t4, t5, (fun q => by rw [q] at t6; cases t6), t7⟩ al rfl
end StrChars.Road
namespace StrChars
open Jvm Sem ClassFile Op Lib Jvm.Stand Jvm.Free.XT Jvm.Free.ALB Jvm.Free.JM Jvm.Free
open Jvm.Lib.Cold (StaticIs)
/-- what place i of a byte[]'s cell holds -/
def yv (A : Cell) (i : Nat) : Int32 := match A.slots[i]? with | some (.int x) => x | _ => 0
theorem yv_get {a : Addr} {A : Cell} {U : State} (h : XT.Arr .byte a A U) (ht : Typed .byte A) {i : Nat} (hi : i < A.slots.size) : A.slots[i]? = some (.int (yv A i)) := by
  have e := Array.getElem?_eq_getElem hi
  have f := ht i _ e
  unfold yv; rw [e]
  generalize A.slots[i] = v at f
  cases v <;> simp [fits] at f ⊢
/-- the two arrays are equal, place for place -/
def EqC (A B : Cell) : Prop := A.slots.size = B.slots.size ∧ ∀ i, i < A.slots.size → yv A i = yv B i
/-- a boolean that says whether p -/
def Says01 (q : Prop) (r : Option Value) (s u : State) : Prop := ∃ v : Int32, r = some (.int v) ∧ u.heap = s.heap ∧ ((v = 1 ∧ q) ∨ (v = 0 ∧ ¬ q))
theorem Says01.mv {q : Prop} : ∀ r (U U' V V' : State), U'.heap = U.heap → V.vm.Alike V'.vm → V'.heap = V.heap → Says01 q r U V → Says01 q r U' V' :=
  fun r U U' V V' h1 _ h2 ⟨v, a, b, c⟩ => ⟨v, a, by rw [h1, h2]; exact b, c⟩
namespace LEq
def yN : MethodName := ⟨"java/lang/StringLatin1", "equals", "([B[B)Z"⟩
abbrev yB : ByteArray := jdk_43_method_13_code
theorem d0 : decode yB 0 = .ok (.aload_n 0, 1) := by decide +kernel
theorem d1 : decode yB 1 = .ok (.arraylength, 1) := by decide +kernel
theorem d2 : decode yB 2 = .ok (.aload_n 1, 1) := by decide +kernel
theorem d3 : decode yB 3 = .ok (.arraylength, 1) := by decide +kernel
theorem d4 : decode yB 4 = .ok (.if_icmp (.ne) 30, 3) := by decide +kernel
theorem d7 : decode yB 7 = .ok (.iconst 0, 1) := by decide +kernel
theorem d8 : decode yB 8 = .ok (.istore_n 2, 1) := by decide +kernel
theorem d9 : decode yB 9 = .ok (.iload_n 2, 1) := by decide +kernel
theorem d10 : decode yB 10 = .ok (.aload_n 0, 1) := by decide +kernel
theorem d11 : decode yB 11 = .ok (.arraylength, 1) := by decide +kernel
theorem d12 : decode yB 12 = .ok (.if_icmp (.ge) 20, 3) := by decide +kernel
theorem d15 : decode yB 15 = .ok (.aload_n 0, 1) := by decide +kernel
theorem d16 : decode yB 16 = .ok (.iload_n 2, 1) := by decide +kernel
theorem d17 : decode yB 17 = .ok (.baload, 1) := by decide +kernel
theorem d18 : decode yB 18 = .ok (.aload_n 1, 1) := by decide +kernel
theorem d19 : decode yB 19 = .ok (.iload_n 2, 1) := by decide +kernel
theorem d20 : decode yB 20 = .ok (.baload, 1) := by decide +kernel
theorem d21 : decode yB 21 = .ok (.if_icmp (.eq) 5, 3) := by decide +kernel
theorem d24 : decode yB 24 = .ok (.iconst 0, 1) := by decide +kernel
theorem d25 : decode yB 25 = .ok (.ireturn, 1) := by decide +kernel
theorem d26 : decode yB 26 = .ok (.iinc 2 1, 3) := by decide +kernel
theorem d29 : decode yB 29 = .ok (.goto (-20), 3) := by decide +kernel
theorem d32 : decode yB 32 = .ok (.iconst 1, 1) := by decide +kernel
theorem d33 : decode yB 33 = .ok (.ireturn, 1) := by decide +kernel
theorem d34 : decode yB 34 = .ok (.iconst 0, 1) := by decide +kernel
theorem d35 : decode yB 35 = .ok (.ireturn, 1) := by decide +kernel
def site : List Cond := []
def tab : Cond := tabOf yN yB 3 (some .boolean) site
def P (a : Addr) (A : Cell) (b : Addr) (B : Cell) (args : Array Value) (s : State) : Prop := args = #[.ref a, .ref b] ∧ XT.Arr .byte a A s ∧ Typed .byte A ∧ XT.Arr .byte b B s ∧ Typed .byte B
/-- whether two byte[] are equal, place for place -/
theorem law (l : Launch) (a : Addr) (A : Cell) (b : Addr) (B : Cell) : Law l yN 2 2 0 0 yB 3 (some .boolean) site (P a A b B) (Says01 (EqC A B)) [] 0 0 := by
  refine Law.of_walk (plainFor_of_name (by decide +kernel)) (by decide +kernel) (by decide +kernel) (by decide) (fun _ _ h => by rw [h.1]; rfl) (fun _ U U' hal hh h => ⟨h.1, h.2.1.mv hal hh, h.2.2.1, h.2.2.2.1.mv hal hh, h.2.2.2.2⟩) (fun r U U' V V' h1 hal h2 h => Says01.mv r U U' V V' h1 hal h2 h) ?_
  intro p e s m args below meth c s₁ X0 hexec hbytes hml hret hlk hnm hown hh0 W hP
  obtain ⟨rfl, hA, tA, hB, tB⟩ := hP
  have a31 := hA.2.2.2
  have b31 := hB.2.2.2
  have hA0 := hA.mv X0.warmed.alike hh0
  have hB0 := hB.mv X0.warmed.alike hh0
  have c1 : Steps p.tables e below (s₁.setTop (entryFrame m #[.ref a, .ref b] 3)) (s₁.setTop (mkF m 0 #[.val (.ref a), .val (.ref b), .unset] [])) := entry rfl
  have c2 : Steps p.tables e below (s₁.setTop (entryFrame m #[.ref a, .ref b] 3)) (s₁.setTop (mkF m 4 #[.val (.ref a), .val (.ref b), .unset] [.int (Int32.ofNat B.slots.size), .int (Int32.ofNat A.slots.size)])) := c1.trans (by
    refine XS.aloadN X0.here hexec rfl (hb hbytes d0) rfl rfl ?_
    refine X0.alen hexec hA0 rfl rfl (hb hbytes d1) ?_
    refine XS.aloadN X0.here hexec rfl (hb hbytes d2) rfl rfl ?_
    refine X0.alen hexec hB0 rfl rfl (hb hbytes d3) ?_
    exact Steps.refl _)
  by_cases hs : A.slots.size = B.slots.size
  · have c3 : Steps p.tables e below (s₁.setTop (entryFrame m #[.ref a, .ref b] 3)) (s₁.setTop (mkF m 9 #[.val (.ref a), .val (.ref b), .val (.int 0)] [])) := c2.trans (by
      refine XS.icmpNo X0.here hexec rfl (hb hbytes d4) rfl (ii_ne_f (by rw [hs])) ?_
      refine iconstV X0.here hexec rfl 0 (hb hbytes d7) (by decide) ?_
      refine XS.istoreN X0.here hexec rfl (hb hbytes d8) rfl rfl ?_
      exact Steps.refl _)
    have loop : ∀ (r i : Nat), i + r = A.slots.size → (∀ j, j < i → yv A j = yv B j) → Steps p.tables e below (s₁.setTop (entryFrame m #[.ref a, .ref b] 3)) (s₁.setTop (mkF m 9 #[.val (.ref a), .val (.ref b), .val (.int (Int32.ofNat i))] [])) → ∃ (pc : Nat) (Ls : Array Slot) (v : Int32), (pc = 25 ∨ pc = 33) ∧ ((v = 1 ∧ EqC A B) ∨ (v = 0 ∧ ¬ EqC A B)) ∧ Steps p.tables e below (s₁.setTop (entryFrame m #[.ref a, .ref b] 3)) (s₁.setTop (mkF m pc Ls [.int v])) := by
      intro r
      induction r with
      | zero =>
        intro i hi he cl
        exact ⟨33, _, 1, Or.inr rfl, Or.inl ⟨rfl, hs, fun j hj => he j (by omega)⟩, cl.trans (by
          refine XS.iloadN X0.here hexec rfl (hb hbytes d9) rfl ?_
          refine XS.aloadN X0.here hexec rfl (hb hbytes d10) rfl rfl ?_
          refine X0.alen hexec hA0 rfl rfl (hb hbytes d11) ?_
          refine XS.icmpYes X0.here hexec rfl (pc0 := 12) rfl (hb hbytes d12) rfl (ii_ge_t (nlt32 (by omega) (by omega))) (by decide) rfl ?_
          refine iconstV X0.here hexec rfl 1 (hb hbytes d32) (by decide) ?_
          exact Steps.refl _)⟩
      | succ r ih =>
        intro i hi he cl
        have c4 : Steps p.tables e below (s₁.setTop (entryFrame m #[.ref a, .ref b] 3)) (s₁.setTop (mkF m 21 #[.val (.ref a), .val (.ref b), .val (.int (Int32.ofNat i))] [.int (yv B i), .int (yv A i)])) := cl.trans (by
          refine XS.iloadN X0.here hexec rfl (hb hbytes d9) rfl ?_
          refine XS.aloadN X0.here hexec rfl (hb hbytes d10) rfl rfl ?_
          refine X0.alen hexec hA0 rfl rfl (hb hbytes d11) ?_
          refine XS.icmpNo X0.here hexec rfl (hb hbytes d12) rfl (ii_ge_f (lt32 (by omega) (by omega))) ?_
          refine XS.aloadN X0.here hexec rfl (hb hbytes d15) rfl rfl ?_
          refine XS.iloadN X0.here hexec rfl (hb hbytes d16) rfl ?_
          refine X0.aget hexec hA0 rfl (yv_get hA tA (i := i) (by omega)) rfl rfl (hb hbytes d17) ?_
          refine XS.aloadN X0.here hexec rfl (hb hbytes d18) rfl rfl ?_
          refine XS.iloadN X0.here hexec rfl (hb hbytes d19) rfl ?_
          refine X0.aget hexec hB0 rfl (yv_get hB tB (i := i) (by omega)) rfl rfl (hb hbytes d20) ?_
          exact Steps.refl _)
        by_cases hv : yv A i = yv B i
        · have c5 : Steps p.tables e below (s₁.setTop (entryFrame m #[.ref a, .ref b] 3)) (s₁.setTop (mkF m 9 #[.val (.ref a), .val (.ref b), .val (.int (Int32.ofNat i + 1))] [])) := c4.trans (by
            refine XS.icmpYes X0.here hexec rfl (pc0 := 21) rfl (hb hbytes d21) rfl (ii_eq_t hv) (by decide) rfl ?_
            refine iincV X0.here hexec rfl 1 (hb hbytes d26) (by decide) rfl rfl ?_
            refine XS.goto X0.here hexec rfl (pc0 := 29) rfl (hb hbytes d29) (by decide) rfl ?_
            exact Steps.refl _)
          rw [succ32] at c5
          exact ih (i + 1) (by omega) (fun j hj => by
            by_cases e : j = i
            · rw [e]; exact hv
            · exact he j (by omega)) c5
        · exact ⟨25, _, 0, Or.inl rfl, Or.inr ⟨rfl, fun q => hv (q.2 i (by omega))⟩, c4.trans (by
            refine XS.icmpNo X0.here hexec rfl (hb hbytes d21) rfl (ii_eq_f hv) ?_
            refine iconstV X0.here hexec rfl 0 (hb hbytes d24) (by decide) ?_
            exact Steps.refl _)⟩
    obtain ⟨pc, Ls, v, hpc, hv, cz⟩ := loop A.slots.size 0 (by omega) (fun j hj => absurd hj (Nat.not_lt_zero j)) c3
    have nv : narrow .boolean (.int v) = .int v := by rcases hv with ⟨rfl, -⟩ | ⟨rfl, -⟩ <;> rfl
    rcases hpc with rfl | rfl
    · exact ⟨s₁, some (.int v), _, _, _, X0, rfl, rfl, rfl, (fun h => by cases h), ⟨v, rfl, hh0, hv⟩, fun fs hl => cz.trans (X0.ireturnOut hexec hret nv (Or.inr (Or.inl rfl)) (hb hbytes d25) hl)⟩
    · exact ⟨s₁, some (.int v), _, _, _, X0, rfl, rfl, rfl, (fun h => by cases h), ⟨v, rfl, hh0, hv⟩, fun fs hl => cz.trans (X0.ireturnOut hexec hret nv (Or.inr (Or.inl rfl)) (hb hbytes d33) hl)⟩
  · have c3 : Steps p.tables e below (s₁.setTop (entryFrame m #[.ref a, .ref b] 3)) (s₁.setTop (mkF m 35 #[.val (.ref a), .val (.ref b), .unset] [.int 0])) := c2.trans (by
      refine XS.icmpYes X0.here hexec rfl (pc0 := 4) rfl (hb hbytes d4) rfl (ii_ne_t (ne32 a31 b31 hs)) (by decide) rfl ?_
      refine iconstV X0.here hexec rfl 0 (hb hbytes d34) (by decide) ?_
      exact Steps.refl _)
    exact ⟨s₁, some (.int 0), _, _, _, X0, rfl, rfl, rfl, (fun h => by cases h), ⟨0, rfl, hh0, Or.inr ⟨rfl, fun q => hs q.1⟩⟩, fun fs hl => c3.trans (X0.ireturnOut hexec hret rfl (Or.inr (Or.inl rfl)) (hb hbytes d35) hl)⟩
end LEq
theorem Cod.ty {cd : Int32} {n : Nat} {f : Nat → Int32} {V : Cell} (h : Cod cd n f V) : Typed .byte V := fun i v hv => by
  have hi : i < V.slots.size := (Array.getElem?_eq_some_iff.mp hv).1
  rcases h with ⟨-, k1, k2⟩ | ⟨-, k1, k2, -⟩
  · rw [(k2 i (by omega)).1] at hv; cases hv; exact fits_lo8 _
  · rcases Nat.mod_two_eq_zero_or_one i with e | e
    · obtain ⟨j, rfl⟩ : ∃ j, i = 2 * j := ⟨i / 2, by omega⟩
      rw [(k2 j (by omega)).1] at hv; cases hv; exact fits_lo8 _
    · obtain ⟨j, rfl⟩ : ∃ j, i = 2 * j + 1 := ⟨i / 2, by omega⟩
      rw [(k2 j (by omega)).2] at hv; cases hv; exact fits_lo8 _
/-- the same text -/
def SameT (n : Nat) (f : Nat → Int32) (k : Nat) (g : Nat → Int32) : Prop := n = k ∧ ∀ j, j < n → f j = g j
theorem lo8_inj {x y : Int32} (h0 : ¬ x < 0) (h1 : ¬ 255 < x) (k0 : ¬ y < 0) (k1 : ¬ 255 < y) (h : lo8 x = lo8 y) : x = y := by
  rw [← lo8_mask h0 h1, ← lo8_mask k0 k1, h]
/-- arrays coded by one coder are equal just where the texts are -/
theorem Cod.eqv {cd : Int32} {n k : Nat} {f g : Nat → Int32} {V V' : Cell} (h : Cod cd n f V) (h' : Cod cd k g V') (hf : ∀ j, j < n → ¬ f j < 0 ∧ ¬ 65535 < f j) (hg : ∀ j, j < k → ¬ g j < 0 ∧ ¬ 65535 < g j) : EqC V V' ↔ SameT n f k g := by
  have yvv : ∀ {W : Cell} {i : Nat} {x : Int32}, W.slots[i]? = some (.int x) → yv W i = x := fun q => by unfold yv; rw [q]
  rcases h with ⟨rfl, k1, k2⟩ | ⟨rfl, k1, k2, -⟩
  · rcases h' with ⟨-, m1, m2⟩ | ⟨e, -⟩
    · constructor
      · rintro ⟨e1, e2⟩
        refine ⟨by omega, fun j hj => ?_⟩
        have q := e2 j (by omega)
        rw [yvv (k2 j hj).1, yvv (m2 j (by omega)).1] at q
        exact lo8_inj (hf j hj).1 (k2 j hj).2 (hg j (by omega)).1 (m2 j (by omega)).2 q
      · rintro ⟨rfl, e2⟩
        refine ⟨by omega, fun j hj => ?_⟩
        rw [yvv (k2 j (by omega)).1, yvv (m2 j (by omega)).1, e2 j (by omega)]
    · exact absurd e (by decide)
  · rcases h' with ⟨e, -⟩ | ⟨-, m1, m2, -⟩
    · exact absurd e (by decide)
    · constructor
      · rintro ⟨e1, e2⟩
        refine ⟨by omega, fun j hj => ?_⟩
        have q1 := e2 (2 * j) (by omega)
        have q2 := e2 (2 * j + 1) (by omega)
        rw [yvv (k2 j hj).1, yvv (m2 j (by omega)).1] at q1
        rw [yvv (k2 j hj).2, yvv (m2 j (by omega)).2] at q2
        rw [← pair_says (hf j hj).1 (hf j hj).2, ← pair_says (hg j (by omega)).1 (hg j (by omega)).2, q1, q2]
      · rintro ⟨rfl, e2⟩
        refine ⟨by omega, fun i hi => ?_⟩
        rcases Nat.mod_two_eq_zero_or_one i with e | e
        · obtain ⟨j, rfl⟩ : ∃ j, i = 2 * j := ⟨i / 2, by omega⟩
          rw [yvv (k2 j (by omega)).1, yvv (m2 j (by omega)).1, e2 j (by omega)]
        · obtain ⟨j, rfl⟩ : ∃ j, i = 2 * j + 1 := ⟨i / 2, by omega⟩
          rw [yvv (k2 j (by omega)).2, yvv (m2 j (by omega)).2, e2 j (by omega)]
/-- two codings differ: so do the texts -/
theorem Cod.dif {cd cd' : Int32} {n k : Nat} {f g : Nat → Int32} {V V' : Cell} (h : Cod cd n f V) (h' : Cod cd' k g V') (hne : ¬ cd = cd') : ¬ SameT n f k g := by
  rintro ⟨rfl, e⟩
  rcases h with ⟨rfl, -, k2⟩ | ⟨rfl, -, -, j, hj, hw⟩
  · rcases h' with ⟨rfl, -⟩ | ⟨-, -, -, j, hj, hw⟩
    · exact hne rfl
    · exact (k2 j hj).2 (by rw [e j hj]; exact hw)
  · rcases h' with ⟨-, -, m2⟩ | ⟨rfl, -⟩
    · exact (m2 j hj).2 (by rw [← e j hj]; exact hw)
    · exact hne rfl
/-- an object of exactly C is an instance of C -/
theorem cinst {p : Program} {l : Launch} {e : Env} {R : Room} {s : State} {m : MethodId} {args : Array Value} {below : List Frame} {meth : Method} {c : Code} {T : State} {locs : List Loc} {cells slots : Nat} (X : Stand p l e R s m args below meth c T locs cells slots) (hexec : p.tables.exec = Jvm.exec) {own C : String} {index : Nat} (hown : s.vm.findClass own = some m.cls) (hlink : (Cond.classLink own index C).before args s = true) {a : Addr} (hE : Exact C a T)
    {g : JFrame} (hg : g.method = m) {rest : List Value} (hstack : g.stack = .ref a :: rest) (hdg : decode c.code g.pc = .ok (.instanceof index, 3)) :
    ∃ T', Stand p l e R s m args below meth c T' locs cells slots ∧ T'.heap = T.heap ∧ ∀ target, Steps p.tables e below (T'.setTop { g with pc := g.pc + 3, stack := .int 1 :: rest }) target → Steps p.tables e below (T.setTop g) target := by
  obtain ⟨cB, h1, D, h2, h3, h4⟩ := hE
  have h1' : s.vm.findClass C = some cB := by rw [← X.warmed.alike.findClass]; exact h1
  obtain ⟨vm', X', st⟩ := X.instanceofYes hexec hown hlink h2 h4 h1' (by rw [h3]; exact Jvm.Free.SB.assignable_self _ _) hg hstack hdg
  exact ⟨_, X', rfl, st⟩
theorem cself {p : Program} {l : Launch} {e : Env} {R : Room} {s : State} {m : MethodId} {args : Array Value} {below : List Frame} {meth : Method} {c : Code} {T : State} {locs : List Loc} {cells slots : Nat} (X : Stand p l e R s m args below meth c T locs cells slots) (hexec : p.tables.exec = Jvm.exec) {own C : String} {index : Nat} (hown : s.vm.findClass own = some m.cls) (hlink : (Cond.classLink own index C).before args s = true) {a : Addr} (hE : Exact C a T)
    {g : JFrame} (hg : g.method = m) {rest : List Value} (hstack : g.stack = .ref a :: rest) (hdg : decode c.code g.pc = .ok (.checkcast index, 3)) :
    ∃ T', Stand p l e R s m args below meth c T' locs cells slots ∧ T'.heap = T.heap ∧ ∀ target, Steps p.tables e below (T'.setTop { g with pc := g.pc + 3, stack := .ref a :: rest }) target → Steps p.tables e below (T.setTop g) target := by
  obtain ⟨cB, h1, D, h2, h3, h4⟩ := hE
  have h1' : s.vm.findClass C = some cB := by rw [← X.warmed.alike.findClass]; exact h1
  obtain ⟨vm', X', st⟩ := X.checkcastYes hexec hown hlink h2 h4 h1' (by rw [h3]; exact Jvm.Free.SB.assignable_self _ _) hg hstack hdg
  exact ⟨_, X', rfl, fun t h => st t (by rw [← hstack] at h; exact h)⟩
namespace SEq
def yN : MethodName := ⟨"java/lang/String", "equals", "(Ljava/lang/Object;)Z"⟩
abbrev yB : ByteArray := jdk_42_method_66_code
theorem d0 : decode yB 0 = .ok (.aload_n 0, 1) := by decide +kernel
theorem d1 : decode yB 1 = .ok (.aload_n 1, 1) := by decide +kernel
theorem d2 : decode yB 2 = .ok (.if_acmp (.ne) 5, 3) := by decide +kernel
theorem d5 : decode yB 5 = .ok (.iconst 1, 1) := by decide +kernel
theorem d6 : decode yB 6 = .ok (.ireturn, 1) := by decide +kernel
theorem d7 : decode yB 7 = .ok (.aload_n 1, 1) := by decide +kernel
theorem d8 : decode yB 8 = .ok (.instanceof 10, 3) := by decide +kernel
theorem d11 : decode yB 11 = .ok (.ifCond (.eq) 43, 3) := by decide +kernel
theorem d14 : decode yB 14 = .ok (.aload_n 1, 1) := by decide +kernel
theorem d15 : decode yB 15 = .ok (.checkcast 10, 3) := by decide +kernel
theorem d18 : decode yB 18 = .ok (.astore_n 2, 1) := by decide +kernel
theorem d19 : decode yB 19 = .ok (.getstatic 38, 3) := by decide +kernel
theorem d22 : decode yB 22 = .ok (.ifCond (.eq) 14, 3) := by decide +kernel
theorem d25 : decode yB 25 = .ok (.aload_n 0, 1) := by decide +kernel
theorem d26 : decode yB 26 = .ok (.getfield 15, 3) := by decide +kernel
theorem d29 : decode yB 29 = .ok (.aload_n 2, 1) := by decide +kernel
theorem d30 : decode yB 30 = .ok (.getfield 15, 3) := by decide +kernel
theorem d33 : decode yB 33 = .ok (.if_icmp (.ne) 21, 3) := by decide +kernel
theorem d36 : decode yB 36 = .ok (.aload_n 0, 1) := by decide +kernel
theorem d37 : decode yB 37 = .ok (.getfield 9, 3) := by decide +kernel
theorem d40 : decode yB 40 = .ok (.aload_n 2, 1) := by decide +kernel
theorem d41 : decode yB 41 = .ok (.getfield 9, 3) := by decide +kernel
theorem d44 : decode yB 44 = .ok (.invokestatic 541, 3) := by decide +kernel
theorem d47 : decode yB 47 = .ok (.ifCond (.eq) 7, 3) := by decide +kernel
theorem d50 : decode yB 50 = .ok (.iconst 1, 1) := by decide +kernel
theorem d51 : decode yB 51 = .ok (.goto 4, 3) := by decide +kernel
theorem d54 : decode yB 54 = .ok (.iconst 0, 1) := by decide +kernel
theorem d55 : decode yB 55 = .ok (.ireturn, 1) := by decide +kernel
def site : List Cond := [.classLink "java/lang/String" 10 "java/lang/String", .fieldLink "java/lang/String" 38 "java/lang/String" "COMPACT_STRINGS" "Z", .fieldLink "java/lang/String" 15 "java/lang/String" "coder" "B", .fieldLink "java/lang/String" 9 "java/lang/String" "value" "[B", LEq.tab] ++ staticW "java/lang/String" 541 LEq.yN
def tab : Cond := tabOf yN yB 3 (some .boolean) site
def P (x t : Addr) (V : Cell) (cd : Int32) (n : Nat) (f : Nat → Int32) (y t' : Addr) (V' : Cell) (cd' : Int32) (k : Nat) (g : Nat → Int32) (z : Int32) (args : Array Value) (s : State) : Prop := args = #[.ref x, .ref y] ∧ Txt x t V cd n f s ∧ Txt y t' V' cd' k g s ∧ StaticIs s "java/lang/String" "COMPACT_STRINGS" "Z" (.int z) ∧ ¬ z = 0
/-- equals(Object) of two Strings: whether the texts are the same -/
theorem law (l : Launch) (x t : Addr) (V : Cell) (cd : Int32) (n : Nat) (f : Nat → Int32) (y t' : Addr) (V' : Cell) (cd' : Int32) (k : Nat) (g : Nat → Int32) (z : Int32) : Law l yN 2 1 1 14 yB 3 (some .boolean) site (P x t V cd n f y t' V' cd' k g z) (Says01 (SameT n f k g)) [] 0 0 := by
  refine Law.of_walk (plainFor_of_name (by decide +kernel)) (by decide +kernel) (by decide +kernel) (by decide) (fun _ _ h => by rw [h.1]; rfl) (fun _ U U' hal hh h => ⟨h.1, h.2.1.mv hal hh, h.2.2.1.mv hal hh, h.2.2.2.1.there hal hh, h.2.2.2.2⟩) (fun r U U' V V' h1 hal h2 h => Says01.mv r U U' V V' h1 hal h2 h) ?_
  intro p e s m args below meth c s₁ X0 hexec hbytes hml hret hlk hnm hown hh0 W hP
  obtain ⟨rfl, hx, hy, s1, hz⟩ := hP
  have c1 : Steps p.tables e below (s₁.setTop (entryFrame m #[.ref x, .ref y] 3)) (s₁.setTop (mkF m 2 #[.val (.ref x), .val (.ref y), .unset] [.ref y, .ref x])) := Steps.trans (entry rfl) (by
    show Steps p.tables e below (s₁.setTop (mkF m 0 #[.val (.ref x), .val (.ref y), .unset] [])) _
    refine XS.aloadN X0.here hexec rfl (hb hbytes d0) rfl rfl ?_
    refine XS.aloadN X0.here hexec rfl (hb hbytes d1) rfl rfl ?_
    exact Steps.refl _)
  by_cases hxy : x = y
  · have c2 : Steps p.tables e below (s₁.setTop (entryFrame m #[.ref x, .ref y] 3)) (s₁.setTop (mkF m 6 #[.val (.ref x), .val (.ref y), .unset] [.int 1])) := c1.trans (by
      refine acmpNo X0.here hexec rfl (hb hbytes d2) rfl rfl rfl (by simp [acmp, hxy]) ?_
      refine iconstV X0.here hexec rfl 1 (hb hbytes d5) (by decide) ?_
      exact Steps.refl _)
    subst hxy
    have ec : cd = cd' := by
      obtain ⟨D, fd, a1, a2, a3⟩ := hx.2.2.1
      obtain ⟨D', fd', b1, b2, b3⟩ := hy.2.2.1
      cases a1.symm.trans b1
      obtain ⟨q1, q2, q3, q4⟩ := a2.1
      obtain ⟨r1, r2, r3, r4⟩ := b2.1
      cases q4.symm.trans r4
      cases a3.symm.trans b3; rfl
    have et : t = t' := by
      obtain ⟨D, fd, a1, a2, a3⟩ := hx.2.1
      obtain ⟨D', fd', b1, b2, b3⟩ := hy.2.1
      cases a1.symm.trans b1
      obtain ⟨q1, q2, q3, q4⟩ := a2.1
      obtain ⟨r1, r2, r3, r4⟩ := b2.1
      cases q4.symm.trans r4
      cases a3.symm.trans b3; rfl
    subst ec et
    have ev : V = V' := by cases hx.2.2.2.1.1.symm.trans hy.2.2.2.1.1; rfl
    subst ev
    have hs : SameT n f k g := (Cod.eqv hx.2.2.2.2.1 hy.2.2.2.2.1 hx.2.2.2.2.2 hy.2.2.2.2.2).mp ⟨rfl, fun _ _ => rfl⟩
    exact ⟨s₁, some (.int 1), _, _, _, X0, rfl, rfl, rfl, (fun h => by cases h), ⟨1, rfl, hh0, Or.inl ⟨rfl, hs⟩⟩, fun fs hl => c2.trans (X0.ireturnOut hexec hret rfl (Or.inr (Or.inl rfl)) (hb hbytes d6) hl)⟩
  · have c2 : Steps p.tables e below (s₁.setTop (entryFrame m #[.ref x, .ref y] 3)) (s₁.setTop (mkF m 8 #[.val (.ref x), .val (.ref y), .unset] [.ref y])) := c1.trans (by
      refine acmpYes X0.here hexec rfl (pc0 := 2) rfl (hb hbytes d2) rfl rfl rfl (by simp [acmp, hxy]) (by decide) rfl ?_
      refine XS.aloadN X0.here hexec rfl (hb hbytes d7) rfl rfl ?_
      exact Steps.refl _)
    obtain ⟨T3, X3, q3, st3⟩ := cinst X0 hexec hown (wk W (.classLink "java/lang/String" 10 "java/lang/String")) (hy.mv X0.warmed.alike hh0).1 (g := (mkF m 8 #[.val (.ref x), .val (.ref y), .unset] [.ref y])) rfl (rest := []) rfl (hb hbytes d8)
    have hh3 := q3.trans hh0
    have c4 : Steps p.tables e below (s₁.setTop (entryFrame m #[.ref x, .ref y] 3)) (T3.setTop (mkF m 15 #[.val (.ref x), .val (.ref y), .unset] [.ref y])) := (c2.trans (st3 _ (Steps.refl _))).trans (by
      refine XS.ifNo X3.here hexec rfl (hb hbytes d11) rfl (i0_eq_f (by decide)) ?_
      refine XS.aloadN X3.here hexec rfl (hb hbytes d14) rfl rfl ?_
      exact Steps.refl _)
    obtain ⟨T5, X5, q5, st5⟩ := cself X3 hexec hown (wk W (.classLink "java/lang/String" 10 "java/lang/String")) (hy.mv X3.warmed.alike hh3).1 (g := (mkF m 15 #[.val (.ref x), .val (.ref y), .unset] [.ref y])) rfl (rest := []) rfl (hb hbytes d15)
    have hh5 := q5.trans hh3
    have c6 : Steps p.tables e below (s₁.setTop (entryFrame m #[.ref x, .ref y] 3)) (T5.setTop (mkF m 19 #[.val (.ref x), .val (.ref y), .val (.ref y)] [])) := (c4.trans (st5 _ (Steps.refl _))).trans (by
      refine XS.astoreN X5.here hexec rfl (hb hbytes d18) rfl rfl rfl ?_
      exact Steps.refl _)
    obtain ⟨T7, X7, q7, st7⟩ := X5.sget hexec hown (wk W (.fieldLink "java/lang/String" 38 "java/lang/String" "COMPACT_STRINGS" "Z")) s1 (fun _ _ h => by rw [hh5]; exact h) (g := (mkF m 19 #[.val (.ref x), .val (.ref y), .val (.ref y)] [])) rfl (hb hbytes d19)
    have hh7 := q7.trans hh5
    have c8 : Steps p.tables e below (s₁.setTop (entryFrame m #[.ref x, .ref y] 3)) (T7.setTop (mkF m 26 #[.val (.ref x), .val (.ref y), .val (.ref y)] [.ref x])) := (c6.trans (st7 _ (Steps.refl _))).trans (by
      refine XS.ifNo X7.here hexec rfl (hb hbytes d22) rfl (i0_eq_f hz) ?_
      refine XS.aloadN X7.here hexec rfl (hb hbytes d25) rfl rfl ?_
      exact Steps.refl _)
    obtain ⟨T9, X9, q9, st9⟩ := X7.hget hexec hown (wk W (.fieldLink "java/lang/String" 15 "java/lang/String" "coder" "B")) (hx.mv X7.warmed.alike hh7).2.2.1 (g := (mkF m 26 #[.val (.ref x), .val (.ref y), .val (.ref y)] [.ref x])) rfl (rest := []) rfl (hb hbytes d26)
    have hh9 := q9.trans hh7
    have c10 : Steps p.tables e below (s₁.setTop (entryFrame m #[.ref x, .ref y] 3)) (T9.setTop (mkF m 30 #[.val (.ref x), .val (.ref y), .val (.ref y)] [.ref y, .int cd])) := (c8.trans (st9 _ (Steps.refl _))).trans (by
      refine XS.aloadN X9.here hexec rfl (hb hbytes d29) rfl rfl ?_
      exact Steps.refl _)
    obtain ⟨T11, X11, q11, st11⟩ := X9.hget hexec hown (wk W (.fieldLink "java/lang/String" 15 "java/lang/String" "coder" "B")) (hy.mv X9.warmed.alike hh9).2.2.1 (g := (mkF m 30 #[.val (.ref x), .val (.ref y), .val (.ref y)] [.ref y, .int cd])) rfl (rest := [.int cd]) rfl (hb hbytes d30)
    have hh11 := q11.trans hh9
    have c12 : Steps p.tables e below (s₁.setTop (entryFrame m #[.ref x, .ref y] 3)) (T11.setTop (mkF m 33 #[.val (.ref x), .val (.ref y), .val (.ref y)] [.int cd', .int cd])) := c10.trans (st11 _ (Steps.refl _))
    by_cases hcd : cd = cd'
    · subst hcd
      have c13 : Steps p.tables e below (s₁.setTop (entryFrame m #[.ref x, .ref y] 3)) (T11.setTop (mkF m 37 #[.val (.ref x), .val (.ref y), .val (.ref y)] [.ref x])) := c12.trans (by
        refine XS.icmpNo X11.here hexec rfl (hb hbytes d33) rfl (ii_ne_f rfl) ?_
        refine XS.aloadN X11.here hexec rfl (hb hbytes d36) rfl rfl ?_
        exact Steps.refl _)
      obtain ⟨T14, X14, q14, st14⟩ := X11.hget hexec hown (wk W (.fieldLink "java/lang/String" 9 "java/lang/String" "value" "[B")) (hx.mv X11.warmed.alike hh11).2.1 (g := (mkF m 37 #[.val (.ref x), .val (.ref y), .val (.ref y)] [.ref x])) rfl (rest := []) rfl (hb hbytes d37)
      have hh14 := q14.trans hh11
      have c15 : Steps p.tables e below (s₁.setTop (entryFrame m #[.ref x, .ref y] 3)) (T14.setTop (mkF m 41 #[.val (.ref x), .val (.ref y), .val (.ref y)] [.ref y, .ref t])) := (c13.trans (st14 _ (Steps.refl _))).trans (by
        refine XS.aloadN X14.here hexec rfl (hb hbytes d40) rfl rfl ?_
        exact Steps.refl _)
      obtain ⟨T16, X16, q16, st16⟩ := X14.hget hexec hown (wk W (.fieldLink "java/lang/String" 9 "java/lang/String" "value" "[B")) (hy.mv X14.warmed.alike hh14).2.1 (g := (mkF m 41 #[.val (.ref x), .val (.ref y), .val (.ref y)] [.ref y, .ref t])) rfl (rest := [.ref t]) rfl (hb hbytes d41)
      have hh16 := q16.trans hh14
      have c17 : Steps p.tables e below (s₁.setTop (entryFrame m #[.ref x, .ref y] 3)) (T16.setTop (mkF m 44 #[.val (.ref x), .val (.ref y), .val (.ref y)] [.ref t', .ref t])) := c15.trans (st16 _ (Steps.refl _))
      obtain ⟨v18, T18, X18, E18, g18⟩ := X16.callS hexec (LEq.law l t V t' V') hown (wks W (staticW "java/lang/String" 541 LEq.yN)) (wk W LEq.tab) (W := 0) (Nat.le_of_ble_eq_true rfl) (Nat.le_of_ble_eq_true rfl) (Nat.le_refl _) (Nat.le_refl _) (g := (mkF m 44 #[.val (.ref x), .val (.ref y), .val (.ref y)] [.ref t', .ref t])) rfl (by rw [hml]; rfl) c17 (argsL := [.ref t, .ref t']) (rest := []) rfl rfl (by show 2 * 0 + 0 ≤ _; decide) (hb hbytes d44) (⟨rfl, hx.2.2.2.1.mv X16.warmed.alike hh16, hx.2.2.2.2.1.ty, hy.2.2.2.1.mv X16.warmed.alike hh16, hy.2.2.2.2.1.ty⟩)
      obtain ⟨v, rfl, q18, hv⟩ := E18
      have iff := Cod.eqv hx.2.2.2.2.1 hy.2.2.2.2.1 hx.2.2.2.2.2 hy.2.2.2.2.2
      rcases hv with ⟨rfl, he⟩ | ⟨rfl, he⟩
      · have c19 : Steps p.tables e below (s₁.setTop (entryFrame m #[.ref x, .ref y] 3)) (T18.setTop (mkF m 55 #[.val (.ref x), .val (.ref y), .val (.ref y)] [.int 1])) := Steps.trans g18 (by
          refine XS.ifNo X18.here hexec rfl (hb hbytes d47) rfl (i0_eq_f (by decide)) ?_
          refine iconstV X18.here hexec rfl 1 (hb hbytes d50) (by decide) ?_
          refine XS.goto X18.here hexec rfl (pc0 := 51) rfl (hb hbytes d51) (by decide) rfl ?_
          exact Steps.refl _)
        exact ⟨T18, some (.int 1), _, _, _, X18, rfl, rfl, rfl, (fun h => by cases h), ⟨1, rfl, q18.trans hh16, Or.inl ⟨rfl, iff.mp he⟩⟩, fun fs hl => c19.trans (X18.ireturnOut hexec hret rfl (Or.inr (Or.inl rfl)) (hb hbytes d55) hl)⟩
      · have c19 : Steps p.tables e below (s₁.setTop (entryFrame m #[.ref x, .ref y] 3)) (T18.setTop (mkF m 55 #[.val (.ref x), .val (.ref y), .val (.ref y)] [.int 0])) := Steps.trans g18 (by
          refine XS.ifYes X18.here hexec rfl (pc0 := 47) rfl (hb hbytes d47) rfl (i0_eq_t rfl) (by decide) rfl ?_
          refine iconstV X18.here hexec rfl 0 (hb hbytes d54) (by decide) ?_
          exact Steps.refl _)
        exact ⟨T18, some (.int 0), _, _, _, X18, rfl, rfl, rfl, (fun h => by cases h), ⟨0, rfl, q18.trans hh16, Or.inr ⟨rfl, fun q => he (iff.mpr q)⟩⟩, fun fs hl => c19.trans (X18.ireturnOut hexec hret rfl (Or.inr (Or.inl rfl)) (hb hbytes d55) hl)⟩
    · have c13 : Steps p.tables e below (s₁.setTop (entryFrame m #[.ref x, .ref y] 3)) (T11.setTop (mkF m 55 #[.val (.ref x), .val (.ref y), .val (.ref y)] [.int 0])) := c12.trans (by
        refine XS.icmpYes X11.here hexec rfl (pc0 := 33) rfl (hb hbytes d33) rfl (ii_ne_t hcd) (by decide) rfl ?_
        refine iconstV X11.here hexec rfl 0 (hb hbytes d54) (by decide) ?_
        exact Steps.refl _)
      exact ⟨T11, some (.int 0), _, _, _, X11, rfl, rfl, rfl, (fun h => by cases h), ⟨0, rfl, hh11, Or.inr ⟨rfl, Cod.dif hx.2.2.2.2.1 hy.2.2.2.2.1 hcd⟩⟩, fun fs hl => c13.trans (X11.ireturnOut hexec hret rfl (Or.inr (Or.inl rfl)) (hb hbytes d55) hl)⟩
theorem pays {l : Launch} {R : Room} {p : Program} {e : Env} {below : List Frame} {s : State} {sargs : Array Value} {len W : Nat} (x t : Addr) (V : Cell) (cd : Int32) (n : Nat) (f : Nat → Int32) (y t' : Addr) (V' : Cell) (cd' : Int32) (k : Nat) (g : Nat → Int32) (z : Int32) (htab : tab.before sargs s = true) (hfr : 2 ≤ R.frames) (hlo : W + 28 ≤ R.locals) :
    Back l R p e below s sargs yN len W (fun A₁ a₁ => A₁.cells + 0 ≤ R.cells ∧ A₁.slots + 0 ≤ R.slots ∧ P x t V cd n f y t' V' cd' k g z a₁ A₁.U) (fun A₁ _ v₁ B₁ => Says01 (SameT n f k g) v₁ A₁.U B₁.U ∧ B₁.locs = A₁.locs ++ [] ∧ B₁.cells = A₁.cells + 0 ∧ B₁.slots = A₁.slots + 0) :=
  (law l x t V cd n f y t' V' cd' k g z).pays htab hfr (by omega)
end SEq
end StrChars
namespace StrChars.Road
open Jvm Sem ClassFile Op Lib Jvm.Stand Jvm.Free Jvm.Free.XT
open Jvm.Lib.Cold (StaticIs)
/-- the words of String.equals(Object) -/
abbrev wordsEq : List Jvm.Cond := [.code SEq.yN SEq.yB 3 (some .boolean), .initialized ST, .classLink ST 10 ST, .fieldLink ST 38 ST "COMPACT_STRINGS" "Z", .fieldLink ST 15 ST "coder" "B", .fieldLink ST 9 ST "value" "[B", .methodLink ST 541 LEq.yN, .static LEq.yN, .code LEq.yN LEq.yB 3 (some .boolean), .initialized "java/lang/StringLatin1"]
theorem tabEq_of {a : Array Value} {s : State} (h : ∀ w ∈ wordsEq, w.before a s = true) : SEq.tab.before a s = true := by
  have hl : LEq.tab.before a s = true := unparts (wk h (.code LEq.yN LEq.yB 3 (some .boolean))) (wks h (.initialized LEq.yN.cls :: LEq.site))
  have q := consq hl h
  exact unparts (wk q (.code SEq.yN SEq.yB 3 (some .boolean))) (wks q (.initialized SEq.yN.cls :: SEq.site))
theorem movedEq {Z s : State} {a0 args : Array Value} (hZ : Z.Warmed39 s.vm) (hw : ∀ d ∈ wordsEq, d.before a0 Z = true) : ∀ d ∈ wordsEq, d.before args s = true := fun d hd => by
  have t : ∀ d ∈ wordsEq, (d.onTables && d.keepsFace) = true := by decide +kernel
  exact RoadKit.mv hZ (hw d hd) (t d hd)
/-- the road's facts of a String, as the laws ask it -/
theorem txt_of {Z U : State} {a0 : Array Value} {kI : Nat} (wi : (Jvm.Cond.instantiable ST kI).before a0 Z = true) (al : Z.vm.Alike U.vm) {x t : Addr} {kb : ClassId} {cs : List Int32} {cd N2 : Int32} {vs : List Value} (E : RoadKit.Exa Z U.heap x ST) (V : RoadKit.Fld Z U.heap x ST "value" "[B" (.ref t)) (C : RoadKit.Fld Z U.heap x ST "coder" "B" (.int cd)) (K : RoadKit.Arv Z U.heap t kb .byte N2 vs (.int 0)) (hc : CodA cs cd N2 vs) (hb : ∀ c ∈ cs, ¬ c < 0 ∧ ¬ (65535 : Int32) < c) (l2 : cs.length ≤ 4000) :
    ∃ A, Txt x t A cd cs.length (fun j => cs.getD j 0) U := by
  obtain ⟨A, K1, K2, K3, K4, K5, K6⟩ := K
  have hcod := hc.cod (by omega) K3 K5
  obtain ⟨D, fV, fC, hB, F1, F2, g1, g2, -, -⟩ := strObj wi al E V C
  exact ⟨A, ⟨_, hB.2.2.1, D, hB.1, rfl, by cases q : D.vm <;> first | rfl | exact absurd q (hB.2.1.2 _)⟩, Has.of hB F1 g1, Has.of hB F2 g2, ⟨K1.1, State.isArrayOf_alike al K1.2.1, K1.2.2, by rcases hcod with ⟨-, q, -⟩ | ⟨-, q, -⟩ <;> omega⟩, hcod, fun j hj => by
    have e : cs.getD j 0 = cs[j] := by simp [List.getD_eq_getElem?_getD, hj]
    show ¬ cs.getD j 0 < 0 ∧ ¬ 65535 < cs.getD j 0
    rw [e]; exact hb _ (List.getElem_mem _)⟩
theorem same_list (cs ds : List Int32) : SameT cs.length (fun j => cs.getD j 0) ds.length (fun j => ds.getD j 0) ↔ cs = ds := by
  constructor
  · rintro ⟨e, q⟩
    refine List.ext_getElem e fun j h1 h2 => ?_
    have := q j h1
    simpa [List.getD_eq_getElem?_getD, h1, h2] using this
  · rintro rfl
    exact ⟨rfl, fun _ _ => rfl⟩
/-- **equals(Object) OF TWO SUCH STRINGS**: 1 just where the chars are the same -/
theorem eqW {p : Program} {l : Launch} {e : Env} {R : Room} {s : State} {args : Array Value} {below : List Frame} {len W : Nat} {Z : State} {a0 : Array Value} {h : Heap} (hZ : Z.Warmed39 s.vm) (hw : ∀ d ∈ wordsEq, d.before a0 Z = true) {kI : Nat} (wi : (Jvm.Cond.instantiable ST kI).before a0 Z = true)
    {x t : Addr} {kb : ClassId} {cs : List Int32} {cd N2 : Int32} {vs : List Value} (E : RoadKit.Exa Z h x ST) (V : RoadKit.Fld Z h x ST "value" "[B" (.ref t)) (C : RoadKit.Fld Z h x ST "coder" "B" (.int cd)) (K : RoadKit.Arv Z h t kb .byte N2 vs (.int 0)) (hc : CodA cs cd N2 vs) (hb : ∀ c ∈ cs, ¬ c < 0 ∧ ¬ (65535 : Int32) < c) (l2 : cs.length ≤ 4000)
    {y t' : Addr} {kb' : ClassId} {ds : List Int32} {cd' N2' : Int32} {vs' : List Value} (E' : RoadKit.Exa Z h y ST) (V' : RoadKit.Fld Z h y ST "value" "[B" (.ref t')) (C' : RoadKit.Fld Z h y ST "coder" "B" (.int cd')) (K' : RoadKit.Arv Z h t' kb' .byte N2' vs' (.int 0)) (hc' : CodA ds cd' N2' vs') (hb' : ∀ c ∈ ds, ¬ c < 0 ∧ ¬ (65535 : Int32) < c) (l2' : ds.length ≤ 4000)
    {z : Int32} (S : RoadKit.Sta Z h ST "COMPACT_STRINGS" "Z" (.int z)) (hz : ¬ z = 0) (hfr : 2 ≤ R.frames) (hlo : W + 28 ≤ R.locals) :
    Back l R p e below s args (⟨"java/lang/String", "equals", "(Ljava/lang/Object;)Z"⟩ : MethodName) len W (fun P a => a = #[.ref x, .ref y] ∧ P.U.heap = h ∧ P.cells + 0 ≤ R.cells ∧ P.slots + 0 ≤ R.slots)
      (fun P _ v B => ∃ L, (((v = some (.int 1) ∧ cs = ds) ∨ (v = some (.int 0) ∧ ¬ cs = ds)) ∧ L = [] ∧ B.U.heap = h) ∧ B.locs = P.locs ++ L ∧ B.cells = P.cells + 0 ∧ B.slots = P.slots + 0) := by
  intro m meth c P g ig mk a X hg hsize hdg hW hn hp'
  obtain ⟨rfl, rfl, r1, r2⟩ := hp'
  have al : Z.vm.Alike P.U.vm := hZ.alike.trans X.warmed.alike
  obtain ⟨A, hx⟩ := txt_of wi al E V C K hc hb l2
  obtain ⟨A', hy⟩ := txt_of wi al E' V' C' K' hc' hb' l2'
  obtain ⟨v, B, X', ⟨⟨w, hv, hh, hq⟩, hl, hk, hs⟩, st⟩ := SEq.pays x t A cd cs.length (fun j => cs.getD j 0) y t' A' cd' ds.length (fun j => ds.getD j 0) z (tabEq_of (movedEq hZ hw)) hfr hlo m meth c P g ig mk _ X hg hsize hdg hW hn ⟨r1, r2, rfl, hx, hy, sta_is al S, hz⟩
  refine ⟨v, B, X', ⟨[], ⟨?_, rfl, hh⟩, hl, hk, hs⟩, st⟩
  rcases hq with ⟨rfl, q⟩ | ⟨rfl, q⟩
  · exact Or.inl ⟨hv, (same_list cs ds).mp q⟩
  · exact Or.inr ⟨hv, fun e => q ((same_list cs ds).mpr e)⟩
end StrChars.Road
namespace StrChars.Road
open Jvm Sem ClassFile Op Lib Jvm.Stand Jvm.Free Jvm.Free.XT
open Jvm.Lib.Cold (StaticIs)
/-- what backV says of its String, as the contracts of this text ask it: cs's low bytes, coder 0 -/
theorem codOf {cs : List Int32} {n : Nat} (hn : cs.length = n) (hb : ∀ c ∈ cs, ¬ 255 < c) : CodA cs 0 (Int32.ofNat n) ((cs.map lo8).map Value.int) := Or.inl ⟨rfl, by rw [hn], by simp [List.map_map, Function.comp_def], hb⟩
end StrChars.Road
end Jvm.Pilot.@@N@@
namespace Jvm.Pilot.@@N@@
open Jvm Jvm.ClassFile Sem Op Lib Jvm.Free Jvm.Stand Jvm.LawKit Jvm.RoadKit Bundle Jvm.Pilot.@@N@@.Jvm.D
section OwnKit
variable {p : Program} {l : Launch} {e : Env} {R : Room} {s : State} {m : MethodId} {args : Array Value} {below : List Frame} {meth : Method} {c : Code} {T : State} {locs : List Loc} {cells slots : Nat} {n0 cc nn : Nat} {K : Option Value → Heap → Prop} {P : Heap → Prop} {A B : State}
/-- what a contract says of the value, the heap and the places written -/
def QK (n0 : Nat) (K : Option Value → Heap → Prop) (v : Option Value) (h : Heap) (L : List Loc) : Prop := K v h ∧ Fr n0 L
def Kv (w : Option Value) (P : Heap → Prop) (v : Option Value) (h : Heap) : Prop := v = w ∧ P h
/-- from A the run comes to this body's end, and K holds there -/
def Gl (p : Program) (e : Env) (below : List Frame) (s : State) (n0 cc nn : Nat) (K : Option Value → Heap → Prop) (A : State) : Prop :=
  ∃ t o, Steps p.tables e below A t ∧ t.status = .running ∧ Ended t below o ∧ ∃ v L, o = .returned v ∧ QK n0 K v t.heap L ∧ FrameEnd s o t L cc nn
theorem go (st : ∀ t, Steps p.tables e below B t → Steps p.tables e below A t) (h : Gl p e below s n0 cc nn K B) : Gl p e below s n0 cc nn K A := by
  obtain ⟨t, o, h1, h2⟩ := h; exact ⟨t, o, st t h1, h2⟩
theorem gl_start {g g' : JFrame} (q : g = g') (h : Gl p e below s n0 cc nn K (T.setTop g')) :
    ∃ t o, Steps p.tables e below (T.setTop g) t ∧ t.status = .running ∧ Ended t below o ∧ ∃ v L, o = .returned v ∧ QK n0 K v t.heap L ∧ FrameEnd s o t L cc nn := by
  subst q; exact h
theorem gI {c : Prop} [Decidable c] {a b : Int32} (h1 : c → Gl p e below s n0 cc nn (Kv (some (.int a)) P) A) (h2 : ¬ c → Gl p e below s n0 cc nn (Kv (some (.int b)) P) A) : Gl p e below s n0 cc nn (Kv (some (.int (if c then a else b))) P) A := by
  by_cases h : c
  · rw [if_pos h]; exact h1 h
  · rw [if_neg h]; exact h2 h
theorem gJ {c : Prop} [Decidable c] {a b : Int64} (h1 : c → Gl p e below s n0 cc nn (Kv (some (.long a)) P) A) (h2 : ¬ c → Gl p e below s n0 cc nn (Kv (some (.long b)) P) A) : Gl p e below s n0 cc nn (Kv (some (.long (if c then a else b))) P) A := by
  by_cases h : c
  · rw [if_pos h]; exact h1 h
  · rw [if_neg h]; exact h2 h
theorem gR {c : Prop} [Decidable c] {a b : Addr} (h1 : c → Gl p e below s n0 cc nn (Kv (some (.ref a)) P) A) (h2 : ¬ c → Gl p e below s n0 cc nn (Kv (some (.ref b)) P) A) : Gl p e below s n0 cc nn (Kv (some (.ref (if c then a else b))) P) A := by
  by_cases h : c
  · rw [if_pos h]; exact h1 h
  · rw [if_neg h]; exact h2 h
theorem gV {c : Prop} [Decidable c] (h1 : c → Gl p e below s n0 cc nn K A) (h2 : ¬ c → Gl p e below s n0 cc nn K A) : Gl p e below s n0 cc nn K A := by
  by_cases h : c
  · exact h1 h
  · exact h2 h
variable {x : MethodName} {S : Spec} {code' : ByteArray} {ml : Nat} {s₁ : State} {pc : Nat} {Ls : Array Slot} {rest : List Value}
theorem endN (X : Stand p l e R s m args below meth c T locs cells slots) (hx : p.tables.exec = Jvm.exec) {t : FieldType} (Bd : BodyLoose p l x S code' ml (some t) e s m args below meth c s₁) (ht : t = .boolean ∨ t = .byte ∨ t = .char ∨ t = .short) {z : Int32}
    (hd : decode c.code pc = .ok (.ireturn, 1)) (hK : K (some (.int (nar t z))) T.heap) (N : Fr n0 locs) (hc : cells ≤ cc) (hs : slots ≤ nn) : Gl p e below s n0 cc nn K (T.setTop (mkF m pc Ls (.int z :: rest))) := by
  obtain ⟨fs, hr, hrun, hended, hW, hsame⟩ := X.leave (v := some (.int (nar t z))) (fun h => by rw [Bd.returns] at h; cases h)
  exact ⟨_, _, retN X hx Bd.returns ht hd hr, hrun, hended, _, _, rfl, ⟨hK, N⟩, ⟨_, rfl⟩, hW, hsame.mono hc hs⟩
theorem endO (X : Stand p l e R s m args below meth c T locs cells slots) (hx : p.tables.exec = Jvm.exec) {t : FieldType} (Bd : BodyLoose p l x S code' ml (some t) e s m args below meth c s₁) {w : Value} {i : Instr} (hn : narrow t w = w)
    (hi : (i = .ireturn ∧ (t = .int ∨ t = .boolean ∨ t = .byte ∨ t = .char ∨ t = .short) ∧ ∃ z, w = .int z) ∨ (i = .lreturn ∧ t = .long ∧ ∃ z, w = .long z) ∨ (i = .dreturn ∧ t = .double ∧ ∃ z, w = .double z) ∨ (i = .freturn ∧ t = .float ∧ ∃ z, w = .float z) ∨ (i = .areturn ∧ t.isReference = true ∧ w.isRef = true))
    (hd : decode c.code pc = .ok (i, 1)) (hK : K (some w) T.heap) (N : Fr n0 locs) (hc : cells ≤ cc) (hs : slots ≤ nn) : Gl p e below s n0 cc nn K (T.setTop (mkF m pc Ls (w :: rest))) := by
  obtain ⟨fs, hr, hrun, hended, hW, hsame⟩ := X.leave (v := some w) (fun h => by rw [Bd.returns] at h; cases h)
  exact ⟨_, _, retOut X hx Bd.returns hn hi hd hr, hrun, hended, _, _, rfl, ⟨hK, N⟩, ⟨_, rfl⟩, hW, hsame.mono hc hs⟩
theorem endI (X : Stand p l e R s m args below meth c T locs cells slots) (hx : p.tables.exec = Jvm.exec) (Bd : BodyLoose p l x S code' ml (some .int) e s m args below meth c s₁) {z : Int32}
    (hd : decode c.code pc = .ok (.ireturn, 1)) (hK : K (some (.int z)) T.heap) (N : Fr n0 locs) (hc : cells ≤ cc) (hs : slots ≤ nn) : Gl p e below s n0 cc nn K (T.setTop (mkF m pc Ls (.int z :: rest))) :=
  endO X hx Bd rfl (Or.inl ⟨rfl, Or.inl rfl, z, rfl⟩) hd hK N hc hs
theorem endJ (X : Stand p l e R s m args below meth c T locs cells slots) (hx : p.tables.exec = Jvm.exec) (Bd : BodyLoose p l x S code' ml (some .long) e s m args below meth c s₁) {z : Int64}
    (hd : decode c.code pc = .ok (.lreturn, 1)) (hK : K (some (.long z)) T.heap) (N : Fr n0 locs) (hc : cells ≤ cc) (hs : slots ≤ nn) : Gl p e below s n0 cc nn K (T.setTop (mkF m pc Ls (.long z :: rest))) :=
  endO X hx Bd rfl (Or.inr (Or.inl ⟨rfl, rfl, z, rfl⟩)) hd hK N hc hs
theorem endR (X : Stand p l e R s m args below meth c T locs cells slots) (hx : p.tables.exec = Jvm.exec) {t : FieldType} (Bd : BodyLoose p l x S code' ml (some t) e s m args below meth c s₁) (ht : t.isReference = true) {a : Addr}
    (hd : decode c.code pc = .ok (.areturn, 1)) (hK : K (some (.ref a)) T.heap) (N : Fr n0 locs) (hc : cells ≤ cc) (hs : slots ≤ nn) : Gl p e below s n0 cc nn K (T.setTop (mkF m pc Ls (.ref a :: rest))) :=
  endO X hx Bd (by cases t <;> first | rfl | cases ht) (Or.inr (Or.inr (Or.inr (Or.inr ⟨rfl, ht, rfl⟩)))) hd hK N hc hs
theorem endV (X : Stand p l e R s m args below meth c T locs cells slots) (hx : p.tables.exec = Jvm.exec) (Bd : BodyLoose p l x S code' ml none e s m args below meth c s₁)
    (hd : decode c.code pc = .ok (.return_, 1)) (hK : K none T.heap) (N : Fr n0 locs) (hc : cells ≤ cc) (hs : slots ≤ nn) : Gl p e below s n0 cc nn K (T.setTop (mkF m pc Ls [])) := by
  obtain ⟨fs, hr, hrun, hended, hW, hsame⟩ := X.leave (v := none) (fun _ => rfl)
  exact ⟨_, _, X.returnOut hx Bd.returns hd hr, hrun, hended, _, _, rfl, ⟨hK, N⟩, ⟨_, rfl⟩, hW, hsame.mono hc hs⟩
theorem own_mv {L L' : List Loc} {k k' n n' : Nat} (X : Stand p l e R s m args below meth c T L k n) (h1 : L = L') (h2 : k = k') (h3 : n = n') : Stand p l e R s m args below meth c T L' k' n' := by subst h1 h2 h3; exact X
theorem lremM {g : JFrame} {target : State} (X : Stand p l e R s m args below meth c T locs cells slots) (hx : p.tables.exec = Jvm.exec) (hg : g.method = m) {x y : Int64} {rest : List Value} (hd : decode c.code g.pc = .ok (.lrem, 1)) (hs : g.stack = .long y :: .long x :: rest) (hy : y ≠ 0)
    (hr : Steps p.tables e below (T.setTop { g with pc := g.pc + 1, stack := .long (x % y) :: rest }) target) : Steps p.tables e below (T.setTop g) target := by
  have q := lrem_mod x y
  exact XS.lrem X.here hx hg hd hs hy (by rw [q]; exact hr)
theorem sta_keep {Z : State} {h h' : Heap} {a : Addr} {C n d D : String} {w : Value} (F : Sta Z h C n d w) (Kp : Keep h h' [a]) (E : Exa Z h a D) : Sta Z h' C n d w := by
  obtain ⟨cf, i, k, f, st, cell, h1, h2, h3, h4, h5, h6, h7⟩ := F
  obtain ⟨cell', k', e1, -, -, e4, -⟩ := E
  refine ⟨cf, i, k, f, st, cell, h1, h2, h3, h4, Kp.2.1 st cell h5 (ninS (fun q => ?_) nin0), h6, h7⟩
  subst q; cases h5.symm.trans e1; rw [h6] at e4; cases e4
theorem sta_keepN {Z : State} {h h' : Heap} {ws : List Addr} {C n d : String} {w : Value} (F : Sta Z h C n d w) (Kp : Keep h h' ws) (hn : ∀ x ∈ ws, ∀ cell : Cell, h[x]? = some cell → cell.vm.isStatics = false) : Sta Z h' C n d w := by
  obtain ⟨cf, i, k, f, st, cell, h1, h2, h3, h4, h5, h6, h7⟩ := F
  refine ⟨cf, i, k, f, st, cell, h1, h2, h3, h4, Kp.2.1 st cell h5 (fun q => ?_), h6, h7⟩
  have := hn st q cell h5
  rw [h6] at this; cases this
theorem sta_keep0 {Z : State} {h h' : Heap} {C n d : String} {w : Value} (F : Sta Z h C n d w) (Kp : Keep h h' []) : Sta Z h' C n d w := by
  obtain ⟨cf, i, k, f, st, cell, h1, h2, h3, h4, h5, h6, h7⟩ := F
  exact ⟨cf, i, k, f, st, cell, h1, h2, h3, h4, Kp.2.1 st cell h5 nin0, h6, h7⟩
theorem sel_priv {Z s : State} {a0 args : Array Value} {y : MethodName} {n : Nat} (hZ : Z.Warmed39 s.vm) (wi : (Cond.instantiable y.cls n).before a0 Z = true) (wp : (Cond.privateMethod y).before a0 Z = true) (wm : (Cond.instanceMethod y).before a0 Z = true) (hy : y.cls ≠ "java/lang/invoke/MethodHandle" ∧ y.cls ≠ "java/lang/invoke/VarHandle") : (Cond.selects y.cls y y).before args s = true := by
  obtain ⟨c, k, h1, h2, -, h4, -⟩ := Cond.instantiable_spec (show (Cond.instantiable y.cls n).before args s = true from mvT hZ wi)
  exact Jvm.Stand.selects_self_of_private h1 h2 (by simp only [Bool.or_eq_false_iff] at h4; exact h4.1) (Cond.privateMethod_at (mvP hZ wp (args := args))) (mvT hZ wm) hy
theorem eqL_v {t : Term} {k : Int64} {a0 : Array Value} {first u : State} {o : Option Outcome} {idx : List Nat} (h : (Cond.eq t (.long k)).value a0 first o u idx = some true) : t.eval a0 first o idx u = some (.long k) := by
  simp only [Cond.value, Term.eval] at h
  cases ht : t.eval a0 first o idx u with
  | none => simp [ht] at h
  | some x => cases x <;> simp [ht] at h ⊢; exact h
theorem eqI_v {t : Term} {k : Int32} {a0 : Array Value} {first u : State} {o : Option Outcome} {idx : List Nat} (h : (Cond.eq t (.int k)).value a0 first o u idx = some true) : t.eval a0 first o idx u = some (.int k) := by
  simp only [Cond.value, Term.eval] at h
  cases ht : t.eval a0 first o idx u with
  | none => simp [ht] at h
  | some x => cases x <;> simp [ht] at h ⊢; exact h
end OwnKit
def own_EL : List (String × Nat) := [("java/lang/String", 7)]
section OwnS
variable {p : Program} {l : Launch} {e : Env} {R : Room} {s : State} {m : MethodId} {args : Array Value} {below : List Frame} {meth : Method} {c : Code} {T : State} {locs : List Loc} {cells slots : Nat} {n0 cc nn : Nat} {K : Option Value → Heap → Prop} {P : Heap → Prop} {A B Z : State} {EL : List (String × Nat)}
/-- from A the run comes to this body's end, and K holds there; the constants held go along -/
def GlS (p : Program) (e : Env) (below : List Frame) (s Z : State) (EL : List (String × Nat)) (n0 cc nn : Nat) (K : Option Value → Heap → Prop) (A : State) : Prop :=
  ∃ t o, Steps p.tables e below A t ∧ t.status = .running ∧ Ended t below o ∧ ∃ v L, o = .returned v ∧ QK n0 K v t.heap L ∧ CHr Z EL s.vm s.heap t.vm t.heap ∧ ReturnedEndW s o t L cc nn
theorem goS (st : ∀ t, Steps p.tables e below B t → Steps p.tables e below A t) (h : GlS p e below s Z EL n0 cc nn K B) : GlS p e below s Z EL n0 cc nn K A := by
  obtain ⟨t, o, h1, h2⟩ := h; exact ⟨t, o, st t h1, h2⟩
theorem gl_startS {g g' : JFrame} (q : g = g') (h : GlS p e below s Z EL n0 cc nn K (T.setTop g')) :
    ∃ t o, Steps p.tables e below (T.setTop g) t ∧ t.status = .running ∧ Ended t below o ∧ ∃ v L, o = .returned v ∧ QK n0 K v t.heap L ∧ CHr Z EL s.vm s.heap t.vm t.heap ∧ ReturnedEndW s o t L cc nn := by
  subst q; exact h
theorem gIS {c : Prop} [Decidable c] {a b : Int32} (h1 : c → GlS p e below s Z EL n0 cc nn (Kv (some (.int a)) P) A) (h2 : ¬ c → GlS p e below s Z EL n0 cc nn (Kv (some (.int b)) P) A) : GlS p e below s Z EL n0 cc nn (Kv (some (.int (if c then a else b))) P) A := by
  by_cases h : c
  · rw [if_pos h]; exact h1 h
  · rw [if_neg h]; exact h2 h
theorem gVS {c : Prop} [Decidable c] (h1 : c → GlS p e below s Z EL n0 cc nn K A) (h2 : ¬ c → GlS p e below s Z EL n0 cc nn K A) : GlS p e below s Z EL n0 cc nn K A := by
  by_cases h : c
  · exact h1 h
  · exact h2 h
theorem own_cend {vm1 : Vm} {h0 h : Heap} (hh : s.heap = h0) (eT : T.heap = h) (q : CHr Z EL s.vm h0 vm1 h) : CHr Z EL s.vm s.heap vm1 T.heap := by rw [hh, eT]; exact q
theorem own_hk {h : Heap} {k : Nat} (e : T.heap = h) (q : k ≤ h.size) : k ≤ T.heap.size := by rw [e]; exact q
theorem own_since (s : State) : s.Since s.vm s.heap.size := ⟨State.Warmed39.refl s, fun j q hj hq => absurd (Array.getElem?_eq_some_iff.mp hq).1 (Nat.not_lt.mpr hj)⟩
variable {x : MethodName} {S : Spec} {code' : ByteArray} {ml : Nat} {s₁ : State} {pc : Nat} {Ls : Array Slot} {rest : List Value} {vm : Vm} {k0 : Nat}
theorem endNS (X : Stand p l e R (s.setVm vm) m args below meth c T locs cells slots) (hx : p.tables.exec = Jvm.exec) {t : FieldType} (Bd : BodyLoose p l x S code' ml (some t) e s m args below meth c s₁) (ht : t = .boolean ∨ t = .byte ∨ t = .char ∨ t = .short) {z : Int32}
    (hd : decode c.code pc = .ok (.ireturn, 1)) (hK : K (some (.int (nar t z))) T.heap) (N : Fr n0 locs) (hc : cells ≤ cc) (hs : slots ≤ nn) (hS : s.Since vm k0) (hk : k0 ≤ T.heap.size) (hC : CHr Z EL s.vm s.heap T.vm T.heap) : GlS p e below s Z EL n0 cc nn K (T.setTop (mkF m pc Ls (.int z :: rest))) := by
  obtain ⟨fs, hr, hrun, hended, hW⟩ := X.leaveW hS hk (v := some (.int (nar t z))) (fun h => by rw [Bd.returns] at h; cases h)
  exact ⟨_, _, retN X hx Bd.returns ht hd hr, hrun, hended, _, _, rfl, ⟨hK, N⟩, hC, hW.1, hW.2.1, hW.2.2.1, hW.2.2.2.mono hc hs⟩
theorem endRS (X : Stand p l e R (s.setVm vm) m args below meth c T locs cells slots) (hx : p.tables.exec = Jvm.exec) {t : FieldType} (Bd : BodyLoose p l x S code' ml (some t) e s m args below meth c s₁) (ht : t.isReference = true) {a : Addr}
    (hd : decode c.code pc = .ok (.areturn, 1)) (hK : K (some (.ref a)) T.heap) (N : Fr n0 locs) (hc : cells ≤ cc) (hs : slots ≤ nn) (hS : s.Since vm k0) (hk : k0 ≤ T.heap.size) (hC : CHr Z EL s.vm s.heap T.vm T.heap) : GlS p e below s Z EL n0 cc nn K (T.setTop (mkF m pc Ls (.ref a :: rest))) := by
  obtain ⟨fs, hr, hrun, hended, hW⟩ := X.leaveW hS hk (v := some (.ref a)) (fun h => by rw [Bd.returns] at h; cases h)
  exact ⟨_, _, retOut X hx Bd.returns (by cases t <;> first | rfl | cases ht) (Or.inr (Or.inr (Or.inr (Or.inr ⟨rfl, ht, rfl⟩)))) hd hr, hrun, hended, _, _, rfl, ⟨hK, N⟩, hC, hW.1, hW.2.1, hW.2.2.1, hW.2.2.2.mono hc hs⟩
theorem endVS (X : Stand p l e R (s.setVm vm) m args below meth c T locs cells slots) (hx : p.tables.exec = Jvm.exec) (Bd : BodyLoose p l x S code' ml none e s m args below meth c s₁)
    (hd : decode c.code pc = .ok (.return_, 1)) (hK : K none T.heap) (N : Fr n0 locs) (hc : cells ≤ cc) (hs : slots ≤ nn) (hS : s.Since vm k0) (hk : k0 ≤ T.heap.size) (hC : CHr Z EL s.vm s.heap T.vm T.heap) : GlS p e below s Z EL n0 cc nn K (T.setTop (mkF m pc Ls [])) := by
  obtain ⟨fs, hr, hrun, hended, hW⟩ := X.leaveW hS hk (v := none) (fun _ => rfl)
  exact ⟨_, _, X.returnOut hx Bd.returns hd hr, hrun, hended, _, _, rfl, ⟨hK, N⟩, hC, hW.1, hW.2.1, hW.2.2.1, hW.2.2.2.mono hc hs⟩
end OwnS
section OwnT
variable {Z : State} {vm : Vm} {h : Heap} {x : Addr} {EL : List (String × Nat)} {a0 : Array Value}
theorem own_safe (hal : Z.vm.Alike vm) (E : Exa Z h x "java/lang/String") (F : Fld Z h x "java/lang/String" "value" "[B" .null) : Safe Z EL vm h x := by
  rintro ⟨_, -, _, _, -, q, -, G, hy⟩
  rcases hy with hy | hy
  · -- a booked String's value is no null
    subst hy
    obtain ⟨_, ⟨⟨g1, -, -, ⟨_, _, _, g4, -⟩, -, -, -, g8, -⟩, -⟩, -⟩ := G
    obtain ⟨d, _, _, _, _, f1, f2, -, -, -, -, f7⟩ := F
    obtain ⟨_, b4⟩ := ff_back (U := Wst Z vm h) hal g4
    injection b4.symm.trans f2 with b5
    injection b5 with _ b6
    injection b6 with _ b7
    injection b7 with _ b8
    have b9 : q.sC = d := Option.some.inj ((show h[q.sa]? = some q.sC from g1).symm.trans f1)
    rw [← b8, ← b9, g8] at f7
    cases f7
  · -- nor is a String a byte[]
    subst hy
    have hd := G.hd
    obtain ⟨_, -, -, f, -⟩ := G
    obtain ⟨d, _, e1, e2, -⟩ := E
    have b9 : q.SA = d := Option.some.inj ((show h[q.sd]? = some q.SA from hd).symm.trans e1)
    have f' : Z.vm.findClass "[B" = some d.cls := by rw [← b9]; exact ((hal.findClass _ _).symm.trans f)
    exact ids_ne f' e2 (by decide) rfl
theorem own_ew (hw : ∀ d ∈ tables_1, d.before a0 Z = true) : EW Z a0 own_EL := EW.cons (hw _ (List.mem_of_getElem? (i := 18) rfl)) (fun c q => nomatch q) EW.nil
theorem own_ws (hw : ∀ d ∈ tables_1, d.before a0 Z = true) : ∀ a ∈ Bundle.stringAtoms, a.before a0 Z = true := fun d hd => by
  simp only [Bundle.stringAtoms, List.mem_cons, List.not_mem_nil, or_false] at hd
  rcases hd with rfl | rfl | rfl | rfl | rfl | rfl | rfl
  · exact hw _ (List.mem_of_getElem? (i := 6) rfl)
  · exact hw _ (List.mem_of_getElem? (i := 5) rfl)
  · exact hw _ (List.mem_of_getElem? (i := 19) rfl)
  · exact hw _ (List.mem_of_getElem? (i := 20) rfl)
  · exact hw _ (List.mem_of_getElem? (i := 21) rfl)
  · exact hw _ (List.mem_of_getElem? (i := 22) rfl)
  · exact hw _ (List.mem_of_getElem? (i := 23) rfl)
end OwnT
/-- a String of these chars -/
def own_str (Z : State) (h : Heap) (x : Addr) (cs : List Int32) : Prop := ∃ (t : Addr) (kb : ClassId), Exa Z h x "java/lang/String" ∧ Fld Z h x "java/lang/String" "value" "[B" (.ref t) ∧ Fld Z h x "java/lang/String" "coder" "B" (.int (0 : Int32)) ∧ Arv Z h t kb .byte (Int32.ofNat cs.length) ((cs.map fun c => c.toInt8.toInt32).map Value.int) (.int 0)
section OwnU
variable {Z : State} {h h' : Heap} {x o : Addr} {cs ds : List Int32} {a0 : Array Value}
theorem own_str.exa (T : own_str Z h x cs) : Exa Z h x "java/lang/String" := by obtain ⟨t, kb, E, -⟩ := T; exact E
theorem own_str.ext (T : own_str Z h x cs) (E : Ext h h') : own_str Z h' x cs := by obtain ⟨t, kb, e1, e2, e3, e4⟩ := T; exact ⟨t, kb, e1.ext E, e2.ext E, e3.ext E, e4.ext E⟩
theorem own_str.keep0 (T : own_str Z h x cs) (K : Keep h h' []) : own_str Z h' x cs := by obtain ⟨t, kb, e1, e2, e3, e4⟩ := T; exact ⟨t, kb, e1.keep K, e2.keep K nin0, e3.keep K nin0, e4.keep K nin0⟩
theorem own_str.keep1 (T : own_str Z h x cs) (K : Keep h h' [o]) (E : Exa Z h o "com/example/tercet/tercet/SyntaxWarning") {n : Nat} (w : (Cond.instantiable "com/example/tercet/tercet/SyntaxWarning" n).before a0 Z = true) : own_str Z h' x cs := by
  obtain ⟨t, kb, e1, e2, e3, e4⟩ := T
  have q1 : x ≠ o := e1.ne E (by decide)
  have q2 : t ≠ o := (E.neArv e4 w).symm
  exact ⟨t, kb, e1.keep K, e2.keep K (ninS q1 nin0), e3.keep K (ninS q1 nin0), e4.keep K (ninS q2 nin0)⟩
def own_cs (n a b : Int32) : List Int32 := if n = 0 then [] else if n = 1 then [a] else [a, b]
theorem own_cs0 {n a b : Int32} (h : n = 0) : own_cs n a b = [] := by unfold own_cs; rw [if_pos h]
theorem own_cs1 {n a b : Int32} (h : ¬ n = 0) (h1 : n = 1) : own_cs n a b = [a] := by unfold own_cs; rw [if_neg h, if_pos h1]
theorem own_cs2 {n a b : Int32} (h : ¬ n = 0) (h1 : ¬ n = 1) : own_cs n a b = [a, b] := by unfold own_cs; rw [if_neg h, if_neg h1]
theorem own_b1 {a : Int32} (h : ¬ a < 0 ∧ ¬ (255 : Int32) < a) : ∀ c ∈ ([a] : List Int32), ¬ c < 0 ∧ ¬ (255 : Int32) < c := fun c hc => by
  cases List.mem_singleton.mp hc; exact h
theorem own_b2 {a b : Int32} (h : ¬ a < 0 ∧ ¬ (255 : Int32) < a) (h' : ¬ b < 0 ∧ ¬ (255 : Int32) < b) : ∀ c ∈ ([a, b] : List Int32), ¬ c < 0 ∧ ¬ (255 : Int32) < c := fun c hc => by
  rcases List.mem_cons.mp hc with rfl | hc
  · exact h
  · cases List.mem_singleton.mp hc; exact h'
/-- short, and each char below 256 -/
def own_lat (cs : List Int32) : Prop := cs.length ≤ 4000 ∧ ∀ c ∈ cs, ¬ c < 0 ∧ ¬ (255 : Int32) < c
theorem own_lats {n a b : Int32} (h : ¬ a < 0 ∧ ¬ (255 : Int32) < a) (h' : ¬ b < 0 ∧ ¬ (255 : Int32) < b) : own_lat (own_cs n a b) := by
  unfold own_cs
  split
  · exact ⟨by simp, fun c hc => by cases hc⟩
  · split
    · exact ⟨by simp, own_b1 h⟩
    · exact ⟨by simp, own_b2 h h'⟩
theorem own_cod (h : own_lat cs) : StrChars.Road.CodA cs 0 (Int32.ofNat cs.length) ((cs.map fun c => c.toInt8.toInt32).map Value.int) := StrChars.Road.codOf rfl (fun c hc => (h.2 c hc).2)
theorem own_up (h : own_lat cs) : ∀ c ∈ cs, ¬ c < 0 ∧ ¬ (65535 : Int32) < c := fun c hc => by
  obtain ⟨h1, h2⟩ := h.2 c hc
  refine ⟨h1, fun q => h2 ?_⟩
  rw [Int32.lt_iff_toInt_lt] at q ⊢
  have e1 : (65535 : Int32).toInt = 65535 := by decide
  have e2 : (255 : Int32).toInt = 255 := by decide
  omega
def own_eq (cs ds : List Int32) : Int32 := if cs = ds then 1 else 0
theorem own_eqv {v : Option Value} (h : (v = some (.int 1) ∧ cs = ds) ∨ (v = some (.int 0) ∧ ¬ cs = ds)) : v = some (.int (own_eq cs ds)) := by
  unfold own_eq
  rcases h with ⟨rfl, e⟩ | ⟨rfl, e⟩
  · rw [if_pos e]
  · rw [if_neg e]
theorem own_wV (hw : ∀ d ∈ tables_1, d.before a0 Z = true) : ∀ d ∈ StrChars.Road.words, d.before a0 Z = true := fun d hd => hw d ((by decide +kernel : ∀ d ∈ StrChars.Road.words, d ∈ tables_1) d hd)
theorem own_wE (hw : ∀ d ∈ tables_1, d.before a0 Z = true) : ∀ d ∈ StrChars.Road.wordsEq, d.before a0 Z = true := fun d hd => hw d ((by decide +kernel : ∀ d ∈ StrChars.Road.wordsEq, d ∈ tables_1) d hd)
theorem own_not {n : Nat} (wS : (Cond.superclass "java/lang/String" "java/lang/Object").before a0 Z = true) (wO : (Cond.noSuperclass "java/lang/Object").before a0 Z = true) (wi : (Cond.instantiable "com/example/tercet/tercet/SyntaxWarning" n).before a0 Z = true) :
    ∃ c t, Z.vm.findClass "java/lang/String" = some c ∧ Z.vm.findClass "com/example/tercet/tercet/SyntaxWarning" = some t ∧ Z.vm.assignable c t = false := by
  obtain ⟨t, kt, ft, ht, ot, it, -⟩ := Cond.instantiable_spec wi
  obtain ⟨o, ko, fo, ho, so, -, -⟩ := Cond.noSuperclass_spec wO
  have root : NS Z "java/lang/Object" "com/example/tercet/tercet/SyntaxWarning" := ⟨o, t, fo, ft, fun fuel => by
    have q : (o == t) = false := by simpa using ids_ne fo ft (by decide)
    cases fuel <;> simp [Vm.isSubclassAux, q, ho, so]⟩
  obtain ⟨c, t', fc, ft', no⟩ := NS.step wS root (by decide)
  cases ft.symm.trans ft'
  obtain ⟨-, kc, -, -, hc, -, -, oc, -⟩ := Cond.superclass_spec fc wS
  refine ⟨c, t, fc, ft, Bool.eq_false_iff.mpr fun q => ?_⟩
  have r := isSubclass_of_assignable hc ht oc ot (Bool.or_eq_false_iff.mp it).1 q
  exact absurd (r.symm.trans (no _)) (by decide)
theorem own_u16 (u : UInt16) : (u.toUInt32.toInt32).toInt = u.toNat := by
  have hu := u.toNat_lt
  have e : (u.toUInt32.toInt32).toInt = u.toUInt32.toBitVec.toInt := rfl
  rw [e, BitVec.toInt_eq_toNat_cond]
  have e2 : u.toUInt32.toBitVec.toNat = u.toNat := by simp
  rw [e2]; split <;> omega
theorem own_chb (x : Int32) : ¬ ((x &&& (255 : Int32)).toUInt32.toUInt16.toUInt32.toInt32) < 0 ∧ ¬ (255 : Int32) < ((x &&& (255 : Int32)).toUInt32.toUInt16.toUInt32.toInt32) := by
  have e3 : ((x &&& (255 : Int32)).toUInt32.toUInt16).toNat = ((x &&& (255 : Int32)).toUInt32.toNat) % 2 ^ 16 := UInt32.toNat_toUInt16 _
  have e4 : (x &&& (255 : Int32)).toUInt32.toNat = x.toBitVec.toNat &&& 255 := rfl
  have e5 : x.toBitVec.toNat &&& 255 ≤ 255 := Nat.and_le_right
  rw [Int32.lt_iff_toInt_lt, Int32.lt_iff_toInt_lt, own_u16, e3, e4]; simp only [Int32.reduceToInt]; omega
theorem own_nar (u : UInt16) : nar .char u.toUInt32.toInt32 = u.toUInt32.toInt32 := by
  show ((u.toUInt32.toInt32).toUInt32.toUInt16).toUInt32.toInt32 = _
  have e : (u.toUInt32.toInt32).toUInt32.toUInt16 = u := by simp
  rw [e]
theorem own_nar2 {z : Int32} (h : ¬ z < 0 ∧ ¬ (255 : Int32) < z) : nar .char z = z := by
  obtain ⟨h1, h2⟩ := h
  rw [Int32.lt_iff_toInt_lt] at h1 h2
  simp only [Int32.reduceToInt] at h1 h2
  have e : z = (UInt16.ofNat z.toInt.toNat).toUInt32.toInt32 := by
    apply Int32.toInt_inj.mp
    have e6 : (UInt16.ofNat z.toInt.toNat).toNat = z.toInt.toNat % 2 ^ 16 := rfl
    rw [own_u16, e6]
    omega
  rw [e]; exact own_nar _
theorem own_narb {z : Int32} (h : ¬ z < 0 ∧ ¬ (255 : Int32) < z) : ¬ nar .char z < 0 ∧ ¬ (255 : Int32) < nar .char z := by rw [own_nar2 h]; exact h
end OwnU
theorem d3_0 : decode jdk_42_method_149_code 0 = .ok (.aload_n 0, 1) := by decide +kernel
theorem d3_1 : decode jdk_42_method_149_code 1 = .ok (.invokespecial 1, 3) := by decide +kernel
theorem d3_4 : decode jdk_42_method_149_code 4 = .ok (.iload_n 3, 1) := by decide +kernel
theorem d3_5 : decode jdk_42_method_149_code 5 = .ok (.ifCond .ne 22, 3) := by decide +kernel
theorem d3_8 : decode jdk_42_method_149_code 8 = .ok (.aload_n 0, 1) := by decide +kernel
theorem d3_9 : decode jdk_42_method_149_code 9 = .ok (.ldc 7, 2) := by decide +kernel
theorem d3_11 : decode jdk_42_method_149_code 11 = .ok (.getfield 9, 3) := by decide +kernel
theorem d3_14 : decode jdk_42_method_149_code 14 = .ok (.putfield 9, 3) := by decide +kernel
theorem d3_17 : decode jdk_42_method_149_code 17 = .ok (.aload_n 0, 1) := by decide +kernel
theorem d3_18 : decode jdk_42_method_149_code 18 = .ok (.ldc 7, 2) := by decide +kernel
theorem d3_20 : decode jdk_42_method_149_code 20 = .ok (.getfield 15, 3) := by decide +kernel
theorem d3_23 : decode jdk_42_method_149_code 23 = .ok (.putfield 15, 3) := by decide +kernel
theorem d3_26 : decode jdk_42_method_149_code 26 = .ok (.return_, 1) := by decide +kernel
theorem pn_0 : plainName "java/lang/String" = true := by first | (simp [plainName, overriddenIn]; done) | decide +kernel
theorem ef_3te (m : MethodId) (a1 : Addr) (a2 : Addr) : entryFrame m #[(.ref a1), (.ref a2), (.int (0 : Int32)), (.int (0 : Int32)), .null] 6 = mkF m 0 #[.val (.ref a1), .val (.ref a2), .val (.int (0 : Int32)), .val (.int (0 : Int32)), .val .null, .unset] [] := by first | (simp [entryFrame, mkF, argsToLocals, Value.category]; done) | rfl
set_option maxRecDepth 65536 in
set_option maxHeartbeats 40000000 in
theorem rm3te (l : Launch) (Z : State) (a0 : Array Value) (hw : ∀ d ∈ tables_1, d.before a0 Z = true) (ws : List Jvm.Cond) (a1 : Addr) (a2 : Addr) (h0 : Heap) (n0 : Nat) (Z0 : n0 ≤ h0.size) (E_a1 : Exa Z h0 a1 "java/lang/String") (g_a1 : n0 ≤ a1) (F_value_a1 : Fld Z h0 a1 "java/lang/String" "value" "[B" .null) (F_coder_a1 : Fld Z h0 a1 "java/lang/String" "coder" "B" (.int (0 : Int32))) :
    MetFree l (⟨"java/lang/String", "<init>", "([CIILjava/lang/Void;)V"⟩ : MethodName) (head1 (Jvm.Cond.code (⟨"java/lang/String", "<init>", "([CIILjava/lang/Void;)V"⟩ : MethodName) jdk_42_method_149_code 6 none :: ws) ({ frames := 1, cells := 4, slots := 8, locals := 12 } : Room)) (fun a U => a = #[(.ref a1), (.ref a2), (.int (0 : Int32)), (.int (0 : Int32)), .null] ∧ Z.Warmed39 U.vm ∧ U.heap = h0 ∧ CHv Z own_EL U.vm h0) (fun _ _ _ _ _ => True) (fun _ U o U' => ∃ v L, o = .returned v ∧ QK n0 (fun v h => ∃ (k0 : ClassId) (z0 : Addr), v = none ∧ Keep h0 h [a1] ∧ Exa Z h a1 "java/lang/String" ∧ Fld Z h a1 "java/lang/String" "value" "[B" (.ref z0) ∧ Fld Z h a1 "java/lang/String" "coder" "B" (.int (0 : Int32)) ∧ Arv Z h z0 k0 .byte (0 : Int32) [] (.int 0)) v U'.heap L ∧ CHr Z own_EL U.vm U.heap U'.vm U'.heap ∧ ReturnedEndW U o U' L ({ frames := 1, cells := 4, slots := 8, locals := 12 } : Room).cells ({ frames := 1, cells := 4, slots := 8, locals := 12 } : Room).slots) := by
  refine MetFree.of_bodySF (plainFor_of_name pn_0) hisR ?_
  intro p e s m args below meth c s₁ Bd hml0 hP hK
  obtain ⟨rfl, hZ, hh, hC⟩ := hP
  have hx := Bd.exec
  have hby := Bd.bytes
  have hml : c.maxLocals = 6 := hml0
  have hown : s.vm.findClass "java/lang/String" = some m.cls := findClass_of_methodNamed Bd.named
  have hnm := (name_of_methodNamed Bd.named Bd.method).1
  have X0 : Stand p l e ({ frames := 1, cells := 4, slots := 8, locals := 12 } : Room) (s.setVm s.vm) m #[(.ref a1), (.ref a2), (.int (0 : Int32)), (.int (0 : Int32)), .null] below meth c s₁ [] 0 0 := Stand.of_body Bd
  have e0 : s₁.heap = h0 := by rw [← hh, Bd.state]; rfl
  have N0 := Fr.nil n0
  have hEL := own_ew hw
  have hwS := own_ws hw
  have hS0 : s.Since s.vm s.heap.size := own_since s
  have hk0 : s.heap.size ≤ h0.size := by rw [← hh]; exact Nat.le_refl _
  have C0 : CHr Z own_EL s.vm h0 s.vm h0 := CHr.refl hC
  refine gl_startS (ef_3te m a1 a2) ?_
  show GlS p e below s Z own_EL n0 ({ frames := 1, cells := 4, slots := 8, locals := 12 } : Room).cells ({ frames := 1, cells := 4, slots := 8, locals := 12 } : Room).slots (fun v h => ∃ (k0 : ClassId) (z0 : Addr), v = none ∧ Keep h0 h [a1] ∧ Exa Z h a1 "java/lang/String" ∧ Fld Z h a1 "java/lang/String" "value" "[B" (.ref z0) ∧ Fld Z h a1 "java/lang/String" "coder" "B" (.int (0 : Int32)) ∧ Arv Z h z0 k0 .byte (0 : Int32) [] (.int 0)) (s₁.setTop (mkF m 0 #[.val (.ref a1), .val (.ref a2), .val (.int (0 : Int32)), .val (.int (0 : Int32)), .val .null, .unset] []))
  have Zf0 : Safe Z own_EL s.vm h0 a1 := own_safe hZ.alike E_a1 F_value_a1
  refine goS (fun t k => XS.aloadN X0.here hx rfl (hb hby d3_0) rfl rfl k) ?_
  show GlS _ _ _ _ _ _ _ _ _ _ (s₁.setTop (mkF m 1 #[.val (.ref a1), .val (.ref a2), .val (.int (0 : Int32)), .val (.int (0 : Int32)), .val .null, .unset] [(.ref a1)]))
  obtain ⟨T1, X1, e1, st1⟩ := initO X0 hx hZ hown (hw _ (List.mem_of_getElem? (i := 15) rfl)) (hw _ (List.mem_of_getElem? (i := 16) rfl)) (hw _ (List.mem_of_getElem? (i := 17) rfl)) e0 (g := (mkF m 1 #[.val (.ref a1), .val (.ref a2), .val (.int (0 : Int32)), .val (.int (0 : Int32)), .val .null, .unset] [(.ref a1)])) rfl (by rw [hml]; rfl) rfl (hb hby d3_1) (by decide) (W := 0) (by show 2 * 0 + _ ≤ _; exact Nat.le_of_eq rfl) (by decide)
  refine goS (fun t k => st1 _ k) ?_
  show GlS _ _ _ _ _ _ _ _ _ _ (T1.setTop (mkF m 4 #[.val (.ref a1), .val (.ref a2), .val (.int (0 : Int32)), .val (.int (0 : Int32)), .val .null, .unset] []))
  refine goS (fun t k => XS.iloadN X1.here hx rfl (hb hby d3_4) rfl  k) ?_
  show GlS _ _ _ _ _ _ _ _ _ _ (T1.setTop (mkF m 5 #[.val (.ref a1), .val (.ref a2), .val (.int (0 : Int32)), .val (.int (0 : Int32)), .val .null, .unset] [(.int (0 : Int32))]))
  refine goS (fun t k => XS.ifNo X1.here hx rfl (hb hby d3_5) rfl ((if0 _ _).trans (teq (by decide : (0 : Int32) = (0 : Int32))).2) k) ?_
  show GlS _ _ _ _ _ _ _ _ _ _ (T1.setTop (mkF m 8 #[.val (.ref a1), .val (.ref a2), .val (.int (0 : Int32)), .val (.int (0 : Int32)), .val .null, .unset] []))
  refine goS (fun t k => XS.aloadN X1.here hx rfl (hb hby d3_8) rfl rfl k) ?_
  show GlS _ _ _ _ _ _ _ _ _ _ (T1.setTop (mkF m 9 #[.val (.ref a1), .val (.ref a2), .val (.int (0 : Int32)), .val (.int (0 : Int32)), .val .null, .unset] [(.ref a1)]))
  obtain ⟨y2_s, T2, h2, kk2, y2_sb, k2, X2, e2, E2, hS2, hk2, hZ2, hown2, EA2, FC2, FV2, VB2, -, -, Cq2, -, hsf2, st2⟩ := ldcCH X1 hx hZ hown (hw _ (List.mem_of_getElem? (i := 18) rfl)) hwS e1 hS0 hk0 hEL (List.mem_of_getElem? (i := 0) rfl) C0.1 (vs := []) (z := 0) ⟨fun c q => (nomatch q), rfl⟩ (by decide) rfl (g := (mkF m 9 #[.val (.ref a1), .val (.ref a2), .val (.int (0 : Int32)), .val (.int (0 : Int32)), .val .null, .unset] [(.ref a1)])) rfl (hb hby d3_9) (n := 0) (by decide) (by decide) (by decide) (by decide)
  have C2 := C0.trans Cq2
  have K2 : Keep h0 h2 [a1] := (Keep.refl h0 [a1]).ext E2
  have Zf2_a1 := Cq2.safe E_a1.lt Zf0
  have ne_a1_y2_s : a1 ≠ y2_s := (hsf2 _ Zf2_a1).1
  have ne_a1_y2_sb : a1 ≠ y2_sb := (hsf2 _ Zf2_a1).2
  refine goS (fun t k => st2 _ k) ?_
  show GlS _ _ _ _ _ _ _ _ _ _ (T2.setTop (mkF m 11 #[.val (.ref a1), .val (.ref a2), .val (.int (0 : Int32)), .val (.int (0 : Int32)), .val .null, .unset] [(.ref y2_s), (.ref a1)]))
  obtain ⟨T3, X3, e3, st3⟩ := getF X2 hx hZ2 hown2 (host := "") (Or.inl (hw _ (List.mem_of_getElem? (i := 24) rfl))) Via.refl e2 FV2 (g := (mkF m 11 #[.val (.ref a1), .val (.ref a2), .val (.int (0 : Int32)), .val (.int (0 : Int32)), .val .null, .unset] [(.ref y2_s), (.ref a1)])) rfl rfl (hb hby d3_11)
  refine goS (fun t k => st3 _ k) ?_
  show GlS _ _ _ _ _ _ _ _ _ _ (T3.setTop (mkF m 14 #[.val (.ref a1), .val (.ref a2), .val (.int (0 : Int32)), .val (.int (0 : Int32)), .val .null, .unset] [(.ref y2_sb), (.ref a1)]))
  obtain ⟨T4, h4, X4, e4, W4, st4⟩ := putF X3 hx hZ2 hown2 (host := "") (Or.inl (hw _ (List.mem_of_getElem? (i := 24) rfl))) Via.refl e3 (F_value_a1.ext E2) (E_a1.ext E2) (Or.inr ⟨(hw _ (List.mem_of_getElem? (i := 20) rfl)), rfl, hnm⟩) (hw _ (List.mem_of_getElem? (i := 5) rfl)) (ty := (.array .byte)) (by decide) rfl rfl (g := (mkF m 14 #[.val (.ref a1), .val (.ref a2), .val (.int (0 : Int32)), .val (.int (0 : Int32)), .val .null, .unset] [(.ref y2_sb), (.ref a1)])) rfl rfl (hb hby d3_14)
  have Fw4 := (F_value_a1.ext E2).same W4
  have K4 : Keep h0 h4 [a1] := K2.wr W4 (Or.inl (List.mem_of_getElem? (i := 0) rfl))
  have N4 := Fr.snoc X4 N0 g_a1
  refine goS (fun t k => st4 _ k) ?_
  have C4 := C2.trans (CHr.wr W4 Zf2_a1 C2.1)
  have Zf4_a1 := Safe.wr W4 Zf2_a1 C2.1 Zf2_a1
  have hk4 := Nat.le_trans hk2 (Keep.of_wr W4).1
  show GlS _ _ _ _ _ _ _ _ _ _ (T4.setTop (mkF m 17 #[.val (.ref a1), .val (.ref a2), .val (.int (0 : Int32)), .val (.int (0 : Int32)), .val .null, .unset] []))
  refine goS (fun t k => XS.aloadN X4.here hx rfl (hb hby d3_17) rfl rfl k) ?_
  show GlS _ _ _ _ _ _ _ _ _ _ (T4.setTop (mkF m 18 #[.val (.ref a1), .val (.ref a2), .val (.int (0 : Int32)), .val (.int (0 : Int32)), .val .null, .unset] [(.ref a1)]))
  obtain ⟨y5_s, T5, h5, kk5, y5_sb, k5, X5, e5, E5, hS5, hk5, hZ5, hown5, EA5, FC5, FV5, VB5, -, -, Cq5, -, hsf5, st5⟩ := ldcCH X4 hx hZ2 hown2 (hw _ (List.mem_of_getElem? (i := 18) rfl)) hwS e4 hS2 hk4 hEL (List.mem_of_getElem? (i := 0) rfl) C4.1 (vs := []) (z := 0) ⟨fun c q => (nomatch q), rfl⟩ (by decide) rfl (g := (mkF m 18 #[.val (.ref a1), .val (.ref a2), .val (.int (0 : Int32)), .val (.int (0 : Int32)), .val .null, .unset] [(.ref a1)])) rfl (hb hby d3_18) (n := 0) (by decide) (by decide) (by decide) (by decide)
  have C5 := C4.trans Cq5
  have K5 : Keep h0 h5 [a1] := K4.ext E5
  have Zf5_a1 := Cq5.safe ((E_a1.ext E2).wr W4).lt Zf4_a1
  have ne_a1_y5_s : a1 ≠ y5_s := (hsf5 _ Zf5_a1).1
  have ne_a1_y5_sb : a1 ≠ y5_sb := (hsf5 _ Zf5_a1).2
  refine goS (fun t k => st5 _ k) ?_
  show GlS _ _ _ _ _ _ _ _ _ _ (T5.setTop (mkF m 20 #[.val (.ref a1), .val (.ref a2), .val (.int (0 : Int32)), .val (.int (0 : Int32)), .val .null, .unset] [(.ref y5_s), (.ref a1)]))
  obtain ⟨T6, X6, e6, st6⟩ := getF X5 hx hZ5 hown5 (host := "") (Or.inl (hw _ (List.mem_of_getElem? (i := 25) rfl))) Via.refl e5 FC5 (g := (mkF m 20 #[.val (.ref a1), .val (.ref a2), .val (.int (0 : Int32)), .val (.int (0 : Int32)), .val .null, .unset] [(.ref y5_s), (.ref a1)])) rfl rfl (hb hby d3_20)
  refine goS (fun t k => st6 _ k) ?_
  show GlS _ _ _ _ _ _ _ _ _ _ (T6.setTop (mkF m 23 #[.val (.ref a1), .val (.ref a2), .val (.int (0 : Int32)), .val (.int (0 : Int32)), .val .null, .unset] [(.int (0 : Int32)), (.ref a1)]))
  obtain ⟨T7, h7, X7, e7, W7, st7⟩ := putFN X6 hx hZ5 hown5 (hw _ (List.mem_of_getElem? (i := 25) rfl)) Via.refl e6 (((F_coder_a1.ext E2).other W4 (Or.inr (slot_ne (Or.inr (hw _ (List.mem_of_getElem? (i := 21) rfl))) (Or.inr (hw _ (List.mem_of_getElem? (i := 20) rfl))) (by decide) (t := .byte) (t' := (.array .byte)) (by decide) (by decide)))).ext E5) (((E_a1.ext E2).wr W4).ext E5) (Or.inr ⟨(hw _ (List.mem_of_getElem? (i := 21) rfl)), rfl, hnm⟩) (hw _ (List.mem_of_getElem? (i := 5) rfl)) (ty := .byte) (v' := (.int (0 : Int32))) (by decide) rfl rfl (g := (mkF m 23 #[.val (.ref a1), .val (.ref a2), .val (.int (0 : Int32)), .val (.int (0 : Int32)), .val .null, .unset] [(.int (0 : Int32)), (.ref a1)])) rfl rfl (hb hby d3_23)
  have Fw7 := (((F_coder_a1.ext E2).other W4 (Or.inr (slot_ne (Or.inr (hw _ (List.mem_of_getElem? (i := 21) rfl))) (Or.inr (hw _ (List.mem_of_getElem? (i := 20) rfl))) (by decide) (t := .byte) (t' := (.array .byte)) (by decide) (by decide)))).ext E5).same W7
  have K7 : Keep h0 h7 [a1] := K5.wr W7 (Or.inl (List.mem_of_getElem? (i := 0) rfl))
  have N7 := Fr.snoc X7 N4 g_a1
  refine goS (fun t k => st7 _ k) ?_
  have C7 := C5.trans (CHr.wr W7 Zf5_a1 C5.1)
  have Zf7_a1 := Safe.wr W7 Zf5_a1 C5.1 Zf5_a1
  have hk7 := Nat.le_trans hk5 (Keep.of_wr W7).1
  show GlS _ _ _ _ _ _ _ _ _ _ (T7.setTop (mkF m 26 #[.val (.ref a1), .val (.ref a2), .val (.int (0 : Int32)), .val (.int (0 : Int32)), .val .null, .unset] []))
  exact endVS X7 hx Bd (hb hby d3_26) ⟨k2, y2_sb, rfl, (by rw [e7]; exact ⟨K7, ((((E_a1.ext E2).wr W4).ext E5).wr W7), ((Fw4.ext E5).other W7 (Or.inr (slot_ne (Or.inr (hw _ (List.mem_of_getElem? (i := 20) rfl))) (Or.inr (hw _ (List.mem_of_getElem? (i := 21) rfl))) (by decide) (t := (.array .byte)) (t' := .byte) (by decide) (by decide)))), Fw7, (((VB2.other W4 (Ne.symm ne_a1_y2_sb)).ext E5).other W7 (Ne.symm ne_a1_y2_sb))⟩)⟩ N7 (by decide) (by decide) hS5 (own_hk e7 hk7) (own_cend hh e7 (C7.trans (CHv.at X7 hZ5 hEL C7.1)))
theorem pd_0 : parseMethodDescriptor "([CIILjava/lang/Void;)V" = some ⟨[(.array .char), .int, .int, (.object "java/lang/Void")], none⟩ := by decide +kernel
theorem d2_0 : decode jdk_42_method_3_code 0 = .ok (.aload_n 0, 1) := by decide +kernel
theorem d2_1 : decode jdk_42_method_3_code 1 = .ok (.aload_n 1, 1) := by decide +kernel
theorem d2_2 : decode jdk_42_method_3_code 2 = .ok (.iconst 0, 1) := by decide +kernel
theorem d2_3 : decode jdk_42_method_3_code 3 = .ok (.aload_n 1, 1) := by decide +kernel
theorem d2_4 : decode jdk_42_method_3_code 4 = .ok (.arraylength, 1) := by decide +kernel
theorem d2_5 : decode jdk_42_method_3_code 5 = .ok (.aconst_null, 1) := by decide +kernel
theorem d2_6 : decode jdk_42_method_3_code 6 = .ok (.invokespecial 27, 3) := by decide +kernel
theorem d2_9 : decode jdk_42_method_3_code 9 = .ok (.return_, 1) := by decide +kernel
theorem ef_2te (m : MethodId) (a1 : Addr) (a2 : Addr) : entryFrame m #[(.ref a1), (.ref a2)] 2 = mkF m 0 #[.val (.ref a1), .val (.ref a2)] [] := by first | (simp [entryFrame, mkF, argsToLocals, Value.category]; done) | rfl
set_option maxRecDepth 65536 in
set_option maxHeartbeats 40000000 in
theorem rm2te (l : Launch) (Z : State) (a0 : Array Value) (hw : ∀ d ∈ tables_1, d.before a0 Z = true) (ws : List Jvm.Cond) (a1 : Addr) (a2 : Addr) (kc : ClassId) (h0 : Heap) (n0 : Nat) (Z0 : n0 ≤ h0.size) (E_a1 : Exa Z h0 a1 "java/lang/String") (g_a1 : n0 ≤ a1) (F_value_a1 : Fld Z h0 a1 "java/lang/String" "value" "[B" .null) (F_coder_a1 : Fld Z h0 a1 "java/lang/String" "coder" "B" (.int (0 : Int32))) (V_a2 : Arv Z h0 a2 kc .char (0 : Int32) [] (.int (0 : Int32))) :
    MetFree l (⟨"java/lang/String", "<init>", "([C)V"⟩ : MethodName) (head1 (Jvm.Cond.code (⟨"java/lang/String", "<init>", "([C)V"⟩ : MethodName) jdk_42_method_3_code 2 none :: ws) ({ frames := 2, cells := 4, slots := 8, locals := 29 } : Room)) (fun a U => a = #[(.ref a1), (.ref a2)] ∧ Z.Warmed39 U.vm ∧ U.heap = h0 ∧ CHv Z own_EL U.vm h0) (fun _ _ _ _ _ => True) (fun _ U o U' => ∃ v L, o = .returned v ∧ QK n0 (fun v h => ∃ (k0 : ClassId) (z0 : Addr), v = none ∧ Keep h0 h [a1] ∧ Exa Z h a1 "java/lang/String" ∧ Fld Z h a1 "java/lang/String" "value" "[B" (.ref z0) ∧ Fld Z h a1 "java/lang/String" "coder" "B" (.int (0 : Int32)) ∧ Arv Z h z0 k0 .byte (0 : Int32) [] (.int 0)) v U'.heap L ∧ CHr Z own_EL U.vm U.heap U'.vm U'.heap ∧ ReturnedEndW U o U' L ({ frames := 2, cells := 4, slots := 8, locals := 29 } : Room).cells ({ frames := 2, cells := 4, slots := 8, locals := 29 } : Room).slots) := by
  refine MetFree.of_bodySF (plainFor_of_name pn_0) hisR ?_
  intro p e s m args below meth c s₁ Bd hml0 hP hK
  obtain ⟨rfl, hZ, hh, hC⟩ := hP
  have hx := Bd.exec
  have hby := Bd.bytes
  have hml : c.maxLocals = 2 := hml0
  have hown : s.vm.findClass "java/lang/String" = some m.cls := findClass_of_methodNamed Bd.named
  have hnm := (name_of_methodNamed Bd.named Bd.method).1
  have X0 : Stand p l e ({ frames := 2, cells := 4, slots := 8, locals := 29 } : Room) (s.setVm s.vm) m #[(.ref a1), (.ref a2)] below meth c s₁ [] 0 0 := Stand.of_body Bd
  have e0 : s₁.heap = h0 := by rw [← hh, Bd.state]; rfl
  have N0 := Fr.nil n0
  have hEL := own_ew hw
  have hwS := own_ws hw
  have hS0 : s.Since s.vm s.heap.size := own_since s
  have hk0 : s.heap.size ≤ h0.size := by rw [← hh]; exact Nat.le_refl _
  have C0 : CHr Z own_EL s.vm h0 s.vm h0 := CHr.refl hC
  refine gl_startS (ef_2te m a1 a2) ?_
  show GlS p e below s Z own_EL n0 ({ frames := 2, cells := 4, slots := 8, locals := 29 } : Room).cells ({ frames := 2, cells := 4, slots := 8, locals := 29 } : Room).slots (fun v h => ∃ (k0 : ClassId) (z0 : Addr), v = none ∧ Keep h0 h [a1] ∧ Exa Z h a1 "java/lang/String" ∧ Fld Z h a1 "java/lang/String" "value" "[B" (.ref z0) ∧ Fld Z h a1 "java/lang/String" "coder" "B" (.int (0 : Int32)) ∧ Arv Z h z0 k0 .byte (0 : Int32) [] (.int 0)) (s₁.setTop (mkF m 0 #[.val (.ref a1), .val (.ref a2)] []))
  have Zf0 : Safe Z own_EL s.vm h0 a1 := own_safe hZ.alike E_a1 F_value_a1
  refine goS (fun t k => XS.aloadN X0.here hx rfl (hb hby d2_0) rfl rfl k) ?_
  show GlS _ _ _ _ _ _ _ _ _ _ (s₁.setTop (mkF m 1 #[.val (.ref a1), .val (.ref a2)] [(.ref a1)]))
  refine goS (fun t k => XS.aloadN X0.here hx rfl (hb hby d2_1) rfl rfl k) ?_
  show GlS _ _ _ _ _ _ _ _ _ _ (s₁.setTop (mkF m 2 #[.val (.ref a1), .val (.ref a2)] [(.ref a2), (.ref a1)]))
  refine goS (fun t k => XS.iconst X0.here hx rfl (hb hby d2_2) k) ?_
  show GlS _ _ _ _ _ _ _ _ _ _ (s₁.setTop (mkF m 3 #[.val (.ref a1), .val (.ref a2)] [(.int (0 : Int32)), (.ref a2), (.ref a1)]))
  refine goS (fun t k => XS.aloadN X0.here hx rfl (hb hby d2_3) rfl rfl k) ?_
  show GlS _ _ _ _ _ _ _ _ _ _ (s₁.setTop (mkF m 4 #[.val (.ref a1), .val (.ref a2)] [(.ref a2), (.int (0 : Int32)), (.ref a2), (.ref a1)]))
  obtain ⟨cl1, Ar1, vq1, S1, M1, Hh1, G1⟩ := id V_a2
  have hl1 : cl1.slots.size.toInt32 = (0 : Int32) := len_of S1 M1
  refine goS (fun t k => X0.arraylength hx (by rw [e0]; exact Ar1.1) (State.isArrayOf_alike hZ.alike Ar1.2.1) (g := (mkF m 4 #[.val (.ref a1), .val (.ref a2)] [(.ref a2), (.int (0 : Int32)), (.ref a2), (.ref a1)])) rfl rfl (hb hby d2_4) _ (by rw [hl1]; exact k)) ?_
  show GlS _ _ _ _ _ _ _ _ _ _ (s₁.setTop (mkF m 5 #[.val (.ref a1), .val (.ref a2)] [(.int (0 : Int32)), (.int (0 : Int32)), (.ref a2), (.ref a1)]))
  refine goS (fun t k => XS.aconstNull X0.here hx rfl (hb hby d2_5) k) ?_
  show GlS _ _ _ _ _ _ _ _ _ _ (s₁.setTop (mkF m 6 #[.val (.ref a1), .val (.ref a2)] [.null, (.int (0 : Int32)), (.int (0 : Int32)), (.ref a2), (.ref a1)]))
  obtain ⟨_, _, ⟨T2, L2, k2, n2⟩, -, Xr2, hSr2, hgr2, ⟨Lc2, hQ2, l2, y2, z2, Cq2⟩, st2⟩ := X0.specialBackS hx (y := (⟨"java/lang/String", "<init>", "([CIILjava/lang/Void;)V"⟩ : MethodName)) rfl hown (mvT hZ (hw _ (List.mem_of_getElem? (i := 11) rfl))) (mvT hZ (hw _ (List.mem_of_getElem? (i := 12) rfl))) (mvT hZ (hw _ (List.mem_of_getElem? (i := 14) rfl))) (by decide) (backOfSH (s := s) (W := 0) (rm3te l Z a0 hw [] a1 a2 h0 n0 Z0 E_a1 g_a1 F_value_a1 F_coder_a1) hZ (hw _ (List.mem_of_getElem? (i := 14) rfl)) (hw _ (List.mem_of_getElem? (i := 6) rfl)) (by decide) (by decide) hEL C0.1) (g := (mkF m 6 #[.val (.ref a1), .val (.ref a2)] [.null, (.int (0 : Int32)), (.int (0 : Int32)), (.ref a2), (.ref a1)])) rfl (by rw [hml]; rfl) (Steps.refl _) (a := a1) (argsL := [(.ref a2), (.int (0 : Int32)), (.int (0 : Int32)), .null]) (rest := []) (lenOf pd_0 rfl) rfl (by show 2 * 0 + _ ≤ _; exact Nat.le_of_eq rfl) (hb hby d2_6) (fun _ _ => ⟨rfl, e0, (by decide : 0 + 4 ≤ _), (by decide : 0 + 8 ≤ _)⟩)
  dsimp only [Pt.U, Pt.locs, Pt.cells, Pt.slots] at Xr2 hSr2 hgr2 l2 y2 z2 st2 hQ2 Cq2
  subst l2 y2 z2
  obtain ⟨X2, hS2, hZ2, hown2⟩ := rebS hS0 (own_hk e0 hk0) Xr2 hSr2 hgr2 hZ hown
  have X2 : Stand p l e ({ frames := 2, cells := 4, slots := 8, locals := 29 } : Room) (s.setVm T2.vm) m #[(.ref a1), (.ref a2)] below meth c T2 _ 4 8 := X2
  obtain ⟨⟨c2_k0, y2_z0, rfl, K2q, Fo2_0, Fo2_1, Fo2_2, Fo2_3⟩, N2q⟩ := hQ2
  obtain ⟨h2, e2⟩ : ∃ z, T2.heap = z := ⟨_, rfl⟩
  rw [e2] at K2q Fo2_0 Fo2_1 Fo2_2 Fo2_3
  have K2 : Keep h0 h2 [a1] := (Keep.refl h0 [a1]).trans K2q (allS (Or.inl (List.mem_of_getElem? (i := 0) rfl)) all0)
  have N2 := Fr.app N0 N2q
  refine goS (fun t k => st2.trans k) ?_
  rw [e2] at Cq2
  have C2 := C0.trans Cq2
  have Zf2_a1 := Cq2.safe E_a1.lt Zf0
  have hk2 : T2.heap.size ≤ h2.size := by rw [e2]; exact Nat.le_refl _
  show GlS _ _ _ _ _ _ _ _ _ _ (T2.setTop (mkF m 9 #[.val (.ref a1), .val (.ref a2)] []))
  exact endVS X2 hx Bd (hb hby d2_9) ⟨c2_k0, y2_z0, rfl, (by rw [e2]; exact ⟨K2, Fo2_0, Fo2_1, Fo2_2, Fo2_3⟩)⟩ N2 (by decide) (by decide) hS2 (own_hk e2 hk2) (own_cend hh e2 (C2.trans (CHv.at X2 hZ2 hEL C2.1)))
theorem pd_1 : parseMethodDescriptor "([C)V" = some ⟨[(.array .char)], none⟩ := by decide +kernel
theorem d1_0 : decode method_2_code 0 = .ok (.iload_n 0, 1) := by decide +kernel
theorem d1_1 : decode method_2_code 1 = .ok (.ifCond .ne 14, 3) := by decide +kernel
theorem d1_4 : decode method_2_code 4 = .ok (.new 7, 3) := by decide +kernel
theorem d1_7 : decode method_2_code 7 = .ok (.dup, 1) := by decide +kernel
theorem d1_8 : decode method_2_code 8 = .ok (.iconst 0, 1) := by decide +kernel
theorem d1_9 : decode method_2_code 9 = .ok (.newarray .char, 2) := by decide +kernel
theorem d1_11 : decode method_2_code 11 = .ok (.invokespecial 9, 3) := by decide +kernel
theorem d1_14 : decode method_2_code 14 = .ok (.areturn, 1) := by decide +kernel
theorem d1_15 : decode method_2_code 15 = .ok (.iload_n 0, 1) := by decide +kernel
theorem d1_16 : decode method_2_code 16 = .ok (.iconst 1, 1) := by decide +kernel
theorem d1_17 : decode method_2_code 17 = .ok (.if_icmp .ne 18, 3) := by decide +kernel
theorem d1_20 : decode method_2_code 20 = .ok (.new 7, 3) := by decide +kernel
theorem d1_23 : decode method_2_code 23 = .ok (.dup, 1) := by decide +kernel
theorem d1_24 : decode method_2_code 24 = .ok (.iconst 1, 1) := by decide +kernel
theorem d1_25 : decode method_2_code 25 = .ok (.newarray .char, 2) := by decide +kernel
theorem d1_27 : decode method_2_code 27 = .ok (.dup, 1) := by decide +kernel
theorem d1_28 : decode method_2_code 28 = .ok (.iconst 0, 1) := by decide +kernel
theorem d1_29 : decode method_2_code 29 = .ok (.iload_n 1, 1) := by decide +kernel
theorem d1_30 : decode method_2_code 30 = .ok (.castore, 1) := by decide +kernel
theorem d1_31 : decode method_2_code 31 = .ok (.invokespecial 9, 3) := by decide +kernel
theorem d1_34 : decode method_2_code 34 = .ok (.areturn, 1) := by decide +kernel
theorem d1_35 : decode method_2_code 35 = .ok (.new 7, 3) := by decide +kernel
theorem d1_38 : decode method_2_code 38 = .ok (.dup, 1) := by decide +kernel
theorem d1_39 : decode method_2_code 39 = .ok (.iconst 2, 1) := by decide +kernel
theorem d1_40 : decode method_2_code 40 = .ok (.newarray .char, 2) := by decide +kernel
theorem d1_42 : decode method_2_code 42 = .ok (.dup, 1) := by decide +kernel
theorem d1_43 : decode method_2_code 43 = .ok (.iconst 0, 1) := by decide +kernel
theorem d1_44 : decode method_2_code 44 = .ok (.iload_n 1, 1) := by decide +kernel
theorem d1_45 : decode method_2_code 45 = .ok (.castore, 1) := by decide +kernel
theorem d1_46 : decode method_2_code 46 = .ok (.dup, 1) := by decide +kernel
theorem d1_47 : decode method_2_code 47 = .ok (.iconst 1, 1) := by decide +kernel
theorem d1_48 : decode method_2_code 48 = .ok (.iload_n 2, 1) := by decide +kernel
theorem d1_49 : decode method_2_code 49 = .ok (.castore, 1) := by decide +kernel
theorem d1_50 : decode method_2_code 50 = .ok (.invokespecial 9, 3) := by decide +kernel
theorem d1_53 : decode method_2_code 53 = .ok (.areturn, 1) := by decide +kernel
theorem pn_1 : plainName "com/example/tercet/tercet/SyntaxWarningEqualsPinLaw" = true := by first | (simp [plainName, overriddenIn]; done) | decide +kernel
theorem ef_1 (m : MethodId) (p1 : Int32) (p2 : Int32) (p3 : Int32) : entryFrame m #[(.int p1), (.int p2), (.int p3)] 3 = mkF m 0 #[.val (.int p1), .val (.int p2), .val (.int p3)] [] := by first | (simp [entryFrame, mkF, argsToLocals, Value.category]; done) | rfl
set_option maxRecDepth 65536 in
set_option maxHeartbeats 40000000 in
theorem rm1 (l : Launch) (Z : State) (a0 : Array Value) (hw : ∀ d ∈ tables_1, d.before a0 Z = true) (ws : List Jvm.Cond) (p1 : Int32) (p2 : Int32) (p3 : Int32) (w_COMPACT_STRINGS : Int32) (h0 : Heap) (n0 : Nat) (Z0 : n0 ≤ h0.size) (S_COMPACT_STRINGS : Sta Z h0 "java/lang/String" "COMPACT_STRINGS" "Z" (.int w_COMPACT_STRINGS)) (hcz : ¬ (w_COMPACT_STRINGS = (0 : Int32))) (hb2 : ¬ nar .char p2 < 0 ∧ ¬ (255 : Int32) < nar .char p2) (hb3 : ¬ nar .char p3 < 0 ∧ ¬ (255 : Int32) < nar .char p3) :
    MetFree l (⟨"com/example/tercet/tercet/SyntaxWarningEqualsPinLaw", "str", "(ICC)Ljava/lang/String;"⟩ : MethodName) (head1 (Jvm.Cond.code (⟨"com/example/tercet/tercet/SyntaxWarningEqualsPinLaw", "str", "(ICC)Ljava/lang/String;"⟩ : MethodName) method_2_code 3 (some (.object "java/lang/String")) :: ws) ({ frames := 4, cells := 6, slots := 12, locals := 66 } : Room)) (fun a U => a = #[(.int p1), (.int p2), (.int p3)] ∧ Z.Warmed39 U.vm ∧ U.heap = h0 ∧ CHv Z own_EL U.vm h0) (fun _ _ _ _ _ => True) (fun _ U o U' => ∃ v L, o = .returned v ∧ QK n0 (fun v h => ∃ x : Addr, v = some (.ref x) ∧ Keep h0 h [] ∧ h0.size ≤ x ∧ own_str Z h x (own_cs p1 (nar .char p2) (nar .char p3))) v U'.heap L ∧ CHr Z own_EL U.vm U.heap U'.vm U'.heap ∧ ReturnedEndW U o U' L ({ frames := 4, cells := 6, slots := 12, locals := 66 } : Room).cells ({ frames := 4, cells := 6, slots := 12, locals := 66 } : Room).slots) := by
  refine MetFree.of_bodySF (plainFor_of_name pn_1) hisR ?_
  intro p e s m args below meth c s₁ Bd hml0 hP hK
  obtain ⟨rfl, hZ, hh, hC⟩ := hP
  have hx := Bd.exec
  have hby := Bd.bytes
  have hml : c.maxLocals = 3 := hml0
  have hown : s.vm.findClass "com/example/tercet/tercet/SyntaxWarningEqualsPinLaw" = some m.cls := findClass_of_methodNamed Bd.named
  have hnm := (name_of_methodNamed Bd.named Bd.method).1
  have X0 : Stand p l e ({ frames := 4, cells := 6, slots := 12, locals := 66 } : Room) (s.setVm s.vm) m #[(.int p1), (.int p2), (.int p3)] below meth c s₁ [] 0 0 := Stand.of_body Bd
  have e0 : s₁.heap = h0 := by rw [← hh, Bd.state]; rfl
  have N0 := Fr.nil n0
  have hEL := own_ew hw
  have hwS := own_ws hw
  have hS0 : s.Since s.vm s.heap.size := own_since s
  have hk0 : s.heap.size ≤ h0.size := by rw [← hh]; exact Nat.le_refl _
  have C0 : CHr Z own_EL s.vm h0 s.vm h0 := CHr.refl hC
  refine gl_startS (ef_1 m p1 p2 p3) ?_
  show GlS p e below s Z own_EL n0 ({ frames := 4, cells := 6, slots := 12, locals := 66 } : Room).cells ({ frames := 4, cells := 6, slots := 12, locals := 66 } : Room).slots (fun v h => ∃ x : Addr, v = some (.ref x) ∧ Keep h0 h [] ∧ h0.size ≤ x ∧ own_str Z h x (own_cs p1 (nar .char p2) (nar .char p3))) (s₁.setTop (mkF m 0 #[.val (.int p1), .val (.int p2), .val (.int p3)] []))
  refine goS (fun t k => XS.iloadN X0.here hx rfl (hb hby d1_0) rfl  k) ?_
  show GlS _ _ _ _ _ _ _ _ _ _ (s₁.setTop (mkF m 1 #[.val (.int p1), .val (.int p2), .val (.int p3)] [(.int p1)]))
  refine gVS (c := p1 = (0 : Int32)) (fun hc1 => ?_) (fun hc1 => ?_)
  · refine goS (fun t k => XS.ifNo X0.here hx rfl (hb hby d1_1) rfl ((if0 _ _).trans (teq hc1).2) k) ?_
    show GlS _ _ _ _ _ _ _ _ _ _ (s₁.setTop (mkF m 4 #[.val (.int p1), .val (.int p2), .val (.int p3)] []))
    obtain ⟨T1, h1, X1, e1, E1, A1, D1, -, st1⟩ := newO X0 hx hZ hown (hw _ (List.mem_of_getElem? (i := 4) rfl)) (hw _ (List.mem_of_getElem? (i := 5) rfl)) (hw _ (List.mem_of_getElem? (i := 6) rfl)) e0 (g := (mkF m 4 #[.val (.int p1), .val (.int p2), .val (.int p3)] [])) rfl (hb hby d1_4) (by decide) (by decide)
    obtain ⟨o1, gq1⟩ : ∃ z, z = h0.size := ⟨_, rfl⟩
    rw [← gq1] at A1 D1 st1
    have g_o1 : n0 ≤ o1 := Nat.le_trans Z0 (Nat.le_of_eq gq1.symm)
    have F_value_o1 : Fld Z h1 o1 "java/lang/String" "value" "[B" .null := D1 (Or.inr (hw _ (List.mem_of_getElem? (i := 20) rfl))) (ty := (.array .byte)) (by decide)
    have F_coder_o1 : Fld Z h1 o1 "java/lang/String" "coder" "B" (.int (0 : Int32)) := D1 (Or.inr (hw _ (List.mem_of_getElem? (i := 21) rfl))) (ty := .byte) (by decide)
    have K1 : Keep h0 h1 [] := (Keep.refl h0 []).ext E1
    have sz_o1 : h0.size ≤ o1 := Nat.le_trans (Keep.refl h0 []).1 (Nat.le_of_eq gq1.symm)
    refine goS (fun t k => st1 _ k) ?_
    have C1 := C0.trans (CHr.ext E1 C0.1)
    have hk1 := Nat.le_trans hk0 E1.1
    show GlS _ _ _ _ _ _ _ _ _ _ (T1.setTop (mkF m 7 #[.val (.int p1), .val (.int p2), .val (.int p3)] [(.ref o1)]))
    refine goS (fun t k => XS.dup X1.here hx rfl (hb hby d1_7) rfl rfl k) ?_
    show GlS _ _ _ _ _ _ _ _ _ _ (T1.setTop (mkF m 8 #[.val (.int p1), .val (.int p2), .val (.int p3)] [(.ref o1), (.ref o1)]))
    refine goS (fun t k => XS.iconst X1.here hx rfl (hb hby d1_8) k) ?_
    show GlS _ _ _ _ _ _ _ _ _ _ (T1.setTop (mkF m 9 #[.val (.int p1), .val (.int p2), .val (.int p3)] [(.int (0 : Int32)), (.ref o1), (.ref o1)]))
    obtain ⟨T2, h2, k2, X2, e2, E2, A2, st2⟩ := newP X1 hx hZ (hw _ (List.mem_of_getElem? (i := 7) rfl)) e1 (g := (mkF m 9 #[.val (.int p1), .val (.int p2), .val (.int p3)] [(.int (0 : Int32)), (.ref o1), (.ref o1)])) rfl (hb hby d1_9) rfl (by decide) (cap := 0) (by decide) (by decide) (by decide) (by decide)
    obtain ⟨o2, gq2⟩ : ∃ z, z = h1.size := ⟨_, rfl⟩
    rw [← gq2] at A2 st2
    have g_o2 : n0 ≤ o2 := Nat.le_trans (Nat.le_trans Z0 E1.1) (Nat.le_of_eq gq2.symm)
    have ne_o1_o2 : o1 ≠ o2 := Nat.ne_of_lt (Nat.lt_of_lt_of_le A1.lt (Nat.le_of_eq gq2.symm))
    have V_o2 : Arv Z h2 o2 k2 .char (0 : Int32) [] (.int (0 : Int32)) := (Arv.new A2 (by decide)).pad (pad_rep [] (.int (0 : Int32)) 0)
    have K2 : Keep h0 h2 [] := K1.ext E2
    have sz_o2 : h0.size ≤ o2 := Nat.le_trans K1.1 (Nat.le_of_eq gq2.symm)
    refine goS (fun t k => st2 _ k) ?_
    have C2 := C1.trans (CHr.ext E2 C1.1)
    have hk2 := Nat.le_trans hk1 E2.1
    show GlS _ _ _ _ _ _ _ _ _ _ (T2.setTop (mkF m 11 #[.val (.int p1), .val (.int p2), .val (.int p3)] [(.ref o2), (.ref o1), (.ref o1)]))
    obtain ⟨_, _, ⟨T3, L3, k3, n3⟩, -, Xr3, hSr3, hgr3, ⟨Lc3, hQ3, l3, y3, z3, Cq3⟩, st3⟩ := X2.specialBackS hx (y := (⟨"java/lang/String", "<init>", "([C)V"⟩ : MethodName)) rfl hown (mvT hZ (hw _ (List.mem_of_getElem? (i := 8) rfl))) (mvT hZ (hw _ (List.mem_of_getElem? (i := 9) rfl))) (mvT hZ (hw _ (List.mem_of_getElem? (i := 10) rfl))) (by decide) (backOfSH (s := s) (W := 1) (rm2te l Z a0 hw [] o1 o2 k2 h2 n0 (Nat.le_trans (Nat.le_trans Z0 E1.1) E2.1) (A1.ext E2) g_o1 (F_value_o1.ext E2) (F_coder_o1.ext E2) V_o2) hZ (hw _ (List.mem_of_getElem? (i := 10) rfl)) (hw _ (List.mem_of_getElem? (i := 6) rfl)) (by decide) (by decide) hEL C2.1) (g := (mkF m 11 #[.val (.int p1), .val (.int p2), .val (.int p3)] [(.ref o2), (.ref o1), (.ref o1)])) rfl (by rw [hml]; rfl) (Steps.refl _) (a := o1) (argsL := [(.ref o2)]) (rest := [(.ref o1)]) (lenOf pd_1 rfl) rfl (by show 2 * 0 + _ ≤ _; exact Nat.le_of_eq rfl) (hb hby d1_11) (fun _ _ => ⟨rfl, e2, (by decide : 2 + 4 ≤ _), (by decide : 4 + 8 ≤ _)⟩)
    dsimp only [Pt.U, Pt.locs, Pt.cells, Pt.slots] at Xr3 hSr3 hgr3 l3 y3 z3 st3 hQ3 Cq3
    subst l3 y3 z3
    obtain ⟨X3, hS3, hZ3, hown3⟩ := rebS hS0 (own_hk e2 hk2) Xr3 hSr3 hgr3 hZ hown
    have X3 : Stand p l e ({ frames := 4, cells := 6, slots := 12, locals := 66 } : Room) (s.setVm T3.vm) m #[(.int p1), (.int p2), (.int p3)] below meth c T3 _ 6 12 := X3
    obtain ⟨⟨c3_k0, y3_z0, rfl, K3q, Fo3_0, Fo3_1, Fo3_2, Fo3_3⟩, N3q⟩ := hQ3
    obtain ⟨h3, e3⟩ : ∃ z, T3.heap = z := ⟨_, rfl⟩
    rw [e3] at K3q Fo3_0 Fo3_1 Fo3_2 Fo3_3
    have K3 : Keep h0 h3 [] := K2.trans K3q (allS (Or.inr sz_o1) all0)
    have N3 := Fr.app N0 N3q
    refine goS (fun t k => st3.trans k) ?_
    rw [e3] at Cq3
    have C3 := C2.trans Cq3
    have hk3 : T3.heap.size ≤ h3.size := by rw [e3]; exact Nat.le_refl _
    show GlS _ _ _ _ _ _ _ _ _ _ (T3.setTop (mkF m 14 #[.val (.int p1), .val (.int p2), .val (.int p3)] [(.ref o1)]))
    have TT : own_str Z h3 o1 (own_cs p1 (nar .char p2) (nar .char p3)) := by rw [own_cs0 hc1]; exact ⟨y3_z0, c3_k0, Fo3_0, Fo3_1, Fo3_2, Fo3_3⟩
    exact endRS X3 hx Bd rfl (hb hby d1_14) ⟨o1, rfl, (by rw [e3]; exact ⟨K3, sz_o1, TT⟩)⟩ N3 (by decide) (by decide) hS3 (own_hk e3 hk3) (own_cend hh e3 (C3.trans (CHv.at X3 hZ3 hEL C3.1)))
  · refine goS (fun t k => XS.ifYes X0.here hx rfl (pc0 := 1) (pc' := 15) rfl (hb hby d1_1) rfl ((if0 _ _).trans (feq hc1).2) (by decide) (by decide) k) ?_
    show GlS _ _ _ _ _ _ _ _ _ _ (s₁.setTop (mkF m 15 #[.val (.int p1), .val (.int p2), .val (.int p3)] []))
    refine goS (fun t k => XS.iloadN X0.here hx rfl (hb hby d1_15) rfl  k) ?_
    show GlS _ _ _ _ _ _ _ _ _ _ (s₁.setTop (mkF m 16 #[.val (.int p1), .val (.int p2), .val (.int p3)] [(.int p1)]))
    refine goS (fun t k => XS.iconst X0.here hx rfl (hb hby d1_16) k) ?_
    show GlS _ _ _ _ _ _ _ _ _ _ (s₁.setTop (mkF m 17 #[.val (.int p1), .val (.int p2), .val (.int p3)] [(.int (1 : Int32)), (.int p1)]))
    refine gVS (c := p1 = (1 : Int32)) (fun hc17 => ?_) (fun hc17 => ?_)
    · refine goS (fun t k => XS.icmpNo X0.here hx rfl (hb hby d1_17) rfl (teq hc17).2 k) ?_
      show GlS _ _ _ _ _ _ _ _ _ _ (s₁.setTop (mkF m 20 #[.val (.int p1), .val (.int p2), .val (.int p3)] []))
      obtain ⟨T4, h4, X4, e4, E4, A4, D4, -, st4⟩ := newO X0 hx hZ hown (hw _ (List.mem_of_getElem? (i := 4) rfl)) (hw _ (List.mem_of_getElem? (i := 5) rfl)) (hw _ (List.mem_of_getElem? (i := 6) rfl)) e0 (g := (mkF m 20 #[.val (.int p1), .val (.int p2), .val (.int p3)] [])) rfl (hb hby d1_20) (by decide) (by decide)
      obtain ⟨o4, gq4⟩ : ∃ z, z = h0.size := ⟨_, rfl⟩
      rw [← gq4] at A4 D4 st4
      have g_o4 : n0 ≤ o4 := Nat.le_trans Z0 (Nat.le_of_eq gq4.symm)
      have F_value_o4 : Fld Z h4 o4 "java/lang/String" "value" "[B" .null := D4 (Or.inr (hw _ (List.mem_of_getElem? (i := 20) rfl))) (ty := (.array .byte)) (by decide)
      have F_coder_o4 : Fld Z h4 o4 "java/lang/String" "coder" "B" (.int (0 : Int32)) := D4 (Or.inr (hw _ (List.mem_of_getElem? (i := 21) rfl))) (ty := .byte) (by decide)
      have K4 : Keep h0 h4 [] := (Keep.refl h0 []).ext E4
      have sz_o4 : h0.size ≤ o4 := Nat.le_trans (Keep.refl h0 []).1 (Nat.le_of_eq gq4.symm)
      refine goS (fun t k => st4 _ k) ?_
      have C4 := C0.trans (CHr.ext E4 C0.1)
      have hk4 := Nat.le_trans hk0 E4.1
      show GlS _ _ _ _ _ _ _ _ _ _ (T4.setTop (mkF m 23 #[.val (.int p1), .val (.int p2), .val (.int p3)] [(.ref o4)]))
      refine goS (fun t k => XS.dup X4.here hx rfl (hb hby d1_23) rfl rfl k) ?_
      show GlS _ _ _ _ _ _ _ _ _ _ (T4.setTop (mkF m 24 #[.val (.int p1), .val (.int p2), .val (.int p3)] [(.ref o4), (.ref o4)]))
      refine goS (fun t k => XS.iconst X4.here hx rfl (hb hby d1_24) k) ?_
      show GlS _ _ _ _ _ _ _ _ _ _ (T4.setTop (mkF m 25 #[.val (.int p1), .val (.int p2), .val (.int p3)] [(.int (1 : Int32)), (.ref o4), (.ref o4)]))
      obtain ⟨T5, h5, k5, X5, e5, E5, A5, st5⟩ := newP X4 hx hZ (hw _ (List.mem_of_getElem? (i := 7) rfl)) e4 (g := (mkF m 25 #[.val (.int p1), .val (.int p2), .val (.int p3)] [(.int (1 : Int32)), (.ref o4), (.ref o4)])) rfl (hb hby d1_25) rfl (by decide) (cap := 1) (by decide) (by decide) (by decide) (by decide)
      obtain ⟨o5, gq5⟩ : ∃ z, z = h4.size := ⟨_, rfl⟩
      rw [← gq5] at A5 st5
      have g_o5 : n0 ≤ o5 := Nat.le_trans (Nat.le_trans Z0 E4.1) (Nat.le_of_eq gq5.symm)
      have ne_o4_o5 : o4 ≠ o5 := Nat.ne_of_lt (Nat.lt_of_lt_of_le A4.lt (Nat.le_of_eq gq5.symm))
      have V_o5 : Arv Z h5 o5 k5 .char (1 : Int32) [(.int (0 : Int32))] (.int (0 : Int32)) := (Arv.new A5 (by decide)).pad (pad_rep [] (.int (0 : Int32)) 1)
      have K5 : Keep h0 h5 [] := K4.ext E5
      have sz_o5 : h0.size ≤ o5 := Nat.le_trans K4.1 (Nat.le_of_eq gq5.symm)
      refine goS (fun t k => st5 _ k) ?_
      have C5 := C4.trans (CHr.ext E5 C4.1)
      have hk5 := Nat.le_trans hk4 E5.1
      show GlS _ _ _ _ _ _ _ _ _ _ (T5.setTop (mkF m 27 #[.val (.int p1), .val (.int p2), .val (.int p3)] [(.ref o5), (.ref o4), (.ref o4)]))
      refine goS (fun t k => XS.dup X5.here hx rfl (hb hby d1_27) rfl rfl k) ?_
      show GlS _ _ _ _ _ _ _ _ _ _ (T5.setTop (mkF m 28 #[.val (.int p1), .val (.int p2), .val (.int p3)] [(.ref o5), (.ref o5), (.ref o4), (.ref o4)]))
      refine goS (fun t k => XS.iconst X5.here hx rfl (hb hby d1_28) k) ?_
      show GlS _ _ _ _ _ _ _ _ _ _ (T5.setTop (mkF m 29 #[.val (.int p1), .val (.int p2), .val (.int p3)] [(.int (0 : Int32)), (.ref o5), (.ref o5), (.ref o4), (.ref o4)]))
      refine goS (fun t k => XS.iloadN X5.here hx rfl (hb hby d1_29) rfl  k) ?_
      show GlS _ _ _ _ _ _ _ _ _ _ (T5.setTop (mkF m 30 #[.val (.int p1), .val (.int p2), .val (.int p3)] [(.int p2), (.int (0 : Int32)), (.ref o5), (.ref o5), (.ref o4), (.ref o4)]))
      obtain ⟨cl6, Ar6, vq6, S6, M6, Hh6, G6⟩ := id V_o5
      obtain ⟨T6, h6, X6, e6, W6, st6⟩ := stC X5 hx hZ e5 Ar6 (j := (0 : Int32)) (inb_of S6 ⟨by decide, by decide⟩) (g := (mkF m 30 #[.val (.int p1), .val (.int p2), .val (.int p3)] [(.int p2), (.int (0 : Int32)), (.ref o5), (.ref o5), (.ref o4), (.ref o4)])) rfl rfl (hb hby d1_30)
      have V6 : Arv Z h6 o5 k5 .char (1 : Int32) [(.int (nar .char p2))] (.int (0 : Int32)) := Arv.set Ar6 vq6 S6 M6 Hh6 G6 (fits_nar_char _) W6 0 rfl (Nat.le_of_ble_eq_true rfl)
      have K6 : Keep h0 h6 [] := K5.wr W6 (Or.inr sz_o5)
      have N6 := Fr.snoc X6 N0 g_o5
      refine goS (fun t k => st6 _ k) ?_
      have C6 := C5.trans (CHr.wr W6 (Safe.arv hZ.alike V_o5 (by decide)) C5.1)
      have hk6 := Nat.le_trans hk5 (Keep.of_wr W6).1
      show GlS _ _ _ _ _ _ _ _ _ _ (T6.setTop (mkF m 31 #[.val (.int p1), .val (.int p2), .val (.int p3)] [(.ref o5), (.ref o4), (.ref o4)]))
      obtain ⟨_, _, ⟨T7, L7, k7, n7⟩, -, X7, ⟨Lc7, hQ7, l7, y7, z7⟩, st7⟩ := X6.specialBack hx (y := (⟨"java/lang/String", "<init>", "([C)V"⟩ : MethodName)) rfl hown (mvT hZ (hw _ (List.mem_of_getElem? (i := 8) rfl))) (mvT hZ (hw _ (List.mem_of_getElem? (i := 9) rfl))) (mvT hZ (hw _ (List.mem_of_getElem? (i := 10) rfl))) (by decide) (StrChars.Road.backV (W := 1) hZ (own_wV hw) (kI := 4) (hw _ (List.mem_of_getElem? (i := 5) rfl)) (cs := ([(nar .char p2)] : List Int32)) (bs := ([(nar .char p2)] : List Int32).map (fun c => c.toInt8.toInt32)) (n := 1) (n0 := n0) g_o4 (Nat.le_trans (Nat.le_trans (Nat.le_trans Z0 E4.1) E5.1) (Keep.of_wr W6).1) ((A4.ext E5).wr W6) ((F_value_o4.ext E5).other W6 (Or.inl ne_o4_o5)) ((F_coder_o4.ext E5).other W6 (Or.inl ne_o4_o5)) V6 (Sta.wr W6 ((S_COMPACT_STRINGS.ext E4).ext E5)) hcz rfl rfl (by decide) (by decide) (own_b1 hb2) rfl (by decide) (by decide)) (g := (mkF m 31 #[.val (.int p1), .val (.int p2), .val (.int p3)] [(.ref o5), (.ref o4), (.ref o4)])) rfl (by rw [hml]; rfl) (Steps.refl _) (a := o4) (argsL := [(.ref o5)]) (rest := [(.ref o4)]) (lenOf pd_1 rfl) rfl (by show 2 * 0 + _ ≤ _; exact Nat.le_of_eq rfl) (hb hby d1_31) (fun _ _ => ⟨rfl, e6, (by decide : 2 + 1 ≤ _), (by decide : 5 + 1 ≤ _)⟩)
      dsimp only [Pt.U, Pt.locs, Pt.cells, Pt.slots] at X7 l7 y7 z7 st7 hQ7
      subst l7 y7 z7
      have X7 : Stand p l e ({ frames := 4, cells := 6, slots := 12, locals := 66 } : Room) (s.setVm s.vm) m #[(.int p1), (.int p2), (.int p3)] below meth c T7 _ 3 6 := X7
      obtain ⟨rfl, N7q, K7q, EA7, FC7, t7, kb7, -, -, -, FV7, VB7⟩ := hQ7
      obtain ⟨h7, e7⟩ : ∃ z, T7.heap = z := ⟨_, rfl⟩
      rw [e7] at K7q EA7 FC7 FV7 VB7
      have K7 : Keep h0 h7 [] := K6.trans K7q (allS (Or.inr sz_o4) all0)
      have Ts7 : own_str Z h7 o4 ([(nar .char p2)] : List Int32) := ⟨t7, kb7, EA7, FV7, FC7, VB7⟩
      have N7 := Fr.app N6 N7q
      refine goS (fun t k => st7.trans k) ?_
      have C7 := C6.trans (CHr.keep K7q (sfS (own_safe hZ.alike ((A4.ext E5).wr W6) ((F_value_o4.ext E5).other W6 (Or.inl ne_o4_o5))) sf0) C6.1)
      have hk7 := Nat.le_trans hk6 K7q.1
      show GlS _ _ _ _ _ _ _ _ _ _ (T7.setTop (mkF m 34 #[.val (.int p1), .val (.int p2), .val (.int p3)] [(.ref o4)]))
      have TT : own_str Z h7 o4 (own_cs p1 (nar .char p2) (nar .char p3)) := by rw [own_cs1 hc1 hc17]; exact Ts7
      exact endRS X7 hx Bd rfl (hb hby d1_34) ⟨o4, rfl, (by rw [e7]; exact ⟨K7, sz_o4, TT⟩)⟩ N7 (by decide) (by decide) hS0 (own_hk e7 hk7) (own_cend hh e7 (C7.trans (CHv.at X7 hZ hEL C7.1)))
    · refine goS (fun t k => XS.icmpYes X0.here hx rfl (pc0 := 17) (pc' := 35) rfl (hb hby d1_17) rfl (feq hc17).2 (by decide) (by decide) k) ?_
      show GlS _ _ _ _ _ _ _ _ _ _ (s₁.setTop (mkF m 35 #[.val (.int p1), .val (.int p2), .val (.int p3)] []))
      obtain ⟨T8, h8, X8, e8, E8, A8, D8, -, st8⟩ := newO X0 hx hZ hown (hw _ (List.mem_of_getElem? (i := 4) rfl)) (hw _ (List.mem_of_getElem? (i := 5) rfl)) (hw _ (List.mem_of_getElem? (i := 6) rfl)) e0 (g := (mkF m 35 #[.val (.int p1), .val (.int p2), .val (.int p3)] [])) rfl (hb hby d1_35) (by decide) (by decide)
      obtain ⟨o8, gq8⟩ : ∃ z, z = h0.size := ⟨_, rfl⟩
      rw [← gq8] at A8 D8 st8
      have g_o8 : n0 ≤ o8 := Nat.le_trans Z0 (Nat.le_of_eq gq8.symm)
      have F_value_o8 : Fld Z h8 o8 "java/lang/String" "value" "[B" .null := D8 (Or.inr (hw _ (List.mem_of_getElem? (i := 20) rfl))) (ty := (.array .byte)) (by decide)
      have F_coder_o8 : Fld Z h8 o8 "java/lang/String" "coder" "B" (.int (0 : Int32)) := D8 (Or.inr (hw _ (List.mem_of_getElem? (i := 21) rfl))) (ty := .byte) (by decide)
      have K8 : Keep h0 h8 [] := (Keep.refl h0 []).ext E8
      have sz_o8 : h0.size ≤ o8 := Nat.le_trans (Keep.refl h0 []).1 (Nat.le_of_eq gq8.symm)
      refine goS (fun t k => st8 _ k) ?_
      have C8 := C0.trans (CHr.ext E8 C0.1)
      have hk8 := Nat.le_trans hk0 E8.1
      show GlS _ _ _ _ _ _ _ _ _ _ (T8.setTop (mkF m 38 #[.val (.int p1), .val (.int p2), .val (.int p3)] [(.ref o8)]))
      refine goS (fun t k => XS.dup X8.here hx rfl (hb hby d1_38) rfl rfl k) ?_
      show GlS _ _ _ _ _ _ _ _ _ _ (T8.setTop (mkF m 39 #[.val (.int p1), .val (.int p2), .val (.int p3)] [(.ref o8), (.ref o8)]))
      refine goS (fun t k => XS.iconst X8.here hx rfl (hb hby d1_39) k) ?_
      show GlS _ _ _ _ _ _ _ _ _ _ (T8.setTop (mkF m 40 #[.val (.int p1), .val (.int p2), .val (.int p3)] [(.int (2 : Int32)), (.ref o8), (.ref o8)]))
      obtain ⟨T9, h9, k9, X9, e9, E9, A9, st9⟩ := newP X8 hx hZ (hw _ (List.mem_of_getElem? (i := 7) rfl)) e8 (g := (mkF m 40 #[.val (.int p1), .val (.int p2), .val (.int p3)] [(.int (2 : Int32)), (.ref o8), (.ref o8)])) rfl (hb hby d1_40) rfl (by decide) (cap := 2) (by decide) (by decide) (by decide) (by decide)
      obtain ⟨o9, gq9⟩ : ∃ z, z = h8.size := ⟨_, rfl⟩
      rw [← gq9] at A9 st9
      have g_o9 : n0 ≤ o9 := Nat.le_trans (Nat.le_trans Z0 E8.1) (Nat.le_of_eq gq9.symm)
      have ne_o8_o9 : o8 ≠ o9 := Nat.ne_of_lt (Nat.lt_of_lt_of_le A8.lt (Nat.le_of_eq gq9.symm))
      have V_o9 : Arv Z h9 o9 k9 .char (2 : Int32) [(.int (0 : Int32)), (.int (0 : Int32))] (.int (0 : Int32)) := (Arv.new A9 (by decide)).pad (pad_rep [] (.int (0 : Int32)) 2)
      have K9 : Keep h0 h9 [] := K8.ext E9
      have sz_o9 : h0.size ≤ o9 := Nat.le_trans K8.1 (Nat.le_of_eq gq9.symm)
      refine goS (fun t k => st9 _ k) ?_
      have C9 := C8.trans (CHr.ext E9 C8.1)
      have hk9 := Nat.le_trans hk8 E9.1
      show GlS _ _ _ _ _ _ _ _ _ _ (T9.setTop (mkF m 42 #[.val (.int p1), .val (.int p2), .val (.int p3)] [(.ref o9), (.ref o8), (.ref o8)]))
      refine goS (fun t k => XS.dup X9.here hx rfl (hb hby d1_42) rfl rfl k) ?_
      show GlS _ _ _ _ _ _ _ _ _ _ (T9.setTop (mkF m 43 #[.val (.int p1), .val (.int p2), .val (.int p3)] [(.ref o9), (.ref o9), (.ref o8), (.ref o8)]))
      refine goS (fun t k => XS.iconst X9.here hx rfl (hb hby d1_43) k) ?_
      show GlS _ _ _ _ _ _ _ _ _ _ (T9.setTop (mkF m 44 #[.val (.int p1), .val (.int p2), .val (.int p3)] [(.int (0 : Int32)), (.ref o9), (.ref o9), (.ref o8), (.ref o8)]))
      refine goS (fun t k => XS.iloadN X9.here hx rfl (hb hby d1_44) rfl  k) ?_
      show GlS _ _ _ _ _ _ _ _ _ _ (T9.setTop (mkF m 45 #[.val (.int p1), .val (.int p2), .val (.int p3)] [(.int p2), (.int (0 : Int32)), (.ref o9), (.ref o9), (.ref o8), (.ref o8)]))
      obtain ⟨cl10, Ar10, vq10, S10, M10, Hh10, G10⟩ := id V_o9
      obtain ⟨T10, h10, X10, e10, W10, st10⟩ := stC X9 hx hZ e9 Ar10 (j := (0 : Int32)) (inb_of S10 ⟨by decide, by decide⟩) (g := (mkF m 45 #[.val (.int p1), .val (.int p2), .val (.int p3)] [(.int p2), (.int (0 : Int32)), (.ref o9), (.ref o9), (.ref o8), (.ref o8)])) rfl rfl (hb hby d1_45)
      have V10 : Arv Z h10 o9 k9 .char (2 : Int32) [(.int (nar .char p2)), (.int (0 : Int32))] (.int (0 : Int32)) := Arv.set Ar10 vq10 S10 M10 Hh10 G10 (fits_nar_char _) W10 0 rfl (Nat.le_of_ble_eq_true rfl)
      have K10 : Keep h0 h10 [] := K9.wr W10 (Or.inr sz_o9)
      have N10 := Fr.snoc X10 N0 g_o9
      refine goS (fun t k => st10 _ k) ?_
      have C10 := C9.trans (CHr.wr W10 (Safe.arv hZ.alike V_o9 (by decide)) C9.1)
      have hk10 := Nat.le_trans hk9 (Keep.of_wr W10).1
      show GlS _ _ _ _ _ _ _ _ _ _ (T10.setTop (mkF m 46 #[.val (.int p1), .val (.int p2), .val (.int p3)] [(.ref o9), (.ref o8), (.ref o8)]))
      refine goS (fun t k => XS.dup X10.here hx rfl (hb hby d1_46) rfl rfl k) ?_
      show GlS _ _ _ _ _ _ _ _ _ _ (T10.setTop (mkF m 47 #[.val (.int p1), .val (.int p2), .val (.int p3)] [(.ref o9), (.ref o9), (.ref o8), (.ref o8)]))
      refine goS (fun t k => XS.iconst X10.here hx rfl (hb hby d1_47) k) ?_
      show GlS _ _ _ _ _ _ _ _ _ _ (T10.setTop (mkF m 48 #[.val (.int p1), .val (.int p2), .val (.int p3)] [(.int (1 : Int32)), (.ref o9), (.ref o9), (.ref o8), (.ref o8)]))
      refine goS (fun t k => XS.iloadN X10.here hx rfl (hb hby d1_48) rfl  k) ?_
      show GlS _ _ _ _ _ _ _ _ _ _ (T10.setTop (mkF m 49 #[.val (.int p1), .val (.int p2), .val (.int p3)] [(.int p3), (.int (1 : Int32)), (.ref o9), (.ref o9), (.ref o8), (.ref o8)]))
      obtain ⟨cl11, Ar11, vq11, S11, M11, Hh11, G11⟩ := id V10
      obtain ⟨T11, h11, X11, e11, W11, st11⟩ := stC X10 hx hZ e10 Ar11 (j := (1 : Int32)) (inb_of S11 ⟨by decide, by decide⟩) (g := (mkF m 49 #[.val (.int p1), .val (.int p2), .val (.int p3)] [(.int p3), (.int (1 : Int32)), (.ref o9), (.ref o9), (.ref o8), (.ref o8)])) rfl rfl (hb hby d1_49)
      have V11 : Arv Z h11 o9 k9 .char (2 : Int32) [(.int (nar .char p2)), (.int (nar .char p3))] (.int (0 : Int32)) := Arv.set Ar11 vq11 S11 M11 Hh11 G11 (fits_nar_char _) W11 1 rfl (Nat.le_of_ble_eq_true rfl)
      have K11 : Keep h0 h11 [] := K10.wr W11 (Or.inr sz_o9)
      have N11 := Fr.snoc X11 N10 g_o9
      refine goS (fun t k => st11 _ k) ?_
      have C11 := C10.trans (CHr.wr W11 (Safe.arv hZ.alike V10 (by decide)) C10.1)
      have hk11 := Nat.le_trans hk10 (Keep.of_wr W11).1
      show GlS _ _ _ _ _ _ _ _ _ _ (T11.setTop (mkF m 50 #[.val (.int p1), .val (.int p2), .val (.int p3)] [(.ref o9), (.ref o8), (.ref o8)]))
      obtain ⟨_, _, ⟨T12, L12, k12, n12⟩, -, X12, ⟨Lc12, hQ12, l12, y12, z12⟩, st12⟩ := X11.specialBack hx (y := (⟨"java/lang/String", "<init>", "([C)V"⟩ : MethodName)) rfl hown (mvT hZ (hw _ (List.mem_of_getElem? (i := 8) rfl))) (mvT hZ (hw _ (List.mem_of_getElem? (i := 9) rfl))) (mvT hZ (hw _ (List.mem_of_getElem? (i := 10) rfl))) (by decide) (StrChars.Road.backV (W := 1) hZ (own_wV hw) (kI := 4) (hw _ (List.mem_of_getElem? (i := 5) rfl)) (cs := ([(nar .char p2), (nar .char p3)] : List Int32)) (bs := ([(nar .char p2), (nar .char p3)] : List Int32).map (fun c => c.toInt8.toInt32)) (n := 2) (n0 := n0) g_o8 (Nat.le_trans (Nat.le_trans (Nat.le_trans (Nat.le_trans Z0 E8.1) E9.1) (Keep.of_wr W10).1) (Keep.of_wr W11).1) (((A8.ext E9).wr W10).wr W11) (((F_value_o8.ext E9).other W10 (Or.inl ne_o8_o9)).other W11 (Or.inl ne_o8_o9)) (((F_coder_o8.ext E9).other W10 (Or.inl ne_o8_o9)).other W11 (Or.inl ne_o8_o9)) V11 (Sta.wr W11 (Sta.wr W10 ((S_COMPACT_STRINGS.ext E8).ext E9))) hcz rfl rfl (by decide) (by decide) (own_b2 hb2 hb3) rfl (by decide) (by decide)) (g := (mkF m 50 #[.val (.int p1), .val (.int p2), .val (.int p3)] [(.ref o9), (.ref o8), (.ref o8)])) rfl (by rw [hml]; rfl) (Steps.refl _) (a := o8) (argsL := [(.ref o9)]) (rest := [(.ref o8)]) (lenOf pd_1 rfl) rfl (by show 2 * 0 + _ ≤ _; exact Nat.le_of_eq rfl) (hb hby d1_50) (fun _ _ => ⟨rfl, e11, (by decide : 2 + 1 ≤ _), (by decide : 6 + 2 ≤ _)⟩)
      dsimp only [Pt.U, Pt.locs, Pt.cells, Pt.slots] at X12 l12 y12 z12 st12 hQ12
      subst l12 y12 z12
      have X12 : Stand p l e ({ frames := 4, cells := 6, slots := 12, locals := 66 } : Room) (s.setVm s.vm) m #[(.int p1), (.int p2), (.int p3)] below meth c T12 _ 3 8 := X12
      obtain ⟨rfl, N12q, K12q, EA12, FC12, t12, kb12, -, -, -, FV12, VB12⟩ := hQ12
      obtain ⟨h12, e12⟩ : ∃ z, T12.heap = z := ⟨_, rfl⟩
      rw [e12] at K12q EA12 FC12 FV12 VB12
      have K12 : Keep h0 h12 [] := K11.trans K12q (allS (Or.inr sz_o8) all0)
      have Ts12 : own_str Z h12 o8 ([(nar .char p2), (nar .char p3)] : List Int32) := ⟨t12, kb12, EA12, FV12, FC12, VB12⟩
      have N12 := Fr.app N11 N12q
      refine goS (fun t k => st12.trans k) ?_
      have C12 := C11.trans (CHr.keep K12q (sfS (own_safe hZ.alike (((A8.ext E9).wr W10).wr W11) (((F_value_o8.ext E9).other W10 (Or.inl ne_o8_o9)).other W11 (Or.inl ne_o8_o9))) sf0) C11.1)
      have hk12 := Nat.le_trans hk11 K12q.1
      show GlS _ _ _ _ _ _ _ _ _ _ (T12.setTop (mkF m 53 #[.val (.int p1), .val (.int p2), .val (.int p3)] [(.ref o8)]))
      have TT : own_str Z h12 o8 (own_cs p1 (nar .char p2) (nar .char p3)) := by rw [own_cs2 hc1 hc17]; exact Ts12
      exact endRS X12 hx Bd rfl (hb hby d1_53) ⟨o8, rfl, (by rw [e12]; exact ⟨K12, sz_o8, TT⟩)⟩ N12 (by decide) (by decide) hS0 (own_hk e12 hk12) (own_cend hh e12 (C12.trans (CHv.at X12 hZ hEL C12.1)))
theorem d6_0 : decode jdk_31_method_11_code 0 = .ok (.aload_n 0, 1) := by decide +kernel
theorem d6_1 : decode jdk_31_method_11_code 1 = .ok (.ifnonnull 12, 3) := by decide +kernel
theorem d6_13 : decode jdk_31_method_11_code 13 = .ok (.aload_n 0, 1) := by decide +kernel
theorem d6_14 : decode jdk_31_method_11_code 14 = .ok (.areturn, 1) := by decide +kernel
theorem pn_2 : plainName "java/util/Objects" = true := by first | (simp [plainName, overriddenIn]; done) | decide +kernel
theorem ef_6 (m : MethodId) (a1 : Addr) (a2 : Addr) : entryFrame m #[(.ref a1), (.ref a2)] 2 = mkF m 0 #[.val (.ref a1), .val (.ref a2)] [] := by first | (simp [entryFrame, mkF, argsToLocals, Value.category]; done) | rfl
def b6_0 (a1 : Addr) : Addr := a1
set_option maxRecDepth 65536 in
set_option maxHeartbeats 40000000 in
theorem rm6 (l : Launch) (Z : State) (a0 : Array Value) (hw : ∀ d ∈ tables_1, d.before a0 Z = true) (ws : List Jvm.Cond) (a1 : Addr) (a2 : Addr) (h0 : Heap) (n0 : Nat) (Z0 : n0 ≤ h0.size) :
    MetFree l (⟨"java/util/Objects", "requireNonNull", "(Ljava/lang/Object;Ljava/lang/String;)Ljava/lang/Object;"⟩ : MethodName) (head1 (Jvm.Cond.code (⟨"java/util/Objects", "requireNonNull", "(Ljava/lang/Object;Ljava/lang/String;)Ljava/lang/Object;"⟩ : MethodName) jdk_31_method_11_code 2 (some (.object "java/lang/Object")) :: ws) ({ frames := 0, cells := 0, slots := 0, locals := 0 } : Room)) (fun a U => a = #[(.ref a1), (.ref a2)] ∧ Z.Warmed39 U.vm ∧ U.heap = h0) (fun _ _ _ _ _ => True) (fun _ U o U' => ∃ v L, o = .returned v ∧ QK n0 (Kv (some (.ref (b6_0 a1))) (fun h => h = h0)) v U'.heap L ∧ FrameEnd U o U' L ({ frames := 0, cells := 0, slots := 0, locals := 0 } : Room).cells ({ frames := 0, cells := 0, slots := 0, locals := 0 } : Room).slots) := by
  refine MetFree.of_bodySF (plainFor_of_name pn_2) hisR ?_
  intro p e s m args below meth c s₁ Bd hml0 hP hK
  obtain ⟨rfl, hZ, hh⟩ := hP
  have hx := Bd.exec
  have hby := Bd.bytes
  have hml : c.maxLocals = 2 := hml0
  have hown : s.vm.findClass "java/util/Objects" = some m.cls := findClass_of_methodNamed Bd.named
  have hnm := (name_of_methodNamed Bd.named Bd.method).1
  have X0 : Stand p l e ({ frames := 0, cells := 0, slots := 0, locals := 0 } : Room) s m #[(.ref a1), (.ref a2)] below meth c s₁ [] 0 0 := Stand.of_body Bd
  have e0 : s₁.heap = h0 := by rw [← hh, Bd.state]; rfl
  have N0 := Fr.nil n0
  refine gl_start (ef_6 m a1 a2) ?_
  show Gl p e below s n0 ({ frames := 0, cells := 0, slots := 0, locals := 0 } : Room).cells ({ frames := 0, cells := 0, slots := 0, locals := 0 } : Room).slots (Kv (some (.ref a1)) (fun h => h = h0)) (s₁.setTop (mkF m 0 #[.val (.ref a1), .val (.ref a2)] []))
  refine go (fun t k => XS.aloadN X0.here hx rfl (hb hby d6_0) rfl rfl k) ?_
  show Gl _ _ _ _ _ _ _ _ (s₁.setTop (mkF m 1 #[.val (.ref a1), .val (.ref a2)] [(.ref a1)]))
  refine go (fun t k => XS.ifnonnullYes X0.here hx rfl (pc0 := 1) (pc' := 13) rfl (hb hby d6_1) rfl (by decide) (by decide) k) ?_
  show Gl _ _ _ _ _ _ _ _ (s₁.setTop (mkF m 13 #[.val (.ref a1), .val (.ref a2)] []))
  refine go (fun t k => XS.aloadN X0.here hx rfl (hb hby d6_13) rfl rfl k) ?_
  show Gl _ _ _ _ _ _ _ _ (s₁.setTop (mkF m 14 #[.val (.ref a1), .val (.ref a2)] [(.ref a1)]))
  exact endR X0 hx Bd rfl (hb hby d6_14) ⟨rfl, e0⟩ N0 (by decide) (by decide)
theorem pd_2 : parseMethodDescriptor "(Ljava/lang/Object;Ljava/lang/String;)Ljava/lang/Object;" = some ⟨[(.object "java/lang/Object"), (.object "java/lang/String")], some (.object "java/lang/Object")⟩ := by decide +kernel
theorem d5_0 : decode prog_17_method_1_code 0 = .ok (.aload_n 0, 1) := by decide +kernel
theorem d5_1 : decode prog_17_method_1_code 1 = .ok (.invokespecial 1, 3) := by decide +kernel
theorem d5_4 : decode prog_17_method_1_code 4 = .ok (.aload_n 0, 1) := by decide +kernel
theorem d5_5 : decode prog_17_method_1_code 5 = .ok (.iload_n 1, 1) := by decide +kernel
theorem d5_6 : decode prog_17_method_1_code 6 = .ok (.putfield 7, 3) := by decide +kernel
theorem d5_9 : decode prog_17_method_1_code 9 = .ok (.aload_n 0, 1) := by decide +kernel
theorem d5_10 : decode prog_17_method_1_code 10 = .ok (.iload_n 2, 1) := by decide +kernel
theorem d5_11 : decode prog_17_method_1_code 11 = .ok (.putfield 13, 3) := by decide +kernel
theorem d5_14 : decode prog_17_method_1_code 14 = .ok (.aload_n 0, 1) := by decide +kernel
theorem d5_15 : decode prog_17_method_1_code 15 = .ok (.aload_n 3, 1) := by decide +kernel
theorem d5_16 : decode prog_17_method_1_code 16 = .ok (.ldc 16, 2) := by decide +kernel
theorem d5_18 : decode prog_17_method_1_code 18 = .ok (.invokestatic 18, 3) := by decide +kernel
theorem d5_21 : decode prog_17_method_1_code 21 = .ok (.checkcast 24, 3) := by decide +kernel
theorem d5_24 : decode prog_17_method_1_code 24 = .ok (.putfield 26, 3) := by decide +kernel
theorem d5_27 : decode prog_17_method_1_code 27 = .ok (.return_, 1) := by decide +kernel
theorem pn_3 : plainName "com/example/tercet/tercet/SyntaxWarning" = true := by first | (simp [plainName, overriddenIn]; done) | decide +kernel
theorem ef_5 (m : MethodId) (a1 : Addr) (p2 : Int32) (p3 : Int32) (a4 : Addr) : entryFrame m #[(.ref a1), (.int p2), (.int p3), (.ref a4)] 4 = mkF m 0 #[.val (.ref a1), .val (.int p2), .val (.int p3), .val (.ref a4)] [] := by first | (simp [entryFrame, mkF, argsToLocals, Value.category]; done) | rfl
set_option maxRecDepth 65536 in
set_option maxHeartbeats 40000000 in
theorem rm5 (l : Launch) (Z : State) (a0 : Array Value) (hw : ∀ d ∈ tables_1, d.before a0 Z = true) (ws : List Jvm.Cond) (a1 : Addr) (p2 : Int32) (p3 : Int32) (a4 : Addr) (w_line_a1 : Value) (w_column_a1 : Value) (w_message_a1 : Value) (h0 : Heap) (n0 : Nat) (Z0 : n0 ≤ h0.size) (E_a1 : Exa Z h0 a1 "com/example/tercet/tercet/SyntaxWarning") (g_a1 : n0 ≤ a1) (F_line_a1 : Fld Z h0 a1 "com/example/tercet/tercet/SyntaxWarning" "line" "I" w_line_a1) (F_column_a1 : Fld Z h0 a1 "com/example/tercet/tercet/SyntaxWarning" "column" "I" w_column_a1) (F_message_a1 : Fld Z h0 a1 "com/example/tercet/tercet/SyntaxWarning" "message" "Ljava/lang/String;" w_message_a1) (E_a4 : Exa Z h0 a4 "java/lang/String") :
    MetFree l (⟨"com/example/tercet/tercet/SyntaxWarning", "<init>", "(IILjava/lang/String;)V"⟩ : MethodName) (head1 (Jvm.Cond.code (⟨"com/example/tercet/tercet/SyntaxWarning", "<init>", "(IILjava/lang/String;)V"⟩ : MethodName) prog_17_method_1_code 4 none :: ws) ({ frames := 1, cells := 2, slots := 32, locals := 14 } : Room)) (fun a U => a = #[(.ref a1), (.int p2), (.int p3), (.ref a4)] ∧ Z.Warmed39 U.vm ∧ U.heap = h0 ∧ CHv Z own_EL U.vm h0) (fun _ _ _ _ _ => True) (fun _ U o U' => ∃ v L, o = .returned v ∧ QK n0 (Kv none (fun h => Keep h0 h [a1] ∧ Exa Z h a1 "com/example/tercet/tercet/SyntaxWarning" ∧ Fld Z h a1 "com/example/tercet/tercet/SyntaxWarning" "line" "I" (.int p2) ∧ Fld Z h a1 "com/example/tercet/tercet/SyntaxWarning" "column" "I" (.int p3) ∧ Fld Z h a1 "com/example/tercet/tercet/SyntaxWarning" "message" "Ljava/lang/String;" (.ref a4))) v U'.heap L ∧ CHr Z own_EL U.vm U.heap U'.vm U'.heap ∧ ReturnedEndW U o U' L ({ frames := 1, cells := 2, slots := 32, locals := 14 } : Room).cells ({ frames := 1, cells := 2, slots := 32, locals := 14 } : Room).slots) := by
  refine MetFree.of_bodySF (plainFor_of_name pn_3) hisR ?_
  intro p e s m args below meth c s₁ Bd hml0 hP hK
  obtain ⟨rfl, hZ, hh, hC⟩ := hP
  have hx := Bd.exec
  have hby := Bd.bytes
  have hml : c.maxLocals = 4 := hml0
  have hown : s.vm.findClass "com/example/tercet/tercet/SyntaxWarning" = some m.cls := findClass_of_methodNamed Bd.named
  have hnm := (name_of_methodNamed Bd.named Bd.method).1
  have X0 : Stand p l e ({ frames := 1, cells := 2, slots := 32, locals := 14 } : Room) (s.setVm s.vm) m #[(.ref a1), (.int p2), (.int p3), (.ref a4)] below meth c s₁ [] 0 0 := Stand.of_body Bd
  have e0 : s₁.heap = h0 := by rw [← hh, Bd.state]; rfl
  have N0 := Fr.nil n0
  have hEL := own_ew hw
  have hwS := own_ws hw
  have hS0 : s.Since s.vm s.heap.size := own_since s
  have hk0 : s.heap.size ≤ h0.size := by rw [← hh]; exact Nat.le_refl _
  have C0 : CHr Z own_EL s.vm h0 s.vm h0 := CHr.refl hC
  refine gl_startS (ef_5 m a1 p2 p3 a4) ?_
  show GlS p e below s Z own_EL n0 ({ frames := 1, cells := 2, slots := 32, locals := 14 } : Room).cells ({ frames := 1, cells := 2, slots := 32, locals := 14 } : Room).slots (Kv none (fun h => Keep h0 h [a1] ∧ Exa Z h a1 "com/example/tercet/tercet/SyntaxWarning" ∧ Fld Z h a1 "com/example/tercet/tercet/SyntaxWarning" "line" "I" (.int p2) ∧ Fld Z h a1 "com/example/tercet/tercet/SyntaxWarning" "column" "I" (.int p3) ∧ Fld Z h a1 "com/example/tercet/tercet/SyntaxWarning" "message" "Ljava/lang/String;" (.ref a4))) (s₁.setTop (mkF m 0 #[.val (.ref a1), .val (.int p2), .val (.int p3), .val (.ref a4)] []))
  refine goS (fun t k => XS.aloadN X0.here hx rfl (hb hby d5_0) rfl rfl k) ?_
  show GlS _ _ _ _ _ _ _ _ _ _ (s₁.setTop (mkF m 1 #[.val (.ref a1), .val (.int p2), .val (.int p3), .val (.ref a4)] [(.ref a1)]))
  obtain ⟨T1, X1, e1, st1⟩ := initO X0 hx hZ hown (hw _ (List.mem_of_getElem? (i := 32) rfl)) (hw _ (List.mem_of_getElem? (i := 16) rfl)) (hw _ (List.mem_of_getElem? (i := 17) rfl)) e0 (g := (mkF m 1 #[.val (.ref a1), .val (.int p2), .val (.int p3), .val (.ref a4)] [(.ref a1)])) rfl (by rw [hml]; rfl) rfl (hb hby d5_1) (by decide) (W := 0) (by show 2 * 0 + _ ≤ _; exact Nat.le_of_eq rfl) (by decide)
  refine goS (fun t k => st1 _ k) ?_
  show GlS _ _ _ _ _ _ _ _ _ _ (T1.setTop (mkF m 4 #[.val (.ref a1), .val (.int p2), .val (.int p3), .val (.ref a4)] []))
  refine goS (fun t k => XS.aloadN X1.here hx rfl (hb hby d5_4) rfl rfl k) ?_
  show GlS _ _ _ _ _ _ _ _ _ _ (T1.setTop (mkF m 5 #[.val (.ref a1), .val (.int p2), .val (.int p3), .val (.ref a4)] [(.ref a1)]))
  refine goS (fun t k => XS.iloadN X1.here hx rfl (hb hby d5_5) rfl  k) ?_
  show GlS _ _ _ _ _ _ _ _ _ _ (T1.setTop (mkF m 6 #[.val (.ref a1), .val (.int p2), .val (.int p3), .val (.ref a4)] [(.int p2), (.ref a1)]))
  obtain ⟨T2, h2, X2, e2, W2, st2⟩ := putF X1 hx hZ hown (host := "") (Or.inl (hw _ (List.mem_of_getElem? (i := 33) rfl))) Via.refl e1 F_line_a1 E_a1 (Or.inr ⟨(hw _ (List.mem_of_getElem? (i := 34) rfl)), rfl, hnm⟩) (hw _ (List.mem_of_getElem? (i := 27) rfl)) (ty := .int) (by decide) rfl rfl (g := (mkF m 6 #[.val (.ref a1), .val (.int p2), .val (.int p3), .val (.ref a4)] [(.int p2), (.ref a1)])) rfl rfl (hb hby d5_6)
  have Fw2 := F_line_a1.same W2
  have K2 : Keep h0 h2 [a1] := (Keep.refl h0 [a1]).wr W2 (Or.inl (List.mem_of_getElem? (i := 0) rfl))
  have N2 := Fr.snoc X2 N0 g_a1
  refine goS (fun t k => st2 _ k) ?_
  have C2 := C0.trans (CHr.wr W2 (Safe.exa hZ.alike E_a1 (by decide) (by decide)) C0.1)
  have hk2 := Nat.le_trans hk0 (Keep.of_wr W2).1
  show GlS _ _ _ _ _ _ _ _ _ _ (T2.setTop (mkF m 9 #[.val (.ref a1), .val (.int p2), .val (.int p3), .val (.ref a4)] []))
  refine goS (fun t k => XS.aloadN X2.here hx rfl (hb hby d5_9) rfl rfl k) ?_
  show GlS _ _ _ _ _ _ _ _ _ _ (T2.setTop (mkF m 10 #[.val (.ref a1), .val (.int p2), .val (.int p3), .val (.ref a4)] [(.ref a1)]))
  refine goS (fun t k => XS.iloadN X2.here hx rfl (hb hby d5_10) rfl  k) ?_
  show GlS _ _ _ _ _ _ _ _ _ _ (T2.setTop (mkF m 11 #[.val (.ref a1), .val (.int p2), .val (.int p3), .val (.ref a4)] [(.int p3), (.ref a1)]))
  obtain ⟨T3, h3, X3, e3, W3, st3⟩ := putF X2 hx hZ hown (host := "") (Or.inl (hw _ (List.mem_of_getElem? (i := 35) rfl))) Via.refl e2 (F_column_a1.other W2 (Or.inr (slot_ne (Or.inr (hw _ (List.mem_of_getElem? (i := 36) rfl))) (Or.inr (hw _ (List.mem_of_getElem? (i := 34) rfl))) (by decide) (t := .int) (t' := .int) (by decide) (by decide)))) (E_a1.wr W2) (Or.inr ⟨(hw _ (List.mem_of_getElem? (i := 36) rfl)), rfl, hnm⟩) (hw _ (List.mem_of_getElem? (i := 27) rfl)) (ty := .int) (by decide) rfl rfl (g := (mkF m 11 #[.val (.ref a1), .val (.int p2), .val (.int p3), .val (.ref a4)] [(.int p3), (.ref a1)])) rfl rfl (hb hby d5_11)
  have Fw3 := (F_column_a1.other W2 (Or.inr (slot_ne (Or.inr (hw _ (List.mem_of_getElem? (i := 36) rfl))) (Or.inr (hw _ (List.mem_of_getElem? (i := 34) rfl))) (by decide) (t := .int) (t' := .int) (by decide) (by decide)))).same W3
  have K3 : Keep h0 h3 [a1] := K2.wr W3 (Or.inl (List.mem_of_getElem? (i := 0) rfl))
  have N3 := Fr.snoc X3 N2 g_a1
  refine goS (fun t k => st3 _ k) ?_
  have C3 := C2.trans (CHr.wr W3 (Safe.exa hZ.alike (E_a1.wr W2) (by decide) (by decide)) C2.1)
  have hk3 := Nat.le_trans hk2 (Keep.of_wr W3).1
  show GlS _ _ _ _ _ _ _ _ _ _ (T3.setTop (mkF m 14 #[.val (.ref a1), .val (.int p2), .val (.int p3), .val (.ref a4)] []))
  refine goS (fun t k => XS.aloadN X3.here hx rfl (hb hby d5_14) rfl rfl k) ?_
  show GlS _ _ _ _ _ _ _ _ _ _ (T3.setTop (mkF m 15 #[.val (.ref a1), .val (.int p2), .val (.int p3), .val (.ref a4)] [(.ref a1)]))
  refine goS (fun t k => XS.aloadN X3.here hx rfl (hb hby d5_15) rfl rfl k) ?_
  show GlS _ _ _ _ _ _ _ _ _ _ (T3.setTop (mkF m 16 #[.val (.ref a1), .val (.int p2), .val (.int p3), .val (.ref a4)] [(.ref a4), (.ref a1)]))
  obtain ⟨y4_s, T4, h4, kk4, X4, e4, E4, hS4, hk4, hZ4, hown4, Cq4, -, st4⟩ := ldcOH X3 hx hZ hown (hw _ (List.mem_of_getElem? (i := 37) rfl)) hwS e3 hS0 hk3 hEL C3.1 (g := (mkF m 16 #[.val (.ref a1), .val (.int p2), .val (.int p3), .val (.ref a4)] [(.ref a4), (.ref a1)])) rfl (hb hby d5_16) (n := 28) (by decide) (by decide) (by decide) (by decide)
  have C4 := C3.trans Cq4
  have K4 : Keep h0 h4 [a1] := K3.ext E4
  refine goS (fun t k => st4 _ k) ?_
  show GlS _ _ _ _ _ _ _ _ _ _ (T4.setTop (mkF m 18 #[.val (.ref a1), .val (.int p2), .val (.int p3), .val (.ref a4)] [(.ref y4_s), (.ref a4), (.ref a1)]))
  obtain ⟨_, _, ⟨T5, L5, k5, n5⟩, -, X5, ⟨Lc5, hQ5, l5, y5, z5⟩, st5⟩ := Jvm.LawKit.callS X4 hx (y := (⟨"java/util/Objects", "requireNonNull", "(Ljava/lang/Object;Ljava/lang/String;)Ljava/lang/Object;"⟩ : MethodName)) hown4 (mvT hZ4 (hw _ (List.mem_of_getElem? (i := 38) rfl))) (mvT hZ4 (hw _ (List.mem_of_getElem? (i := 39) rfl))) (mvT hZ4 (hw _ (List.mem_of_getElem? (i := 40) rfl))) (mvT hZ4 (hw _ (List.mem_of_getElem? (i := 41) rfl))) (by decide) (backOf (W := 1) (rm6 l Z a0 hw [] a4 y4_s h4 n0 (Nat.le_trans (Nat.le_trans (Nat.le_trans Z0 (Keep.of_wr W2).1) (Keep.of_wr W3).1) E4.1) ) hZ4 (hw _ (List.mem_of_getElem? (i := 41) rfl)) (hw _ (List.mem_of_getElem? (i := 40) rfl)) (by decide) (by decide)) (g := (mkF m 18 #[.val (.ref a1), .val (.int p2), .val (.int p3), .val (.ref a4)] [(.ref y4_s), (.ref a4), (.ref a1)])) rfl (by rw [hml]; rfl) (argsL := [(.ref a4), (.ref y4_s)]) (rest := [(.ref a1)]) (lenOf pd_2 rfl) rfl (by show 2 * 0 + _ ≤ _; exact Nat.le_of_eq rfl) (hb hby d5_18) (fun _ _ => ⟨rfl, e4, (by decide : 2 + 0 ≤ _), (by decide : 32 + 0 ≤ _)⟩)
  dsimp only [Pt.U, Pt.locs, Pt.cells, Pt.slots] at X5 l5 y5 z5 st5 hQ5
  subst l5 y5 z5
  have X5 : Stand p l e ({ frames := 1, cells := 2, slots := 32, locals := 14 } : Room) (s.setVm T4.vm) m #[(.ref a1), (.int p2), (.int p3), (.ref a4)] below meth c T5 _ 2 32 := X5
  obtain ⟨⟨rfl, e5'⟩, N5q⟩ := hQ5
  have e5 : T5.heap = h4 := e5'
  have N5 := Fr.app N3 N5q
  refine goS (fun t k => st5 _ k) ?_
  show GlS _ _ _ _ _ _ _ _ _ _ (T5.setTop (mkF m 21 #[.val (.ref a1), .val (.int p2), .val (.int p3), .val (.ref a4)] [(.ref a4), (.ref a1)]))
  obtain ⟨T6, X6, e6, st6⟩ := castY X5 hx hZ4 hown4 (hw _ (List.mem_of_getElem? (i := 42) rfl)) e5 (Ins.self (((E_a4.wr W2).wr W3).ext E4)) (g := (mkF m 21 #[.val (.ref a1), .val (.int p2), .val (.int p3), .val (.ref a4)] [(.ref a4), (.ref a1)])) rfl rfl (hb hby d5_21)
  refine goS (fun t k => st6 _ k) ?_
  show GlS _ _ _ _ _ _ _ _ _ _ (T6.setTop (mkF m 24 #[.val (.ref a1), .val (.int p2), .val (.int p3), .val (.ref a4)] [(.ref a4), (.ref a1)]))
  obtain ⟨T7, h7, X7, e7, W7, st7⟩ := putF X6 hx hZ4 hown4 (host := "") (Or.inl (hw _ (List.mem_of_getElem? (i := 43) rfl))) Via.refl e6 (((F_message_a1.other W2 (Or.inr (slot_ne (Or.inr (hw _ (List.mem_of_getElem? (i := 44) rfl))) (Or.inr (hw _ (List.mem_of_getElem? (i := 34) rfl))) (by decide) (t := (.object "java/lang/String")) (t' := .int) (by decide) (by decide)))).other W3 (Or.inr (slot_ne (Or.inr (hw _ (List.mem_of_getElem? (i := 44) rfl))) (Or.inr (hw _ (List.mem_of_getElem? (i := 36) rfl))) (by decide) (t := (.object "java/lang/String")) (t' := .int) (by decide) (by decide)))).ext E4) (((E_a1.wr W2).wr W3).ext E4) (Or.inr ⟨(hw _ (List.mem_of_getElem? (i := 44) rfl)), rfl, hnm⟩) (hw _ (List.mem_of_getElem? (i := 27) rfl)) (ty := (.object "java/lang/String")) (by decide) rfl rfl (g := (mkF m 24 #[.val (.ref a1), .val (.int p2), .val (.int p3), .val (.ref a4)] [(.ref a4), (.ref a1)])) rfl rfl (hb hby d5_24)
  have Fw7 := (((F_message_a1.other W2 (Or.inr (slot_ne (Or.inr (hw _ (List.mem_of_getElem? (i := 44) rfl))) (Or.inr (hw _ (List.mem_of_getElem? (i := 34) rfl))) (by decide) (t := (.object "java/lang/String")) (t' := .int) (by decide) (by decide)))).other W3 (Or.inr (slot_ne (Or.inr (hw _ (List.mem_of_getElem? (i := 44) rfl))) (Or.inr (hw _ (List.mem_of_getElem? (i := 36) rfl))) (by decide) (t := (.object "java/lang/String")) (t' := .int) (by decide) (by decide)))).ext E4).same W7
  have K7 : Keep h0 h7 [a1] := K4.wr W7 (Or.inl (List.mem_of_getElem? (i := 0) rfl))
  have N7 := Fr.snoc X7 N5 g_a1
  refine goS (fun t k => st7 _ k) ?_
  have C7 := C4.trans (CHr.wr W7 (Safe.exa hZ4.alike (((E_a1.wr W2).wr W3).ext E4) (by decide) (by decide)) C4.1)
  have hk7 := Nat.le_trans hk4 (Keep.of_wr W7).1
  show GlS _ _ _ _ _ _ _ _ _ _ (T7.setTop (mkF m 27 #[.val (.ref a1), .val (.int p2), .val (.int p3), .val (.ref a4)] []))
  exact endVS X7 hx Bd (hb hby d5_27) ⟨rfl, (by rw [e7]; exact ⟨K7, ((((E_a1.wr W2).wr W3).ext E4).wr W7), (((Fw2.other W3 (Or.inr (slot_ne (Or.inr (hw _ (List.mem_of_getElem? (i := 34) rfl))) (Or.inr (hw _ (List.mem_of_getElem? (i := 36) rfl))) (by decide) (t := .int) (t' := .int) (by decide) (by decide)))).ext E4).other W7 (Or.inr (slot_ne (Or.inr (hw _ (List.mem_of_getElem? (i := 34) rfl))) (Or.inr (hw _ (List.mem_of_getElem? (i := 44) rfl))) (by decide) (t := .int) (t' := (.object "java/lang/String")) (by decide) (by decide)))), ((Fw3.ext E4).other W7 (Or.inr (slot_ne (Or.inr (hw _ (List.mem_of_getElem? (i := 36) rfl))) (Or.inr (hw _ (List.mem_of_getElem? (i := 44) rfl))) (by decide) (t := .int) (t' := (.object "java/lang/String")) (by decide) (by decide)))), Fw7⟩)⟩ N7 (by decide) (by decide) hS4 (own_hk e7 hk7) (own_cend hh e7 (C7.trans (CHv.at X7 hZ4 hEL C7.1)))
theorem d7_0 : decode prog_17_method_5_code 0 = .ok (.aload_n 1, 1) := by decide +kernel
theorem d7_1 : decode prog_17_method_5_code 1 = .ok (.instanceof 8, 3) := by decide +kernel
theorem d7_4 : decode prog_17_method_5_code 4 = .ok (.ifCond .ne 5, 3) := by decide +kernel
theorem d7_7 : decode prog_17_method_5_code 7 = .ok (.iconst 0, 1) := by decide +kernel
theorem d7_8 : decode prog_17_method_5_code 8 = .ok (.ireturn, 1) := by decide +kernel
theorem ef_7tn (m : MethodId) (a1 : Addr) : entryFrame m #[(.ref a1), .null] 3 = mkF m 0 #[.val (.ref a1), .val .null, .unset] [] := by first | (simp [entryFrame, mkF, argsToLocals, Value.category]; done) | rfl
def b7tn_0  : Int32 := (nar .boolean (0 : Int32))
set_option maxRecDepth 65536 in
set_option maxHeartbeats 40000000 in
theorem rm7tn (l : Launch) (Z : State) (a0 : Array Value) (hw : ∀ d ∈ tables_1, d.before a0 Z = true) (ws : List Jvm.Cond) (a1 : Addr) (h0 : Heap) (n0 : Nat) (Z0 : n0 ≤ h0.size) :
    MetFree l (⟨"com/example/tercet/tercet/SyntaxWarning", "equals", "(Ljava/lang/Object;)Z"⟩ : MethodName) (head1 (Jvm.Cond.code (⟨"com/example/tercet/tercet/SyntaxWarning", "equals", "(Ljava/lang/Object;)Z"⟩ : MethodName) prog_17_method_5_code 3 (some .boolean) :: ws) ({ frames := 0, cells := 0, slots := 0, locals := 0 } : Room)) (fun a U => a = #[(.ref a1), .null] ∧ Z.Warmed39 U.vm ∧ U.heap = h0) (fun _ _ _ _ _ => True) (fun _ U o U' => ∃ v L, o = .returned v ∧ QK n0 (Kv (some (.int b7tn_0)) (fun h => h = h0)) v U'.heap L ∧ FrameEnd U o U' L ({ frames := 0, cells := 0, slots := 0, locals := 0 } : Room).cells ({ frames := 0, cells := 0, slots := 0, locals := 0 } : Room).slots) := by
  refine MetFree.of_bodySF (plainFor_of_name pn_3) hisR ?_
  intro p e s m args below meth c s₁ Bd hml0 hP hK
  obtain ⟨rfl, hZ, hh⟩ := hP
  have hx := Bd.exec
  have hby := Bd.bytes
  have hml : c.maxLocals = 3 := hml0
  have hown : s.vm.findClass "com/example/tercet/tercet/SyntaxWarning" = some m.cls := findClass_of_methodNamed Bd.named
  have hnm := (name_of_methodNamed Bd.named Bd.method).1
  have X0 : Stand p l e ({ frames := 0, cells := 0, slots := 0, locals := 0 } : Room) s m #[(.ref a1), .null] below meth c s₁ [] 0 0 := Stand.of_body Bd
  have e0 : s₁.heap = h0 := by rw [← hh, Bd.state]; rfl
  have N0 := Fr.nil n0
  refine gl_start (ef_7tn m a1) ?_
  show Gl p e below s n0 ({ frames := 0, cells := 0, slots := 0, locals := 0 } : Room).cells ({ frames := 0, cells := 0, slots := 0, locals := 0 } : Room).slots (Kv (some (.int (nar .boolean (0 : Int32)))) (fun h => h = h0)) (s₁.setTop (mkF m 0 #[.val (.ref a1), .val .null, .unset] []))
  refine go (fun t k => XS.aloadN X0.here hx rfl (hb hby d7_0) rfl rfl k) ?_
  show Gl _ _ _ _ _ _ _ _ (s₁.setTop (mkF m 1 #[.val (.ref a1), .val .null, .unset] [.null]))
  refine go (fun t k => X0.instanceofNull hx (g := (mkF m 1 #[.val (.ref a1), .val .null, .unset] [.null])) rfl rfl (hb hby d7_1) _ k) ?_
  show Gl _ _ _ _ _ _ _ _ (s₁.setTop (mkF m 4 #[.val (.ref a1), .val .null, .unset] [(.int (0 : Int32))]))
  refine go (fun t k => XS.ifNo X0.here hx rfl (hb hby d7_4) rfl ((if0 _ _).trans (teq (by decide : (0 : Int32) = (0 : Int32))).2) k) ?_
  show Gl _ _ _ _ _ _ _ _ (s₁.setTop (mkF m 7 #[.val (.ref a1), .val .null, .unset] []))
  refine go (fun t k => XS.iconst X0.here hx rfl (hb hby d7_7) k) ?_
  show Gl _ _ _ _ _ _ _ _ (s₁.setTop (mkF m 8 #[.val (.ref a1), .val .null, .unset] [(.int (0 : Int32))]))
  exact endN X0 hx Bd (t := .boolean) (by simp) (hb hby d7_8) ⟨rfl, e0⟩ N0 (by decide) (by decide)
theorem ef_7ts (m : MethodId) (a1 : Addr) (a2 : Addr) : entryFrame m #[(.ref a1), (.ref a2)] 3 = mkF m 0 #[.val (.ref a1), .val (.ref a2), .unset] [] := by first | (simp [entryFrame, mkF, argsToLocals, Value.category]; done) | rfl
def b7ts_0  : Int32 := (nar .boolean (0 : Int32))
set_option maxRecDepth 65536 in
set_option maxHeartbeats 40000000 in
theorem rm7ts (l : Launch) (Z : State) (a0 : Array Value) (hw : ∀ d ∈ tables_1, d.before a0 Z = true) (ws : List Jvm.Cond) (a1 : Addr) (a2 : Addr) (h0 : Heap) (n0 : Nat) (Z0 : n0 ≤ h0.size) (E_a2 : Exa Z h0 a2 "java/lang/String") :
    MetFree l (⟨"com/example/tercet/tercet/SyntaxWarning", "equals", "(Ljava/lang/Object;)Z"⟩ : MethodName) (head1 (Jvm.Cond.code (⟨"com/example/tercet/tercet/SyntaxWarning", "equals", "(Ljava/lang/Object;)Z"⟩ : MethodName) prog_17_method_5_code 3 (some .boolean) :: ws) ({ frames := 0, cells := 0, slots := 0, locals := 0 } : Room)) (fun a U => a = #[(.ref a1), (.ref a2)] ∧ Z.Warmed39 U.vm ∧ U.heap = h0) (fun _ _ _ _ _ => True) (fun _ U o U' => ∃ v L, o = .returned v ∧ QK n0 (Kv (some (.int b7ts_0)) (fun h => h = h0)) v U'.heap L ∧ FrameEnd U o U' L ({ frames := 0, cells := 0, slots := 0, locals := 0 } : Room).cells ({ frames := 0, cells := 0, slots := 0, locals := 0 } : Room).slots) := by
  refine MetFree.of_bodySF (plainFor_of_name pn_3) hisR ?_
  intro p e s m args below meth c s₁ Bd hml0 hP hK
  obtain ⟨rfl, hZ, hh⟩ := hP
  have hx := Bd.exec
  have hby := Bd.bytes
  have hml : c.maxLocals = 3 := hml0
  have hown : s.vm.findClass "com/example/tercet/tercet/SyntaxWarning" = some m.cls := findClass_of_methodNamed Bd.named
  have hnm := (name_of_methodNamed Bd.named Bd.method).1
  have X0 : Stand p l e ({ frames := 0, cells := 0, slots := 0, locals := 0 } : Room) s m #[(.ref a1), (.ref a2)] below meth c s₁ [] 0 0 := Stand.of_body Bd
  have e0 : s₁.heap = h0 := by rw [← hh, Bd.state]; rfl
  have N0 := Fr.nil n0
  refine gl_start (ef_7ts m a1 a2) ?_
  show Gl p e below s n0 ({ frames := 0, cells := 0, slots := 0, locals := 0 } : Room).cells ({ frames := 0, cells := 0, slots := 0, locals := 0 } : Room).slots (Kv (some (.int (nar .boolean (0 : Int32)))) (fun h => h = h0)) (s₁.setTop (mkF m 0 #[.val (.ref a1), .val (.ref a2), .unset] []))
  refine go (fun t k => XS.aloadN X0.here hx rfl (hb hby d7_0) rfl rfl k) ?_
  show Gl _ _ _ _ _ _ _ _ (s₁.setTop (mkF m 1 #[.val (.ref a1), .val (.ref a2), .unset] [(.ref a2)]))
  obtain ⟨T1, X1, e1, st1⟩ := instNo X0 hx hZ hown (hw _ (List.mem_of_getElem? (i := 50) rfl)) e0 E_a2 (own_not (hw _ (List.mem_of_getElem? (i := 68) rfl)) (hw _ (List.mem_of_getElem? (i := 69) rfl)) (hw _ (List.mem_of_getElem? (i := 27) rfl))) (g := (mkF m 1 #[.val (.ref a1), .val (.ref a2), .unset] [(.ref a2)])) rfl rfl (hb hby d7_1)
  refine go (fun t k => st1 _ k) ?_
  show Gl _ _ _ _ _ _ _ _ (T1.setTop (mkF m 4 #[.val (.ref a1), .val (.ref a2), .unset] [(.int (0 : Int32))]))
  refine go (fun t k => XS.ifNo X1.here hx rfl (hb hby d7_4) rfl ((if0 _ _).trans (teq (by decide : (0 : Int32) = (0 : Int32))).2) k) ?_
  show Gl _ _ _ _ _ _ _ _ (T1.setTop (mkF m 7 #[.val (.ref a1), .val (.ref a2), .unset] []))
  refine go (fun t k => XS.iconst X1.here hx rfl (hb hby d7_7) k) ?_
  show Gl _ _ _ _ _ _ _ _ (T1.setTop (mkF m 8 #[.val (.ref a1), .val (.ref a2), .unset] [(.int (0 : Int32))]))
  exact endN X1 hx Bd (t := .boolean) (by simp) (hb hby d7_8) ⟨rfl, e1⟩ N0 (by decide) (by decide)
theorem pd_3 : parseMethodDescriptor "(Ljava/lang/Object;)Z" = some ⟨[(.object "java/lang/Object")], some .boolean⟩ := by decide +kernel
theorem d7_9 : decode prog_17_method_5_code 9 = .ok (.aload_n 1, 1) := by decide +kernel
theorem d7_10 : decode prog_17_method_5_code 10 = .ok (.checkcast 8, 3) := by decide +kernel
theorem d7_13 : decode prog_17_method_5_code 13 = .ok (.astore_n 2, 1) := by decide +kernel
theorem d7_14 : decode prog_17_method_5_code 14 = .ok (.aload_n 0, 1) := by decide +kernel
theorem d7_15 : decode prog_17_method_5_code 15 = .ok (.getfield 7, 3) := by decide +kernel
theorem d7_18 : decode prog_17_method_5_code 18 = .ok (.aload_n 2, 1) := by decide +kernel
theorem d7_19 : decode prog_17_method_5_code 19 = .ok (.getfield 7, 3) := by decide +kernel
theorem d7_22 : decode prog_17_method_5_code 22 = .ok (.if_icmp .ne 32, 3) := by decide +kernel
theorem d7_25 : decode prog_17_method_5_code 25 = .ok (.aload_n 0, 1) := by decide +kernel
theorem d7_26 : decode prog_17_method_5_code 26 = .ok (.getfield 13, 3) := by decide +kernel
theorem d7_29 : decode prog_17_method_5_code 29 = .ok (.aload_n 2, 1) := by decide +kernel
theorem d7_30 : decode prog_17_method_5_code 30 = .ok (.getfield 13, 3) := by decide +kernel
theorem d7_33 : decode prog_17_method_5_code 33 = .ok (.if_icmp .ne 21, 3) := by decide +kernel
theorem d7_36 : decode prog_17_method_5_code 36 = .ok (.aload_n 0, 1) := by decide +kernel
theorem d7_37 : decode prog_17_method_5_code 37 = .ok (.getfield 26, 3) := by decide +kernel
theorem d7_40 : decode prog_17_method_5_code 40 = .ok (.aload_n 2, 1) := by decide +kernel
theorem d7_41 : decode prog_17_method_5_code 41 = .ok (.getfield 26, 3) := by decide +kernel
theorem d7_44 : decode prog_17_method_5_code 44 = .ok (.invokevirtual 29, 3) := by decide +kernel
theorem d7_47 : decode prog_17_method_5_code 47 = .ok (.ifCond .eq 7, 3) := by decide +kernel
theorem d7_50 : decode prog_17_method_5_code 50 = .ok (.iconst 1, 1) := by decide +kernel
theorem d7_51 : decode prog_17_method_5_code 51 = .ok (.goto 4, 3) := by decide +kernel
theorem d7_54 : decode prog_17_method_5_code 54 = .ok (.iconst 0, 1) := by decide +kernel
theorem d7_55 : decode prog_17_method_5_code 55 = .ok (.ireturn, 1) := by decide +kernel
theorem ef_7tw (m : MethodId) (a1 : Addr) (a2 : Addr) : entryFrame m #[(.ref a1), (.ref a2)] 3 = mkF m 0 #[.val (.ref a1), .val (.ref a2), .unset] [] := by first | (simp [entryFrame, mkF, argsToLocals, Value.category]; done) | rfl
def b7tw_55 (s0_55 : Int32) : Int32 := (nar .boolean s0_55)
def b7tw_54  : Int32 := (b7tw_55 (0 : Int32))
def b7tw_0 (w_line_a1 : Int32) (w_column_a1 : Int32) (w_line_a2 : Int32) (w_column_a2 : Int32) (lsA : List Int32) (lsB : List Int32) : Int32 := (if w_line_a1 = w_line_a2 then (if w_column_a1 = w_column_a2 then (if (own_eq lsA lsB) = (0 : Int32) then b7tw_54 else (b7tw_55 (1 : Int32))) else b7tw_54) else b7tw_54)
set_option maxRecDepth 65536 in
set_option maxHeartbeats 40000000 in
theorem rm7tw (l : Launch) (Z : State) (a0 : Array Value) (hw : ∀ d ∈ tables_1, d.before a0 Z = true) (ws : List Jvm.Cond) (a1 : Addr) (a2 : Addr) (w_line_a1 : Int32) (w_column_a1 : Int32) (w_message_a1 : Addr) (w_line_a2 : Int32) (w_column_a2 : Int32) (w_message_a2 : Addr) (w_COMPACT_STRINGS : Int32) (lsA : List Int32) (lsB : List Int32) (h0 : Heap) (n0 : Nat) (Z0 : n0 ≤ h0.size) (E_a1 : Exa Z h0 a1 "com/example/tercet/tercet/SyntaxWarning") (F_line_a1 : Fld Z h0 a1 "com/example/tercet/tercet/SyntaxWarning" "line" "I" (.int w_line_a1)) (F_column_a1 : Fld Z h0 a1 "com/example/tercet/tercet/SyntaxWarning" "column" "I" (.int w_column_a1)) (F_message_a1 : Fld Z h0 a1 "com/example/tercet/tercet/SyntaxWarning" "message" "Ljava/lang/String;" (.ref w_message_a1)) (E_a2 : Exa Z h0 a2 "com/example/tercet/tercet/SyntaxWarning") (F_line_a2 : Fld Z h0 a2 "com/example/tercet/tercet/SyntaxWarning" "line" "I" (.int w_line_a2)) (F_column_a2 : Fld Z h0 a2 "com/example/tercet/tercet/SyntaxWarning" "column" "I" (.int w_column_a2)) (F_message_a2 : Fld Z h0 a2 "com/example/tercet/tercet/SyntaxWarning" "message" "Ljava/lang/String;" (.ref w_message_a2)) (S_COMPACT_STRINGS : Sta Z h0 "java/lang/String" "COMPACT_STRINGS" "Z" (.int w_COMPACT_STRINGS)) (T_a1 : own_str Z h0 w_message_a1 lsA) (T_a2 : own_str Z h0 w_message_a2 lsB) (hcz : ¬ (w_COMPACT_STRINGS = (0 : Int32))) (hbA : own_lat lsA) (hbB : own_lat lsB) :
    MetFree l (⟨"com/example/tercet/tercet/SyntaxWarning", "equals", "(Ljava/lang/Object;)Z"⟩ : MethodName) (head1 (Jvm.Cond.code (⟨"com/example/tercet/tercet/SyntaxWarning", "equals", "(Ljava/lang/Object;)Z"⟩ : MethodName) prog_17_method_5_code 3 (some .boolean) :: ws) ({ frames := 2, cells := 0, slots := 0, locals := 28 } : Room)) (fun a U => a = #[(.ref a1), (.ref a2)] ∧ Z.Warmed39 U.vm ∧ U.heap = h0) (fun _ _ _ _ _ => True) (fun _ U o U' => ∃ v L, o = .returned v ∧ QK n0 (Kv (some (.int (b7tw_0 w_line_a1 w_column_a1 w_line_a2 w_column_a2 lsA lsB))) (fun h => h = h0)) v U'.heap L ∧ FrameEnd U o U' L ({ frames := 2, cells := 0, slots := 0, locals := 28 } : Room).cells ({ frames := 2, cells := 0, slots := 0, locals := 28 } : Room).slots) := by
  refine MetFree.of_bodySF (plainFor_of_name pn_3) hisR ?_
  intro p e s m args below meth c s₁ Bd hml0 hP hK
  obtain ⟨rfl, hZ, hh⟩ := hP
  have hx := Bd.exec
  have hby := Bd.bytes
  have hml : c.maxLocals = 3 := hml0
  have hown : s.vm.findClass "com/example/tercet/tercet/SyntaxWarning" = some m.cls := findClass_of_methodNamed Bd.named
  have hnm := (name_of_methodNamed Bd.named Bd.method).1
  have X0 : Stand p l e ({ frames := 2, cells := 0, slots := 0, locals := 28 } : Room) s m #[(.ref a1), (.ref a2)] below meth c s₁ [] 0 0 := Stand.of_body Bd
  have e0 : s₁.heap = h0 := by rw [← hh, Bd.state]; rfl
  have N0 := Fr.nil n0
  refine gl_start (ef_7tw m a1 a2) ?_
  show Gl p e below s n0 ({ frames := 2, cells := 0, slots := 0, locals := 28 } : Room).cells ({ frames := 2, cells := 0, slots := 0, locals := 28 } : Room).slots (Kv (some (.int (if w_line_a1 = w_line_a2 then (if w_column_a1 = w_column_a2 then (if (own_eq lsA lsB) = (0 : Int32) then b7tw_54 else (b7tw_55 (1 : Int32))) else b7tw_54) else b7tw_54))) (fun h => h = h0)) (s₁.setTop (mkF m 0 #[.val (.ref a1), .val (.ref a2), .unset] []))
  refine go (fun t k => XS.aloadN X0.here hx rfl (hb hby d7_0) rfl rfl k) ?_
  show Gl _ _ _ _ _ _ _ _ (s₁.setTop (mkF m 1 #[.val (.ref a1), .val (.ref a2), .unset] [(.ref a2)]))
  obtain ⟨T1, X1, e1, st1⟩ := instY X0 hx hZ hown (hw _ (List.mem_of_getElem? (i := 50) rfl)) e0 (Ins.self E_a2) (g := (mkF m 1 #[.val (.ref a1), .val (.ref a2), .unset] [(.ref a2)])) rfl rfl (hb hby d7_1)
  refine go (fun t k => st1 _ k) ?_
  show Gl _ _ _ _ _ _ _ _ (T1.setTop (mkF m 4 #[.val (.ref a1), .val (.ref a2), .unset] [(.int (1 : Int32))]))
  refine go (fun t k => XS.ifYes X1.here hx rfl (pc0 := 4) (pc' := 9) rfl (hb hby d7_4) rfl ((if0 _ _).trans (feq (by decide : ¬ ((1 : Int32) = (0 : Int32)))).2) (by decide) (by decide) k) ?_
  show Gl _ _ _ _ _ _ _ _ (T1.setTop (mkF m 9 #[.val (.ref a1), .val (.ref a2), .unset] []))
  refine go (fun t k => XS.aloadN X1.here hx rfl (hb hby d7_9) rfl rfl k) ?_
  show Gl _ _ _ _ _ _ _ _ (T1.setTop (mkF m 10 #[.val (.ref a1), .val (.ref a2), .unset] [(.ref a2)]))
  obtain ⟨T2, X2, e2, st2⟩ := castY X1 hx hZ hown (hw _ (List.mem_of_getElem? (i := 50) rfl)) e1 (Ins.self E_a2) (g := (mkF m 10 #[.val (.ref a1), .val (.ref a2), .unset] [(.ref a2)])) rfl rfl (hb hby d7_10)
  refine go (fun t k => st2 _ k) ?_
  show Gl _ _ _ _ _ _ _ _ (T2.setTop (mkF m 13 #[.val (.ref a1), .val (.ref a2), .unset] [(.ref a2)]))
  refine go (fun t k => XS.astoreN X2.here hx rfl (hb hby d7_13) rfl rfl (l' := #[.val (.ref a1), .val (.ref a2), .val (.ref a2)]) rfl k) ?_
  show Gl _ _ _ _ _ _ _ _ (T2.setTop (mkF m 14 #[.val (.ref a1), .val (.ref a2), .val (.ref a2)] []))
  refine go (fun t k => XS.aloadN X2.here hx rfl (hb hby d7_14) rfl rfl k) ?_
  show Gl _ _ _ _ _ _ _ _ (T2.setTop (mkF m 15 #[.val (.ref a1), .val (.ref a2), .val (.ref a2)] [(.ref a1)]))
  obtain ⟨T3, X3, e3, st3⟩ := getF X2 hx hZ hown (host := "") (Or.inl (hw _ (List.mem_of_getElem? (i := 33) rfl))) Via.refl e2 F_line_a1 (g := (mkF m 15 #[.val (.ref a1), .val (.ref a2), .val (.ref a2)] [(.ref a1)])) rfl rfl (hb hby d7_15)
  refine go (fun t k => st3 _ k) ?_
  show Gl _ _ _ _ _ _ _ _ (T3.setTop (mkF m 18 #[.val (.ref a1), .val (.ref a2), .val (.ref a2)] [(.int w_line_a1)]))
  refine go (fun t k => XS.aloadN X3.here hx rfl (hb hby d7_18) rfl rfl k) ?_
  show Gl _ _ _ _ _ _ _ _ (T3.setTop (mkF m 19 #[.val (.ref a1), .val (.ref a2), .val (.ref a2)] [(.ref a2), (.int w_line_a1)]))
  obtain ⟨T4, X4, e4, st4⟩ := getF X3 hx hZ hown (host := "") (Or.inl (hw _ (List.mem_of_getElem? (i := 33) rfl))) Via.refl e3 F_line_a2 (g := (mkF m 19 #[.val (.ref a1), .val (.ref a2), .val (.ref a2)] [(.ref a2), (.int w_line_a1)])) rfl rfl (hb hby d7_19)
  refine go (fun t k => st4 _ k) ?_
  show Gl _ _ _ _ _ _ _ _ (T4.setTop (mkF m 22 #[.val (.ref a1), .val (.ref a2), .val (.ref a2)] [(.int w_line_a2), (.int w_line_a1)]))
  have J55 : ∀ (s0_55 : Int32) (TJ55 : State) (lJ55 : List Loc) (XJ55 : Stand p l e ({ frames := 2, cells := 0, slots := 0, locals := 28 } : Room) s m #[(.ref a1), (.ref a2)] below meth c TJ55 lJ55 0 0) (eJ55 : TJ55.heap = h0) (NJ55 : Fr n0 lJ55), Gl p e below s n0 ({ frames := 2, cells := 0, slots := 0, locals := 28 } : Room).cells ({ frames := 2, cells := 0, slots := 0, locals := 28 } : Room).slots (Kv (some (.int (b7tw_55 s0_55))) (fun h => h = h0)) (TJ55.setTop (mkF m 55 #[.val (.ref a1), .val (.ref a2), .val (.ref a2)] [(.int s0_55)])) := by
    intro s0_55 TJ55 lJ55 XJ55 eJ55 NJ55
    show Gl _ _ _ _ _ _ _ (Kv (some (.int (nar .boolean s0_55))) _) _
    exact endN XJ55 hx Bd (t := .boolean) (by simp) (hb hby d7_55) ⟨rfl, eJ55⟩ NJ55 (by decide) (by decide)
  have J54 : ∀  (TJ54 : State) (lJ54 : List Loc) (XJ54 : Stand p l e ({ frames := 2, cells := 0, slots := 0, locals := 28 } : Room) s m #[(.ref a1), (.ref a2)] below meth c TJ54 lJ54 0 0) (eJ54 : TJ54.heap = h0) (NJ54 : Fr n0 lJ54), Gl p e below s n0 ({ frames := 2, cells := 0, slots := 0, locals := 28 } : Room).cells ({ frames := 2, cells := 0, slots := 0, locals := 28 } : Room).slots (Kv (some (.int b7tw_54)) (fun h => h = h0)) (TJ54.setTop (mkF m 54 #[.val (.ref a1), .val (.ref a2), .val (.ref a2)] [])) := by
    intro  TJ54 lJ54 XJ54 eJ54 NJ54
    show Gl _ _ _ _ _ _ _ (Kv (some (.int (b7tw_55 (0 : Int32)))) _) _
    refine go (fun t k => XS.iconst XJ54.here hx rfl (hb hby d7_54) k) ?_
    show Gl _ _ _ _ _ _ _ _ (TJ54.setTop (mkF m 55 #[.val (.ref a1), .val (.ref a2), .val (.ref a2)] [(.int (0 : Int32))]))
    exact J55 (0 : Int32) TJ54 _ XJ54 eJ54 NJ54
  refine gI (c := w_line_a1 = w_line_a2) (fun hc22 => ?_) (fun hc22 => ?_)
  · refine go (fun t k => XS.icmpNo X4.here hx rfl (hb hby d7_22) rfl (teq hc22).2 k) ?_
    show Gl _ _ _ _ _ _ _ _ (T4.setTop (mkF m 25 #[.val (.ref a1), .val (.ref a2), .val (.ref a2)] []))
    refine go (fun t k => XS.aloadN X4.here hx rfl (hb hby d7_25) rfl rfl k) ?_
    show Gl _ _ _ _ _ _ _ _ (T4.setTop (mkF m 26 #[.val (.ref a1), .val (.ref a2), .val (.ref a2)] [(.ref a1)]))
    obtain ⟨T7, X7, e7, st7⟩ := getF X4 hx hZ hown (host := "") (Or.inl (hw _ (List.mem_of_getElem? (i := 35) rfl))) Via.refl e4 F_column_a1 (g := (mkF m 26 #[.val (.ref a1), .val (.ref a2), .val (.ref a2)] [(.ref a1)])) rfl rfl (hb hby d7_26)
    refine go (fun t k => st7 _ k) ?_
    show Gl _ _ _ _ _ _ _ _ (T7.setTop (mkF m 29 #[.val (.ref a1), .val (.ref a2), .val (.ref a2)] [(.int w_column_a1)]))
    refine go (fun t k => XS.aloadN X7.here hx rfl (hb hby d7_29) rfl rfl k) ?_
    show Gl _ _ _ _ _ _ _ _ (T7.setTop (mkF m 30 #[.val (.ref a1), .val (.ref a2), .val (.ref a2)] [(.ref a2), (.int w_column_a1)]))
    obtain ⟨T8, X8, e8, st8⟩ := getF X7 hx hZ hown (host := "") (Or.inl (hw _ (List.mem_of_getElem? (i := 35) rfl))) Via.refl e7 F_column_a2 (g := (mkF m 30 #[.val (.ref a1), .val (.ref a2), .val (.ref a2)] [(.ref a2), (.int w_column_a1)])) rfl rfl (hb hby d7_30)
    refine go (fun t k => st8 _ k) ?_
    show Gl _ _ _ _ _ _ _ _ (T8.setTop (mkF m 33 #[.val (.ref a1), .val (.ref a2), .val (.ref a2)] [(.int w_column_a2), (.int w_column_a1)]))
    refine gI (c := w_column_a1 = w_column_a2) (fun hc33 => ?_) (fun hc33 => ?_)
    · refine go (fun t k => XS.icmpNo X8.here hx rfl (hb hby d7_33) rfl (teq hc33).2 k) ?_
      show Gl _ _ _ _ _ _ _ _ (T8.setTop (mkF m 36 #[.val (.ref a1), .val (.ref a2), .val (.ref a2)] []))
      refine go (fun t k => XS.aloadN X8.here hx rfl (hb hby d7_36) rfl rfl k) ?_
      show Gl _ _ _ _ _ _ _ _ (T8.setTop (mkF m 37 #[.val (.ref a1), .val (.ref a2), .val (.ref a2)] [(.ref a1)]))
      obtain ⟨T9, X9, e9, st9⟩ := getF X8 hx hZ hown (host := "") (Or.inl (hw _ (List.mem_of_getElem? (i := 43) rfl))) Via.refl e8 F_message_a1 (g := (mkF m 37 #[.val (.ref a1), .val (.ref a2), .val (.ref a2)] [(.ref a1)])) rfl rfl (hb hby d7_37)
      refine go (fun t k => st9 _ k) ?_
      show Gl _ _ _ _ _ _ _ _ (T9.setTop (mkF m 40 #[.val (.ref a1), .val (.ref a2), .val (.ref a2)] [(.ref w_message_a1)]))
      refine go (fun t k => XS.aloadN X9.here hx rfl (hb hby d7_40) rfl rfl k) ?_
      show Gl _ _ _ _ _ _ _ _ (T9.setTop (mkF m 41 #[.val (.ref a1), .val (.ref a2), .val (.ref a2)] [(.ref a2), (.ref w_message_a1)]))
      obtain ⟨T10, X10, e10, st10⟩ := getF X9 hx hZ hown (host := "") (Or.inl (hw _ (List.mem_of_getElem? (i := 43) rfl))) Via.refl e9 F_message_a2 (g := (mkF m 41 #[.val (.ref a1), .val (.ref a2), .val (.ref a2)] [(.ref a2), (.ref w_message_a1)])) rfl rfl (hb hby d7_41)
      refine go (fun t k => st10 _ k) ?_
      show Gl _ _ _ _ _ _ _ _ (T10.setTop (mkF m 44 #[.val (.ref a1), .val (.ref a2), .val (.ref a2)] [(.ref w_message_a2), (.ref w_message_a1)]))
      obtain ⟨ta11, ka11, EA11, VA11, CA11, KA11⟩ := id T_a1
      obtain ⟨tb11, kb11, EB11, VB11, CB11, KB11⟩ := id T_a2
      obtain ⟨cq11, kq11, q11a, q11b, q11c⟩ := isOf hZ e10 EA11
      obtain ⟨v11, _, ⟨T11, L11, k11, n11⟩, -, X11, ⟨Lc11, hQ11, l11, y11, z11⟩, st11⟩ := X10.virtualBack hx (y := (⟨"java/lang/String", "equals", "(Ljava/lang/Object;)Z"⟩ : MethodName)) (z := (⟨"java/lang/String", "equals", "(Ljava/lang/Object;)Z"⟩ : MethodName)) hown (mvT hZ (hw _ (List.mem_of_getElem? (i := 63) rfl))) (mvT hZ (hw _ (List.mem_of_getElem? (i := 64) rfl))) (notFace_of_selects (args := #[]) (mvT hZ (hw _ (List.mem_of_getElem? (i := 66) rfl)))) (mvT hZ (hw _ (List.mem_of_getElem? (i := 66) rfl))) (mvT hZ (hw _ (List.mem_of_getElem? (i := 65) rfl))) (by decide) (StrChars.Road.eqW (W := 0) hZ (own_wE hw) (kI := 4) (hw _ (List.mem_of_getElem? (i := 5) rfl)) EA11 VA11 CA11 KA11 (own_cod hbA) (own_up hbA) hbA.1 EB11 VB11 CB11 KB11 (own_cod hbB) (own_up hbB) hbB.1 S_COMPACT_STRINGS hcz (by decide) (by decide)) q11a q11c (g := (mkF m 44 #[.val (.ref a1), .val (.ref a2), .val (.ref a2)] [(.ref w_message_a2), (.ref w_message_a1)])) rfl (by rw [hml]; rfl) (Steps.refl _) (argsL := [(.ref w_message_a2)]) (rest := []) (lenOf pd_3 rfl) rfl (by show 2 * 0 + _ ≤ _; exact Nat.le_of_eq rfl) (hb hby d7_44) (fun _ _ => ⟨rfl, e10, (by decide : 0 + 0 ≤ _), (by decide : 0 + 0 ≤ _)⟩)
      dsimp only [Pt.U, Pt.locs, Pt.cells, Pt.slots] at X11 l11 y11 z11 st11 hQ11
      subst l11 y11 z11
      have X11 : Stand p l e ({ frames := 2, cells := 0, slots := 0, locals := 28 } : Room) s m #[(.ref a1), (.ref a2)] below meth c T11 _ 0 0 := X11
      obtain ⟨hv11, N11q, e11'⟩ := hQ11
      obtain rfl := own_eqv hv11
      have e11 : T11.heap = h0 := e11'
      subst N11q
      have N11 := Fr.app N0 (Fr.nil n0)
      refine go (fun t k => st11.trans k) ?_
      show Gl _ _ _ _ _ _ _ _ (T11.setTop (mkF m 47 #[.val (.ref a1), .val (.ref a2), .val (.ref a2)] [(.int (own_eq lsA lsB))]))
      refine gI (c := (own_eq lsA lsB) = (0 : Int32)) (fun hc47 => ?_) (fun hc47 => ?_)
      · refine go (fun t k => XS.ifYes X11.here hx rfl (pc0 := 47) (pc' := 54) rfl (hb hby d7_47) rfl ((if0 _ _).trans (teq hc47).1) (by decide) (by decide) k) ?_
        show Gl _ _ _ _ _ _ _ _ (T11.setTop (mkF m 54 #[.val (.ref a1), .val (.ref a2), .val (.ref a2)] []))
        exact J54  T11 _ X11 e11 N11
      · refine go (fun t k => XS.ifNo X11.here hx rfl (hb hby d7_47) rfl ((if0 _ _).trans (feq hc47).1) k) ?_
        show Gl _ _ _ _ _ _ _ _ (T11.setTop (mkF m 50 #[.val (.ref a1), .val (.ref a2), .val (.ref a2)] []))
        refine go (fun t k => XS.iconst X11.here hx rfl (hb hby d7_50) k) ?_
        show Gl _ _ _ _ _ _ _ _ (T11.setTop (mkF m 51 #[.val (.ref a1), .val (.ref a2), .val (.ref a2)] [(.int (1 : Int32))]))
        refine go (fun t k => XS.goto X11.here hx rfl (pc0 := 51) (pc' := 55) rfl (hb hby d7_51) (by decide) (by decide) k) ?_
        show Gl _ _ _ _ _ _ _ _ (T11.setTop (mkF m 55 #[.val (.ref a1), .val (.ref a2), .val (.ref a2)] [(.int (1 : Int32))]))
        exact J55 (1 : Int32) T11 _ X11 e11 N11
    · refine go (fun t k => XS.icmpYes X8.here hx rfl (pc0 := 33) (pc' := 54) rfl (hb hby d7_33) rfl (feq hc33).2 (by decide) (by decide) k) ?_
      show Gl _ _ _ _ _ _ _ _ (T8.setTop (mkF m 54 #[.val (.ref a1), .val (.ref a2), .val (.ref a2)] []))
      exact J54  T8 _ X8 e8 N0
  · refine go (fun t k => XS.icmpYes X4.here hx rfl (pc0 := 22) (pc' := 54) rfl (hb hby d7_22) rfl (feq hc22).2 (by decide) (by decide) k) ?_
    show Gl _ _ _ _ _ _ _ _ (T4.setTop (mkF m 54 #[.val (.ref a1), .val (.ref a2), .val (.ref a2)] []))
    exact J54  T4 _ X4 e4 N0
theorem pd_4 : parseMethodDescriptor "(ICC)Ljava/lang/String;" = some ⟨[.int, .char, .char], some (.object "java/lang/String")⟩ := by decide +kernel
theorem pd_5 : parseMethodDescriptor "(IILjava/lang/String;)V" = some ⟨[.int, .int, (.object "java/lang/String")], none⟩ := by decide +kernel
theorem ef_0 (m : MethodId) (p1 : Int32) (p2 : Int32) (p3 : Int32) (p4 : Int32) (p5 : Int32) (p6 : Int32) : entryFrame m #[(.int p1), (.int p2), (.int p3), (.int p4), (.int p5), (.int p6)] maxLocals = mkF m 0 #[.val (.int p1), .val (.int p2), .val (.int p3), .val (.int p4), .val (.int p5), .val (.int p6), .unset, .unset, .unset, .unset, .unset, .unset, .unset, .unset, .unset, .unset, .unset, .unset, .unset, .unset, .unset, .unset, .unset, .unset, .unset] [] := by first | (simp [entryFrame, mkF, argsToLocals, Value.category, maxLocals]; done) | rfl
def b0_369 (s0_369 : Int32) : Int32 := (nar .boolean s0_369)
def b0_309 (p1 : Int32) (p2 : Int32) (p5 : Int32) (p6 : Int32) (s0_43 : Int32) (s0_113 : Int32) (s0_125 : Int32) (s0_168 : Int32) (s0_190 : Int32) (s0_309 : Int32) : Int32 := (if (b7tw_0 p1 p2 s0_113 s0_125 (own_cs ((p6 &&& (3 : Int32)) % (3 : Int32)) (nar .char ((p5 &&& (255 : Int32)).toUInt32.toUInt16.toUInt32.toInt32)) (nar .char ((((p5.toUInt32 >>> ((8 : Int32) &&& 31).toUInt32).toInt32) &&& (255 : Int32)).toUInt32.toUInt16.toUInt32.toInt32))) (own_cs s0_43 (nar .char s0_168) (nar .char s0_190))) = s0_309 then (b0_369 (1 : Int32)) else (b0_369 (0 : Int32)))
def b0_308 (p1 : Int32) (p2 : Int32) (p5 : Int32) (p6 : Int32) (s0_43 : Int32) (s0_113 : Int32) (s0_125 : Int32) (s0_168 : Int32) (s0_190 : Int32) : Int32 := (b0_309 p1 p2 p5 p6 s0_43 s0_113 s0_125 s0_168 s0_190 (0 : Int32))
def b0_285 (p1 : Int32) (p2 : Int32) (p5 : Int32) (p6 : Int32) (s0_43 : Int32) (s0_113 : Int32) (s0_125 : Int32) (s0_168 : Int32) (s0_190 : Int32) (s0_285 : Int32) : Int32 := (if p1 = s0_113 then (if p2 = s0_125 then (if s0_285 = (0 : Int32) then (b0_308 p1 p2 p5 p6 s0_43 s0_113 s0_125 s0_168 s0_190) else (b0_309 p1 p2 p5 p6 s0_43 s0_113 s0_125 s0_168 s0_190 (1 : Int32))) else (b0_308 p1 p2 p5 p6 s0_43 s0_113 s0_125 s0_168 s0_190)) else (b0_308 p1 p2 p5 p6 s0_43 s0_113 s0_125 s0_168 s0_190))
def b0_284 (p1 : Int32) (p2 : Int32) (p5 : Int32) (p6 : Int32) (s0_43 : Int32) (s0_113 : Int32) (s0_125 : Int32) (s0_168 : Int32) (s0_190 : Int32) : Int32 := (b0_285 p1 p2 p5 p6 s0_43 s0_113 s0_125 s0_168 s0_190 (0 : Int32))
def b0_280 (p1 : Int32) (p2 : Int32) (p5 : Int32) (p6 : Int32) (s0_43 : Int32) (s0_113 : Int32) (s0_125 : Int32) (s0_168 : Int32) (s0_190 : Int32) : Int32 := (b0_285 p1 p2 p5 p6 s0_43 s0_113 s0_125 s0_168 s0_190 (1 : Int32))
def b0_267 (p1 : Int32) (p2 : Int32) (p5 : Int32) (p6 : Int32) (s0_43 : Int32) (s0_113 : Int32) (s0_125 : Int32) (s0_168 : Int32) (s0_190 : Int32) : Int32 := (if ((p6 &&& (3 : Int32)) % (3 : Int32)) < (2 : Int32) then (b0_280 p1 p2 p5 p6 s0_43 s0_113 s0_125 s0_168 s0_190) else (if ((((p5.toUInt32 >>> ((8 : Int32) &&& 31).toUInt32).toInt32) &&& (255 : Int32)).toUInt32.toUInt16.toUInt32.toInt32) = s0_190 then (b0_280 p1 p2 p5 p6 s0_43 s0_113 s0_125 s0_168 s0_190) else (b0_284 p1 p2 p5 p6 s0_43 s0_113 s0_125 s0_168 s0_190)))
def b0_369x2 (s0_369 : Int32) : Int32 := (nar .boolean s0_369)
def b0_369x3 (s0_369 : Int32) : Int32 := (nar .boolean s0_369)
def b0_369x4 (s0_369 : Int32) : Int32 := (nar .boolean s0_369)
def b0_190 (p1 : Int32) (p2 : Int32) (p5 : Int32) (p6 : Int32) (s0_43 : Int32) (s0_113 : Int32) (s0_125 : Int32) (s0_168 : Int32) (s0_190 : Int32) : Int32 := (if (((p6.toUInt32 >>> ((7 : Int32) &&& 31).toUInt32).toInt32) &&& (3 : Int32)) = (0 : Int32) then (if ((p6 &&& (3 : Int32)) % (3 : Int32)) = s0_43 then (if ((p6 &&& (3 : Int32)) % (3 : Int32)) < (1 : Int32) then (b0_267 p1 p2 p5 p6 s0_43 s0_113 s0_125 s0_168 s0_190) else (if ((p5 &&& (255 : Int32)).toUInt32.toUInt16.toUInt32.toInt32) = s0_168 then (b0_267 p1 p2 p5 p6 s0_43 s0_113 s0_125 s0_168 s0_190) else (b0_284 p1 p2 p5 p6 s0_43 s0_113 s0_125 s0_168 s0_190))) else (b0_284 p1 p2 p5 p6 s0_43 s0_113 s0_125 s0_168 s0_190)) else (if (((p6.toUInt32 >>> ((7 : Int32) &&& 31).toUInt32).toInt32) &&& (3 : Int32)) = (1 : Int32) then (if b7tn_0 = (0 : Int32) then (b0_369x2 (1 : Int32)) else (b0_369x2 (0 : Int32))) else (if (((p6.toUInt32 >>> ((7 : Int32) &&& 31).toUInt32).toInt32) &&& (3 : Int32)) = (2 : Int32) then (if b7ts_0 = (0 : Int32) then (b0_369x3 (1 : Int32)) else (b0_369x3 (0 : Int32))) else (if (b7tw_0 p1 p2 p1 p2 (own_cs ((p6 &&& (3 : Int32)) % (3 : Int32)) (nar .char ((p5 &&& (255 : Int32)).toUInt32.toUInt16.toUInt32.toInt32)) (nar .char ((((p5.toUInt32 >>> ((8 : Int32) &&& 31).toUInt32).toInt32) &&& (255 : Int32)).toUInt32.toUInt16.toUInt32.toInt32))) (own_cs ((p6 &&& (3 : Int32)) % (3 : Int32)) (nar .char ((p5 &&& (255 : Int32)).toUInt32.toUInt16.toUInt32.toInt32)) (nar .char ((((p5.toUInt32 >>> ((8 : Int32) &&& 31).toUInt32).toInt32) &&& (255 : Int32)).toUInt32.toUInt16.toUInt32.toInt32)))) = (1 : Int32) then (b0_369x4 (1 : Int32)) else (b0_369x4 (0 : Int32))))))
def b0_168 (p1 : Int32) (p2 : Int32) (p5 : Int32) (p6 : Int32) (s0_43 : Int32) (s0_92 : Int32) (s0_113 : Int32) (s0_125 : Int32) (s0_168 : Int32) : Int32 := (if s0_92 = (0 : Int32) then (b0_190 p1 p2 p5 p6 s0_43 s0_113 s0_125 s0_168 ((((p5.toUInt32 >>> ((24 : Int32) &&& 31).toUInt32).toInt32) &&& (255 : Int32)).toUInt32.toUInt16.toUInt32.toInt32)) else (b0_190 p1 p2 p5 p6 s0_43 s0_113 s0_125 s0_168 ((((p5.toUInt32 >>> ((8 : Int32) &&& 31).toUInt32).toInt32) &&& (255 : Int32)).toUInt32.toUInt16.toUInt32.toInt32)))
def b0_125 (p1 : Int32) (p2 : Int32) (p5 : Int32) (p6 : Int32) (s0_43 : Int32) (s0_92 : Int32) (s0_113 : Int32) (s0_125 : Int32) : Int32 := (if s0_92 = (0 : Int32) then (b0_168 p1 p2 p5 p6 s0_43 s0_92 s0_113 s0_125 ((((p5.toUInt32 >>> ((16 : Int32) &&& 31).toUInt32).toInt32) &&& (255 : Int32)).toUInt32.toUInt16.toUInt32.toInt32)) else (b0_168 p1 p2 p5 p6 s0_43 s0_92 s0_113 s0_125 ((p5 &&& (255 : Int32)).toUInt32.toUInt16.toUInt32.toInt32)))
def b0_113 (p1 : Int32) (p2 : Int32) (p4 : Int32) (p5 : Int32) (p6 : Int32) (s0_43 : Int32) (s0_75 : Int32) (s0_92 : Int32) (s0_113 : Int32) : Int32 := (if s0_75 = (0 : Int32) then (b0_125 p1 p2 p5 p6 s0_43 s0_92 s0_113 p4) else (b0_125 p1 p2 p5 p6 s0_43 s0_92 s0_113 p2))
def b0_92 (p1 : Int32) (p2 : Int32) (p3 : Int32) (p4 : Int32) (p5 : Int32) (p6 : Int32) (s0_43 : Int32) (s0_59 : Int32) (s0_75 : Int32) (s0_92 : Int32) : Int32 := (if s0_59 = (0 : Int32) then (b0_113 p1 p2 p4 p5 p6 s0_43 s0_75 s0_92 p3) else (b0_113 p1 p2 p4 p5 p6 s0_43 s0_75 s0_92 p1))
def b0_75 (p1 : Int32) (p2 : Int32) (p3 : Int32) (p4 : Int32) (p5 : Int32) (p6 : Int32) (s0_43 : Int32) (s0_59 : Int32) (s0_75 : Int32) : Int32 := (if (((p6.toUInt32 >>> ((6 : Int32) &&& 31).toUInt32).toInt32) &&& (1 : Int32)) = (0 : Int32) then (b0_92 p1 p2 p3 p4 p5 p6 s0_43 s0_59 s0_75 (0 : Int32)) else (b0_92 p1 p2 p3 p4 p5 p6 s0_43 s0_59 s0_75 (1 : Int32)))
def b0_59 (p1 : Int32) (p2 : Int32) (p3 : Int32) (p4 : Int32) (p5 : Int32) (p6 : Int32) (s0_43 : Int32) (s0_59 : Int32) : Int32 := (if (((p6.toUInt32 >>> ((5 : Int32) &&& 31).toUInt32).toInt32) &&& (1 : Int32)) = (0 : Int32) then (b0_75 p1 p2 p3 p4 p5 p6 s0_43 s0_59 (0 : Int32)) else (b0_75 p1 p2 p3 p4 p5 p6 s0_43 s0_59 (1 : Int32)))
def b0_43 (p1 : Int32) (p2 : Int32) (p3 : Int32) (p4 : Int32) (p5 : Int32) (p6 : Int32) (s0_43 : Int32) : Int32 := (if (((p6.toUInt32 >>> ((4 : Int32) &&& 31).toUInt32).toInt32) &&& (1 : Int32)) = (0 : Int32) then (b0_59 p1 p2 p3 p4 p5 p6 s0_43 (0 : Int32)) else (b0_59 p1 p2 p3 p4 p5 p6 s0_43 (1 : Int32)))
def b0_23 (p1 : Int32) (p2 : Int32) (p3 : Int32) (p4 : Int32) (p5 : Int32) (p6 : Int32) (s0_23 : Int32) : Int32 := (if s0_23 = (0 : Int32) then (b0_43 p1 p2 p3 p4 p5 p6 ((((p6.toUInt32 >>> ((2 : Int32) &&& 31).toUInt32).toInt32) &&& (3 : Int32)) % (3 : Int32))) else (b0_43 p1 p2 p3 p4 p5 p6 ((p6 &&& (3 : Int32)) % (3 : Int32))))
def b0_0 (p1 : Int32) (p2 : Int32) (p3 : Int32) (p4 : Int32) (p5 : Int32) (p6 : Int32) : Int32 := (if (((p6.toUInt32 >>> ((9 : Int32) &&& 31).toUInt32).toInt32) &&& (1 : Int32)) = (0 : Int32) then (b0_23 p1 p2 p3 p4 p5 p6 (0 : Int32)) else (b0_23 p1 p2 p3 p4 p5 p6 (1 : Int32)))
set_option maxRecDepth 65536 in
set_option maxHeartbeats 40000000 in
theorem rm0 (l : Launch) (Z : State) (a0 : Array Value) (hw : ∀ d ∈ tables_1, d.before a0 Z = true) (ws : List Jvm.Cond) (p1 : Int32) (p2 : Int32) (p3 : Int32) (p4 : Int32) (p5 : Int32) (p6 : Int32) (w_COMPACT_STRINGS : Int32) (h0 : Heap) (n0 : Nat) (Z0 : n0 ≤ h0.size) (S_COMPACT_STRINGS : Sta Z h0 "java/lang/String" "COMPACT_STRINGS" "Z" (.int w_COMPACT_STRINGS)) (hcz : ¬ (w_COMPACT_STRINGS = (0 : Int32))) :
    MetFree l x (head1 (Jvm.Cond.code x code maxLocals ret :: ws) room_1) (fun a U => a = #[(.int p1), (.int p2), (.int p3), (.int p4), (.int p5), (.int p6)] ∧ Z.Warmed39 U.vm ∧ U.heap = h0 ∧ CHv Z own_EL U.vm h0) (fun _ _ _ _ _ => True) (fun _ U o U' => ∃ v L, o = .returned v ∧ QK n0 (Kv (some (.int (b0_0 p1 p2 p3 p4 p5 p6))) (fun _ => True)) v U'.heap L ∧ CHr Z own_EL U.vm U.heap U'.vm U'.heap ∧ ReturnedEndW U o U' L room_1.cells room_1.slots) := by
  refine MetFree.of_bodySF (plainFor_of_name pn_1) hisR ?_
  intro p e s m args below meth c s₁ Bd hml0 hP hK
  obtain ⟨rfl, hZ, hh, hC⟩ := hP
  have hx := Bd.exec
  have hby := Bd.bytes
  have hml : c.maxLocals = 25 := hml0
  have hown : s.vm.findClass "com/example/tercet/tercet/SyntaxWarningEqualsPinLaw" = some m.cls := findClass_of_methodNamed Bd.named
  have hnm := (name_of_methodNamed Bd.named Bd.method).1
  have X0 : Stand p l e room_1 (s.setVm s.vm) m #[(.int p1), (.int p2), (.int p3), (.int p4), (.int p5), (.int p6)] below meth c s₁ [] 0 0 := Stand.of_body Bd
  have e0 : s₁.heap = h0 := by rw [← hh, Bd.state]; rfl
  have N0 := Fr.nil n0
  have hEL := own_ew hw
  have hwS := own_ws hw
  have hS0 : s.Since s.vm s.heap.size := own_since s
  have hk0 : s.heap.size ≤ h0.size := by rw [← hh]; exact Nat.le_refl _
  have C0 : CHr Z own_EL s.vm h0 s.vm h0 := CHr.refl hC
  refine gl_startS (ef_0 m p1 p2 p3 p4 p5 p6) ?_
  show GlS p e below s Z own_EL n0 room_1.cells room_1.slots (Kv (some (.int (if (((p6.toUInt32 >>> ((9 : Int32) &&& 31).toUInt32).toInt32) &&& (1 : Int32)) = (0 : Int32) then (b0_23 p1 p2 p3 p4 p5 p6 (0 : Int32)) else (b0_23 p1 p2 p3 p4 p5 p6 (1 : Int32))))) (fun _ => True)) (s₁.setTop (mkF m 0 #[.val (.int p1), .val (.int p2), .val (.int p3), .val (.int p4), .val (.int p5), .val (.int p6), .unset, .unset, .unset, .unset, .unset, .unset, .unset, .unset, .unset, .unset, .unset, .unset, .unset, .unset, .unset, .unset, .unset, .unset, .unset] []))
  refine goS (fun t k => XS.iload X0.here hx rfl (hb hby at_0) rfl  k) ?_
  show GlS _ _ _ _ _ _ _ _ _ _ (s₁.setTop (mkF m 2 #[.val (.int p1), .val (.int p2), .val (.int p3), .val (.int p4), .val (.int p5), .val (.int p6), .unset, .unset, .unset, .unset, .unset, .unset, .unset, .unset, .unset, .unset, .unset, .unset, .unset, .unset, .unset, .unset, .unset, .unset, .unset] [(.int p6)]))
  refine goS (fun t k => XS.iconst X0.here hx rfl (hb hby at_2) k) ?_
  show GlS _ _ _ _ _ _ _ _ _ _ (s₁.setTop (mkF m 3 #[.val (.int p1), .val (.int p2), .val (.int p3), .val (.int p4), .val (.int p5), .val (.int p6), .unset, .unset, .unset, .unset, .unset, .unset, .unset, .unset, .unset, .unset, .unset, .unset, .unset, .unset, .unset, .unset, .unset, .unset, .unset] [(.int (3 : Int32)), (.int p6)]))
  refine goS (fun t k => XS.iand X0.here hx rfl (hb hby at_3) rfl k) ?_
  show GlS _ _ _ _ _ _ _ _ _ _ (s₁.setTop (mkF m 4 #[.val (.int p1), .val (.int p2), .val (.int p3), .val (.int p4), .val (.int p5), .val (.int p6), .unset, .unset, .unset, .unset, .unset, .unset, .unset, .unset, .unset, .unset, .unset, .unset, .unset, .unset, .unset, .unset, .unset, .unset, .unset] [(.int (p6 &&& (3 : Int32)))]))
  refine goS (fun t k => XS.iconst X0.here hx rfl (hb hby at_4) k) ?_
  show GlS _ _ _ _ _ _ _ _ _ _ (s₁.setTop (mkF m 5 #[.val (.int p1), .val (.int p2), .val (.int p3), .val (.int p4), .val (.int p5), .val (.int p6), .unset, .unset, .unset, .unset, .unset, .unset, .unset, .unset, .unset, .unset, .unset, .unset, .unset, .unset, .unset, .unset, .unset, .unset, .unset] [(.int (3 : Int32)), (.int (p6 &&& (3 : Int32)))]))
  refine goS (fun t k => iremM X0 hx rfl (hb hby at_5) rfl (by decide) k) ?_
  show GlS _ _ _ _ _ _ _ _ _ _ (s₁.setTop (mkF m 6 #[.val (.int p1), .val (.int p2), .val (.int p3), .val (.int p4), .val (.int p5), .val (.int p6), .unset, .unset, .unset, .unset, .unset, .unset, .unset, .unset, .unset, .unset, .unset, .unset, .unset, .unset, .unset, .unset, .unset, .unset, .unset] [(.int ((p6 &&& (3 : Int32)) % (3 : Int32)))]))
  refine goS (fun t k => XS.istore X0.here hx rfl (hb hby at_6) rfl (l' := #[.val (.int p1), .val (.int p2), .val (.int p3), .val (.int p4), .val (.int p5), .val (.int p6), .val (.int ((p6 &&& (3 : Int32)) % (3 : Int32))), .unset, .unset, .unset, .unset, .unset, .unset, .unset, .unset, .unset, .unset, .unset, .unset, .unset, .unset, .unset, .unset, .unset, .unset]) rfl k) ?_
  show GlS _ _ _ _ _ _ _ _ _ _ (s₁.setTop (mkF m 8 #[.val (.int p1), .val (.int p2), .val (.int p3), .val (.int p4), .val (.int p5), .val (.int p6), .val (.int ((p6 &&& (3 : Int32)) % (3 : Int32))), .unset, .unset, .unset, .unset, .unset, .unset, .unset, .unset, .unset, .unset, .unset, .unset, .unset, .unset, .unset, .unset, .unset, .unset] []))
  refine goS (fun t k => XS.iload X0.here hx rfl (hb hby at_8) rfl  k) ?_
  show GlS _ _ _ _ _ _ _ _ _ _ (s₁.setTop (mkF m 10 #[.val (.int p1), .val (.int p2), .val (.int p3), .val (.int p4), .val (.int p5), .val (.int p6), .val (.int ((p6 &&& (3 : Int32)) % (3 : Int32))), .unset, .unset, .unset, .unset, .unset, .unset, .unset, .unset, .unset, .unset, .unset, .unset, .unset, .unset, .unset, .unset, .unset, .unset] [(.int p6)]))
  refine goS (fun t k => XS.bipush X0.here hx rfl (hb hby at_10) k) ?_
  show GlS _ _ _ _ _ _ _ _ _ _ (s₁.setTop (mkF m 12 #[.val (.int p1), .val (.int p2), .val (.int p3), .val (.int p4), .val (.int p5), .val (.int p6), .val (.int ((p6 &&& (3 : Int32)) % (3 : Int32))), .unset, .unset, .unset, .unset, .unset, .unset, .unset, .unset, .unset, .unset, .unset, .unset, .unset, .unset, .unset, .unset, .unset, .unset] [(.int (9 : Int32)), (.int p6)]))
  refine goS (fun t k => XS.iushr X0.here hx rfl (hb hby at_12) rfl k) ?_
  show GlS _ _ _ _ _ _ _ _ _ _ (s₁.setTop (mkF m 13 #[.val (.int p1), .val (.int p2), .val (.int p3), .val (.int p4), .val (.int p5), .val (.int p6), .val (.int ((p6 &&& (3 : Int32)) % (3 : Int32))), .unset, .unset, .unset, .unset, .unset, .unset, .unset, .unset, .unset, .unset, .unset, .unset, .unset, .unset, .unset, .unset, .unset, .unset] [(.int ((p6.toUInt32 >>> ((9 : Int32) &&& 31).toUInt32).toInt32))]))
  refine goS (fun t k => XS.iconst X0.here hx rfl (hb hby at_13) k) ?_
  show GlS _ _ _ _ _ _ _ _ _ _ (s₁.setTop (mkF m 14 #[.val (.int p1), .val (.int p2), .val (.int p3), .val (.int p4), .val (.int p5), .val (.int p6), .val (.int ((p6 &&& (3 : Int32)) % (3 : Int32))), .unset, .unset, .unset, .unset, .unset, .unset, .unset, .unset, .unset, .unset, .unset, .unset, .unset, .unset, .unset, .unset, .unset, .unset] [(.int (1 : Int32)), (.int ((p6.toUInt32 >>> ((9 : Int32) &&& 31).toUInt32).toInt32))]))
  refine goS (fun t k => XS.iand X0.here hx rfl (hb hby at_14) rfl k) ?_
  show GlS _ _ _ _ _ _ _ _ _ _ (s₁.setTop (mkF m 15 #[.val (.int p1), .val (.int p2), .val (.int p3), .val (.int p4), .val (.int p5), .val (.int p6), .val (.int ((p6 &&& (3 : Int32)) % (3 : Int32))), .unset, .unset, .unset, .unset, .unset, .unset, .unset, .unset, .unset, .unset, .unset, .unset, .unset, .unset, .unset, .unset, .unset, .unset] [(.int (((p6.toUInt32 >>> ((9 : Int32) &&& 31).toUInt32).toInt32) &&& (1 : Int32)))]))
  have J23 : ∀ (s0_23 : Int32) (TJ23 : State) (lJ23 : List Loc) (XJ23 : Stand p l e room_1 (s.setVm s.vm) m #[(.int p1), (.int p2), (.int p3), (.int p4), (.int p5), (.int p6)] below meth c TJ23 lJ23 0 0) (eJ23 : TJ23.heap = h0) (NJ23 : Fr n0 lJ23), GlS p e below s Z own_EL n0 room_1.cells room_1.slots (Kv (some (.int (b0_23 p1 p2 p3 p4 p5 p6 s0_23))) (fun _ => True)) (TJ23.setTop (mkF m 23 #[.val (.int p1), .val (.int p2), .val (.int p3), .val (.int p4), .val (.int p5), .val (.int p6), .val (.int ((p6 &&& (3 : Int32)) % (3 : Int32))), .unset, .unset, .unset, .unset, .unset, .unset, .unset, .unset, .unset, .unset, .unset, .unset, .unset, .unset, .unset, .unset, .unset, .unset] [(.int s0_23)])) := by
    intro s0_23 TJ23 lJ23 XJ23 eJ23 NJ23
    show GlS _ _ _ _ _ _ _ _ _ (Kv (some (.int (if s0_23 = (0 : Int32) then (b0_43 p1 p2 p3 p4 p5 p6 ((((p6.toUInt32 >>> ((2 : Int32) &&& 31).toUInt32).toInt32) &&& (3 : Int32)) % (3 : Int32))) else (b0_43 p1 p2 p3 p4 p5 p6 ((p6 &&& (3 : Int32)) % (3 : Int32)))))) _) _
    refine goS (fun t k => XS.istore XJ23.here hx rfl (hb hby at_23) rfl (l' := #[.val (.int p1), .val (.int p2), .val (.int p3), .val (.int p4), .val (.int p5), .val (.int p6), .val (.int ((p6 &&& (3 : Int32)) % (3 : Int32))), .val (.int s0_23), .unset, .unset, .unset, .unset, .unset, .unset, .unset, .unset, .unset, .unset, .unset, .unset, .unset, .unset, .unset, .unset, .unset]) rfl k) ?_
    show GlS _ _ _ _ _ _ _ _ _ _ (TJ23.setTop (mkF m 25 #[.val (.int p1), .val (.int p2), .val (.int p3), .val (.int p4), .val (.int p5), .val (.int p6), .val (.int ((p6 &&& (3 : Int32)) % (3 : Int32))), .val (.int s0_23), .unset, .unset, .unset, .unset, .unset, .unset, .unset, .unset, .unset, .unset, .unset, .unset, .unset, .unset, .unset, .unset, .unset] []))
    refine goS (fun t k => XS.iload XJ23.here hx rfl (hb hby at_25) rfl  k) ?_
    show GlS _ _ _ _ _ _ _ _ _ _ (TJ23.setTop (mkF m 27 #[.val (.int p1), .val (.int p2), .val (.int p3), .val (.int p4), .val (.int p5), .val (.int p6), .val (.int ((p6 &&& (3 : Int32)) % (3 : Int32))), .val (.int s0_23), .unset, .unset, .unset, .unset, .unset, .unset, .unset, .unset, .unset, .unset, .unset, .unset, .unset, .unset, .unset, .unset, .unset] [(.int s0_23)]))
    have J43 : ∀ (s0_43 : Int32) (TJ43 : State) (lJ43 : List Loc) (XJ43 : Stand p l e room_1 (s.setVm s.vm) m #[(.int p1), (.int p2), (.int p3), (.int p4), (.int p5), (.int p6)] below meth c TJ43 lJ43 0 0) (eJ43 : TJ43.heap = h0) (NJ43 : Fr n0 lJ43), GlS p e below s Z own_EL n0 room_1.cells room_1.slots (Kv (some (.int (b0_43 p1 p2 p3 p4 p5 p6 s0_43))) (fun _ => True)) (TJ43.setTop (mkF m 43 #[.val (.int p1), .val (.int p2), .val (.int p3), .val (.int p4), .val (.int p5), .val (.int p6), .val (.int ((p6 &&& (3 : Int32)) % (3 : Int32))), .val (.int s0_23), .unset, .unset, .unset, .unset, .unset, .unset, .unset, .unset, .unset, .unset, .unset, .unset, .unset, .unset, .unset, .unset, .unset] [(.int s0_43)])) := by
      intro s0_43 TJ43 lJ43 XJ43 eJ43 NJ43
      show GlS _ _ _ _ _ _ _ _ _ (Kv (some (.int (if (((p6.toUInt32 >>> ((4 : Int32) &&& 31).toUInt32).toInt32) &&& (1 : Int32)) = (0 : Int32) then (b0_59 p1 p2 p3 p4 p5 p6 s0_43 (0 : Int32)) else (b0_59 p1 p2 p3 p4 p5 p6 s0_43 (1 : Int32))))) _) _
      refine goS (fun t k => XS.istore XJ43.here hx rfl (hb hby at_43) rfl (l' := #[.val (.int p1), .val (.int p2), .val (.int p3), .val (.int p4), .val (.int p5), .val (.int p6), .val (.int ((p6 &&& (3 : Int32)) % (3 : Int32))), .val (.int s0_23), .val (.int s0_43), .unset, .unset, .unset, .unset, .unset, .unset, .unset, .unset, .unset, .unset, .unset, .unset, .unset, .unset, .unset, .unset]) rfl k) ?_
      show GlS _ _ _ _ _ _ _ _ _ _ (TJ43.setTop (mkF m 45 #[.val (.int p1), .val (.int p2), .val (.int p3), .val (.int p4), .val (.int p5), .val (.int p6), .val (.int ((p6 &&& (3 : Int32)) % (3 : Int32))), .val (.int s0_23), .val (.int s0_43), .unset, .unset, .unset, .unset, .unset, .unset, .unset, .unset, .unset, .unset, .unset, .unset, .unset, .unset, .unset, .unset] []))
      refine goS (fun t k => XS.iload XJ43.here hx rfl (hb hby at_45) rfl  k) ?_
      show GlS _ _ _ _ _ _ _ _ _ _ (TJ43.setTop (mkF m 47 #[.val (.int p1), .val (.int p2), .val (.int p3), .val (.int p4), .val (.int p5), .val (.int p6), .val (.int ((p6 &&& (3 : Int32)) % (3 : Int32))), .val (.int s0_23), .val (.int s0_43), .unset, .unset, .unset, .unset, .unset, .unset, .unset, .unset, .unset, .unset, .unset, .unset, .unset, .unset, .unset, .unset] [(.int p6)]))
      refine goS (fun t k => XS.iconst XJ43.here hx rfl (hb hby at_47) k) ?_
      show GlS _ _ _ _ _ _ _ _ _ _ (TJ43.setTop (mkF m 48 #[.val (.int p1), .val (.int p2), .val (.int p3), .val (.int p4), .val (.int p5), .val (.int p6), .val (.int ((p6 &&& (3 : Int32)) % (3 : Int32))), .val (.int s0_23), .val (.int s0_43), .unset, .unset, .unset, .unset, .unset, .unset, .unset, .unset, .unset, .unset, .unset, .unset, .unset, .unset, .unset, .unset] [(.int (4 : Int32)), (.int p6)]))
      refine goS (fun t k => XS.iushr XJ43.here hx rfl (hb hby at_48) rfl k) ?_
      show GlS _ _ _ _ _ _ _ _ _ _ (TJ43.setTop (mkF m 49 #[.val (.int p1), .val (.int p2), .val (.int p3), .val (.int p4), .val (.int p5), .val (.int p6), .val (.int ((p6 &&& (3 : Int32)) % (3 : Int32))), .val (.int s0_23), .val (.int s0_43), .unset, .unset, .unset, .unset, .unset, .unset, .unset, .unset, .unset, .unset, .unset, .unset, .unset, .unset, .unset, .unset] [(.int ((p6.toUInt32 >>> ((4 : Int32) &&& 31).toUInt32).toInt32))]))
      refine goS (fun t k => XS.iconst XJ43.here hx rfl (hb hby at_49) k) ?_
      show GlS _ _ _ _ _ _ _ _ _ _ (TJ43.setTop (mkF m 50 #[.val (.int p1), .val (.int p2), .val (.int p3), .val (.int p4), .val (.int p5), .val (.int p6), .val (.int ((p6 &&& (3 : Int32)) % (3 : Int32))), .val (.int s0_23), .val (.int s0_43), .unset, .unset, .unset, .unset, .unset, .unset, .unset, .unset, .unset, .unset, .unset, .unset, .unset, .unset, .unset, .unset] [(.int (1 : Int32)), (.int ((p6.toUInt32 >>> ((4 : Int32) &&& 31).toUInt32).toInt32))]))
      refine goS (fun t k => XS.iand XJ43.here hx rfl (hb hby at_50) rfl k) ?_
      show GlS _ _ _ _ _ _ _ _ _ _ (TJ43.setTop (mkF m 51 #[.val (.int p1), .val (.int p2), .val (.int p3), .val (.int p4), .val (.int p5), .val (.int p6), .val (.int ((p6 &&& (3 : Int32)) % (3 : Int32))), .val (.int s0_23), .val (.int s0_43), .unset, .unset, .unset, .unset, .unset, .unset, .unset, .unset, .unset, .unset, .unset, .unset, .unset, .unset, .unset, .unset] [(.int (((p6.toUInt32 >>> ((4 : Int32) &&& 31).toUInt32).toInt32) &&& (1 : Int32)))]))
      have J59 : ∀ (s0_59 : Int32) (TJ59 : State) (lJ59 : List Loc) (XJ59 : Stand p l e room_1 (s.setVm s.vm) m #[(.int p1), (.int p2), (.int p3), (.int p4), (.int p5), (.int p6)] below meth c TJ59 lJ59 0 0) (eJ59 : TJ59.heap = h0) (NJ59 : Fr n0 lJ59), GlS p e below s Z own_EL n0 room_1.cells room_1.slots (Kv (some (.int (b0_59 p1 p2 p3 p4 p5 p6 s0_43 s0_59))) (fun _ => True)) (TJ59.setTop (mkF m 59 #[.val (.int p1), .val (.int p2), .val (.int p3), .val (.int p4), .val (.int p5), .val (.int p6), .val (.int ((p6 &&& (3 : Int32)) % (3 : Int32))), .val (.int s0_23), .val (.int s0_43), .unset, .unset, .unset, .unset, .unset, .unset, .unset, .unset, .unset, .unset, .unset, .unset, .unset, .unset, .unset, .unset] [(.int s0_59)])) := by
        intro s0_59 TJ59 lJ59 XJ59 eJ59 NJ59
        show GlS _ _ _ _ _ _ _ _ _ (Kv (some (.int (if (((p6.toUInt32 >>> ((5 : Int32) &&& 31).toUInt32).toInt32) &&& (1 : Int32)) = (0 : Int32) then (b0_75 p1 p2 p3 p4 p5 p6 s0_43 s0_59 (0 : Int32)) else (b0_75 p1 p2 p3 p4 p5 p6 s0_43 s0_59 (1 : Int32))))) _) _
        refine goS (fun t k => XS.istore XJ59.here hx rfl (hb hby at_59) rfl (l' := #[.val (.int p1), .val (.int p2), .val (.int p3), .val (.int p4), .val (.int p5), .val (.int p6), .val (.int ((p6 &&& (3 : Int32)) % (3 : Int32))), .val (.int s0_23), .val (.int s0_43), .val (.int s0_59), .unset, .unset, .unset, .unset, .unset, .unset, .unset, .unset, .unset, .unset, .unset, .unset, .unset, .unset, .unset]) rfl k) ?_
        show GlS _ _ _ _ _ _ _ _ _ _ (TJ59.setTop (mkF m 61 #[.val (.int p1), .val (.int p2), .val (.int p3), .val (.int p4), .val (.int p5), .val (.int p6), .val (.int ((p6 &&& (3 : Int32)) % (3 : Int32))), .val (.int s0_23), .val (.int s0_43), .val (.int s0_59), .unset, .unset, .unset, .unset, .unset, .unset, .unset, .unset, .unset, .unset, .unset, .unset, .unset, .unset, .unset] []))
        refine goS (fun t k => XS.iload XJ59.here hx rfl (hb hby at_61) rfl  k) ?_
        show GlS _ _ _ _ _ _ _ _ _ _ (TJ59.setTop (mkF m 63 #[.val (.int p1), .val (.int p2), .val (.int p3), .val (.int p4), .val (.int p5), .val (.int p6), .val (.int ((p6 &&& (3 : Int32)) % (3 : Int32))), .val (.int s0_23), .val (.int s0_43), .val (.int s0_59), .unset, .unset, .unset, .unset, .unset, .unset, .unset, .unset, .unset, .unset, .unset, .unset, .unset, .unset, .unset] [(.int p6)]))
        refine goS (fun t k => XS.iconst XJ59.here hx rfl (hb hby at_63) k) ?_
        show GlS _ _ _ _ _ _ _ _ _ _ (TJ59.setTop (mkF m 64 #[.val (.int p1), .val (.int p2), .val (.int p3), .val (.int p4), .val (.int p5), .val (.int p6), .val (.int ((p6 &&& (3 : Int32)) % (3 : Int32))), .val (.int s0_23), .val (.int s0_43), .val (.int s0_59), .unset, .unset, .unset, .unset, .unset, .unset, .unset, .unset, .unset, .unset, .unset, .unset, .unset, .unset, .unset] [(.int (5 : Int32)), (.int p6)]))
        refine goS (fun t k => XS.iushr XJ59.here hx rfl (hb hby at_64) rfl k) ?_
        show GlS _ _ _ _ _ _ _ _ _ _ (TJ59.setTop (mkF m 65 #[.val (.int p1), .val (.int p2), .val (.int p3), .val (.int p4), .val (.int p5), .val (.int p6), .val (.int ((p6 &&& (3 : Int32)) % (3 : Int32))), .val (.int s0_23), .val (.int s0_43), .val (.int s0_59), .unset, .unset, .unset, .unset, .unset, .unset, .unset, .unset, .unset, .unset, .unset, .unset, .unset, .unset, .unset] [(.int ((p6.toUInt32 >>> ((5 : Int32) &&& 31).toUInt32).toInt32))]))
        refine goS (fun t k => XS.iconst XJ59.here hx rfl (hb hby at_65) k) ?_
        show GlS _ _ _ _ _ _ _ _ _ _ (TJ59.setTop (mkF m 66 #[.val (.int p1), .val (.int p2), .val (.int p3), .val (.int p4), .val (.int p5), .val (.int p6), .val (.int ((p6 &&& (3 : Int32)) % (3 : Int32))), .val (.int s0_23), .val (.int s0_43), .val (.int s0_59), .unset, .unset, .unset, .unset, .unset, .unset, .unset, .unset, .unset, .unset, .unset, .unset, .unset, .unset, .unset] [(.int (1 : Int32)), (.int ((p6.toUInt32 >>> ((5 : Int32) &&& 31).toUInt32).toInt32))]))
        refine goS (fun t k => XS.iand XJ59.here hx rfl (hb hby at_66) rfl k) ?_
        show GlS _ _ _ _ _ _ _ _ _ _ (TJ59.setTop (mkF m 67 #[.val (.int p1), .val (.int p2), .val (.int p3), .val (.int p4), .val (.int p5), .val (.int p6), .val (.int ((p6 &&& (3 : Int32)) % (3 : Int32))), .val (.int s0_23), .val (.int s0_43), .val (.int s0_59), .unset, .unset, .unset, .unset, .unset, .unset, .unset, .unset, .unset, .unset, .unset, .unset, .unset, .unset, .unset] [(.int (((p6.toUInt32 >>> ((5 : Int32) &&& 31).toUInt32).toInt32) &&& (1 : Int32)))]))
        have J75 : ∀ (s0_75 : Int32) (TJ75 : State) (lJ75 : List Loc) (XJ75 : Stand p l e room_1 (s.setVm s.vm) m #[(.int p1), (.int p2), (.int p3), (.int p4), (.int p5), (.int p6)] below meth c TJ75 lJ75 0 0) (eJ75 : TJ75.heap = h0) (NJ75 : Fr n0 lJ75), GlS p e below s Z own_EL n0 room_1.cells room_1.slots (Kv (some (.int (b0_75 p1 p2 p3 p4 p5 p6 s0_43 s0_59 s0_75))) (fun _ => True)) (TJ75.setTop (mkF m 75 #[.val (.int p1), .val (.int p2), .val (.int p3), .val (.int p4), .val (.int p5), .val (.int p6), .val (.int ((p6 &&& (3 : Int32)) % (3 : Int32))), .val (.int s0_23), .val (.int s0_43), .val (.int s0_59), .unset, .unset, .unset, .unset, .unset, .unset, .unset, .unset, .unset, .unset, .unset, .unset, .unset, .unset, .unset] [(.int s0_75)])) := by
          intro s0_75 TJ75 lJ75 XJ75 eJ75 NJ75
          show GlS _ _ _ _ _ _ _ _ _ (Kv (some (.int (if (((p6.toUInt32 >>> ((6 : Int32) &&& 31).toUInt32).toInt32) &&& (1 : Int32)) = (0 : Int32) then (b0_92 p1 p2 p3 p4 p5 p6 s0_43 s0_59 s0_75 (0 : Int32)) else (b0_92 p1 p2 p3 p4 p5 p6 s0_43 s0_59 s0_75 (1 : Int32))))) _) _
          refine goS (fun t k => XS.istore XJ75.here hx rfl (hb hby at_75) rfl (l' := #[.val (.int p1), .val (.int p2), .val (.int p3), .val (.int p4), .val (.int p5), .val (.int p6), .val (.int ((p6 &&& (3 : Int32)) % (3 : Int32))), .val (.int s0_23), .val (.int s0_43), .val (.int s0_59), .val (.int s0_75), .unset, .unset, .unset, .unset, .unset, .unset, .unset, .unset, .unset, .unset, .unset, .unset, .unset, .unset]) rfl k) ?_
          show GlS _ _ _ _ _ _ _ _ _ _ (TJ75.setTop (mkF m 77 #[.val (.int p1), .val (.int p2), .val (.int p3), .val (.int p4), .val (.int p5), .val (.int p6), .val (.int ((p6 &&& (3 : Int32)) % (3 : Int32))), .val (.int s0_23), .val (.int s0_43), .val (.int s0_59), .val (.int s0_75), .unset, .unset, .unset, .unset, .unset, .unset, .unset, .unset, .unset, .unset, .unset, .unset, .unset, .unset] []))
          refine goS (fun t k => XS.iload XJ75.here hx rfl (hb hby at_77) rfl  k) ?_
          show GlS _ _ _ _ _ _ _ _ _ _ (TJ75.setTop (mkF m 79 #[.val (.int p1), .val (.int p2), .val (.int p3), .val (.int p4), .val (.int p5), .val (.int p6), .val (.int ((p6 &&& (3 : Int32)) % (3 : Int32))), .val (.int s0_23), .val (.int s0_43), .val (.int s0_59), .val (.int s0_75), .unset, .unset, .unset, .unset, .unset, .unset, .unset, .unset, .unset, .unset, .unset, .unset, .unset, .unset] [(.int p6)]))
          refine goS (fun t k => XS.bipush XJ75.here hx rfl (hb hby at_79) k) ?_
          show GlS _ _ _ _ _ _ _ _ _ _ (TJ75.setTop (mkF m 81 #[.val (.int p1), .val (.int p2), .val (.int p3), .val (.int p4), .val (.int p5), .val (.int p6), .val (.int ((p6 &&& (3 : Int32)) % (3 : Int32))), .val (.int s0_23), .val (.int s0_43), .val (.int s0_59), .val (.int s0_75), .unset, .unset, .unset, .unset, .unset, .unset, .unset, .unset, .unset, .unset, .unset, .unset, .unset, .unset] [(.int (6 : Int32)), (.int p6)]))
          refine goS (fun t k => XS.iushr XJ75.here hx rfl (hb hby at_81) rfl k) ?_
          show GlS _ _ _ _ _ _ _ _ _ _ (TJ75.setTop (mkF m 82 #[.val (.int p1), .val (.int p2), .val (.int p3), .val (.int p4), .val (.int p5), .val (.int p6), .val (.int ((p6 &&& (3 : Int32)) % (3 : Int32))), .val (.int s0_23), .val (.int s0_43), .val (.int s0_59), .val (.int s0_75), .unset, .unset, .unset, .unset, .unset, .unset, .unset, .unset, .unset, .unset, .unset, .unset, .unset, .unset] [(.int ((p6.toUInt32 >>> ((6 : Int32) &&& 31).toUInt32).toInt32))]))
          refine goS (fun t k => XS.iconst XJ75.here hx rfl (hb hby at_82) k) ?_
          show GlS _ _ _ _ _ _ _ _ _ _ (TJ75.setTop (mkF m 83 #[.val (.int p1), .val (.int p2), .val (.int p3), .val (.int p4), .val (.int p5), .val (.int p6), .val (.int ((p6 &&& (3 : Int32)) % (3 : Int32))), .val (.int s0_23), .val (.int s0_43), .val (.int s0_59), .val (.int s0_75), .unset, .unset, .unset, .unset, .unset, .unset, .unset, .unset, .unset, .unset, .unset, .unset, .unset, .unset] [(.int (1 : Int32)), (.int ((p6.toUInt32 >>> ((6 : Int32) &&& 31).toUInt32).toInt32))]))
          refine goS (fun t k => XS.iand XJ75.here hx rfl (hb hby at_83) rfl k) ?_
          show GlS _ _ _ _ _ _ _ _ _ _ (TJ75.setTop (mkF m 84 #[.val (.int p1), .val (.int p2), .val (.int p3), .val (.int p4), .val (.int p5), .val (.int p6), .val (.int ((p6 &&& (3 : Int32)) % (3 : Int32))), .val (.int s0_23), .val (.int s0_43), .val (.int s0_59), .val (.int s0_75), .unset, .unset, .unset, .unset, .unset, .unset, .unset, .unset, .unset, .unset, .unset, .unset, .unset, .unset] [(.int (((p6.toUInt32 >>> ((6 : Int32) &&& 31).toUInt32).toInt32) &&& (1 : Int32)))]))
          have J92 : ∀ (s0_92 : Int32) (TJ92 : State) (lJ92 : List Loc) (XJ92 : Stand p l e room_1 (s.setVm s.vm) m #[(.int p1), (.int p2), (.int p3), (.int p4), (.int p5), (.int p6)] below meth c TJ92 lJ92 0 0) (eJ92 : TJ92.heap = h0) (NJ92 : Fr n0 lJ92), GlS p e below s Z own_EL n0 room_1.cells room_1.slots (Kv (some (.int (b0_92 p1 p2 p3 p4 p5 p6 s0_43 s0_59 s0_75 s0_92))) (fun _ => True)) (TJ92.setTop (mkF m 92 #[.val (.int p1), .val (.int p2), .val (.int p3), .val (.int p4), .val (.int p5), .val (.int p6), .val (.int ((p6 &&& (3 : Int32)) % (3 : Int32))), .val (.int s0_23), .val (.int s0_43), .val (.int s0_59), .val (.int s0_75), .unset, .unset, .unset, .unset, .unset, .unset, .unset, .unset, .unset, .unset, .unset, .unset, .unset, .unset] [(.int s0_92)])) := by
            intro s0_92 TJ92 lJ92 XJ92 eJ92 NJ92
            show GlS _ _ _ _ _ _ _ _ _ (Kv (some (.int (if s0_59 = (0 : Int32) then (b0_113 p1 p2 p4 p5 p6 s0_43 s0_75 s0_92 p3) else (b0_113 p1 p2 p4 p5 p6 s0_43 s0_75 s0_92 p1)))) _) _
            refine goS (fun t k => XS.istore XJ92.here hx rfl (hb hby at_92) rfl (l' := #[.val (.int p1), .val (.int p2), .val (.int p3), .val (.int p4), .val (.int p5), .val (.int p6), .val (.int ((p6 &&& (3 : Int32)) % (3 : Int32))), .val (.int s0_23), .val (.int s0_43), .val (.int s0_59), .val (.int s0_75), .val (.int s0_92), .unset, .unset, .unset, .unset, .unset, .unset, .unset, .unset, .unset, .unset, .unset, .unset, .unset]) rfl k) ?_
            show GlS _ _ _ _ _ _ _ _ _ _ (TJ92.setTop (mkF m 94 #[.val (.int p1), .val (.int p2), .val (.int p3), .val (.int p4), .val (.int p5), .val (.int p6), .val (.int ((p6 &&& (3 : Int32)) % (3 : Int32))), .val (.int s0_23), .val (.int s0_43), .val (.int s0_59), .val (.int s0_75), .val (.int s0_92), .unset, .unset, .unset, .unset, .unset, .unset, .unset, .unset, .unset, .unset, .unset, .unset, .unset] []))
            refine goS (fun t k => XS.iload XJ92.here hx rfl (hb hby at_94) rfl  k) ?_
            show GlS _ _ _ _ _ _ _ _ _ _ (TJ92.setTop (mkF m 96 #[.val (.int p1), .val (.int p2), .val (.int p3), .val (.int p4), .val (.int p5), .val (.int p6), .val (.int ((p6 &&& (3 : Int32)) % (3 : Int32))), .val (.int s0_23), .val (.int s0_43), .val (.int s0_59), .val (.int s0_75), .val (.int s0_92), .unset, .unset, .unset, .unset, .unset, .unset, .unset, .unset, .unset, .unset, .unset, .unset, .unset] [(.int p6)]))
            refine goS (fun t k => XS.bipush XJ92.here hx rfl (hb hby at_96) k) ?_
            show GlS _ _ _ _ _ _ _ _ _ _ (TJ92.setTop (mkF m 98 #[.val (.int p1), .val (.int p2), .val (.int p3), .val (.int p4), .val (.int p5), .val (.int p6), .val (.int ((p6 &&& (3 : Int32)) % (3 : Int32))), .val (.int s0_23), .val (.int s0_43), .val (.int s0_59), .val (.int s0_75), .val (.int s0_92), .unset, .unset, .unset, .unset, .unset, .unset, .unset, .unset, .unset, .unset, .unset, .unset, .unset] [(.int (7 : Int32)), (.int p6)]))
            refine goS (fun t k => XS.iushr XJ92.here hx rfl (hb hby at_98) rfl k) ?_
            show GlS _ _ _ _ _ _ _ _ _ _ (TJ92.setTop (mkF m 99 #[.val (.int p1), .val (.int p2), .val (.int p3), .val (.int p4), .val (.int p5), .val (.int p6), .val (.int ((p6 &&& (3 : Int32)) % (3 : Int32))), .val (.int s0_23), .val (.int s0_43), .val (.int s0_59), .val (.int s0_75), .val (.int s0_92), .unset, .unset, .unset, .unset, .unset, .unset, .unset, .unset, .unset, .unset, .unset, .unset, .unset] [(.int ((p6.toUInt32 >>> ((7 : Int32) &&& 31).toUInt32).toInt32))]))
            refine goS (fun t k => XS.iconst XJ92.here hx rfl (hb hby at_99) k) ?_
            show GlS _ _ _ _ _ _ _ _ _ _ (TJ92.setTop (mkF m 100 #[.val (.int p1), .val (.int p2), .val (.int p3), .val (.int p4), .val (.int p5), .val (.int p6), .val (.int ((p6 &&& (3 : Int32)) % (3 : Int32))), .val (.int s0_23), .val (.int s0_43), .val (.int s0_59), .val (.int s0_75), .val (.int s0_92), .unset, .unset, .unset, .unset, .unset, .unset, .unset, .unset, .unset, .unset, .unset, .unset, .unset] [(.int (3 : Int32)), (.int ((p6.toUInt32 >>> ((7 : Int32) &&& 31).toUInt32).toInt32))]))
            refine goS (fun t k => XS.iand XJ92.here hx rfl (hb hby at_100) rfl k) ?_
            show GlS _ _ _ _ _ _ _ _ _ _ (TJ92.setTop (mkF m 101 #[.val (.int p1), .val (.int p2), .val (.int p3), .val (.int p4), .val (.int p5), .val (.int p6), .val (.int ((p6 &&& (3 : Int32)) % (3 : Int32))), .val (.int s0_23), .val (.int s0_43), .val (.int s0_59), .val (.int s0_75), .val (.int s0_92), .unset, .unset, .unset, .unset, .unset, .unset, .unset, .unset, .unset, .unset, .unset, .unset, .unset] [(.int (((p6.toUInt32 >>> ((7 : Int32) &&& 31).toUInt32).toInt32) &&& (3 : Int32)))]))
            refine goS (fun t k => XS.istore XJ92.here hx rfl (hb hby at_101) rfl (l' := #[.val (.int p1), .val (.int p2), .val (.int p3), .val (.int p4), .val (.int p5), .val (.int p6), .val (.int ((p6 &&& (3 : Int32)) % (3 : Int32))), .val (.int s0_23), .val (.int s0_43), .val (.int s0_59), .val (.int s0_75), .val (.int s0_92), .val (.int (((p6.toUInt32 >>> ((7 : Int32) &&& 31).toUInt32).toInt32) &&& (3 : Int32))), .unset, .unset, .unset, .unset, .unset, .unset, .unset, .unset, .unset, .unset, .unset, .unset]) rfl k) ?_
            show GlS _ _ _ _ _ _ _ _ _ _ (TJ92.setTop (mkF m 103 #[.val (.int p1), .val (.int p2), .val (.int p3), .val (.int p4), .val (.int p5), .val (.int p6), .val (.int ((p6 &&& (3 : Int32)) % (3 : Int32))), .val (.int s0_23), .val (.int s0_43), .val (.int s0_59), .val (.int s0_75), .val (.int s0_92), .val (.int (((p6.toUInt32 >>> ((7 : Int32) &&& 31).toUInt32).toInt32) &&& (3 : Int32))), .unset, .unset, .unset, .unset, .unset, .unset, .unset, .unset, .unset, .unset, .unset, .unset] []))
            refine goS (fun t k => XS.iload XJ92.here hx rfl (hb hby at_103) rfl  k) ?_
            show GlS _ _ _ _ _ _ _ _ _ _ (TJ92.setTop (mkF m 105 #[.val (.int p1), .val (.int p2), .val (.int p3), .val (.int p4), .val (.int p5), .val (.int p6), .val (.int ((p6 &&& (3 : Int32)) % (3 : Int32))), .val (.int s0_23), .val (.int s0_43), .val (.int s0_59), .val (.int s0_75), .val (.int s0_92), .val (.int (((p6.toUInt32 >>> ((7 : Int32) &&& 31).toUInt32).toInt32) &&& (3 : Int32))), .unset, .unset, .unset, .unset, .unset, .unset, .unset, .unset, .unset, .unset, .unset, .unset] [(.int s0_59)]))
            have J113 : ∀ (s0_113 : Int32) (TJ113 : State) (lJ113 : List Loc) (XJ113 : Stand p l e room_1 (s.setVm s.vm) m #[(.int p1), (.int p2), (.int p3), (.int p4), (.int p5), (.int p6)] below meth c TJ113 lJ113 0 0) (eJ113 : TJ113.heap = h0) (NJ113 : Fr n0 lJ113), GlS p e below s Z own_EL n0 room_1.cells room_1.slots (Kv (some (.int (b0_113 p1 p2 p4 p5 p6 s0_43 s0_75 s0_92 s0_113))) (fun _ => True)) (TJ113.setTop (mkF m 113 #[.val (.int p1), .val (.int p2), .val (.int p3), .val (.int p4), .val (.int p5), .val (.int p6), .val (.int ((p6 &&& (3 : Int32)) % (3 : Int32))), .val (.int s0_23), .val (.int s0_43), .val (.int s0_59), .val (.int s0_75), .val (.int s0_92), .val (.int (((p6.toUInt32 >>> ((7 : Int32) &&& 31).toUInt32).toInt32) &&& (3 : Int32))), .unset, .unset, .unset, .unset, .unset, .unset, .unset, .unset, .unset, .unset, .unset, .unset] [(.int s0_113)])) := by
              intro s0_113 TJ113 lJ113 XJ113 eJ113 NJ113
              show GlS _ _ _ _ _ _ _ _ _ (Kv (some (.int (if s0_75 = (0 : Int32) then (b0_125 p1 p2 p5 p6 s0_43 s0_92 s0_113 p4) else (b0_125 p1 p2 p5 p6 s0_43 s0_92 s0_113 p2)))) _) _
              refine goS (fun t k => XS.istore XJ113.here hx rfl (hb hby at_113) rfl (l' := #[.val (.int p1), .val (.int p2), .val (.int p3), .val (.int p4), .val (.int p5), .val (.int p6), .val (.int ((p6 &&& (3 : Int32)) % (3 : Int32))), .val (.int s0_23), .val (.int s0_43), .val (.int s0_59), .val (.int s0_75), .val (.int s0_92), .val (.int (((p6.toUInt32 >>> ((7 : Int32) &&& 31).toUInt32).toInt32) &&& (3 : Int32))), .val (.int s0_113), .unset, .unset, .unset, .unset, .unset, .unset, .unset, .unset, .unset, .unset, .unset]) rfl k) ?_
              show GlS _ _ _ _ _ _ _ _ _ _ (TJ113.setTop (mkF m 115 #[.val (.int p1), .val (.int p2), .val (.int p3), .val (.int p4), .val (.int p5), .val (.int p6), .val (.int ((p6 &&& (3 : Int32)) % (3 : Int32))), .val (.int s0_23), .val (.int s0_43), .val (.int s0_59), .val (.int s0_75), .val (.int s0_92), .val (.int (((p6.toUInt32 >>> ((7 : Int32) &&& 31).toUInt32).toInt32) &&& (3 : Int32))), .val (.int s0_113), .unset, .unset, .unset, .unset, .unset, .unset, .unset, .unset, .unset, .unset, .unset] []))
              refine goS (fun t k => XS.iload XJ113.here hx rfl (hb hby at_115) rfl  k) ?_
              show GlS _ _ _ _ _ _ _ _ _ _ (TJ113.setTop (mkF m 117 #[.val (.int p1), .val (.int p2), .val (.int p3), .val (.int p4), .val (.int p5), .val (.int p6), .val (.int ((p6 &&& (3 : Int32)) % (3 : Int32))), .val (.int s0_23), .val (.int s0_43), .val (.int s0_59), .val (.int s0_75), .val (.int s0_92), .val (.int (((p6.toUInt32 >>> ((7 : Int32) &&& 31).toUInt32).toInt32) &&& (3 : Int32))), .val (.int s0_113), .unset, .unset, .unset, .unset, .unset, .unset, .unset, .unset, .unset, .unset, .unset] [(.int s0_75)]))
              have J125 : ∀ (s0_125 : Int32) (TJ125 : State) (lJ125 : List Loc) (XJ125 : Stand p l e room_1 (s.setVm s.vm) m #[(.int p1), (.int p2), (.int p3), (.int p4), (.int p5), (.int p6)] below meth c TJ125 lJ125 0 0) (eJ125 : TJ125.heap = h0) (NJ125 : Fr n0 lJ125), GlS p e below s Z own_EL n0 room_1.cells room_1.slots (Kv (some (.int (b0_125 p1 p2 p5 p6 s0_43 s0_92 s0_113 s0_125))) (fun _ => True)) (TJ125.setTop (mkF m 125 #[.val (.int p1), .val (.int p2), .val (.int p3), .val (.int p4), .val (.int p5), .val (.int p6), .val (.int ((p6 &&& (3 : Int32)) % (3 : Int32))), .val (.int s0_23), .val (.int s0_43), .val (.int s0_59), .val (.int s0_75), .val (.int s0_92), .val (.int (((p6.toUInt32 >>> ((7 : Int32) &&& 31).toUInt32).toInt32) &&& (3 : Int32))), .val (.int s0_113), .unset, .unset, .unset, .unset, .unset, .unset, .unset, .unset, .unset, .unset, .unset] [(.int s0_125)])) := by
                intro s0_125 TJ125 lJ125 XJ125 eJ125 NJ125
                show GlS _ _ _ _ _ _ _ _ _ (Kv (some (.int (if s0_92 = (0 : Int32) then (b0_168 p1 p2 p5 p6 s0_43 s0_92 s0_113 s0_125 ((((p5.toUInt32 >>> ((16 : Int32) &&& 31).toUInt32).toInt32) &&& (255 : Int32)).toUInt32.toUInt16.toUInt32.toInt32)) else (b0_168 p1 p2 p5 p6 s0_43 s0_92 s0_113 s0_125 ((p5 &&& (255 : Int32)).toUInt32.toUInt16.toUInt32.toInt32))))) _) _
                refine goS (fun t k => XS.istore XJ125.here hx rfl (hb hby at_125) rfl (l' := #[.val (.int p1), .val (.int p2), .val (.int p3), .val (.int p4), .val (.int p5), .val (.int p6), .val (.int ((p6 &&& (3 : Int32)) % (3 : Int32))), .val (.int s0_23), .val (.int s0_43), .val (.int s0_59), .val (.int s0_75), .val (.int s0_92), .val (.int (((p6.toUInt32 >>> ((7 : Int32) &&& 31).toUInt32).toInt32) &&& (3 : Int32))), .val (.int s0_113), .val (.int s0_125), .unset, .unset, .unset, .unset, .unset, .unset, .unset, .unset, .unset, .unset]) rfl k) ?_
                show GlS _ _ _ _ _ _ _ _ _ _ (TJ125.setTop (mkF m 127 #[.val (.int p1), .val (.int p2), .val (.int p3), .val (.int p4), .val (.int p5), .val (.int p6), .val (.int ((p6 &&& (3 : Int32)) % (3 : Int32))), .val (.int s0_23), .val (.int s0_43), .val (.int s0_59), .val (.int s0_75), .val (.int s0_92), .val (.int (((p6.toUInt32 >>> ((7 : Int32) &&& 31).toUInt32).toInt32) &&& (3 : Int32))), .val (.int s0_113), .val (.int s0_125), .unset, .unset, .unset, .unset, .unset, .unset, .unset, .unset, .unset, .unset] []))
                refine goS (fun t k => XS.iload XJ125.here hx rfl (hb hby at_127) rfl  k) ?_
                show GlS _ _ _ _ _ _ _ _ _ _ (TJ125.setTop (mkF m 129 #[.val (.int p1), .val (.int p2), .val (.int p3), .val (.int p4), .val (.int p5), .val (.int p6), .val (.int ((p6 &&& (3 : Int32)) % (3 : Int32))), .val (.int s0_23), .val (.int s0_43), .val (.int s0_59), .val (.int s0_75), .val (.int s0_92), .val (.int (((p6.toUInt32 >>> ((7 : Int32) &&& 31).toUInt32).toInt32) &&& (3 : Int32))), .val (.int s0_113), .val (.int s0_125), .unset, .unset, .unset, .unset, .unset, .unset, .unset, .unset, .unset, .unset] [(.int p5)]))
                refine goS (fun t k => XS.sipush XJ125.here hx rfl (hb hby at_129) k) ?_
                show GlS _ _ _ _ _ _ _ _ _ _ (TJ125.setTop (mkF m 132 #[.val (.int p1), .val (.int p2), .val (.int p3), .val (.int p4), .val (.int p5), .val (.int p6), .val (.int ((p6 &&& (3 : Int32)) % (3 : Int32))), .val (.int s0_23), .val (.int s0_43), .val (.int s0_59), .val (.int s0_75), .val (.int s0_92), .val (.int (((p6.toUInt32 >>> ((7 : Int32) &&& 31).toUInt32).toInt32) &&& (3 : Int32))), .val (.int s0_113), .val (.int s0_125), .unset, .unset, .unset, .unset, .unset, .unset, .unset, .unset, .unset, .unset] [(.int (255 : Int32)), (.int p5)]))
                refine goS (fun t k => XS.iand XJ125.here hx rfl (hb hby at_132) rfl k) ?_
                show GlS _ _ _ _ _ _ _ _ _ _ (TJ125.setTop (mkF m 133 #[.val (.int p1), .val (.int p2), .val (.int p3), .val (.int p4), .val (.int p5), .val (.int p6), .val (.int ((p6 &&& (3 : Int32)) % (3 : Int32))), .val (.int s0_23), .val (.int s0_43), .val (.int s0_59), .val (.int s0_75), .val (.int s0_92), .val (.int (((p6.toUInt32 >>> ((7 : Int32) &&& 31).toUInt32).toInt32) &&& (3 : Int32))), .val (.int s0_113), .val (.int s0_125), .unset, .unset, .unset, .unset, .unset, .unset, .unset, .unset, .unset, .unset] [(.int (p5 &&& (255 : Int32)))]))
                refine goS (fun t k => XS.i2c XJ125.here hx rfl (hb hby at_133) rfl k) ?_
                show GlS _ _ _ _ _ _ _ _ _ _ (TJ125.setTop (mkF m 134 #[.val (.int p1), .val (.int p2), .val (.int p3), .val (.int p4), .val (.int p5), .val (.int p6), .val (.int ((p6 &&& (3 : Int32)) % (3 : Int32))), .val (.int s0_23), .val (.int s0_43), .val (.int s0_59), .val (.int s0_75), .val (.int s0_92), .val (.int (((p6.toUInt32 >>> ((7 : Int32) &&& 31).toUInt32).toInt32) &&& (3 : Int32))), .val (.int s0_113), .val (.int s0_125), .unset, .unset, .unset, .unset, .unset, .unset, .unset, .unset, .unset, .unset] [(.int ((p5 &&& (255 : Int32)).toUInt32.toUInt16.toUInt32.toInt32))]))
                refine goS (fun t k => XS.istore XJ125.here hx rfl (hb hby at_134) rfl (l' := #[.val (.int p1), .val (.int p2), .val (.int p3), .val (.int p4), .val (.int p5), .val (.int p6), .val (.int ((p6 &&& (3 : Int32)) % (3 : Int32))), .val (.int s0_23), .val (.int s0_43), .val (.int s0_59), .val (.int s0_75), .val (.int s0_92), .val (.int (((p6.toUInt32 >>> ((7 : Int32) &&& 31).toUInt32).toInt32) &&& (3 : Int32))), .val (.int s0_113), .val (.int s0_125), .val (.int ((p5 &&& (255 : Int32)).toUInt32.toUInt16.toUInt32.toInt32)), .unset, .unset, .unset, .unset, .unset, .unset, .unset, .unset, .unset]) rfl k) ?_
                show GlS _ _ _ _ _ _ _ _ _ _ (TJ125.setTop (mkF m 136 #[.val (.int p1), .val (.int p2), .val (.int p3), .val (.int p4), .val (.int p5), .val (.int p6), .val (.int ((p6 &&& (3 : Int32)) % (3 : Int32))), .val (.int s0_23), .val (.int s0_43), .val (.int s0_59), .val (.int s0_75), .val (.int s0_92), .val (.int (((p6.toUInt32 >>> ((7 : Int32) &&& 31).toUInt32).toInt32) &&& (3 : Int32))), .val (.int s0_113), .val (.int s0_125), .val (.int ((p5 &&& (255 : Int32)).toUInt32.toUInt16.toUInt32.toInt32)), .unset, .unset, .unset, .unset, .unset, .unset, .unset, .unset, .unset] []))
                refine goS (fun t k => XS.iload XJ125.here hx rfl (hb hby at_136) rfl  k) ?_
                show GlS _ _ _ _ _ _ _ _ _ _ (TJ125.setTop (mkF m 138 #[.val (.int p1), .val (.int p2), .val (.int p3), .val (.int p4), .val (.int p5), .val (.int p6), .val (.int ((p6 &&& (3 : Int32)) % (3 : Int32))), .val (.int s0_23), .val (.int s0_43), .val (.int s0_59), .val (.int s0_75), .val (.int s0_92), .val (.int (((p6.toUInt32 >>> ((7 : Int32) &&& 31).toUInt32).toInt32) &&& (3 : Int32))), .val (.int s0_113), .val (.int s0_125), .val (.int ((p5 &&& (255 : Int32)).toUInt32.toUInt16.toUInt32.toInt32)), .unset, .unset, .unset, .unset, .unset, .unset, .unset, .unset, .unset] [(.int p5)]))
                refine goS (fun t k => XS.bipush XJ125.here hx rfl (hb hby at_138) k) ?_
                show GlS _ _ _ _ _ _ _ _ _ _ (TJ125.setTop (mkF m 140 #[.val (.int p1), .val (.int p2), .val (.int p3), .val (.int p4), .val (.int p5), .val (.int p6), .val (.int ((p6 &&& (3 : Int32)) % (3 : Int32))), .val (.int s0_23), .val (.int s0_43), .val (.int s0_59), .val (.int s0_75), .val (.int s0_92), .val (.int (((p6.toUInt32 >>> ((7 : Int32) &&& 31).toUInt32).toInt32) &&& (3 : Int32))), .val (.int s0_113), .val (.int s0_125), .val (.int ((p5 &&& (255 : Int32)).toUInt32.toUInt16.toUInt32.toInt32)), .unset, .unset, .unset, .unset, .unset, .unset, .unset, .unset, .unset] [(.int (8 : Int32)), (.int p5)]))
                refine goS (fun t k => XS.iushr XJ125.here hx rfl (hb hby at_140) rfl k) ?_
                show GlS _ _ _ _ _ _ _ _ _ _ (TJ125.setTop (mkF m 141 #[.val (.int p1), .val (.int p2), .val (.int p3), .val (.int p4), .val (.int p5), .val (.int p6), .val (.int ((p6 &&& (3 : Int32)) % (3 : Int32))), .val (.int s0_23), .val (.int s0_43), .val (.int s0_59), .val (.int s0_75), .val (.int s0_92), .val (.int (((p6.toUInt32 >>> ((7 : Int32) &&& 31).toUInt32).toInt32) &&& (3 : Int32))), .val (.int s0_113), .val (.int s0_125), .val (.int ((p5 &&& (255 : Int32)).toUInt32.toUInt16.toUInt32.toInt32)), .unset, .unset, .unset, .unset, .unset, .unset, .unset, .unset, .unset] [(.int ((p5.toUInt32 >>> ((8 : Int32) &&& 31).toUInt32).toInt32))]))
                refine goS (fun t k => XS.sipush XJ125.here hx rfl (hb hby at_141) k) ?_
                show GlS _ _ _ _ _ _ _ _ _ _ (TJ125.setTop (mkF m 144 #[.val (.int p1), .val (.int p2), .val (.int p3), .val (.int p4), .val (.int p5), .val (.int p6), .val (.int ((p6 &&& (3 : Int32)) % (3 : Int32))), .val (.int s0_23), .val (.int s0_43), .val (.int s0_59), .val (.int s0_75), .val (.int s0_92), .val (.int (((p6.toUInt32 >>> ((7 : Int32) &&& 31).toUInt32).toInt32) &&& (3 : Int32))), .val (.int s0_113), .val (.int s0_125), .val (.int ((p5 &&& (255 : Int32)).toUInt32.toUInt16.toUInt32.toInt32)), .unset, .unset, .unset, .unset, .unset, .unset, .unset, .unset, .unset] [(.int (255 : Int32)), (.int ((p5.toUInt32 >>> ((8 : Int32) &&& 31).toUInt32).toInt32))]))
                refine goS (fun t k => XS.iand XJ125.here hx rfl (hb hby at_144) rfl k) ?_
                show GlS _ _ _ _ _ _ _ _ _ _ (TJ125.setTop (mkF m 145 #[.val (.int p1), .val (.int p2), .val (.int p3), .val (.int p4), .val (.int p5), .val (.int p6), .val (.int ((p6 &&& (3 : Int32)) % (3 : Int32))), .val (.int s0_23), .val (.int s0_43), .val (.int s0_59), .val (.int s0_75), .val (.int s0_92), .val (.int (((p6.toUInt32 >>> ((7 : Int32) &&& 31).toUInt32).toInt32) &&& (3 : Int32))), .val (.int s0_113), .val (.int s0_125), .val (.int ((p5 &&& (255 : Int32)).toUInt32.toUInt16.toUInt32.toInt32)), .unset, .unset, .unset, .unset, .unset, .unset, .unset, .unset, .unset] [(.int (((p5.toUInt32 >>> ((8 : Int32) &&& 31).toUInt32).toInt32) &&& (255 : Int32)))]))
                refine goS (fun t k => XS.i2c XJ125.here hx rfl (hb hby at_145) rfl k) ?_
                show GlS _ _ _ _ _ _ _ _ _ _ (TJ125.setTop (mkF m 146 #[.val (.int p1), .val (.int p2), .val (.int p3), .val (.int p4), .val (.int p5), .val (.int p6), .val (.int ((p6 &&& (3 : Int32)) % (3 : Int32))), .val (.int s0_23), .val (.int s0_43), .val (.int s0_59), .val (.int s0_75), .val (.int s0_92), .val (.int (((p6.toUInt32 >>> ((7 : Int32) &&& 31).toUInt32).toInt32) &&& (3 : Int32))), .val (.int s0_113), .val (.int s0_125), .val (.int ((p5 &&& (255 : Int32)).toUInt32.toUInt16.toUInt32.toInt32)), .unset, .unset, .unset, .unset, .unset, .unset, .unset, .unset, .unset] [(.int ((((p5.toUInt32 >>> ((8 : Int32) &&& 31).toUInt32).toInt32) &&& (255 : Int32)).toUInt32.toUInt16.toUInt32.toInt32))]))
                refine goS (fun t k => XS.istore XJ125.here hx rfl (hb hby at_146) rfl (l' := #[.val (.int p1), .val (.int p2), .val (.int p3), .val (.int p4), .val (.int p5), .val (.int p6), .val (.int ((p6 &&& (3 : Int32)) % (3 : Int32))), .val (.int s0_23), .val (.int s0_43), .val (.int s0_59), .val (.int s0_75), .val (.int s0_92), .val (.int (((p6.toUInt32 >>> ((7 : Int32) &&& 31).toUInt32).toInt32) &&& (3 : Int32))), .val (.int s0_113), .val (.int s0_125), .val (.int ((p5 &&& (255 : Int32)).toUInt32.toUInt16.toUInt32.toInt32)), .val (.int ((((p5.toUInt32 >>> ((8 : Int32) &&& 31).toUInt32).toInt32) &&& (255 : Int32)).toUInt32.toUInt16.toUInt32.toInt32)), .unset, .unset, .unset, .unset, .unset, .unset, .unset, .unset]) rfl k) ?_
                show GlS _ _ _ _ _ _ _ _ _ _ (TJ125.setTop (mkF m 148 #[.val (.int p1), .val (.int p2), .val (.int p3), .val (.int p4), .val (.int p5), .val (.int p6), .val (.int ((p6 &&& (3 : Int32)) % (3 : Int32))), .val (.int s0_23), .val (.int s0_43), .val (.int s0_59), .val (.int s0_75), .val (.int s0_92), .val (.int (((p6.toUInt32 >>> ((7 : Int32) &&& 31).toUInt32).toInt32) &&& (3 : Int32))), .val (.int s0_113), .val (.int s0_125), .val (.int ((p5 &&& (255 : Int32)).toUInt32.toUInt16.toUInt32.toInt32)), .val (.int ((((p5.toUInt32 >>> ((8 : Int32) &&& 31).toUInt32).toInt32) &&& (255 : Int32)).toUInt32.toUInt16.toUInt32.toInt32)), .unset, .unset, .unset, .unset, .unset, .unset, .unset, .unset] []))
                refine goS (fun t k => XS.iload XJ125.here hx rfl (hb hby at_148) rfl  k) ?_
                show GlS _ _ _ _ _ _ _ _ _ _ (TJ125.setTop (mkF m 150 #[.val (.int p1), .val (.int p2), .val (.int p3), .val (.int p4), .val (.int p5), .val (.int p6), .val (.int ((p6 &&& (3 : Int32)) % (3 : Int32))), .val (.int s0_23), .val (.int s0_43), .val (.int s0_59), .val (.int s0_75), .val (.int s0_92), .val (.int (((p6.toUInt32 >>> ((7 : Int32) &&& 31).toUInt32).toInt32) &&& (3 : Int32))), .val (.int s0_113), .val (.int s0_125), .val (.int ((p5 &&& (255 : Int32)).toUInt32.toUInt16.toUInt32.toInt32)), .val (.int ((((p5.toUInt32 >>> ((8 : Int32) &&& 31).toUInt32).toInt32) &&& (255 : Int32)).toUInt32.toUInt16.toUInt32.toInt32)), .unset, .unset, .unset, .unset, .unset, .unset, .unset, .unset] [(.int s0_92)]))
                have J168 : ∀ (s0_168 : Int32) (hb168 : ¬ s0_168 < 0 ∧ ¬ (255 : Int32) < s0_168) (TJ168 : State) (lJ168 : List Loc) (XJ168 : Stand p l e room_1 (s.setVm s.vm) m #[(.int p1), (.int p2), (.int p3), (.int p4), (.int p5), (.int p6)] below meth c TJ168 lJ168 0 0) (eJ168 : TJ168.heap = h0) (NJ168 : Fr n0 lJ168), GlS p e below s Z own_EL n0 room_1.cells room_1.slots (Kv (some (.int (b0_168 p1 p2 p5 p6 s0_43 s0_92 s0_113 s0_125 s0_168))) (fun _ => True)) (TJ168.setTop (mkF m 168 #[.val (.int p1), .val (.int p2), .val (.int p3), .val (.int p4), .val (.int p5), .val (.int p6), .val (.int ((p6 &&& (3 : Int32)) % (3 : Int32))), .val (.int s0_23), .val (.int s0_43), .val (.int s0_59), .val (.int s0_75), .val (.int s0_92), .val (.int (((p6.toUInt32 >>> ((7 : Int32) &&& 31).toUInt32).toInt32) &&& (3 : Int32))), .val (.int s0_113), .val (.int s0_125), .val (.int ((p5 &&& (255 : Int32)).toUInt32.toUInt16.toUInt32.toInt32)), .val (.int ((((p5.toUInt32 >>> ((8 : Int32) &&& 31).toUInt32).toInt32) &&& (255 : Int32)).toUInt32.toUInt16.toUInt32.toInt32)), .unset, .unset, .unset, .unset, .unset, .unset, .unset, .unset] [(.int s0_168)])) := by
                  intro s0_168 hb168 TJ168 lJ168 XJ168 eJ168 NJ168
                  show GlS _ _ _ _ _ _ _ _ _ (Kv (some (.int (if s0_92 = (0 : Int32) then (b0_190 p1 p2 p5 p6 s0_43 s0_113 s0_125 s0_168 ((((p5.toUInt32 >>> ((24 : Int32) &&& 31).toUInt32).toInt32) &&& (255 : Int32)).toUInt32.toUInt16.toUInt32.toInt32)) else (b0_190 p1 p2 p5 p6 s0_43 s0_113 s0_125 s0_168 ((((p5.toUInt32 >>> ((8 : Int32) &&& 31).toUInt32).toInt32) &&& (255 : Int32)).toUInt32.toUInt16.toUInt32.toInt32))))) _) _
                  refine goS (fun t k => XS.istore XJ168.here hx rfl (hb hby at_168) rfl (l' := #[.val (.int p1), .val (.int p2), .val (.int p3), .val (.int p4), .val (.int p5), .val (.int p6), .val (.int ((p6 &&& (3 : Int32)) % (3 : Int32))), .val (.int s0_23), .val (.int s0_43), .val (.int s0_59), .val (.int s0_75), .val (.int s0_92), .val (.int (((p6.toUInt32 >>> ((7 : Int32) &&& 31).toUInt32).toInt32) &&& (3 : Int32))), .val (.int s0_113), .val (.int s0_125), .val (.int ((p5 &&& (255 : Int32)).toUInt32.toUInt16.toUInt32.toInt32)), .val (.int ((((p5.toUInt32 >>> ((8 : Int32) &&& 31).toUInt32).toInt32) &&& (255 : Int32)).toUInt32.toUInt16.toUInt32.toInt32)), .val (.int s0_168), .unset, .unset, .unset, .unset, .unset, .unset, .unset]) rfl k) ?_
                  show GlS _ _ _ _ _ _ _ _ _ _ (TJ168.setTop (mkF m 170 #[.val (.int p1), .val (.int p2), .val (.int p3), .val (.int p4), .val (.int p5), .val (.int p6), .val (.int ((p6 &&& (3 : Int32)) % (3 : Int32))), .val (.int s0_23), .val (.int s0_43), .val (.int s0_59), .val (.int s0_75), .val (.int s0_92), .val (.int (((p6.toUInt32 >>> ((7 : Int32) &&& 31).toUInt32).toInt32) &&& (3 : Int32))), .val (.int s0_113), .val (.int s0_125), .val (.int ((p5 &&& (255 : Int32)).toUInt32.toUInt16.toUInt32.toInt32)), .val (.int ((((p5.toUInt32 >>> ((8 : Int32) &&& 31).toUInt32).toInt32) &&& (255 : Int32)).toUInt32.toUInt16.toUInt32.toInt32)), .val (.int s0_168), .unset, .unset, .unset, .unset, .unset, .unset, .unset] []))
                  refine goS (fun t k => XS.iload XJ168.here hx rfl (hb hby at_170) rfl  k) ?_
                  show GlS _ _ _ _ _ _ _ _ _ _ (TJ168.setTop (mkF m 172 #[.val (.int p1), .val (.int p2), .val (.int p3), .val (.int p4), .val (.int p5), .val (.int p6), .val (.int ((p6 &&& (3 : Int32)) % (3 : Int32))), .val (.int s0_23), .val (.int s0_43), .val (.int s0_59), .val (.int s0_75), .val (.int s0_92), .val (.int (((p6.toUInt32 >>> ((7 : Int32) &&& 31).toUInt32).toInt32) &&& (3 : Int32))), .val (.int s0_113), .val (.int s0_125), .val (.int ((p5 &&& (255 : Int32)).toUInt32.toUInt16.toUInt32.toInt32)), .val (.int ((((p5.toUInt32 >>> ((8 : Int32) &&& 31).toUInt32).toInt32) &&& (255 : Int32)).toUInt32.toUInt16.toUInt32.toInt32)), .val (.int s0_168), .unset, .unset, .unset, .unset, .unset, .unset, .unset] [(.int s0_92)]))
                  have J190 : ∀ (s0_190 : Int32) (hb190 : ¬ s0_190 < 0 ∧ ¬ (255 : Int32) < s0_190) (TJ190 : State) (lJ190 : List Loc) (XJ190 : Stand p l e room_1 (s.setVm s.vm) m #[(.int p1), (.int p2), (.int p3), (.int p4), (.int p5), (.int p6)] below meth c TJ190 lJ190 0 0) (eJ190 : TJ190.heap = h0) (NJ190 : Fr n0 lJ190), GlS p e below s Z own_EL n0 room_1.cells room_1.slots (Kv (some (.int (b0_190 p1 p2 p5 p6 s0_43 s0_113 s0_125 s0_168 s0_190))) (fun _ => True)) (TJ190.setTop (mkF m 190 #[.val (.int p1), .val (.int p2), .val (.int p3), .val (.int p4), .val (.int p5), .val (.int p6), .val (.int ((p6 &&& (3 : Int32)) % (3 : Int32))), .val (.int s0_23), .val (.int s0_43), .val (.int s0_59), .val (.int s0_75), .val (.int s0_92), .val (.int (((p6.toUInt32 >>> ((7 : Int32) &&& 31).toUInt32).toInt32) &&& (3 : Int32))), .val (.int s0_113), .val (.int s0_125), .val (.int ((p5 &&& (255 : Int32)).toUInt32.toUInt16.toUInt32.toInt32)), .val (.int ((((p5.toUInt32 >>> ((8 : Int32) &&& 31).toUInt32).toInt32) &&& (255 : Int32)).toUInt32.toUInt16.toUInt32.toInt32)), .val (.int s0_168), .unset, .unset, .unset, .unset, .unset, .unset, .unset] [(.int s0_190)])) := by
                    intro s0_190 hb190 TJ190 lJ190 XJ190 eJ190 NJ190
                    show GlS _ _ _ _ _ _ _ _ _ (Kv (some (.int (if (((p6.toUInt32 >>> ((7 : Int32) &&& 31).toUInt32).toInt32) &&& (3 : Int32)) = (0 : Int32) then (if ((p6 &&& (3 : Int32)) % (3 : Int32)) = s0_43 then (if ((p6 &&& (3 : Int32)) % (3 : Int32)) < (1 : Int32) then (b0_267 p1 p2 p5 p6 s0_43 s0_113 s0_125 s0_168 s0_190) else (if ((p5 &&& (255 : Int32)).toUInt32.toUInt16.toUInt32.toInt32) = s0_168 then (b0_267 p1 p2 p5 p6 s0_43 s0_113 s0_125 s0_168 s0_190) else (b0_284 p1 p2 p5 p6 s0_43 s0_113 s0_125 s0_168 s0_190))) else (b0_284 p1 p2 p5 p6 s0_43 s0_113 s0_125 s0_168 s0_190)) else (if (((p6.toUInt32 >>> ((7 : Int32) &&& 31).toUInt32).toInt32) &&& (3 : Int32)) = (1 : Int32) then (if b7tn_0 = (0 : Int32) then (b0_369x2 (1 : Int32)) else (b0_369x2 (0 : Int32))) else (if (((p6.toUInt32 >>> ((7 : Int32) &&& 31).toUInt32).toInt32) &&& (3 : Int32)) = (2 : Int32) then (if b7ts_0 = (0 : Int32) then (b0_369x3 (1 : Int32)) else (b0_369x3 (0 : Int32))) else (if (b7tw_0 p1 p2 p1 p2 (own_cs ((p6 &&& (3 : Int32)) % (3 : Int32)) (nar .char ((p5 &&& (255 : Int32)).toUInt32.toUInt16.toUInt32.toInt32)) (nar .char ((((p5.toUInt32 >>> ((8 : Int32) &&& 31).toUInt32).toInt32) &&& (255 : Int32)).toUInt32.toUInt16.toUInt32.toInt32))) (own_cs ((p6 &&& (3 : Int32)) % (3 : Int32)) (nar .char ((p5 &&& (255 : Int32)).toUInt32.toUInt16.toUInt32.toInt32)) (nar .char ((((p5.toUInt32 >>> ((8 : Int32) &&& 31).toUInt32).toInt32) &&& (255 : Int32)).toUInt32.toUInt16.toUInt32.toInt32)))) = (1 : Int32) then (b0_369x4 (1 : Int32)) else (b0_369x4 (0 : Int32)))))))) _) _
                    refine goS (fun t k => XS.istore XJ190.here hx rfl (hb hby at_190) rfl (l' := #[.val (.int p1), .val (.int p2), .val (.int p3), .val (.int p4), .val (.int p5), .val (.int p6), .val (.int ((p6 &&& (3 : Int32)) % (3 : Int32))), .val (.int s0_23), .val (.int s0_43), .val (.int s0_59), .val (.int s0_75), .val (.int s0_92), .val (.int (((p6.toUInt32 >>> ((7 : Int32) &&& 31).toUInt32).toInt32) &&& (3 : Int32))), .val (.int s0_113), .val (.int s0_125), .val (.int ((p5 &&& (255 : Int32)).toUInt32.toUInt16.toUInt32.toInt32)), .val (.int ((((p5.toUInt32 >>> ((8 : Int32) &&& 31).toUInt32).toInt32) &&& (255 : Int32)).toUInt32.toUInt16.toUInt32.toInt32)), .val (.int s0_168), .val (.int s0_190), .unset, .unset, .unset, .unset, .unset, .unset]) rfl k) ?_
                    show GlS _ _ _ _ _ _ _ _ _ _ (TJ190.setTop (mkF m 192 #[.val (.int p1), .val (.int p2), .val (.int p3), .val (.int p4), .val (.int p5), .val (.int p6), .val (.int ((p6 &&& (3 : Int32)) % (3 : Int32))), .val (.int s0_23), .val (.int s0_43), .val (.int s0_59), .val (.int s0_75), .val (.int s0_92), .val (.int (((p6.toUInt32 >>> ((7 : Int32) &&& 31).toUInt32).toInt32) &&& (3 : Int32))), .val (.int s0_113), .val (.int s0_125), .val (.int ((p5 &&& (255 : Int32)).toUInt32.toUInt16.toUInt32.toInt32)), .val (.int ((((p5.toUInt32 >>> ((8 : Int32) &&& 31).toUInt32).toInt32) &&& (255 : Int32)).toUInt32.toUInt16.toUInt32.toInt32)), .val (.int s0_168), .val (.int s0_190), .unset, .unset, .unset, .unset, .unset, .unset] []))
                    refine goS (fun t k => XS.iload XJ190.here hx rfl (hb hby at_192) rfl  k) ?_
                    show GlS _ _ _ _ _ _ _ _ _ _ (TJ190.setTop (mkF m 194 #[.val (.int p1), .val (.int p2), .val (.int p3), .val (.int p4), .val (.int p5), .val (.int p6), .val (.int ((p6 &&& (3 : Int32)) % (3 : Int32))), .val (.int s0_23), .val (.int s0_43), .val (.int s0_59), .val (.int s0_75), .val (.int s0_92), .val (.int (((p6.toUInt32 >>> ((7 : Int32) &&& 31).toUInt32).toInt32) &&& (3 : Int32))), .val (.int s0_113), .val (.int s0_125), .val (.int ((p5 &&& (255 : Int32)).toUInt32.toUInt16.toUInt32.toInt32)), .val (.int ((((p5.toUInt32 >>> ((8 : Int32) &&& 31).toUInt32).toInt32) &&& (255 : Int32)).toUInt32.toUInt16.toUInt32.toInt32)), .val (.int s0_168), .val (.int s0_190), .unset, .unset, .unset, .unset, .unset, .unset] [(.int ((p6 &&& (3 : Int32)) % (3 : Int32)))]))
                    refine goS (fun t k => XS.iload XJ190.here hx rfl (hb hby at_194) rfl  k) ?_
                    show GlS _ _ _ _ _ _ _ _ _ _ (TJ190.setTop (mkF m 196 #[.val (.int p1), .val (.int p2), .val (.int p3), .val (.int p4), .val (.int p5), .val (.int p6), .val (.int ((p6 &&& (3 : Int32)) % (3 : Int32))), .val (.int s0_23), .val (.int s0_43), .val (.int s0_59), .val (.int s0_75), .val (.int s0_92), .val (.int (((p6.toUInt32 >>> ((7 : Int32) &&& 31).toUInt32).toInt32) &&& (3 : Int32))), .val (.int s0_113), .val (.int s0_125), .val (.int ((p5 &&& (255 : Int32)).toUInt32.toUInt16.toUInt32.toInt32)), .val (.int ((((p5.toUInt32 >>> ((8 : Int32) &&& 31).toUInt32).toInt32) &&& (255 : Int32)).toUInt32.toUInt16.toUInt32.toInt32)), .val (.int s0_168), .val (.int s0_190), .unset, .unset, .unset, .unset, .unset, .unset] [(.int ((p5 &&& (255 : Int32)).toUInt32.toUInt16.toUInt32.toInt32)), (.int ((p6 &&& (3 : Int32)) % (3 : Int32)))]))
                    refine goS (fun t k => XS.iload XJ190.here hx rfl (hb hby at_196) rfl  k) ?_
                    show GlS _ _ _ _ _ _ _ _ _ _ (TJ190.setTop (mkF m 198 #[.val (.int p1), .val (.int p2), .val (.int p3), .val (.int p4), .val (.int p5), .val (.int p6), .val (.int ((p6 &&& (3 : Int32)) % (3 : Int32))), .val (.int s0_23), .val (.int s0_43), .val (.int s0_59), .val (.int s0_75), .val (.int s0_92), .val (.int (((p6.toUInt32 >>> ((7 : Int32) &&& 31).toUInt32).toInt32) &&& (3 : Int32))), .val (.int s0_113), .val (.int s0_125), .val (.int ((p5 &&& (255 : Int32)).toUInt32.toUInt16.toUInt32.toInt32)), .val (.int ((((p5.toUInt32 >>> ((8 : Int32) &&& 31).toUInt32).toInt32) &&& (255 : Int32)).toUInt32.toUInt16.toUInt32.toInt32)), .val (.int s0_168), .val (.int s0_190), .unset, .unset, .unset, .unset, .unset, .unset] [(.int ((((p5.toUInt32 >>> ((8 : Int32) &&& 31).toUInt32).toInt32) &&& (255 : Int32)).toUInt32.toUInt16.toUInt32.toInt32)), (.int ((p5 &&& (255 : Int32)).toUInt32.toUInt16.toUInt32.toInt32)), (.int ((p6 &&& (3 : Int32)) % (3 : Int32)))]))
                    obtain ⟨_, _, ⟨T10, L10, k10, n10⟩, -, Xr10, hSr10, hgr10, ⟨Lc10, hQ10, l10, y10, z10, Cq10⟩, st10⟩ := callSS XJ190 hx (y := (⟨"com/example/tercet/tercet/SyntaxWarningEqualsPinLaw", "str", "(ICC)Ljava/lang/String;"⟩ : MethodName)) hown (mvT hZ (hw _ (List.mem_of_getElem? (i := 0) rfl))) (mvT hZ (hw _ (List.mem_of_getElem? (i := 1) rfl))) (mvT hZ (hw _ (List.mem_of_getElem? (i := 2) rfl))) (mvT hZ (hw _ (List.mem_of_getElem? (i := 3) rfl))) (by decide) (backOfSH (s := s) (W := 0) (rm1 l Z a0 hw [] ((p6 &&& (3 : Int32)) % (3 : Int32)) ((p5 &&& (255 : Int32)).toUInt32.toUInt16.toUInt32.toInt32) ((((p5.toUInt32 >>> ((8 : Int32) &&& 31).toUInt32).toInt32) &&& (255 : Int32)).toUInt32.toUInt16.toUInt32.toInt32) w_COMPACT_STRINGS h0 n0 Z0 S_COMPACT_STRINGS hcz (own_narb (own_chb _)) (own_narb (own_chb _))) hZ (hw _ (List.mem_of_getElem? (i := 3) rfl)) (hw _ (List.mem_of_getElem? (i := 2) rfl)) (by decide) (by decide) hEL C0.1) (g := (mkF m 198 #[.val (.int p1), .val (.int p2), .val (.int p3), .val (.int p4), .val (.int p5), .val (.int p6), .val (.int ((p6 &&& (3 : Int32)) % (3 : Int32))), .val (.int s0_23), .val (.int s0_43), .val (.int s0_59), .val (.int s0_75), .val (.int s0_92), .val (.int (((p6.toUInt32 >>> ((7 : Int32) &&& 31).toUInt32).toInt32) &&& (3 : Int32))), .val (.int s0_113), .val (.int s0_125), .val (.int ((p5 &&& (255 : Int32)).toUInt32.toUInt16.toUInt32.toInt32)), .val (.int ((((p5.toUInt32 >>> ((8 : Int32) &&& 31).toUInt32).toInt32) &&& (255 : Int32)).toUInt32.toUInt16.toUInt32.toInt32)), .val (.int s0_168), .val (.int s0_190), .unset, .unset, .unset, .unset, .unset, .unset] [(.int ((((p5.toUInt32 >>> ((8 : Int32) &&& 31).toUInt32).toInt32) &&& (255 : Int32)).toUInt32.toUInt16.toUInt32.toInt32)), (.int ((p5 &&& (255 : Int32)).toUInt32.toUInt16.toUInt32.toInt32)), (.int ((p6 &&& (3 : Int32)) % (3 : Int32)))])) rfl (by rw [hml]; rfl) (argsL := [(.int ((p6 &&& (3 : Int32)) % (3 : Int32))), (.int ((p5 &&& (255 : Int32)).toUInt32.toUInt16.toUInt32.toInt32)), (.int ((((p5.toUInt32 >>> ((8 : Int32) &&& 31).toUInt32).toInt32) &&& (255 : Int32)).toUInt32.toUInt16.toUInt32.toInt32))]) (rest := []) (lenOf pd_4 rfl) rfl (by show 2 * 0 + _ ≤ _; exact Nat.le_of_eq rfl) (hb hby at_198) (fun _ _ => ⟨rfl, eJ190, (by decide : 0 + 6 ≤ _), (by decide : 0 + 12 ≤ _)⟩)
                    dsimp only [Pt.U, Pt.locs, Pt.cells, Pt.slots] at Xr10 hSr10 hgr10 l10 y10 z10 st10 hQ10 Cq10
                    subst l10 y10 z10
                    obtain ⟨X10, hS10, hZ10, hown10⟩ := rebS hS0 (own_hk eJ190 hk0) Xr10 hSr10 hgr10 hZ hown
                    have X10 : Stand p l e room_1 (s.setVm T10.vm) m #[(.int p1), (.int p2), (.int p3), (.int p4), (.int p5), (.int p6)] below meth c T10 _ 6 12 := X10
                    obtain ⟨⟨x10, rfl, K10q, so10, Ts10⟩, N10q⟩ := hQ10
                    obtain ⟨h10, e10⟩ : ∃ z, T10.heap = z := ⟨_, rfl⟩
                    rw [e10] at K10q Ts10
                    have K10 : Keep h0 h10 [] := (Keep.refl h0 []).trans K10q all0
                    have Ex10 := own_str.exa Ts10
                    have N10 := Fr.app NJ190 N10q
                    refine goS (fun t k => st10.trans k) ?_
                    rw [e10] at Cq10
                    have C10 := C0.trans Cq10
                    have hk10 : T10.heap.size ≤ h10.size := by rw [e10]; exact Nat.le_refl _
                    show GlS _ _ _ _ _ _ _ _ _ _ (T10.setTop (mkF m 201 #[.val (.int p1), .val (.int p2), .val (.int p3), .val (.int p4), .val (.int p5), .val (.int p6), .val (.int ((p6 &&& (3 : Int32)) % (3 : Int32))), .val (.int s0_23), .val (.int s0_43), .val (.int s0_59), .val (.int s0_75), .val (.int s0_92), .val (.int (((p6.toUInt32 >>> ((7 : Int32) &&& 31).toUInt32).toInt32) &&& (3 : Int32))), .val (.int s0_113), .val (.int s0_125), .val (.int ((p5 &&& (255 : Int32)).toUInt32.toUInt16.toUInt32.toInt32)), .val (.int ((((p5.toUInt32 >>> ((8 : Int32) &&& 31).toUInt32).toInt32) &&& (255 : Int32)).toUInt32.toUInt16.toUInt32.toInt32)), .val (.int s0_168), .val (.int s0_190), .unset, .unset, .unset, .unset, .unset, .unset] [(.ref x10)]))
                    refine goS (fun t k => XS.astore X10.here hx rfl (hb hby at_201) rfl rfl (l' := #[.val (.int p1), .val (.int p2), .val (.int p3), .val (.int p4), .val (.int p5), .val (.int p6), .val (.int ((p6 &&& (3 : Int32)) % (3 : Int32))), .val (.int s0_23), .val (.int s0_43), .val (.int s0_59), .val (.int s0_75), .val (.int s0_92), .val (.int (((p6.toUInt32 >>> ((7 : Int32) &&& 31).toUInt32).toInt32) &&& (3 : Int32))), .val (.int s0_113), .val (.int s0_125), .val (.int ((p5 &&& (255 : Int32)).toUInt32.toUInt16.toUInt32.toInt32)), .val (.int ((((p5.toUInt32 >>> ((8 : Int32) &&& 31).toUInt32).toInt32) &&& (255 : Int32)).toUInt32.toUInt16.toUInt32.toInt32)), .val (.int s0_168), .val (.int s0_190), .val (.ref x10), .unset, .unset, .unset, .unset, .unset]) rfl k) ?_
                    show GlS _ _ _ _ _ _ _ _ _ _ (T10.setTop (mkF m 203 #[.val (.int p1), .val (.int p2), .val (.int p3), .val (.int p4), .val (.int p5), .val (.int p6), .val (.int ((p6 &&& (3 : Int32)) % (3 : Int32))), .val (.int s0_23), .val (.int s0_43), .val (.int s0_59), .val (.int s0_75), .val (.int s0_92), .val (.int (((p6.toUInt32 >>> ((7 : Int32) &&& 31).toUInt32).toInt32) &&& (3 : Int32))), .val (.int s0_113), .val (.int s0_125), .val (.int ((p5 &&& (255 : Int32)).toUInt32.toUInt16.toUInt32.toInt32)), .val (.int ((((p5.toUInt32 >>> ((8 : Int32) &&& 31).toUInt32).toInt32) &&& (255 : Int32)).toUInt32.toUInt16.toUInt32.toInt32)), .val (.int s0_168), .val (.int s0_190), .val (.ref x10), .unset, .unset, .unset, .unset, .unset] []))
                    refine goS (fun t k => XS.iload X10.here hx rfl (hb hby at_203) rfl  k) ?_
                    show GlS _ _ _ _ _ _ _ _ _ _ (T10.setTop (mkF m 205 #[.val (.int p1), .val (.int p2), .val (.int p3), .val (.int p4), .val (.int p5), .val (.int p6), .val (.int ((p6 &&& (3 : Int32)) % (3 : Int32))), .val (.int s0_23), .val (.int s0_43), .val (.int s0_59), .val (.int s0_75), .val (.int s0_92), .val (.int (((p6.toUInt32 >>> ((7 : Int32) &&& 31).toUInt32).toInt32) &&& (3 : Int32))), .val (.int s0_113), .val (.int s0_125), .val (.int ((p5 &&& (255 : Int32)).toUInt32.toUInt16.toUInt32.toInt32)), .val (.int ((((p5.toUInt32 >>> ((8 : Int32) &&& 31).toUInt32).toInt32) &&& (255 : Int32)).toUInt32.toUInt16.toUInt32.toInt32)), .val (.int s0_168), .val (.int s0_190), .val (.ref x10), .unset, .unset, .unset, .unset, .unset] [(.int s0_43)]))
                    refine goS (fun t k => XS.iload X10.here hx rfl (hb hby at_205) rfl  k) ?_
                    show GlS _ _ _ _ _ _ _ _ _ _ (T10.setTop (mkF m 207 #[.val (.int p1), .val (.int p2), .val (.int p3), .val (.int p4), .val (.int p5), .val (.int p6), .val (.int ((p6 &&& (3 : Int32)) % (3 : Int32))), .val (.int s0_23), .val (.int s0_43), .val (.int s0_59), .val (.int s0_75), .val (.int s0_92), .val (.int (((p6.toUInt32 >>> ((7 : Int32) &&& 31).toUInt32).toInt32) &&& (3 : Int32))), .val (.int s0_113), .val (.int s0_125), .val (.int ((p5 &&& (255 : Int32)).toUInt32.toUInt16.toUInt32.toInt32)), .val (.int ((((p5.toUInt32 >>> ((8 : Int32) &&& 31).toUInt32).toInt32) &&& (255 : Int32)).toUInt32.toUInt16.toUInt32.toInt32)), .val (.int s0_168), .val (.int s0_190), .val (.ref x10), .unset, .unset, .unset, .unset, .unset] [(.int s0_168), (.int s0_43)]))
                    refine goS (fun t k => XS.iload X10.here hx rfl (hb hby at_207) rfl  k) ?_
                    show GlS _ _ _ _ _ _ _ _ _ _ (T10.setTop (mkF m 209 #[.val (.int p1), .val (.int p2), .val (.int p3), .val (.int p4), .val (.int p5), .val (.int p6), .val (.int ((p6 &&& (3 : Int32)) % (3 : Int32))), .val (.int s0_23), .val (.int s0_43), .val (.int s0_59), .val (.int s0_75), .val (.int s0_92), .val (.int (((p6.toUInt32 >>> ((7 : Int32) &&& 31).toUInt32).toInt32) &&& (3 : Int32))), .val (.int s0_113), .val (.int s0_125), .val (.int ((p5 &&& (255 : Int32)).toUInt32.toUInt16.toUInt32.toInt32)), .val (.int ((((p5.toUInt32 >>> ((8 : Int32) &&& 31).toUInt32).toInt32) &&& (255 : Int32)).toUInt32.toUInt16.toUInt32.toInt32)), .val (.int s0_168), .val (.int s0_190), .val (.ref x10), .unset, .unset, .unset, .unset, .unset] [(.int s0_190), (.int s0_168), (.int s0_43)]))
                    obtain ⟨_, _, ⟨T11, L11, k11, n11⟩, -, Xr11, hSr11, hgr11, ⟨Lc11, hQ11, l11, y11, z11, Cq11⟩, st11⟩ := callSS X10 hx (y := (⟨"com/example/tercet/tercet/SyntaxWarningEqualsPinLaw", "str", "(ICC)Ljava/lang/String;"⟩ : MethodName)) hown10 (mvT hZ10 (hw _ (List.mem_of_getElem? (i := 0) rfl))) (mvT hZ10 (hw _ (List.mem_of_getElem? (i := 1) rfl))) (mvT hZ10 (hw _ (List.mem_of_getElem? (i := 2) rfl))) (mvT hZ10 (hw _ (List.mem_of_getElem? (i := 3) rfl))) (by decide) (backOfSH (s := s) (W := 0) (rm1 l Z a0 hw [] s0_43 s0_168 s0_190 w_COMPACT_STRINGS h10 n0 (Nat.le_trans Z0 K10q.1) (sta_keep0 S_COMPACT_STRINGS K10q) hcz (own_narb hb168) (own_narb hb190)) hZ10 (hw _ (List.mem_of_getElem? (i := 3) rfl)) (hw _ (List.mem_of_getElem? (i := 2) rfl)) (by decide) (by decide) hEL C10.1) (g := (mkF m 209 #[.val (.int p1), .val (.int p2), .val (.int p3), .val (.int p4), .val (.int p5), .val (.int p6), .val (.int ((p6 &&& (3 : Int32)) % (3 : Int32))), .val (.int s0_23), .val (.int s0_43), .val (.int s0_59), .val (.int s0_75), .val (.int s0_92), .val (.int (((p6.toUInt32 >>> ((7 : Int32) &&& 31).toUInt32).toInt32) &&& (3 : Int32))), .val (.int s0_113), .val (.int s0_125), .val (.int ((p5 &&& (255 : Int32)).toUInt32.toUInt16.toUInt32.toInt32)), .val (.int ((((p5.toUInt32 >>> ((8 : Int32) &&& 31).toUInt32).toInt32) &&& (255 : Int32)).toUInt32.toUInt16.toUInt32.toInt32)), .val (.int s0_168), .val (.int s0_190), .val (.ref x10), .unset, .unset, .unset, .unset, .unset] [(.int s0_190), (.int s0_168), (.int s0_43)])) rfl (by rw [hml]; rfl) (argsL := [(.int s0_43), (.int s0_168), (.int s0_190)]) (rest := []) (lenOf pd_4 rfl) rfl (by show 2 * 0 + _ ≤ _; exact Nat.le_of_eq rfl) (hb hby at_209) (fun _ _ => ⟨rfl, e10, (by decide : 6 + 6 ≤ _), (by decide : 12 + 12 ≤ _)⟩)
                    dsimp only [Pt.U, Pt.locs, Pt.cells, Pt.slots] at Xr11 hSr11 hgr11 l11 y11 z11 st11 hQ11 Cq11
                    subst l11 y11 z11
                    obtain ⟨X11, hS11, hZ11, hown11⟩ := rebS hS10 (own_hk e10 hk10) Xr11 hSr11 hgr11 hZ10 hown10
                    have X11 : Stand p l e room_1 (s.setVm T11.vm) m #[(.int p1), (.int p2), (.int p3), (.int p4), (.int p5), (.int p6)] below meth c T11 _ 12 24 := X11
                    obtain ⟨⟨x11, rfl, K11q, so11, Ts11⟩, N11q⟩ := hQ11
                    obtain ⟨h11, e11⟩ : ∃ z, T11.heap = z := ⟨_, rfl⟩
                    rw [e11] at K11q Ts11
                    have K11 : Keep h0 h11 [] := K10.trans K11q all0
                    have Ex11 := own_str.exa Ts11
                    have N11 := Fr.app N10 N11q
                    refine goS (fun t k => st11.trans k) ?_
                    have ts12 := own_str.keep0 Ts10 K11q
                    rw [e11] at Cq11
                    have C11 := C10.trans Cq11
                    have hk11 : T11.heap.size ≤ h11.size := by rw [e11]; exact Nat.le_refl _
                    show GlS _ _ _ _ _ _ _ _ _ _ (T11.setTop (mkF m 212 #[.val (.int p1), .val (.int p2), .val (.int p3), .val (.int p4), .val (.int p5), .val (.int p6), .val (.int ((p6 &&& (3 : Int32)) % (3 : Int32))), .val (.int s0_23), .val (.int s0_43), .val (.int s0_59), .val (.int s0_75), .val (.int s0_92), .val (.int (((p6.toUInt32 >>> ((7 : Int32) &&& 31).toUInt32).toInt32) &&& (3 : Int32))), .val (.int s0_113), .val (.int s0_125), .val (.int ((p5 &&& (255 : Int32)).toUInt32.toUInt16.toUInt32.toInt32)), .val (.int ((((p5.toUInt32 >>> ((8 : Int32) &&& 31).toUInt32).toInt32) &&& (255 : Int32)).toUInt32.toUInt16.toUInt32.toInt32)), .val (.int s0_168), .val (.int s0_190), .val (.ref x10), .unset, .unset, .unset, .unset, .unset] [(.ref x11)]))
                    refine goS (fun t k => XS.astore X11.here hx rfl (hb hby at_212) rfl rfl (l' := #[.val (.int p1), .val (.int p2), .val (.int p3), .val (.int p4), .val (.int p5), .val (.int p6), .val (.int ((p6 &&& (3 : Int32)) % (3 : Int32))), .val (.int s0_23), .val (.int s0_43), .val (.int s0_59), .val (.int s0_75), .val (.int s0_92), .val (.int (((p6.toUInt32 >>> ((7 : Int32) &&& 31).toUInt32).toInt32) &&& (3 : Int32))), .val (.int s0_113), .val (.int s0_125), .val (.int ((p5 &&& (255 : Int32)).toUInt32.toUInt16.toUInt32.toInt32)), .val (.int ((((p5.toUInt32 >>> ((8 : Int32) &&& 31).toUInt32).toInt32) &&& (255 : Int32)).toUInt32.toUInt16.toUInt32.toInt32)), .val (.int s0_168), .val (.int s0_190), .val (.ref x10), .val (.ref x11), .unset, .unset, .unset, .unset]) rfl k) ?_
                    show GlS _ _ _ _ _ _ _ _ _ _ (T11.setTop (mkF m 214 #[.val (.int p1), .val (.int p2), .val (.int p3), .val (.int p4), .val (.int p5), .val (.int p6), .val (.int ((p6 &&& (3 : Int32)) % (3 : Int32))), .val (.int s0_23), .val (.int s0_43), .val (.int s0_59), .val (.int s0_75), .val (.int s0_92), .val (.int (((p6.toUInt32 >>> ((7 : Int32) &&& 31).toUInt32).toInt32) &&& (3 : Int32))), .val (.int s0_113), .val (.int s0_125), .val (.int ((p5 &&& (255 : Int32)).toUInt32.toUInt16.toUInt32.toInt32)), .val (.int ((((p5.toUInt32 >>> ((8 : Int32) &&& 31).toUInt32).toInt32) &&& (255 : Int32)).toUInt32.toUInt16.toUInt32.toInt32)), .val (.int s0_168), .val (.int s0_190), .val (.ref x10), .val (.ref x11), .unset, .unset, .unset, .unset] []))
                    obtain ⟨T13, h13, X13, e13, E13, A13, D13, -, st13⟩ := newO X11 hx hZ11 hown11 (hw _ (List.mem_of_getElem? (i := 26) rfl)) (hw _ (List.mem_of_getElem? (i := 27) rfl)) (hw _ (List.mem_of_getElem? (i := 28) rfl)) e11 (g := (mkF m 214 #[.val (.int p1), .val (.int p2), .val (.int p3), .val (.int p4), .val (.int p5), .val (.int p6), .val (.int ((p6 &&& (3 : Int32)) % (3 : Int32))), .val (.int s0_23), .val (.int s0_43), .val (.int s0_59), .val (.int s0_75), .val (.int s0_92), .val (.int (((p6.toUInt32 >>> ((7 : Int32) &&& 31).toUInt32).toInt32) &&& (3 : Int32))), .val (.int s0_113), .val (.int s0_125), .val (.int ((p5 &&& (255 : Int32)).toUInt32.toUInt16.toUInt32.toInt32)), .val (.int ((((p5.toUInt32 >>> ((8 : Int32) &&& 31).toUInt32).toInt32) &&& (255 : Int32)).toUInt32.toUInt16.toUInt32.toInt32)), .val (.int s0_168), .val (.int s0_190), .val (.ref x10), .val (.ref x11), .unset, .unset, .unset, .unset] [])) rfl (hb hby at_214) (by decide) (by decide)
                    obtain ⟨o13, gq13⟩ : ∃ z, z = h11.size := ⟨_, rfl⟩
                    rw [← gq13] at A13 D13 st13
                    have g_o13 : n0 ≤ o13 := Nat.le_trans (Nat.le_trans (Nat.le_trans Z0 K10q.1) K11q.1) (Nat.le_of_eq gq13.symm)
                    have ne_x10_o13 : x10 ≠ o13 := Nat.ne_of_lt (Nat.lt_of_lt_of_le (Ex10.keep K11q).lt (Nat.le_of_eq gq13.symm))
                    have ne_x11_o13 : x11 ≠ o13 := Nat.ne_of_lt (Nat.lt_of_lt_of_le Ex11.lt (Nat.le_of_eq gq13.symm))
                    have F_line_o13 : Fld Z h13 o13 "com/example/tercet/tercet/SyntaxWarning" "line" "I" (.int (0 : Int32)) := D13 (Or.inr (hw _ (List.mem_of_getElem? (i := 34) rfl))) (ty := .int) (by decide)
                    have F_column_o13 : Fld Z h13 o13 "com/example/tercet/tercet/SyntaxWarning" "column" "I" (.int (0 : Int32)) := D13 (Or.inr (hw _ (List.mem_of_getElem? (i := 36) rfl))) (ty := .int) (by decide)
                    have F_message_o13 : Fld Z h13 o13 "com/example/tercet/tercet/SyntaxWarning" "message" "Ljava/lang/String;" .null := D13 (Or.inr (hw _ (List.mem_of_getElem? (i := 44) rfl))) (ty := (.object "java/lang/String")) (by decide)
                    have K13 : Keep h0 h13 [] := K11.ext E13
                    have sz_o13 : h0.size ≤ o13 := Nat.le_trans K11.1 (Nat.le_of_eq gq13.symm)
                    refine goS (fun t k => st13 _ k) ?_
                    have C13 := C11.trans (CHr.ext E13 C11.1)
                    have hk13 := Nat.le_trans hk11 E13.1
                    show GlS _ _ _ _ _ _ _ _ _ _ (T13.setTop (mkF m 217 #[.val (.int p1), .val (.int p2), .val (.int p3), .val (.int p4), .val (.int p5), .val (.int p6), .val (.int ((p6 &&& (3 : Int32)) % (3 : Int32))), .val (.int s0_23), .val (.int s0_43), .val (.int s0_59), .val (.int s0_75), .val (.int s0_92), .val (.int (((p6.toUInt32 >>> ((7 : Int32) &&& 31).toUInt32).toInt32) &&& (3 : Int32))), .val (.int s0_113), .val (.int s0_125), .val (.int ((p5 &&& (255 : Int32)).toUInt32.toUInt16.toUInt32.toInt32)), .val (.int ((((p5.toUInt32 >>> ((8 : Int32) &&& 31).toUInt32).toInt32) &&& (255 : Int32)).toUInt32.toUInt16.toUInt32.toInt32)), .val (.int s0_168), .val (.int s0_190), .val (.ref x10), .val (.ref x11), .unset, .unset, .unset, .unset] [(.ref o13)]))
                    refine goS (fun t k => XS.dup X13.here hx rfl (hb hby at_217) rfl rfl k) ?_
                    show GlS _ _ _ _ _ _ _ _ _ _ (T13.setTop (mkF m 218 #[.val (.int p1), .val (.int p2), .val (.int p3), .val (.int p4), .val (.int p5), .val (.int p6), .val (.int ((p6 &&& (3 : Int32)) % (3 : Int32))), .val (.int s0_23), .val (.int s0_43), .val (.int s0_59), .val (.int s0_75), .val (.int s0_92), .val (.int (((p6.toUInt32 >>> ((7 : Int32) &&& 31).toUInt32).toInt32) &&& (3 : Int32))), .val (.int s0_113), .val (.int s0_125), .val (.int ((p5 &&& (255 : Int32)).toUInt32.toUInt16.toUInt32.toInt32)), .val (.int ((((p5.toUInt32 >>> ((8 : Int32) &&& 31).toUInt32).toInt32) &&& (255 : Int32)).toUInt32.toUInt16.toUInt32.toInt32)), .val (.int s0_168), .val (.int s0_190), .val (.ref x10), .val (.ref x11), .unset, .unset, .unset, .unset] [(.ref o13), (.ref o13)]))
                    refine goS (fun t k => XS.iloadN X13.here hx rfl (hb hby at_218) rfl  k) ?_
                    show GlS _ _ _ _ _ _ _ _ _ _ (T13.setTop (mkF m 219 #[.val (.int p1), .val (.int p2), .val (.int p3), .val (.int p4), .val (.int p5), .val (.int p6), .val (.int ((p6 &&& (3 : Int32)) % (3 : Int32))), .val (.int s0_23), .val (.int s0_43), .val (.int s0_59), .val (.int s0_75), .val (.int s0_92), .val (.int (((p6.toUInt32 >>> ((7 : Int32) &&& 31).toUInt32).toInt32) &&& (3 : Int32))), .val (.int s0_113), .val (.int s0_125), .val (.int ((p5 &&& (255 : Int32)).toUInt32.toUInt16.toUInt32.toInt32)), .val (.int ((((p5.toUInt32 >>> ((8 : Int32) &&& 31).toUInt32).toInt32) &&& (255 : Int32)).toUInt32.toUInt16.toUInt32.toInt32)), .val (.int s0_168), .val (.int s0_190), .val (.ref x10), .val (.ref x11), .unset, .unset, .unset, .unset] [(.int p1), (.ref o13), (.ref o13)]))
                    refine goS (fun t k => XS.iloadN X13.here hx rfl (hb hby at_219) rfl  k) ?_
                    show GlS _ _ _ _ _ _ _ _ _ _ (T13.setTop (mkF m 220 #[.val (.int p1), .val (.int p2), .val (.int p3), .val (.int p4), .val (.int p5), .val (.int p6), .val (.int ((p6 &&& (3 : Int32)) % (3 : Int32))), .val (.int s0_23), .val (.int s0_43), .val (.int s0_59), .val (.int s0_75), .val (.int s0_92), .val (.int (((p6.toUInt32 >>> ((7 : Int32) &&& 31).toUInt32).toInt32) &&& (3 : Int32))), .val (.int s0_113), .val (.int s0_125), .val (.int ((p5 &&& (255 : Int32)).toUInt32.toUInt16.toUInt32.toInt32)), .val (.int ((((p5.toUInt32 >>> ((8 : Int32) &&& 31).toUInt32).toInt32) &&& (255 : Int32)).toUInt32.toUInt16.toUInt32.toInt32)), .val (.int s0_168), .val (.int s0_190), .val (.ref x10), .val (.ref x11), .unset, .unset, .unset, .unset] [(.int p2), (.int p1), (.ref o13), (.ref o13)]))
                    refine goS (fun t k => XS.aload X13.here hx rfl (hb hby at_220) rfl rfl k) ?_
                    show GlS _ _ _ _ _ _ _ _ _ _ (T13.setTop (mkF m 222 #[.val (.int p1), .val (.int p2), .val (.int p3), .val (.int p4), .val (.int p5), .val (.int p6), .val (.int ((p6 &&& (3 : Int32)) % (3 : Int32))), .val (.int s0_23), .val (.int s0_43), .val (.int s0_59), .val (.int s0_75), .val (.int s0_92), .val (.int (((p6.toUInt32 >>> ((7 : Int32) &&& 31).toUInt32).toInt32) &&& (3 : Int32))), .val (.int s0_113), .val (.int s0_125), .val (.int ((p5 &&& (255 : Int32)).toUInt32.toUInt16.toUInt32.toInt32)), .val (.int ((((p5.toUInt32 >>> ((8 : Int32) &&& 31).toUInt32).toInt32) &&& (255 : Int32)).toUInt32.toUInt16.toUInt32.toInt32)), .val (.int s0_168), .val (.int s0_190), .val (.ref x10), .val (.ref x11), .unset, .unset, .unset, .unset] [(.ref x10), (.int p2), (.int p1), (.ref o13), (.ref o13)]))
                    obtain ⟨_, _, ⟨T14, L14, k14, n14⟩, -, Xr14, hSr14, hgr14, ⟨Lc14, hQ14, l14, y14, z14, Cq14⟩, st14⟩ := X13.specialBackS hx (y := (⟨"com/example/tercet/tercet/SyntaxWarning", "<init>", "(IILjava/lang/String;)V"⟩ : MethodName)) rfl hown11 (mvT hZ11 (hw _ (List.mem_of_getElem? (i := 29) rfl))) (mvT hZ11 (hw _ (List.mem_of_getElem? (i := 30) rfl))) (mvT hZ11 (hw _ (List.mem_of_getElem? (i := 31) rfl))) (by decide) (backOfSH (s := s) (W := 1) (rm5 l Z a0 hw [] o13 p1 p2 x10 ((.int (0 : Int32))) ((.int (0 : Int32))) (.null) h13 n0 (Nat.le_trans (Nat.le_trans (Nat.le_trans Z0 K10q.1) K11q.1) E13.1) A13 g_o13 F_line_o13 F_column_o13 F_message_o13 ((Ex10.keep K11q).ext E13)) hZ11 (hw _ (List.mem_of_getElem? (i := 31) rfl)) (hw _ (List.mem_of_getElem? (i := 28) rfl)) (by decide) (by decide) hEL C13.1) (g := (mkF m 222 #[.val (.int p1), .val (.int p2), .val (.int p3), .val (.int p4), .val (.int p5), .val (.int p6), .val (.int ((p6 &&& (3 : Int32)) % (3 : Int32))), .val (.int s0_23), .val (.int s0_43), .val (.int s0_59), .val (.int s0_75), .val (.int s0_92), .val (.int (((p6.toUInt32 >>> ((7 : Int32) &&& 31).toUInt32).toInt32) &&& (3 : Int32))), .val (.int s0_113), .val (.int s0_125), .val (.int ((p5 &&& (255 : Int32)).toUInt32.toUInt16.toUInt32.toInt32)), .val (.int ((((p5.toUInt32 >>> ((8 : Int32) &&& 31).toUInt32).toInt32) &&& (255 : Int32)).toUInt32.toUInt16.toUInt32.toInt32)), .val (.int s0_168), .val (.int s0_190), .val (.ref x10), .val (.ref x11), .unset, .unset, .unset, .unset] [(.ref x10), (.int p2), (.int p1), (.ref o13), (.ref o13)])) rfl (by rw [hml]; rfl) (Steps.refl _) (a := o13) (argsL := [(.int p1), (.int p2), (.ref x10)]) (rest := [(.ref o13)]) (lenOf pd_5 rfl) rfl (by show 2 * 0 + _ ≤ _; exact Nat.le_of_eq rfl) (hb hby at_222) (fun _ _ => ⟨rfl, e13, (by decide : 13 + 2 ≤ _), (by decide : 27 + 32 ≤ _)⟩)
                    dsimp only [Pt.U, Pt.locs, Pt.cells, Pt.slots] at Xr14 hSr14 hgr14 l14 y14 z14 st14 hQ14 Cq14
                    subst l14 y14 z14
                    obtain ⟨X14, hS14, hZ14, hown14⟩ := rebS hS11 (own_hk e13 hk13) Xr14 hSr14 hgr14 hZ11 hown11
                    have X14 : Stand p l e room_1 (s.setVm T14.vm) m #[(.int p1), (.int p2), (.int p3), (.int p4), (.int p5), (.int p6)] below meth c T14 _ 15 59 := X14
                    obtain ⟨⟨rfl, K14q, Ex14, Fq14_line, Fq14_column, Fq14_message⟩, N14q⟩ := hQ14
                    obtain ⟨h14, e14⟩ : ∃ z, T14.heap = z := ⟨_, rfl⟩
                    rw [e14] at K14q Ex14 Fq14_line Fq14_column Fq14_message
                    have K14 : Keep h0 h14 [] := K13.trans K14q (allS (Or.inr sz_o13) all0)
                    have N14 := Fr.app N11 N14q
                    refine goS (fun t k => st14.trans k) ?_
                    have ts15 := own_str.keep1 (Ts11.ext E13) K14q A13 (hw _ (List.mem_of_getElem? (i := 27) rfl))
                    have ts16 := own_str.keep1 (ts12.ext E13) K14q A13 (hw _ (List.mem_of_getElem? (i := 27) rfl))
                    rw [e14] at Cq14
                    have C14 := C13.trans Cq14
                    have hk14 : T14.heap.size ≤ h14.size := by rw [e14]; exact Nat.le_refl _
                    show GlS _ _ _ _ _ _ _ _ _ _ (T14.setTop (mkF m 225 #[.val (.int p1), .val (.int p2), .val (.int p3), .val (.int p4), .val (.int p5), .val (.int p6), .val (.int ((p6 &&& (3 : Int32)) % (3 : Int32))), .val (.int s0_23), .val (.int s0_43), .val (.int s0_59), .val (.int s0_75), .val (.int s0_92), .val (.int (((p6.toUInt32 >>> ((7 : Int32) &&& 31).toUInt32).toInt32) &&& (3 : Int32))), .val (.int s0_113), .val (.int s0_125), .val (.int ((p5 &&& (255 : Int32)).toUInt32.toUInt16.toUInt32.toInt32)), .val (.int ((((p5.toUInt32 >>> ((8 : Int32) &&& 31).toUInt32).toInt32) &&& (255 : Int32)).toUInt32.toUInt16.toUInt32.toInt32)), .val (.int s0_168), .val (.int s0_190), .val (.ref x10), .val (.ref x11), .unset, .unset, .unset, .unset] [(.ref o13)]))
                    refine goS (fun t k => XS.astore X14.here hx rfl (hb hby at_225) rfl rfl (l' := #[.val (.int p1), .val (.int p2), .val (.int p3), .val (.int p4), .val (.int p5), .val (.int p6), .val (.int ((p6 &&& (3 : Int32)) % (3 : Int32))), .val (.int s0_23), .val (.int s0_43), .val (.int s0_59), .val (.int s0_75), .val (.int s0_92), .val (.int (((p6.toUInt32 >>> ((7 : Int32) &&& 31).toUInt32).toInt32) &&& (3 : Int32))), .val (.int s0_113), .val (.int s0_125), .val (.int ((p5 &&& (255 : Int32)).toUInt32.toUInt16.toUInt32.toInt32)), .val (.int ((((p5.toUInt32 >>> ((8 : Int32) &&& 31).toUInt32).toInt32) &&& (255 : Int32)).toUInt32.toUInt16.toUInt32.toInt32)), .val (.int s0_168), .val (.int s0_190), .val (.ref x10), .val (.ref x11), .val (.ref o13), .unset, .unset, .unset]) rfl k) ?_
                    show GlS _ _ _ _ _ _ _ _ _ _ (T14.setTop (mkF m 227 #[.val (.int p1), .val (.int p2), .val (.int p3), .val (.int p4), .val (.int p5), .val (.int p6), .val (.int ((p6 &&& (3 : Int32)) % (3 : Int32))), .val (.int s0_23), .val (.int s0_43), .val (.int s0_59), .val (.int s0_75), .val (.int s0_92), .val (.int (((p6.toUInt32 >>> ((7 : Int32) &&& 31).toUInt32).toInt32) &&& (3 : Int32))), .val (.int s0_113), .val (.int s0_125), .val (.int ((p5 &&& (255 : Int32)).toUInt32.toUInt16.toUInt32.toInt32)), .val (.int ((((p5.toUInt32 >>> ((8 : Int32) &&& 31).toUInt32).toInt32) &&& (255 : Int32)).toUInt32.toUInt16.toUInt32.toInt32)), .val (.int s0_168), .val (.int s0_190), .val (.ref x10), .val (.ref x11), .val (.ref o13), .unset, .unset, .unset] []))
                    refine goS (fun t k => XS.iload X14.here hx rfl (hb hby at_227) rfl  k) ?_
                    show GlS _ _ _ _ _ _ _ _ _ _ (T14.setTop (mkF m 229 #[.val (.int p1), .val (.int p2), .val (.int p3), .val (.int p4), .val (.int p5), .val (.int p6), .val (.int ((p6 &&& (3 : Int32)) % (3 : Int32))), .val (.int s0_23), .val (.int s0_43), .val (.int s0_59), .val (.int s0_75), .val (.int s0_92), .val (.int (((p6.toUInt32 >>> ((7 : Int32) &&& 31).toUInt32).toInt32) &&& (3 : Int32))), .val (.int s0_113), .val (.int s0_125), .val (.int ((p5 &&& (255 : Int32)).toUInt32.toUInt16.toUInt32.toInt32)), .val (.int ((((p5.toUInt32 >>> ((8 : Int32) &&& 31).toUInt32).toInt32) &&& (255 : Int32)).toUInt32.toUInt16.toUInt32.toInt32)), .val (.int s0_168), .val (.int s0_190), .val (.ref x10), .val (.ref x11), .val (.ref o13), .unset, .unset, .unset] [(.int (((p6.toUInt32 >>> ((7 : Int32) &&& 31).toUInt32).toInt32) &&& (3 : Int32)))]))
                    refine gIS (c := (((p6.toUInt32 >>> ((7 : Int32) &&& 31).toUInt32).toInt32) &&& (3 : Int32)) = (0 : Int32)) (fun hc229 => ?_) (fun hc229 => ?_)
                    · refine goS (fun t k => XS.ifNo X14.here hx rfl (hb hby at_229) rfl ((if0 _ _).trans (teq hc229).2) k) ?_
                      show GlS _ _ _ _ _ _ _ _ _ _ (T14.setTop (mkF m 232 #[.val (.int p1), .val (.int p2), .val (.int p3), .val (.int p4), .val (.int p5), .val (.int p6), .val (.int ((p6 &&& (3 : Int32)) % (3 : Int32))), .val (.int s0_23), .val (.int s0_43), .val (.int s0_59), .val (.int s0_75), .val (.int s0_92), .val (.int (((p6.toUInt32 >>> ((7 : Int32) &&& 31).toUInt32).toInt32) &&& (3 : Int32))), .val (.int s0_113), .val (.int s0_125), .val (.int ((p5 &&& (255 : Int32)).toUInt32.toUInt16.toUInt32.toInt32)), .val (.int ((((p5.toUInt32 >>> ((8 : Int32) &&& 31).toUInt32).toInt32) &&& (255 : Int32)).toUInt32.toUInt16.toUInt32.toInt32)), .val (.int s0_168), .val (.int s0_190), .val (.ref x10), .val (.ref x11), .val (.ref o13), .unset, .unset, .unset] []))
                      obtain ⟨T17, h17, X17, e17, E17, A17, D17, -, st17⟩ := newO X14 hx hZ14 hown14 (hw _ (List.mem_of_getElem? (i := 26) rfl)) (hw _ (List.mem_of_getElem? (i := 27) rfl)) (hw _ (List.mem_of_getElem? (i := 28) rfl)) e14 (g := (mkF m 232 #[.val (.int p1), .val (.int p2), .val (.int p3), .val (.int p4), .val (.int p5), .val (.int p6), .val (.int ((p6 &&& (3 : Int32)) % (3 : Int32))), .val (.int s0_23), .val (.int s0_43), .val (.int s0_59), .val (.int s0_75), .val (.int s0_92), .val (.int (((p6.toUInt32 >>> ((7 : Int32) &&& 31).toUInt32).toInt32) &&& (3 : Int32))), .val (.int s0_113), .val (.int s0_125), .val (.int ((p5 &&& (255 : Int32)).toUInt32.toUInt16.toUInt32.toInt32)), .val (.int ((((p5.toUInt32 >>> ((8 : Int32) &&& 31).toUInt32).toInt32) &&& (255 : Int32)).toUInt32.toUInt16.toUInt32.toInt32)), .val (.int s0_168), .val (.int s0_190), .val (.ref x10), .val (.ref x11), .val (.ref o13), .unset, .unset, .unset] [])) rfl (hb hby at_232) (by decide) (by decide)
                      obtain ⟨o17, gq17⟩ : ∃ z, z = h14.size := ⟨_, rfl⟩
                      rw [← gq17] at A17 D17 st17
                      have g_o17 : n0 ≤ o17 := Nat.le_trans (Nat.le_trans (Nat.le_trans (Nat.le_trans (Nat.le_trans Z0 K10q.1) K11q.1) E13.1) K14q.1) (Nat.le_of_eq gq17.symm)
                      have ne_x10_o17 : x10 ≠ o17 := Nat.ne_of_lt (Nat.lt_of_lt_of_le (((Ex10.keep K11q).ext E13).keep K14q).lt (Nat.le_of_eq gq17.symm))
                      have ne_x11_o17 : x11 ≠ o17 := Nat.ne_of_lt (Nat.lt_of_lt_of_le ((Ex11.ext E13).keep K14q).lt (Nat.le_of_eq gq17.symm))
                      have ne_o13_o17 : o13 ≠ o17 := Nat.ne_of_lt (Nat.lt_of_lt_of_le Ex14.lt (Nat.le_of_eq gq17.symm))
                      have F_line_o17 : Fld Z h17 o17 "com/example/tercet/tercet/SyntaxWarning" "line" "I" (.int (0 : Int32)) := D17 (Or.inr (hw _ (List.mem_of_getElem? (i := 34) rfl))) (ty := .int) (by decide)
                      have F_column_o17 : Fld Z h17 o17 "com/example/tercet/tercet/SyntaxWarning" "column" "I" (.int (0 : Int32)) := D17 (Or.inr (hw _ (List.mem_of_getElem? (i := 36) rfl))) (ty := .int) (by decide)
                      have F_message_o17 : Fld Z h17 o17 "com/example/tercet/tercet/SyntaxWarning" "message" "Ljava/lang/String;" .null := D17 (Or.inr (hw _ (List.mem_of_getElem? (i := 44) rfl))) (ty := (.object "java/lang/String")) (by decide)
                      have K17 : Keep h0 h17 [] := K14.ext E17
                      have sz_o17 : h0.size ≤ o17 := Nat.le_trans K14.1 (Nat.le_of_eq gq17.symm)
                      refine goS (fun t k => st17 _ k) ?_
                      have C17 := C14.trans (CHr.ext E17 C14.1)
                      have hk17 := Nat.le_trans hk14 E17.1
                      show GlS _ _ _ _ _ _ _ _ _ _ (T17.setTop (mkF m 235 #[.val (.int p1), .val (.int p2), .val (.int p3), .val (.int p4), .val (.int p5), .val (.int p6), .val (.int ((p6 &&& (3 : Int32)) % (3 : Int32))), .val (.int s0_23), .val (.int s0_43), .val (.int s0_59), .val (.int s0_75), .val (.int s0_92), .val (.int (((p6.toUInt32 >>> ((7 : Int32) &&& 31).toUInt32).toInt32) &&& (3 : Int32))), .val (.int s0_113), .val (.int s0_125), .val (.int ((p5 &&& (255 : Int32)).toUInt32.toUInt16.toUInt32.toInt32)), .val (.int ((((p5.toUInt32 >>> ((8 : Int32) &&& 31).toUInt32).toInt32) &&& (255 : Int32)).toUInt32.toUInt16.toUInt32.toInt32)), .val (.int s0_168), .val (.int s0_190), .val (.ref x10), .val (.ref x11), .val (.ref o13), .unset, .unset, .unset] [(.ref o17)]))
                      refine goS (fun t k => XS.dup X17.here hx rfl (hb hby at_235) rfl rfl k) ?_
                      show GlS _ _ _ _ _ _ _ _ _ _ (T17.setTop (mkF m 236 #[.val (.int p1), .val (.int p2), .val (.int p3), .val (.int p4), .val (.int p5), .val (.int p6), .val (.int ((p6 &&& (3 : Int32)) % (3 : Int32))), .val (.int s0_23), .val (.int s0_43), .val (.int s0_59), .val (.int s0_75), .val (.int s0_92), .val (.int (((p6.toUInt32 >>> ((7 : Int32) &&& 31).toUInt32).toInt32) &&& (3 : Int32))), .val (.int s0_113), .val (.int s0_125), .val (.int ((p5 &&& (255 : Int32)).toUInt32.toUInt16.toUInt32.toInt32)), .val (.int ((((p5.toUInt32 >>> ((8 : Int32) &&& 31).toUInt32).toInt32) &&& (255 : Int32)).toUInt32.toUInt16.toUInt32.toInt32)), .val (.int s0_168), .val (.int s0_190), .val (.ref x10), .val (.ref x11), .val (.ref o13), .unset, .unset, .unset] [(.ref o17), (.ref o17)]))
                      refine goS (fun t k => XS.iload X17.here hx rfl (hb hby at_236) rfl  k) ?_
                      show GlS _ _ _ _ _ _ _ _ _ _ (T17.setTop (mkF m 238 #[.val (.int p1), .val (.int p2), .val (.int p3), .val (.int p4), .val (.int p5), .val (.int p6), .val (.int ((p6 &&& (3 : Int32)) % (3 : Int32))), .val (.int s0_23), .val (.int s0_43), .val (.int s0_59), .val (.int s0_75), .val (.int s0_92), .val (.int (((p6.toUInt32 >>> ((7 : Int32) &&& 31).toUInt32).toInt32) &&& (3 : Int32))), .val (.int s0_113), .val (.int s0_125), .val (.int ((p5 &&& (255 : Int32)).toUInt32.toUInt16.toUInt32.toInt32)), .val (.int ((((p5.toUInt32 >>> ((8 : Int32) &&& 31).toUInt32).toInt32) &&& (255 : Int32)).toUInt32.toUInt16.toUInt32.toInt32)), .val (.int s0_168), .val (.int s0_190), .val (.ref x10), .val (.ref x11), .val (.ref o13), .unset, .unset, .unset] [(.int s0_113), (.ref o17), (.ref o17)]))
                      refine goS (fun t k => XS.iload X17.here hx rfl (hb hby at_238) rfl  k) ?_
                      show GlS _ _ _ _ _ _ _ _ _ _ (T17.setTop (mkF m 240 #[.val (.int p1), .val (.int p2), .val (.int p3), .val (.int p4), .val (.int p5), .val (.int p6), .val (.int ((p6 &&& (3 : Int32)) % (3 : Int32))), .val (.int s0_23), .val (.int s0_43), .val (.int s0_59), .val (.int s0_75), .val (.int s0_92), .val (.int (((p6.toUInt32 >>> ((7 : Int32) &&& 31).toUInt32).toInt32) &&& (3 : Int32))), .val (.int s0_113), .val (.int s0_125), .val (.int ((p5 &&& (255 : Int32)).toUInt32.toUInt16.toUInt32.toInt32)), .val (.int ((((p5.toUInt32 >>> ((8 : Int32) &&& 31).toUInt32).toInt32) &&& (255 : Int32)).toUInt32.toUInt16.toUInt32.toInt32)), .val (.int s0_168), .val (.int s0_190), .val (.ref x10), .val (.ref x11), .val (.ref o13), .unset, .unset, .unset] [(.int s0_125), (.int s0_113), (.ref o17), (.ref o17)]))
                      refine goS (fun t k => XS.aload X17.here hx rfl (hb hby at_240) rfl rfl k) ?_
                      show GlS _ _ _ _ _ _ _ _ _ _ (T17.setTop (mkF m 242 #[.val (.int p1), .val (.int p2), .val (.int p3), .val (.int p4), .val (.int p5), .val (.int p6), .val (.int ((p6 &&& (3 : Int32)) % (3 : Int32))), .val (.int s0_23), .val (.int s0_43), .val (.int s0_59), .val (.int s0_75), .val (.int s0_92), .val (.int (((p6.toUInt32 >>> ((7 : Int32) &&& 31).toUInt32).toInt32) &&& (3 : Int32))), .val (.int s0_113), .val (.int s0_125), .val (.int ((p5 &&& (255 : Int32)).toUInt32.toUInt16.toUInt32.toInt32)), .val (.int ((((p5.toUInt32 >>> ((8 : Int32) &&& 31).toUInt32).toInt32) &&& (255 : Int32)).toUInt32.toUInt16.toUInt32.toInt32)), .val (.int s0_168), .val (.int s0_190), .val (.ref x10), .val (.ref x11), .val (.ref o13), .unset, .unset, .unset] [(.ref x11), (.int s0_125), (.int s0_113), (.ref o17), (.ref o17)]))
                      obtain ⟨_, _, ⟨T18, L18, k18, n18⟩, -, Xr18, hSr18, hgr18, ⟨Lc18, hQ18, l18, y18, z18, Cq18⟩, st18⟩ := X17.specialBackS hx (y := (⟨"com/example/tercet/tercet/SyntaxWarning", "<init>", "(IILjava/lang/String;)V"⟩ : MethodName)) rfl hown14 (mvT hZ14 (hw _ (List.mem_of_getElem? (i := 29) rfl))) (mvT hZ14 (hw _ (List.mem_of_getElem? (i := 30) rfl))) (mvT hZ14 (hw _ (List.mem_of_getElem? (i := 31) rfl))) (by decide) (backOfSH (s := s) (W := 1) (rm5 l Z a0 hw [] o17 s0_113 s0_125 x11 ((.int (0 : Int32))) ((.int (0 : Int32))) (.null) h17 n0 (Nat.le_trans (Nat.le_trans (Nat.le_trans (Nat.le_trans (Nat.le_trans Z0 K10q.1) K11q.1) E13.1) K14q.1) E17.1) A17 g_o17 F_line_o17 F_column_o17 F_message_o17 (((Ex11.ext E13).keep K14q).ext E17)) hZ14 (hw _ (List.mem_of_getElem? (i := 31) rfl)) (hw _ (List.mem_of_getElem? (i := 28) rfl)) (by decide) (by decide) hEL C17.1) (g := (mkF m 242 #[.val (.int p1), .val (.int p2), .val (.int p3), .val (.int p4), .val (.int p5), .val (.int p6), .val (.int ((p6 &&& (3 : Int32)) % (3 : Int32))), .val (.int s0_23), .val (.int s0_43), .val (.int s0_59), .val (.int s0_75), .val (.int s0_92), .val (.int (((p6.toUInt32 >>> ((7 : Int32) &&& 31).toUInt32).toInt32) &&& (3 : Int32))), .val (.int s0_113), .val (.int s0_125), .val (.int ((p5 &&& (255 : Int32)).toUInt32.toUInt16.toUInt32.toInt32)), .val (.int ((((p5.toUInt32 >>> ((8 : Int32) &&& 31).toUInt32).toInt32) &&& (255 : Int32)).toUInt32.toUInt16.toUInt32.toInt32)), .val (.int s0_168), .val (.int s0_190), .val (.ref x10), .val (.ref x11), .val (.ref o13), .unset, .unset, .unset] [(.ref x11), (.int s0_125), (.int s0_113), (.ref o17), (.ref o17)])) rfl (by rw [hml]; rfl) (Steps.refl _) (a := o17) (argsL := [(.int s0_113), (.int s0_125), (.ref x11)]) (rest := [(.ref o17)]) (lenOf pd_5 rfl) rfl (by show 2 * 0 + _ ≤ _; exact Nat.le_of_eq rfl) (hb hby at_242) (fun _ _ => ⟨rfl, e17, (by decide : 16 + 2 ≤ _), (by decide : 62 + 32 ≤ _)⟩)
                      dsimp only [Pt.U, Pt.locs, Pt.cells, Pt.slots] at Xr18 hSr18 hgr18 l18 y18 z18 st18 hQ18 Cq18
                      subst l18 y18 z18
                      obtain ⟨X18, hS18, hZ18, hown18⟩ := rebS hS14 (own_hk e17 hk17) Xr18 hSr18 hgr18 hZ14 hown14
                      have X18 : Stand p l e room_1 (s.setVm T18.vm) m #[(.int p1), (.int p2), (.int p3), (.int p4), (.int p5), (.int p6)] below meth c T18 _ 18 94 := X18
                      obtain ⟨⟨rfl, K18q, Ex18, Fq18_line, Fq18_column, Fq18_message⟩, N18q⟩ := hQ18
                      obtain ⟨h18, e18⟩ : ∃ z, T18.heap = z := ⟨_, rfl⟩
                      rw [e18] at K18q Ex18 Fq18_line Fq18_column Fq18_message
                      have K18 : Keep h0 h18 [] := K17.trans K18q (allS (Or.inr sz_o17) all0)
                      have N18 := Fr.app N14 N18q
                      refine goS (fun t k => st18.trans k) ?_
                      have ts19 := own_str.keep1 (ts15.ext E17) K18q A17 (hw _ (List.mem_of_getElem? (i := 27) rfl))
                      have ts20 := own_str.keep1 (ts16.ext E17) K18q A17 (hw _ (List.mem_of_getElem? (i := 27) rfl))
                      rw [e18] at Cq18
                      have C18 := C17.trans Cq18
                      have hk18 : T18.heap.size ≤ h18.size := by rw [e18]; exact Nat.le_refl _
                      show GlS _ _ _ _ _ _ _ _ _ _ (T18.setTop (mkF m 245 #[.val (.int p1), .val (.int p2), .val (.int p3), .val (.int p4), .val (.int p5), .val (.int p6), .val (.int ((p6 &&& (3 : Int32)) % (3 : Int32))), .val (.int s0_23), .val (.int s0_43), .val (.int s0_59), .val (.int s0_75), .val (.int s0_92), .val (.int (((p6.toUInt32 >>> ((7 : Int32) &&& 31).toUInt32).toInt32) &&& (3 : Int32))), .val (.int s0_113), .val (.int s0_125), .val (.int ((p5 &&& (255 : Int32)).toUInt32.toUInt16.toUInt32.toInt32)), .val (.int ((((p5.toUInt32 >>> ((8 : Int32) &&& 31).toUInt32).toInt32) &&& (255 : Int32)).toUInt32.toUInt16.toUInt32.toInt32)), .val (.int s0_168), .val (.int s0_190), .val (.ref x10), .val (.ref x11), .val (.ref o13), .unset, .unset, .unset] [(.ref o17)]))
                      refine goS (fun t k => XS.astore X18.here hx rfl (hb hby at_245) rfl rfl (l' := #[.val (.int p1), .val (.int p2), .val (.int p3), .val (.int p4), .val (.int p5), .val (.int p6), .val (.int ((p6 &&& (3 : Int32)) % (3 : Int32))), .val (.int s0_23), .val (.int s0_43), .val (.int s0_59), .val (.int s0_75), .val (.int s0_92), .val (.int (((p6.toUInt32 >>> ((7 : Int32) &&& 31).toUInt32).toInt32) &&& (3 : Int32))), .val (.int s0_113), .val (.int s0_125), .val (.int ((p5 &&& (255 : Int32)).toUInt32.toUInt16.toUInt32.toInt32)), .val (.int ((((p5.toUInt32 >>> ((8 : Int32) &&& 31).toUInt32).toInt32) &&& (255 : Int32)).toUInt32.toUInt16.toUInt32.toInt32)), .val (.int s0_168), .val (.int s0_190), .val (.ref x10), .val (.ref x11), .val (.ref o13), .val (.ref o17), .unset, .unset]) rfl k) ?_
                      show GlS _ _ _ _ _ _ _ _ _ _ (T18.setTop (mkF m 247 #[.val (.int p1), .val (.int p2), .val (.int p3), .val (.int p4), .val (.int p5), .val (.int p6), .val (.int ((p6 &&& (3 : Int32)) % (3 : Int32))), .val (.int s0_23), .val (.int s0_43), .val (.int s0_59), .val (.int s0_75), .val (.int s0_92), .val (.int (((p6.toUInt32 >>> ((7 : Int32) &&& 31).toUInt32).toInt32) &&& (3 : Int32))), .val (.int s0_113), .val (.int s0_125), .val (.int ((p5 &&& (255 : Int32)).toUInt32.toUInt16.toUInt32.toInt32)), .val (.int ((((p5.toUInt32 >>> ((8 : Int32) &&& 31).toUInt32).toInt32) &&& (255 : Int32)).toUInt32.toUInt16.toUInt32.toInt32)), .val (.int s0_168), .val (.int s0_190), .val (.ref x10), .val (.ref x11), .val (.ref o13), .val (.ref o17), .unset, .unset] []))
                      refine goS (fun t k => XS.iload X18.here hx rfl (hb hby at_247) rfl  k) ?_
                      show GlS _ _ _ _ _ _ _ _ _ _ (T18.setTop (mkF m 249 #[.val (.int p1), .val (.int p2), .val (.int p3), .val (.int p4), .val (.int p5), .val (.int p6), .val (.int ((p6 &&& (3 : Int32)) % (3 : Int32))), .val (.int s0_23), .val (.int s0_43), .val (.int s0_59), .val (.int s0_75), .val (.int s0_92), .val (.int (((p6.toUInt32 >>> ((7 : Int32) &&& 31).toUInt32).toInt32) &&& (3 : Int32))), .val (.int s0_113), .val (.int s0_125), .val (.int ((p5 &&& (255 : Int32)).toUInt32.toUInt16.toUInt32.toInt32)), .val (.int ((((p5.toUInt32 >>> ((8 : Int32) &&& 31).toUInt32).toInt32) &&& (255 : Int32)).toUInt32.toUInt16.toUInt32.toInt32)), .val (.int s0_168), .val (.int s0_190), .val (.ref x10), .val (.ref x11), .val (.ref o13), .val (.ref o17), .unset, .unset] [(.int ((p6 &&& (3 : Int32)) % (3 : Int32)))]))
                      refine goS (fun t k => XS.iload X18.here hx rfl (hb hby at_249) rfl  k) ?_
                      show GlS _ _ _ _ _ _ _ _ _ _ (T18.setTop (mkF m 251 #[.val (.int p1), .val (.int p2), .val (.int p3), .val (.int p4), .val (.int p5), .val (.int p6), .val (.int ((p6 &&& (3 : Int32)) % (3 : Int32))), .val (.int s0_23), .val (.int s0_43), .val (.int s0_59), .val (.int s0_75), .val (.int s0_92), .val (.int (((p6.toUInt32 >>> ((7 : Int32) &&& 31).toUInt32).toInt32) &&& (3 : Int32))), .val (.int s0_113), .val (.int s0_125), .val (.int ((p5 &&& (255 : Int32)).toUInt32.toUInt16.toUInt32.toInt32)), .val (.int ((((p5.toUInt32 >>> ((8 : Int32) &&& 31).toUInt32).toInt32) &&& (255 : Int32)).toUInt32.toUInt16.toUInt32.toInt32)), .val (.int s0_168), .val (.int s0_190), .val (.ref x10), .val (.ref x11), .val (.ref o13), .val (.ref o17), .unset, .unset] [(.int s0_43), (.int ((p6 &&& (3 : Int32)) % (3 : Int32)))]))
                      have J285 : ∀ (s0_285 : Int32) (TJ285 : State) (lJ285 : List Loc) (XJ285 : Stand p l e room_1 (s.setVm T18.vm) m #[(.int p1), (.int p2), (.int p3), (.int p4), (.int p5), (.int p6)] below meth c TJ285 lJ285 18 94) (eJ285 : TJ285.heap = h18) (NJ285 : Fr n0 lJ285), GlS p e below s Z own_EL n0 room_1.cells room_1.slots (Kv (some (.int (b0_285 p1 p2 p5 p6 s0_43 s0_113 s0_125 s0_168 s0_190 s0_285))) (fun _ => True)) (TJ285.setTop (mkF m 285 #[.val (.int p1), .val (.int p2), .val (.int p3), .val (.int p4), .val (.int p5), .val (.int p6), .val (.int ((p6 &&& (3 : Int32)) % (3 : Int32))), .val (.int s0_23), .val (.int s0_43), .val (.int s0_59), .val (.int s0_75), .val (.int s0_92), .val (.int (((p6.toUInt32 >>> ((7 : Int32) &&& 31).toUInt32).toInt32) &&& (3 : Int32))), .val (.int s0_113), .val (.int s0_125), .val (.int ((p5 &&& (255 : Int32)).toUInt32.toUInt16.toUInt32.toInt32)), .val (.int ((((p5.toUInt32 >>> ((8 : Int32) &&& 31).toUInt32).toInt32) &&& (255 : Int32)).toUInt32.toUInt16.toUInt32.toInt32)), .val (.int s0_168), .val (.int s0_190), .val (.ref x10), .val (.ref x11), .val (.ref o13), .val (.ref o17), .unset, .unset] [(.int s0_285)])) := by
                        intro s0_285 TJ285 lJ285 XJ285 eJ285 NJ285
                        show GlS _ _ _ _ _ _ _ _ _ (Kv (some (.int (if p1 = s0_113 then (if p2 = s0_125 then (if s0_285 = (0 : Int32) then (b0_308 p1 p2 p5 p6 s0_43 s0_113 s0_125 s0_168 s0_190) else (b0_309 p1 p2 p5 p6 s0_43 s0_113 s0_125 s0_168 s0_190 (1 : Int32))) else (b0_308 p1 p2 p5 p6 s0_43 s0_113 s0_125 s0_168 s0_190)) else (b0_308 p1 p2 p5 p6 s0_43 s0_113 s0_125 s0_168 s0_190)))) _) _
                        refine goS (fun t k => XS.istore XJ285.here hx rfl (hb hby at_285) rfl (l' := #[.val (.int p1), .val (.int p2), .val (.int p3), .val (.int p4), .val (.int p5), .val (.int p6), .val (.int ((p6 &&& (3 : Int32)) % (3 : Int32))), .val (.int s0_23), .val (.int s0_43), .val (.int s0_59), .val (.int s0_75), .val (.int s0_92), .val (.int (((p6.toUInt32 >>> ((7 : Int32) &&& 31).toUInt32).toInt32) &&& (3 : Int32))), .val (.int s0_113), .val (.int s0_125), .val (.int ((p5 &&& (255 : Int32)).toUInt32.toUInt16.toUInt32.toInt32)), .val (.int ((((p5.toUInt32 >>> ((8 : Int32) &&& 31).toUInt32).toInt32) &&& (255 : Int32)).toUInt32.toUInt16.toUInt32.toInt32)), .val (.int s0_168), .val (.int s0_190), .val (.ref x10), .val (.ref x11), .val (.ref o13), .val (.ref o17), .unset, .val (.int s0_285)]) rfl k) ?_
                        show GlS _ _ _ _ _ _ _ _ _ _ (TJ285.setTop (mkF m 287 #[.val (.int p1), .val (.int p2), .val (.int p3), .val (.int p4), .val (.int p5), .val (.int p6), .val (.int ((p6 &&& (3 : Int32)) % (3 : Int32))), .val (.int s0_23), .val (.int s0_43), .val (.int s0_59), .val (.int s0_75), .val (.int s0_92), .val (.int (((p6.toUInt32 >>> ((7 : Int32) &&& 31).toUInt32).toInt32) &&& (3 : Int32))), .val (.int s0_113), .val (.int s0_125), .val (.int ((p5 &&& (255 : Int32)).toUInt32.toUInt16.toUInt32.toInt32)), .val (.int ((((p5.toUInt32 >>> ((8 : Int32) &&& 31).toUInt32).toInt32) &&& (255 : Int32)).toUInt32.toUInt16.toUInt32.toInt32)), .val (.int s0_168), .val (.int s0_190), .val (.ref x10), .val (.ref x11), .val (.ref o13), .val (.ref o17), .unset, .val (.int s0_285)] []))
                        refine goS (fun t k => XS.iloadN XJ285.here hx rfl (hb hby at_287) rfl  k) ?_
                        show GlS _ _ _ _ _ _ _ _ _ _ (TJ285.setTop (mkF m 288 #[.val (.int p1), .val (.int p2), .val (.int p3), .val (.int p4), .val (.int p5), .val (.int p6), .val (.int ((p6 &&& (3 : Int32)) % (3 : Int32))), .val (.int s0_23), .val (.int s0_43), .val (.int s0_59), .val (.int s0_75), .val (.int s0_92), .val (.int (((p6.toUInt32 >>> ((7 : Int32) &&& 31).toUInt32).toInt32) &&& (3 : Int32))), .val (.int s0_113), .val (.int s0_125), .val (.int ((p5 &&& (255 : Int32)).toUInt32.toUInt16.toUInt32.toInt32)), .val (.int ((((p5.toUInt32 >>> ((8 : Int32) &&& 31).toUInt32).toInt32) &&& (255 : Int32)).toUInt32.toUInt16.toUInt32.toInt32)), .val (.int s0_168), .val (.int s0_190), .val (.ref x10), .val (.ref x11), .val (.ref o13), .val (.ref o17), .unset, .val (.int s0_285)] [(.int p1)]))
                        refine goS (fun t k => XS.iload XJ285.here hx rfl (hb hby at_288) rfl  k) ?_
                        show GlS _ _ _ _ _ _ _ _ _ _ (TJ285.setTop (mkF m 290 #[.val (.int p1), .val (.int p2), .val (.int p3), .val (.int p4), .val (.int p5), .val (.int p6), .val (.int ((p6 &&& (3 : Int32)) % (3 : Int32))), .val (.int s0_23), .val (.int s0_43), .val (.int s0_59), .val (.int s0_75), .val (.int s0_92), .val (.int (((p6.toUInt32 >>> ((7 : Int32) &&& 31).toUInt32).toInt32) &&& (3 : Int32))), .val (.int s0_113), .val (.int s0_125), .val (.int ((p5 &&& (255 : Int32)).toUInt32.toUInt16.toUInt32.toInt32)), .val (.int ((((p5.toUInt32 >>> ((8 : Int32) &&& 31).toUInt32).toInt32) &&& (255 : Int32)).toUInt32.toUInt16.toUInt32.toInt32)), .val (.int s0_168), .val (.int s0_190), .val (.ref x10), .val (.ref x11), .val (.ref o13), .val (.ref o17), .unset, .val (.int s0_285)] [(.int s0_113), (.int p1)]))
                        have J309 : ∀ (s0_309 : Int32) (TJ309 : State) (lJ309 : List Loc) (XJ309 : Stand p l e room_1 (s.setVm T18.vm) m #[(.int p1), (.int p2), (.int p3), (.int p4), (.int p5), (.int p6)] below meth c TJ309 lJ309 18 94) (eJ309 : TJ309.heap = h18) (NJ309 : Fr n0 lJ309), GlS p e below s Z own_EL n0 room_1.cells room_1.slots (Kv (some (.int (b0_309 p1 p2 p5 p6 s0_43 s0_113 s0_125 s0_168 s0_190 s0_309))) (fun _ => True)) (TJ309.setTop (mkF m 309 #[.val (.int p1), .val (.int p2), .val (.int p3), .val (.int p4), .val (.int p5), .val (.int p6), .val (.int ((p6 &&& (3 : Int32)) % (3 : Int32))), .val (.int s0_23), .val (.int s0_43), .val (.int s0_59), .val (.int s0_75), .val (.int s0_92), .val (.int (((p6.toUInt32 >>> ((7 : Int32) &&& 31).toUInt32).toInt32) &&& (3 : Int32))), .val (.int s0_113), .val (.int s0_125), .val (.int ((p5 &&& (255 : Int32)).toUInt32.toUInt16.toUInt32.toInt32)), .val (.int ((((p5.toUInt32 >>> ((8 : Int32) &&& 31).toUInt32).toInt32) &&& (255 : Int32)).toUInt32.toUInt16.toUInt32.toInt32)), .val (.int s0_168), .val (.int s0_190), .val (.ref x10), .val (.ref x11), .val (.ref o13), .val (.ref o17), .unset, .val (.int s0_285)] [(.int s0_309)])) := by
                          intro s0_309 TJ309 lJ309 XJ309 eJ309 NJ309
                          show GlS _ _ _ _ _ _ _ _ _ (Kv (some (.int (if (b7tw_0 p1 p2 s0_113 s0_125 (own_cs ((p6 &&& (3 : Int32)) % (3 : Int32)) (nar .char ((p5 &&& (255 : Int32)).toUInt32.toUInt16.toUInt32.toInt32)) (nar .char ((((p5.toUInt32 >>> ((8 : Int32) &&& 31).toUInt32).toInt32) &&& (255 : Int32)).toUInt32.toUInt16.toUInt32.toInt32))) (own_cs s0_43 (nar .char s0_168) (nar .char s0_190))) = s0_309 then (b0_369 (1 : Int32)) else (b0_369 (0 : Int32))))) _) _
                          refine goS (fun t k => XS.istore XJ309.here hx rfl (hb hby at_309) rfl (l' := #[.val (.int p1), .val (.int p2), .val (.int p3), .val (.int p4), .val (.int p5), .val (.int p6), .val (.int ((p6 &&& (3 : Int32)) % (3 : Int32))), .val (.int s0_23), .val (.int s0_43), .val (.int s0_59), .val (.int s0_75), .val (.int s0_92), .val (.int (((p6.toUInt32 >>> ((7 : Int32) &&& 31).toUInt32).toInt32) &&& (3 : Int32))), .val (.int s0_113), .val (.int s0_125), .val (.int ((p5 &&& (255 : Int32)).toUInt32.toUInt16.toUInt32.toInt32)), .val (.int ((((p5.toUInt32 >>> ((8 : Int32) &&& 31).toUInt32).toInt32) &&& (255 : Int32)).toUInt32.toUInt16.toUInt32.toInt32)), .val (.int s0_168), .val (.int s0_190), .val (.ref x10), .val (.ref x11), .val (.ref o13), .val (.ref o17), .val (.int s0_309), .val (.int s0_285)]) rfl k) ?_
                          show GlS _ _ _ _ _ _ _ _ _ _ (TJ309.setTop (mkF m 311 #[.val (.int p1), .val (.int p2), .val (.int p3), .val (.int p4), .val (.int p5), .val (.int p6), .val (.int ((p6 &&& (3 : Int32)) % (3 : Int32))), .val (.int s0_23), .val (.int s0_43), .val (.int s0_59), .val (.int s0_75), .val (.int s0_92), .val (.int (((p6.toUInt32 >>> ((7 : Int32) &&& 31).toUInt32).toInt32) &&& (3 : Int32))), .val (.int s0_113), .val (.int s0_125), .val (.int ((p5 &&& (255 : Int32)).toUInt32.toUInt16.toUInt32.toInt32)), .val (.int ((((p5.toUInt32 >>> ((8 : Int32) &&& 31).toUInt32).toInt32) &&& (255 : Int32)).toUInt32.toUInt16.toUInt32.toInt32)), .val (.int s0_168), .val (.int s0_190), .val (.ref x10), .val (.ref x11), .val (.ref o13), .val (.ref o17), .val (.int s0_309), .val (.int s0_285)] []))
                          refine goS (fun t k => XS.goto XJ309.here hx rfl (pc0 := 311) (pc' := 352) rfl (hb hby at_311) (by decide) (by decide) k) ?_
                          show GlS _ _ _ _ _ _ _ _ _ _ (TJ309.setTop (mkF m 352 #[.val (.int p1), .val (.int p2), .val (.int p3), .val (.int p4), .val (.int p5), .val (.int p6), .val (.int ((p6 &&& (3 : Int32)) % (3 : Int32))), .val (.int s0_23), .val (.int s0_43), .val (.int s0_59), .val (.int s0_75), .val (.int s0_92), .val (.int (((p6.toUInt32 >>> ((7 : Int32) &&& 31).toUInt32).toInt32) &&& (3 : Int32))), .val (.int s0_113), .val (.int s0_125), .val (.int ((p5 &&& (255 : Int32)).toUInt32.toUInt16.toUInt32.toInt32)), .val (.int ((((p5.toUInt32 >>> ((8 : Int32) &&& 31).toUInt32).toInt32) &&& (255 : Int32)).toUInt32.toUInt16.toUInt32.toInt32)), .val (.int s0_168), .val (.int s0_190), .val (.ref x10), .val (.ref x11), .val (.ref o13), .val (.ref o17), .val (.int s0_309), .val (.int s0_285)] []))
                          refine goS (fun t k => XS.aload XJ309.here hx rfl (hb hby at_352) rfl rfl k) ?_
                          show GlS _ _ _ _ _ _ _ _ _ _ (TJ309.setTop (mkF m 354 #[.val (.int p1), .val (.int p2), .val (.int p3), .val (.int p4), .val (.int p5), .val (.int p6), .val (.int ((p6 &&& (3 : Int32)) % (3 : Int32))), .val (.int s0_23), .val (.int s0_43), .val (.int s0_59), .val (.int s0_75), .val (.int s0_92), .val (.int (((p6.toUInt32 >>> ((7 : Int32) &&& 31).toUInt32).toInt32) &&& (3 : Int32))), .val (.int s0_113), .val (.int s0_125), .val (.int ((p5 &&& (255 : Int32)).toUInt32.toUInt16.toUInt32.toInt32)), .val (.int ((((p5.toUInt32 >>> ((8 : Int32) &&& 31).toUInt32).toInt32) &&& (255 : Int32)).toUInt32.toUInt16.toUInt32.toInt32)), .val (.int s0_168), .val (.int s0_190), .val (.ref x10), .val (.ref x11), .val (.ref o13), .val (.ref o17), .val (.int s0_309), .val (.int s0_285)] [(.ref o13)]))
                          refine goS (fun t k => XS.aload XJ309.here hx rfl (hb hby at_354) rfl rfl k) ?_
                          show GlS _ _ _ _ _ _ _ _ _ _ (TJ309.setTop (mkF m 356 #[.val (.int p1), .val (.int p2), .val (.int p3), .val (.int p4), .val (.int p5), .val (.int p6), .val (.int ((p6 &&& (3 : Int32)) % (3 : Int32))), .val (.int s0_23), .val (.int s0_43), .val (.int s0_59), .val (.int s0_75), .val (.int s0_92), .val (.int (((p6.toUInt32 >>> ((7 : Int32) &&& 31).toUInt32).toInt32) &&& (3 : Int32))), .val (.int s0_113), .val (.int s0_125), .val (.int ((p5 &&& (255 : Int32)).toUInt32.toUInt16.toUInt32.toInt32)), .val (.int ((((p5.toUInt32 >>> ((8 : Int32) &&& 31).toUInt32).toInt32) &&& (255 : Int32)).toUInt32.toUInt16.toUInt32.toInt32)), .val (.int s0_168), .val (.int s0_190), .val (.ref x10), .val (.ref x11), .val (.ref o13), .val (.ref o17), .val (.int s0_309), .val (.int s0_285)] [(.ref o17), (.ref o13)]))
                          obtain ⟨cq23, kq23, q23a, q23b, q23c⟩ := isOf hZ18 eJ309 ((Ex14.ext E17).keep K18q)
                          obtain ⟨_, _, ⟨T23, L23, k23, n23⟩, -, X23, ⟨Lc23, hQ23, l23, y23, z23⟩, st23⟩ := XJ309.virtualBack hx (y := (⟨"com/example/tercet/tercet/SyntaxWarning", "equals", "(Ljava/lang/Object;)Z"⟩ : MethodName)) (z := (⟨"com/example/tercet/tercet/SyntaxWarning", "equals", "(Ljava/lang/Object;)Z"⟩ : MethodName)) hown18 (mvT hZ18 (hw _ (List.mem_of_getElem? (i := 45) rfl))) (mvT hZ18 (hw _ (List.mem_of_getElem? (i := 46) rfl))) (notFace_of_selects (args := #[]) (mvT hZ18 (hw _ (List.mem_of_getElem? (i := 48) rfl)))) (mvT hZ18 (hw _ (List.mem_of_getElem? (i := 48) rfl))) (mvT hZ18 (hw _ (List.mem_of_getElem? (i := 47) rfl))) (by decide) (backOf (W := 0) (rm7tw l Z a0 hw [] o13 o17 p1 p2 x10 s0_113 s0_125 x11 w_COMPACT_STRINGS (own_cs ((p6 &&& (3 : Int32)) % (3 : Int32)) (nar .char ((p5 &&& (255 : Int32)).toUInt32.toUInt16.toUInt32.toInt32)) (nar .char ((((p5.toUInt32 >>> ((8 : Int32) &&& 31).toUInt32).toInt32) &&& (255 : Int32)).toUInt32.toUInt16.toUInt32.toInt32))) (own_cs s0_43 (nar .char s0_168) (nar .char s0_190)) h18 n0 (Nat.le_trans (Nat.le_trans (Nat.le_trans (Nat.le_trans (Nat.le_trans (Nat.le_trans Z0 K10q.1) K11q.1) E13.1) K14q.1) E17.1) K18q.1) ((Ex14.ext E17).keep K18q) ((Fq14_line.ext E17).keep K18q (ninS ne_o13_o17 nin0)) ((Fq14_column.ext E17).keep K18q (ninS ne_o13_o17 nin0)) ((Fq14_message.ext E17).keep K18q (ninS ne_o13_o17 nin0)) Ex18 Fq18_line Fq18_column Fq18_message (sta_keep ((sta_keep ((sta_keep0 (sta_keep0 S_COMPACT_STRINGS K10q) K11q).ext E13) K14q A13).ext E17) K18q A17) ts20 ts19 hcz (own_lats (own_narb (own_chb _)) (own_narb (own_chb _))) (own_lats (own_narb hb168) (own_narb hb190))) hZ18 (hw _ (List.mem_of_getElem? (i := 49) rfl)) (hw _ (List.mem_of_getElem? (i := 28) rfl)) (by decide) (by decide)) q23a q23c (g := (mkF m 356 #[.val (.int p1), .val (.int p2), .val (.int p3), .val (.int p4), .val (.int p5), .val (.int p6), .val (.int ((p6 &&& (3 : Int32)) % (3 : Int32))), .val (.int s0_23), .val (.int s0_43), .val (.int s0_59), .val (.int s0_75), .val (.int s0_92), .val (.int (((p6.toUInt32 >>> ((7 : Int32) &&& 31).toUInt32).toInt32) &&& (3 : Int32))), .val (.int s0_113), .val (.int s0_125), .val (.int ((p5 &&& (255 : Int32)).toUInt32.toUInt16.toUInt32.toInt32)), .val (.int ((((p5.toUInt32 >>> ((8 : Int32) &&& 31).toUInt32).toInt32) &&& (255 : Int32)).toUInt32.toUInt16.toUInt32.toInt32)), .val (.int s0_168), .val (.int s0_190), .val (.ref x10), .val (.ref x11), .val (.ref o13), .val (.ref o17), .val (.int s0_309), .val (.int s0_285)] [(.ref o17), (.ref o13)])) rfl (by rw [hml]; rfl) (Steps.refl _) (argsL := [(.ref o17)]) (rest := []) (lenOf pd_3 rfl) rfl (by show 2 * 0 + _ ≤ _; exact Nat.le_of_eq rfl) (hb hby at_356) (fun _ _ => ⟨rfl, eJ309, (by decide : 18 + 0 ≤ _), (by decide : 94 + 0 ≤ _)⟩)
                          dsimp only [Pt.U, Pt.locs, Pt.cells, Pt.slots] at X23 l23 y23 z23 st23 hQ23
                          subst l23 y23 z23
                          have X23 : Stand p l e room_1 (s.setVm T18.vm) m #[(.int p1), (.int p2), (.int p3), (.int p4), (.int p5), (.int p6)] below meth c T23 _ 18 94 := X23
                          obtain ⟨⟨rfl, e23'⟩, N23q⟩ := hQ23
                          have e23 : T23.heap = h18 := e23'
                          have N23 := Fr.app NJ309 N23q
                          refine goS (fun t k => st23.trans k) ?_
                          show GlS _ _ _ _ _ _ _ _ _ _ (T23.setTop (mkF m 359 #[.val (.int p1), .val (.int p2), .val (.int p3), .val (.int p4), .val (.int p5), .val (.int p6), .val (.int ((p6 &&& (3 : Int32)) % (3 : Int32))), .val (.int s0_23), .val (.int s0_43), .val (.int s0_59), .val (.int s0_75), .val (.int s0_92), .val (.int (((p6.toUInt32 >>> ((7 : Int32) &&& 31).toUInt32).toInt32) &&& (3 : Int32))), .val (.int s0_113), .val (.int s0_125), .val (.int ((p5 &&& (255 : Int32)).toUInt32.toUInt16.toUInt32.toInt32)), .val (.int ((((p5.toUInt32 >>> ((8 : Int32) &&& 31).toUInt32).toInt32) &&& (255 : Int32)).toUInt32.toUInt16.toUInt32.toInt32)), .val (.int s0_168), .val (.int s0_190), .val (.ref x10), .val (.ref x11), .val (.ref o13), .val (.ref o17), .val (.int s0_309), .val (.int s0_285)] [(.int (b7tw_0 p1 p2 s0_113 s0_125 (own_cs ((p6 &&& (3 : Int32)) % (3 : Int32)) (nar .char ((p5 &&& (255 : Int32)).toUInt32.toUInt16.toUInt32.toInt32)) (nar .char ((((p5.toUInt32 >>> ((8 : Int32) &&& 31).toUInt32).toInt32) &&& (255 : Int32)).toUInt32.toUInt16.toUInt32.toInt32))) (own_cs s0_43 (nar .char s0_168) (nar .char s0_190))))]))
                          refine goS (fun t k => XS.iload X23.here hx rfl (hb hby at_359) rfl  k) ?_
                          show GlS _ _ _ _ _ _ _ _ _ _ (T23.setTop (mkF m 361 #[.val (.int p1), .val (.int p2), .val (.int p3), .val (.int p4), .val (.int p5), .val (.int p6), .val (.int ((p6 &&& (3 : Int32)) % (3 : Int32))), .val (.int s0_23), .val (.int s0_43), .val (.int s0_59), .val (.int s0_75), .val (.int s0_92), .val (.int (((p6.toUInt32 >>> ((7 : Int32) &&& 31).toUInt32).toInt32) &&& (3 : Int32))), .val (.int s0_113), .val (.int s0_125), .val (.int ((p5 &&& (255 : Int32)).toUInt32.toUInt16.toUInt32.toInt32)), .val (.int ((((p5.toUInt32 >>> ((8 : Int32) &&& 31).toUInt32).toInt32) &&& (255 : Int32)).toUInt32.toUInt16.toUInt32.toInt32)), .val (.int s0_168), .val (.int s0_190), .val (.ref x10), .val (.ref x11), .val (.ref o13), .val (.ref o17), .val (.int s0_309), .val (.int s0_285)] [(.int s0_309), (.int (b7tw_0 p1 p2 s0_113 s0_125 (own_cs ((p6 &&& (3 : Int32)) % (3 : Int32)) (nar .char ((p5 &&& (255 : Int32)).toUInt32.toUInt16.toUInt32.toInt32)) (nar .char ((((p5.toUInt32 >>> ((8 : Int32) &&& 31).toUInt32).toInt32) &&& (255 : Int32)).toUInt32.toUInt16.toUInt32.toInt32))) (own_cs s0_43 (nar .char s0_168) (nar .char s0_190))))]))
                          have J369 : ∀ (s0_369 : Int32) (TJ369 : State) (lJ369 : List Loc) (XJ369 : Stand p l e room_1 (s.setVm T18.vm) m #[(.int p1), (.int p2), (.int p3), (.int p4), (.int p5), (.int p6)] below meth c TJ369 lJ369 18 94) (eJ369 : TJ369.heap = h18) (NJ369 : Fr n0 lJ369), GlS p e below s Z own_EL n0 room_1.cells room_1.slots (Kv (some (.int (b0_369 s0_369))) (fun _ => True)) (TJ369.setTop (mkF m 369 #[.val (.int p1), .val (.int p2), .val (.int p3), .val (.int p4), .val (.int p5), .val (.int p6), .val (.int ((p6 &&& (3 : Int32)) % (3 : Int32))), .val (.int s0_23), .val (.int s0_43), .val (.int s0_59), .val (.int s0_75), .val (.int s0_92), .val (.int (((p6.toUInt32 >>> ((7 : Int32) &&& 31).toUInt32).toInt32) &&& (3 : Int32))), .val (.int s0_113), .val (.int s0_125), .val (.int ((p5 &&& (255 : Int32)).toUInt32.toUInt16.toUInt32.toInt32)), .val (.int ((((p5.toUInt32 >>> ((8 : Int32) &&& 31).toUInt32).toInt32) &&& (255 : Int32)).toUInt32.toUInt16.toUInt32.toInt32)), .val (.int s0_168), .val (.int s0_190), .val (.ref x10), .val (.ref x11), .val (.ref o13), .val (.ref o17), .val (.int s0_309), .val (.int s0_285)] [(.int s0_369)])) := by
                            intro s0_369 TJ369 lJ369 XJ369 eJ369 NJ369
                            show GlS _ _ _ _ _ _ _ _ _ (Kv (some (.int (nar .boolean s0_369))) _) _
                            exact endNS XJ369 hx Bd (t := .boolean) (by simp) (hb hby at_369) ⟨rfl, trivial⟩ NJ369 (by decide) (by decide) hS18 (own_hk eJ369 hk18) (own_cend hh eJ369 (C18.trans (CHv.at XJ369 hZ18 hEL C18.1)))
                          refine gIS (c := (b7tw_0 p1 p2 s0_113 s0_125 (own_cs ((p6 &&& (3 : Int32)) % (3 : Int32)) (nar .char ((p5 &&& (255 : Int32)).toUInt32.toUInt16.toUInt32.toInt32)) (nar .char ((((p5.toUInt32 >>> ((8 : Int32) &&& 31).toUInt32).toInt32) &&& (255 : Int32)).toUInt32.toUInt16.toUInt32.toInt32))) (own_cs s0_43 (nar .char s0_168) (nar .char s0_190))) = s0_309) (fun hc361 => ?_) (fun hc361 => ?_)
                          · refine goS (fun t k => XS.icmpNo X23.here hx rfl (hb hby at_361) rfl (teq hc361).2 k) ?_
                            show GlS _ _ _ _ _ _ _ _ _ _ (T23.setTop (mkF m 364 #[.val (.int p1), .val (.int p2), .val (.int p3), .val (.int p4), .val (.int p5), .val (.int p6), .val (.int ((p6 &&& (3 : Int32)) % (3 : Int32))), .val (.int s0_23), .val (.int s0_43), .val (.int s0_59), .val (.int s0_75), .val (.int s0_92), .val (.int (((p6.toUInt32 >>> ((7 : Int32) &&& 31).toUInt32).toInt32) &&& (3 : Int32))), .val (.int s0_113), .val (.int s0_125), .val (.int ((p5 &&& (255 : Int32)).toUInt32.toUInt16.toUInt32.toInt32)), .val (.int ((((p5.toUInt32 >>> ((8 : Int32) &&& 31).toUInt32).toInt32) &&& (255 : Int32)).toUInt32.toUInt16.toUInt32.toInt32)), .val (.int s0_168), .val (.int s0_190), .val (.ref x10), .val (.ref x11), .val (.ref o13), .val (.ref o17), .val (.int s0_309), .val (.int s0_285)] []))
                            refine goS (fun t k => XS.iconst X23.here hx rfl (hb hby at_364) k) ?_
                            show GlS _ _ _ _ _ _ _ _ _ _ (T23.setTop (mkF m 365 #[.val (.int p1), .val (.int p2), .val (.int p3), .val (.int p4), .val (.int p5), .val (.int p6), .val (.int ((p6 &&& (3 : Int32)) % (3 : Int32))), .val (.int s0_23), .val (.int s0_43), .val (.int s0_59), .val (.int s0_75), .val (.int s0_92), .val (.int (((p6.toUInt32 >>> ((7 : Int32) &&& 31).toUInt32).toInt32) &&& (3 : Int32))), .val (.int s0_113), .val (.int s0_125), .val (.int ((p5 &&& (255 : Int32)).toUInt32.toUInt16.toUInt32.toInt32)), .val (.int ((((p5.toUInt32 >>> ((8 : Int32) &&& 31).toUInt32).toInt32) &&& (255 : Int32)).toUInt32.toUInt16.toUInt32.toInt32)), .val (.int s0_168), .val (.int s0_190), .val (.ref x10), .val (.ref x11), .val (.ref o13), .val (.ref o17), .val (.int s0_309), .val (.int s0_285)] [(.int (1 : Int32))]))
                            refine goS (fun t k => XS.goto X23.here hx rfl (pc0 := 365) (pc' := 369) rfl (hb hby at_365) (by decide) (by decide) k) ?_
                            show GlS _ _ _ _ _ _ _ _ _ _ (T23.setTop (mkF m 369 #[.val (.int p1), .val (.int p2), .val (.int p3), .val (.int p4), .val (.int p5), .val (.int p6), .val (.int ((p6 &&& (3 : Int32)) % (3 : Int32))), .val (.int s0_23), .val (.int s0_43), .val (.int s0_59), .val (.int s0_75), .val (.int s0_92), .val (.int (((p6.toUInt32 >>> ((7 : Int32) &&& 31).toUInt32).toInt32) &&& (3 : Int32))), .val (.int s0_113), .val (.int s0_125), .val (.int ((p5 &&& (255 : Int32)).toUInt32.toUInt16.toUInt32.toInt32)), .val (.int ((((p5.toUInt32 >>> ((8 : Int32) &&& 31).toUInt32).toInt32) &&& (255 : Int32)).toUInt32.toUInt16.toUInt32.toInt32)), .val (.int s0_168), .val (.int s0_190), .val (.ref x10), .val (.ref x11), .val (.ref o13), .val (.ref o17), .val (.int s0_309), .val (.int s0_285)] [(.int (1 : Int32))]))
                            exact J369 (1 : Int32) T23 _ X23 e23 N23
                          · refine goS (fun t k => XS.icmpYes X23.here hx rfl (pc0 := 361) (pc' := 368) rfl (hb hby at_361) rfl (feq hc361).2 (by decide) (by decide) k) ?_
                            show GlS _ _ _ _ _ _ _ _ _ _ (T23.setTop (mkF m 368 #[.val (.int p1), .val (.int p2), .val (.int p3), .val (.int p4), .val (.int p5), .val (.int p6), .val (.int ((p6 &&& (3 : Int32)) % (3 : Int32))), .val (.int s0_23), .val (.int s0_43), .val (.int s0_59), .val (.int s0_75), .val (.int s0_92), .val (.int (((p6.toUInt32 >>> ((7 : Int32) &&& 31).toUInt32).toInt32) &&& (3 : Int32))), .val (.int s0_113), .val (.int s0_125), .val (.int ((p5 &&& (255 : Int32)).toUInt32.toUInt16.toUInt32.toInt32)), .val (.int ((((p5.toUInt32 >>> ((8 : Int32) &&& 31).toUInt32).toInt32) &&& (255 : Int32)).toUInt32.toUInt16.toUInt32.toInt32)), .val (.int s0_168), .val (.int s0_190), .val (.ref x10), .val (.ref x11), .val (.ref o13), .val (.ref o17), .val (.int s0_309), .val (.int s0_285)] []))
                            refine goS (fun t k => XS.iconst X23.here hx rfl (hb hby at_368) k) ?_
                            show GlS _ _ _ _ _ _ _ _ _ _ (T23.setTop (mkF m 369 #[.val (.int p1), .val (.int p2), .val (.int p3), .val (.int p4), .val (.int p5), .val (.int p6), .val (.int ((p6 &&& (3 : Int32)) % (3 : Int32))), .val (.int s0_23), .val (.int s0_43), .val (.int s0_59), .val (.int s0_75), .val (.int s0_92), .val (.int (((p6.toUInt32 >>> ((7 : Int32) &&& 31).toUInt32).toInt32) &&& (3 : Int32))), .val (.int s0_113), .val (.int s0_125), .val (.int ((p5 &&& (255 : Int32)).toUInt32.toUInt16.toUInt32.toInt32)), .val (.int ((((p5.toUInt32 >>> ((8 : Int32) &&& 31).toUInt32).toInt32) &&& (255 : Int32)).toUInt32.toUInt16.toUInt32.toInt32)), .val (.int s0_168), .val (.int s0_190), .val (.ref x10), .val (.ref x11), .val (.ref o13), .val (.ref o17), .val (.int s0_309), .val (.int s0_285)] [(.int (0 : Int32))]))
                            exact J369 (0 : Int32) T23 _ X23 e23 N23
                        have J308 : ∀  (TJ308 : State) (lJ308 : List Loc) (XJ308 : Stand p l e room_1 (s.setVm T18.vm) m #[(.int p1), (.int p2), (.int p3), (.int p4), (.int p5), (.int p6)] below meth c TJ308 lJ308 18 94) (eJ308 : TJ308.heap = h18) (NJ308 : Fr n0 lJ308), GlS p e below s Z own_EL n0 room_1.cells room_1.slots (Kv (some (.int (b0_308 p1 p2 p5 p6 s0_43 s0_113 s0_125 s0_168 s0_190))) (fun _ => True)) (TJ308.setTop (mkF m 308 #[.val (.int p1), .val (.int p2), .val (.int p3), .val (.int p4), .val (.int p5), .val (.int p6), .val (.int ((p6 &&& (3 : Int32)) % (3 : Int32))), .val (.int s0_23), .val (.int s0_43), .val (.int s0_59), .val (.int s0_75), .val (.int s0_92), .val (.int (((p6.toUInt32 >>> ((7 : Int32) &&& 31).toUInt32).toInt32) &&& (3 : Int32))), .val (.int s0_113), .val (.int s0_125), .val (.int ((p5 &&& (255 : Int32)).toUInt32.toUInt16.toUInt32.toInt32)), .val (.int ((((p5.toUInt32 >>> ((8 : Int32) &&& 31).toUInt32).toInt32) &&& (255 : Int32)).toUInt32.toUInt16.toUInt32.toInt32)), .val (.int s0_168), .val (.int s0_190), .val (.ref x10), .val (.ref x11), .val (.ref o13), .val (.ref o17), .unset, .val (.int s0_285)] [])) := by
                          intro  TJ308 lJ308 XJ308 eJ308 NJ308
                          show GlS _ _ _ _ _ _ _ _ _ (Kv (some (.int (b0_309 p1 p2 p5 p6 s0_43 s0_113 s0_125 s0_168 s0_190 (0 : Int32)))) _) _
                          refine goS (fun t k => XS.iconst XJ308.here hx rfl (hb hby at_308) k) ?_
                          show GlS _ _ _ _ _ _ _ _ _ _ (TJ308.setTop (mkF m 309 #[.val (.int p1), .val (.int p2), .val (.int p3), .val (.int p4), .val (.int p5), .val (.int p6), .val (.int ((p6 &&& (3 : Int32)) % (3 : Int32))), .val (.int s0_23), .val (.int s0_43), .val (.int s0_59), .val (.int s0_75), .val (.int s0_92), .val (.int (((p6.toUInt32 >>> ((7 : Int32) &&& 31).toUInt32).toInt32) &&& (3 : Int32))), .val (.int s0_113), .val (.int s0_125), .val (.int ((p5 &&& (255 : Int32)).toUInt32.toUInt16.toUInt32.toInt32)), .val (.int ((((p5.toUInt32 >>> ((8 : Int32) &&& 31).toUInt32).toInt32) &&& (255 : Int32)).toUInt32.toUInt16.toUInt32.toInt32)), .val (.int s0_168), .val (.int s0_190), .val (.ref x10), .val (.ref x11), .val (.ref o13), .val (.ref o17), .unset, .val (.int s0_285)] [(.int (0 : Int32))]))
                          exact J309 (0 : Int32) TJ308 _ XJ308 eJ308 NJ308
                        refine gIS (c := p1 = s0_113) (fun hc290 => ?_) (fun hc290 => ?_)
                        · refine goS (fun t k => XS.icmpNo XJ285.here hx rfl (hb hby at_290) rfl (teq hc290).2 k) ?_
                          show GlS _ _ _ _ _ _ _ _ _ _ (TJ285.setTop (mkF m 293 #[.val (.int p1), .val (.int p2), .val (.int p3), .val (.int p4), .val (.int p5), .val (.int p6), .val (.int ((p6 &&& (3 : Int32)) % (3 : Int32))), .val (.int s0_23), .val (.int s0_43), .val (.int s0_59), .val (.int s0_75), .val (.int s0_92), .val (.int (((p6.toUInt32 >>> ((7 : Int32) &&& 31).toUInt32).toInt32) &&& (3 : Int32))), .val (.int s0_113), .val (.int s0_125), .val (.int ((p5 &&& (255 : Int32)).toUInt32.toUInt16.toUInt32.toInt32)), .val (.int ((((p5.toUInt32 >>> ((8 : Int32) &&& 31).toUInt32).toInt32) &&& (255 : Int32)).toUInt32.toUInt16.toUInt32.toInt32)), .val (.int s0_168), .val (.int s0_190), .val (.ref x10), .val (.ref x11), .val (.ref o13), .val (.ref o17), .unset, .val (.int s0_285)] []))
                          refine goS (fun t k => XS.iloadN XJ285.here hx rfl (hb hby at_293) rfl  k) ?_
                          show GlS _ _ _ _ _ _ _ _ _ _ (TJ285.setTop (mkF m 294 #[.val (.int p1), .val (.int p2), .val (.int p3), .val (.int p4), .val (.int p5), .val (.int p6), .val (.int ((p6 &&& (3 : Int32)) % (3 : Int32))), .val (.int s0_23), .val (.int s0_43), .val (.int s0_59), .val (.int s0_75), .val (.int s0_92), .val (.int (((p6.toUInt32 >>> ((7 : Int32) &&& 31).toUInt32).toInt32) &&& (3 : Int32))), .val (.int s0_113), .val (.int s0_125), .val (.int ((p5 &&& (255 : Int32)).toUInt32.toUInt16.toUInt32.toInt32)), .val (.int ((((p5.toUInt32 >>> ((8 : Int32) &&& 31).toUInt32).toInt32) &&& (255 : Int32)).toUInt32.toUInt16.toUInt32.toInt32)), .val (.int s0_168), .val (.int s0_190), .val (.ref x10), .val (.ref x11), .val (.ref o13), .val (.ref o17), .unset, .val (.int s0_285)] [(.int p2)]))
                          refine goS (fun t k => XS.iload XJ285.here hx rfl (hb hby at_294) rfl  k) ?_
                          show GlS _ _ _ _ _ _ _ _ _ _ (TJ285.setTop (mkF m 296 #[.val (.int p1), .val (.int p2), .val (.int p3), .val (.int p4), .val (.int p5), .val (.int p6), .val (.int ((p6 &&& (3 : Int32)) % (3 : Int32))), .val (.int s0_23), .val (.int s0_43), .val (.int s0_59), .val (.int s0_75), .val (.int s0_92), .val (.int (((p6.toUInt32 >>> ((7 : Int32) &&& 31).toUInt32).toInt32) &&& (3 : Int32))), .val (.int s0_113), .val (.int s0_125), .val (.int ((p5 &&& (255 : Int32)).toUInt32.toUInt16.toUInt32.toInt32)), .val (.int ((((p5.toUInt32 >>> ((8 : Int32) &&& 31).toUInt32).toInt32) &&& (255 : Int32)).toUInt32.toUInt16.toUInt32.toInt32)), .val (.int s0_168), .val (.int s0_190), .val (.ref x10), .val (.ref x11), .val (.ref o13), .val (.ref o17), .unset, .val (.int s0_285)] [(.int s0_125), (.int p2)]))
                          refine gIS (c := p2 = s0_125) (fun hc296 => ?_) (fun hc296 => ?_)
                          · refine goS (fun t k => XS.icmpNo XJ285.here hx rfl (hb hby at_296) rfl (teq hc296).2 k) ?_
                            show GlS _ _ _ _ _ _ _ _ _ _ (TJ285.setTop (mkF m 299 #[.val (.int p1), .val (.int p2), .val (.int p3), .val (.int p4), .val (.int p5), .val (.int p6), .val (.int ((p6 &&& (3 : Int32)) % (3 : Int32))), .val (.int s0_23), .val (.int s0_43), .val (.int s0_59), .val (.int s0_75), .val (.int s0_92), .val (.int (((p6.toUInt32 >>> ((7 : Int32) &&& 31).toUInt32).toInt32) &&& (3 : Int32))), .val (.int s0_113), .val (.int s0_125), .val (.int ((p5 &&& (255 : Int32)).toUInt32.toUInt16.toUInt32.toInt32)), .val (.int ((((p5.toUInt32 >>> ((8 : Int32) &&& 31).toUInt32).toInt32) &&& (255 : Int32)).toUInt32.toUInt16.toUInt32.toInt32)), .val (.int s0_168), .val (.int s0_190), .val (.ref x10), .val (.ref x11), .val (.ref o13), .val (.ref o17), .unset, .val (.int s0_285)] []))
                            refine goS (fun t k => XS.iload XJ285.here hx rfl (hb hby at_299) rfl  k) ?_
                            show GlS _ _ _ _ _ _ _ _ _ _ (TJ285.setTop (mkF m 301 #[.val (.int p1), .val (.int p2), .val (.int p3), .val (.int p4), .val (.int p5), .val (.int p6), .val (.int ((p6 &&& (3 : Int32)) % (3 : Int32))), .val (.int s0_23), .val (.int s0_43), .val (.int s0_59), .val (.int s0_75), .val (.int s0_92), .val (.int (((p6.toUInt32 >>> ((7 : Int32) &&& 31).toUInt32).toInt32) &&& (3 : Int32))), .val (.int s0_113), .val (.int s0_125), .val (.int ((p5 &&& (255 : Int32)).toUInt32.toUInt16.toUInt32.toInt32)), .val (.int ((((p5.toUInt32 >>> ((8 : Int32) &&& 31).toUInt32).toInt32) &&& (255 : Int32)).toUInt32.toUInt16.toUInt32.toInt32)), .val (.int s0_168), .val (.int s0_190), .val (.ref x10), .val (.ref x11), .val (.ref o13), .val (.ref o17), .unset, .val (.int s0_285)] [(.int s0_285)]))
                            refine gIS (c := s0_285 = (0 : Int32)) (fun hc301 => ?_) (fun hc301 => ?_)
                            · refine goS (fun t k => XS.ifYes XJ285.here hx rfl (pc0 := 301) (pc' := 308) rfl (hb hby at_301) rfl ((if0 _ _).trans (teq hc301).1) (by decide) (by decide) k) ?_
                              show GlS _ _ _ _ _ _ _ _ _ _ (TJ285.setTop (mkF m 308 #[.val (.int p1), .val (.int p2), .val (.int p3), .val (.int p4), .val (.int p5), .val (.int p6), .val (.int ((p6 &&& (3 : Int32)) % (3 : Int32))), .val (.int s0_23), .val (.int s0_43), .val (.int s0_59), .val (.int s0_75), .val (.int s0_92), .val (.int (((p6.toUInt32 >>> ((7 : Int32) &&& 31).toUInt32).toInt32) &&& (3 : Int32))), .val (.int s0_113), .val (.int s0_125), .val (.int ((p5 &&& (255 : Int32)).toUInt32.toUInt16.toUInt32.toInt32)), .val (.int ((((p5.toUInt32 >>> ((8 : Int32) &&& 31).toUInt32).toInt32) &&& (255 : Int32)).toUInt32.toUInt16.toUInt32.toInt32)), .val (.int s0_168), .val (.int s0_190), .val (.ref x10), .val (.ref x11), .val (.ref o13), .val (.ref o17), .unset, .val (.int s0_285)] []))
                              exact J308  TJ285 _ XJ285 eJ285 NJ285
                            · refine goS (fun t k => XS.ifNo XJ285.here hx rfl (hb hby at_301) rfl ((if0 _ _).trans (feq hc301).1) k) ?_
                              show GlS _ _ _ _ _ _ _ _ _ _ (TJ285.setTop (mkF m 304 #[.val (.int p1), .val (.int p2), .val (.int p3), .val (.int p4), .val (.int p5), .val (.int p6), .val (.int ((p6 &&& (3 : Int32)) % (3 : Int32))), .val (.int s0_23), .val (.int s0_43), .val (.int s0_59), .val (.int s0_75), .val (.int s0_92), .val (.int (((p6.toUInt32 >>> ((7 : Int32) &&& 31).toUInt32).toInt32) &&& (3 : Int32))), .val (.int s0_113), .val (.int s0_125), .val (.int ((p5 &&& (255 : Int32)).toUInt32.toUInt16.toUInt32.toInt32)), .val (.int ((((p5.toUInt32 >>> ((8 : Int32) &&& 31).toUInt32).toInt32) &&& (255 : Int32)).toUInt32.toUInt16.toUInt32.toInt32)), .val (.int s0_168), .val (.int s0_190), .val (.ref x10), .val (.ref x11), .val (.ref o13), .val (.ref o17), .unset, .val (.int s0_285)] []))
                              refine goS (fun t k => XS.iconst XJ285.here hx rfl (hb hby at_304) k) ?_
                              show GlS _ _ _ _ _ _ _ _ _ _ (TJ285.setTop (mkF m 305 #[.val (.int p1), .val (.int p2), .val (.int p3), .val (.int p4), .val (.int p5), .val (.int p6), .val (.int ((p6 &&& (3 : Int32)) % (3 : Int32))), .val (.int s0_23), .val (.int s0_43), .val (.int s0_59), .val (.int s0_75), .val (.int s0_92), .val (.int (((p6.toUInt32 >>> ((7 : Int32) &&& 31).toUInt32).toInt32) &&& (3 : Int32))), .val (.int s0_113), .val (.int s0_125), .val (.int ((p5 &&& (255 : Int32)).toUInt32.toUInt16.toUInt32.toInt32)), .val (.int ((((p5.toUInt32 >>> ((8 : Int32) &&& 31).toUInt32).toInt32) &&& (255 : Int32)).toUInt32.toUInt16.toUInt32.toInt32)), .val (.int s0_168), .val (.int s0_190), .val (.ref x10), .val (.ref x11), .val (.ref o13), .val (.ref o17), .unset, .val (.int s0_285)] [(.int (1 : Int32))]))
                              refine goS (fun t k => XS.goto XJ285.here hx rfl (pc0 := 305) (pc' := 309) rfl (hb hby at_305) (by decide) (by decide) k) ?_
                              show GlS _ _ _ _ _ _ _ _ _ _ (TJ285.setTop (mkF m 309 #[.val (.int p1), .val (.int p2), .val (.int p3), .val (.int p4), .val (.int p5), .val (.int p6), .val (.int ((p6 &&& (3 : Int32)) % (3 : Int32))), .val (.int s0_23), .val (.int s0_43), .val (.int s0_59), .val (.int s0_75), .val (.int s0_92), .val (.int (((p6.toUInt32 >>> ((7 : Int32) &&& 31).toUInt32).toInt32) &&& (3 : Int32))), .val (.int s0_113), .val (.int s0_125), .val (.int ((p5 &&& (255 : Int32)).toUInt32.toUInt16.toUInt32.toInt32)), .val (.int ((((p5.toUInt32 >>> ((8 : Int32) &&& 31).toUInt32).toInt32) &&& (255 : Int32)).toUInt32.toUInt16.toUInt32.toInt32)), .val (.int s0_168), .val (.int s0_190), .val (.ref x10), .val (.ref x11), .val (.ref o13), .val (.ref o17), .unset, .val (.int s0_285)] [(.int (1 : Int32))]))
                              exact J309 (1 : Int32) TJ285 _ XJ285 eJ285 NJ285
                          · refine goS (fun t k => XS.icmpYes XJ285.here hx rfl (pc0 := 296) (pc' := 308) rfl (hb hby at_296) rfl (feq hc296).2 (by decide) (by decide) k) ?_
                            show GlS _ _ _ _ _ _ _ _ _ _ (TJ285.setTop (mkF m 308 #[.val (.int p1), .val (.int p2), .val (.int p3), .val (.int p4), .val (.int p5), .val (.int p6), .val (.int ((p6 &&& (3 : Int32)) % (3 : Int32))), .val (.int s0_23), .val (.int s0_43), .val (.int s0_59), .val (.int s0_75), .val (.int s0_92), .val (.int (((p6.toUInt32 >>> ((7 : Int32) &&& 31).toUInt32).toInt32) &&& (3 : Int32))), .val (.int s0_113), .val (.int s0_125), .val (.int ((p5 &&& (255 : Int32)).toUInt32.toUInt16.toUInt32.toInt32)), .val (.int ((((p5.toUInt32 >>> ((8 : Int32) &&& 31).toUInt32).toInt32) &&& (255 : Int32)).toUInt32.toUInt16.toUInt32.toInt32)), .val (.int s0_168), .val (.int s0_190), .val (.ref x10), .val (.ref x11), .val (.ref o13), .val (.ref o17), .unset, .val (.int s0_285)] []))
                            exact J308  TJ285 _ XJ285 eJ285 NJ285
                        · refine goS (fun t k => XS.icmpYes XJ285.here hx rfl (pc0 := 290) (pc' := 308) rfl (hb hby at_290) rfl (feq hc290).2 (by decide) (by decide) k) ?_
                          show GlS _ _ _ _ _ _ _ _ _ _ (TJ285.setTop (mkF m 308 #[.val (.int p1), .val (.int p2), .val (.int p3), .val (.int p4), .val (.int p5), .val (.int p6), .val (.int ((p6 &&& (3 : Int32)) % (3 : Int32))), .val (.int s0_23), .val (.int s0_43), .val (.int s0_59), .val (.int s0_75), .val (.int s0_92), .val (.int (((p6.toUInt32 >>> ((7 : Int32) &&& 31).toUInt32).toInt32) &&& (3 : Int32))), .val (.int s0_113), .val (.int s0_125), .val (.int ((p5 &&& (255 : Int32)).toUInt32.toUInt16.toUInt32.toInt32)), .val (.int ((((p5.toUInt32 >>> ((8 : Int32) &&& 31).toUInt32).toInt32) &&& (255 : Int32)).toUInt32.toUInt16.toUInt32.toInt32)), .val (.int s0_168), .val (.int s0_190), .val (.ref x10), .val (.ref x11), .val (.ref o13), .val (.ref o17), .unset, .val (.int s0_285)] []))
                          exact J308  TJ285 _ XJ285 eJ285 NJ285
                      have J284 : ∀  (TJ284 : State) (lJ284 : List Loc) (XJ284 : Stand p l e room_1 (s.setVm T18.vm) m #[(.int p1), (.int p2), (.int p3), (.int p4), (.int p5), (.int p6)] below meth c TJ284 lJ284 18 94) (eJ284 : TJ284.heap = h18) (NJ284 : Fr n0 lJ284), GlS p e below s Z own_EL n0 room_1.cells room_1.slots (Kv (some (.int (b0_284 p1 p2 p5 p6 s0_43 s0_113 s0_125 s0_168 s0_190))) (fun _ => True)) (TJ284.setTop (mkF m 284 #[.val (.int p1), .val (.int p2), .val (.int p3), .val (.int p4), .val (.int p5), .val (.int p6), .val (.int ((p6 &&& (3 : Int32)) % (3 : Int32))), .val (.int s0_23), .val (.int s0_43), .val (.int s0_59), .val (.int s0_75), .val (.int s0_92), .val (.int (((p6.toUInt32 >>> ((7 : Int32) &&& 31).toUInt32).toInt32) &&& (3 : Int32))), .val (.int s0_113), .val (.int s0_125), .val (.int ((p5 &&& (255 : Int32)).toUInt32.toUInt16.toUInt32.toInt32)), .val (.int ((((p5.toUInt32 >>> ((8 : Int32) &&& 31).toUInt32).toInt32) &&& (255 : Int32)).toUInt32.toUInt16.toUInt32.toInt32)), .val (.int s0_168), .val (.int s0_190), .val (.ref x10), .val (.ref x11), .val (.ref o13), .val (.ref o17), .unset, .unset] [])) := by
                        intro  TJ284 lJ284 XJ284 eJ284 NJ284
                        show GlS _ _ _ _ _ _ _ _ _ (Kv (some (.int (b0_285 p1 p2 p5 p6 s0_43 s0_113 s0_125 s0_168 s0_190 (0 : Int32)))) _) _
                        refine goS (fun t k => XS.iconst XJ284.here hx rfl (hb hby at_284) k) ?_
                        show GlS _ _ _ _ _ _ _ _ _ _ (TJ284.setTop (mkF m 285 #[.val (.int p1), .val (.int p2), .val (.int p3), .val (.int p4), .val (.int p5), .val (.int p6), .val (.int ((p6 &&& (3 : Int32)) % (3 : Int32))), .val (.int s0_23), .val (.int s0_43), .val (.int s0_59), .val (.int s0_75), .val (.int s0_92), .val (.int (((p6.toUInt32 >>> ((7 : Int32) &&& 31).toUInt32).toInt32) &&& (3 : Int32))), .val (.int s0_113), .val (.int s0_125), .val (.int ((p5 &&& (255 : Int32)).toUInt32.toUInt16.toUInt32.toInt32)), .val (.int ((((p5.toUInt32 >>> ((8 : Int32) &&& 31).toUInt32).toInt32) &&& (255 : Int32)).toUInt32.toUInt16.toUInt32.toInt32)), .val (.int s0_168), .val (.int s0_190), .val (.ref x10), .val (.ref x11), .val (.ref o13), .val (.ref o17), .unset, .unset] [(.int (0 : Int32))]))
                        exact J285 (0 : Int32) TJ284 _ XJ284 eJ284 NJ284
                      refine gIS (c := ((p6 &&& (3 : Int32)) % (3 : Int32)) = s0_43) (fun hc251 => ?_) (fun hc251 => ?_)
                      · refine goS (fun t k => XS.icmpNo X18.here hx rfl (hb hby at_251) rfl (teq hc251).2 k) ?_
                        show GlS _ _ _ _ _ _ _ _ _ _ (T18.setTop (mkF m 254 #[.val (.int p1), .val (.int p2), .val (.int p3), .val (.int p4), .val (.int p5), .val (.int p6), .val (.int ((p6 &&& (3 : Int32)) % (3 : Int32))), .val (.int s0_23), .val (.int s0_43), .val (.int s0_59), .val (.int s0_75), .val (.int s0_92), .val (.int (((p6.toUInt32 >>> ((7 : Int32) &&& 31).toUInt32).toInt32) &&& (3 : Int32))), .val (.int s0_113), .val (.int s0_125), .val (.int ((p5 &&& (255 : Int32)).toUInt32.toUInt16.toUInt32.toInt32)), .val (.int ((((p5.toUInt32 >>> ((8 : Int32) &&& 31).toUInt32).toInt32) &&& (255 : Int32)).toUInt32.toUInt16.toUInt32.toInt32)), .val (.int s0_168), .val (.int s0_190), .val (.ref x10), .val (.ref x11), .val (.ref o13), .val (.ref o17), .unset, .unset] []))
                        refine goS (fun t k => XS.iload X18.here hx rfl (hb hby at_254) rfl  k) ?_
                        show GlS _ _ _ _ _ _ _ _ _ _ (T18.setTop (mkF m 256 #[.val (.int p1), .val (.int p2), .val (.int p3), .val (.int p4), .val (.int p5), .val (.int p6), .val (.int ((p6 &&& (3 : Int32)) % (3 : Int32))), .val (.int s0_23), .val (.int s0_43), .val (.int s0_59), .val (.int s0_75), .val (.int s0_92), .val (.int (((p6.toUInt32 >>> ((7 : Int32) &&& 31).toUInt32).toInt32) &&& (3 : Int32))), .val (.int s0_113), .val (.int s0_125), .val (.int ((p5 &&& (255 : Int32)).toUInt32.toUInt16.toUInt32.toInt32)), .val (.int ((((p5.toUInt32 >>> ((8 : Int32) &&& 31).toUInt32).toInt32) &&& (255 : Int32)).toUInt32.toUInt16.toUInt32.toInt32)), .val (.int s0_168), .val (.int s0_190), .val (.ref x10), .val (.ref x11), .val (.ref o13), .val (.ref o17), .unset, .unset] [(.int ((p6 &&& (3 : Int32)) % (3 : Int32)))]))
                        refine goS (fun t k => XS.iconst X18.here hx rfl (hb hby at_256) k) ?_
                        show GlS _ _ _ _ _ _ _ _ _ _ (T18.setTop (mkF m 257 #[.val (.int p1), .val (.int p2), .val (.int p3), .val (.int p4), .val (.int p5), .val (.int p6), .val (.int ((p6 &&& (3 : Int32)) % (3 : Int32))), .val (.int s0_23), .val (.int s0_43), .val (.int s0_59), .val (.int s0_75), .val (.int s0_92), .val (.int (((p6.toUInt32 >>> ((7 : Int32) &&& 31).toUInt32).toInt32) &&& (3 : Int32))), .val (.int s0_113), .val (.int s0_125), .val (.int ((p5 &&& (255 : Int32)).toUInt32.toUInt16.toUInt32.toInt32)), .val (.int ((((p5.toUInt32 >>> ((8 : Int32) &&& 31).toUInt32).toInt32) &&& (255 : Int32)).toUInt32.toUInt16.toUInt32.toInt32)), .val (.int s0_168), .val (.int s0_190), .val (.ref x10), .val (.ref x11), .val (.ref o13), .val (.ref o17), .unset, .unset] [(.int (1 : Int32)), (.int ((p6 &&& (3 : Int32)) % (3 : Int32)))]))
                        have J267 : ∀  (TJ267 : State) (lJ267 : List Loc) (XJ267 : Stand p l e room_1 (s.setVm T18.vm) m #[(.int p1), (.int p2), (.int p3), (.int p4), (.int p5), (.int p6)] below meth c TJ267 lJ267 18 94) (eJ267 : TJ267.heap = h18) (NJ267 : Fr n0 lJ267), GlS p e below s Z own_EL n0 room_1.cells room_1.slots (Kv (some (.int (b0_267 p1 p2 p5 p6 s0_43 s0_113 s0_125 s0_168 s0_190))) (fun _ => True)) (TJ267.setTop (mkF m 267 #[.val (.int p1), .val (.int p2), .val (.int p3), .val (.int p4), .val (.int p5), .val (.int p6), .val (.int ((p6 &&& (3 : Int32)) % (3 : Int32))), .val (.int s0_23), .val (.int s0_43), .val (.int s0_59), .val (.int s0_75), .val (.int s0_92), .val (.int (((p6.toUInt32 >>> ((7 : Int32) &&& 31).toUInt32).toInt32) &&& (3 : Int32))), .val (.int s0_113), .val (.int s0_125), .val (.int ((p5 &&& (255 : Int32)).toUInt32.toUInt16.toUInt32.toInt32)), .val (.int ((((p5.toUInt32 >>> ((8 : Int32) &&& 31).toUInt32).toInt32) &&& (255 : Int32)).toUInt32.toUInt16.toUInt32.toInt32)), .val (.int s0_168), .val (.int s0_190), .val (.ref x10), .val (.ref x11), .val (.ref o13), .val (.ref o17), .unset, .unset] [])) := by
                          intro  TJ267 lJ267 XJ267 eJ267 NJ267
                          show GlS _ _ _ _ _ _ _ _ _ (Kv (some (.int (if ((p6 &&& (3 : Int32)) % (3 : Int32)) < (2 : Int32) then (b0_280 p1 p2 p5 p6 s0_43 s0_113 s0_125 s0_168 s0_190) else (if ((((p5.toUInt32 >>> ((8 : Int32) &&& 31).toUInt32).toInt32) &&& (255 : Int32)).toUInt32.toUInt16.toUInt32.toInt32) = s0_190 then (b0_280 p1 p2 p5 p6 s0_43 s0_113 s0_125 s0_168 s0_190) else (b0_284 p1 p2 p5 p6 s0_43 s0_113 s0_125 s0_168 s0_190))))) _) _
                          refine goS (fun t k => XS.iload XJ267.here hx rfl (hb hby at_267) rfl  k) ?_
                          show GlS _ _ _ _ _ _ _ _ _ _ (TJ267.setTop (mkF m 269 #[.val (.int p1), .val (.int p2), .val (.int p3), .val (.int p4), .val (.int p5), .val (.int p6), .val (.int ((p6 &&& (3 : Int32)) % (3 : Int32))), .val (.int s0_23), .val (.int s0_43), .val (.int s0_59), .val (.int s0_75), .val (.int s0_92), .val (.int (((p6.toUInt32 >>> ((7 : Int32) &&& 31).toUInt32).toInt32) &&& (3 : Int32))), .val (.int s0_113), .val (.int s0_125), .val (.int ((p5 &&& (255 : Int32)).toUInt32.toUInt16.toUInt32.toInt32)), .val (.int ((((p5.toUInt32 >>> ((8 : Int32) &&& 31).toUInt32).toInt32) &&& (255 : Int32)).toUInt32.toUInt16.toUInt32.toInt32)), .val (.int s0_168), .val (.int s0_190), .val (.ref x10), .val (.ref x11), .val (.ref o13), .val (.ref o17), .unset, .unset] [(.int ((p6 &&& (3 : Int32)) % (3 : Int32)))]))
                          refine goS (fun t k => XS.iconst XJ267.here hx rfl (hb hby at_269) k) ?_
                          show GlS _ _ _ _ _ _ _ _ _ _ (TJ267.setTop (mkF m 270 #[.val (.int p1), .val (.int p2), .val (.int p3), .val (.int p4), .val (.int p5), .val (.int p6), .val (.int ((p6 &&& (3 : Int32)) % (3 : Int32))), .val (.int s0_23), .val (.int s0_43), .val (.int s0_59), .val (.int s0_75), .val (.int s0_92), .val (.int (((p6.toUInt32 >>> ((7 : Int32) &&& 31).toUInt32).toInt32) &&& (3 : Int32))), .val (.int s0_113), .val (.int s0_125), .val (.int ((p5 &&& (255 : Int32)).toUInt32.toUInt16.toUInt32.toInt32)), .val (.int ((((p5.toUInt32 >>> ((8 : Int32) &&& 31).toUInt32).toInt32) &&& (255 : Int32)).toUInt32.toUInt16.toUInt32.toInt32)), .val (.int s0_168), .val (.int s0_190), .val (.ref x10), .val (.ref x11), .val (.ref o13), .val (.ref o17), .unset, .unset] [(.int (2 : Int32)), (.int ((p6 &&& (3 : Int32)) % (3 : Int32)))]))
                          have J280 : ∀  (TJ280 : State) (lJ280 : List Loc) (XJ280 : Stand p l e room_1 (s.setVm T18.vm) m #[(.int p1), (.int p2), (.int p3), (.int p4), (.int p5), (.int p6)] below meth c TJ280 lJ280 18 94) (eJ280 : TJ280.heap = h18) (NJ280 : Fr n0 lJ280), GlS p e below s Z own_EL n0 room_1.cells room_1.slots (Kv (some (.int (b0_280 p1 p2 p5 p6 s0_43 s0_113 s0_125 s0_168 s0_190))) (fun _ => True)) (TJ280.setTop (mkF m 280 #[.val (.int p1), .val (.int p2), .val (.int p3), .val (.int p4), .val (.int p5), .val (.int p6), .val (.int ((p6 &&& (3 : Int32)) % (3 : Int32))), .val (.int s0_23), .val (.int s0_43), .val (.int s0_59), .val (.int s0_75), .val (.int s0_92), .val (.int (((p6.toUInt32 >>> ((7 : Int32) &&& 31).toUInt32).toInt32) &&& (3 : Int32))), .val (.int s0_113), .val (.int s0_125), .val (.int ((p5 &&& (255 : Int32)).toUInt32.toUInt16.toUInt32.toInt32)), .val (.int ((((p5.toUInt32 >>> ((8 : Int32) &&& 31).toUInt32).toInt32) &&& (255 : Int32)).toUInt32.toUInt16.toUInt32.toInt32)), .val (.int s0_168), .val (.int s0_190), .val (.ref x10), .val (.ref x11), .val (.ref o13), .val (.ref o17), .unset, .unset] [])) := by
                            intro  TJ280 lJ280 XJ280 eJ280 NJ280
                            show GlS _ _ _ _ _ _ _ _ _ (Kv (some (.int (b0_285 p1 p2 p5 p6 s0_43 s0_113 s0_125 s0_168 s0_190 (1 : Int32)))) _) _
                            refine goS (fun t k => XS.iconst XJ280.here hx rfl (hb hby at_280) k) ?_
                            show GlS _ _ _ _ _ _ _ _ _ _ (TJ280.setTop (mkF m 281 #[.val (.int p1), .val (.int p2), .val (.int p3), .val (.int p4), .val (.int p5), .val (.int p6), .val (.int ((p6 &&& (3 : Int32)) % (3 : Int32))), .val (.int s0_23), .val (.int s0_43), .val (.int s0_59), .val (.int s0_75), .val (.int s0_92), .val (.int (((p6.toUInt32 >>> ((7 : Int32) &&& 31).toUInt32).toInt32) &&& (3 : Int32))), .val (.int s0_113), .val (.int s0_125), .val (.int ((p5 &&& (255 : Int32)).toUInt32.toUInt16.toUInt32.toInt32)), .val (.int ((((p5.toUInt32 >>> ((8 : Int32) &&& 31).toUInt32).toInt32) &&& (255 : Int32)).toUInt32.toUInt16.toUInt32.toInt32)), .val (.int s0_168), .val (.int s0_190), .val (.ref x10), .val (.ref x11), .val (.ref o13), .val (.ref o17), .unset, .unset] [(.int (1 : Int32))]))
                            refine goS (fun t k => XS.goto XJ280.here hx rfl (pc0 := 281) (pc' := 285) rfl (hb hby at_281) (by decide) (by decide) k) ?_
                            show GlS _ _ _ _ _ _ _ _ _ _ (TJ280.setTop (mkF m 285 #[.val (.int p1), .val (.int p2), .val (.int p3), .val (.int p4), .val (.int p5), .val (.int p6), .val (.int ((p6 &&& (3 : Int32)) % (3 : Int32))), .val (.int s0_23), .val (.int s0_43), .val (.int s0_59), .val (.int s0_75), .val (.int s0_92), .val (.int (((p6.toUInt32 >>> ((7 : Int32) &&& 31).toUInt32).toInt32) &&& (3 : Int32))), .val (.int s0_113), .val (.int s0_125), .val (.int ((p5 &&& (255 : Int32)).toUInt32.toUInt16.toUInt32.toInt32)), .val (.int ((((p5.toUInt32 >>> ((8 : Int32) &&& 31).toUInt32).toInt32) &&& (255 : Int32)).toUInt32.toUInt16.toUInt32.toInt32)), .val (.int s0_168), .val (.int s0_190), .val (.ref x10), .val (.ref x11), .val (.ref o13), .val (.ref o17), .unset, .unset] [(.int (1 : Int32))]))
                            exact J285 (1 : Int32) TJ280 _ XJ280 eJ280 NJ280
                          refine gIS (c := ((p6 &&& (3 : Int32)) % (3 : Int32)) < (2 : Int32)) (fun hc270 => ?_) (fun hc270 => ?_)
                          · refine goS (fun t k => XS.icmpYes XJ267.here hx rfl (pc0 := 270) (pc' := 280) rfl (hb hby at_270) rfl (tlt hc270).1 (by decide) (by decide) k) ?_
                            show GlS _ _ _ _ _ _ _ _ _ _ (TJ267.setTop (mkF m 280 #[.val (.int p1), .val (.int p2), .val (.int p3), .val (.int p4), .val (.int p5), .val (.int p6), .val (.int ((p6 &&& (3 : Int32)) % (3 : Int32))), .val (.int s0_23), .val (.int s0_43), .val (.int s0_59), .val (.int s0_75), .val (.int s0_92), .val (.int (((p6.toUInt32 >>> ((7 : Int32) &&& 31).toUInt32).toInt32) &&& (3 : Int32))), .val (.int s0_113), .val (.int s0_125), .val (.int ((p5 &&& (255 : Int32)).toUInt32.toUInt16.toUInt32.toInt32)), .val (.int ((((p5.toUInt32 >>> ((8 : Int32) &&& 31).toUInt32).toInt32) &&& (255 : Int32)).toUInt32.toUInt16.toUInt32.toInt32)), .val (.int s0_168), .val (.int s0_190), .val (.ref x10), .val (.ref x11), .val (.ref o13), .val (.ref o17), .unset, .unset] []))
                            exact J280  TJ267 _ XJ267 eJ267 NJ267
                          · refine goS (fun t k => XS.icmpNo XJ267.here hx rfl (hb hby at_270) rfl (flt hc270).1 k) ?_
                            show GlS _ _ _ _ _ _ _ _ _ _ (TJ267.setTop (mkF m 273 #[.val (.int p1), .val (.int p2), .val (.int p3), .val (.int p4), .val (.int p5), .val (.int p6), .val (.int ((p6 &&& (3 : Int32)) % (3 : Int32))), .val (.int s0_23), .val (.int s0_43), .val (.int s0_59), .val (.int s0_75), .val (.int s0_92), .val (.int (((p6.toUInt32 >>> ((7 : Int32) &&& 31).toUInt32).toInt32) &&& (3 : Int32))), .val (.int s0_113), .val (.int s0_125), .val (.int ((p5 &&& (255 : Int32)).toUInt32.toUInt16.toUInt32.toInt32)), .val (.int ((((p5.toUInt32 >>> ((8 : Int32) &&& 31).toUInt32).toInt32) &&& (255 : Int32)).toUInt32.toUInt16.toUInt32.toInt32)), .val (.int s0_168), .val (.int s0_190), .val (.ref x10), .val (.ref x11), .val (.ref o13), .val (.ref o17), .unset, .unset] []))
                            refine goS (fun t k => XS.iload XJ267.here hx rfl (hb hby at_273) rfl  k) ?_
                            show GlS _ _ _ _ _ _ _ _ _ _ (TJ267.setTop (mkF m 275 #[.val (.int p1), .val (.int p2), .val (.int p3), .val (.int p4), .val (.int p5), .val (.int p6), .val (.int ((p6 &&& (3 : Int32)) % (3 : Int32))), .val (.int s0_23), .val (.int s0_43), .val (.int s0_59), .val (.int s0_75), .val (.int s0_92), .val (.int (((p6.toUInt32 >>> ((7 : Int32) &&& 31).toUInt32).toInt32) &&& (3 : Int32))), .val (.int s0_113), .val (.int s0_125), .val (.int ((p5 &&& (255 : Int32)).toUInt32.toUInt16.toUInt32.toInt32)), .val (.int ((((p5.toUInt32 >>> ((8 : Int32) &&& 31).toUInt32).toInt32) &&& (255 : Int32)).toUInt32.toUInt16.toUInt32.toInt32)), .val (.int s0_168), .val (.int s0_190), .val (.ref x10), .val (.ref x11), .val (.ref o13), .val (.ref o17), .unset, .unset] [(.int ((((p5.toUInt32 >>> ((8 : Int32) &&& 31).toUInt32).toInt32) &&& (255 : Int32)).toUInt32.toUInt16.toUInt32.toInt32))]))
                            refine goS (fun t k => XS.iload XJ267.here hx rfl (hb hby at_275) rfl  k) ?_
                            show GlS _ _ _ _ _ _ _ _ _ _ (TJ267.setTop (mkF m 277 #[.val (.int p1), .val (.int p2), .val (.int p3), .val (.int p4), .val (.int p5), .val (.int p6), .val (.int ((p6 &&& (3 : Int32)) % (3 : Int32))), .val (.int s0_23), .val (.int s0_43), .val (.int s0_59), .val (.int s0_75), .val (.int s0_92), .val (.int (((p6.toUInt32 >>> ((7 : Int32) &&& 31).toUInt32).toInt32) &&& (3 : Int32))), .val (.int s0_113), .val (.int s0_125), .val (.int ((p5 &&& (255 : Int32)).toUInt32.toUInt16.toUInt32.toInt32)), .val (.int ((((p5.toUInt32 >>> ((8 : Int32) &&& 31).toUInt32).toInt32) &&& (255 : Int32)).toUInt32.toUInt16.toUInt32.toInt32)), .val (.int s0_168), .val (.int s0_190), .val (.ref x10), .val (.ref x11), .val (.ref o13), .val (.ref o17), .unset, .unset] [(.int s0_190), (.int ((((p5.toUInt32 >>> ((8 : Int32) &&& 31).toUInt32).toInt32) &&& (255 : Int32)).toUInt32.toUInt16.toUInt32.toInt32))]))
                            refine gIS (c := ((((p5.toUInt32 >>> ((8 : Int32) &&& 31).toUInt32).toInt32) &&& (255 : Int32)).toUInt32.toUInt16.toUInt32.toInt32) = s0_190) (fun hc277 => ?_) (fun hc277 => ?_)
                            · refine goS (fun t k => XS.icmpNo XJ267.here hx rfl (hb hby at_277) rfl (teq hc277).2 k) ?_
                              show GlS _ _ _ _ _ _ _ _ _ _ (TJ267.setTop (mkF m 280 #[.val (.int p1), .val (.int p2), .val (.int p3), .val (.int p4), .val (.int p5), .val (.int p6), .val (.int ((p6 &&& (3 : Int32)) % (3 : Int32))), .val (.int s0_23), .val (.int s0_43), .val (.int s0_59), .val (.int s0_75), .val (.int s0_92), .val (.int (((p6.toUInt32 >>> ((7 : Int32) &&& 31).toUInt32).toInt32) &&& (3 : Int32))), .val (.int s0_113), .val (.int s0_125), .val (.int ((p5 &&& (255 : Int32)).toUInt32.toUInt16.toUInt32.toInt32)), .val (.int ((((p5.toUInt32 >>> ((8 : Int32) &&& 31).toUInt32).toInt32) &&& (255 : Int32)).toUInt32.toUInt16.toUInt32.toInt32)), .val (.int s0_168), .val (.int s0_190), .val (.ref x10), .val (.ref x11), .val (.ref o13), .val (.ref o17), .unset, .unset] []))
                              exact J280  TJ267 _ XJ267 eJ267 NJ267
                            · refine goS (fun t k => XS.icmpYes XJ267.here hx rfl (pc0 := 277) (pc' := 284) rfl (hb hby at_277) rfl (feq hc277).2 (by decide) (by decide) k) ?_
                              show GlS _ _ _ _ _ _ _ _ _ _ (TJ267.setTop (mkF m 284 #[.val (.int p1), .val (.int p2), .val (.int p3), .val (.int p4), .val (.int p5), .val (.int p6), .val (.int ((p6 &&& (3 : Int32)) % (3 : Int32))), .val (.int s0_23), .val (.int s0_43), .val (.int s0_59), .val (.int s0_75), .val (.int s0_92), .val (.int (((p6.toUInt32 >>> ((7 : Int32) &&& 31).toUInt32).toInt32) &&& (3 : Int32))), .val (.int s0_113), .val (.int s0_125), .val (.int ((p5 &&& (255 : Int32)).toUInt32.toUInt16.toUInt32.toInt32)), .val (.int ((((p5.toUInt32 >>> ((8 : Int32) &&& 31).toUInt32).toInt32) &&& (255 : Int32)).toUInt32.toUInt16.toUInt32.toInt32)), .val (.int s0_168), .val (.int s0_190), .val (.ref x10), .val (.ref x11), .val (.ref o13), .val (.ref o17), .unset, .unset] []))
                              exact J284  TJ267 _ XJ267 eJ267 NJ267
                        refine gIS (c := ((p6 &&& (3 : Int32)) % (3 : Int32)) < (1 : Int32)) (fun hc257 => ?_) (fun hc257 => ?_)
                        · refine goS (fun t k => XS.icmpYes X18.here hx rfl (pc0 := 257) (pc' := 267) rfl (hb hby at_257) rfl (tlt hc257).1 (by decide) (by decide) k) ?_
                          show GlS _ _ _ _ _ _ _ _ _ _ (T18.setTop (mkF m 267 #[.val (.int p1), .val (.int p2), .val (.int p3), .val (.int p4), .val (.int p5), .val (.int p6), .val (.int ((p6 &&& (3 : Int32)) % (3 : Int32))), .val (.int s0_23), .val (.int s0_43), .val (.int s0_59), .val (.int s0_75), .val (.int s0_92), .val (.int (((p6.toUInt32 >>> ((7 : Int32) &&& 31).toUInt32).toInt32) &&& (3 : Int32))), .val (.int s0_113), .val (.int s0_125), .val (.int ((p5 &&& (255 : Int32)).toUInt32.toUInt16.toUInt32.toInt32)), .val (.int ((((p5.toUInt32 >>> ((8 : Int32) &&& 31).toUInt32).toInt32) &&& (255 : Int32)).toUInt32.toUInt16.toUInt32.toInt32)), .val (.int s0_168), .val (.int s0_190), .val (.ref x10), .val (.ref x11), .val (.ref o13), .val (.ref o17), .unset, .unset] []))
                          exact J267  T18 _ X18 e18 N18
                        · refine goS (fun t k => XS.icmpNo X18.here hx rfl (hb hby at_257) rfl (flt hc257).1 k) ?_
                          show GlS _ _ _ _ _ _ _ _ _ _ (T18.setTop (mkF m 260 #[.val (.int p1), .val (.int p2), .val (.int p3), .val (.int p4), .val (.int p5), .val (.int p6), .val (.int ((p6 &&& (3 : Int32)) % (3 : Int32))), .val (.int s0_23), .val (.int s0_43), .val (.int s0_59), .val (.int s0_75), .val (.int s0_92), .val (.int (((p6.toUInt32 >>> ((7 : Int32) &&& 31).toUInt32).toInt32) &&& (3 : Int32))), .val (.int s0_113), .val (.int s0_125), .val (.int ((p5 &&& (255 : Int32)).toUInt32.toUInt16.toUInt32.toInt32)), .val (.int ((((p5.toUInt32 >>> ((8 : Int32) &&& 31).toUInt32).toInt32) &&& (255 : Int32)).toUInt32.toUInt16.toUInt32.toInt32)), .val (.int s0_168), .val (.int s0_190), .val (.ref x10), .val (.ref x11), .val (.ref o13), .val (.ref o17), .unset, .unset] []))
                          refine goS (fun t k => XS.iload X18.here hx rfl (hb hby at_260) rfl  k) ?_
                          show GlS _ _ _ _ _ _ _ _ _ _ (T18.setTop (mkF m 262 #[.val (.int p1), .val (.int p2), .val (.int p3), .val (.int p4), .val (.int p5), .val (.int p6), .val (.int ((p6 &&& (3 : Int32)) % (3 : Int32))), .val (.int s0_23), .val (.int s0_43), .val (.int s0_59), .val (.int s0_75), .val (.int s0_92), .val (.int (((p6.toUInt32 >>> ((7 : Int32) &&& 31).toUInt32).toInt32) &&& (3 : Int32))), .val (.int s0_113), .val (.int s0_125), .val (.int ((p5 &&& (255 : Int32)).toUInt32.toUInt16.toUInt32.toInt32)), .val (.int ((((p5.toUInt32 >>> ((8 : Int32) &&& 31).toUInt32).toInt32) &&& (255 : Int32)).toUInt32.toUInt16.toUInt32.toInt32)), .val (.int s0_168), .val (.int s0_190), .val (.ref x10), .val (.ref x11), .val (.ref o13), .val (.ref o17), .unset, .unset] [(.int ((p5 &&& (255 : Int32)).toUInt32.toUInt16.toUInt32.toInt32))]))
                          refine goS (fun t k => XS.iload X18.here hx rfl (hb hby at_262) rfl  k) ?_
                          show GlS _ _ _ _ _ _ _ _ _ _ (T18.setTop (mkF m 264 #[.val (.int p1), .val (.int p2), .val (.int p3), .val (.int p4), .val (.int p5), .val (.int p6), .val (.int ((p6 &&& (3 : Int32)) % (3 : Int32))), .val (.int s0_23), .val (.int s0_43), .val (.int s0_59), .val (.int s0_75), .val (.int s0_92), .val (.int (((p6.toUInt32 >>> ((7 : Int32) &&& 31).toUInt32).toInt32) &&& (3 : Int32))), .val (.int s0_113), .val (.int s0_125), .val (.int ((p5 &&& (255 : Int32)).toUInt32.toUInt16.toUInt32.toInt32)), .val (.int ((((p5.toUInt32 >>> ((8 : Int32) &&& 31).toUInt32).toInt32) &&& (255 : Int32)).toUInt32.toUInt16.toUInt32.toInt32)), .val (.int s0_168), .val (.int s0_190), .val (.ref x10), .val (.ref x11), .val (.ref o13), .val (.ref o17), .unset, .unset] [(.int s0_168), (.int ((p5 &&& (255 : Int32)).toUInt32.toUInt16.toUInt32.toInt32))]))
                          refine gIS (c := ((p5 &&& (255 : Int32)).toUInt32.toUInt16.toUInt32.toInt32) = s0_168) (fun hc264 => ?_) (fun hc264 => ?_)
                          · refine goS (fun t k => XS.icmpNo X18.here hx rfl (hb hby at_264) rfl (teq hc264).2 k) ?_
                            show GlS _ _ _ _ _ _ _ _ _ _ (T18.setTop (mkF m 267 #[.val (.int p1), .val (.int p2), .val (.int p3), .val (.int p4), .val (.int p5), .val (.int p6), .val (.int ((p6 &&& (3 : Int32)) % (3 : Int32))), .val (.int s0_23), .val (.int s0_43), .val (.int s0_59), .val (.int s0_75), .val (.int s0_92), .val (.int (((p6.toUInt32 >>> ((7 : Int32) &&& 31).toUInt32).toInt32) &&& (3 : Int32))), .val (.int s0_113), .val (.int s0_125), .val (.int ((p5 &&& (255 : Int32)).toUInt32.toUInt16.toUInt32.toInt32)), .val (.int ((((p5.toUInt32 >>> ((8 : Int32) &&& 31).toUInt32).toInt32) &&& (255 : Int32)).toUInt32.toUInt16.toUInt32.toInt32)), .val (.int s0_168), .val (.int s0_190), .val (.ref x10), .val (.ref x11), .val (.ref o13), .val (.ref o17), .unset, .unset] []))
                            exact J267  T18 _ X18 e18 N18
                          · refine goS (fun t k => XS.icmpYes X18.here hx rfl (pc0 := 264) (pc' := 284) rfl (hb hby at_264) rfl (feq hc264).2 (by decide) (by decide) k) ?_
                            show GlS _ _ _ _ _ _ _ _ _ _ (T18.setTop (mkF m 284 #[.val (.int p1), .val (.int p2), .val (.int p3), .val (.int p4), .val (.int p5), .val (.int p6), .val (.int ((p6 &&& (3 : Int32)) % (3 : Int32))), .val (.int s0_23), .val (.int s0_43), .val (.int s0_59), .val (.int s0_75), .val (.int s0_92), .val (.int (((p6.toUInt32 >>> ((7 : Int32) &&& 31).toUInt32).toInt32) &&& (3 : Int32))), .val (.int s0_113), .val (.int s0_125), .val (.int ((p5 &&& (255 : Int32)).toUInt32.toUInt16.toUInt32.toInt32)), .val (.int ((((p5.toUInt32 >>> ((8 : Int32) &&& 31).toUInt32).toInt32) &&& (255 : Int32)).toUInt32.toUInt16.toUInt32.toInt32)), .val (.int s0_168), .val (.int s0_190), .val (.ref x10), .val (.ref x11), .val (.ref o13), .val (.ref o17), .unset, .unset] []))
                            exact J284  T18 _ X18 e18 N18
                      · refine goS (fun t k => XS.icmpYes X18.here hx rfl (pc0 := 251) (pc' := 284) rfl (hb hby at_251) rfl (feq hc251).2 (by decide) (by decide) k) ?_
                        show GlS _ _ _ _ _ _ _ _ _ _ (T18.setTop (mkF m 284 #[.val (.int p1), .val (.int p2), .val (.int p3), .val (.int p4), .val (.int p5), .val (.int p6), .val (.int ((p6 &&& (3 : Int32)) % (3 : Int32))), .val (.int s0_23), .val (.int s0_43), .val (.int s0_59), .val (.int s0_75), .val (.int s0_92), .val (.int (((p6.toUInt32 >>> ((7 : Int32) &&& 31).toUInt32).toInt32) &&& (3 : Int32))), .val (.int s0_113), .val (.int s0_125), .val (.int ((p5 &&& (255 : Int32)).toUInt32.toUInt16.toUInt32.toInt32)), .val (.int ((((p5.toUInt32 >>> ((8 : Int32) &&& 31).toUInt32).toInt32) &&& (255 : Int32)).toUInt32.toUInt16.toUInt32.toInt32)), .val (.int s0_168), .val (.int s0_190), .val (.ref x10), .val (.ref x11), .val (.ref o13), .val (.ref o17), .unset, .unset] []))
                        exact J284  T18 _ X18 e18 N18
                    · refine goS (fun t k => XS.ifYes X14.here hx rfl (pc0 := 229) (pc' := 314) rfl (hb hby at_229) rfl ((if0 _ _).trans (feq hc229).2) (by decide) (by decide) k) ?_
                      show GlS _ _ _ _ _ _ _ _ _ _ (T14.setTop (mkF m 314 #[.val (.int p1), .val (.int p2), .val (.int p3), .val (.int p4), .val (.int p5), .val (.int p6), .val (.int ((p6 &&& (3 : Int32)) % (3 : Int32))), .val (.int s0_23), .val (.int s0_43), .val (.int s0_59), .val (.int s0_75), .val (.int s0_92), .val (.int (((p6.toUInt32 >>> ((7 : Int32) &&& 31).toUInt32).toInt32) &&& (3 : Int32))), .val (.int s0_113), .val (.int s0_125), .val (.int ((p5 &&& (255 : Int32)).toUInt32.toUInt16.toUInt32.toInt32)), .val (.int ((((p5.toUInt32 >>> ((8 : Int32) &&& 31).toUInt32).toInt32) &&& (255 : Int32)).toUInt32.toUInt16.toUInt32.toInt32)), .val (.int s0_168), .val (.int s0_190), .val (.ref x10), .val (.ref x11), .val (.ref o13), .unset, .unset, .unset] []))
                      refine goS (fun t k => XS.iload X14.here hx rfl (hb hby at_314) rfl  k) ?_
                      show GlS _ _ _ _ _ _ _ _ _ _ (T14.setTop (mkF m 316 #[.val (.int p1), .val (.int p2), .val (.int p3), .val (.int p4), .val (.int p5), .val (.int p6), .val (.int ((p6 &&& (3 : Int32)) % (3 : Int32))), .val (.int s0_23), .val (.int s0_43), .val (.int s0_59), .val (.int s0_75), .val (.int s0_92), .val (.int (((p6.toUInt32 >>> ((7 : Int32) &&& 31).toUInt32).toInt32) &&& (3 : Int32))), .val (.int s0_113), .val (.int s0_125), .val (.int ((p5 &&& (255 : Int32)).toUInt32.toUInt16.toUInt32.toInt32)), .val (.int ((((p5.toUInt32 >>> ((8 : Int32) &&& 31).toUInt32).toInt32) &&& (255 : Int32)).toUInt32.toUInt16.toUInt32.toInt32)), .val (.int s0_168), .val (.int s0_190), .val (.ref x10), .val (.ref x11), .val (.ref o13), .unset, .unset, .unset] [(.int (((p6.toUInt32 >>> ((7 : Int32) &&& 31).toUInt32).toInt32) &&& (3 : Int32)))]))
                      refine goS (fun t k => XS.iconst X14.here hx rfl (hb hby at_316) k) ?_
                      show GlS _ _ _ _ _ _ _ _ _ _ (T14.setTop (mkF m 317 #[.val (.int p1), .val (.int p2), .val (.int p3), .val (.int p4), .val (.int p5), .val (.int p6), .val (.int ((p6 &&& (3 : Int32)) % (3 : Int32))), .val (.int s0_23), .val (.int s0_43), .val (.int s0_59), .val (.int s0_75), .val (.int s0_92), .val (.int (((p6.toUInt32 >>> ((7 : Int32) &&& 31).toUInt32).toInt32) &&& (3 : Int32))), .val (.int s0_113), .val (.int s0_125), .val (.int ((p5 &&& (255 : Int32)).toUInt32.toUInt16.toUInt32.toInt32)), .val (.int ((((p5.toUInt32 >>> ((8 : Int32) &&& 31).toUInt32).toInt32) &&& (255 : Int32)).toUInt32.toUInt16.toUInt32.toInt32)), .val (.int s0_168), .val (.int s0_190), .val (.ref x10), .val (.ref x11), .val (.ref o13), .unset, .unset, .unset] [(.int (1 : Int32)), (.int (((p6.toUInt32 >>> ((7 : Int32) &&& 31).toUInt32).toInt32) &&& (3 : Int32)))]))
                      refine gIS (c := (((p6.toUInt32 >>> ((7 : Int32) &&& 31).toUInt32).toInt32) &&& (3 : Int32)) = (1 : Int32)) (fun hc317 => ?_) (fun hc317 => ?_)
                      · refine goS (fun t k => XS.icmpNo X14.here hx rfl (hb hby at_317) rfl (teq hc317).2 k) ?_
                        show GlS _ _ _ _ _ _ _ _ _ _ (T14.setTop (mkF m 320 #[.val (.int p1), .val (.int p2), .val (.int p3), .val (.int p4), .val (.int p5), .val (.int p6), .val (.int ((p6 &&& (3 : Int32)) % (3 : Int32))), .val (.int s0_23), .val (.int s0_43), .val (.int s0_59), .val (.int s0_75), .val (.int s0_92), .val (.int (((p6.toUInt32 >>> ((7 : Int32) &&& 31).toUInt32).toInt32) &&& (3 : Int32))), .val (.int s0_113), .val (.int s0_125), .val (.int ((p5 &&& (255 : Int32)).toUInt32.toUInt16.toUInt32.toInt32)), .val (.int ((((p5.toUInt32 >>> ((8 : Int32) &&& 31).toUInt32).toInt32) &&& (255 : Int32)).toUInt32.toUInt16.toUInt32.toInt32)), .val (.int s0_168), .val (.int s0_190), .val (.ref x10), .val (.ref x11), .val (.ref o13), .unset, .unset, .unset] []))
                        refine goS (fun t k => XS.aconstNull X14.here hx rfl (hb hby at_320) k) ?_
                        show GlS _ _ _ _ _ _ _ _ _ _ (T14.setTop (mkF m 321 #[.val (.int p1), .val (.int p2), .val (.int p3), .val (.int p4), .val (.int p5), .val (.int p6), .val (.int ((p6 &&& (3 : Int32)) % (3 : Int32))), .val (.int s0_23), .val (.int s0_43), .val (.int s0_59), .val (.int s0_75), .val (.int s0_92), .val (.int (((p6.toUInt32 >>> ((7 : Int32) &&& 31).toUInt32).toInt32) &&& (3 : Int32))), .val (.int s0_113), .val (.int s0_125), .val (.int ((p5 &&& (255 : Int32)).toUInt32.toUInt16.toUInt32.toInt32)), .val (.int ((((p5.toUInt32 >>> ((8 : Int32) &&& 31).toUInt32).toInt32) &&& (255 : Int32)).toUInt32.toUInt16.toUInt32.toInt32)), .val (.int s0_168), .val (.int s0_190), .val (.ref x10), .val (.ref x11), .val (.ref o13), .unset, .unset, .unset] [.null]))
                        refine goS (fun t k => XS.astore X14.here hx rfl (hb hby at_321) rfl rfl (l' := #[.val (.int p1), .val (.int p2), .val (.int p3), .val (.int p4), .val (.int p5), .val (.int p6), .val (.int ((p6 &&& (3 : Int32)) % (3 : Int32))), .val (.int s0_23), .val (.int s0_43), .val (.int s0_59), .val (.int s0_75), .val (.int s0_92), .val (.int (((p6.toUInt32 >>> ((7 : Int32) &&& 31).toUInt32).toInt32) &&& (3 : Int32))), .val (.int s0_113), .val (.int s0_125), .val (.int ((p5 &&& (255 : Int32)).toUInt32.toUInt16.toUInt32.toInt32)), .val (.int ((((p5.toUInt32 >>> ((8 : Int32) &&& 31).toUInt32).toInt32) &&& (255 : Int32)).toUInt32.toUInt16.toUInt32.toInt32)), .val (.int s0_168), .val (.int s0_190), .val (.ref x10), .val (.ref x11), .val (.ref o13), .val .null, .unset, .unset]) rfl k) ?_
                        show GlS _ _ _ _ _ _ _ _ _ _ (T14.setTop (mkF m 323 #[.val (.int p1), .val (.int p2), .val (.int p3), .val (.int p4), .val (.int p5), .val (.int p6), .val (.int ((p6 &&& (3 : Int32)) % (3 : Int32))), .val (.int s0_23), .val (.int s0_43), .val (.int s0_59), .val (.int s0_75), .val (.int s0_92), .val (.int (((p6.toUInt32 >>> ((7 : Int32) &&& 31).toUInt32).toInt32) &&& (3 : Int32))), .val (.int s0_113), .val (.int s0_125), .val (.int ((p5 &&& (255 : Int32)).toUInt32.toUInt16.toUInt32.toInt32)), .val (.int ((((p5.toUInt32 >>> ((8 : Int32) &&& 31).toUInt32).toInt32) &&& (255 : Int32)).toUInt32.toUInt16.toUInt32.toInt32)), .val (.int s0_168), .val (.int s0_190), .val (.ref x10), .val (.ref x11), .val (.ref o13), .val .null, .unset, .unset] []))
                        refine goS (fun t k => XS.iconst X14.here hx rfl (hb hby at_323) k) ?_
                        show GlS _ _ _ _ _ _ _ _ _ _ (T14.setTop (mkF m 324 #[.val (.int p1), .val (.int p2), .val (.int p3), .val (.int p4), .val (.int p5), .val (.int p6), .val (.int ((p6 &&& (3 : Int32)) % (3 : Int32))), .val (.int s0_23), .val (.int s0_43), .val (.int s0_59), .val (.int s0_75), .val (.int s0_92), .val (.int (((p6.toUInt32 >>> ((7 : Int32) &&& 31).toUInt32).toInt32) &&& (3 : Int32))), .val (.int s0_113), .val (.int s0_125), .val (.int ((p5 &&& (255 : Int32)).toUInt32.toUInt16.toUInt32.toInt32)), .val (.int ((((p5.toUInt32 >>> ((8 : Int32) &&& 31).toUInt32).toInt32) &&& (255 : Int32)).toUInt32.toUInt16.toUInt32.toInt32)), .val (.int s0_168), .val (.int s0_190), .val (.ref x10), .val (.ref x11), .val (.ref o13), .val .null, .unset, .unset] [(.int (0 : Int32))]))
                        refine goS (fun t k => XS.istore X14.here hx rfl (hb hby at_324) rfl (l' := #[.val (.int p1), .val (.int p2), .val (.int p3), .val (.int p4), .val (.int p5), .val (.int p6), .val (.int ((p6 &&& (3 : Int32)) % (3 : Int32))), .val (.int s0_23), .val (.int s0_43), .val (.int s0_59), .val (.int s0_75), .val (.int s0_92), .val (.int (((p6.toUInt32 >>> ((7 : Int32) &&& 31).toUInt32).toInt32) &&& (3 : Int32))), .val (.int s0_113), .val (.int s0_125), .val (.int ((p5 &&& (255 : Int32)).toUInt32.toUInt16.toUInt32.toInt32)), .val (.int ((((p5.toUInt32 >>> ((8 : Int32) &&& 31).toUInt32).toInt32) &&& (255 : Int32)).toUInt32.toUInt16.toUInt32.toInt32)), .val (.int s0_168), .val (.int s0_190), .val (.ref x10), .val (.ref x11), .val (.ref o13), .val .null, .val (.int (0 : Int32)), .unset]) rfl k) ?_
                        show GlS _ _ _ _ _ _ _ _ _ _ (T14.setTop (mkF m 326 #[.val (.int p1), .val (.int p2), .val (.int p3), .val (.int p4), .val (.int p5), .val (.int p6), .val (.int ((p6 &&& (3 : Int32)) % (3 : Int32))), .val (.int s0_23), .val (.int s0_43), .val (.int s0_59), .val (.int s0_75), .val (.int s0_92), .val (.int (((p6.toUInt32 >>> ((7 : Int32) &&& 31).toUInt32).toInt32) &&& (3 : Int32))), .val (.int s0_113), .val (.int s0_125), .val (.int ((p5 &&& (255 : Int32)).toUInt32.toUInt16.toUInt32.toInt32)), .val (.int ((((p5.toUInt32 >>> ((8 : Int32) &&& 31).toUInt32).toInt32) &&& (255 : Int32)).toUInt32.toUInt16.toUInt32.toInt32)), .val (.int s0_168), .val (.int s0_190), .val (.ref x10), .val (.ref x11), .val (.ref o13), .val .null, .val (.int (0 : Int32)), .unset] []))
                        refine goS (fun t k => XS.goto X14.here hx rfl (pc0 := 326) (pc' := 352) rfl (hb hby at_326) (by decide) (by decide) k) ?_
                        show GlS _ _ _ _ _ _ _ _ _ _ (T14.setTop (mkF m 352 #[.val (.int p1), .val (.int p2), .val (.int p3), .val (.int p4), .val (.int p5), .val (.int p6), .val (.int ((p6 &&& (3 : Int32)) % (3 : Int32))), .val (.int s0_23), .val (.int s0_43), .val (.int s0_59), .val (.int s0_75), .val (.int s0_92), .val (.int (((p6.toUInt32 >>> ((7 : Int32) &&& 31).toUInt32).toInt32) &&& (3 : Int32))), .val (.int s0_113), .val (.int s0_125), .val (.int ((p5 &&& (255 : Int32)).toUInt32.toUInt16.toUInt32.toInt32)), .val (.int ((((p5.toUInt32 >>> ((8 : Int32) &&& 31).toUInt32).toInt32) &&& (255 : Int32)).toUInt32.toUInt16.toUInt32.toInt32)), .val (.int s0_168), .val (.int s0_190), .val (.ref x10), .val (.ref x11), .val (.ref o13), .val .null, .val (.int (0 : Int32)), .unset] []))
                        refine goS (fun t k => XS.aload X14.here hx rfl (hb hby at_352) rfl rfl k) ?_
                        show GlS _ _ _ _ _ _ _ _ _ _ (T14.setTop (mkF m 354 #[.val (.int p1), .val (.int p2), .val (.int p3), .val (.int p4), .val (.int p5), .val (.int p6), .val (.int ((p6 &&& (3 : Int32)) % (3 : Int32))), .val (.int s0_23), .val (.int s0_43), .val (.int s0_59), .val (.int s0_75), .val (.int s0_92), .val (.int (((p6.toUInt32 >>> ((7 : Int32) &&& 31).toUInt32).toInt32) &&& (3 : Int32))), .val (.int s0_113), .val (.int s0_125), .val (.int ((p5 &&& (255 : Int32)).toUInt32.toUInt16.toUInt32.toInt32)), .val (.int ((((p5.toUInt32 >>> ((8 : Int32) &&& 31).toUInt32).toInt32) &&& (255 : Int32)).toUInt32.toUInt16.toUInt32.toInt32)), .val (.int s0_168), .val (.int s0_190), .val (.ref x10), .val (.ref x11), .val (.ref o13), .val .null, .val (.int (0 : Int32)), .unset] [(.ref o13)]))
                        refine goS (fun t k => XS.aload X14.here hx rfl (hb hby at_354) rfl rfl k) ?_
                        show GlS _ _ _ _ _ _ _ _ _ _ (T14.setTop (mkF m 356 #[.val (.int p1), .val (.int p2), .val (.int p3), .val (.int p4), .val (.int p5), .val (.int p6), .val (.int ((p6 &&& (3 : Int32)) % (3 : Int32))), .val (.int s0_23), .val (.int s0_43), .val (.int s0_59), .val (.int s0_75), .val (.int s0_92), .val (.int (((p6.toUInt32 >>> ((7 : Int32) &&& 31).toUInt32).toInt32) &&& (3 : Int32))), .val (.int s0_113), .val (.int s0_125), .val (.int ((p5 &&& (255 : Int32)).toUInt32.toUInt16.toUInt32.toInt32)), .val (.int ((((p5.toUInt32 >>> ((8 : Int32) &&& 31).toUInt32).toInt32) &&& (255 : Int32)).toUInt32.toUInt16.toUInt32.toInt32)), .val (.int s0_168), .val (.int s0_190), .val (.ref x10), .val (.ref x11), .val (.ref o13), .val .null, .val (.int (0 : Int32)), .unset] [.null, (.ref o13)]))
                        obtain ⟨cq29, kq29, q29a, q29b, q29c⟩ := isOf hZ14 e14 Ex14
                        obtain ⟨_, _, ⟨T29, L29, k29, n29⟩, -, X29, ⟨Lc29, hQ29, l29, y29, z29⟩, st29⟩ := X14.virtualBack hx (y := (⟨"com/example/tercet/tercet/SyntaxWarning", "equals", "(Ljava/lang/Object;)Z"⟩ : MethodName)) (z := (⟨"com/example/tercet/tercet/SyntaxWarning", "equals", "(Ljava/lang/Object;)Z"⟩ : MethodName)) hown14 (mvT hZ14 (hw _ (List.mem_of_getElem? (i := 45) rfl))) (mvT hZ14 (hw _ (List.mem_of_getElem? (i := 46) rfl))) (notFace_of_selects (args := #[]) (mvT hZ14 (hw _ (List.mem_of_getElem? (i := 48) rfl)))) (mvT hZ14 (hw _ (List.mem_of_getElem? (i := 48) rfl))) (mvT hZ14 (hw _ (List.mem_of_getElem? (i := 47) rfl))) (by decide) (backOf (W := 0) (rm7tn l Z a0 hw [] o13 h14 n0 (Nat.le_trans (Nat.le_trans (Nat.le_trans (Nat.le_trans Z0 K10q.1) K11q.1) E13.1) K14q.1) ) hZ14 (hw _ (List.mem_of_getElem? (i := 49) rfl)) (hw _ (List.mem_of_getElem? (i := 28) rfl)) (by decide) (by decide)) q29a q29c (g := (mkF m 356 #[.val (.int p1), .val (.int p2), .val (.int p3), .val (.int p4), .val (.int p5), .val (.int p6), .val (.int ((p6 &&& (3 : Int32)) % (3 : Int32))), .val (.int s0_23), .val (.int s0_43), .val (.int s0_59), .val (.int s0_75), .val (.int s0_92), .val (.int (((p6.toUInt32 >>> ((7 : Int32) &&& 31).toUInt32).toInt32) &&& (3 : Int32))), .val (.int s0_113), .val (.int s0_125), .val (.int ((p5 &&& (255 : Int32)).toUInt32.toUInt16.toUInt32.toInt32)), .val (.int ((((p5.toUInt32 >>> ((8 : Int32) &&& 31).toUInt32).toInt32) &&& (255 : Int32)).toUInt32.toUInt16.toUInt32.toInt32)), .val (.int s0_168), .val (.int s0_190), .val (.ref x10), .val (.ref x11), .val (.ref o13), .val .null, .val (.int (0 : Int32)), .unset] [.null, (.ref o13)])) rfl (by rw [hml]; rfl) (Steps.refl _) (argsL := [.null]) (rest := []) (lenOf pd_3 rfl) rfl (by show 2 * 0 + _ ≤ _; exact Nat.le_of_eq rfl) (hb hby at_356) (fun _ _ => ⟨rfl, e14, (by decide : 15 + 0 ≤ _), (by decide : 59 + 0 ≤ _)⟩)
                        dsimp only [Pt.U, Pt.locs, Pt.cells, Pt.slots] at X29 l29 y29 z29 st29 hQ29
                        subst l29 y29 z29
                        have X29 : Stand p l e room_1 (s.setVm T14.vm) m #[(.int p1), (.int p2), (.int p3), (.int p4), (.int p5), (.int p6)] below meth c T29 _ 15 59 := X29
                        obtain ⟨⟨rfl, e29'⟩, N29q⟩ := hQ29
                        have e29 : T29.heap = h14 := e29'
                        have N29 := Fr.app N14 N29q
                        refine goS (fun t k => st29.trans k) ?_
                        show GlS _ _ _ _ _ _ _ _ _ _ (T29.setTop (mkF m 359 #[.val (.int p1), .val (.int p2), .val (.int p3), .val (.int p4), .val (.int p5), .val (.int p6), .val (.int ((p6 &&& (3 : Int32)) % (3 : Int32))), .val (.int s0_23), .val (.int s0_43), .val (.int s0_59), .val (.int s0_75), .val (.int s0_92), .val (.int (((p6.toUInt32 >>> ((7 : Int32) &&& 31).toUInt32).toInt32) &&& (3 : Int32))), .val (.int s0_113), .val (.int s0_125), .val (.int ((p5 &&& (255 : Int32)).toUInt32.toUInt16.toUInt32.toInt32)), .val (.int ((((p5.toUInt32 >>> ((8 : Int32) &&& 31).toUInt32).toInt32) &&& (255 : Int32)).toUInt32.toUInt16.toUInt32.toInt32)), .val (.int s0_168), .val (.int s0_190), .val (.ref x10), .val (.ref x11), .val (.ref o13), .val .null, .val (.int (0 : Int32)), .unset] [(.int b7tn_0)]))
                        refine goS (fun t k => XS.iload X29.here hx rfl (hb hby at_359) rfl  k) ?_
                        show GlS _ _ _ _ _ _ _ _ _ _ (T29.setTop (mkF m 361 #[.val (.int p1), .val (.int p2), .val (.int p3), .val (.int p4), .val (.int p5), .val (.int p6), .val (.int ((p6 &&& (3 : Int32)) % (3 : Int32))), .val (.int s0_23), .val (.int s0_43), .val (.int s0_59), .val (.int s0_75), .val (.int s0_92), .val (.int (((p6.toUInt32 >>> ((7 : Int32) &&& 31).toUInt32).toInt32) &&& (3 : Int32))), .val (.int s0_113), .val (.int s0_125), .val (.int ((p5 &&& (255 : Int32)).toUInt32.toUInt16.toUInt32.toInt32)), .val (.int ((((p5.toUInt32 >>> ((8 : Int32) &&& 31).toUInt32).toInt32) &&& (255 : Int32)).toUInt32.toUInt16.toUInt32.toInt32)), .val (.int s0_168), .val (.int s0_190), .val (.ref x10), .val (.ref x11), .val (.ref o13), .val .null, .val (.int (0 : Int32)), .unset] [(.int (0 : Int32)), (.int b7tn_0)]))
                        have J369 : ∀ (s0_369 : Int32) (TJ369 : State) (lJ369 : List Loc) (XJ369 : Stand p l e room_1 (s.setVm T14.vm) m #[(.int p1), (.int p2), (.int p3), (.int p4), (.int p5), (.int p6)] below meth c TJ369 lJ369 15 59) (eJ369 : TJ369.heap = h14) (NJ369 : Fr n0 lJ369), GlS p e below s Z own_EL n0 room_1.cells room_1.slots (Kv (some (.int (b0_369x2 s0_369))) (fun _ => True)) (TJ369.setTop (mkF m 369 #[.val (.int p1), .val (.int p2), .val (.int p3), .val (.int p4), .val (.int p5), .val (.int p6), .val (.int ((p6 &&& (3 : Int32)) % (3 : Int32))), .val (.int s0_23), .val (.int s0_43), .val (.int s0_59), .val (.int s0_75), .val (.int s0_92), .val (.int (((p6.toUInt32 >>> ((7 : Int32) &&& 31).toUInt32).toInt32) &&& (3 : Int32))), .val (.int s0_113), .val (.int s0_125), .val (.int ((p5 &&& (255 : Int32)).toUInt32.toUInt16.toUInt32.toInt32)), .val (.int ((((p5.toUInt32 >>> ((8 : Int32) &&& 31).toUInt32).toInt32) &&& (255 : Int32)).toUInt32.toUInt16.toUInt32.toInt32)), .val (.int s0_168), .val (.int s0_190), .val (.ref x10), .val (.ref x11), .val (.ref o13), .val .null, .val (.int (0 : Int32)), .unset] [(.int s0_369)])) := by
                          intro s0_369 TJ369 lJ369 XJ369 eJ369 NJ369
                          show GlS _ _ _ _ _ _ _ _ _ (Kv (some (.int (nar .boolean s0_369))) _) _
                          exact endNS XJ369 hx Bd (t := .boolean) (by simp) (hb hby at_369) ⟨rfl, trivial⟩ NJ369 (by decide) (by decide) hS14 (own_hk eJ369 hk14) (own_cend hh eJ369 (C14.trans (CHv.at XJ369 hZ14 hEL C14.1)))
                        refine gIS (c := b7tn_0 = (0 : Int32)) (fun hc361 => ?_) (fun hc361 => ?_)
                        · refine goS (fun t k => XS.icmpNo X29.here hx rfl (hb hby at_361) rfl (teq hc361).2 k) ?_
                          show GlS _ _ _ _ _ _ _ _ _ _ (T29.setTop (mkF m 364 #[.val (.int p1), .val (.int p2), .val (.int p3), .val (.int p4), .val (.int p5), .val (.int p6), .val (.int ((p6 &&& (3 : Int32)) % (3 : Int32))), .val (.int s0_23), .val (.int s0_43), .val (.int s0_59), .val (.int s0_75), .val (.int s0_92), .val (.int (((p6.toUInt32 >>> ((7 : Int32) &&& 31).toUInt32).toInt32) &&& (3 : Int32))), .val (.int s0_113), .val (.int s0_125), .val (.int ((p5 &&& (255 : Int32)).toUInt32.toUInt16.toUInt32.toInt32)), .val (.int ((((p5.toUInt32 >>> ((8 : Int32) &&& 31).toUInt32).toInt32) &&& (255 : Int32)).toUInt32.toUInt16.toUInt32.toInt32)), .val (.int s0_168), .val (.int s0_190), .val (.ref x10), .val (.ref x11), .val (.ref o13), .val .null, .val (.int (0 : Int32)), .unset] []))
                          refine goS (fun t k => XS.iconst X29.here hx rfl (hb hby at_364) k) ?_
                          show GlS _ _ _ _ _ _ _ _ _ _ (T29.setTop (mkF m 365 #[.val (.int p1), .val (.int p2), .val (.int p3), .val (.int p4), .val (.int p5), .val (.int p6), .val (.int ((p6 &&& (3 : Int32)) % (3 : Int32))), .val (.int s0_23), .val (.int s0_43), .val (.int s0_59), .val (.int s0_75), .val (.int s0_92), .val (.int (((p6.toUInt32 >>> ((7 : Int32) &&& 31).toUInt32).toInt32) &&& (3 : Int32))), .val (.int s0_113), .val (.int s0_125), .val (.int ((p5 &&& (255 : Int32)).toUInt32.toUInt16.toUInt32.toInt32)), .val (.int ((((p5.toUInt32 >>> ((8 : Int32) &&& 31).toUInt32).toInt32) &&& (255 : Int32)).toUInt32.toUInt16.toUInt32.toInt32)), .val (.int s0_168), .val (.int s0_190), .val (.ref x10), .val (.ref x11), .val (.ref o13), .val .null, .val (.int (0 : Int32)), .unset] [(.int (1 : Int32))]))
                          refine goS (fun t k => XS.goto X29.here hx rfl (pc0 := 365) (pc' := 369) rfl (hb hby at_365) (by decide) (by decide) k) ?_
                          show GlS _ _ _ _ _ _ _ _ _ _ (T29.setTop (mkF m 369 #[.val (.int p1), .val (.int p2), .val (.int p3), .val (.int p4), .val (.int p5), .val (.int p6), .val (.int ((p6 &&& (3 : Int32)) % (3 : Int32))), .val (.int s0_23), .val (.int s0_43), .val (.int s0_59), .val (.int s0_75), .val (.int s0_92), .val (.int (((p6.toUInt32 >>> ((7 : Int32) &&& 31).toUInt32).toInt32) &&& (3 : Int32))), .val (.int s0_113), .val (.int s0_125), .val (.int ((p5 &&& (255 : Int32)).toUInt32.toUInt16.toUInt32.toInt32)), .val (.int ((((p5.toUInt32 >>> ((8 : Int32) &&& 31).toUInt32).toInt32) &&& (255 : Int32)).toUInt32.toUInt16.toUInt32.toInt32)), .val (.int s0_168), .val (.int s0_190), .val (.ref x10), .val (.ref x11), .val (.ref o13), .val .null, .val (.int (0 : Int32)), .unset] [(.int (1 : Int32))]))
                          exact J369 (1 : Int32) T29 _ X29 e29 N29
                        · refine goS (fun t k => XS.icmpYes X29.here hx rfl (pc0 := 361) (pc' := 368) rfl (hb hby at_361) rfl (feq hc361).2 (by decide) (by decide) k) ?_
                          show GlS _ _ _ _ _ _ _ _ _ _ (T29.setTop (mkF m 368 #[.val (.int p1), .val (.int p2), .val (.int p3), .val (.int p4), .val (.int p5), .val (.int p6), .val (.int ((p6 &&& (3 : Int32)) % (3 : Int32))), .val (.int s0_23), .val (.int s0_43), .val (.int s0_59), .val (.int s0_75), .val (.int s0_92), .val (.int (((p6.toUInt32 >>> ((7 : Int32) &&& 31).toUInt32).toInt32) &&& (3 : Int32))), .val (.int s0_113), .val (.int s0_125), .val (.int ((p5 &&& (255 : Int32)).toUInt32.toUInt16.toUInt32.toInt32)), .val (.int ((((p5.toUInt32 >>> ((8 : Int32) &&& 31).toUInt32).toInt32) &&& (255 : Int32)).toUInt32.toUInt16.toUInt32.toInt32)), .val (.int s0_168), .val (.int s0_190), .val (.ref x10), .val (.ref x11), .val (.ref o13), .val .null, .val (.int (0 : Int32)), .unset] []))
                          refine goS (fun t k => XS.iconst X29.here hx rfl (hb hby at_368) k) ?_
                          show GlS _ _ _ _ _ _ _ _ _ _ (T29.setTop (mkF m 369 #[.val (.int p1), .val (.int p2), .val (.int p3), .val (.int p4), .val (.int p5), .val (.int p6), .val (.int ((p6 &&& (3 : Int32)) % (3 : Int32))), .val (.int s0_23), .val (.int s0_43), .val (.int s0_59), .val (.int s0_75), .val (.int s0_92), .val (.int (((p6.toUInt32 >>> ((7 : Int32) &&& 31).toUInt32).toInt32) &&& (3 : Int32))), .val (.int s0_113), .val (.int s0_125), .val (.int ((p5 &&& (255 : Int32)).toUInt32.toUInt16.toUInt32.toInt32)), .val (.int ((((p5.toUInt32 >>> ((8 : Int32) &&& 31).toUInt32).toInt32) &&& (255 : Int32)).toUInt32.toUInt16.toUInt32.toInt32)), .val (.int s0_168), .val (.int s0_190), .val (.ref x10), .val (.ref x11), .val (.ref o13), .val .null, .val (.int (0 : Int32)), .unset] [(.int (0 : Int32))]))
                          exact J369 (0 : Int32) T29 _ X29 e29 N29
                      · refine goS (fun t k => XS.icmpYes X14.here hx rfl (pc0 := 317) (pc' := 329) rfl (hb hby at_317) rfl (feq hc317).2 (by decide) (by decide) k) ?_
                        show GlS _ _ _ _ _ _ _ _ _ _ (T14.setTop (mkF m 329 #[.val (.int p1), .val (.int p2), .val (.int p3), .val (.int p4), .val (.int p5), .val (.int p6), .val (.int ((p6 &&& (3 : Int32)) % (3 : Int32))), .val (.int s0_23), .val (.int s0_43), .val (.int s0_59), .val (.int s0_75), .val (.int s0_92), .val (.int (((p6.toUInt32 >>> ((7 : Int32) &&& 31).toUInt32).toInt32) &&& (3 : Int32))), .val (.int s0_113), .val (.int s0_125), .val (.int ((p5 &&& (255 : Int32)).toUInt32.toUInt16.toUInt32.toInt32)), .val (.int ((((p5.toUInt32 >>> ((8 : Int32) &&& 31).toUInt32).toInt32) &&& (255 : Int32)).toUInt32.toUInt16.toUInt32.toInt32)), .val (.int s0_168), .val (.int s0_190), .val (.ref x10), .val (.ref x11), .val (.ref o13), .unset, .unset, .unset] []))
                        refine goS (fun t k => XS.iload X14.here hx rfl (hb hby at_329) rfl  k) ?_
                        show GlS _ _ _ _ _ _ _ _ _ _ (T14.setTop (mkF m 331 #[.val (.int p1), .val (.int p2), .val (.int p3), .val (.int p4), .val (.int p5), .val (.int p6), .val (.int ((p6 &&& (3 : Int32)) % (3 : Int32))), .val (.int s0_23), .val (.int s0_43), .val (.int s0_59), .val (.int s0_75), .val (.int s0_92), .val (.int (((p6.toUInt32 >>> ((7 : Int32) &&& 31).toUInt32).toInt32) &&& (3 : Int32))), .val (.int s0_113), .val (.int s0_125), .val (.int ((p5 &&& (255 : Int32)).toUInt32.toUInt16.toUInt32.toInt32)), .val (.int ((((p5.toUInt32 >>> ((8 : Int32) &&& 31).toUInt32).toInt32) &&& (255 : Int32)).toUInt32.toUInt16.toUInt32.toInt32)), .val (.int s0_168), .val (.int s0_190), .val (.ref x10), .val (.ref x11), .val (.ref o13), .unset, .unset, .unset] [(.int (((p6.toUInt32 >>> ((7 : Int32) &&& 31).toUInt32).toInt32) &&& (3 : Int32)))]))
                        refine goS (fun t k => XS.iconst X14.here hx rfl (hb hby at_331) k) ?_
                        show GlS _ _ _ _ _ _ _ _ _ _ (T14.setTop (mkF m 332 #[.val (.int p1), .val (.int p2), .val (.int p3), .val (.int p4), .val (.int p5), .val (.int p6), .val (.int ((p6 &&& (3 : Int32)) % (3 : Int32))), .val (.int s0_23), .val (.int s0_43), .val (.int s0_59), .val (.int s0_75), .val (.int s0_92), .val (.int (((p6.toUInt32 >>> ((7 : Int32) &&& 31).toUInt32).toInt32) &&& (3 : Int32))), .val (.int s0_113), .val (.int s0_125), .val (.int ((p5 &&& (255 : Int32)).toUInt32.toUInt16.toUInt32.toInt32)), .val (.int ((((p5.toUInt32 >>> ((8 : Int32) &&& 31).toUInt32).toInt32) &&& (255 : Int32)).toUInt32.toUInt16.toUInt32.toInt32)), .val (.int s0_168), .val (.int s0_190), .val (.ref x10), .val (.ref x11), .val (.ref o13), .unset, .unset, .unset] [(.int (2 : Int32)), (.int (((p6.toUInt32 >>> ((7 : Int32) &&& 31).toUInt32).toInt32) &&& (3 : Int32)))]))
                        refine gIS (c := (((p6.toUInt32 >>> ((7 : Int32) &&& 31).toUInt32).toInt32) &&& (3 : Int32)) = (2 : Int32)) (fun hc332 => ?_) (fun hc332 => ?_)
                        · refine goS (fun t k => XS.icmpNo X14.here hx rfl (hb hby at_332) rfl (teq hc332).2 k) ?_
                          show GlS _ _ _ _ _ _ _ _ _ _ (T14.setTop (mkF m 335 #[.val (.int p1), .val (.int p2), .val (.int p3), .val (.int p4), .val (.int p5), .val (.int p6), .val (.int ((p6 &&& (3 : Int32)) % (3 : Int32))), .val (.int s0_23), .val (.int s0_43), .val (.int s0_59), .val (.int s0_75), .val (.int s0_92), .val (.int (((p6.toUInt32 >>> ((7 : Int32) &&& 31).toUInt32).toInt32) &&& (3 : Int32))), .val (.int s0_113), .val (.int s0_125), .val (.int ((p5 &&& (255 : Int32)).toUInt32.toUInt16.toUInt32.toInt32)), .val (.int ((((p5.toUInt32 >>> ((8 : Int32) &&& 31).toUInt32).toInt32) &&& (255 : Int32)).toUInt32.toUInt16.toUInt32.toInt32)), .val (.int s0_168), .val (.int s0_190), .val (.ref x10), .val (.ref x11), .val (.ref o13), .unset, .unset, .unset] []))
                          refine goS (fun t k => XS.aload X14.here hx rfl (hb hby at_335) rfl rfl k) ?_
                          show GlS _ _ _ _ _ _ _ _ _ _ (T14.setTop (mkF m 337 #[.val (.int p1), .val (.int p2), .val (.int p3), .val (.int p4), .val (.int p5), .val (.int p6), .val (.int ((p6 &&& (3 : Int32)) % (3 : Int32))), .val (.int s0_23), .val (.int s0_43), .val (.int s0_59), .val (.int s0_75), .val (.int s0_92), .val (.int (((p6.toUInt32 >>> ((7 : Int32) &&& 31).toUInt32).toInt32) &&& (3 : Int32))), .val (.int s0_113), .val (.int s0_125), .val (.int ((p5 &&& (255 : Int32)).toUInt32.toUInt16.toUInt32.toInt32)), .val (.int ((((p5.toUInt32 >>> ((8 : Int32) &&& 31).toUInt32).toInt32) &&& (255 : Int32)).toUInt32.toUInt16.toUInt32.toInt32)), .val (.int s0_168), .val (.int s0_190), .val (.ref x10), .val (.ref x11), .val (.ref o13), .unset, .unset, .unset] [(.ref x10)]))
                          refine goS (fun t k => XS.astore X14.here hx rfl (hb hby at_337) rfl rfl (l' := #[.val (.int p1), .val (.int p2), .val (.int p3), .val (.int p4), .val (.int p5), .val (.int p6), .val (.int ((p6 &&& (3 : Int32)) % (3 : Int32))), .val (.int s0_23), .val (.int s0_43), .val (.int s0_59), .val (.int s0_75), .val (.int s0_92), .val (.int (((p6.toUInt32 >>> ((7 : Int32) &&& 31).toUInt32).toInt32) &&& (3 : Int32))), .val (.int s0_113), .val (.int s0_125), .val (.int ((p5 &&& (255 : Int32)).toUInt32.toUInt16.toUInt32.toInt32)), .val (.int ((((p5.toUInt32 >>> ((8 : Int32) &&& 31).toUInt32).toInt32) &&& (255 : Int32)).toUInt32.toUInt16.toUInt32.toInt32)), .val (.int s0_168), .val (.int s0_190), .val (.ref x10), .val (.ref x11), .val (.ref o13), .val (.ref x10), .unset, .unset]) rfl k) ?_
                          show GlS _ _ _ _ _ _ _ _ _ _ (T14.setTop (mkF m 339 #[.val (.int p1), .val (.int p2), .val (.int p3), .val (.int p4), .val (.int p5), .val (.int p6), .val (.int ((p6 &&& (3 : Int32)) % (3 : Int32))), .val (.int s0_23), .val (.int s0_43), .val (.int s0_59), .val (.int s0_75), .val (.int s0_92), .val (.int (((p6.toUInt32 >>> ((7 : Int32) &&& 31).toUInt32).toInt32) &&& (3 : Int32))), .val (.int s0_113), .val (.int s0_125), .val (.int ((p5 &&& (255 : Int32)).toUInt32.toUInt16.toUInt32.toInt32)), .val (.int ((((p5.toUInt32 >>> ((8 : Int32) &&& 31).toUInt32).toInt32) &&& (255 : Int32)).toUInt32.toUInt16.toUInt32.toInt32)), .val (.int s0_168), .val (.int s0_190), .val (.ref x10), .val (.ref x11), .val (.ref o13), .val (.ref x10), .unset, .unset] []))
                          refine goS (fun t k => XS.iconst X14.here hx rfl (hb hby at_339) k) ?_
                          show GlS _ _ _ _ _ _ _ _ _ _ (T14.setTop (mkF m 340 #[.val (.int p1), .val (.int p2), .val (.int p3), .val (.int p4), .val (.int p5), .val (.int p6), .val (.int ((p6 &&& (3 : Int32)) % (3 : Int32))), .val (.int s0_23), .val (.int s0_43), .val (.int s0_59), .val (.int s0_75), .val (.int s0_92), .val (.int (((p6.toUInt32 >>> ((7 : Int32) &&& 31).toUInt32).toInt32) &&& (3 : Int32))), .val (.int s0_113), .val (.int s0_125), .val (.int ((p5 &&& (255 : Int32)).toUInt32.toUInt16.toUInt32.toInt32)), .val (.int ((((p5.toUInt32 >>> ((8 : Int32) &&& 31).toUInt32).toInt32) &&& (255 : Int32)).toUInt32.toUInt16.toUInt32.toInt32)), .val (.int s0_168), .val (.int s0_190), .val (.ref x10), .val (.ref x11), .val (.ref o13), .val (.ref x10), .unset, .unset] [(.int (0 : Int32))]))
                          refine goS (fun t k => XS.istore X14.here hx rfl (hb hby at_340) rfl (l' := #[.val (.int p1), .val (.int p2), .val (.int p3), .val (.int p4), .val (.int p5), .val (.int p6), .val (.int ((p6 &&& (3 : Int32)) % (3 : Int32))), .val (.int s0_23), .val (.int s0_43), .val (.int s0_59), .val (.int s0_75), .val (.int s0_92), .val (.int (((p6.toUInt32 >>> ((7 : Int32) &&& 31).toUInt32).toInt32) &&& (3 : Int32))), .val (.int s0_113), .val (.int s0_125), .val (.int ((p5 &&& (255 : Int32)).toUInt32.toUInt16.toUInt32.toInt32)), .val (.int ((((p5.toUInt32 >>> ((8 : Int32) &&& 31).toUInt32).toInt32) &&& (255 : Int32)).toUInt32.toUInt16.toUInt32.toInt32)), .val (.int s0_168), .val (.int s0_190), .val (.ref x10), .val (.ref x11), .val (.ref o13), .val (.ref x10), .val (.int (0 : Int32)), .unset]) rfl k) ?_
                          show GlS _ _ _ _ _ _ _ _ _ _ (T14.setTop (mkF m 342 #[.val (.int p1), .val (.int p2), .val (.int p3), .val (.int p4), .val (.int p5), .val (.int p6), .val (.int ((p6 &&& (3 : Int32)) % (3 : Int32))), .val (.int s0_23), .val (.int s0_43), .val (.int s0_59), .val (.int s0_75), .val (.int s0_92), .val (.int (((p6.toUInt32 >>> ((7 : Int32) &&& 31).toUInt32).toInt32) &&& (3 : Int32))), .val (.int s0_113), .val (.int s0_125), .val (.int ((p5 &&& (255 : Int32)).toUInt32.toUInt16.toUInt32.toInt32)), .val (.int ((((p5.toUInt32 >>> ((8 : Int32) &&& 31).toUInt32).toInt32) &&& (255 : Int32)).toUInt32.toUInt16.toUInt32.toInt32)), .val (.int s0_168), .val (.int s0_190), .val (.ref x10), .val (.ref x11), .val (.ref o13), .val (.ref x10), .val (.int (0 : Int32)), .unset] []))
                          refine goS (fun t k => XS.goto X14.here hx rfl (pc0 := 342) (pc' := 352) rfl (hb hby at_342) (by decide) (by decide) k) ?_
                          show GlS _ _ _ _ _ _ _ _ _ _ (T14.setTop (mkF m 352 #[.val (.int p1), .val (.int p2), .val (.int p3), .val (.int p4), .val (.int p5), .val (.int p6), .val (.int ((p6 &&& (3 : Int32)) % (3 : Int32))), .val (.int s0_23), .val (.int s0_43), .val (.int s0_59), .val (.int s0_75), .val (.int s0_92), .val (.int (((p6.toUInt32 >>> ((7 : Int32) &&& 31).toUInt32).toInt32) &&& (3 : Int32))), .val (.int s0_113), .val (.int s0_125), .val (.int ((p5 &&& (255 : Int32)).toUInt32.toUInt16.toUInt32.toInt32)), .val (.int ((((p5.toUInt32 >>> ((8 : Int32) &&& 31).toUInt32).toInt32) &&& (255 : Int32)).toUInt32.toUInt16.toUInt32.toInt32)), .val (.int s0_168), .val (.int s0_190), .val (.ref x10), .val (.ref x11), .val (.ref o13), .val (.ref x10), .val (.int (0 : Int32)), .unset] []))
                          refine goS (fun t k => XS.aload X14.here hx rfl (hb hby at_352) rfl rfl k) ?_
                          show GlS _ _ _ _ _ _ _ _ _ _ (T14.setTop (mkF m 354 #[.val (.int p1), .val (.int p2), .val (.int p3), .val (.int p4), .val (.int p5), .val (.int p6), .val (.int ((p6 &&& (3 : Int32)) % (3 : Int32))), .val (.int s0_23), .val (.int s0_43), .val (.int s0_59), .val (.int s0_75), .val (.int s0_92), .val (.int (((p6.toUInt32 >>> ((7 : Int32) &&& 31).toUInt32).toInt32) &&& (3 : Int32))), .val (.int s0_113), .val (.int s0_125), .val (.int ((p5 &&& (255 : Int32)).toUInt32.toUInt16.toUInt32.toInt32)), .val (.int ((((p5.toUInt32 >>> ((8 : Int32) &&& 31).toUInt32).toInt32) &&& (255 : Int32)).toUInt32.toUInt16.toUInt32.toInt32)), .val (.int s0_168), .val (.int s0_190), .val (.ref x10), .val (.ref x11), .val (.ref o13), .val (.ref x10), .val (.int (0 : Int32)), .unset] [(.ref o13)]))
                          refine goS (fun t k => XS.aload X14.here hx rfl (hb hby at_354) rfl rfl k) ?_
                          show GlS _ _ _ _ _ _ _ _ _ _ (T14.setTop (mkF m 356 #[.val (.int p1), .val (.int p2), .val (.int p3), .val (.int p4), .val (.int p5), .val (.int p6), .val (.int ((p6 &&& (3 : Int32)) % (3 : Int32))), .val (.int s0_23), .val (.int s0_43), .val (.int s0_59), .val (.int s0_75), .val (.int s0_92), .val (.int (((p6.toUInt32 >>> ((7 : Int32) &&& 31).toUInt32).toInt32) &&& (3 : Int32))), .val (.int s0_113), .val (.int s0_125), .val (.int ((p5 &&& (255 : Int32)).toUInt32.toUInt16.toUInt32.toInt32)), .val (.int ((((p5.toUInt32 >>> ((8 : Int32) &&& 31).toUInt32).toInt32) &&& (255 : Int32)).toUInt32.toUInt16.toUInt32.toInt32)), .val (.int s0_168), .val (.int s0_190), .val (.ref x10), .val (.ref x11), .val (.ref o13), .val (.ref x10), .val (.int (0 : Int32)), .unset] [(.ref x10), (.ref o13)]))
                          obtain ⟨cq31, kq31, q31a, q31b, q31c⟩ := isOf hZ14 e14 Ex14
                          obtain ⟨_, _, ⟨T31, L31, k31, n31⟩, -, X31, ⟨Lc31, hQ31, l31, y31, z31⟩, st31⟩ := X14.virtualBack hx (y := (⟨"com/example/tercet/tercet/SyntaxWarning", "equals", "(Ljava/lang/Object;)Z"⟩ : MethodName)) (z := (⟨"com/example/tercet/tercet/SyntaxWarning", "equals", "(Ljava/lang/Object;)Z"⟩ : MethodName)) hown14 (mvT hZ14 (hw _ (List.mem_of_getElem? (i := 45) rfl))) (mvT hZ14 (hw _ (List.mem_of_getElem? (i := 46) rfl))) (notFace_of_selects (args := #[]) (mvT hZ14 (hw _ (List.mem_of_getElem? (i := 48) rfl)))) (mvT hZ14 (hw _ (List.mem_of_getElem? (i := 48) rfl))) (mvT hZ14 (hw _ (List.mem_of_getElem? (i := 47) rfl))) (by decide) (backOf (W := 0) (rm7ts l Z a0 hw [] o13 x10 h14 n0 (Nat.le_trans (Nat.le_trans (Nat.le_trans (Nat.le_trans Z0 K10q.1) K11q.1) E13.1) K14q.1) (((Ex10.keep K11q).ext E13).keep K14q)) hZ14 (hw _ (List.mem_of_getElem? (i := 49) rfl)) (hw _ (List.mem_of_getElem? (i := 28) rfl)) (by decide) (by decide)) q31a q31c (g := (mkF m 356 #[.val (.int p1), .val (.int p2), .val (.int p3), .val (.int p4), .val (.int p5), .val (.int p6), .val (.int ((p6 &&& (3 : Int32)) % (3 : Int32))), .val (.int s0_23), .val (.int s0_43), .val (.int s0_59), .val (.int s0_75), .val (.int s0_92), .val (.int (((p6.toUInt32 >>> ((7 : Int32) &&& 31).toUInt32).toInt32) &&& (3 : Int32))), .val (.int s0_113), .val (.int s0_125), .val (.int ((p5 &&& (255 : Int32)).toUInt32.toUInt16.toUInt32.toInt32)), .val (.int ((((p5.toUInt32 >>> ((8 : Int32) &&& 31).toUInt32).toInt32) &&& (255 : Int32)).toUInt32.toUInt16.toUInt32.toInt32)), .val (.int s0_168), .val (.int s0_190), .val (.ref x10), .val (.ref x11), .val (.ref o13), .val (.ref x10), .val (.int (0 : Int32)), .unset] [(.ref x10), (.ref o13)])) rfl (by rw [hml]; rfl) (Steps.refl _) (argsL := [(.ref x10)]) (rest := []) (lenOf pd_3 rfl) rfl (by show 2 * 0 + _ ≤ _; exact Nat.le_of_eq rfl) (hb hby at_356) (fun _ _ => ⟨rfl, e14, (by decide : 15 + 0 ≤ _), (by decide : 59 + 0 ≤ _)⟩)
                          dsimp only [Pt.U, Pt.locs, Pt.cells, Pt.slots] at X31 l31 y31 z31 st31 hQ31
                          subst l31 y31 z31
                          have X31 : Stand p l e room_1 (s.setVm T14.vm) m #[(.int p1), (.int p2), (.int p3), (.int p4), (.int p5), (.int p6)] below meth c T31 _ 15 59 := X31
                          obtain ⟨⟨rfl, e31'⟩, N31q⟩ := hQ31
                          have e31 : T31.heap = h14 := e31'
                          have N31 := Fr.app N14 N31q
                          refine goS (fun t k => st31.trans k) ?_
                          show GlS _ _ _ _ _ _ _ _ _ _ (T31.setTop (mkF m 359 #[.val (.int p1), .val (.int p2), .val (.int p3), .val (.int p4), .val (.int p5), .val (.int p6), .val (.int ((p6 &&& (3 : Int32)) % (3 : Int32))), .val (.int s0_23), .val (.int s0_43), .val (.int s0_59), .val (.int s0_75), .val (.int s0_92), .val (.int (((p6.toUInt32 >>> ((7 : Int32) &&& 31).toUInt32).toInt32) &&& (3 : Int32))), .val (.int s0_113), .val (.int s0_125), .val (.int ((p5 &&& (255 : Int32)).toUInt32.toUInt16.toUInt32.toInt32)), .val (.int ((((p5.toUInt32 >>> ((8 : Int32) &&& 31).toUInt32).toInt32) &&& (255 : Int32)).toUInt32.toUInt16.toUInt32.toInt32)), .val (.int s0_168), .val (.int s0_190), .val (.ref x10), .val (.ref x11), .val (.ref o13), .val (.ref x10), .val (.int (0 : Int32)), .unset] [(.int b7ts_0)]))
                          refine goS (fun t k => XS.iload X31.here hx rfl (hb hby at_359) rfl  k) ?_
                          show GlS _ _ _ _ _ _ _ _ _ _ (T31.setTop (mkF m 361 #[.val (.int p1), .val (.int p2), .val (.int p3), .val (.int p4), .val (.int p5), .val (.int p6), .val (.int ((p6 &&& (3 : Int32)) % (3 : Int32))), .val (.int s0_23), .val (.int s0_43), .val (.int s0_59), .val (.int s0_75), .val (.int s0_92), .val (.int (((p6.toUInt32 >>> ((7 : Int32) &&& 31).toUInt32).toInt32) &&& (3 : Int32))), .val (.int s0_113), .val (.int s0_125), .val (.int ((p5 &&& (255 : Int32)).toUInt32.toUInt16.toUInt32.toInt32)), .val (.int ((((p5.toUInt32 >>> ((8 : Int32) &&& 31).toUInt32).toInt32) &&& (255 : Int32)).toUInt32.toUInt16.toUInt32.toInt32)), .val (.int s0_168), .val (.int s0_190), .val (.ref x10), .val (.ref x11), .val (.ref o13), .val (.ref x10), .val (.int (0 : Int32)), .unset] [(.int (0 : Int32)), (.int b7ts_0)]))
                          have J369 : ∀ (s0_369 : Int32) (TJ369 : State) (lJ369 : List Loc) (XJ369 : Stand p l e room_1 (s.setVm T14.vm) m #[(.int p1), (.int p2), (.int p3), (.int p4), (.int p5), (.int p6)] below meth c TJ369 lJ369 15 59) (eJ369 : TJ369.heap = h14) (NJ369 : Fr n0 lJ369), GlS p e below s Z own_EL n0 room_1.cells room_1.slots (Kv (some (.int (b0_369x3 s0_369))) (fun _ => True)) (TJ369.setTop (mkF m 369 #[.val (.int p1), .val (.int p2), .val (.int p3), .val (.int p4), .val (.int p5), .val (.int p6), .val (.int ((p6 &&& (3 : Int32)) % (3 : Int32))), .val (.int s0_23), .val (.int s0_43), .val (.int s0_59), .val (.int s0_75), .val (.int s0_92), .val (.int (((p6.toUInt32 >>> ((7 : Int32) &&& 31).toUInt32).toInt32) &&& (3 : Int32))), .val (.int s0_113), .val (.int s0_125), .val (.int ((p5 &&& (255 : Int32)).toUInt32.toUInt16.toUInt32.toInt32)), .val (.int ((((p5.toUInt32 >>> ((8 : Int32) &&& 31).toUInt32).toInt32) &&& (255 : Int32)).toUInt32.toUInt16.toUInt32.toInt32)), .val (.int s0_168), .val (.int s0_190), .val (.ref x10), .val (.ref x11), .val (.ref o13), .val (.ref x10), .val (.int (0 : Int32)), .unset] [(.int s0_369)])) := by
                            intro s0_369 TJ369 lJ369 XJ369 eJ369 NJ369
                            show GlS _ _ _ _ _ _ _ _ _ (Kv (some (.int (nar .boolean s0_369))) _) _
                            exact endNS XJ369 hx Bd (t := .boolean) (by simp) (hb hby at_369) ⟨rfl, trivial⟩ NJ369 (by decide) (by decide) hS14 (own_hk eJ369 hk14) (own_cend hh eJ369 (C14.trans (CHv.at XJ369 hZ14 hEL C14.1)))
                          refine gIS (c := b7ts_0 = (0 : Int32)) (fun hc361 => ?_) (fun hc361 => ?_)
                          · refine goS (fun t k => XS.icmpNo X31.here hx rfl (hb hby at_361) rfl (teq hc361).2 k) ?_
                            show GlS _ _ _ _ _ _ _ _ _ _ (T31.setTop (mkF m 364 #[.val (.int p1), .val (.int p2), .val (.int p3), .val (.int p4), .val (.int p5), .val (.int p6), .val (.int ((p6 &&& (3 : Int32)) % (3 : Int32))), .val (.int s0_23), .val (.int s0_43), .val (.int s0_59), .val (.int s0_75), .val (.int s0_92), .val (.int (((p6.toUInt32 >>> ((7 : Int32) &&& 31).toUInt32).toInt32) &&& (3 : Int32))), .val (.int s0_113), .val (.int s0_125), .val (.int ((p5 &&& (255 : Int32)).toUInt32.toUInt16.toUInt32.toInt32)), .val (.int ((((p5.toUInt32 >>> ((8 : Int32) &&& 31).toUInt32).toInt32) &&& (255 : Int32)).toUInt32.toUInt16.toUInt32.toInt32)), .val (.int s0_168), .val (.int s0_190), .val (.ref x10), .val (.ref x11), .val (.ref o13), .val (.ref x10), .val (.int (0 : Int32)), .unset] []))
                            refine goS (fun t k => XS.iconst X31.here hx rfl (hb hby at_364) k) ?_
                            show GlS _ _ _ _ _ _ _ _ _ _ (T31.setTop (mkF m 365 #[.val (.int p1), .val (.int p2), .val (.int p3), .val (.int p4), .val (.int p5), .val (.int p6), .val (.int ((p6 &&& (3 : Int32)) % (3 : Int32))), .val (.int s0_23), .val (.int s0_43), .val (.int s0_59), .val (.int s0_75), .val (.int s0_92), .val (.int (((p6.toUInt32 >>> ((7 : Int32) &&& 31).toUInt32).toInt32) &&& (3 : Int32))), .val (.int s0_113), .val (.int s0_125), .val (.int ((p5 &&& (255 : Int32)).toUInt32.toUInt16.toUInt32.toInt32)), .val (.int ((((p5.toUInt32 >>> ((8 : Int32) &&& 31).toUInt32).toInt32) &&& (255 : Int32)).toUInt32.toUInt16.toUInt32.toInt32)), .val (.int s0_168), .val (.int s0_190), .val (.ref x10), .val (.ref x11), .val (.ref o13), .val (.ref x10), .val (.int (0 : Int32)), .unset] [(.int (1 : Int32))]))
                            refine goS (fun t k => XS.goto X31.here hx rfl (pc0 := 365) (pc' := 369) rfl (hb hby at_365) (by decide) (by decide) k) ?_
                            show GlS _ _ _ _ _ _ _ _ _ _ (T31.setTop (mkF m 369 #[.val (.int p1), .val (.int p2), .val (.int p3), .val (.int p4), .val (.int p5), .val (.int p6), .val (.int ((p6 &&& (3 : Int32)) % (3 : Int32))), .val (.int s0_23), .val (.int s0_43), .val (.int s0_59), .val (.int s0_75), .val (.int s0_92), .val (.int (((p6.toUInt32 >>> ((7 : Int32) &&& 31).toUInt32).toInt32) &&& (3 : Int32))), .val (.int s0_113), .val (.int s0_125), .val (.int ((p5 &&& (255 : Int32)).toUInt32.toUInt16.toUInt32.toInt32)), .val (.int ((((p5.toUInt32 >>> ((8 : Int32) &&& 31).toUInt32).toInt32) &&& (255 : Int32)).toUInt32.toUInt16.toUInt32.toInt32)), .val (.int s0_168), .val (.int s0_190), .val (.ref x10), .val (.ref x11), .val (.ref o13), .val (.ref x10), .val (.int (0 : Int32)), .unset] [(.int (1 : Int32))]))
                            exact J369 (1 : Int32) T31 _ X31 e31 N31
                          · refine goS (fun t k => XS.icmpYes X31.here hx rfl (pc0 := 361) (pc' := 368) rfl (hb hby at_361) rfl (feq hc361).2 (by decide) (by decide) k) ?_
                            show GlS _ _ _ _ _ _ _ _ _ _ (T31.setTop (mkF m 368 #[.val (.int p1), .val (.int p2), .val (.int p3), .val (.int p4), .val (.int p5), .val (.int p6), .val (.int ((p6 &&& (3 : Int32)) % (3 : Int32))), .val (.int s0_23), .val (.int s0_43), .val (.int s0_59), .val (.int s0_75), .val (.int s0_92), .val (.int (((p6.toUInt32 >>> ((7 : Int32) &&& 31).toUInt32).toInt32) &&& (3 : Int32))), .val (.int s0_113), .val (.int s0_125), .val (.int ((p5 &&& (255 : Int32)).toUInt32.toUInt16.toUInt32.toInt32)), .val (.int ((((p5.toUInt32 >>> ((8 : Int32) &&& 31).toUInt32).toInt32) &&& (255 : Int32)).toUInt32.toUInt16.toUInt32.toInt32)), .val (.int s0_168), .val (.int s0_190), .val (.ref x10), .val (.ref x11), .val (.ref o13), .val (.ref x10), .val (.int (0 : Int32)), .unset] []))
                            refine goS (fun t k => XS.iconst X31.here hx rfl (hb hby at_368) k) ?_
                            show GlS _ _ _ _ _ _ _ _ _ _ (T31.setTop (mkF m 369 #[.val (.int p1), .val (.int p2), .val (.int p3), .val (.int p4), .val (.int p5), .val (.int p6), .val (.int ((p6 &&& (3 : Int32)) % (3 : Int32))), .val (.int s0_23), .val (.int s0_43), .val (.int s0_59), .val (.int s0_75), .val (.int s0_92), .val (.int (((p6.toUInt32 >>> ((7 : Int32) &&& 31).toUInt32).toInt32) &&& (3 : Int32))), .val (.int s0_113), .val (.int s0_125), .val (.int ((p5 &&& (255 : Int32)).toUInt32.toUInt16.toUInt32.toInt32)), .val (.int ((((p5.toUInt32 >>> ((8 : Int32) &&& 31).toUInt32).toInt32) &&& (255 : Int32)).toUInt32.toUInt16.toUInt32.toInt32)), .val (.int s0_168), .val (.int s0_190), .val (.ref x10), .val (.ref x11), .val (.ref o13), .val (.ref x10), .val (.int (0 : Int32)), .unset] [(.int (0 : Int32))]))
                            exact J369 (0 : Int32) T31 _ X31 e31 N31
                        · refine goS (fun t k => XS.icmpYes X14.here hx rfl (pc0 := 332) (pc' := 345) rfl (hb hby at_332) rfl (feq hc332).2 (by decide) (by decide) k) ?_
                          show GlS _ _ _ _ _ _ _ _ _ _ (T14.setTop (mkF m 345 #[.val (.int p1), .val (.int p2), .val (.int p3), .val (.int p4), .val (.int p5), .val (.int p6), .val (.int ((p6 &&& (3 : Int32)) % (3 : Int32))), .val (.int s0_23), .val (.int s0_43), .val (.int s0_59), .val (.int s0_75), .val (.int s0_92), .val (.int (((p6.toUInt32 >>> ((7 : Int32) &&& 31).toUInt32).toInt32) &&& (3 : Int32))), .val (.int s0_113), .val (.int s0_125), .val (.int ((p5 &&& (255 : Int32)).toUInt32.toUInt16.toUInt32.toInt32)), .val (.int ((((p5.toUInt32 >>> ((8 : Int32) &&& 31).toUInt32).toInt32) &&& (255 : Int32)).toUInt32.toUInt16.toUInt32.toInt32)), .val (.int s0_168), .val (.int s0_190), .val (.ref x10), .val (.ref x11), .val (.ref o13), .unset, .unset, .unset] []))
                          refine goS (fun t k => XS.aload X14.here hx rfl (hb hby at_345) rfl rfl k) ?_
                          show GlS _ _ _ _ _ _ _ _ _ _ (T14.setTop (mkF m 347 #[.val (.int p1), .val (.int p2), .val (.int p3), .val (.int p4), .val (.int p5), .val (.int p6), .val (.int ((p6 &&& (3 : Int32)) % (3 : Int32))), .val (.int s0_23), .val (.int s0_43), .val (.int s0_59), .val (.int s0_75), .val (.int s0_92), .val (.int (((p6.toUInt32 >>> ((7 : Int32) &&& 31).toUInt32).toInt32) &&& (3 : Int32))), .val (.int s0_113), .val (.int s0_125), .val (.int ((p5 &&& (255 : Int32)).toUInt32.toUInt16.toUInt32.toInt32)), .val (.int ((((p5.toUInt32 >>> ((8 : Int32) &&& 31).toUInt32).toInt32) &&& (255 : Int32)).toUInt32.toUInt16.toUInt32.toInt32)), .val (.int s0_168), .val (.int s0_190), .val (.ref x10), .val (.ref x11), .val (.ref o13), .unset, .unset, .unset] [(.ref o13)]))
                          refine goS (fun t k => XS.astore X14.here hx rfl (hb hby at_347) rfl rfl (l' := #[.val (.int p1), .val (.int p2), .val (.int p3), .val (.int p4), .val (.int p5), .val (.int p6), .val (.int ((p6 &&& (3 : Int32)) % (3 : Int32))), .val (.int s0_23), .val (.int s0_43), .val (.int s0_59), .val (.int s0_75), .val (.int s0_92), .val (.int (((p6.toUInt32 >>> ((7 : Int32) &&& 31).toUInt32).toInt32) &&& (3 : Int32))), .val (.int s0_113), .val (.int s0_125), .val (.int ((p5 &&& (255 : Int32)).toUInt32.toUInt16.toUInt32.toInt32)), .val (.int ((((p5.toUInt32 >>> ((8 : Int32) &&& 31).toUInt32).toInt32) &&& (255 : Int32)).toUInt32.toUInt16.toUInt32.toInt32)), .val (.int s0_168), .val (.int s0_190), .val (.ref x10), .val (.ref x11), .val (.ref o13), .val (.ref o13), .unset, .unset]) rfl k) ?_
                          show GlS _ _ _ _ _ _ _ _ _ _ (T14.setTop (mkF m 349 #[.val (.int p1), .val (.int p2), .val (.int p3), .val (.int p4), .val (.int p5), .val (.int p6), .val (.int ((p6 &&& (3 : Int32)) % (3 : Int32))), .val (.int s0_23), .val (.int s0_43), .val (.int s0_59), .val (.int s0_75), .val (.int s0_92), .val (.int (((p6.toUInt32 >>> ((7 : Int32) &&& 31).toUInt32).toInt32) &&& (3 : Int32))), .val (.int s0_113), .val (.int s0_125), .val (.int ((p5 &&& (255 : Int32)).toUInt32.toUInt16.toUInt32.toInt32)), .val (.int ((((p5.toUInt32 >>> ((8 : Int32) &&& 31).toUInt32).toInt32) &&& (255 : Int32)).toUInt32.toUInt16.toUInt32.toInt32)), .val (.int s0_168), .val (.int s0_190), .val (.ref x10), .val (.ref x11), .val (.ref o13), .val (.ref o13), .unset, .unset] []))
                          refine goS (fun t k => XS.iconst X14.here hx rfl (hb hby at_349) k) ?_
                          show GlS _ _ _ _ _ _ _ _ _ _ (T14.setTop (mkF m 350 #[.val (.int p1), .val (.int p2), .val (.int p3), .val (.int p4), .val (.int p5), .val (.int p6), .val (.int ((p6 &&& (3 : Int32)) % (3 : Int32))), .val (.int s0_23), .val (.int s0_43), .val (.int s0_59), .val (.int s0_75), .val (.int s0_92), .val (.int (((p6.toUInt32 >>> ((7 : Int32) &&& 31).toUInt32).toInt32) &&& (3 : Int32))), .val (.int s0_113), .val (.int s0_125), .val (.int ((p5 &&& (255 : Int32)).toUInt32.toUInt16.toUInt32.toInt32)), .val (.int ((((p5.toUInt32 >>> ((8 : Int32) &&& 31).toUInt32).toInt32) &&& (255 : Int32)).toUInt32.toUInt16.toUInt32.toInt32)), .val (.int s0_168), .val (.int s0_190), .val (.ref x10), .val (.ref x11), .val (.ref o13), .val (.ref o13), .unset, .unset] [(.int (1 : Int32))]))
                          refine goS (fun t k => XS.istore X14.here hx rfl (hb hby at_350) rfl (l' := #[.val (.int p1), .val (.int p2), .val (.int p3), .val (.int p4), .val (.int p5), .val (.int p6), .val (.int ((p6 &&& (3 : Int32)) % (3 : Int32))), .val (.int s0_23), .val (.int s0_43), .val (.int s0_59), .val (.int s0_75), .val (.int s0_92), .val (.int (((p6.toUInt32 >>> ((7 : Int32) &&& 31).toUInt32).toInt32) &&& (3 : Int32))), .val (.int s0_113), .val (.int s0_125), .val (.int ((p5 &&& (255 : Int32)).toUInt32.toUInt16.toUInt32.toInt32)), .val (.int ((((p5.toUInt32 >>> ((8 : Int32) &&& 31).toUInt32).toInt32) &&& (255 : Int32)).toUInt32.toUInt16.toUInt32.toInt32)), .val (.int s0_168), .val (.int s0_190), .val (.ref x10), .val (.ref x11), .val (.ref o13), .val (.ref o13), .val (.int (1 : Int32)), .unset]) rfl k) ?_
                          show GlS _ _ _ _ _ _ _ _ _ _ (T14.setTop (mkF m 352 #[.val (.int p1), .val (.int p2), .val (.int p3), .val (.int p4), .val (.int p5), .val (.int p6), .val (.int ((p6 &&& (3 : Int32)) % (3 : Int32))), .val (.int s0_23), .val (.int s0_43), .val (.int s0_59), .val (.int s0_75), .val (.int s0_92), .val (.int (((p6.toUInt32 >>> ((7 : Int32) &&& 31).toUInt32).toInt32) &&& (3 : Int32))), .val (.int s0_113), .val (.int s0_125), .val (.int ((p5 &&& (255 : Int32)).toUInt32.toUInt16.toUInt32.toInt32)), .val (.int ((((p5.toUInt32 >>> ((8 : Int32) &&& 31).toUInt32).toInt32) &&& (255 : Int32)).toUInt32.toUInt16.toUInt32.toInt32)), .val (.int s0_168), .val (.int s0_190), .val (.ref x10), .val (.ref x11), .val (.ref o13), .val (.ref o13), .val (.int (1 : Int32)), .unset] []))
                          refine goS (fun t k => XS.aload X14.here hx rfl (hb hby at_352) rfl rfl k) ?_
                          show GlS _ _ _ _ _ _ _ _ _ _ (T14.setTop (mkF m 354 #[.val (.int p1), .val (.int p2), .val (.int p3), .val (.int p4), .val (.int p5), .val (.int p6), .val (.int ((p6 &&& (3 : Int32)) % (3 : Int32))), .val (.int s0_23), .val (.int s0_43), .val (.int s0_59), .val (.int s0_75), .val (.int s0_92), .val (.int (((p6.toUInt32 >>> ((7 : Int32) &&& 31).toUInt32).toInt32) &&& (3 : Int32))), .val (.int s0_113), .val (.int s0_125), .val (.int ((p5 &&& (255 : Int32)).toUInt32.toUInt16.toUInt32.toInt32)), .val (.int ((((p5.toUInt32 >>> ((8 : Int32) &&& 31).toUInt32).toInt32) &&& (255 : Int32)).toUInt32.toUInt16.toUInt32.toInt32)), .val (.int s0_168), .val (.int s0_190), .val (.ref x10), .val (.ref x11), .val (.ref o13), .val (.ref o13), .val (.int (1 : Int32)), .unset] [(.ref o13)]))
                          refine goS (fun t k => XS.aload X14.here hx rfl (hb hby at_354) rfl rfl k) ?_
                          show GlS _ _ _ _ _ _ _ _ _ _ (T14.setTop (mkF m 356 #[.val (.int p1), .val (.int p2), .val (.int p3), .val (.int p4), .val (.int p5), .val (.int p6), .val (.int ((p6 &&& (3 : Int32)) % (3 : Int32))), .val (.int s0_23), .val (.int s0_43), .val (.int s0_59), .val (.int s0_75), .val (.int s0_92), .val (.int (((p6.toUInt32 >>> ((7 : Int32) &&& 31).toUInt32).toInt32) &&& (3 : Int32))), .val (.int s0_113), .val (.int s0_125), .val (.int ((p5 &&& (255 : Int32)).toUInt32.toUInt16.toUInt32.toInt32)), .val (.int ((((p5.toUInt32 >>> ((8 : Int32) &&& 31).toUInt32).toInt32) &&& (255 : Int32)).toUInt32.toUInt16.toUInt32.toInt32)), .val (.int s0_168), .val (.int s0_190), .val (.ref x10), .val (.ref x11), .val (.ref o13), .val (.ref o13), .val (.int (1 : Int32)), .unset] [(.ref o13), (.ref o13)]))
                          obtain ⟨cq33, kq33, q33a, q33b, q33c⟩ := isOf hZ14 e14 Ex14
                          obtain ⟨_, _, ⟨T33, L33, k33, n33⟩, -, X33, ⟨Lc33, hQ33, l33, y33, z33⟩, st33⟩ := X14.virtualBack hx (y := (⟨"com/example/tercet/tercet/SyntaxWarning", "equals", "(Ljava/lang/Object;)Z"⟩ : MethodName)) (z := (⟨"com/example/tercet/tercet/SyntaxWarning", "equals", "(Ljava/lang/Object;)Z"⟩ : MethodName)) hown14 (mvT hZ14 (hw _ (List.mem_of_getElem? (i := 45) rfl))) (mvT hZ14 (hw _ (List.mem_of_getElem? (i := 46) rfl))) (notFace_of_selects (args := #[]) (mvT hZ14 (hw _ (List.mem_of_getElem? (i := 48) rfl)))) (mvT hZ14 (hw _ (List.mem_of_getElem? (i := 48) rfl))) (mvT hZ14 (hw _ (List.mem_of_getElem? (i := 47) rfl))) (by decide) (backOf (W := 0) (rm7tw l Z a0 hw [] o13 o13 p1 p2 x10 p1 p2 x10 w_COMPACT_STRINGS (own_cs ((p6 &&& (3 : Int32)) % (3 : Int32)) (nar .char ((p5 &&& (255 : Int32)).toUInt32.toUInt16.toUInt32.toInt32)) (nar .char ((((p5.toUInt32 >>> ((8 : Int32) &&& 31).toUInt32).toInt32) &&& (255 : Int32)).toUInt32.toUInt16.toUInt32.toInt32))) (own_cs ((p6 &&& (3 : Int32)) % (3 : Int32)) (nar .char ((p5 &&& (255 : Int32)).toUInt32.toUInt16.toUInt32.toInt32)) (nar .char ((((p5.toUInt32 >>> ((8 : Int32) &&& 31).toUInt32).toInt32) &&& (255 : Int32)).toUInt32.toUInt16.toUInt32.toInt32))) h14 n0 (Nat.le_trans (Nat.le_trans (Nat.le_trans (Nat.le_trans Z0 K10q.1) K11q.1) E13.1) K14q.1) Ex14 Fq14_line Fq14_column Fq14_message Ex14 Fq14_line Fq14_column Fq14_message (sta_keep ((sta_keep0 (sta_keep0 S_COMPACT_STRINGS K10q) K11q).ext E13) K14q A13) ts16 ts16 hcz (own_lats (own_narb (own_chb _)) (own_narb (own_chb _))) (own_lats (own_narb (own_chb _)) (own_narb (own_chb _)))) hZ14 (hw _ (List.mem_of_getElem? (i := 49) rfl)) (hw _ (List.mem_of_getElem? (i := 28) rfl)) (by decide) (by decide)) q33a q33c (g := (mkF m 356 #[.val (.int p1), .val (.int p2), .val (.int p3), .val (.int p4), .val (.int p5), .val (.int p6), .val (.int ((p6 &&& (3 : Int32)) % (3 : Int32))), .val (.int s0_23), .val (.int s0_43), .val (.int s0_59), .val (.int s0_75), .val (.int s0_92), .val (.int (((p6.toUInt32 >>> ((7 : Int32) &&& 31).toUInt32).toInt32) &&& (3 : Int32))), .val (.int s0_113), .val (.int s0_125), .val (.int ((p5 &&& (255 : Int32)).toUInt32.toUInt16.toUInt32.toInt32)), .val (.int ((((p5.toUInt32 >>> ((8 : Int32) &&& 31).toUInt32).toInt32) &&& (255 : Int32)).toUInt32.toUInt16.toUInt32.toInt32)), .val (.int s0_168), .val (.int s0_190), .val (.ref x10), .val (.ref x11), .val (.ref o13), .val (.ref o13), .val (.int (1 : Int32)), .unset] [(.ref o13), (.ref o13)])) rfl (by rw [hml]; rfl) (Steps.refl _) (argsL := [(.ref o13)]) (rest := []) (lenOf pd_3 rfl) rfl (by show 2 * 0 + _ ≤ _; exact Nat.le_of_eq rfl) (hb hby at_356) (fun _ _ => ⟨rfl, e14, (by decide : 15 + 0 ≤ _), (by decide : 59 + 0 ≤ _)⟩)
                          dsimp only [Pt.U, Pt.locs, Pt.cells, Pt.slots] at X33 l33 y33 z33 st33 hQ33
                          subst l33 y33 z33
                          have X33 : Stand p l e room_1 (s.setVm T14.vm) m #[(.int p1), (.int p2), (.int p3), (.int p4), (.int p5), (.int p6)] below meth c T33 _ 15 59 := X33
                          obtain ⟨⟨rfl, e33'⟩, N33q⟩ := hQ33
                          have e33 : T33.heap = h14 := e33'
                          have N33 := Fr.app N14 N33q
                          refine goS (fun t k => st33.trans k) ?_
                          show GlS _ _ _ _ _ _ _ _ _ _ (T33.setTop (mkF m 359 #[.val (.int p1), .val (.int p2), .val (.int p3), .val (.int p4), .val (.int p5), .val (.int p6), .val (.int ((p6 &&& (3 : Int32)) % (3 : Int32))), .val (.int s0_23), .val (.int s0_43), .val (.int s0_59), .val (.int s0_75), .val (.int s0_92), .val (.int (((p6.toUInt32 >>> ((7 : Int32) &&& 31).toUInt32).toInt32) &&& (3 : Int32))), .val (.int s0_113), .val (.int s0_125), .val (.int ((p5 &&& (255 : Int32)).toUInt32.toUInt16.toUInt32.toInt32)), .val (.int ((((p5.toUInt32 >>> ((8 : Int32) &&& 31).toUInt32).toInt32) &&& (255 : Int32)).toUInt32.toUInt16.toUInt32.toInt32)), .val (.int s0_168), .val (.int s0_190), .val (.ref x10), .val (.ref x11), .val (.ref o13), .val (.ref o13), .val (.int (1 : Int32)), .unset] [(.int (b7tw_0 p1 p2 p1 p2 (own_cs ((p6 &&& (3 : Int32)) % (3 : Int32)) (nar .char ((p5 &&& (255 : Int32)).toUInt32.toUInt16.toUInt32.toInt32)) (nar .char ((((p5.toUInt32 >>> ((8 : Int32) &&& 31).toUInt32).toInt32) &&& (255 : Int32)).toUInt32.toUInt16.toUInt32.toInt32))) (own_cs ((p6 &&& (3 : Int32)) % (3 : Int32)) (nar .char ((p5 &&& (255 : Int32)).toUInt32.toUInt16.toUInt32.toInt32)) (nar .char ((((p5.toUInt32 >>> ((8 : Int32) &&& 31).toUInt32).toInt32) &&& (255 : Int32)).toUInt32.toUInt16.toUInt32.toInt32)))))]))
                          refine goS (fun t k => XS.iload X33.here hx rfl (hb hby at_359) rfl  k) ?_
                          show GlS _ _ _ _ _ _ _ _ _ _ (T33.setTop (mkF m 361 #[.val (.int p1), .val (.int p2), .val (.int p3), .val (.int p4), .val (.int p5), .val (.int p6), .val (.int ((p6 &&& (3 : Int32)) % (3 : Int32))), .val (.int s0_23), .val (.int s0_43), .val (.int s0_59), .val (.int s0_75), .val (.int s0_92), .val (.int (((p6.toUInt32 >>> ((7 : Int32) &&& 31).toUInt32).toInt32) &&& (3 : Int32))), .val (.int s0_113), .val (.int s0_125), .val (.int ((p5 &&& (255 : Int32)).toUInt32.toUInt16.toUInt32.toInt32)), .val (.int ((((p5.toUInt32 >>> ((8 : Int32) &&& 31).toUInt32).toInt32) &&& (255 : Int32)).toUInt32.toUInt16.toUInt32.toInt32)), .val (.int s0_168), .val (.int s0_190), .val (.ref x10), .val (.ref x11), .val (.ref o13), .val (.ref o13), .val (.int (1 : Int32)), .unset] [(.int (1 : Int32)), (.int (b7tw_0 p1 p2 p1 p2 (own_cs ((p6 &&& (3 : Int32)) % (3 : Int32)) (nar .char ((p5 &&& (255 : Int32)).toUInt32.toUInt16.toUInt32.toInt32)) (nar .char ((((p5.toUInt32 >>> ((8 : Int32) &&& 31).toUInt32).toInt32) &&& (255 : Int32)).toUInt32.toUInt16.toUInt32.toInt32))) (own_cs ((p6 &&& (3 : Int32)) % (3 : Int32)) (nar .char ((p5 &&& (255 : Int32)).toUInt32.toUInt16.toUInt32.toInt32)) (nar .char ((((p5.toUInt32 >>> ((8 : Int32) &&& 31).toUInt32).toInt32) &&& (255 : Int32)).toUInt32.toUInt16.toUInt32.toInt32)))))]))
                          have J369 : ∀ (s0_369 : Int32) (TJ369 : State) (lJ369 : List Loc) (XJ369 : Stand p l e room_1 (s.setVm T14.vm) m #[(.int p1), (.int p2), (.int p3), (.int p4), (.int p5), (.int p6)] below meth c TJ369 lJ369 15 59) (eJ369 : TJ369.heap = h14) (NJ369 : Fr n0 lJ369), GlS p e below s Z own_EL n0 room_1.cells room_1.slots (Kv (some (.int (b0_369x4 s0_369))) (fun _ => True)) (TJ369.setTop (mkF m 369 #[.val (.int p1), .val (.int p2), .val (.int p3), .val (.int p4), .val (.int p5), .val (.int p6), .val (.int ((p6 &&& (3 : Int32)) % (3 : Int32))), .val (.int s0_23), .val (.int s0_43), .val (.int s0_59), .val (.int s0_75), .val (.int s0_92), .val (.int (((p6.toUInt32 >>> ((7 : Int32) &&& 31).toUInt32).toInt32) &&& (3 : Int32))), .val (.int s0_113), .val (.int s0_125), .val (.int ((p5 &&& (255 : Int32)).toUInt32.toUInt16.toUInt32.toInt32)), .val (.int ((((p5.toUInt32 >>> ((8 : Int32) &&& 31).toUInt32).toInt32) &&& (255 : Int32)).toUInt32.toUInt16.toUInt32.toInt32)), .val (.int s0_168), .val (.int s0_190), .val (.ref x10), .val (.ref x11), .val (.ref o13), .val (.ref o13), .val (.int (1 : Int32)), .unset] [(.int s0_369)])) := by
                            intro s0_369 TJ369 lJ369 XJ369 eJ369 NJ369
                            show GlS _ _ _ _ _ _ _ _ _ (Kv (some (.int (nar .boolean s0_369))) _) _
                            exact endNS XJ369 hx Bd (t := .boolean) (by simp) (hb hby at_369) ⟨rfl, trivial⟩ NJ369 (by decide) (by decide) hS14 (own_hk eJ369 hk14) (own_cend hh eJ369 (C14.trans (CHv.at XJ369 hZ14 hEL C14.1)))
                          refine gIS (c := (b7tw_0 p1 p2 p1 p2 (own_cs ((p6 &&& (3 : Int32)) % (3 : Int32)) (nar .char ((p5 &&& (255 : Int32)).toUInt32.toUInt16.toUInt32.toInt32)) (nar .char ((((p5.toUInt32 >>> ((8 : Int32) &&& 31).toUInt32).toInt32) &&& (255 : Int32)).toUInt32.toUInt16.toUInt32.toInt32))) (own_cs ((p6 &&& (3 : Int32)) % (3 : Int32)) (nar .char ((p5 &&& (255 : Int32)).toUInt32.toUInt16.toUInt32.toInt32)) (nar .char ((((p5.toUInt32 >>> ((8 : Int32) &&& 31).toUInt32).toInt32) &&& (255 : Int32)).toUInt32.toUInt16.toUInt32.toInt32)))) = (1 : Int32)) (fun hc361 => ?_) (fun hc361 => ?_)
                          · refine goS (fun t k => XS.icmpNo X33.here hx rfl (hb hby at_361) rfl (teq hc361).2 k) ?_
                            show GlS _ _ _ _ _ _ _ _ _ _ (T33.setTop (mkF m 364 #[.val (.int p1), .val (.int p2), .val (.int p3), .val (.int p4), .val (.int p5), .val (.int p6), .val (.int ((p6 &&& (3 : Int32)) % (3 : Int32))), .val (.int s0_23), .val (.int s0_43), .val (.int s0_59), .val (.int s0_75), .val (.int s0_92), .val (.int (((p6.toUInt32 >>> ((7 : Int32) &&& 31).toUInt32).toInt32) &&& (3 : Int32))), .val (.int s0_113), .val (.int s0_125), .val (.int ((p5 &&& (255 : Int32)).toUInt32.toUInt16.toUInt32.toInt32)), .val (.int ((((p5.toUInt32 >>> ((8 : Int32) &&& 31).toUInt32).toInt32) &&& (255 : Int32)).toUInt32.toUInt16.toUInt32.toInt32)), .val (.int s0_168), .val (.int s0_190), .val (.ref x10), .val (.ref x11), .val (.ref o13), .val (.ref o13), .val (.int (1 : Int32)), .unset] []))
                            refine goS (fun t k => XS.iconst X33.here hx rfl (hb hby at_364) k) ?_
                            show GlS _ _ _ _ _ _ _ _ _ _ (T33.setTop (mkF m 365 #[.val (.int p1), .val (.int p2), .val (.int p3), .val (.int p4), .val (.int p5), .val (.int p6), .val (.int ((p6 &&& (3 : Int32)) % (3 : Int32))), .val (.int s0_23), .val (.int s0_43), .val (.int s0_59), .val (.int s0_75), .val (.int s0_92), .val (.int (((p6.toUInt32 >>> ((7 : Int32) &&& 31).toUInt32).toInt32) &&& (3 : Int32))), .val (.int s0_113), .val (.int s0_125), .val (.int ((p5 &&& (255 : Int32)).toUInt32.toUInt16.toUInt32.toInt32)), .val (.int ((((p5.toUInt32 >>> ((8 : Int32) &&& 31).toUInt32).toInt32) &&& (255 : Int32)).toUInt32.toUInt16.toUInt32.toInt32)), .val (.int s0_168), .val (.int s0_190), .val (.ref x10), .val (.ref x11), .val (.ref o13), .val (.ref o13), .val (.int (1 : Int32)), .unset] [(.int (1 : Int32))]))
                            refine goS (fun t k => XS.goto X33.here hx rfl (pc0 := 365) (pc' := 369) rfl (hb hby at_365) (by decide) (by decide) k) ?_
                            show GlS _ _ _ _ _ _ _ _ _ _ (T33.setTop (mkF m 369 #[.val (.int p1), .val (.int p2), .val (.int p3), .val (.int p4), .val (.int p5), .val (.int p6), .val (.int ((p6 &&& (3 : Int32)) % (3 : Int32))), .val (.int s0_23), .val (.int s0_43), .val (.int s0_59), .val (.int s0_75), .val (.int s0_92), .val (.int (((p6.toUInt32 >>> ((7 : Int32) &&& 31).toUInt32).toInt32) &&& (3 : Int32))), .val (.int s0_113), .val (.int s0_125), .val (.int ((p5 &&& (255 : Int32)).toUInt32.toUInt16.toUInt32.toInt32)), .val (.int ((((p5.toUInt32 >>> ((8 : Int32) &&& 31).toUInt32).toInt32) &&& (255 : Int32)).toUInt32.toUInt16.toUInt32.toInt32)), .val (.int s0_168), .val (.int s0_190), .val (.ref x10), .val (.ref x11), .val (.ref o13), .val (.ref o13), .val (.int (1 : Int32)), .unset] [(.int (1 : Int32))]))
                            exact J369 (1 : Int32) T33 _ X33 e33 N33
                          · refine goS (fun t k => XS.icmpYes X33.here hx rfl (pc0 := 361) (pc' := 368) rfl (hb hby at_361) rfl (feq hc361).2 (by decide) (by decide) k) ?_
                            show GlS _ _ _ _ _ _ _ _ _ _ (T33.setTop (mkF m 368 #[.val (.int p1), .val (.int p2), .val (.int p3), .val (.int p4), .val (.int p5), .val (.int p6), .val (.int ((p6 &&& (3 : Int32)) % (3 : Int32))), .val (.int s0_23), .val (.int s0_43), .val (.int s0_59), .val (.int s0_75), .val (.int s0_92), .val (.int (((p6.toUInt32 >>> ((7 : Int32) &&& 31).toUInt32).toInt32) &&& (3 : Int32))), .val (.int s0_113), .val (.int s0_125), .val (.int ((p5 &&& (255 : Int32)).toUInt32.toUInt16.toUInt32.toInt32)), .val (.int ((((p5.toUInt32 >>> ((8 : Int32) &&& 31).toUInt32).toInt32) &&& (255 : Int32)).toUInt32.toUInt16.toUInt32.toInt32)), .val (.int s0_168), .val (.int s0_190), .val (.ref x10), .val (.ref x11), .val (.ref o13), .val (.ref o13), .val (.int (1 : Int32)), .unset] []))
                            refine goS (fun t k => XS.iconst X33.here hx rfl (hb hby at_368) k) ?_
                            show GlS _ _ _ _ _ _ _ _ _ _ (T33.setTop (mkF m 369 #[.val (.int p1), .val (.int p2), .val (.int p3), .val (.int p4), .val (.int p5), .val (.int p6), .val (.int ((p6 &&& (3 : Int32)) % (3 : Int32))), .val (.int s0_23), .val (.int s0_43), .val (.int s0_59), .val (.int s0_75), .val (.int s0_92), .val (.int (((p6.toUInt32 >>> ((7 : Int32) &&& 31).toUInt32).toInt32) &&& (3 : Int32))), .val (.int s0_113), .val (.int s0_125), .val (.int ((p5 &&& (255 : Int32)).toUInt32.toUInt16.toUInt32.toInt32)), .val (.int ((((p5.toUInt32 >>> ((8 : Int32) &&& 31).toUInt32).toInt32) &&& (255 : Int32)).toUInt32.toUInt16.toUInt32.toInt32)), .val (.int s0_168), .val (.int s0_190), .val (.ref x10), .val (.ref x11), .val (.ref o13), .val (.ref o13), .val (.int (1 : Int32)), .unset] [(.int (0 : Int32))]))
                            exact J369 (0 : Int32) T33 _ X33 e33 N33
                  refine gIS (c := s0_92 = (0 : Int32)) (fun hc172 => ?_) (fun hc172 => ?_)
                  · refine goS (fun t k => XS.ifYes XJ168.here hx rfl (pc0 := 172) (pc' := 180) rfl (hb hby at_172) rfl ((if0 _ _).trans (teq hc172).1) (by decide) (by decide) k) ?_
                    show GlS _ _ _ _ _ _ _ _ _ _ (TJ168.setTop (mkF m 180 #[.val (.int p1), .val (.int p2), .val (.int p3), .val (.int p4), .val (.int p5), .val (.int p6), .val (.int ((p6 &&& (3 : Int32)) % (3 : Int32))), .val (.int s0_23), .val (.int s0_43), .val (.int s0_59), .val (.int s0_75), .val (.int s0_92), .val (.int (((p6.toUInt32 >>> ((7 : Int32) &&& 31).toUInt32).toInt32) &&& (3 : Int32))), .val (.int s0_113), .val (.int s0_125), .val (.int ((p5 &&& (255 : Int32)).toUInt32.toUInt16.toUInt32.toInt32)), .val (.int ((((p5.toUInt32 >>> ((8 : Int32) &&& 31).toUInt32).toInt32) &&& (255 : Int32)).toUInt32.toUInt16.toUInt32.toInt32)), .val (.int s0_168), .unset, .unset, .unset, .unset, .unset, .unset, .unset] []))
                    refine goS (fun t k => XS.iload XJ168.here hx rfl (hb hby at_180) rfl  k) ?_
                    show GlS _ _ _ _ _ _ _ _ _ _ (TJ168.setTop (mkF m 182 #[.val (.int p1), .val (.int p2), .val (.int p3), .val (.int p4), .val (.int p5), .val (.int p6), .val (.int ((p6 &&& (3 : Int32)) % (3 : Int32))), .val (.int s0_23), .val (.int s0_43), .val (.int s0_59), .val (.int s0_75), .val (.int s0_92), .val (.int (((p6.toUInt32 >>> ((7 : Int32) &&& 31).toUInt32).toInt32) &&& (3 : Int32))), .val (.int s0_113), .val (.int s0_125), .val (.int ((p5 &&& (255 : Int32)).toUInt32.toUInt16.toUInt32.toInt32)), .val (.int ((((p5.toUInt32 >>> ((8 : Int32) &&& 31).toUInt32).toInt32) &&& (255 : Int32)).toUInt32.toUInt16.toUInt32.toInt32)), .val (.int s0_168), .unset, .unset, .unset, .unset, .unset, .unset, .unset] [(.int p5)]))
                    refine goS (fun t k => XS.bipush XJ168.here hx rfl (hb hby at_182) k) ?_
                    show GlS _ _ _ _ _ _ _ _ _ _ (TJ168.setTop (mkF m 184 #[.val (.int p1), .val (.int p2), .val (.int p3), .val (.int p4), .val (.int p5), .val (.int p6), .val (.int ((p6 &&& (3 : Int32)) % (3 : Int32))), .val (.int s0_23), .val (.int s0_43), .val (.int s0_59), .val (.int s0_75), .val (.int s0_92), .val (.int (((p6.toUInt32 >>> ((7 : Int32) &&& 31).toUInt32).toInt32) &&& (3 : Int32))), .val (.int s0_113), .val (.int s0_125), .val (.int ((p5 &&& (255 : Int32)).toUInt32.toUInt16.toUInt32.toInt32)), .val (.int ((((p5.toUInt32 >>> ((8 : Int32) &&& 31).toUInt32).toInt32) &&& (255 : Int32)).toUInt32.toUInt16.toUInt32.toInt32)), .val (.int s0_168), .unset, .unset, .unset, .unset, .unset, .unset, .unset] [(.int (24 : Int32)), (.int p5)]))
                    refine goS (fun t k => XS.iushr XJ168.here hx rfl (hb hby at_184) rfl k) ?_
                    show GlS _ _ _ _ _ _ _ _ _ _ (TJ168.setTop (mkF m 185 #[.val (.int p1), .val (.int p2), .val (.int p3), .val (.int p4), .val (.int p5), .val (.int p6), .val (.int ((p6 &&& (3 : Int32)) % (3 : Int32))), .val (.int s0_23), .val (.int s0_43), .val (.int s0_59), .val (.int s0_75), .val (.int s0_92), .val (.int (((p6.toUInt32 >>> ((7 : Int32) &&& 31).toUInt32).toInt32) &&& (3 : Int32))), .val (.int s0_113), .val (.int s0_125), .val (.int ((p5 &&& (255 : Int32)).toUInt32.toUInt16.toUInt32.toInt32)), .val (.int ((((p5.toUInt32 >>> ((8 : Int32) &&& 31).toUInt32).toInt32) &&& (255 : Int32)).toUInt32.toUInt16.toUInt32.toInt32)), .val (.int s0_168), .unset, .unset, .unset, .unset, .unset, .unset, .unset] [(.int ((p5.toUInt32 >>> ((24 : Int32) &&& 31).toUInt32).toInt32))]))
                    refine goS (fun t k => XS.sipush XJ168.here hx rfl (hb hby at_185) k) ?_
                    show GlS _ _ _ _ _ _ _ _ _ _ (TJ168.setTop (mkF m 188 #[.val (.int p1), .val (.int p2), .val (.int p3), .val (.int p4), .val (.int p5), .val (.int p6), .val (.int ((p6 &&& (3 : Int32)) % (3 : Int32))), .val (.int s0_23), .val (.int s0_43), .val (.int s0_59), .val (.int s0_75), .val (.int s0_92), .val (.int (((p6.toUInt32 >>> ((7 : Int32) &&& 31).toUInt32).toInt32) &&& (3 : Int32))), .val (.int s0_113), .val (.int s0_125), .val (.int ((p5 &&& (255 : Int32)).toUInt32.toUInt16.toUInt32.toInt32)), .val (.int ((((p5.toUInt32 >>> ((8 : Int32) &&& 31).toUInt32).toInt32) &&& (255 : Int32)).toUInt32.toUInt16.toUInt32.toInt32)), .val (.int s0_168), .unset, .unset, .unset, .unset, .unset, .unset, .unset] [(.int (255 : Int32)), (.int ((p5.toUInt32 >>> ((24 : Int32) &&& 31).toUInt32).toInt32))]))
                    refine goS (fun t k => XS.iand XJ168.here hx rfl (hb hby at_188) rfl k) ?_
                    show GlS _ _ _ _ _ _ _ _ _ _ (TJ168.setTop (mkF m 189 #[.val (.int p1), .val (.int p2), .val (.int p3), .val (.int p4), .val (.int p5), .val (.int p6), .val (.int ((p6 &&& (3 : Int32)) % (3 : Int32))), .val (.int s0_23), .val (.int s0_43), .val (.int s0_59), .val (.int s0_75), .val (.int s0_92), .val (.int (((p6.toUInt32 >>> ((7 : Int32) &&& 31).toUInt32).toInt32) &&& (3 : Int32))), .val (.int s0_113), .val (.int s0_125), .val (.int ((p5 &&& (255 : Int32)).toUInt32.toUInt16.toUInt32.toInt32)), .val (.int ((((p5.toUInt32 >>> ((8 : Int32) &&& 31).toUInt32).toInt32) &&& (255 : Int32)).toUInt32.toUInt16.toUInt32.toInt32)), .val (.int s0_168), .unset, .unset, .unset, .unset, .unset, .unset, .unset] [(.int (((p5.toUInt32 >>> ((24 : Int32) &&& 31).toUInt32).toInt32) &&& (255 : Int32)))]))
                    refine goS (fun t k => XS.i2c XJ168.here hx rfl (hb hby at_189) rfl k) ?_
                    show GlS _ _ _ _ _ _ _ _ _ _ (TJ168.setTop (mkF m 190 #[.val (.int p1), .val (.int p2), .val (.int p3), .val (.int p4), .val (.int p5), .val (.int p6), .val (.int ((p6 &&& (3 : Int32)) % (3 : Int32))), .val (.int s0_23), .val (.int s0_43), .val (.int s0_59), .val (.int s0_75), .val (.int s0_92), .val (.int (((p6.toUInt32 >>> ((7 : Int32) &&& 31).toUInt32).toInt32) &&& (3 : Int32))), .val (.int s0_113), .val (.int s0_125), .val (.int ((p5 &&& (255 : Int32)).toUInt32.toUInt16.toUInt32.toInt32)), .val (.int ((((p5.toUInt32 >>> ((8 : Int32) &&& 31).toUInt32).toInt32) &&& (255 : Int32)).toUInt32.toUInt16.toUInt32.toInt32)), .val (.int s0_168), .unset, .unset, .unset, .unset, .unset, .unset, .unset] [(.int ((((p5.toUInt32 >>> ((24 : Int32) &&& 31).toUInt32).toInt32) &&& (255 : Int32)).toUInt32.toUInt16.toUInt32.toInt32))]))
                    exact J190 ((((p5.toUInt32 >>> ((24 : Int32) &&& 31).toUInt32).toInt32) &&& (255 : Int32)).toUInt32.toUInt16.toUInt32.toInt32) (own_chb _) TJ168 _ XJ168 eJ168 NJ168
                  · refine goS (fun t k => XS.ifNo XJ168.here hx rfl (hb hby at_172) rfl ((if0 _ _).trans (feq hc172).1) k) ?_
                    show GlS _ _ _ _ _ _ _ _ _ _ (TJ168.setTop (mkF m 175 #[.val (.int p1), .val (.int p2), .val (.int p3), .val (.int p4), .val (.int p5), .val (.int p6), .val (.int ((p6 &&& (3 : Int32)) % (3 : Int32))), .val (.int s0_23), .val (.int s0_43), .val (.int s0_59), .val (.int s0_75), .val (.int s0_92), .val (.int (((p6.toUInt32 >>> ((7 : Int32) &&& 31).toUInt32).toInt32) &&& (3 : Int32))), .val (.int s0_113), .val (.int s0_125), .val (.int ((p5 &&& (255 : Int32)).toUInt32.toUInt16.toUInt32.toInt32)), .val (.int ((((p5.toUInt32 >>> ((8 : Int32) &&& 31).toUInt32).toInt32) &&& (255 : Int32)).toUInt32.toUInt16.toUInt32.toInt32)), .val (.int s0_168), .unset, .unset, .unset, .unset, .unset, .unset, .unset] []))
                    refine goS (fun t k => XS.iload XJ168.here hx rfl (hb hby at_175) rfl  k) ?_
                    show GlS _ _ _ _ _ _ _ _ _ _ (TJ168.setTop (mkF m 177 #[.val (.int p1), .val (.int p2), .val (.int p3), .val (.int p4), .val (.int p5), .val (.int p6), .val (.int ((p6 &&& (3 : Int32)) % (3 : Int32))), .val (.int s0_23), .val (.int s0_43), .val (.int s0_59), .val (.int s0_75), .val (.int s0_92), .val (.int (((p6.toUInt32 >>> ((7 : Int32) &&& 31).toUInt32).toInt32) &&& (3 : Int32))), .val (.int s0_113), .val (.int s0_125), .val (.int ((p5 &&& (255 : Int32)).toUInt32.toUInt16.toUInt32.toInt32)), .val (.int ((((p5.toUInt32 >>> ((8 : Int32) &&& 31).toUInt32).toInt32) &&& (255 : Int32)).toUInt32.toUInt16.toUInt32.toInt32)), .val (.int s0_168), .unset, .unset, .unset, .unset, .unset, .unset, .unset] [(.int ((((p5.toUInt32 >>> ((8 : Int32) &&& 31).toUInt32).toInt32) &&& (255 : Int32)).toUInt32.toUInt16.toUInt32.toInt32))]))
                    refine goS (fun t k => XS.goto XJ168.here hx rfl (pc0 := 177) (pc' := 190) rfl (hb hby at_177) (by decide) (by decide) k) ?_
                    show GlS _ _ _ _ _ _ _ _ _ _ (TJ168.setTop (mkF m 190 #[.val (.int p1), .val (.int p2), .val (.int p3), .val (.int p4), .val (.int p5), .val (.int p6), .val (.int ((p6 &&& (3 : Int32)) % (3 : Int32))), .val (.int s0_23), .val (.int s0_43), .val (.int s0_59), .val (.int s0_75), .val (.int s0_92), .val (.int (((p6.toUInt32 >>> ((7 : Int32) &&& 31).toUInt32).toInt32) &&& (3 : Int32))), .val (.int s0_113), .val (.int s0_125), .val (.int ((p5 &&& (255 : Int32)).toUInt32.toUInt16.toUInt32.toInt32)), .val (.int ((((p5.toUInt32 >>> ((8 : Int32) &&& 31).toUInt32).toInt32) &&& (255 : Int32)).toUInt32.toUInt16.toUInt32.toInt32)), .val (.int s0_168), .unset, .unset, .unset, .unset, .unset, .unset, .unset] [(.int ((((p5.toUInt32 >>> ((8 : Int32) &&& 31).toUInt32).toInt32) &&& (255 : Int32)).toUInt32.toUInt16.toUInt32.toInt32))]))
                    exact J190 ((((p5.toUInt32 >>> ((8 : Int32) &&& 31).toUInt32).toInt32) &&& (255 : Int32)).toUInt32.toUInt16.toUInt32.toInt32) (own_chb _) TJ168 _ XJ168 eJ168 NJ168
                refine gIS (c := s0_92 = (0 : Int32)) (fun hc150 => ?_) (fun hc150 => ?_)
                · refine goS (fun t k => XS.ifYes XJ125.here hx rfl (pc0 := 150) (pc' := 158) rfl (hb hby at_150) rfl ((if0 _ _).trans (teq hc150).1) (by decide) (by decide) k) ?_
                  show GlS _ _ _ _ _ _ _ _ _ _ (TJ125.setTop (mkF m 158 #[.val (.int p1), .val (.int p2), .val (.int p3), .val (.int p4), .val (.int p5), .val (.int p6), .val (.int ((p6 &&& (3 : Int32)) % (3 : Int32))), .val (.int s0_23), .val (.int s0_43), .val (.int s0_59), .val (.int s0_75), .val (.int s0_92), .val (.int (((p6.toUInt32 >>> ((7 : Int32) &&& 31).toUInt32).toInt32) &&& (3 : Int32))), .val (.int s0_113), .val (.int s0_125), .val (.int ((p5 &&& (255 : Int32)).toUInt32.toUInt16.toUInt32.toInt32)), .val (.int ((((p5.toUInt32 >>> ((8 : Int32) &&& 31).toUInt32).toInt32) &&& (255 : Int32)).toUInt32.toUInt16.toUInt32.toInt32)), .unset, .unset, .unset, .unset, .unset, .unset, .unset, .unset] []))
                  refine goS (fun t k => XS.iload XJ125.here hx rfl (hb hby at_158) rfl  k) ?_
                  show GlS _ _ _ _ _ _ _ _ _ _ (TJ125.setTop (mkF m 160 #[.val (.int p1), .val (.int p2), .val (.int p3), .val (.int p4), .val (.int p5), .val (.int p6), .val (.int ((p6 &&& (3 : Int32)) % (3 : Int32))), .val (.int s0_23), .val (.int s0_43), .val (.int s0_59), .val (.int s0_75), .val (.int s0_92), .val (.int (((p6.toUInt32 >>> ((7 : Int32) &&& 31).toUInt32).toInt32) &&& (3 : Int32))), .val (.int s0_113), .val (.int s0_125), .val (.int ((p5 &&& (255 : Int32)).toUInt32.toUInt16.toUInt32.toInt32)), .val (.int ((((p5.toUInt32 >>> ((8 : Int32) &&& 31).toUInt32).toInt32) &&& (255 : Int32)).toUInt32.toUInt16.toUInt32.toInt32)), .unset, .unset, .unset, .unset, .unset, .unset, .unset, .unset] [(.int p5)]))
                  refine goS (fun t k => XS.bipush XJ125.here hx rfl (hb hby at_160) k) ?_
                  show GlS _ _ _ _ _ _ _ _ _ _ (TJ125.setTop (mkF m 162 #[.val (.int p1), .val (.int p2), .val (.int p3), .val (.int p4), .val (.int p5), .val (.int p6), .val (.int ((p6 &&& (3 : Int32)) % (3 : Int32))), .val (.int s0_23), .val (.int s0_43), .val (.int s0_59), .val (.int s0_75), .val (.int s0_92), .val (.int (((p6.toUInt32 >>> ((7 : Int32) &&& 31).toUInt32).toInt32) &&& (3 : Int32))), .val (.int s0_113), .val (.int s0_125), .val (.int ((p5 &&& (255 : Int32)).toUInt32.toUInt16.toUInt32.toInt32)), .val (.int ((((p5.toUInt32 >>> ((8 : Int32) &&& 31).toUInt32).toInt32) &&& (255 : Int32)).toUInt32.toUInt16.toUInt32.toInt32)), .unset, .unset, .unset, .unset, .unset, .unset, .unset, .unset] [(.int (16 : Int32)), (.int p5)]))
                  refine goS (fun t k => XS.iushr XJ125.here hx rfl (hb hby at_162) rfl k) ?_
                  show GlS _ _ _ _ _ _ _ _ _ _ (TJ125.setTop (mkF m 163 #[.val (.int p1), .val (.int p2), .val (.int p3), .val (.int p4), .val (.int p5), .val (.int p6), .val (.int ((p6 &&& (3 : Int32)) % (3 : Int32))), .val (.int s0_23), .val (.int s0_43), .val (.int s0_59), .val (.int s0_75), .val (.int s0_92), .val (.int (((p6.toUInt32 >>> ((7 : Int32) &&& 31).toUInt32).toInt32) &&& (3 : Int32))), .val (.int s0_113), .val (.int s0_125), .val (.int ((p5 &&& (255 : Int32)).toUInt32.toUInt16.toUInt32.toInt32)), .val (.int ((((p5.toUInt32 >>> ((8 : Int32) &&& 31).toUInt32).toInt32) &&& (255 : Int32)).toUInt32.toUInt16.toUInt32.toInt32)), .unset, .unset, .unset, .unset, .unset, .unset, .unset, .unset] [(.int ((p5.toUInt32 >>> ((16 : Int32) &&& 31).toUInt32).toInt32))]))
                  refine goS (fun t k => XS.sipush XJ125.here hx rfl (hb hby at_163) k) ?_
                  show GlS _ _ _ _ _ _ _ _ _ _ (TJ125.setTop (mkF m 166 #[.val (.int p1), .val (.int p2), .val (.int p3), .val (.int p4), .val (.int p5), .val (.int p6), .val (.int ((p6 &&& (3 : Int32)) % (3 : Int32))), .val (.int s0_23), .val (.int s0_43), .val (.int s0_59), .val (.int s0_75), .val (.int s0_92), .val (.int (((p6.toUInt32 >>> ((7 : Int32) &&& 31).toUInt32).toInt32) &&& (3 : Int32))), .val (.int s0_113), .val (.int s0_125), .val (.int ((p5 &&& (255 : Int32)).toUInt32.toUInt16.toUInt32.toInt32)), .val (.int ((((p5.toUInt32 >>> ((8 : Int32) &&& 31).toUInt32).toInt32) &&& (255 : Int32)).toUInt32.toUInt16.toUInt32.toInt32)), .unset, .unset, .unset, .unset, .unset, .unset, .unset, .unset] [(.int (255 : Int32)), (.int ((p5.toUInt32 >>> ((16 : Int32) &&& 31).toUInt32).toInt32))]))
                  refine goS (fun t k => XS.iand XJ125.here hx rfl (hb hby at_166) rfl k) ?_
                  show GlS _ _ _ _ _ _ _ _ _ _ (TJ125.setTop (mkF m 167 #[.val (.int p1), .val (.int p2), .val (.int p3), .val (.int p4), .val (.int p5), .val (.int p6), .val (.int ((p6 &&& (3 : Int32)) % (3 : Int32))), .val (.int s0_23), .val (.int s0_43), .val (.int s0_59), .val (.int s0_75), .val (.int s0_92), .val (.int (((p6.toUInt32 >>> ((7 : Int32) &&& 31).toUInt32).toInt32) &&& (3 : Int32))), .val (.int s0_113), .val (.int s0_125), .val (.int ((p5 &&& (255 : Int32)).toUInt32.toUInt16.toUInt32.toInt32)), .val (.int ((((p5.toUInt32 >>> ((8 : Int32) &&& 31).toUInt32).toInt32) &&& (255 : Int32)).toUInt32.toUInt16.toUInt32.toInt32)), .unset, .unset, .unset, .unset, .unset, .unset, .unset, .unset] [(.int (((p5.toUInt32 >>> ((16 : Int32) &&& 31).toUInt32).toInt32) &&& (255 : Int32)))]))
                  refine goS (fun t k => XS.i2c XJ125.here hx rfl (hb hby at_167) rfl k) ?_
                  show GlS _ _ _ _ _ _ _ _ _ _ (TJ125.setTop (mkF m 168 #[.val (.int p1), .val (.int p2), .val (.int p3), .val (.int p4), .val (.int p5), .val (.int p6), .val (.int ((p6 &&& (3 : Int32)) % (3 : Int32))), .val (.int s0_23), .val (.int s0_43), .val (.int s0_59), .val (.int s0_75), .val (.int s0_92), .val (.int (((p6.toUInt32 >>> ((7 : Int32) &&& 31).toUInt32).toInt32) &&& (3 : Int32))), .val (.int s0_113), .val (.int s0_125), .val (.int ((p5 &&& (255 : Int32)).toUInt32.toUInt16.toUInt32.toInt32)), .val (.int ((((p5.toUInt32 >>> ((8 : Int32) &&& 31).toUInt32).toInt32) &&& (255 : Int32)).toUInt32.toUInt16.toUInt32.toInt32)), .unset, .unset, .unset, .unset, .unset, .unset, .unset, .unset] [(.int ((((p5.toUInt32 >>> ((16 : Int32) &&& 31).toUInt32).toInt32) &&& (255 : Int32)).toUInt32.toUInt16.toUInt32.toInt32))]))
                  exact J168 ((((p5.toUInt32 >>> ((16 : Int32) &&& 31).toUInt32).toInt32) &&& (255 : Int32)).toUInt32.toUInt16.toUInt32.toInt32) (own_chb _) TJ125 _ XJ125 eJ125 NJ125
                · refine goS (fun t k => XS.ifNo XJ125.here hx rfl (hb hby at_150) rfl ((if0 _ _).trans (feq hc150).1) k) ?_
                  show GlS _ _ _ _ _ _ _ _ _ _ (TJ125.setTop (mkF m 153 #[.val (.int p1), .val (.int p2), .val (.int p3), .val (.int p4), .val (.int p5), .val (.int p6), .val (.int ((p6 &&& (3 : Int32)) % (3 : Int32))), .val (.int s0_23), .val (.int s0_43), .val (.int s0_59), .val (.int s0_75), .val (.int s0_92), .val (.int (((p6.toUInt32 >>> ((7 : Int32) &&& 31).toUInt32).toInt32) &&& (3 : Int32))), .val (.int s0_113), .val (.int s0_125), .val (.int ((p5 &&& (255 : Int32)).toUInt32.toUInt16.toUInt32.toInt32)), .val (.int ((((p5.toUInt32 >>> ((8 : Int32) &&& 31).toUInt32).toInt32) &&& (255 : Int32)).toUInt32.toUInt16.toUInt32.toInt32)), .unset, .unset, .unset, .unset, .unset, .unset, .unset, .unset] []))
                  refine goS (fun t k => XS.iload XJ125.here hx rfl (hb hby at_153) rfl  k) ?_
                  show GlS _ _ _ _ _ _ _ _ _ _ (TJ125.setTop (mkF m 155 #[.val (.int p1), .val (.int p2), .val (.int p3), .val (.int p4), .val (.int p5), .val (.int p6), .val (.int ((p6 &&& (3 : Int32)) % (3 : Int32))), .val (.int s0_23), .val (.int s0_43), .val (.int s0_59), .val (.int s0_75), .val (.int s0_92), .val (.int (((p6.toUInt32 >>> ((7 : Int32) &&& 31).toUInt32).toInt32) &&& (3 : Int32))), .val (.int s0_113), .val (.int s0_125), .val (.int ((p5 &&& (255 : Int32)).toUInt32.toUInt16.toUInt32.toInt32)), .val (.int ((((p5.toUInt32 >>> ((8 : Int32) &&& 31).toUInt32).toInt32) &&& (255 : Int32)).toUInt32.toUInt16.toUInt32.toInt32)), .unset, .unset, .unset, .unset, .unset, .unset, .unset, .unset] [(.int ((p5 &&& (255 : Int32)).toUInt32.toUInt16.toUInt32.toInt32))]))
                  refine goS (fun t k => XS.goto XJ125.here hx rfl (pc0 := 155) (pc' := 168) rfl (hb hby at_155) (by decide) (by decide) k) ?_
                  show GlS _ _ _ _ _ _ _ _ _ _ (TJ125.setTop (mkF m 168 #[.val (.int p1), .val (.int p2), .val (.int p3), .val (.int p4), .val (.int p5), .val (.int p6), .val (.int ((p6 &&& (3 : Int32)) % (3 : Int32))), .val (.int s0_23), .val (.int s0_43), .val (.int s0_59), .val (.int s0_75), .val (.int s0_92), .val (.int (((p6.toUInt32 >>> ((7 : Int32) &&& 31).toUInt32).toInt32) &&& (3 : Int32))), .val (.int s0_113), .val (.int s0_125), .val (.int ((p5 &&& (255 : Int32)).toUInt32.toUInt16.toUInt32.toInt32)), .val (.int ((((p5.toUInt32 >>> ((8 : Int32) &&& 31).toUInt32).toInt32) &&& (255 : Int32)).toUInt32.toUInt16.toUInt32.toInt32)), .unset, .unset, .unset, .unset, .unset, .unset, .unset, .unset] [(.int ((p5 &&& (255 : Int32)).toUInt32.toUInt16.toUInt32.toInt32))]))
                  exact J168 ((p5 &&& (255 : Int32)).toUInt32.toUInt16.toUInt32.toInt32) (own_chb _) TJ125 _ XJ125 eJ125 NJ125
              refine gIS (c := s0_75 = (0 : Int32)) (fun hc117 => ?_) (fun hc117 => ?_)
              · refine goS (fun t k => XS.ifYes XJ113.here hx rfl (pc0 := 117) (pc' := 124) rfl (hb hby at_117) rfl ((if0 _ _).trans (teq hc117).1) (by decide) (by decide) k) ?_
                show GlS _ _ _ _ _ _ _ _ _ _ (TJ113.setTop (mkF m 124 #[.val (.int p1), .val (.int p2), .val (.int p3), .val (.int p4), .val (.int p5), .val (.int p6), .val (.int ((p6 &&& (3 : Int32)) % (3 : Int32))), .val (.int s0_23), .val (.int s0_43), .val (.int s0_59), .val (.int s0_75), .val (.int s0_92), .val (.int (((p6.toUInt32 >>> ((7 : Int32) &&& 31).toUInt32).toInt32) &&& (3 : Int32))), .val (.int s0_113), .unset, .unset, .unset, .unset, .unset, .unset, .unset, .unset, .unset, .unset, .unset] []))
                refine goS (fun t k => XS.iloadN XJ113.here hx rfl (hb hby at_124) rfl  k) ?_
                show GlS _ _ _ _ _ _ _ _ _ _ (TJ113.setTop (mkF m 125 #[.val (.int p1), .val (.int p2), .val (.int p3), .val (.int p4), .val (.int p5), .val (.int p6), .val (.int ((p6 &&& (3 : Int32)) % (3 : Int32))), .val (.int s0_23), .val (.int s0_43), .val (.int s0_59), .val (.int s0_75), .val (.int s0_92), .val (.int (((p6.toUInt32 >>> ((7 : Int32) &&& 31).toUInt32).toInt32) &&& (3 : Int32))), .val (.int s0_113), .unset, .unset, .unset, .unset, .unset, .unset, .unset, .unset, .unset, .unset, .unset] [(.int p4)]))
                exact J125 p4 TJ113 _ XJ113 eJ113 NJ113
              · refine goS (fun t k => XS.ifNo XJ113.here hx rfl (hb hby at_117) rfl ((if0 _ _).trans (feq hc117).1) k) ?_
                show GlS _ _ _ _ _ _ _ _ _ _ (TJ113.setTop (mkF m 120 #[.val (.int p1), .val (.int p2), .val (.int p3), .val (.int p4), .val (.int p5), .val (.int p6), .val (.int ((p6 &&& (3 : Int32)) % (3 : Int32))), .val (.int s0_23), .val (.int s0_43), .val (.int s0_59), .val (.int s0_75), .val (.int s0_92), .val (.int (((p6.toUInt32 >>> ((7 : Int32) &&& 31).toUInt32).toInt32) &&& (3 : Int32))), .val (.int s0_113), .unset, .unset, .unset, .unset, .unset, .unset, .unset, .unset, .unset, .unset, .unset] []))
                refine goS (fun t k => XS.iloadN XJ113.here hx rfl (hb hby at_120) rfl  k) ?_
                show GlS _ _ _ _ _ _ _ _ _ _ (TJ113.setTop (mkF m 121 #[.val (.int p1), .val (.int p2), .val (.int p3), .val (.int p4), .val (.int p5), .val (.int p6), .val (.int ((p6 &&& (3 : Int32)) % (3 : Int32))), .val (.int s0_23), .val (.int s0_43), .val (.int s0_59), .val (.int s0_75), .val (.int s0_92), .val (.int (((p6.toUInt32 >>> ((7 : Int32) &&& 31).toUInt32).toInt32) &&& (3 : Int32))), .val (.int s0_113), .unset, .unset, .unset, .unset, .unset, .unset, .unset, .unset, .unset, .unset, .unset] [(.int p2)]))
                refine goS (fun t k => XS.goto XJ113.here hx rfl (pc0 := 121) (pc' := 125) rfl (hb hby at_121) (by decide) (by decide) k) ?_
                show GlS _ _ _ _ _ _ _ _ _ _ (TJ113.setTop (mkF m 125 #[.val (.int p1), .val (.int p2), .val (.int p3), .val (.int p4), .val (.int p5), .val (.int p6), .val (.int ((p6 &&& (3 : Int32)) % (3 : Int32))), .val (.int s0_23), .val (.int s0_43), .val (.int s0_59), .val (.int s0_75), .val (.int s0_92), .val (.int (((p6.toUInt32 >>> ((7 : Int32) &&& 31).toUInt32).toInt32) &&& (3 : Int32))), .val (.int s0_113), .unset, .unset, .unset, .unset, .unset, .unset, .unset, .unset, .unset, .unset, .unset] [(.int p2)]))
                exact J125 p2 TJ113 _ XJ113 eJ113 NJ113
            refine gIS (c := s0_59 = (0 : Int32)) (fun hc105 => ?_) (fun hc105 => ?_)
            · refine goS (fun t k => XS.ifYes XJ92.here hx rfl (pc0 := 105) (pc' := 112) rfl (hb hby at_105) rfl ((if0 _ _).trans (teq hc105).1) (by decide) (by decide) k) ?_
              show GlS _ _ _ _ _ _ _ _ _ _ (TJ92.setTop (mkF m 112 #[.val (.int p1), .val (.int p2), .val (.int p3), .val (.int p4), .val (.int p5), .val (.int p6), .val (.int ((p6 &&& (3 : Int32)) % (3 : Int32))), .val (.int s0_23), .val (.int s0_43), .val (.int s0_59), .val (.int s0_75), .val (.int s0_92), .val (.int (((p6.toUInt32 >>> ((7 : Int32) &&& 31).toUInt32).toInt32) &&& (3 : Int32))), .unset, .unset, .unset, .unset, .unset, .unset, .unset, .unset, .unset, .unset, .unset, .unset] []))
              refine goS (fun t k => XS.iloadN XJ92.here hx rfl (hb hby at_112) rfl  k) ?_
              show GlS _ _ _ _ _ _ _ _ _ _ (TJ92.setTop (mkF m 113 #[.val (.int p1), .val (.int p2), .val (.int p3), .val (.int p4), .val (.int p5), .val (.int p6), .val (.int ((p6 &&& (3 : Int32)) % (3 : Int32))), .val (.int s0_23), .val (.int s0_43), .val (.int s0_59), .val (.int s0_75), .val (.int s0_92), .val (.int (((p6.toUInt32 >>> ((7 : Int32) &&& 31).toUInt32).toInt32) &&& (3 : Int32))), .unset, .unset, .unset, .unset, .unset, .unset, .unset, .unset, .unset, .unset, .unset, .unset] [(.int p3)]))
              exact J113 p3 TJ92 _ XJ92 eJ92 NJ92
            · refine goS (fun t k => XS.ifNo XJ92.here hx rfl (hb hby at_105) rfl ((if0 _ _).trans (feq hc105).1) k) ?_
              show GlS _ _ _ _ _ _ _ _ _ _ (TJ92.setTop (mkF m 108 #[.val (.int p1), .val (.int p2), .val (.int p3), .val (.int p4), .val (.int p5), .val (.int p6), .val (.int ((p6 &&& (3 : Int32)) % (3 : Int32))), .val (.int s0_23), .val (.int s0_43), .val (.int s0_59), .val (.int s0_75), .val (.int s0_92), .val (.int (((p6.toUInt32 >>> ((7 : Int32) &&& 31).toUInt32).toInt32) &&& (3 : Int32))), .unset, .unset, .unset, .unset, .unset, .unset, .unset, .unset, .unset, .unset, .unset, .unset] []))
              refine goS (fun t k => XS.iloadN XJ92.here hx rfl (hb hby at_108) rfl  k) ?_
              show GlS _ _ _ _ _ _ _ _ _ _ (TJ92.setTop (mkF m 109 #[.val (.int p1), .val (.int p2), .val (.int p3), .val (.int p4), .val (.int p5), .val (.int p6), .val (.int ((p6 &&& (3 : Int32)) % (3 : Int32))), .val (.int s0_23), .val (.int s0_43), .val (.int s0_59), .val (.int s0_75), .val (.int s0_92), .val (.int (((p6.toUInt32 >>> ((7 : Int32) &&& 31).toUInt32).toInt32) &&& (3 : Int32))), .unset, .unset, .unset, .unset, .unset, .unset, .unset, .unset, .unset, .unset, .unset, .unset] [(.int p1)]))
              refine goS (fun t k => XS.goto XJ92.here hx rfl (pc0 := 109) (pc' := 113) rfl (hb hby at_109) (by decide) (by decide) k) ?_
              show GlS _ _ _ _ _ _ _ _ _ _ (TJ92.setTop (mkF m 113 #[.val (.int p1), .val (.int p2), .val (.int p3), .val (.int p4), .val (.int p5), .val (.int p6), .val (.int ((p6 &&& (3 : Int32)) % (3 : Int32))), .val (.int s0_23), .val (.int s0_43), .val (.int s0_59), .val (.int s0_75), .val (.int s0_92), .val (.int (((p6.toUInt32 >>> ((7 : Int32) &&& 31).toUInt32).toInt32) &&& (3 : Int32))), .unset, .unset, .unset, .unset, .unset, .unset, .unset, .unset, .unset, .unset, .unset, .unset] [(.int p1)]))
              exact J113 p1 TJ92 _ XJ92 eJ92 NJ92
          refine gIS (c := (((p6.toUInt32 >>> ((6 : Int32) &&& 31).toUInt32).toInt32) &&& (1 : Int32)) = (0 : Int32)) (fun hc84 => ?_) (fun hc84 => ?_)
          · refine goS (fun t k => XS.ifYes XJ75.here hx rfl (pc0 := 84) (pc' := 91) rfl (hb hby at_84) rfl ((if0 _ _).trans (teq hc84).1) (by decide) (by decide) k) ?_
            show GlS _ _ _ _ _ _ _ _ _ _ (TJ75.setTop (mkF m 91 #[.val (.int p1), .val (.int p2), .val (.int p3), .val (.int p4), .val (.int p5), .val (.int p6), .val (.int ((p6 &&& (3 : Int32)) % (3 : Int32))), .val (.int s0_23), .val (.int s0_43), .val (.int s0_59), .val (.int s0_75), .unset, .unset, .unset, .unset, .unset, .unset, .unset, .unset, .unset, .unset, .unset, .unset, .unset, .unset] []))
            refine goS (fun t k => XS.iconst XJ75.here hx rfl (hb hby at_91) k) ?_
            show GlS _ _ _ _ _ _ _ _ _ _ (TJ75.setTop (mkF m 92 #[.val (.int p1), .val (.int p2), .val (.int p3), .val (.int p4), .val (.int p5), .val (.int p6), .val (.int ((p6 &&& (3 : Int32)) % (3 : Int32))), .val (.int s0_23), .val (.int s0_43), .val (.int s0_59), .val (.int s0_75), .unset, .unset, .unset, .unset, .unset, .unset, .unset, .unset, .unset, .unset, .unset, .unset, .unset, .unset] [(.int (0 : Int32))]))
            exact J92 (0 : Int32) TJ75 _ XJ75 eJ75 NJ75
          · refine goS (fun t k => XS.ifNo XJ75.here hx rfl (hb hby at_84) rfl ((if0 _ _).trans (feq hc84).1) k) ?_
            show GlS _ _ _ _ _ _ _ _ _ _ (TJ75.setTop (mkF m 87 #[.val (.int p1), .val (.int p2), .val (.int p3), .val (.int p4), .val (.int p5), .val (.int p6), .val (.int ((p6 &&& (3 : Int32)) % (3 : Int32))), .val (.int s0_23), .val (.int s0_43), .val (.int s0_59), .val (.int s0_75), .unset, .unset, .unset, .unset, .unset, .unset, .unset, .unset, .unset, .unset, .unset, .unset, .unset, .unset] []))
            refine goS (fun t k => XS.iconst XJ75.here hx rfl (hb hby at_87) k) ?_
            show GlS _ _ _ _ _ _ _ _ _ _ (TJ75.setTop (mkF m 88 #[.val (.int p1), .val (.int p2), .val (.int p3), .val (.int p4), .val (.int p5), .val (.int p6), .val (.int ((p6 &&& (3 : Int32)) % (3 : Int32))), .val (.int s0_23), .val (.int s0_43), .val (.int s0_59), .val (.int s0_75), .unset, .unset, .unset, .unset, .unset, .unset, .unset, .unset, .unset, .unset, .unset, .unset, .unset, .unset] [(.int (1 : Int32))]))
            refine goS (fun t k => XS.goto XJ75.here hx rfl (pc0 := 88) (pc' := 92) rfl (hb hby at_88) (by decide) (by decide) k) ?_
            show GlS _ _ _ _ _ _ _ _ _ _ (TJ75.setTop (mkF m 92 #[.val (.int p1), .val (.int p2), .val (.int p3), .val (.int p4), .val (.int p5), .val (.int p6), .val (.int ((p6 &&& (3 : Int32)) % (3 : Int32))), .val (.int s0_23), .val (.int s0_43), .val (.int s0_59), .val (.int s0_75), .unset, .unset, .unset, .unset, .unset, .unset, .unset, .unset, .unset, .unset, .unset, .unset, .unset, .unset] [(.int (1 : Int32))]))
            exact J92 (1 : Int32) TJ75 _ XJ75 eJ75 NJ75
        refine gIS (c := (((p6.toUInt32 >>> ((5 : Int32) &&& 31).toUInt32).toInt32) &&& (1 : Int32)) = (0 : Int32)) (fun hc67 => ?_) (fun hc67 => ?_)
        · refine goS (fun t k => XS.ifYes XJ59.here hx rfl (pc0 := 67) (pc' := 74) rfl (hb hby at_67) rfl ((if0 _ _).trans (teq hc67).1) (by decide) (by decide) k) ?_
          show GlS _ _ _ _ _ _ _ _ _ _ (TJ59.setTop (mkF m 74 #[.val (.int p1), .val (.int p2), .val (.int p3), .val (.int p4), .val (.int p5), .val (.int p6), .val (.int ((p6 &&& (3 : Int32)) % (3 : Int32))), .val (.int s0_23), .val (.int s0_43), .val (.int s0_59), .unset, .unset, .unset, .unset, .unset, .unset, .unset, .unset, .unset, .unset, .unset, .unset, .unset, .unset, .unset] []))
          refine goS (fun t k => XS.iconst XJ59.here hx rfl (hb hby at_74) k) ?_
          show GlS _ _ _ _ _ _ _ _ _ _ (TJ59.setTop (mkF m 75 #[.val (.int p1), .val (.int p2), .val (.int p3), .val (.int p4), .val (.int p5), .val (.int p6), .val (.int ((p6 &&& (3 : Int32)) % (3 : Int32))), .val (.int s0_23), .val (.int s0_43), .val (.int s0_59), .unset, .unset, .unset, .unset, .unset, .unset, .unset, .unset, .unset, .unset, .unset, .unset, .unset, .unset, .unset] [(.int (0 : Int32))]))
          exact J75 (0 : Int32) TJ59 _ XJ59 eJ59 NJ59
        · refine goS (fun t k => XS.ifNo XJ59.here hx rfl (hb hby at_67) rfl ((if0 _ _).trans (feq hc67).1) k) ?_
          show GlS _ _ _ _ _ _ _ _ _ _ (TJ59.setTop (mkF m 70 #[.val (.int p1), .val (.int p2), .val (.int p3), .val (.int p4), .val (.int p5), .val (.int p6), .val (.int ((p6 &&& (3 : Int32)) % (3 : Int32))), .val (.int s0_23), .val (.int s0_43), .val (.int s0_59), .unset, .unset, .unset, .unset, .unset, .unset, .unset, .unset, .unset, .unset, .unset, .unset, .unset, .unset, .unset] []))
          refine goS (fun t k => XS.iconst XJ59.here hx rfl (hb hby at_70) k) ?_
          show GlS _ _ _ _ _ _ _ _ _ _ (TJ59.setTop (mkF m 71 #[.val (.int p1), .val (.int p2), .val (.int p3), .val (.int p4), .val (.int p5), .val (.int p6), .val (.int ((p6 &&& (3 : Int32)) % (3 : Int32))), .val (.int s0_23), .val (.int s0_43), .val (.int s0_59), .unset, .unset, .unset, .unset, .unset, .unset, .unset, .unset, .unset, .unset, .unset, .unset, .unset, .unset, .unset] [(.int (1 : Int32))]))
          refine goS (fun t k => XS.goto XJ59.here hx rfl (pc0 := 71) (pc' := 75) rfl (hb hby at_71) (by decide) (by decide) k) ?_
          show GlS _ _ _ _ _ _ _ _ _ _ (TJ59.setTop (mkF m 75 #[.val (.int p1), .val (.int p2), .val (.int p3), .val (.int p4), .val (.int p5), .val (.int p6), .val (.int ((p6 &&& (3 : Int32)) % (3 : Int32))), .val (.int s0_23), .val (.int s0_43), .val (.int s0_59), .unset, .unset, .unset, .unset, .unset, .unset, .unset, .unset, .unset, .unset, .unset, .unset, .unset, .unset, .unset] [(.int (1 : Int32))]))
          exact J75 (1 : Int32) TJ59 _ XJ59 eJ59 NJ59
      refine gIS (c := (((p6.toUInt32 >>> ((4 : Int32) &&& 31).toUInt32).toInt32) &&& (1 : Int32)) = (0 : Int32)) (fun hc51 => ?_) (fun hc51 => ?_)
      · refine goS (fun t k => XS.ifYes XJ43.here hx rfl (pc0 := 51) (pc' := 58) rfl (hb hby at_51) rfl ((if0 _ _).trans (teq hc51).1) (by decide) (by decide) k) ?_
        show GlS _ _ _ _ _ _ _ _ _ _ (TJ43.setTop (mkF m 58 #[.val (.int p1), .val (.int p2), .val (.int p3), .val (.int p4), .val (.int p5), .val (.int p6), .val (.int ((p6 &&& (3 : Int32)) % (3 : Int32))), .val (.int s0_23), .val (.int s0_43), .unset, .unset, .unset, .unset, .unset, .unset, .unset, .unset, .unset, .unset, .unset, .unset, .unset, .unset, .unset, .unset] []))
        refine goS (fun t k => XS.iconst XJ43.here hx rfl (hb hby at_58) k) ?_
        show GlS _ _ _ _ _ _ _ _ _ _ (TJ43.setTop (mkF m 59 #[.val (.int p1), .val (.int p2), .val (.int p3), .val (.int p4), .val (.int p5), .val (.int p6), .val (.int ((p6 &&& (3 : Int32)) % (3 : Int32))), .val (.int s0_23), .val (.int s0_43), .unset, .unset, .unset, .unset, .unset, .unset, .unset, .unset, .unset, .unset, .unset, .unset, .unset, .unset, .unset, .unset] [(.int (0 : Int32))]))
        exact J59 (0 : Int32) TJ43 _ XJ43 eJ43 NJ43
      · refine goS (fun t k => XS.ifNo XJ43.here hx rfl (hb hby at_51) rfl ((if0 _ _).trans (feq hc51).1) k) ?_
        show GlS _ _ _ _ _ _ _ _ _ _ (TJ43.setTop (mkF m 54 #[.val (.int p1), .val (.int p2), .val (.int p3), .val (.int p4), .val (.int p5), .val (.int p6), .val (.int ((p6 &&& (3 : Int32)) % (3 : Int32))), .val (.int s0_23), .val (.int s0_43), .unset, .unset, .unset, .unset, .unset, .unset, .unset, .unset, .unset, .unset, .unset, .unset, .unset, .unset, .unset, .unset] []))
        refine goS (fun t k => XS.iconst XJ43.here hx rfl (hb hby at_54) k) ?_
        show GlS _ _ _ _ _ _ _ _ _ _ (TJ43.setTop (mkF m 55 #[.val (.int p1), .val (.int p2), .val (.int p3), .val (.int p4), .val (.int p5), .val (.int p6), .val (.int ((p6 &&& (3 : Int32)) % (3 : Int32))), .val (.int s0_23), .val (.int s0_43), .unset, .unset, .unset, .unset, .unset, .unset, .unset, .unset, .unset, .unset, .unset, .unset, .unset, .unset, .unset, .unset] [(.int (1 : Int32))]))
        refine goS (fun t k => XS.goto XJ43.here hx rfl (pc0 := 55) (pc' := 59) rfl (hb hby at_55) (by decide) (by decide) k) ?_
        show GlS _ _ _ _ _ _ _ _ _ _ (TJ43.setTop (mkF m 59 #[.val (.int p1), .val (.int p2), .val (.int p3), .val (.int p4), .val (.int p5), .val (.int p6), .val (.int ((p6 &&& (3 : Int32)) % (3 : Int32))), .val (.int s0_23), .val (.int s0_43), .unset, .unset, .unset, .unset, .unset, .unset, .unset, .unset, .unset, .unset, .unset, .unset, .unset, .unset, .unset, .unset] [(.int (1 : Int32))]))
        exact J59 (1 : Int32) TJ43 _ XJ43 eJ43 NJ43
    refine gIS (c := s0_23 = (0 : Int32)) (fun hc27 => ?_) (fun hc27 => ?_)
    · refine goS (fun t k => XS.ifYes XJ23.here hx rfl (pc0 := 27) (pc' := 35) rfl (hb hby at_27) rfl ((if0 _ _).trans (teq hc27).1) (by decide) (by decide) k) ?_
      show GlS _ _ _ _ _ _ _ _ _ _ (TJ23.setTop (mkF m 35 #[.val (.int p1), .val (.int p2), .val (.int p3), .val (.int p4), .val (.int p5), .val (.int p6), .val (.int ((p6 &&& (3 : Int32)) % (3 : Int32))), .val (.int s0_23), .unset, .unset, .unset, .unset, .unset, .unset, .unset, .unset, .unset, .unset, .unset, .unset, .unset, .unset, .unset, .unset, .unset] []))
      refine goS (fun t k => XS.iload XJ23.here hx rfl (hb hby at_35) rfl  k) ?_
      show GlS _ _ _ _ _ _ _ _ _ _ (TJ23.setTop (mkF m 37 #[.val (.int p1), .val (.int p2), .val (.int p3), .val (.int p4), .val (.int p5), .val (.int p6), .val (.int ((p6 &&& (3 : Int32)) % (3 : Int32))), .val (.int s0_23), .unset, .unset, .unset, .unset, .unset, .unset, .unset, .unset, .unset, .unset, .unset, .unset, .unset, .unset, .unset, .unset, .unset] [(.int p6)]))
      refine goS (fun t k => XS.iconst XJ23.here hx rfl (hb hby at_37) k) ?_
      show GlS _ _ _ _ _ _ _ _ _ _ (TJ23.setTop (mkF m 38 #[.val (.int p1), .val (.int p2), .val (.int p3), .val (.int p4), .val (.int p5), .val (.int p6), .val (.int ((p6 &&& (3 : Int32)) % (3 : Int32))), .val (.int s0_23), .unset, .unset, .unset, .unset, .unset, .unset, .unset, .unset, .unset, .unset, .unset, .unset, .unset, .unset, .unset, .unset, .unset] [(.int (2 : Int32)), (.int p6)]))
      refine goS (fun t k => XS.iushr XJ23.here hx rfl (hb hby at_38) rfl k) ?_
      show GlS _ _ _ _ _ _ _ _ _ _ (TJ23.setTop (mkF m 39 #[.val (.int p1), .val (.int p2), .val (.int p3), .val (.int p4), .val (.int p5), .val (.int p6), .val (.int ((p6 &&& (3 : Int32)) % (3 : Int32))), .val (.int s0_23), .unset, .unset, .unset, .unset, .unset, .unset, .unset, .unset, .unset, .unset, .unset, .unset, .unset, .unset, .unset, .unset, .unset] [(.int ((p6.toUInt32 >>> ((2 : Int32) &&& 31).toUInt32).toInt32))]))
      refine goS (fun t k => XS.iconst XJ23.here hx rfl (hb hby at_39) k) ?_
      show GlS _ _ _ _ _ _ _ _ _ _ (TJ23.setTop (mkF m 40 #[.val (.int p1), .val (.int p2), .val (.int p3), .val (.int p4), .val (.int p5), .val (.int p6), .val (.int ((p6 &&& (3 : Int32)) % (3 : Int32))), .val (.int s0_23), .unset, .unset, .unset, .unset, .unset, .unset, .unset, .unset, .unset, .unset, .unset, .unset, .unset, .unset, .unset, .unset, .unset] [(.int (3 : Int32)), (.int ((p6.toUInt32 >>> ((2 : Int32) &&& 31).toUInt32).toInt32))]))
      refine goS (fun t k => XS.iand XJ23.here hx rfl (hb hby at_40) rfl k) ?_
      show GlS _ _ _ _ _ _ _ _ _ _ (TJ23.setTop (mkF m 41 #[.val (.int p1), .val (.int p2), .val (.int p3), .val (.int p4), .val (.int p5), .val (.int p6), .val (.int ((p6 &&& (3 : Int32)) % (3 : Int32))), .val (.int s0_23), .unset, .unset, .unset, .unset, .unset, .unset, .unset, .unset, .unset, .unset, .unset, .unset, .unset, .unset, .unset, .unset, .unset] [(.int (((p6.toUInt32 >>> ((2 : Int32) &&& 31).toUInt32).toInt32) &&& (3 : Int32)))]))
      refine goS (fun t k => XS.iconst XJ23.here hx rfl (hb hby at_41) k) ?_
      show GlS _ _ _ _ _ _ _ _ _ _ (TJ23.setTop (mkF m 42 #[.val (.int p1), .val (.int p2), .val (.int p3), .val (.int p4), .val (.int p5), .val (.int p6), .val (.int ((p6 &&& (3 : Int32)) % (3 : Int32))), .val (.int s0_23), .unset, .unset, .unset, .unset, .unset, .unset, .unset, .unset, .unset, .unset, .unset, .unset, .unset, .unset, .unset, .unset, .unset] [(.int (3 : Int32)), (.int (((p6.toUInt32 >>> ((2 : Int32) &&& 31).toUInt32).toInt32) &&& (3 : Int32)))]))
      refine goS (fun t k => iremM XJ23 hx rfl (hb hby at_42) rfl (by decide) k) ?_
      show GlS _ _ _ _ _ _ _ _ _ _ (TJ23.setTop (mkF m 43 #[.val (.int p1), .val (.int p2), .val (.int p3), .val (.int p4), .val (.int p5), .val (.int p6), .val (.int ((p6 &&& (3 : Int32)) % (3 : Int32))), .val (.int s0_23), .unset, .unset, .unset, .unset, .unset, .unset, .unset, .unset, .unset, .unset, .unset, .unset, .unset, .unset, .unset, .unset, .unset] [(.int ((((p6.toUInt32 >>> ((2 : Int32) &&& 31).toUInt32).toInt32) &&& (3 : Int32)) % (3 : Int32)))]))
      exact J43 ((((p6.toUInt32 >>> ((2 : Int32) &&& 31).toUInt32).toInt32) &&& (3 : Int32)) % (3 : Int32)) TJ23 _ XJ23 eJ23 NJ23
    · refine goS (fun t k => XS.ifNo XJ23.here hx rfl (hb hby at_27) rfl ((if0 _ _).trans (feq hc27).1) k) ?_
      show GlS _ _ _ _ _ _ _ _ _ _ (TJ23.setTop (mkF m 30 #[.val (.int p1), .val (.int p2), .val (.int p3), .val (.int p4), .val (.int p5), .val (.int p6), .val (.int ((p6 &&& (3 : Int32)) % (3 : Int32))), .val (.int s0_23), .unset, .unset, .unset, .unset, .unset, .unset, .unset, .unset, .unset, .unset, .unset, .unset, .unset, .unset, .unset, .unset, .unset] []))
      refine goS (fun t k => XS.iload XJ23.here hx rfl (hb hby at_30) rfl  k) ?_
      show GlS _ _ _ _ _ _ _ _ _ _ (TJ23.setTop (mkF m 32 #[.val (.int p1), .val (.int p2), .val (.int p3), .val (.int p4), .val (.int p5), .val (.int p6), .val (.int ((p6 &&& (3 : Int32)) % (3 : Int32))), .val (.int s0_23), .unset, .unset, .unset, .unset, .unset, .unset, .unset, .unset, .unset, .unset, .unset, .unset, .unset, .unset, .unset, .unset, .unset] [(.int ((p6 &&& (3 : Int32)) % (3 : Int32)))]))
      refine goS (fun t k => XS.goto XJ23.here hx rfl (pc0 := 32) (pc' := 43) rfl (hb hby at_32) (by decide) (by decide) k) ?_
      show GlS _ _ _ _ _ _ _ _ _ _ (TJ23.setTop (mkF m 43 #[.val (.int p1), .val (.int p2), .val (.int p3), .val (.int p4), .val (.int p5), .val (.int p6), .val (.int ((p6 &&& (3 : Int32)) % (3 : Int32))), .val (.int s0_23), .unset, .unset, .unset, .unset, .unset, .unset, .unset, .unset, .unset, .unset, .unset, .unset, .unset, .unset, .unset, .unset, .unset] [(.int ((p6 &&& (3 : Int32)) % (3 : Int32)))]))
      exact J43 ((p6 &&& (3 : Int32)) % (3 : Int32)) TJ23 _ XJ23 eJ23 NJ23
  refine gIS (c := (((p6.toUInt32 >>> ((9 : Int32) &&& 31).toUInt32).toInt32) &&& (1 : Int32)) = (0 : Int32)) (fun hc15 => ?_) (fun hc15 => ?_)
  · refine goS (fun t k => XS.ifYes X0.here hx rfl (pc0 := 15) (pc' := 22) rfl (hb hby at_15) rfl ((if0 _ _).trans (teq hc15).1) (by decide) (by decide) k) ?_
    show GlS _ _ _ _ _ _ _ _ _ _ (s₁.setTop (mkF m 22 #[.val (.int p1), .val (.int p2), .val (.int p3), .val (.int p4), .val (.int p5), .val (.int p6), .val (.int ((p6 &&& (3 : Int32)) % (3 : Int32))), .unset, .unset, .unset, .unset, .unset, .unset, .unset, .unset, .unset, .unset, .unset, .unset, .unset, .unset, .unset, .unset, .unset, .unset] []))
    refine goS (fun t k => XS.iconst X0.here hx rfl (hb hby at_22) k) ?_
    show GlS _ _ _ _ _ _ _ _ _ _ (s₁.setTop (mkF m 23 #[.val (.int p1), .val (.int p2), .val (.int p3), .val (.int p4), .val (.int p5), .val (.int p6), .val (.int ((p6 &&& (3 : Int32)) % (3 : Int32))), .unset, .unset, .unset, .unset, .unset, .unset, .unset, .unset, .unset, .unset, .unset, .unset, .unset, .unset, .unset, .unset, .unset, .unset] [(.int (0 : Int32))]))
    exact J23 (0 : Int32) s₁ _ X0 e0 N0
  · refine goS (fun t k => XS.ifNo X0.here hx rfl (hb hby at_15) rfl ((if0 _ _).trans (feq hc15).1) k) ?_
    show GlS _ _ _ _ _ _ _ _ _ _ (s₁.setTop (mkF m 18 #[.val (.int p1), .val (.int p2), .val (.int p3), .val (.int p4), .val (.int p5), .val (.int p6), .val (.int ((p6 &&& (3 : Int32)) % (3 : Int32))), .unset, .unset, .unset, .unset, .unset, .unset, .unset, .unset, .unset, .unset, .unset, .unset, .unset, .unset, .unset, .unset, .unset, .unset] []))
    refine goS (fun t k => XS.iconst X0.here hx rfl (hb hby at_18) k) ?_
    show GlS _ _ _ _ _ _ _ _ _ _ (s₁.setTop (mkF m 19 #[.val (.int p1), .val (.int p2), .val (.int p3), .val (.int p4), .val (.int p5), .val (.int p6), .val (.int ((p6 &&& (3 : Int32)) % (3 : Int32))), .unset, .unset, .unset, .unset, .unset, .unset, .unset, .unset, .unset, .unset, .unset, .unset, .unset, .unset, .unset, .unset, .unset, .unset] [(.int (1 : Int32))]))
    refine goS (fun t k => XS.goto X0.here hx rfl (pc0 := 19) (pc' := 23) rfl (hb hby at_19) (by decide) (by decide) k) ?_
    show GlS _ _ _ _ _ _ _ _ _ _ (s₁.setTop (mkF m 23 #[.val (.int p1), .val (.int p2), .val (.int p3), .val (.int p4), .val (.int p5), .val (.int p6), .val (.int ((p6 &&& (3 : Int32)) % (3 : Int32))), .unset, .unset, .unset, .unset, .unset, .unset, .unset, .unset, .unset, .unset, .unset, .unset, .unset, .unset, .unset, .unset, .unset, .unset] [(.int (1 : Int32))]))
    exact J23 (1 : Int32) s₁ _ X0 e0 N0
theorem own_m3 (x : Int32) : (x &&& (3 : Int32)) % (3 : Int32) = 0 ∨ (x &&& (3 : Int32)) % (3 : Int32) = 1 ∨ (x &&& (3 : Int32)) % (3 : Int32) = 2 := by
  have e := Jvm.Kit.i32_mask x 3 (k := 2) (by decide) (by decide)
  have h : (x &&& (3 : Int32)) = 0 ∨ (x &&& (3 : Int32)) = 1 ∨ (x &&& (3 : Int32)) = 2 ∨ (x &&& (3 : Int32)) = 3 := by
    simp only [← Int32.toInt_inj, e, Int32.reduceToInt]; omega
  rcases h with h | h | h | h <;> rw [h] <;> decide
theorem own_set (n1 n2 c1 c2 c3 c4 : Int32) (h1 : n1 = 0 ∨ n1 = 1 ∨ n1 = 2) (h2 : n2 = 0 ∨ n2 = 1 ∨ n2 = 2) : (own_cs n1 c1 c2 = own_cs n2 c3 c4) ↔ (n1 = n2 ∧ (n1 < 1 ∨ c1 = c3) ∧ (n1 < 2 ∨ c2 = c4)) := by
  rcases h1 with rfl | rfl | rfl <;> rcases h2 with rfl | rfl | rfl <;> simp [own_cs]
theorem own_n1 : nar .boolean (1 : Int32) = 1 := by decide
theorem own_n0 : nar .boolean (0 : Int32) = 0 := by decide
theorem own_mid (a b c d : Int32) (ls ms : List Int32) : b7tw_0 a b c d ls ms = if a = c ∧ b = d ∧ ls = ms then 1 else 0 := by
  unfold b7tw_0 b7tw_54 b7tw_55 own_eq
  rw [own_n1, own_n0]
  by_cases h1 : a = c <;> by_cases h2 : b = d <;> by_cases h3 : ls = ms <;> simp [h1, h2, h3]
theorem own_190 (p1 p2 p5 p6 n2 x y c3 c4 : Int32) (h2 : n2 = 0 ∨ n2 = 1 ∨ n2 = 2) (h3 : nar .char c3 = c3) (h4 : nar .char c4 = c4) : b0_190 p1 p2 p5 p6 n2 x y c3 c4 = 1 := by
  have h1 := own_m3 p6
  unfold b0_190 b0_267 b0_280 b0_284 b0_285 b0_308 b0_309 b0_369 b0_369x2 b0_369x3 b0_369x4 b7tn_0 b7ts_0
  rw [own_n1, own_n0]
  simp only [own_nar, h3, h4, own_mid]
  generalize (p6 &&& (3 : Int32)) % (3 : Int32) = n1 at *
  generalize ((p5 &&& (255 : Int32)).toUInt32.toUInt16.toUInt32.toInt32) = c1 at *
  generalize ((((p5.toUInt32 >>> ((8 : Int32) &&& 31).toUInt32).toInt32) &&& (255 : Int32)).toUInt32.toUInt16.toUInt32.toInt32) = c2 at *
  generalize (((p6.toUInt32 >>> ((7 : Int32) &&& 31).toUInt32).toInt32) &&& (3 : Int32)) = k at *
  simp only [own_set n1 n2 c1 c2 c3 c4 h1 h2, true_and, and_true, if_true]
  clear h1 h2 h3 h4
  by_cases e3 : n1 = n2
  · subst e3
    by_cases e1 : p1 = x <;> by_cases e2 : p2 = y <;> by_cases e4 : n1 < 1 <;> by_cases e5 : c1 = c3 <;> by_cases e6 : n1 < 2 <;> by_cases e7 : c2 = c4 <;> simp only [e1, e2, e4, e5, e6, e7, if_true, if_false, true_and, and_true, true_or, or_true, false_or, or_false, and_false, false_and] <;> (repeat' split) <;> first | rfl | contradiction
  · by_cases e1 : p1 = x <;> by_cases e2 : p2 = y <;> simp only [e1, e2, e3, if_true, if_false, true_and, and_true, and_false, false_and] <;> (repeat' split) <;> first | rfl | contradiction
theorem own_168 (p1 p2 p5 p6 n2 f x y c3 : Int32) (h2 : n2 = 0 ∨ n2 = 1 ∨ n2 = 2) (h3 : nar .char c3 = c3) : b0_168 p1 p2 p5 p6 n2 f x y c3 = 1 := by
  unfold b0_168; split <;> exact own_190 _ _ _ _ _ _ _ _ _ h2 h3 (own_nar _)
theorem own_125 (p1 p2 p5 p6 n2 f x y : Int32) (h2 : n2 = 0 ∨ n2 = 1 ∨ n2 = 2) : b0_125 p1 p2 p5 p6 n2 f x y = 1 := by
  unfold b0_125; split <;> exact own_168 _ _ _ _ _ _ _ _ _ h2 (own_nar _)
theorem own_113 (p1 p2 p4 p5 p6 n2 g f x : Int32) (h2 : n2 = 0 ∨ n2 = 1 ∨ n2 = 2) : b0_113 p1 p2 p4 p5 p6 n2 g f x = 1 := by
  unfold b0_113; split <;> exact own_125 _ _ _ _ _ _ _ _ h2
theorem own_92 (p1 p2 p3 p4 p5 p6 n2 e g f : Int32) (h2 : n2 = 0 ∨ n2 = 1 ∨ n2 = 2) : b0_92 p1 p2 p3 p4 p5 p6 n2 e g f = 1 := by
  unfold b0_92; split <;> exact own_113 _ _ _ _ _ _ _ _ _ h2
theorem own_75 (p1 p2 p3 p4 p5 p6 n2 e g : Int32) (h2 : n2 = 0 ∨ n2 = 1 ∨ n2 = 2) : b0_75 p1 p2 p3 p4 p5 p6 n2 e g = 1 := by
  unfold b0_75; split <;> exact own_92 _ _ _ _ _ _ _ _ _ _ h2
theorem own_59 (p1 p2 p3 p4 p5 p6 n2 e : Int32) (h2 : n2 = 0 ∨ n2 = 1 ∨ n2 = 2) : b0_59 p1 p2 p3 p4 p5 p6 n2 e = 1 := by
  unfold b0_59; split <;> exact own_75 _ _ _ _ _ _ _ _ _ h2
theorem own_43 (p1 p2 p3 p4 p5 p6 n2 : Int32) (h2 : n2 = 0 ∨ n2 = 1 ∨ n2 = 2) : b0_43 p1 p2 p3 p4 p5 p6 n2 = 1 := by
  unfold b0_43; split <;> exact own_59 _ _ _ _ _ _ _ _ h2
theorem own_23 (p1 p2 p3 p4 p5 p6 b : Int32) : b0_23 p1 p2 p3 p4 p5 p6 b = 1 := by
  unfold b0_23; split <;> exact own_43 _ _ _ _ _ _ _ (own_m3 _)
theorem law_eq (i0 i1 i2 i3 i4 i5 : Int32) : b0_0 i0 i1 i2 i3 i4 i5 = 1 := by
  unfold b0_0; split <;> exact own_23 _ _ _ _ _ _ _
set_option maxRecDepth 65536 in
set_option maxHeartbeats 40000000 in
theorem comes_1 {Post : Tables → Env → Array Value → State → Outcome → State → Prop} (hpost : ∀ tb e args s v u, (limb_1_1.after args s (.returned v) u = true ∧ limb_1_2.after args s (.returned v) u = true ∧ True) → FramedW s (.returned v) u (Jvm.fieldLocs frame_1_writes args s ++ Jvm.arrayLocs frame_1_arrays args s ++ Jvm.staticLocs frame_1_statics s) 32 2176 → Post tb e args s (.returned v) u) :
    ArmFor flags0 classFile x code maxLocals ret World_1 tables_1 room_1 Calls_1 rest_1 Pre_1 Post := by
  intro l hfl _ _ p e ha hc hk s m args below hf hA hF happ hP
  obtain ⟨hcalls, hrest, hpre⟩ := hP
  obtain ⟨-, -, -, hnamed, -, -, -, hat⟩ := (Spec.applies_iff hf).mp happ
  obtain ⟨hg, hn⟩ := and_e (Cond.before_iff.mp (show (Jvm.Cond.and given_1 narrow_1).before args s = true from hpre))
  obtain ⟨g1, g2⟩ := and_e hg
  obtain ⟨g3, g4⟩ := and_e g2
  obtain ⟨g5, g6⟩ := and_e g4
  obtain ⟨g7, g8⟩ := and_e g6
  obtain ⟨g9, g10⟩ := and_e g8
  obtain ⟨g11, g12⟩ := and_e g10
  obtain ⟨w0, w1, w2, w3, w4, w5, rfl⟩ : ∃ w0 w1 w2 w3 w4 w5 : Value, args = #[w0, w1, w2, w3, w4, w5] := by
    have hs : args.size = 6 := by simpa [Cond.value, given_1] using g1
    obtain ⟨L⟩ := args
    match L, hs with
    | [w0, w1, w2, w3, w4, w5], _ => exact ⟨w0, w1, w2, w3, w4, w5, rfl⟩
  have hw := fun d (hd : d ∈ tables_1) => atoms_spec (ws := Jvm.Cond.code x code maxLocals ret :: tables_1) hat d (List.mem_cons_of_mem _ hd)
  have hfit : Fit s := fun {y c} hc i hi => by
    obtain ⟨ha, rfl⟩ := Array.getElem?_eq_some_iff.mp hc
    have q := List.all_eq_true.mp ((Array.all_eq_true_iff_forall_mem.mp hF) _ (Array.getElem_mem ha)) i (List.mem_range.mpr hi)
    simpa [Array.getElem?_eq_getElem hi] using q
  obtain ⟨i0, ei0⟩ := is_v g3
  obtain rfl : w0 = (.int i0) := Option.some.inj ei0
  obtain ⟨i1, ei1⟩ := is_v g5
  obtain rfl : w1 = (.int i1) := Option.some.inj ei1
  obtain ⟨i2, ei2⟩ := is_v g7
  obtain rfl : w2 = (.int i2) := Option.some.inj ei2
  obtain ⟨i3, ei3⟩ := is_v g9
  obtain rfl : w3 = (.int i3) := Option.some.inj ei3
  obtain ⟨i4, ei4⟩ := is_v g11
  obtain rfl : w4 = (.int i4) := Option.some.inj ei4
  obtain ⟨i5, ei5⟩ := is_v g12
  obtain rfl : w5 = (.int i5) := Option.some.inj ei5
  obtain ⟨hsets, hown0⟩ := atoms_of _ (rest_1_c_eq ▸ (show rest_1_c.before _ s = true from hrest))
  have n5 := not_v (Cond.before_iff.mp (hsets _ (List.mem_of_getElem? (i := 2) rfl)))
  obtain ⟨cz, ecz⟩ := is_v (Cond.before_iff.mp (hsets _ (List.mem_of_getElem? (i := 1) rfl)))
  have S_C : Sta s s.heap "java/lang/String" "COMPACT_STRINGS" "Z" (.int cz) := Sta.start ecz (Or.inl (hsets _ (List.mem_of_getElem? (i := 0) rfl)))
  have hcz : ¬ (cz = (0 : Int32)) := gotF (Cond.eq_ints ecz (Term.int_eval (0))) n5
  have hCH : CHv s own_EL s.vm s.heap := CHv.start (own_ew hw) (fun p hp => by
    cases List.mem_singleton.mp hp
    exact (show Jvm.Lit.constHeld s "java/lang/String" 7 from hcalls.1 _ (List.mem_of_getElem? (i := 1) rfl))) (hsets _ (List.mem_of_getElem? (i := 2) rfl)) (hw _ (List.mem_of_getElem? (i := 19) rfl)) (hw _ (List.mem_of_getElem? (i := 5) rfl))
  obtain ⟨n, o, h1, h2, h3, _, L, rfl, ⟨⟨hv, -⟩, N⟩, -, hq⟩ := rm0 l s _ hw tables_1 i0 i1 i2 i3 i4 i5 cz s.heap s.heap.size (Nat.le_refl _) S_C hcz p e ha hc hk s m _ below hf ((Spec.applies_iff_loose hf).mp happ).1 ⟨rfl, State.Warmed39.refl s, rfl, hCH⟩ trivial
  rw [law_eq] at hv
  subst hv
  refine ⟨n, _, h1, h2, h3, hpost _ _ _ _ _ _ ⟨Cond.after_iff.mpr rfl, Cond.after_iff.mpr (eq_i res_at (Term.int_eval (1)) rfl), trivial⟩ ⟨hq.1, hq.2.1, hq.2.2.1, (hq.2.2.2.sift fun y hy => Or.inr (N y hy)).mono (by decide) (by decide)⟩⟩
theorem main_1_1 : Claimed_1_1 := comes_1 fun _ _ _ _ _ _ h hF => ⟨h.1, hF⟩
theorem main_1_2 : Claimed_1_2 := comes_1 fun _ _ _ _ _ _ h hF => ⟨h.2.1, hF⟩
end Jvm.Pilot.@@N@@
namespace Jvm.Pilot.@@N@@
open Jvm Jvm.ClassFile Sem Op Lib Jvm.Free Jvm.Stand Jvm.Pilot.@@N@@.Jvm.D
/-! MADE BY PROGRAM (witnessworld.py) out of the Statement's table words and the real class files: 21 classes; the members and pool entries that the words name. The judged class is class 1, her method 2. -/
namespace start1
open Jvm.ClassFile
def u (s : String) : CpInfo := .utf8 (stringToUtf16 s)
/-- a pool by its gaps: so many unusable entries, then the entry; so many at the end -/
def gap : Nat → List CpInfo → List CpInfo
  | 0, r => r
  | n + 1, r => .unusable :: gap n r
def poolList (es : List (Nat × CpInfo)) (last : Nat) : List CpInfo := es.foldr (fun e r => gap e.1 (e.2 :: r)) (gap last [])
def pool (es : List (Nat × CpInfo)) (last : Nat) : Array CpInfo := ⟨poolList es last⟩
def fileOf (pool : Array CpInfo) (this : Nat) (attrs : Array Attribute := #[]) (ms : Array MethodInfo := #[]) (fl : Nat := 33) (sup : Nat := 0) (ifs : Array Nat := #[]) (fds : Array FieldInfo := #[]) : ClassFile where
  minorVersion := 0
  majorVersion := 65
  constantPool := pool
  accessFlags := fl
  thisClass := this
  superClass := sup
  interfaces := ifs
  fields := fds
  methods := ms
  attributes := attrs
def plain (name : String) (sup : Option ClassId) : Class where
  name := name
  kind := .ordinary
  loader := none
  accessFlags := 33
  super := sup
  interfaces := #[]
  cf := none
  fields := #[]
  methods := #[]
  instanceTypes := #[]
  staticTypes := #[]
  resolved := #[]
  callSites := []
  init := .initialized
  statics := none
  mirror := none

def pool0 : Array CpInfo := pool [(5, u "<init>"), (0, u "()V"), (1, .class_ 10), (1, u "java/lang/Object")] 113

def k0c0 : Code := { maxStack := 0, maxLocals := 1, code := object_method_1_code, exceptionTable := #[], attributes := #[] }
def k0m0 : Method := { name := "<init>", desc := "()V", sig := { parameters := [], returnType := none }, accessFlags := 1, code := some k0c0 }
/-- java/lang/Object -/
def k0 : Class := { plain "java/lang/Object" none with
  accessFlags := 33
  interfaces := #[]
  cf := some (fileOf pool0 8 #[] #[{ accessFlags := 1, nameIndex := 5, descriptorIndex := 6, attributes := #[] }] 33 0 #[] #[])
  fields := #[]
  methods := #[k0m0]
  instanceTypes := #[]
  staticTypes := #[]
  resolved := Array.replicate 124 none
  statics := none }

def pool1 : Array CpInfo := pool [(2, .class_ 4), (1, u "java/lang/Object"), (0, u "<init>"), (0, u "()V"), (0, .class_ 8), (0, u "java/lang/String"), (0, .methodref 7 10), (0, .nameAndType 5 11), (0, u "([C)V"), (0, .methodref 13 14), (0, .class_ 15), (0, .nameAndType 16 17), (0, u "com/example/tercet/tercet/SyntaxWarningEqualsPinLaw"), (0, u "str"), (0, u "(ICC)Ljava/lang/String;"), (0, .class_ 19), (0, u "com/example/tercet/tercet/SyntaxWarning"), (0, .methodref 18 21), (0, .nameAndType 5 22), (0, u "(IILjava/lang/String;)V"), (0, .methodref 18 24), (0, .nameAndType 25 26), (0, u "equals"), (0, u "(Ljava/lang/Object;)Z"), (3, u "law"), (0, u "(IIIIII)Z")] 2

def k1m0 : Method := { name := "<init>", desc := "()V", sig := { parameters := [], returnType := none }, accessFlags := 1, code := none }
def k1c1 : Code := { maxStack := 6, maxLocals := 3, code := method_2_code, exceptionTable := #[], attributes := #[] }
def k1m1 : Method := { name := "str", desc := "(ICC)Ljava/lang/String;", sig := { parameters := [.int, .char, .char], returnType := some (.object "java/lang/String") }, accessFlags := 10, code := some k1c1 }
def k1c2 : Code := { maxStack := 5, maxLocals := 25, code := code, exceptionTable := #[], attributes := #[] }
def k1m2 : Method := { name := "law", desc := "(IIIIII)Z", sig := { parameters := [.int, .int, .int, .int, .int, .int], returnType := some .boolean }, accessFlags := 9, code := some k1c2 }
/-- com/example/tercet/tercet/SyntaxWarningEqualsPinLaw -/
def k1 : Class := { plain "com/example/tercet/tercet/SyntaxWarningEqualsPinLaw" (some 0) with
  accessFlags := 49
  interfaces := #[]
  cf := some (fileOf pool1 13 #[] #[{ accessFlags := 1, nameIndex := 5, descriptorIndex := 6, attributes := #[] }, { accessFlags := 10, nameIndex := 16, descriptorIndex := 17, attributes := #[] }, { accessFlags := 9, nameIndex := 30, descriptorIndex := 31, attributes := #[] }] 49 2 #[] #[])
  fields := #[]
  methods := #[k1m0, k1m1, k1m2]
  instanceTypes := #[]
  staticTypes := #[]
  resolved := Array.replicate 34 none
  statics := none }

def pool2 : Array CpInfo := pool [(1, .class_ 2), (0, u "java/io/Serializable"), (0, .class_ 4), (0, u "java/lang/Object")] 2

/-- java/io/Serializable -/
def k2 : Class := { plain "java/io/Serializable" (some 0) with
  accessFlags := 1537
  interfaces := #[]
  cf := some (fileOf pool2 1 #[] #[] 1537 3 #[] #[])
  fields := #[]
  methods := #[]
  instanceTypes := #[]
  staticTypes := #[]
  resolved := Array.replicate 7 none
  statics := none }

def pool3 : Array CpInfo := pool [(1, .class_ 2), (0, u "java/lang/Comparable"), (0, .class_ 4), (0, u "java/lang/Object")] 7

/-- java/lang/Comparable -/
def k3 : Class := { plain "java/lang/Comparable" (some 0) with
  accessFlags := 1537
  interfaces := #[]
  cf := some (fileOf pool3 1 #[] #[] 1537 3 #[] #[])
  fields := #[]
  methods := #[]
  instanceTypes := #[]
  staticTypes := #[]
  resolved := Array.replicate 12 none
  statics := none }

def pool4 : Array CpInfo := pool [(2, .class_ 4), (1, u "java/lang/CharSequence"), (42, .class_ 48), (0, u "java/lang/CharSequence$1CodePointIterator"), (10, .class_ 60), (0, u "java/lang/CharSequence$1CharIterator"), (5, .class_ 67), (0, u "java/lang/Object")] 63

/-- java/lang/CharSequence -/
def k4 : Class := { plain "java/lang/CharSequence" (some 0) with
  accessFlags := 1537
  interfaces := #[]
  cf := some (fileOf pool4 2 #[.nestMembers #[47, 59]] #[] 1537 66 #[] #[])
  fields := #[]
  methods := #[]
  instanceTypes := #[]
  staticTypes := #[]
  resolved := Array.replicate 131 none
  statics := none }

def pool5 : Array CpInfo := pool [(1, .class_ 2), (0, u "java/lang/constant/Constable"), (0, .class_ 4), (0, u "java/lang/Object")] 6

/-- java/lang/constant/Constable -/
def k5 : Class := { plain "java/lang/constant/Constable" (some 0) with
  accessFlags := 1537
  interfaces := #[]
  cf := some (fileOf pool5 1 #[] #[] 1537 3 #[] #[])
  fields := #[]
  methods := #[]
  instanceTypes := #[]
  staticTypes := #[]
  resolved := Array.replicate 11 none
  statics := none }

def pool6 : Array CpInfo := pool [(1, .class_ 2), (0, u "java/lang/constant/ConstantDesc"), (0, .class_ 4), (0, u "java/lang/Object")] 32

/-- java/lang/constant/ConstantDesc -/
def k6 : Class := { plain "java/lang/constant/ConstantDesc" (some 0) with
  accessFlags := 1537
  interfaces := #[]
  cf := some (fileOf pool6 1 #[] #[] 1537 3 #[] #[])
  fields := #[]
  methods := #[]
  instanceTypes := #[]
  staticTypes := #[]
  resolved := Array.replicate 37 none
  statics := none }

def pool7 : Array CpInfo := pool [(1, .methodref 2 3), (0, .class_ 4), (0, .nameAndType 5 6), (0, u "java/lang/Object"), (0, u "<init>"), (0, u "()V"), (0, .string 8), (0, u ""), (0, .fieldref 10 11), (0, .class_ 12), (0, .nameAndType 13 14), (0, u "java/lang/String"), (0, u "value"), (0, u "[B"), (0, .fieldref 10 16), (0, .nameAndType 17 18), (0, u "coder"), (0, u "B"), (2, u "hash"), (0, u "I"), (2, u "hashIsZero"), (0, u "Z"), (0, .methodref 10 28), (0, .nameAndType 5 29), (0, u "([CIILjava/lang/Void;)V"), (8, .fieldref 10 39), (0, .nameAndType 40 26), (0, u "COMPACT_STRINGS"), (1, .class_ 44), (1, u "java/lang/StringUTF16"), (0, u "compress"), (1, .methodref 42 48), (0, .nameAndType 49 50), (0, u "coderFromArrayLen"), (0, u "([BI)B"), (56, .class_ 109), (1, u "java/lang/StringLatin1"), (67, .methodref 42 178), (0, .nameAndType 45 179), (0, u "([CII)[B"), (361, .methodref 107 542), (0, .nameAndType 543 544), (0, u "equals"), (0, u "([B[B)Z"), (28, u "(Ljava/lang/Object;)Z"), (1, .class_ 576), (0, u "java/lang/CharSequence"), (22, u "CASE_INSENSITIVE_ORDER"), (0, u "Ljava/util/Comparator;"), (409, u "([C)V"), (90, u "serialPersistentFields"), (0, u "[Ljava/io/ObjectStreamField;"), (0, .class_ 1104), (0, u "java/lang/String$CaseInsensitiveComparator"), (1, .class_ 1107), (0, u "java/io/Serializable"), (0, .class_ 1109), (0, u "java/lang/Comparable"), (0, .class_ 1111), (0, u "java/lang/constant/Constable"), (0, .class_ 1113), (0, u "java/lang/constant/ConstantDesc"), (2, u "serialVersionUID"), (0, u "J"), (3, u "REPL"), (0, u "C"), (2, u "LATIN1"), (1, u "UTF16")] 323

def k7m0 : Method := { name := "<init>", desc := "()V", sig := { parameters := [], returnType := none }, accessFlags := 1, code := none }
def k7c1 : Code := { maxStack := 5, maxLocals := 2, code := jdk_42_method_3_code, exceptionTable := #[], attributes := #[] }
def k7m1 : Method := { name := "<init>", desc := "([C)V", sig := { parameters := [(.array .char)], returnType := none }, accessFlags := 1, code := some k7c1 }
def k7c2 : Code := { maxStack := 2, maxLocals := 3, code := jdk_42_method_66_code, exceptionTable := #[], attributes := #[] }
def k7m2 : Method := { name := "equals", desc := "(Ljava/lang/Object;)Z", sig := { parameters := [(.object "java/lang/Object")], returnType := some .boolean }, accessFlags := 1, code := some k7c2 }
def k7c3 : Code := { maxStack := 4, maxLocals := 6, code := jdk_42_method_149_code, exceptionTable := #[], attributes := #[] }
def k7m3 : Method := { name := "<init>", desc := "([CIILjava/lang/Void;)V", sig := { parameters := [(.array .char), .int, .int, (.object "java/lang/Void")], returnType := none }, accessFlags := 2, code := some k7c3 }
/-- java/lang/String -/
def k7 : Class := { plain "java/lang/String" (some 0) with
  accessFlags := 49
  interfaces := #[2, 3, 4, 5, 6]
  cf := some (fileOf pool7 10 #[.nestMembers #[1103]] #[{ accessFlags := 1, nameIndex := 5, descriptorIndex := 6, attributes := #[] }, { accessFlags := 1, nameIndex := 5, descriptorIndex := 1010, attributes := #[] }, { accessFlags := 1, nameIndex := 543, descriptorIndex := 573, attributes := #[] }, { accessFlags := 2, nameIndex := 5, descriptorIndex := 29, attributes := #[] }] 49 2 #[1106, 1108, 575, 1110, 1112] #[{ accessFlags := 18, nameIndex := 13, descriptorIndex := 14, attributes := #[] }, { accessFlags := 18, nameIndex := 17, descriptorIndex := 18, attributes := #[] }, { accessFlags := 2, nameIndex := 21, descriptorIndex := 22, attributes := #[] }, { accessFlags := 2, nameIndex := 25, descriptorIndex := 26, attributes := #[] }, { accessFlags := 26, nameIndex := 1116, descriptorIndex := 1117, attributes := #[] }, { accessFlags := 24, nameIndex := 40, descriptorIndex := 26, attributes := #[] }, { accessFlags := 26, nameIndex := 1101, descriptorIndex := 1102, attributes := #[] }, { accessFlags := 26, nameIndex := 1121, descriptorIndex := 1122, attributes := #[] }, { accessFlags := 25, nameIndex := 599, descriptorIndex := 600, attributes := #[] }, { accessFlags := 24, nameIndex := 1125, descriptorIndex := 18, attributes := #[] }, { accessFlags := 24, nameIndex := 1127, descriptorIndex := 18, attributes := #[] }])
  fields := #[{ name := "value", type := (.array .byte), accessFlags := 18, slot := 0, constantValue := 0 }, { name := "coder", type := .byte, accessFlags := 18, slot := 1, constantValue := 0 }, { name := "hash", type := .int, accessFlags := 2, slot := 2, constantValue := 0 }, { name := "hashIsZero", type := .boolean, accessFlags := 2, slot := 3, constantValue := 0 }, { name := "serialVersionUID", type := .long, accessFlags := 26, slot := 0, constantValue := 0 }, { name := "COMPACT_STRINGS", type := .boolean, accessFlags := 24, slot := 1, constantValue := 0 }, { name := "serialPersistentFields", type := (.array (.object "java/io/ObjectStreamField")), accessFlags := 26, slot := 2, constantValue := 0 }, { name := "REPL", type := .char, accessFlags := 26, slot := 3, constantValue := 0 }, { name := "CASE_INSENSITIVE_ORDER", type := (.object "java/util/Comparator"), accessFlags := 25, slot := 4, constantValue := 0 }, { name := "LATIN1", type := .byte, accessFlags := 24, slot := 5, constantValue := 0 }, { name := "UTF16", type := .byte, accessFlags := 24, slot := 6, constantValue := 0 }]
  methods := #[k7m0, k7m1, k7m2, k7m3]
  instanceTypes := #[(.array .byte), .byte, .int, .boolean]
  staticTypes := #[.long, .boolean, (.array (.object "java/io/ObjectStreamField")), .char, (.object "java/util/Comparator"), .byte, .byte]
  resolved := Array.replicate 1451 none
  statics := some 0 }

def pool8 : Array CpInfo := pool [(1, .methodref 2 3), (0, .class_ 4), (0, .nameAndType 5 6), (0, u "java/lang/Object"), (0, u "<init>"), (0, u "()V"), (0, .fieldref 8 9), (0, .class_ 10), (0, .nameAndType 11 12), (0, u "com/example/tercet/tercet/SyntaxWarning"), (0, u "line"), (0, u "I"), (0, .fieldref 8 14), (0, .nameAndType 15 12), (0, u "column"), (0, .string 17), (0, u "message"), (0, .methodref 19 20), (0, .class_ 21), (0, .nameAndType 22 23), (0, u "java/util/Objects"), (0, u "requireNonNull"), (0, u "(Ljava/lang/Object;Ljava/lang/String;)Ljava/lang/Object;"), (0, .class_ 25), (0, u "java/lang/String"), (0, .fieldref 8 27), (0, .nameAndType 17 28), (0, u "Ljava/lang/String;"), (0, .methodref 24 30), (0, .nameAndType 31 32), (0, u "equals"), (0, u "(Ljava/lang/Object;)Z"), (14, u "(IILjava/lang/String;)V")] 27

def k8c0 : Code := { maxStack := 3, maxLocals := 4, code := prog_17_method_1_code, exceptionTable := #[], attributes := #[] }
def k8m0 : Method := { name := "<init>", desc := "(IILjava/lang/String;)V", sig := { parameters := [.int, .int, (.object "java/lang/String")], returnType := none }, accessFlags := 1, code := some k8c0 }
def k8c1 : Code := { maxStack := 2, maxLocals := 3, code := prog_17_method_5_code, exceptionTable := #[], attributes := #[] }
def k8m1 : Method := { name := "equals", desc := "(Ljava/lang/Object;)Z", sig := { parameters := [(.object "java/lang/Object")], returnType := some .boolean }, accessFlags := 1, code := some k8c1 }
/-- com/example/tercet/tercet/SyntaxWarning -/
def k8 : Class := { plain "com/example/tercet/tercet/SyntaxWarning" (some 0) with
  accessFlags := 49
  interfaces := #[]
  cf := some (fileOf pool8 8 #[] #[{ accessFlags := 1, nameIndex := 5, descriptorIndex := 47, attributes := #[] }, { accessFlags := 1, nameIndex := 31, descriptorIndex := 32, attributes := #[] }] 49 2 #[] #[{ accessFlags := 18, nameIndex := 11, descriptorIndex := 12, attributes := #[] }, { accessFlags := 18, nameIndex := 15, descriptorIndex := 12, attributes := #[] }, { accessFlags := 18, nameIndex := 17, descriptorIndex := 28, attributes := #[] }])
  fields := #[{ name := "line", type := .int, accessFlags := 18, slot := 0, constantValue := 0 }, { name := "column", type := .int, accessFlags := 18, slot := 1, constantValue := 0 }, { name := "message", type := (.object "java/lang/String"), accessFlags := 18, slot := 2, constantValue := 0 }]
  methods := #[k8m0, k8m1]
  instanceTypes := #[.int, .int, (.object "java/lang/String")]
  staticTypes := #[]
  resolved := Array.replicate 75 none
  statics := none }

def pool9 : Array CpInfo := pool [(2, .class_ 4), (1, u "java/lang/Object"), (0, u "<init>"), (0, u "()V"), (35, .class_ 44), (1, u "java/util/Objects"), (0, u "requireNonNull"), (48, u "(Ljava/lang/Object;Ljava/lang/String;)Ljava/lang/Object;")] 89

def k9m0 : Method := { name := "<init>", desc := "()V", sig := { parameters := [], returnType := none }, accessFlags := 2, code := none }
def k9c1 : Code := { maxStack := 3, maxLocals := 2, code := jdk_31_method_11_code, exceptionTable := #[], attributes := #[] }
def k9m1 : Method := { name := "requireNonNull", desc := "(Ljava/lang/Object;Ljava/lang/String;)Ljava/lang/Object;", sig := { parameters := [(.object "java/lang/Object"), (.object "java/lang/String")], returnType := some (.object "java/lang/Object") }, accessFlags := 9, code := some k9c1 }
/-- java/util/Objects -/
def k9 : Class := { plain "java/util/Objects" (some 0) with
  accessFlags := 49
  interfaces := #[]
  cf := some (fileOf pool9 42 #[] #[{ accessFlags := 2, nameIndex := 5, descriptorIndex := 6, attributes := #[] }, { accessFlags := 9, nameIndex := 45, descriptorIndex := 94, attributes := #[] }] 49 2 #[] #[])
  fields := #[]
  methods := #[k9m0, k9m1]
  instanceTypes := #[]
  staticTypes := #[]
  resolved := Array.replicate 184 none
  statics := none }

def pool10 : Array CpInfo := pool [(6, .class_ 8), (1, u "java/lang/Object"), (0, u "<init>"), (0, u "()V"), (1, .class_ 14), (1, u "java/lang/StringUTF16"), (31, u "$assertionsDisabled"), (0, u "Z"), (13, u "HI_BYTE_SHIFT"), (0, u "I"), (2, u "LO_BYTE_SHIFT"), (49, .methodref 12 116), (0, .nameAndType 117 118), (0, u "compress"), (0, u "([CI[BII)I"), (3, u "([CII)[B"), (138, u "coderFromArrayLen"), (0, u "([BI)B"), (106, .class_ 371), (1, u "java/lang/StringUTF16$LinesSpliterator"), (58, u "MAX_LENGTH"), (196, .class_ 628), (0, u "java/lang/StringUTF16$CodePointsSpliterator"), (0, .class_ 630), (0, u "java/lang/StringUTF16$CharsSpliterator")] 4

def k10m0 : Method := { name := "<init>", desc := "()V", sig := { parameters := [], returnType := none }, accessFlags := 0, code := none }
def k10c1 : Code := { maxStack := 2, maxLocals := 2, code := jdk_52_method_15_code, exceptionTable := #[], attributes := #[] }
def k10m1 : Method := { name := "coderFromArrayLen", desc := "([BI)B", sig := { parameters := [(.array .byte), .int], returnType := some .byte }, accessFlags := 8, code := some k10c1 }
def k10c2 : Code := { maxStack := 5, maxLocals := 6, code := jdk_52_method_16_code, exceptionTable := #[], attributes := #[] }
def k10m2 : Method := { name := "compress", desc := "([CII)[B", sig := { parameters := [(.array .char), .int, .int], returnType := some (.array .byte) }, accessFlags := 9, code := some k10c2 }
def k10c3 : Code := { maxStack := 3, maxLocals := 7, code := jdk_52_method_21_code, exceptionTable := #[], attributes := #[] }
def k10m3 : Method := { name := "compress", desc := "([CI[BII)I", sig := { parameters := [(.array .char), .int, (.array .byte), .int, .int], returnType := some .int }, accessFlags := 9, code := some k10c3 }
/-- java/lang/StringUTF16 -/
def k10 : Class := { plain "java/lang/StringUTF16" (some 0) with
  accessFlags := 48
  interfaces := #[]
  cf := some (fileOf pool10 12 #[.nestMembers #[627, 629, 369]] #[{ accessFlags := 0, nameIndex := 9, descriptorIndex := 10, attributes := #[] }, { accessFlags := 8, nameIndex := 261, descriptorIndex := 262, attributes := #[] }, { accessFlags := 9, nameIndex := 117, descriptorIndex := 122, attributes := #[] }, { accessFlags := 9, nameIndex := 117, descriptorIndex := 118, attributes := #[] }] 48 6 #[] #[{ accessFlags := 26, nameIndex := 61, descriptorIndex := 62, attributes := #[] }, { accessFlags := 26, nameIndex := 65, descriptorIndex := 62, attributes := #[] }, { accessFlags := 24, nameIndex := 430, descriptorIndex := 62, attributes := #[] }, { accessFlags := 4120, nameIndex := 46, descriptorIndex := 47, attributes := #[] }])
  fields := #[{ name := "HI_BYTE_SHIFT", type := .int, accessFlags := 26, slot := 0, constantValue := 0 }, { name := "LO_BYTE_SHIFT", type := .int, accessFlags := 26, slot := 1, constantValue := 0 }, { name := "MAX_LENGTH", type := .int, accessFlags := 24, slot := 2, constantValue := 0 }, { name := "$assertionsDisabled", type := .boolean, accessFlags := 4120, slot := 3, constantValue := 0 }]
  methods := #[k10m0, k10m1, k10m2, k10m3]
  instanceTypes := #[]
  staticTypes := #[.int, .int, .int, .boolean]
  resolved := Array.replicate 635 none
  statics := none }

def pool11 : Array CpInfo := pool [(4, .class_ 6), (1, u "java/lang/Object"), (0, u "<init>"), (0, u "()V"), (5, .class_ 16), (1, u "java/lang/StringLatin1"), (104, u "$assertionsDisabled"), (0, u "Z"), (98, .class_ 223), (1, u "java/lang/StringLatin1$LinesSpliterator"), (57, u "equals"), (0, u "([B[B)Z"), (107, .class_ 391), (0, u "java/lang/StringLatin1$CharsSpliterator")] 3

def k11m0 : Method := { name := "<init>", desc := "()V", sig := { parameters := [], returnType := none }, accessFlags := 0, code := none }
def k11c1 : Code := { maxStack := 3, maxLocals := 3, code := jdk_43_method_13_code, exceptionTable := #[], attributes := #[] }
def k11m1 : Method := { name := "equals", desc := "([B[B)Z", sig := { parameters := [(.array .byte), (.array .byte)], returnType := some .boolean }, accessFlags := 9, code := some k11c1 }
/-- java/lang/StringLatin1 -/
def k11 : Class := { plain "java/lang/StringLatin1" (some 0) with
  accessFlags := 48
  interfaces := #[]
  cf := some (fileOf pool11 14 #[.nestMembers #[390, 221]] #[{ accessFlags := 0, nameIndex := 7, descriptorIndex := 8, attributes := #[] }, { accessFlags := 9, nameIndex := 281, descriptorIndex := 282, attributes := #[] }] 48 4 #[] #[{ accessFlags := 4120, nameIndex := 121, descriptorIndex := 122, attributes := #[] }])
  fields := #[{ name := "$assertionsDisabled", type := .boolean, accessFlags := 4120, slot := 0, constantValue := 0 }]
  methods := #[k11m0, k11m1]
  instanceTypes := #[]
  staticTypes := #[.boolean]
  resolved := Array.replicate 395 none
  statics := none }

def pool12 : Array CpInfo := pool [(2, .class_ 4), (1, u "java/lang/Object"), (0, u "<init>"), (0, u "()V"), (17, .class_ 26), (1, u "jdk/internal/util/Preconditions"), (28, .class_ 56), (0, u "jdk/internal/util/Preconditions$4"), (57, .class_ 115), (0, u "jdk/internal/util/Preconditions$1"), (7, u "SIOOBE_FORMATTER"), (0, u "Ljava/util/function/BiFunction;"), (0, .class_ 126), (0, u "jdk/internal/util/Preconditions$2"), (3, u "AIOOBE_FORMATTER"), (0, .class_ 132), (0, u "jdk/internal/util/Preconditions$3"), (3, u "IOOBE_FORMATTER")] 57

def k12m0 : Method := { name := "<init>", desc := "()V", sig := { parameters := [], returnType := none }, accessFlags := 1, code := none }
/-- jdk/internal/util/Preconditions -/
def k12 : Class := { plain "jdk/internal/util/Preconditions" (some 0) with
  accessFlags := 33
  interfaces := #[]
  cf := some (fileOf pool12 24 #[.nestMembers #[55, 131, 125, 114]] #[{ accessFlags := 1, nameIndex := 5, descriptorIndex := 6, attributes := #[] }] 33 2 #[] #[{ accessFlags := 25, nameIndex := 123, descriptorIndex := 124, attributes := #[] }, { accessFlags := 25, nameIndex := 130, descriptorIndex := 124, attributes := #[] }, { accessFlags := 25, nameIndex := 136, descriptorIndex := 124, attributes := #[] }])
  fields := #[{ name := "SIOOBE_FORMATTER", type := (.object "java/util/function/BiFunction"), accessFlags := 25, slot := 0, constantValue := 0 }, { name := "AIOOBE_FORMATTER", type := (.object "java/util/function/BiFunction"), accessFlags := 25, slot := 1, constantValue := 0 }, { name := "IOOBE_FORMATTER", type := (.object "java/util/function/BiFunction"), accessFlags := 25, slot := 2, constantValue := 0 }]
  methods := #[k12m0]
  instanceTypes := #[]
  staticTypes := #[(.object "java/util/function/BiFunction"), (.object "java/util/function/BiFunction"), (.object "java/util/function/BiFunction")]
  resolved := Array.replicate 194 none
  statics := some 1 }

def pool13 : Array CpInfo := pool [(9, u "<init>"), (6, .class_ 18), (1, u "java/lang/Object"), (0, u "()V"), (1, .class_ 23), (1, u "jdk/internal/util/ArraysSupport"), (0, u "LOG2_ARRAY_LONG_INDEX_SCALE"), (0, u "I"), (2, u "U"), (0, u "Ljdk/internal/misc/Unsafe;"), (8, u "BIG_ENDIAN"), (0, u "Z"), (8, u "LOG2_BYTE_BIT_SIZE"), (4, u "LOG2_ARRAY_INT_INDEX_SCALE"), (54, u "JLA"), (0, u "Ljdk/internal/access/JavaLangAccess;"), (11, u "LOG2_ARRAY_BOOLEAN_INDEX_SCALE"), (9, u "LOG2_ARRAY_BYTE_INDEX_SCALE"), (5, u "LOG2_ARRAY_CHAR_INDEX_SCALE"), (5, u "LOG2_ARRAY_SHORT_INDEX_SCALE"), (18, u "LOG2_ARRAY_FLOAT_INDEX_SCALE"), (24, u "LOG2_ARRAY_DOUBLE_INDEX_SCALE"), (89, u "T_BOOLEAN"), (2, u "T_CHAR"), (1, u "T_FLOAT"), (1, u "T_DOUBLE"), (1, u "T_BYTE"), (1, u "T_SHORT"), (1, u "T_INT"), (1, u "T_LONG"), (1, u "SOFT_MAX_ARRAY_LENGTH")] 83

def k13m0 : Method := { name := "<init>", desc := "()V", sig := { parameters := [], returnType := none }, accessFlags := 2, code := none }
/-- jdk/internal/util/ArraysSupport -/
def k13 : Class := { plain "jdk/internal/util/ArraysSupport" (some 0) with
  accessFlags := 33
  interfaces := #[]
  cf := some (fileOf pool13 21 #[] #[{ accessFlags := 2, nameIndex := 9, descriptorIndex := 19, attributes := #[] }] 33 16 #[] #[{ accessFlags := 24, nameIndex := 28, descriptorIndex := 29, attributes := #[] }, { accessFlags := 26, nameIndex := 38, descriptorIndex := 39, attributes := #[] }, { accessFlags := 25, nameIndex := 121, descriptorIndex := 25, attributes := #[] }, { accessFlags := 25, nameIndex := 131, descriptorIndex := 25, attributes := #[] }, { accessFlags := 25, nameIndex := 137, descriptorIndex := 25, attributes := #[] }, { accessFlags := 25, nameIndex := 143, descriptorIndex := 25, attributes := #[] }, { accessFlags := 25, nameIndex := 53, descriptorIndex := 25, attributes := #[] }, { accessFlags := 25, nameIndex := 24, descriptorIndex := 25, attributes := #[] }, { accessFlags := 25, nameIndex := 162, descriptorIndex := 25, attributes := #[] }, { accessFlags := 25, nameIndex := 187, descriptorIndex := 25, attributes := #[] }, { accessFlags := 26, nameIndex := 48, descriptorIndex := 25, attributes := #[] }, { accessFlags := 25, nameIndex := 277, descriptorIndex := 25, attributes := #[] }, { accessFlags := 25, nameIndex := 280, descriptorIndex := 25, attributes := #[] }, { accessFlags := 25, nameIndex := 282, descriptorIndex := 25, attributes := #[] }, { accessFlags := 25, nameIndex := 284, descriptorIndex := 25, attributes := #[] }, { accessFlags := 25, nameIndex := 286, descriptorIndex := 25, attributes := #[] }, { accessFlags := 25, nameIndex := 288, descriptorIndex := 25, attributes := #[] }, { accessFlags := 25, nameIndex := 290, descriptorIndex := 25, attributes := #[] }, { accessFlags := 25, nameIndex := 292, descriptorIndex := 25, attributes := #[] }, { accessFlags := 26, nameIndex := 108, descriptorIndex := 109, attributes := #[] }, { accessFlags := 25, nameIndex := 294, descriptorIndex := 25, attributes := #[] }])
  fields := #[{ name := "U", type := (.object "jdk/internal/misc/Unsafe"), accessFlags := 24, slot := 0, constantValue := 0 }, { name := "BIG_ENDIAN", type := .boolean, accessFlags := 26, slot := 1, constantValue := 0 }, { name := "LOG2_ARRAY_BOOLEAN_INDEX_SCALE", type := .int, accessFlags := 25, slot := 2, constantValue := 0 }, { name := "LOG2_ARRAY_BYTE_INDEX_SCALE", type := .int, accessFlags := 25, slot := 3, constantValue := 0 }, { name := "LOG2_ARRAY_CHAR_INDEX_SCALE", type := .int, accessFlags := 25, slot := 4, constantValue := 0 }, { name := "LOG2_ARRAY_SHORT_INDEX_SCALE", type := .int, accessFlags := 25, slot := 5, constantValue := 0 }, { name := "LOG2_ARRAY_INT_INDEX_SCALE", type := .int, accessFlags := 25, slot := 6, constantValue := 0 }, { name := "LOG2_ARRAY_LONG_INDEX_SCALE", type := .int, accessFlags := 25, slot := 7, constantValue := 0 }, { name := "LOG2_ARRAY_FLOAT_INDEX_SCALE", type := .int, accessFlags := 25, slot := 8, constantValue := 0 }, { name := "LOG2_ARRAY_DOUBLE_INDEX_SCALE", type := .int, accessFlags := 25, slot := 9, constantValue := 0 }, { name := "LOG2_BYTE_BIT_SIZE", type := .int, accessFlags := 26, slot := 10, constantValue := 0 }, { name := "T_BOOLEAN", type := .int, accessFlags := 25, slot := 11, constantValue := 0 }, { name := "T_CHAR", type := .int, accessFlags := 25, slot := 12, constantValue := 0 }, { name := "T_FLOAT", type := .int, accessFlags := 25, slot := 13, constantValue := 0 }, { name := "T_DOUBLE", type := .int, accessFlags := 25, slot := 14, constantValue := 0 }, { name := "T_BYTE", type := .int, accessFlags := 25, slot := 15, constantValue := 0 }, { name := "T_SHORT", type := .int, accessFlags := 25, slot := 16, constantValue := 0 }, { name := "T_INT", type := .int, accessFlags := 25, slot := 17, constantValue := 0 }, { name := "T_LONG", type := .int, accessFlags := 25, slot := 18, constantValue := 0 }, { name := "JLA", type := (.object "jdk/internal/access/JavaLangAccess"), accessFlags := 26, slot := 19, constantValue := 0 }, { name := "SOFT_MAX_ARRAY_LENGTH", type := .int, accessFlags := 25, slot := 20, constantValue := 0 }]
  methods := #[k13m0]
  instanceTypes := #[]
  staticTypes := #[(.object "jdk/internal/misc/Unsafe"), .boolean, .int, .int, .int, .int, .int, .int, .int, .int, .int, .int, .int, .int, .int, .int, .int, .int, .int, (.object "jdk/internal/access/JavaLangAccess"), .int]
  resolved := Array.replicate 378 none
  statics := none }

def pool14 : Array CpInfo := pool [(1, u "java/lang/Cloneable"), (0, .class_ 1), (0, u "java/lang/Object"), (0, .class_ 3)] 3

/-- java/lang/Cloneable -/
def k14 : Class := { plain "java/lang/Cloneable" (some 0) with
  accessFlags := 1537
  interfaces := #[]
  cf := some (fileOf pool14 2 #[] #[] 1537 4 #[] #[])
  fields := #[]
  methods := #[]
  instanceTypes := #[]
  staticTypes := #[]
  resolved := Array.replicate 8 none
  statics := none }

/-- the primitive byte -/
def k15 : Class := { plain "byte" none with kind := .primitive 'B', accessFlags := 0x411 }
/-- [B -/
def k16 : Class := { plain "[B" (some 0) with kind := .array 15 .byte, interfaces := #[14, 2], accessFlags := 1041 }

/-- the primitive char -/
def k17 : Class := { plain "char" none with kind := .primitive 'C', accessFlags := 0x411 }
/-- [C -/
def k18 : Class := { plain "[C" (some 0) with kind := .array 17 .char, interfaces := #[14, 2], accessFlags := 1041 }

/-- the primitive int -/
def k19 : Class := { plain "int" none with kind := .primitive 'I', accessFlags := 0x411 }
/-- [I -/
def k20 : Class := { plain "[I" (some 0) with kind := .array 19 .int, interfaces := #[14, 2], accessFlags := 1041 }

def heap : Heap := #[{ cls := 7, slots := #[.long 0, .int 1, .null, .int 0, .null, .int 0, .int 0], vm := .statics 7 },
  { cls := 12, slots := #[.null, .null, .null], vm := .statics 12 }]
def classes : Array Class := #[k0, k1, k2, k3, k4, k5, k6, k7, k8, k9, k10, k11, k12, k13, k14, k15, k16, k17, k18, k19, k20]
def interned : List (Array UInt16 × Addr) := []
def slotsUsed : Nat := 10
def theMethod : MethodId := ⟨1, 2⟩
def args0 : Array Value := #[.int 5, .int 6, .int 7, .int 8, .int 9, .int 10]
def aboutOver (below : List Frame) : State where
  vm := { classes := classes, interned := interned.toArray }
  heap := heap
  slotsUsed := slotsUsed
  threads := #[{ frames := .invoking theMethod args0 :: below }]
def below0 : List Frame := [.native { method := ⟨0, 0⟩, args := #[] }]
def about1 : State := aboutOver below0
def p0 : Program := .bare "" "" ""
def e0 : Env := launch0.env 0 0 0
theorem w_frames : about1.frames = Frame.invoking theMethod args0 :: below0 := rfl
set_option maxRecDepth 65536 in
theorem w_args : argsFit about1.vm theMethod args0 = true := by decide +kernel
set_option maxRecDepth 65536 in
theorem w_heap : heapFits about1 = true := by decide +kernel
set_option maxRecDepth 65536 in
theorem w_runnable : about1.curStatus? = some .runnable := by decide +kernel
set_option maxRecDepth 65536 in
theorem w_alone : about1.alone = true := by decide +kernel
set_option maxRecDepth 65536 in
theorem w_named : about1.methodNamed? x = some theMethod := by decide +kernel
set_option maxRecDepth 65536 in
theorem w_hears : about1.hears theMethod below0 = true := by decide +kernel
set_option maxRecDepth 65536 in
theorem w_ripe : about1.ripe theMethod args0 below0 = true := by decide +kernel
theorem w_running : about1.status = .running := rfl
set_option maxRecDepth 65536 in
theorem w_room : about1.hasRoom e0.platform room_1 = true :=
  launch0.hasRoom_least _ room_1 (by decide +kernel) (by decide +kernel) (by decide +kernel) (by decide +kernel) (by decide +kernel) (by decide +kernel)
theorem allAtoms_all (ts : List Jvm.Cond) (a : Array Jvm.Value) (st : Jvm.State) : (allAtoms ts).before a st = ts.all (fun c => c.before a st) := by
  induction ts with
  | nil => rfl
  | cons c t ih =>
    show (Jvm.Cond.and c (allAtoms t)).before a st = _
    rw [Jvm.Cond.before_and, ih, List.all_cons]
def words1 : List Jvm.Cond := Jvm.Cond.code x code maxLocals ret :: tables_1
/-- a 'code' word, met by the world's own term for the bytes: nothing is compared byte by byte -/
theorem code_word {y : MethodName} {bytes : ByteArray} {mx : Nat} {rt : Option FieldType} {a : Array Value} {s : State} {m : MethodId} {meth : Method} {c : Code} (h1 : s.methodNamed? y = some m) (h2 : s.vm.method? m = some meth) (h3 : meth.code = some c) (h4 : c.code = bytes)
    (h5 : (c.maxLocals == mx && c.exceptionTable.isEmpty && decide (c.maxStack ≤ mostOperands) && decide (meth.sig.returnType = rt) && !meth.locks && decide (parseMethodDescriptor y.desc = some meth.sig)) = true) : (Jvm.Cond.code y bytes mx rt).before a s = true := by
  simp only [Bool.and_eq_true, beq_iff_eq, Bool.not_eq_true', decide_eq_true_eq] at h5
  obtain ⟨⟨⟨⟨⟨g1, g2⟩, g3⟩, g4⟩, g5⟩, g6⟩ := h5
  simp [Cond.before, Cond.holds, Cond.value, h1, h2, h3, h4, g1, g2, g3, g4, g5, g6]
def isCode : Jvm.Cond → Bool
  | .code _ _ _ _ => true
  | _ => false
theorem all_split {L : List Jvm.Cond} {P : Jvm.Cond → Bool} (h1 : L.all (fun c => isCode c || P c) = true) (h2 : ∀ c ∈ L.filter isCode, P c = true) : L.all P = true := by
  refine List.all_eq_true.mpr fun c hc => ?_
  have h := List.all_eq_true.mp h1 c hc
  rcases Bool.eq_false_or_eq_true (isCode c) with hi | hi
  · exact h2 c (List.mem_filter.mpr ⟨hc, hi⟩)
  · simpa [hi] using h
set_option maxRecDepth 65536 in
theorem w_c0 : (Jvm.Cond.code x code maxLocals ret).before args0 about1 = true := code_word (m := ⟨1, 2⟩) (meth := k1m2) (c := k1c2) (by decide +kernel) rfl rfl rfl (by decide +kernel)
set_option maxRecDepth 65536 in
theorem w_c1 : (Jvm.Cond.code ({ cls := "com/example/tercet/tercet/SyntaxWarningEqualsPinLaw", name := "str", desc := "(ICC)Ljava/lang/String;" } : Jvm.MethodName) method_2_code (3 : Nat) (Option.some (Jvm.ClassFile.FieldType.object "java/lang/String"))).before args0 about1 = true := code_word (m := ⟨1, 1⟩) (meth := k1m1) (c := k1c1) (by decide +kernel) rfl rfl rfl (by decide +kernel)
set_option maxRecDepth 65536 in
theorem w_c2 : (Jvm.Cond.code ({ cls := "java/lang/String", name := "<init>", desc := "([C)V" } : Jvm.MethodName) jdk_42_method_3_code (2 : Nat) (Option.none : Option Jvm.ClassFile.FieldType)).before args0 about1 = true := code_word (m := ⟨7, 1⟩) (meth := k7m1) (c := k7c1) (by decide +kernel) rfl rfl rfl (by decide +kernel)
set_option maxRecDepth 65536 in
theorem w_c3 : (Jvm.Cond.code ({ cls := "java/lang/String", name := "<init>", desc := "([CIILjava/lang/Void;)V" } : Jvm.MethodName) jdk_42_method_149_code (6 : Nat) (Option.none : Option Jvm.ClassFile.FieldType)).before args0 about1 = true := code_word (m := ⟨7, 3⟩) (meth := k7m3) (c := k7c3) (by decide +kernel) rfl rfl rfl (by decide +kernel)
set_option maxRecDepth 65536 in
theorem w_c4 : (Jvm.Cond.code ({ cls := "java/lang/Object", name := "<init>", desc := "()V" } : Jvm.MethodName) object_method_1_code (1 : Nat) (Option.none : Option Jvm.ClassFile.FieldType)).before args0 about1 = true := code_word (m := ⟨0, 0⟩) (meth := k0m0) (c := k0c0) (by decide +kernel) rfl rfl rfl (by decide +kernel)
set_option maxRecDepth 65536 in
theorem w_c5 : (Jvm.Cond.code ({ cls := "com/example/tercet/tercet/SyntaxWarning", name := "<init>", desc := "(IILjava/lang/String;)V" } : Jvm.MethodName) prog_17_method_1_code (4 : Nat) (Option.none : Option Jvm.ClassFile.FieldType)).before args0 about1 = true := code_word (m := ⟨8, 0⟩) (meth := k8m0) (c := k8c0) (by decide +kernel) rfl rfl rfl (by decide +kernel)
set_option maxRecDepth 65536 in
theorem w_c6 : (Jvm.Cond.code ({ cls := "java/util/Objects", name := "requireNonNull", desc := "(Ljava/lang/Object;Ljava/lang/String;)Ljava/lang/Object;" } : Jvm.MethodName) jdk_31_method_11_code (2 : Nat) (Option.some (Jvm.ClassFile.FieldType.object "java/lang/Object"))).before args0 about1 = true := code_word (m := ⟨9, 1⟩) (meth := k9m1) (c := k9c1) (by decide +kernel) rfl rfl rfl (by decide +kernel)
set_option maxRecDepth 65536 in
theorem w_c7 : (Jvm.Cond.code ({ cls := "com/example/tercet/tercet/SyntaxWarning", name := "equals", desc := "(Ljava/lang/Object;)Z" } : Jvm.MethodName) prog_17_method_5_code (3 : Nat) (Option.some Jvm.ClassFile.FieldType.boolean)).before args0 about1 = true := code_word (m := ⟨8, 1⟩) (meth := k8m1) (c := k8c1) (by decide +kernel) rfl rfl rfl (by decide +kernel)
set_option maxRecDepth 65536 in
theorem w_c8 : (Jvm.Cond.code ({ cls := "java/lang/StringUTF16", name := "compress", desc := "([CII)[B" } : Jvm.MethodName) jdk_52_method_16_code (6 : Nat) (Option.some (Jvm.ClassFile.FieldType.array Jvm.ClassFile.FieldType.byte))).before args0 about1 = true := code_word (m := ⟨10, 2⟩) (meth := k10m2) (c := k10c2) (by decide +kernel) rfl rfl rfl (by decide +kernel)
set_option maxRecDepth 65536 in
theorem w_c9 : (Jvm.Cond.code ({ cls := "java/lang/StringUTF16", name := "compress", desc := "([CI[BII)I" } : Jvm.MethodName) jdk_52_method_21_code (7 : Nat) (Option.some Jvm.ClassFile.FieldType.int)).before args0 about1 = true := code_word (m := ⟨10, 3⟩) (meth := k10m3) (c := k10c3) (by decide +kernel) rfl rfl rfl (by decide +kernel)
set_option maxRecDepth 65536 in
theorem w_c10 : (Jvm.Cond.code ({ cls := "java/lang/StringUTF16", name := "coderFromArrayLen", desc := "([BI)B" } : Jvm.MethodName) jdk_52_method_15_code (2 : Nat) (Option.some Jvm.ClassFile.FieldType.byte)).before args0 about1 = true := code_word (m := ⟨10, 1⟩) (meth := k10m1) (c := k10c1) (by decide +kernel) rfl rfl rfl (by decide +kernel)
set_option maxRecDepth 65536 in
theorem w_c11 : (Jvm.Cond.code ({ cls := "java/lang/String", name := "equals", desc := "(Ljava/lang/Object;)Z" } : Jvm.MethodName) jdk_42_method_66_code (3 : Nat) (Option.some Jvm.ClassFile.FieldType.boolean)).before args0 about1 = true := code_word (m := ⟨7, 2⟩) (meth := k7m2) (c := k7c2) (by decide +kernel) rfl rfl rfl (by decide +kernel)
set_option maxRecDepth 65536 in
theorem w_c12 : (Jvm.Cond.code ({ cls := "java/lang/StringLatin1", name := "equals", desc := "([B[B)Z" } : Jvm.MethodName) jdk_43_method_13_code (3 : Nat) (Option.some Jvm.ClassFile.FieldType.boolean)).before args0 about1 = true := code_word (m := ⟨11, 1⟩) (meth := k11m1) (c := k11c1) (by decide +kernel) rfl rfl rfl (by decide +kernel)
def codes1 : List Jvm.Cond := [Jvm.Cond.code x code maxLocals ret, Jvm.Cond.code ({ cls := "com/example/tercet/tercet/SyntaxWarningEqualsPinLaw", name := "str", desc := "(ICC)Ljava/lang/String;" } : Jvm.MethodName) method_2_code (3 : Nat) (Option.some (Jvm.ClassFile.FieldType.object "java/lang/String")), Jvm.Cond.code ({ cls := "java/lang/String", name := "<init>", desc := "([C)V" } : Jvm.MethodName) jdk_42_method_3_code (2 : Nat) (Option.none : Option Jvm.ClassFile.FieldType), Jvm.Cond.code ({ cls := "java/lang/String", name := "<init>", desc := "([CIILjava/lang/Void;)V" } : Jvm.MethodName) jdk_42_method_149_code (6 : Nat) (Option.none : Option Jvm.ClassFile.FieldType), Jvm.Cond.code ({ cls := "java/lang/Object", name := "<init>", desc := "()V" } : Jvm.MethodName) object_method_1_code (1 : Nat) (Option.none : Option Jvm.ClassFile.FieldType), Jvm.Cond.code ({ cls := "com/example/tercet/tercet/SyntaxWarning", name := "<init>", desc := "(IILjava/lang/String;)V" } : Jvm.MethodName) prog_17_method_1_code (4 : Nat) (Option.none : Option Jvm.ClassFile.FieldType), Jvm.Cond.code ({ cls := "java/util/Objects", name := "requireNonNull", desc := "(Ljava/lang/Object;Ljava/lang/String;)Ljava/lang/Object;" } : Jvm.MethodName) jdk_31_method_11_code (2 : Nat) (Option.some (Jvm.ClassFile.FieldType.object "java/lang/Object")), Jvm.Cond.code ({ cls := "com/example/tercet/tercet/SyntaxWarning", name := "equals", desc := "(Ljava/lang/Object;)Z" } : Jvm.MethodName) prog_17_method_5_code (3 : Nat) (Option.some Jvm.ClassFile.FieldType.boolean), Jvm.Cond.code ({ cls := "java/lang/StringUTF16", name := "compress", desc := "([CII)[B" } : Jvm.MethodName) jdk_52_method_16_code (6 : Nat) (Option.some (Jvm.ClassFile.FieldType.array Jvm.ClassFile.FieldType.byte)), Jvm.Cond.code ({ cls := "java/lang/StringUTF16", name := "compress", desc := "([CI[BII)I" } : Jvm.MethodName) jdk_52_method_21_code (7 : Nat) (Option.some Jvm.ClassFile.FieldType.int), Jvm.Cond.code ({ cls := "java/lang/StringUTF16", name := "coderFromArrayLen", desc := "([BI)B" } : Jvm.MethodName) jdk_52_method_15_code (2 : Nat) (Option.some Jvm.ClassFile.FieldType.byte), Jvm.Cond.code ({ cls := "java/lang/String", name := "equals", desc := "(Ljava/lang/Object;)Z" } : Jvm.MethodName) jdk_42_method_66_code (3 : Nat) (Option.some Jvm.ClassFile.FieldType.boolean), Jvm.Cond.code ({ cls := "java/lang/StringLatin1", name := "equals", desc := "([B[B)Z" } : Jvm.MethodName) jdk_43_method_13_code (3 : Nat) (Option.some Jvm.ClassFile.FieldType.boolean)]
set_option maxRecDepth 65536 in
theorem codes_eq : words1.filter isCode = codes1 := rfl
theorem w_codes : ∀ c ∈ words1.filter isCode, c.before args0 about1 = true := by
  rw [codes_eq]
  intro c hc
  simp only [codes1, List.mem_cons, List.not_mem_nil, or_false] at hc
  rcases hc with rfl | rfl | rfl | rfl | rfl | rfl | rfl | rfl | rfl | rfl | rfl | rfl | rfl
  · exact w_c0
  · exact w_c1
  · exact w_c2
  · exact w_c3
  · exact w_c4
  · exact w_c5
  · exact w_c6
  · exact w_c7
  · exact w_c8
  · exact w_c9
  · exact w_c10
  · exact w_c11
  · exact w_c12
set_option maxRecDepth 65536 in
theorem w_t1 : (words1.take 24).all (fun c => isCode c || c.before args0 about1) = true := by decide +kernel
set_option maxRecDepth 65536 in
theorem w_t2 : ((words1.drop 24).take 24).all (fun c => isCode c || c.before args0 about1) = true := by decide +kernel
set_option maxRecDepth 65536 in
theorem w_t3 : (((words1.drop 24).drop 24).take 24).all (fun c => isCode c || c.before args0 about1) = true := by decide +kernel
set_option maxRecDepth 65536 in
theorem w_t4 : (((words1.drop 24).drop 24).drop 24).all (fun c => isCode c || c.before args0 about1) = true := by decide +kernel
theorem w_tables : (allAtoms (Jvm.Cond.code x code maxLocals ret :: tables_1)).before args0 about1 = true := by
  rw [allAtoms_all]
  show words1.all (fun c => c.before args0 about1) = true
  refine all_split ?_ w_codes
  rw [← List.take_append_drop 24 words1, List.all_append, w_t1, ← List.take_append_drop 24 (words1.drop 24), List.all_append, w_t2, ← List.take_append_drop 24 ((words1.drop 24).drop 24), List.all_append, w_t3, w_t4]
  rfl
set_option maxRecDepth 65536 in
theorem w_rest : rest_1_c.before args0 about1 = true := by decide +kernel
set_option maxRecDepth 65536 in
theorem w_case : (Jvm.Cond.and given_1 narrow_1).before args0 about1 = true := by decide +kernel
set_option maxRecDepth 65536 in
theorem w_consts : constsHeld consts_1 about1 := Jvm.Lit.constsHeldB_iff.mp (by decide +kernel)
theorem w_applies : (headSpec (Jvm.Cond.code x code maxLocals ret :: tables_1) room_1).applies x e0.platform about1 = true :=
  (Spec.applies_iff w_frames).mpr ⟨w_running, w_runnable, w_alone, w_named, w_hears, w_ripe, w_room, w_tables⟩
theorem atStart : AtStart classFile x code maxLocals ret World_1 tables_1 room_1 Calls_1 rest_1 Pre_1 launch0 p0 e0 about1 theMethod args0 below0 :=
  ⟨lists_1, trivial, launch0.admits_env _ _ _, launch0.least_env, fairChoices_fair.cas, fairChoices_fair.clock, w_frames, w_args, w_heap, w_applies, ⟨w_consts, trivial⟩, w_rest, w_case⟩
end start1
theorem witness_1 : WitnessClaimed_1 := ⟨start1.p0, start1.e0, start1.about1, start1.theMethod, start1.args0, start1.below0, start1.atStart⟩
end Jvm.Pilot.@@N@@
