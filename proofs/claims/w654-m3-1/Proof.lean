import JvmDerived
import JvmDerived.Pilot.@@N@@Statement
import JvmDerived.Pilot.@@N@@Code
set_option linter.unusedVariables false
set_option linter.unusedSimpArgs false
/- laws to paste: Road.backV, Road.chN, Road.lenW (cut by pick.py; bodies as the Statement names them) -/
namespace Jvm.Pilot.@@N@@
namespace StrChars
open Jvm Sem ClassFile Op Lib Jvm.Stand Jvm.Free.XT Jvm.Free.ALB Jvm.Free.JM Jvm.Free
open Jvm.Lib.Cold (StaticIs)
/-- a char array whose places are chars -/
def Ch (a : Addr) (A : Cell) (U : State) : Prop := Arr .char a A U ∧ Typed .char A
theorem Ch.mv {a : Addr} {A : Cell} {U U' : State} (h : Ch a A U) (hal : U.vm.Alike U'.vm) (hh : U'.heap = U.heap) : Ch a A U' := ⟨h.1.mv hal hh, h.2⟩
theorem Ch.keep {a : Addr} {A : Cell} {U U' : State} (h : Ch a A U) (hal : U.vm.Alike U'.vm) (hk : U'.heap[a]? = some A) : Ch a A U' := ⟨h.1.keep hal hk, h.2⟩
/-- what place i of a char[]'s cell holds -/
def cv (A : Cell) (i : Nat) : Int32 := match A.slots[i]? with | some (.int x) => x | _ => 0
theorem Ch.get {a : Addr} {A : Cell} {U : State} (h : Ch a A U) {i : Nat} (hi : i < A.slots.size) : A.slots[i]? = some (.int (cv A i)) := by
  have e := Array.getElem?_eq_getElem hi
  have f := h.2 i _ e
  unfold cv; rw [e]
  generalize A.slots[i] = v at f
  cases v <;> simp [fits] at f ⊢
/-- the byte that i2b leaves of a char -/
def lo8 (x : Int32) : Int32 := x.toInt8.toInt32
theorem fits_lo8 (y : Int32) : fits .byte (.int (lo8 y)) = true := by
  have h1 := y.toInt8.le_toInt
  have h2 := y.toInt8.toInt_lt
  simp only [lo8, fits, Bool.and_eq_true, decide_eq_true_eq, Int32.le_iff_toInt_le, Int8.toInt_toInt32, show (-128 : Int32).toInt = -128 from by decide, show (127 : Int32).toInt = 127 from by decide]
  omega
/-- A' is A but that each place j of lo .. hi - 1 holds f j -/
def Laid (A A' : Cell) (lo hi : Nat) (f : Nat → Value) : Prop := A'.cls = A.cls ∧ A'.vm = A.vm ∧ A'.slots.size = A.slots.size ∧ ∀ i, A'.slots[i]? = if lo ≤ i ∧ i < hi then some (f i) else A.slots[i]?
theorem Laid.zero (A : Cell) (lo : Nat) (f : Nat → Value) : Laid A A lo (lo + 0) f := ⟨rfl, rfl, rfl, fun i => by rw [if_neg (by omega)]⟩
theorem Laid.step {A Ak : Cell} {lo k : Nat} {f : Nat → Value} {v : Value} (h : Laid A Ak lo k f) (hlo : lo ≤ k) (hk : k < Ak.slots.size) (hv : v = f k) : Laid A (Ak.setSlot k v) lo (k + 1) f := by
  refine ⟨h.1, h.2.1, by simpa [Cell.setSlot] using h.2.2.1, fun i => ?_⟩
  by_cases e : k = i
  · subst e; rw [Cell.slots_setSlot_self v hk, if_pos (by omega), hv]
  · rw [Cell.slots_setSlot_ne v e, h.2.2.2 i]
    by_cases q : lo ≤ i ∧ i < k
    · rw [if_pos q, if_pos (by omega)]
    · rw [if_neg q, if_neg (by omega)]
def U16 : String := "java/lang/StringUTF16"
namespace Cmp5
def yN : MethodName := ⟨"java/lang/StringUTF16", "compress", "([CI[BII)I"⟩
abbrev yB : ByteArray := jdk_52_method_21_code
theorem d0 : decode yB 0 = .ok (.iconst 0, 1) := by decide +kernel
theorem d1 : decode yB 1 = .ok (.istore 5, 2) := by decide +kernel
theorem d3 : decode yB 3 = .ok (.iload 5, 2) := by decide +kernel
theorem d5 : decode yB 5 = .ok (.iload 4, 2) := by decide +kernel
theorem d7 : decode yB 7 = .ok (.if_icmp (.ge) 37, 3) := by decide +kernel
theorem d10 : decode yB 10 = .ok (.aload_n 0, 1) := by decide +kernel
theorem d11 : decode yB 11 = .ok (.iload_n 1, 1) := by decide +kernel
theorem d12 : decode yB 12 = .ok (.caload, 1) := by decide +kernel
theorem d13 : decode yB 13 = .ok (.istore 6, 2) := by decide +kernel
theorem d15 : decode yB 15 = .ok (.iload 6, 2) := by decide +kernel
theorem d17 : decode yB 17 = .ok (.sipush 255, 3) := by decide +kernel
theorem d20 : decode yB 20 = .ok (.if_icmp (.le) 6, 3) := by decide +kernel
theorem d26 : decode yB 26 = .ok (.aload_n 2, 1) := by decide +kernel
theorem d27 : decode yB 27 = .ok (.iload_n 3, 1) := by decide +kernel
theorem d28 : decode yB 28 = .ok (.iload 6, 2) := by decide +kernel
theorem d30 : decode yB 30 = .ok (.i2b, 1) := by decide +kernel
theorem d31 : decode yB 31 = .ok (.bastore, 1) := by decide +kernel
theorem d32 : decode yB 32 = .ok (.iinc 1 1, 3) := by decide +kernel
theorem d35 : decode yB 35 = .ok (.iinc 3 1, 3) := by decide +kernel
theorem d38 : decode yB 38 = .ok (.iinc 5 1, 3) := by decide +kernel
theorem d41 : decode yB 41 = .ok (.goto (-38), 3) := by decide +kernel
theorem d44 : decode yB 44 = .ok (.iload 4, 2) := by decide +kernel
theorem d46 : decode yB 46 = .ok (.ireturn, 1) := by decide +kernel
def site : List Cond := []
def tab : Cond := tabOf yN yB 7 (some .int) site
def P (b : Addr) (A : Cell) (d : Addr) (B : Cell) (o q len : Nat) (args : Array Value) (s : State) : Prop := args = #[.ref b, .int (Int32.ofNat o), .ref d, .int (Int32.ofNat q), .int (Int32.ofNat len)] ∧ Ch b A s ∧ Arr .byte d B s ∧ b ≠ d ∧ o + len ≤ A.slots.size ∧ q + len ≤ B.slots.size ∧ ∀ i, i < len → ¬ 255 < cv A (o + i)
def E (b : Addr) (A : Cell) (d : Addr) (B : Cell) (o q len : Nat) (r : Option Value) (s u : State) : Prop := r = some (.int (Int32.ofNat len)) ∧ ∃ B', Put d B' s u ∧ Laid B B' q (q + len) (fun j => Value.int (lo8 (cv A (o + (j - q)))))
/-- no char of the range above 255: len; the places written hold each char's low byte -/
theorem law (l : Launch) (b : Addr) (A : Cell) (d : Addr) (B : Cell) (o q len : Nat) : Law l yN 5 5 0 0 yB 7 (some .int) site (P b A d B o q len) (E b A d B o q len) (copyLocs d q len) 0 0 := by
  refine Law.of_walk (plainFor_of_name (by decide +kernel)) (by decide +kernel) (by decide +kernel) (by decide) (fun _ _ h => by rw [h.1]; rfl) (fun _ U U' hal hh h => ⟨h.1, h.2.1.mv hal hh, h.2.2.1.mv hal hh, h.2.2.2⟩) (fun r U U' V V' h1 hal h2 h => ⟨h.1, h.2.elim fun B' q => ⟨B', q.1.mv h1 h2, q.2⟩⟩) ?_
  intro p e s m args below meth c s₁ X0 hexec hbytes hml hret hlk hnm hown hh0 W hP
  obtain ⟨rfl, hA, hB, hne, l1, l2, hp⟩ := hP
  have c1 : Steps p.tables e below (s₁.setTop (entryFrame m #[.ref b, .int (Int32.ofNat o), .ref d, .int (Int32.ofNat q), .int (Int32.ofNat len)] 7)) (s₁.setTop (mkF m 0 #[.val (.ref b), .val (.int (Int32.ofNat o)), .val (.ref d), .val (.int (Int32.ofNat q)), .val (.int (Int32.ofNat len)), .unset, .unset] [])) := entry rfl
  have hA0 := hA.1.mv X0.warmed.alike hh0
  have hB0 := hB.mv X0.warmed.alike hh0
  have a31 := hA.1.2.2.2
  have c2 : Steps p.tables e below (s₁.setTop (entryFrame m #[.ref b, .int (Int32.ofNat o), .ref d, .int (Int32.ofNat q), .int (Int32.ofNat len)] 7)) (s₁.setTop (mkF m 3 #[.val (.ref b), .val (.int (Int32.ofNat o)), .val (.ref d), .val (.int (Int32.ofNat q)), .val (.int (Int32.ofNat len)), .val (.int 0), .unset] [])) := c1.trans (by
    refine iconstV X0.here hexec rfl 0 (hb hbytes d0) (by decide) ?_
    refine XS.istore X0.here hexec rfl (hb hbytes d1) rfl rfl ?_
    exact Steps.refl _)
  have loop : ∀ (r i : Nat), i + r = len → ∀ (z : Slot), (z = .unset ∨ ∃ w, z = .val w ∧ w.category = 1) → ∀ (Tl : State) (Bk : Cell), Stand p l e { frames := 0, locals := 0, cells := 0, slots := 0 } s m #[.ref b, .int (Int32.ofNat o), .ref d, .int (Int32.ofNat q), .int (Int32.ofNat len)] below meth c Tl ([] ++ copyLocs d q i) 0 0 → Put d Bk s₁ Tl → Laid B Bk q (q + i) (fun j => Value.int (lo8 (cv A (o + (j - q))))) →
      Steps p.tables e below (s₁.setTop (entryFrame m #[.ref b, .int (Int32.ofNat o), .ref d, .int (Int32.ofNat q), .int (Int32.ofNat len)] 7)) (Tl.setTop (mkF m 3 #[.val (.ref b), .val (.int (Int32.ofNat (o + i))), .val (.ref d), .val (.int (Int32.ofNat (q + i))), .val (.int (Int32.ofNat len)), .val (.int (Int32.ofNat i)), z] [])) → ∃ (T' : State) (B' : Cell) (z' : Slot), Stand p l e { frames := 0, locals := 0, cells := 0, slots := 0 } s m #[.ref b, .int (Int32.ofNat o), .ref d, .int (Int32.ofNat q), .int (Int32.ofNat len)] below meth c T' ([] ++ copyLocs d q len) 0 0 ∧ Put d B' s₁ T' ∧ Laid B B' q (q + len) (fun j => Value.int (lo8 (cv A (o + (j - q))))) ∧
      Steps p.tables e below (s₁.setTop (entryFrame m #[.ref b, .int (Int32.ofNat o), .ref d, .int (Int32.ofNat q), .int (Int32.ofNat len)] 7)) (T'.setTop (mkF m 3 #[.val (.ref b), .val (.int (Int32.ofNat (o + len))), .val (.ref d), .val (.int (Int32.ofNat (q + len))), .val (.int (Int32.ofNat len)), .val (.int (Int32.ofNat len)), z'] [])) := by
    intro r
    induction r with
    | zero =>
      intro i hi z hz Tl Bk Xl pl fl cl
      have hil : i = len := by omega
      rw [hil] at Xl fl cl
      exact ⟨Tl, Bk, z, Xl, pl, fl, cl⟩
    | succ r ih =>
      intro i hi z hz Tl Bk Xl pl fl cl
      have all := X0.warmed.alike.symm.trans Xl.warmed.alike
      have hAl := hA0.keep all (pl.other hne hA0.1)
      have hBk := hB0.like all pl.1 fl.1 fl.2.1 fl.2.2.1
      have hlt : q + i < Bk.slots.size := by rw [fl.2.2.1]; omega
      have c3 : Steps p.tables e below (s₁.setTop (entryFrame m #[.ref b, .int (Int32.ofNat o), .ref d, .int (Int32.ofNat q), .int (Int32.ofNat len)] 7)) (Tl.setTop (mkF m 12 #[.val (.ref b), .val (.int (Int32.ofNat (o + i))), .val (.ref d), .val (.int (Int32.ofNat (q + i))), .val (.int (Int32.ofNat len)), .val (.int (Int32.ofNat i)), z] [.int (Int32.ofNat (o + i)), .ref b])) := cl.trans (by
        refine XS.iload Xl.here hexec rfl (hb hbytes d3) rfl ?_
        refine XS.iload Xl.here hexec rfl (hb hbytes d5) rfl ?_
        refine XS.icmpNo Xl.here hexec rfl (hb hbytes d7) rfl (ii_ge_f (lt32 (by omega) (by omega))) ?_
        refine XS.aloadN Xl.here hexec rfl (hb hbytes d10) rfl rfl ?_
        refine XS.iloadN Xl.here hexec rfl (hb hbytes d11) rfl ?_
        exact Steps.refl _)
      have c4 : Steps p.tables e below (s₁.setTop (entryFrame m #[.ref b, .int (Int32.ofNat o), .ref d, .int (Int32.ofNat q), .int (Int32.ofNat len)] 7)) (Tl.setTop (mkF m 13 #[.val (.ref b), .val (.int (Int32.ofNat (o + i))), .val (.ref d), .val (.int (Int32.ofNat (q + i))), .val (.int (Int32.ofNat len)), .val (.int (Int32.ofNat i)), z] [.int (cv A (o + i))])) := c3.trans (by
        refine Xl.aget hexec hAl rfl (hA.get (i := o + i) (by omega)) rfl rfl (hb hbytes d12) ?_
        exact Steps.refl _)
      have c5 : Steps p.tables e below (s₁.setTop (entryFrame m #[.ref b, .int (Int32.ofNat o), .ref d, .int (Int32.ofNat q), .int (Int32.ofNat len)] 7)) (Tl.setTop (mkF m 15 #[.val (.ref b), .val (.int (Int32.ofNat (o + i))), .val (.ref d), .val (.int (Int32.ofNat (q + i))), .val (.int (Int32.ofNat len)), .val (.int (Int32.ofNat i)), .val (.int (cv A (o + i)))] [])) := c4.trans (by
        refine XS.istoreS Xl.here hexec rfl (hb hbytes d13) rfl rfl hz ?_
        exact Steps.refl _)
      have c6 : Steps p.tables e below (s₁.setTop (entryFrame m #[.ref b, .int (Int32.ofNat o), .ref d, .int (Int32.ofNat q), .int (Int32.ofNat len)] 7)) (Tl.setTop (mkF m 31 #[.val (.ref b), .val (.int (Int32.ofNat (o + i))), .val (.ref d), .val (.int (Int32.ofNat (q + i))), .val (.int (Int32.ofNat len)), .val (.int (Int32.ofNat i)), .val (.int (cv A (o + i)))] [.int (lo8 (cv A (o + i))), .int (Int32.ofNat (q + i)), .ref d])) := c5.trans (by
        refine XS.iload Xl.here hexec rfl (hb hbytes d15) rfl ?_
        refine sipushV Xl.here hexec rfl 255 (hb hbytes d17) (by decide) ?_
        refine XS.icmpYes Xl.here hexec rfl (pc0 := 20) rfl (hb hbytes d20) rfl (ii_le_t (hp i (by omega))) (by decide) rfl ?_
        refine XS.aloadN Xl.here hexec rfl (hb hbytes d26) rfl rfl ?_
        refine XS.iloadN Xl.here hexec rfl (hb hbytes d27) rfl ?_
        refine XS.iload Xl.here hexec rfl (hb hbytes d28) rfl ?_
        refine i2b Xl.here hexec rfl (hb hbytes d30) rfl ?_
        exact Steps.refl _)
      obtain ⟨T7, X7, p7, st7⟩ := Xl.aput hexec hBk rfl hlt rfl (fits_lo8 (cv A (o + i))) (g := (mkF m 31 #[.val (.ref b), .val (.int (Int32.ofNat (o + i))), .val (.ref d), .val (.int (Int32.ofNat (q + i))), .val (.int (Int32.ofNat len)), .val (.int (Int32.ofNat i)), .val (.int (cv A (o + i)))] [.int (lo8 (cv A (o + i))), .int (Int32.ofNat (q + i)), .ref d])) rfl (rest := []) rfl (hb hbytes d31)
      have c8 : Steps p.tables e below (s₁.setTop (entryFrame m #[.ref b, .int (Int32.ofNat o), .ref d, .int (Int32.ofNat q), .int (Int32.ofNat len)] 7)) (T7.setTop (mkF m 32 #[.val (.ref b), .val (.int (Int32.ofNat (o + i))), .val (.ref d), .val (.int (Int32.ofNat (q + i))), .val (.int (Int32.ofNat len)), .val (.int (Int32.ofNat i)), .val (.int (cv A (o + i)))] [])) := c6.trans (st7 _ (Steps.refl _))
      have c9 : Steps p.tables e below (s₁.setTop (entryFrame m #[.ref b, .int (Int32.ofNat o), .ref d, .int (Int32.ofNat q), .int (Int32.ofNat len)] 7)) (T7.setTop (mkF m 3 #[.val (.ref b), .val (.int (Int32.ofNat (o + i) + 1)), .val (.ref d), .val (.int (Int32.ofNat (q + i) + 1)), .val (.int (Int32.ofNat len)), .val (.int (Int32.ofNat i + 1)), .val (.int (cv A (o + i)))] [])) := c8.trans (by
        refine iincV X7.here hexec rfl 1 (hb hbytes d32) (by decide) rfl rfl ?_
        refine iincV X7.here hexec rfl 1 (hb hbytes d35) (by decide) rfl rfl ?_
        refine iincV X7.here hexec rfl 1 (hb hbytes d38) (by decide) rfl rfl ?_
        refine XS.goto X7.here hexec rfl (pc0 := 41) rfl (hb hbytes d41) (by decide) rfl ?_
        exact Steps.refl _)
      have c10 : Steps p.tables e below (s₁.setTop (entryFrame m #[.ref b, .int (Int32.ofNat o), .ref d, .int (Int32.ofNat q), .int (Int32.ofNat len)] 7)) (T7.setTop (mkF m 3 #[.val (.ref b), .val (.int (Int32.ofNat (o + (i + 1)))), .val (.ref d), .val (.int (Int32.ofNat (q + (i + 1)))), .val (.int (Int32.ofNat len)), .val (.int (Int32.ofNat (i + 1))), .val (.int (cv A (o + i)))] [])) := by
        have := c9
        rw [succ32, succ32, succ32] at this
        exact this
      exact ih (i + 1) (by omega) _ (Or.inr ⟨_, rfl, rfl⟩) T7 _ (by rw [copyLocs_step, ← List.append_assoc]; exact X7) (pl.trans p7) (fl.step (by omega) hlt (by simp)) c10
  obtain ⟨T9, B9, z9, X9, p9, f9, g9⟩ := loop len 0 (by omega) .unset (Or.inl rfl) s₁ B (by simpa [copyLocs] using X0) ⟨hB0.1, fun _ _ => rfl, rfl⟩ (Laid.zero _ _ _) c2
  have c11 : Steps p.tables e below (s₁.setTop (entryFrame m #[.ref b, .int (Int32.ofNat o), .ref d, .int (Int32.ofNat q), .int (Int32.ofNat len)] 7)) (T9.setTop (mkF m 46 #[.val (.ref b), .val (.int (Int32.ofNat (o + len))), .val (.ref d), .val (.int (Int32.ofNat (q + len))), .val (.int (Int32.ofNat len)), .val (.int (Int32.ofNat len)), z9] [.int (Int32.ofNat len)])) := g9.trans (by
    refine XS.iload X9.here hexec rfl (hb hbytes d3) rfl ?_
    refine XS.iload X9.here hexec rfl (hb hbytes d5) rfl ?_
    refine XS.icmpYes X9.here hexec rfl (pc0 := 7) rfl (hb hbytes d7) rfl (ii_ge_t (nlt32 (by omega) (Nat.le_refl _))) (by decide) rfl ?_
    refine XS.iload X9.here hexec rfl (hb hbytes d44) rfl ?_
    exact Steps.refl _)
  exact ⟨T9, some (.int (Int32.ofNat len)), _, _, _, X9, by simp, rfl, rfl, (fun h => by cases h), ⟨rfl, B9, p9.from hh0, f9⟩, fun fs hl => c11.trans (X9.ireturnOut hexec hret rfl (Or.inl rfl) (hb hbytes d46) hl)⟩
end Cmp5
namespace Cmp3
def yN : MethodName := ⟨"java/lang/StringUTF16", "compress", "([CII)[B"⟩
abbrev yB : ByteArray := jdk_52_method_16_code
theorem d0 : decode yB 0 = .ok (.iload_n 2, 1) := by decide +kernel
theorem d1 : decode yB 1 = .ok (.newarray .byte, 2) := by decide +kernel
theorem d3 : decode yB 3 = .ok (.astore_n 3, 1) := by decide +kernel
theorem d4 : decode yB 4 = .ok (.aload_n 0, 1) := by decide +kernel
theorem d5 : decode yB 5 = .ok (.iload_n 1, 1) := by decide +kernel
theorem d6 : decode yB 6 = .ok (.aload_n 3, 1) := by decide +kernel
theorem d7 : decode yB 7 = .ok (.iconst 0, 1) := by decide +kernel
theorem d8 : decode yB 8 = .ok (.iload_n 2, 1) := by decide +kernel
theorem d9 : decode yB 9 = .ok (.invokestatic 115, 3) := by decide +kernel
theorem d12 : decode yB 12 = .ok (.istore 4, 2) := by decide +kernel
theorem d14 : decode yB 14 = .ok (.iload 4, 2) := by decide +kernel
theorem d16 : decode yB 16 = .ok (.iload_n 2, 1) := by decide +kernel
theorem d17 : decode yB 17 = .ok (.if_icmp (.eq) 40, 3) := by decide +kernel
theorem d57 : decode yB 57 = .ok (.aload_n 3, 1) := by decide +kernel
theorem d58 : decode yB 58 = .ok (.areturn, 1) := by decide +kernel
def site : List Cond := [.arrayClass .byte, Cmp5.tab] ++ staticW U16 115 Cmp5.yN
def tab : Cond := tabOf yN yB 6 (some (.array .byte)) site
def P (b : Addr) (A : Cell) (o len : Nat) (args : Array Value) (s : State) : Prop := args = #[.ref b, .int (Int32.ofNat o), .int (Int32.ofNat len)] ∧ Ch b A s ∧ o + len ≤ A.slots.size ∧ len ≤ 536870912 ∧ ∀ i, i < len → ¬ 255 < cv A (o + i)
def E (b : Addr) (A : Cell) (o len : Nat) (r : Option Value) (s u : State) : Prop := NewArr .byte "[B" len (fun j => .int (lo8 (cv A (o + j)))) r s u ∧ u.heap.size = s.heap.size + 1
/-- no char of the range above 255: a new byte[] of their low bytes -/
theorem law (l : Launch) (b : Addr) (A : Cell) (o len : Nat) : Law l yN 3 3 1 18 yB 6 (some (.array .byte)) site (P b A o len) (E b A o len) [] 1 len := by
  refine Law.of_walk (plainFor_of_name (by decide +kernel)) (by decide +kernel) (by decide +kernel) (by decide) (fun _ _ h => by rw [h.1]; rfl) (fun _ U U' hal hh h => ⟨h.1, h.2.1.mv hal hh, h.2.2⟩) (fun r U U' V V' h1 hal h2 h => ⟨NewArr.mv r U U' V V' h1 hal h2 h.1, by rw [h1, h2]; exact h.2⟩) ?_
  intro p e s m args below meth c s₁ X0 hexec hbytes hml hret hlk hnm hown hh0 W hP
  obtain ⟨rfl, hA, l1, l2, hp⟩ := hP
  have a31 := hA.1.2.2.2
  have c1 : Steps p.tables e below (s₁.setTop (entryFrame m #[.ref b, .int (Int32.ofNat o), .int (Int32.ofNat len)] 6)) (s₁.setTop (mkF m 0 #[.val (.ref b), .val (.int (Int32.ofNat o)), .val (.int (Int32.ofNat len)), .unset, .unset, .unset] [])) := entry rfl
  have c2 : Steps p.tables e below (s₁.setTop (entryFrame m #[.ref b, .int (Int32.ofNat o), .int (Int32.ofNat len)] 6)) (s₁.setTop (mkF m 1 #[.val (.ref b), .val (.int (Int32.ofNat o)), .val (.int (Int32.ofNat len)), .unset, .unset, .unset] [.int (Int32.ofNat len)])) := c1.trans (by
    refine XS.iloadN X0.here hexec rfl (hb hbytes d0) rfl ?_
    exact Steps.refl _)
  obtain ⟨T3, B3, X3, ba3, bs3, bv3, bh3, bf3, st3⟩ := X0.anew hexec (atype := .byte) (wk W (.arrayClass .byte)) rfl (by show len * 1 ≤ _; omega) (by omega) (g := (mkF m 1 #[.val (.ref b), .val (.int (Int32.ofNat o)), .val (.int (Int32.ofNat len)), .unset, .unset, .unset] [.int (Int32.ofNat len)])) rfl (hb hbytes d1) (rest := []) rfl (Nat.le_refl _) (by show 0 + len ≤ len; omega)
  rw [hh0] at ba3 st3
  have kp3 : XT.Kept s T3 := (XT.Kept.of_eq hh0).push bh3
  have hA3 := hA.keep X3.warmed.alike (kp3 _ _ hA.1.1)
  have hne : b ≠ s.heap.size := hA.1.ne
  have c4 : Steps p.tables e below (s₁.setTop (entryFrame m #[.ref b, .int (Int32.ofNat o), .int (Int32.ofNat len)] 6)) (T3.setTop (mkF m 3 #[.val (.ref b), .val (.int (Int32.ofNat o)), .val (.int (Int32.ofNat len)), .unset, .unset, .unset] [.ref s.heap.size])) := c2.trans (st3 _ (Steps.refl _))
  have c5 : Steps p.tables e below (s₁.setTop (entryFrame m #[.ref b, .int (Int32.ofNat o), .int (Int32.ofNat len)] 6)) (T3.setTop (mkF m 9 #[.val (.ref b), .val (.int (Int32.ofNat o)), .val (.int (Int32.ofNat len)), .val (.ref s.heap.size), .unset, .unset] [.int (Int32.ofNat len), .int 0, .ref s.heap.size, .int (Int32.ofNat o), .ref b])) := c4.trans (by
    refine XS.astoreN X3.here hexec rfl (hb hbytes d3) rfl rfl rfl ?_
    refine XS.aloadN X3.here hexec rfl (hb hbytes d4) rfl rfl ?_
    refine XS.iloadN X3.here hexec rfl (hb hbytes d5) rfl ?_
    refine XS.aloadN X3.here hexec rfl (hb hbytes d6) rfl rfl ?_
    refine iconstV X3.here hexec rfl 0 (hb hbytes d7) (by decide) ?_
    refine XS.iloadN X3.here hexec rfl (hb hbytes d8) rfl ?_
    exact Steps.refl _)
  obtain ⟨v6, T6, X6, E6, g6⟩ := X3.callS hexec (Cmp5.law l b A s.heap.size B3 o 0 len) hown (wks W (staticW U16 115 Cmp5.yN)) (wk W Cmp5.tab) (W := 0) (Nat.le_of_ble_eq_true rfl) (Nat.le_of_ble_eq_true rfl) (Nat.le_refl _) (by show 0 + len + 0 ≤ len; omega) (g := (mkF m 9 #[.val (.ref b), .val (.int (Int32.ofNat o)), .val (.int (Int32.ofNat len)), .val (.ref s.heap.size), .unset, .unset] [.int (Int32.ofNat len), .int (Int32.ofNat 0), .ref s.heap.size, .int (Int32.ofNat o), .ref b])) rfl (by rw [hml]; rfl) c5 (argsL := [.ref b, .int (Int32.ofNat o), .ref s.heap.size, .int (Int32.ofNat 0), .int (Int32.ofNat len)]) (rest := []) rfl rfl (by show 2 * 0 + 0 ≤ _; decide) (hb hbytes d9) (⟨rfl, hA3, ba3, hne, l1, by rw [bs3]; simp, hp⟩)
  obtain ⟨rfl, B6, p6, f6⟩ := E6
  have c7 : Steps p.tables e below (s₁.setTop (entryFrame m #[.ref b, .int (Int32.ofNat o), .int (Int32.ofNat len)] 6)) (T6.setTop (mkF m 12 #[.val (.ref b), .val (.int (Int32.ofNat o)), .val (.int (Int32.ofNat len)), .val (.ref s.heap.size), .unset, .unset] [.int (Int32.ofNat len)])) := g6
  have c8 : Steps p.tables e below (s₁.setTop (entryFrame m #[.ref b, .int (Int32.ofNat o), .int (Int32.ofNat len)] 6)) (T6.setTop (mkF m 58 #[.val (.ref b), .val (.int (Int32.ofNat o)), .val (.int (Int32.ofNat len)), .val (.ref s.heap.size), .val (.int (Int32.ofNat len)), .unset] [.ref s.heap.size])) := c7.trans (by
    refine XS.istore X6.here hexec rfl (hb hbytes d12) rfl rfl ?_
    refine XS.iload X6.here hexec rfl (hb hbytes d14) rfl ?_
    refine XS.iloadN X6.here hexec rfl (hb hbytes d16) rfl ?_
    refine XS.icmpYes X6.here hexec rfl (pc0 := 17) rfl (hb hbytes d17) rfl (ii_eq_t rfl) (by decide) rfl ?_
    refine XS.aloadN X6.here hexec rfl (hb hbytes d57) rfl rfl ?_
    exact Steps.refl _)
  have X8 := X6.wide (L' := []) (cells' := 1) (slots' := len) (fun x hx hlt => by
    simp only [List.nil_append, copyLocs, List.mem_map, List.mem_range] at hx
    obtain ⟨i, -, rfl⟩ := hx
    exact absurd hlt (Nat.lt_irrefl _)) (Nat.le_refl _) (by omega)
  exact ⟨T6, some (.ref s.heap.size), _, _, _, X8, rfl, rfl, rfl, (fun h => by cases h), ⟨⟨rfl, B6, ba3.like (X3.warmed.alike.symm.trans X6.warmed.alike) p6.1 f6.1 f6.2.1 f6.2.2.1, f6.2.1.trans bv3, by rw [X6.warmed.alike.findClass, f6.1]; exact bf3, by rw [f6.2.2.1, bs3]; simp, fun j hj => by rw [f6.2.2.2 j, if_pos (by omega)]; rfl, kp3.put p6 (Nat.le_refl _)⟩, by rw [p6.2.2, bh3, hh0]; simp⟩, fun fs hl => c8.trans (X8.areturnOut hexec rfl hret rfl (hb hbytes d58) hl)⟩
end Cmp3
namespace CodL
def yN : MethodName := ⟨"java/lang/StringUTF16", "coderFromArrayLen", "([BI)B"⟩
abbrev yB : ByteArray := jdk_52_method_15_code
theorem d0 : decode yB 0 = .ok (.iload_n 1, 1) := by decide +kernel
theorem d1 : decode yB 1 = .ok (.aload_n 0, 1) := by decide +kernel
theorem d2 : decode yB 2 = .ok (.arraylength, 1) := by decide +kernel
theorem d3 : decode yB 3 = .ok (.isub, 1) := by decide +kernel
theorem d4 : decode yB 4 = .ok (.bipush 31, 2) := by decide +kernel
theorem d6 : decode yB 6 = .ok (.iushr, 1) := by decide +kernel
theorem d7 : decode yB 7 = .ok (.i2b, 1) := by decide +kernel
theorem d8 : decode yB 8 = .ok (.ireturn, 1) := by decide +kernel
def site : List Cond := []
def tab : Cond := tabOf yN yB 2 (some .byte) site
def P (d : Addr) (B : Cell) (args : Array Value) (s : State) : Prop := args = #[.ref d, .int (Int32.ofNat B.slots.size)] ∧ Arr .byte d B s
def E (r : Option Value) (s u : State) : Prop := XT.PureE (some (.int 0)) r s u
/-- an array as long as the number of chars: LATIN1 -/
theorem law (l : Launch) (d : Addr) (B : Cell) : Law l yN 2 2 0 0 yB 2 (some .byte) site (P d B) E [] 0 0 := by
  refine Law.of_walk (plainFor_of_name (by decide +kernel)) (by decide +kernel) (by decide +kernel) (by decide) (fun _ _ h => by rw [h.1]; rfl) (fun _ U U' hal hh h => ⟨h.1, h.2.mv hal hh⟩) (fun r U U' V V' h1 hal h2 h => XT.PureE.mv r U U' V V' h1 hal h2 h) ?_
  intro p e s m args below meth c s₁ X0 hexec hbytes hml hret hlk hnm hown hh0 W hP
  obtain ⟨rfl, hB⟩ := hP
  have hB0 := hB.mv X0.warmed.alike hh0
  have c1 : Steps p.tables e below (s₁.setTop (entryFrame m #[.ref d, .int (Int32.ofNat B.slots.size)] 2)) (s₁.setTop (mkF m 0 #[.val (.ref d), .val (.int (Int32.ofNat B.slots.size))] [])) := entry rfl
  have c2 : Steps p.tables e below (s₁.setTop (entryFrame m #[.ref d, .int (Int32.ofNat B.slots.size)] 2)) (s₁.setTop (mkF m 2 #[.val (.ref d), .val (.int (Int32.ofNat B.slots.size))] [.ref d, .int (Int32.ofNat B.slots.size)])) := c1.trans (by
    refine XS.iloadN X0.here hexec rfl (hb hbytes d0) rfl ?_
    refine XS.aloadN X0.here hexec rfl (hb hbytes d1) rfl rfl ?_
    exact Steps.refl _)
  have c3 : Steps p.tables e below (s₁.setTop (entryFrame m #[.ref d, .int (Int32.ofNat B.slots.size)] 2)) (s₁.setTop (mkF m 8 #[.val (.ref d), .val (.int (Int32.ofNat B.slots.size))] [.int (lo8 (ushr (Int32.ofNat B.slots.size - Int32.ofNat B.slots.size) 31))])) := c2.trans (by
    refine X0.alen hexec hB0 rfl rfl (hb hbytes d2) ?_
    refine XS.isub X0.here hexec rfl (hb hbytes d3) rfl ?_
    refine bipushV X0.here hexec rfl 31 (hb hbytes d4) (by decide) ?_
    refine iushr X0.here hexec rfl (hb hbytes d6) rfl ?_
    refine i2b X0.here hexec rfl (hb hbytes d7) rfl ?_
    exact Steps.refl _)
  have e0 : lo8 (ushr (Int32.ofNat B.slots.size - Int32.ofNat B.slots.size) 31) = 0 := by rw [Int32.sub_self]; decide
  rw [e0] at c3
  exact ⟨s₁, some (.int 0), _, _, _, X0, rfl, rfl, rfl, (fun h => by cases h), ⟨rfl, hh0⟩, fun fs hl => c3.trans (X0.ireturnOut hexec hret rfl (Or.inr (Or.inr (Or.inl rfl))) (hb hbytes d8) hl)⟩
end CodL
/-- the String at a is Latin-1 over a new byte[] (the heap's one new cell): the low bytes of the len chars of A from o on; every cell but a is kept -/
def Got (a : Addr) (D : Cell) (fV fC : Field) (A : Cell) (o len : Nat) (r : Option Value) (s u : State) : Prop := r = none ∧ ∃ D' V : Cell, Blank "java/lang/String" a D' u ∧ Same D D' [fV.slot, fC.slot] ∧ D'.slots[fV.slot]? = some (.ref s.heap.size) ∧ D'.slots[fC.slot]? = some (.int 0) ∧ Arr .byte s.heap.size V u ∧ V.vm = .none ∧ u.vm.findClass "[B" = some V.cls ∧ V.slots.size = len ∧ (∀ j, j < len → V.slots[j]? = some (.int (lo8 (cv A (o + j))))) ∧ (∀ (y : Addr) (c : Cell), y ≠ a → s.heap[y]? = some c → u.heap[y]? = some c) ∧ u.heap.size = s.heap.size + 1
theorem Got.mv {a : Addr} {D A : Cell} {fV fC : Field} {o len : Nat} : ∀ r (U U' V V' : State), U'.heap = U.heap → V.vm.Alike V'.vm → V'.heap = V.heap → Got a D fV fC A o len r U V → Got a D fV fC A o len r U' V' :=
  fun r U U' V V' h1 hal h2 ⟨e0, D', X, a1, a2, a3, a4, a5, a6, a7, a8, a9, a10, a11⟩ => ⟨e0, D', X, a1.mv hal h2, a2, by rw [h1]; exact a3, a4, by rw [h1]; exact a5.mv hal h2, a6, by rw [hal.findClass]; exact a7, a8, a9, by rw [h1, h2]; exact a10, by rw [h1, h2]; exact a11⟩
namespace New4
def yN : MethodName := ⟨"java/lang/String", "<init>", "([CIILjava/lang/Void;)V"⟩
abbrev yB : ByteArray := jdk_42_method_149_code
theorem d0 : decode yB 0 = .ok (.aload_n 0, 1) := by decide +kernel
theorem d1 : decode yB 1 = .ok (.invokespecial 1, 3) := by decide +kernel
theorem d4 : decode yB 4 = .ok (.iload_n 3, 1) := by decide +kernel
theorem d5 : decode yB 5 = .ok (.ifCond (.ne) 22, 3) := by decide +kernel
theorem d27 : decode yB 27 = .ok (.getstatic 38, 3) := by decide +kernel
theorem d30 : decode yB 30 = .ok (.ifCond (.eq) 28, 3) := by decide +kernel
theorem d33 : decode yB 33 = .ok (.aload_n 1, 1) := by decide +kernel
theorem d34 : decode yB 34 = .ok (.iload_n 2, 1) := by decide +kernel
theorem d35 : decode yB 35 = .ok (.iload_n 3, 1) := by decide +kernel
theorem d36 : decode yB 36 = .ok (.invokestatic 177, 3) := by decide +kernel
theorem d39 : decode yB 39 = .ok (.astore 5, 2) := by decide +kernel
theorem d41 : decode yB 41 = .ok (.aload_n 0, 1) := by decide +kernel
theorem d42 : decode yB 42 = .ok (.aload 5, 2) := by decide +kernel
theorem d44 : decode yB 44 = .ok (.iload_n 3, 1) := by decide +kernel
theorem d45 : decode yB 45 = .ok (.invokestatic 47, 3) := by decide +kernel
theorem d48 : decode yB 48 = .ok (.putfield 15, 3) := by decide +kernel
theorem d51 : decode yB 51 = .ok (.aload_n 0, 1) := by decide +kernel
theorem d52 : decode yB 52 = .ok (.aload 5, 2) := by decide +kernel
theorem d54 : decode yB 54 = .ok (.putfield 9, 3) := by decide +kernel
theorem d57 : decode yB 57 = .ok (.return_, 1) := by decide +kernel
def site : List Cond := [.fieldLink "java/lang/String" 38 "java/lang/String" "COMPACT_STRINGS" "Z", Cmp3.tab, CodL.tab, .laysFinal "java/lang/String" "java/lang/String" "value" "[B", .fieldLink "java/lang/String" 9 "java/lang/String" "value" "[B", .laysFinal "java/lang/String" "java/lang/String" "coder" "B", .fieldLink "java/lang/String" 15 "java/lang/String" "coder" "B"] ++ objW "java/lang/String" 1 ++ staticW "java/lang/String" 177 Cmp3.yN ++ staticW "java/lang/String" 47 CodL.yN
def tab : Cond := tabOf yN yB 6 none site
def P (a : Addr) (D : Cell) (fV fC : Field) (b : Addr) (A : Cell) (z : Int32) (o len : Nat) (args : Array Value) (s : State) : Prop := args = #[.ref a, .ref b, .int (Int32.ofNat o), .int (Int32.ofNat len), .null] ∧ Blank "java/lang/String" a D s ∧ Found "java/lang/String" "value" "[B" fV s ∧ Found "java/lang/String" "coder" "B" fC s ∧ Ch b A s ∧ StaticIs s "java/lang/String" "COMPACT_STRINGS" "Z" (.int z) ∧ ¬ z = 0 ∧ 0 < len ∧ o + len ≤ A.slots.size ∧ len ≤ 536870912 ∧ ∀ i, i < len → ¬ 255 < cv A (o + i)
def E (a : Addr) (D : Cell) (fV fC : Field) (A : Cell) (o len : Nat) (r : Option Value) (s u : State) : Prop := Got a D fV fC A o len r s u
/-- len > 0, no char of the range above 255: a Latin-1 String of their low bytes -/
theorem law (l : Launch) (a : Addr) (D : Cell) (fV fC : Field) (b : Addr) (A : Cell) (z : Int32) (o len : Nat) : Law l yN 5 4 2 35 yB 6 none site (P a D fV fC b A z o len) (E a D fV fC A o len) [⟨a, fC.slot⟩, ⟨a, fV.slot⟩] 1 len := by
  refine Law.of_walk (plainFor_of_name (by decide +kernel)) (by decide +kernel) (by decide +kernel) (by decide) (fun _ _ h => by rw [h.1]; rfl) (fun _ U U' hal hh h => ⟨h.1, h.2.1.mv hal hh, h.2.2.1.al hal, h.2.2.2.1.al hal, h.2.2.2.2.1.mv hal hh, h.2.2.2.2.2.1.there hal hh, h.2.2.2.2.2.2⟩) (fun r U U' V V' h1 hal h2 h => Got.mv r U U' V V' h1 hal h2 h) ?_
  intro p e s m args below meth c s₁ X0 hexec hbytes hml hret hlk hnm hown hh0 W hP
  obtain ⟨rfl, hB, f1, f2, hA, s1, hz, l0, l1, l2, hp⟩ := hP
  have a31 := hA.1.2.2.2
  have c1 : Steps p.tables e below (s₁.setTop (entryFrame m #[.ref a, .ref b, .int (Int32.ofNat o), .int (Int32.ofNat len), .null] 6)) (s₁.setTop (mkF m 0 #[.val (.ref a), .val (.ref b), .val (.int (Int32.ofNat o)), .val (.int (Int32.ofNat len)), .val .null, .unset] [])) := entry rfl
  have c2 : Steps p.tables e below (s₁.setTop (entryFrame m #[.ref a, .ref b, .int (Int32.ofNat o), .int (Int32.ofNat len), .null] 6)) (s₁.setTop (mkF m 1 #[.val (.ref a), .val (.ref b), .val (.int (Int32.ofNat o)), .val (.int (Int32.ofNat len)), .val .null, .unset] [.ref a])) := c1.trans (by
    refine XS.aloadN X0.here hexec rfl (hb hbytes d0) rfl rfl ?_
    exact Steps.refl _)
  obtain ⟨T3, X3, q3, st3⟩ := X0.oinit hexec hown (wks W (objW "java/lang/String" 1)) (g := (mkF m 1 #[.val (.ref a), .val (.ref b), .val (.int (Int32.ofNat o)), .val (.int (Int32.ofNat len)), .val .null, .unset] [.ref a])) rfl (by rw [hml]; rfl) (rest := []) rfl (hb hbytes d1) (W := 0) (by show 2 * 0 + 0 ≤ _; decide) (Nat.le_of_ble_eq_true rfl) (Nat.le_of_ble_eq_true rfl)
  have hh3 := q3.trans hh0
  have c4 : Steps p.tables e below (s₁.setTop (entryFrame m #[.ref a, .ref b, .int (Int32.ofNat o), .int (Int32.ofNat len), .null] 6)) (T3.setTop (mkF m 27 #[.val (.ref a), .val (.ref b), .val (.int (Int32.ofNat o)), .val (.int (Int32.ofNat len)), .val .null, .unset] [])) := (c2.trans (st3 _ (Steps.refl _))).trans (by
    refine XS.iloadN X3.here hexec rfl (hb hbytes d4) rfl ?_
    refine XS.ifYes X3.here hexec rfl (pc0 := 5) rfl (hb hbytes d5) rfl (i0_ne_t (nz32 (by omega) l0)) (by decide) rfl ?_
    exact Steps.refl _)
  obtain ⟨T5, X5, q5, st5⟩ := X3.sget hexec hown (wk W (.fieldLink "java/lang/String" 38 "java/lang/String" "COMPACT_STRINGS" "Z")) s1 (fun _ _ h => by rw [hh3]; exact h) (g := (mkF m 27 #[.val (.ref a), .val (.ref b), .val (.int (Int32.ofNat o)), .val (.int (Int32.ofNat len)), .val .null, .unset] [])) rfl (hb hbytes d27)
  have hh5 := q5.trans hh3
  have c6 : Steps p.tables e below (s₁.setTop (entryFrame m #[.ref a, .ref b, .int (Int32.ofNat o), .int (Int32.ofNat len), .null] 6)) (T5.setTop (mkF m 30 #[.val (.ref a), .val (.ref b), .val (.int (Int32.ofNat o)), .val (.int (Int32.ofNat len)), .val .null, .unset] [.int z])) := c4.trans (st5 _ (Steps.refl _))
  have c7 : Steps p.tables e below (s₁.setTop (entryFrame m #[.ref a, .ref b, .int (Int32.ofNat o), .int (Int32.ofNat len), .null] 6)) (T5.setTop (mkF m 36 #[.val (.ref a), .val (.ref b), .val (.int (Int32.ofNat o)), .val (.int (Int32.ofNat len)), .val .null, .unset] [.int (Int32.ofNat len), .int (Int32.ofNat o), .ref b])) := c6.trans (by
    refine XS.ifNo X5.here hexec rfl (hb hbytes d30) rfl (i0_eq_f hz) ?_
    refine XS.aloadN X5.here hexec rfl (hb hbytes d33) rfl rfl ?_
    refine XS.iloadN X5.here hexec rfl (hb hbytes d34) rfl ?_
    refine XS.iloadN X5.here hexec rfl (hb hbytes d35) rfl ?_
    exact Steps.refl _)
  obtain ⟨v8, T8, X8, E8, g8⟩ := X5.callS hexec (Cmp3.law l b A o len) hown (wks W (staticW "java/lang/String" 177 Cmp3.yN)) (wk W Cmp3.tab) (W := 0) (Nat.le_of_ble_eq_true rfl) (Nat.le_of_ble_eq_true rfl) (Nat.le_refl _) (by show 0 + len ≤ len; omega) (g := (mkF m 36 #[.val (.ref a), .val (.ref b), .val (.int (Int32.ofNat o)), .val (.int (Int32.ofNat len)), .val .null, .unset] [.int (Int32.ofNat len), .int (Int32.ofNat o), .ref b])) rfl (by rw [hml]; rfl) c7 (argsL := [.ref b, .int (Int32.ofNat o), .int (Int32.ofNat len)]) (rest := []) rfl rfl (by show 2 * 0 + 0 ≤ _; decide) (hb hbytes d36) (⟨rfl, hA.mv X5.warmed.alike hh5, l1, l2, hp⟩)
  obtain ⟨e8, z8⟩ := E8
  obtain ⟨rfl, N, n1, n2, n3, n4, n5, n6⟩ := NewArr.mv _ T5 s _ _ hh5.symm (Vm.Alike.refl _) rfl e8
  rw [hh5] at z8
  have hB1 := hB.keep X8.warmed.alike (n6 _ _ hB.1)
  have hne : s.heap.size ≠ a := (Nat.ne_of_lt (Array.getElem?_eq_some_iff.mp hB.1).1).symm
  have c9 : Steps p.tables e below (s₁.setTop (entryFrame m #[.ref a, .ref b, .int (Int32.ofNat o), .int (Int32.ofNat len), .null] 6)) (T8.setTop (mkF m 39 #[.val (.ref a), .val (.ref b), .val (.int (Int32.ofNat o)), .val (.int (Int32.ofNat len)), .val .null, .unset] [.ref s.heap.size])) := g8
  have c10 : Steps p.tables e below (s₁.setTop (entryFrame m #[.ref a, .ref b, .int (Int32.ofNat o), .int (Int32.ofNat len), .null] 6)) (T8.setTop (mkF m 45 #[.val (.ref a), .val (.ref b), .val (.int (Int32.ofNat o)), .val (.int (Int32.ofNat len)), .val .null, .val (.ref s.heap.size)] [.int (Int32.ofNat N.slots.size), .ref s.heap.size, .ref a])) := by
    have hc : Steps p.tables e below (s₁.setTop (entryFrame m #[.ref a, .ref b, .int (Int32.ofNat o), .int (Int32.ofNat len), .null] 6)) (T8.setTop (mkF m 45 #[.val (.ref a), .val (.ref b), .val (.int (Int32.ofNat o)), .val (.int (Int32.ofNat len)), .val .null, .val (.ref s.heap.size)] [.int (Int32.ofNat len), .ref s.heap.size, .ref a])) := c9.trans (by
      refine XS.astore X8.here hexec rfl (hb hbytes d39) rfl rfl rfl ?_
      refine XS.aloadN X8.here hexec rfl (hb hbytes d41) rfl rfl ?_
      refine XS.aload X8.here hexec rfl (hb hbytes d42) rfl rfl ?_
      refine XS.iloadN X8.here hexec rfl (hb hbytes d44) rfl ?_
      exact Steps.refl _)
    rw [n4]; exact hc
  obtain ⟨v11, T11, X11, E11, g11⟩ := X8.callS hexec (CodL.law l s.heap.size N) hown (wks W (staticW "java/lang/String" 47 CodL.yN)) (wk W CodL.tab) (W := 1) (Nat.le_of_ble_eq_true rfl) (Nat.le_of_ble_eq_true rfl) (Nat.le_refl _) (by show 0 + len + 0 ≤ len; omega) (g := (mkF m 45 #[.val (.ref a), .val (.ref b), .val (.int (Int32.ofNat o)), .val (.int (Int32.ofNat len)), .val .null, .val (.ref s.heap.size)] [.int (Int32.ofNat N.slots.size), .ref s.heap.size, .ref a])) rfl (by rw [hml]; rfl) c10 (argsL := [.ref s.heap.size, .int (Int32.ofNat N.slots.size)]) (rest := [.ref a]) rfl rfl (by show 2 * 0 + (1 + 0) ≤ _; decide) (hb hbytes d45) (⟨rfl, n1⟩)
  obtain ⟨rfl, q11⟩ := E11
  have hB11 := hB1.mv (X8.warmed.alike.symm.trans X11.warmed.alike) q11
  have c12 : Steps p.tables e below (s₁.setTop (entryFrame m #[.ref a, .ref b, .int (Int32.ofNat o), .int (Int32.ofNat len), .null] 6)) (T11.setTop (mkF m 48 #[.val (.ref a), .val (.ref b), .val (.int (Int32.ofNat o)), .val (.int (Int32.ofNat len)), .val .null, .val (.ref s.heap.size)] [.int 0, .ref a])) := g11
  obtain ⟨T13, X13, p13, bl13, sl13, st13⟩ := X11.finit hexec hown (wk W (.fieldLink "java/lang/String" 15 "java/lang/String" "coder" "B")) (Or.inr ⟨_, (wk W (.laysFinal "java/lang/String" "java/lang/String" "coder" "B"))⟩) (Or.inl ⟨rfl, hnm⟩) f2 (Or.inl rfl) hB11 (t := .byte) (by decide +kernel) rfl (g := (mkF m 48 #[.val (.ref a), .val (.ref b), .val (.int (Int32.ofNat o)), .val (.int (Int32.ofNat len)), .val .null, .val (.ref s.heap.size)] [.int 0, .ref a])) rfl (rest := []) rfl (hb hbytes d48)
  have c14 : Steps p.tables e below (s₁.setTop (entryFrame m #[.ref a, .ref b, .int (Int32.ofNat o), .int (Int32.ofNat len), .null] 6)) (T13.setTop (mkF m 54 #[.val (.ref a), .val (.ref b), .val (.int (Int32.ofNat o)), .val (.int (Int32.ofNat len)), .val .null, .val (.ref s.heap.size)] [.ref s.heap.size, .ref a])) := (c12.trans (st13 _ (Steps.refl _))).trans (by
    refine XS.aloadN X13.here hexec rfl (hb hbytes d51) rfl rfl ?_
    refine XS.aload X13.here hexec rfl (hb hbytes d52) rfl rfl ?_
    exact Steps.refl _)
  obtain ⟨T15, X15, p15, bl15, sl15, st15⟩ := X13.finit hexec hown (wk W (.fieldLink "java/lang/String" 9 "java/lang/String" "value" "[B")) (Or.inr ⟨_, (wk W (.laysFinal "java/lang/String" "java/lang/String" "value" "[B"))⟩) (Or.inl ⟨rfl, hnm⟩) f1 (Or.inl rfl) bl13 (t := (.array .byte)) (by decide +kernel) rfl (g := (mkF m 54 #[.val (.ref a), .val (.ref b), .val (.int (Int32.ofNat o)), .val (.int (Int32.ofNat len)), .val .null, .val (.ref s.heap.size)] [.ref s.heap.size, .ref a])) rfl (rest := []) rfl (hb hbytes d54)
  have c16 : Steps p.tables e below (s₁.setTop (entryFrame m #[.ref a, .ref b, .int (Int32.ofNat o), .int (Int32.ofNat len), .null] 6)) (T15.setTop (mkF m 57 #[.val (.ref a), .val (.ref b), .val (.int (Int32.ofNat o)), .val (.int (Int32.ofNat len)), .val .null, .val (.ref s.heap.size)] [])) := c14.trans (st15 _ (Steps.refl _))
  have ap := apart (Or.inr ⟨_, (wk W (.laysFinal "java/lang/String" "java/lang/String" "value" "[B"))⟩) (Or.inr ⟨_, (wk W (.laysFinal "java/lang/String" "java/lang/String" "coder" "B"))⟩) f1 f2 (t₁ := .array .byte) (t₂ := .byte) (by decide +kernel) (by decide +kernel) (by decide)
  have al := X8.warmed.alike.symm.trans X15.warmed.alike
  have n7 : T11.heap[s.heap.size]? = some N := by rw [q11]; exact n1.1
  exact ⟨T15, none, _, _, _, X15, by simp, rfl, by omega, (fun _ => rfl), ⟨rfl, _, N, bl15, ((Same.refl D _).set _ (by simp)).set _ (by simp), sl15, (Cell.slots_setSlot_ne _ ap).trans sl13, n1.keep al (p15.other hne (p13.other hne n7)), n2, by rw [al.findClass]; exact n3, n4, n5, fun y c h1 h2 => p15.other h1 (p13.other h1 (by rw [q11]; exact n6 y c h2)), by rw [p15.2.2, p13.2.2, q11]; exact z8⟩, fun fs hl => c16.trans (X15.returnOut hexec hret (hb hbytes d57) hl)⟩
end New4
namespace New1
def yN : MethodName := ⟨"java/lang/String", "<init>", "([C)V"⟩
abbrev yB : ByteArray := jdk_42_method_3_code
theorem d0 : decode yB 0 = .ok (.aload_n 0, 1) := by decide +kernel
theorem d1 : decode yB 1 = .ok (.aload_n 1, 1) := by decide +kernel
theorem d2 : decode yB 2 = .ok (.iconst 0, 1) := by decide +kernel
theorem d3 : decode yB 3 = .ok (.aload_n 1, 1) := by decide +kernel
theorem d4 : decode yB 4 = .ok (.arraylength, 1) := by decide +kernel
theorem d5 : decode yB 5 = .ok (.aconst_null, 1) := by decide +kernel
theorem d6 : decode yB 6 = .ok (.invokespecial 27, 3) := by decide +kernel
theorem d9 : decode yB 9 = .ok (.return_, 1) := by decide +kernel
def site : List Cond := [New4.tab] ++ initW "java/lang/String" 27 New4.yN
def tab : Cond := tabOf yN yB 2 none site
def P (a : Addr) (D : Cell) (fV fC : Field) (b : Addr) (A : Cell) (z : Int32) (args : Array Value) (s : State) : Prop := args = #[.ref a, .ref b] ∧ Blank "java/lang/String" a D s ∧ Found "java/lang/String" "value" "[B" fV s ∧ Found "java/lang/String" "coder" "B" fC s ∧ Ch b A s ∧ StaticIs s "java/lang/String" "COMPACT_STRINGS" "Z" (.int z) ∧ ¬ z = 0 ∧ 0 < A.slots.size ∧ A.slots.size ≤ 536870912 ∧ ∀ i, i < A.slots.size → ¬ 255 < cv A i
def E (a : Addr) (D : Cell) (fV fC : Field) (A : Cell) (r : Option Value) (s u : State) : Prop := Got a D fV fC A 0 A.slots.size r s u
/-- new String(chars), not empty, no char above 255: a Latin-1 String of their low bytes -/
theorem law (l : Launch) (a : Addr) (D : Cell) (fV fC : Field) (b : Addr) (A : Cell) (z : Int32) : Law l yN 2 1 3 52 yB 2 none site (P a D fV fC b A z) (E a D fV fC A) [⟨a, fC.slot⟩, ⟨a, fV.slot⟩] 1 A.slots.size := by
  refine Law.of_walk (plainFor_of_name (by decide +kernel)) (by decide +kernel) (by decide +kernel) (by decide) (fun _ _ h => by rw [h.1]; rfl) (fun _ U U' hal hh h => ⟨h.1, h.2.1.mv hal hh, h.2.2.1.al hal, h.2.2.2.1.al hal, h.2.2.2.2.1.mv hal hh, h.2.2.2.2.2.1.there hal hh, h.2.2.2.2.2.2⟩) (fun r U U' V V' h1 hal h2 h => Got.mv r U U' V V' h1 hal h2 h) ?_
  intro p e s m args below meth c s₁ X0 hexec hbytes hml hret hlk hnm hown hh0 W hP
  obtain ⟨rfl, hB, f1, f2, hA, s1, hz, l0, l2, hp⟩ := hP
  have c1 : Steps p.tables e below (s₁.setTop (entryFrame m #[.ref a, .ref b] 2)) (s₁.setTop (mkF m 0 #[.val (.ref a), .val (.ref b)] [])) := entry rfl
  have c2 : Steps p.tables e below (s₁.setTop (entryFrame m #[.ref a, .ref b] 2)) (s₁.setTop (mkF m 6 #[.val (.ref a), .val (.ref b)] [.null, .int (Int32.ofNat A.slots.size), .int 0, .ref b, .ref a])) := c1.trans (by
    refine XS.aloadN X0.here hexec rfl (hb hbytes d0) rfl rfl ?_
    refine XS.aloadN X0.here hexec rfl (hb hbytes d1) rfl rfl ?_
    refine iconstV X0.here hexec rfl 0 (hb hbytes d2) (by decide) ?_
    refine XS.aloadN X0.here hexec rfl (hb hbytes d3) rfl rfl ?_
    refine X0.alen hexec (hA.1.mv X0.warmed.alike hh0) rfl rfl (hb hbytes d4) ?_
    refine XS.aconstNull X0.here hexec rfl (hb hbytes d5) ?_
    exact Steps.refl _)
  obtain ⟨v3, T3, X3, E3, g3⟩ := X0.callN hexec (New4.law l a D fV fC b A z 0 A.slots.size) rfl hown (wks W (initW "java/lang/String" 27 New4.yN)) (W New4.tab (by simp only [site, List.mem_cons, List.mem_append, true_or, or_true])) (W := 0) (Nat.le_of_ble_eq_true rfl) (Nat.le_of_ble_eq_true rfl) (Nat.le_refl _) (by show 0 + A.slots.size ≤ A.slots.size; omega) (g := (mkF m 6 #[.val (.ref a), .val (.ref b)] [.null, .int (Int32.ofNat A.slots.size), .int (Int32.ofNat 0), .ref b, .ref a])) rfl (by rw [hml]; rfl) c2 (argsL := [.ref b, .int (Int32.ofNat 0), .int (Int32.ofNat A.slots.size), .null]) (rest := []) rfl rfl (by show 2 * 0 + 0 ≤ _; decide) (hb hbytes d6) (⟨rfl, hB.mv X0.warmed.alike hh0, f1.al X0.warmed.alike, f2.al X0.warmed.alike, hA.mv X0.warmed.alike hh0, s1.there X0.warmed.alike hh0, hz, l0, by omega, l2, fun i hi => by rw [Nat.zero_add]; exact hp i hi⟩)
  have e0 := Got.mv _ s₁ s _ _ hh0.symm (Vm.Alike.refl _) rfl E3
  obtain rfl := e0.1
  have c4 : Steps p.tables e below (s₁.setTop (entryFrame m #[.ref a, .ref b] 2)) (T3.setTop (mkF m 9 #[.val (.ref a), .val (.ref b)] [])) := g3
  exact ⟨T3, none, _, _, _, X3, by simp, rfl, by omega, (fun _ => rfl), e0, fun fs hl => c4.trans (X3.returnOut hexec hret (hb hbytes d9) hl)⟩
theorem pays {l : Launch} {R : Room} {p : Program} {e : Env} {below : List Frame} {s : State} {sargs : Array Value} {len W : Nat} (a : Addr) (D : Cell) (fV fC : Field) (b : Addr) (A : Cell) (z : Int32) (htab : tab.before sargs s = true) (hfr : 4 ≤ R.frames) (hlo : W + 65 ≤ R.locals) :
    Back l R p e below s sargs yN len W (fun A₁ a₁ => A₁.cells + 1 ≤ R.cells ∧ A₁.slots + A.slots.size ≤ R.slots ∧ P a D fV fC b A z a₁ A₁.U) (fun A₁ _ v₁ B₁ => E a D fV fC A v₁ A₁.U B₁.U ∧ B₁.locs = A₁.locs ++ [⟨a, fC.slot⟩, ⟨a, fV.slot⟩] ∧ B₁.cells = A₁.cells + 1 ∧ B₁.slots = A₁.slots + A.slots.size) :=
  (law l a D fV fC b A z).pays htab hfr (by omega)
end New1
/-- the byte, read back as charAt reads it, is the char -/
theorem lo8_mask {x : Int32} (h0 : ¬ x < 0) (h1 : ¬ 255 < x) : lo8 x &&& 255 = x := by
  have t : ∀ k : Fin 256, lo8 (Int32.ofNat k.val) &&& 255 = Int32.ofNat k.val := by decide +kernel
  rw [Int32.lt_iff_toInt_lt] at h0 h1
  have e0 : (0 : Int32).toInt = 0 := rfl
  have e1 : (255 : Int32).toInt = 255 := rfl
  obtain ⟨k, hk⟩ : ∃ k : Nat, x.toInt = k := ⟨x.toInt.toNat, by omega⟩
  have hx : x = Int32.ofNat k := Int32.toInt_inj.mp (by rw [hk, Int32.toInt_ofNat_small (by omega)])
  rw [hx]
  exact t ⟨k, by omega⟩
end StrChars
namespace StrChars.Road
open Jvm Sem ClassFile Op Lib Jvm.Stand Jvm.Free Jvm.Free.XT
open Jvm.Lib.Cold (StaticIs)
abbrev ST : String := "java/lang/String"
/-- every table word that New1's law asks, flat -/
abbrev words : List Jvm.Cond := [.code New1.yN New1.yB 2 none, .initialized ST, .methodLink ST 27 New4.yN, .instanceMethod New4.yN,
  .code New4.yN New4.yB 6 none, .fieldLink ST 38 ST "COMPACT_STRINGS" "Z", .laysFinal ST ST "value" "[B", .fieldLink ST 9 ST "value" "[B", .laysFinal ST ST "coder" "B", .fieldLink ST 15 ST "coder" "B",
  .methodLink ST 1 Lib.objectInit, .instanceMethod Lib.objectInit, .code Lib.objectInit ⟨#[0xb1]⟩ 1 none, .methodLink ST 177 Cmp3.yN, .static Cmp3.yN, .methodLink ST 47 CodL.yN, .static CodL.yN,
  .code Cmp3.yN Cmp3.yB 6 (some (.array .byte)), .initialized U16, .arrayClass .byte, .methodLink U16 115 Cmp5.yN, .static Cmp5.yN, .code Cmp5.yN Cmp5.yB 7 (some .int), .code CodL.yN CodL.yB 2 (some .byte)]
theorem tab_of {a : Array Value} {s : State} (h : ∀ w ∈ words, w.before a s = true) : New1.tab.before a s = true := by
  have h5 : Cmp5.tab.before a s = true := unparts (wk h (.code Cmp5.yN Cmp5.yB 7 (some .int))) (wks h (.initialized Cmp5.yN.cls :: Cmp5.site))
  have hc : CodL.tab.before a s = true := unparts (wk h (.code CodL.yN CodL.yB 2 (some .byte))) (wks h (.initialized CodL.yN.cls :: CodL.site))
  have q5 : ∀ w ∈ Cmp5.tab :: words, w.before a s = true := fun w hw => (List.mem_cons.mp hw).elim (fun e => e ▸ h5) (h w)
  have h3 : Cmp3.tab.before a s = true := unparts (wk q5 (.code Cmp3.yN Cmp3.yB 6 (some (.array .byte)))) (wks q5 (.initialized Cmp3.yN.cls :: Cmp3.site))
  have q3 : ∀ w ∈ Cmp3.tab :: CodL.tab :: words, w.before a s = true := fun w hw => (List.mem_cons.mp hw).elim (fun e => e ▸ h3) fun hw => (List.mem_cons.mp hw).elim (fun e => e ▸ hc) (h w)
  have h4 : New4.tab.before a s = true := unparts (wk q3 (.code New4.yN New4.yB 6 none)) (wks q3 (.initialized New4.yN.cls :: New4.site))
  have q4 : ∀ w ∈ New4.tab :: words, w.before a s = true := fun w hw => (List.mem_cons.mp hw).elim (fun e => e ▸ h4) (h w)
  exact unparts (wk q4 (.code New1.yN New1.yB 2 none)) (wks q4 (.initialized New1.yN.cls :: New1.site))
/-- the words ride from the start Z to the walk's own state -/
theorem moved {Z s : State} {a0 args : Array Value} (hZ : Z.Warmed39 s.vm) (hw : ∀ d ∈ words, d.before a0 Z = true) : ∀ d ∈ words, d.before args s = true := fun d hd => by
  have q := hw d hd
  have t : ∀ d ∈ words, d = .arrayClass .byte ∨ (d.onTables && d.keepsFace) = true := by decide +kernel
  rcases t d hd with rfl | t
  · exact RoadKit.mvA hZ q
  · exact RoadKit.mv hZ q t
/-- WHAT COMES BACK, over the tables of the start Z: h the heap at the call, h' behind it -/
def Q (Z : State) (x : Addr) (A : Cell) (h : Heap) (v : Option Value) (h' : Heap) (L : List Loc) : Prop := v = none ∧ (∀ y ∈ L, y.base = x) ∧ RoadKit.Keep h h' [x] ∧ h'.size = h.size + 1 ∧ RoadKit.Exa Z h' x ST ∧ RoadKit.Fld Z h' x ST "value" "[B" (.ref h.size) ∧ RoadKit.Fld Z h' x ST "coder" "B" (.int 0) ∧
  (∃ V : Cell, RoadKit.Arr Z h' h.size V .byte ∧ V.vm = .none ∧ Z.vm.findClass "[B" = some V.cls ∧ V.slots.size = A.slots.size ∧ ∀ j, j < A.slots.size → V.slots[j]? = some (.int (lo8 (cv A j)))) ∧
  ∀ (O n d : String) (w : Value), RoadKit.Fld Z h x O n d w → RoadKit.slotOf Z O n d ≠ RoadKit.slotOf Z ST "value" "[B" → RoadKit.slotOf Z O n d ≠ RoadKit.slotOf Z ST "coder" "B" → RoadKit.Fld Z h' x O n d w
/-- **new String(chars) AT A CALL, IN THE ROAD'S FORM**: for specialBack behind newO: x the fresh String, b the char[] with the cell A -/
theorem back {p : Program} {l : Launch} {e : Env} {R : Room} {s : State} {args : Array Value} {below : List Frame} {len W : Nat} {Z : State} {a0 : Array Value} {h : Heap} (hZ : Z.Warmed39 s.vm) (hw : ∀ d ∈ words, d.before a0 Z = true) {kI : Nat} (wi : (Jvm.Cond.instantiable ST kI).before a0 Z = true)
    {x b : Addr} {A : Cell} {z : Int32} {v0 c0 : Value} (E : RoadKit.Exa Z h x ST) (V : RoadKit.Fld Z h x ST "value" "[B" v0) (C : RoadKit.Fld Z h x ST "coder" "B" c0) (K : RoadKit.Arr Z h b A .char) (hty : Typed .char A) (S : RoadKit.Sta Z h ST "COMPACT_STRINGS" "Z" (.int z)) (hz : ¬ z = 0)
    (l0 : 0 < A.slots.size) (l2 : A.slots.size ≤ 536870912) (hp : ∀ i, i < A.slots.size → ¬ 255 < cv A i) (hfr : 4 ≤ R.frames) (hlo : W + 65 ≤ R.locals) :
    Back l R p e below s args New1.yN len W (fun P a => a = #[.ref x, .ref b] ∧ P.U.heap = h ∧ P.cells + 1 ≤ R.cells ∧ P.slots + A.slots.size ≤ R.slots)
      (fun P _ v B => ∃ L, Q Z x A h v B.U.heap L ∧ B.locs = P.locs ++ L ∧ B.cells = P.cells + 1 ∧ B.slots = P.slots + A.slots.size) := by
  intro m meth c P g ig mk a X hg hsize hdg hW hn hp'
  obtain ⟨rfl, rfl, r1, r2⟩ := hp'
  have al : Z.vm.Alike P.U.vm := hZ.alike.trans X.warmed.alike
  obtain ⟨D, cfV, kV, iV, fV, hD, gV, stV, knV, obV, asV, slV⟩ := id V
  obtain ⟨D', cfC, kC, iC, fC, hD', gC, stC, -, -, asC, slC⟩ := id C
  cases hD.symm.trans hD'
  obtain ⟨D2, kD, e1, e2, e3, e4, e5⟩ := id E
  cases hD.symm.trans e1
  obtain ⟨c2, k2, i1, i2, i3, -⟩ := Cond.instantiable_spec wi
  cases e2.symm.trans i1
  cases e3.symm.trans i2
  obtain ⟨kU, u1, u2⟩ := al.2.2 _ _ e3
  have hB : Blank ST x D P.U := ⟨hD, ⟨knV, fun q hq => by rw [hq] at obV; cases obV⟩, by rw [al.findClass]; exact e2, kU, u1, by rw [u2]; exact i3, by rw [u2]; exact e5 i3⟩
  have F1 : Found ST "value" "[B" fV P.U := ⟨SBG.found_only al ⟨cfV, kV, iV, gV⟩, stV⟩
  have F2 : Found ST "coder" "B" fC P.U := ⟨SBG.found_only al ⟨cfC, kC, iC, gC⟩, stC⟩
  have hA : Ch b A P.U := ⟨⟨K.1, State.isArrayOf_alike al K.2.1, K.2.2, by omega⟩, hty⟩
  have hS : StaticIs P.U ST "COMPACT_STRINGS" "Z" (.int z) := by
    obtain ⟨cfS, iS, kS, fS, st, cS, t1, t2, t3, t4, t5, t6, t7⟩ := S
    exact StaticIs.there (s := { Z with heap := P.U.heap }) ⟨cfS, iS, kS, fS, st, cS, t1, t2, t3, t4, t5, (fun q => by rw [q] at t6; cases t6), t7⟩ al rfl
  obtain ⟨v, B, X', ⟨⟨hv, E', V', q1, q2, q3, q4, q5, q6, q7, q8, q9, q10, q11⟩, hl, hc, hs⟩, st⟩ := New1.pays x D fV fC b A z (tab_of (moved hZ hw)) hfr hlo m meth c P g ig mk _ X hg hsize hdg hW hn ⟨r1, r2, rfl, hB, F1, F2, hA, hS, hz, l0, l2, hp⟩
  have al' : Z.vm.Alike B.U.vm := hZ.alike.trans X'.warmed.alike
  have hsz : E'.slots.size = D.slots.size := by
    obtain ⟨-, -, -, kB, w1, w2, w3⟩ := q1
    obtain ⟨kB', y1, y2⟩ := al'.2.2 _ _ e3
    rw [q2.2.1] at w1
    cases w1.symm.trans y1
    rw [w3, e5 i3, y2]
  refine ⟨v, B, X', ⟨_, ⟨hv, ?_, ⟨by omega, fun y cy hy hn' => q10 y cy (by simpa using hn') hy, fun y cy hy => ?_⟩, q11, ⟨E', _, q1.1, by rw [q2.2.1]; exact e2, by rw [q2.2.1]; exact e3, by rw [q2.1]; exact obV, fun _ => by rw [hsz]; exact e5 i3⟩,
    ⟨E', cfV, kV, iV, fV, q1.1, gV, stV, by rw [q2.1]; exact knV, by rw [q2.1]; exact obV, by rw [q2.2.1]; exact asV, q3⟩, ⟨E', cfC, kC, iC, fC, q1.1, gC, stC, by rw [q2.1]; exact knV, by rw [q2.1]; exact obV, by rw [q2.2.1]; exact asC, q4⟩,
    ⟨V', ⟨q5.1, State.isArrayOf_alike al'.symm q5.2.1, q5.2.2.1⟩, q6, by rw [← al'.findClass]; exact q7, q8, fun j hj => by have := q9 j hj; rwa [Nat.zero_add] at this⟩, fun O n d w F n1 n2 => ?_⟩, hl, hc, hs⟩, st⟩
  · intro y hy
    simp only [List.mem_cons, List.not_mem_nil, or_false] at hy
    rcases hy with rfl | rfl <;> rfl
  · by_cases q : y = x
    · subst q
      cases hD.symm.trans hy
      exact ⟨E', q1.1, q2.2.1, q2.1, hsz⟩
    · exact ⟨cy, q10 y cy q hy, rfl, rfl, rfl⟩
  · obtain ⟨D3, cf, k, i, f, g1, g2, g3, g4, g5, g6, g7⟩ := F
    cases hD.symm.trans g1
    simp only [RoadKit.slotOf, g2, gV, gC, Option.map_some, Option.getD_some] at n1 n2
    exact ⟨E', cf, k, i, f, q1.1, g2, g3, by rw [q2.1]; exact g4, by rw [q2.1]; exact g5, by rw [q2.2.1]; exact g6, by rw [q2.2.2 f.slot (by simp [n1, n2])]; exact g7⟩
end StrChars.Road
namespace StrChars.Road
open Jvm Sem ClassFile Op Lib Jvm.Stand Jvm.Free Jvm.Free.XT
/-- WHAT COMES BACK, the byte[] as a list of values -/
def QA (Z : State) (x : Addr) (zn : Int32) (cs : List Int32) (h : Heap) (v : Option Value) (h' : Heap) (L : List Loc) : Prop := v = none ∧ (∀ y ∈ L, y.base = x) ∧ RoadKit.Keep h h' [x] ∧ h'.size = h.size + 1 ∧ RoadKit.Exa Z h' x ST ∧ RoadKit.Fld Z h' x ST "value" "[B" (.ref h.size) ∧ RoadKit.Fld Z h' x ST "coder" "B" (.int 0) ∧
  (∃ kb, Z.vm.findClass "[B" = some kb ∧ RoadKit.Arv Z h' h.size kb .byte zn (cs.map fun c => .int (lo8 c)) (.int 0)) ∧
  ∀ (O n d : String) (w : Value), RoadKit.Fld Z h x O n d w → RoadKit.slotOf Z O n d ≠ RoadKit.slotOf Z ST "value" "[B" → RoadKit.slotOf Z O n d ≠ RoadKit.slotOf Z ST "coder" "B" → RoadKit.Fld Z h' x O n d w
/-- **new String(chars) AT A CALL, THE ARRAYS AS LISTS**: the char[] at b holds cs, not empty, no char above 255 -/
theorem backArv {p : Program} {l : Launch} {e : Env} {R : Room} {s : State} {args : Array Value} {below : List Frame} {len W : Nat} {Z : State} {a0 : Array Value} {h : Heap} (hZ : Z.Warmed39 s.vm) (hw : ∀ d ∈ words, d.before a0 Z = true) {kI : Nat} (wi : (Jvm.Cond.instantiable ST kI).before a0 Z = true)
    {x b : Addr} {k : ClassId} {zn z : Int32} {cs : List Int32} {dv v0 c0 : Value} (E : RoadKit.Exa Z h x ST) (V : RoadKit.Fld Z h x ST "value" "[B" v0) (C : RoadKit.Fld Z h x ST "coder" "B" c0) (K : RoadKit.Arv Z h b k .char zn (cs.map Value.int) dv) (S : RoadKit.Sta Z h ST "COMPACT_STRINGS" "Z" (.int z)) (hz : ¬ z = 0)
    (hlen : zn.toNatClampNeg = cs.length) (h0 : 0 < cs.length) (hbig : cs.length ≤ 536870912) (hall : ∀ c ∈ cs, ¬ 255 < c) (hfr : 4 ≤ R.frames) (hlo : W + 65 ≤ R.locals) :
    Back l R p e below s args New1.yN len W (fun P a => a = #[.ref x, .ref b] ∧ P.U.heap = h ∧ P.cells + 1 ≤ R.cells ∧ P.slots + cs.length ≤ R.slots)
      (fun P _ v B => ∃ L, QA Z x zn cs h v B.U.heap L ∧ B.locs = P.locs ++ L ∧ B.cells = P.cells + 1 ∧ B.slots = P.slots + cs.length) := by
  obtain ⟨A, K1, K2, K3, K4, K5, K6⟩ := K
  have e : A.slots.size = cs.length := K3.trans hlen
  have hat : ∀ (i : Nat) (hi : i < cs.length), A.slots[i]? = some (.int cs[i]) := fun i hi => by rw [K5 i (by omega)]; simp [List.getD_eq_getElem?_getD, hi]
  have hcv : ∀ (i : Nat) (hi : i < cs.length), cv A i = cs[i] := fun i hi => by unfold cv; rw [hat i hi]
  have hty : Typed .char A := fun i v hv => by
    have hi : i < A.slots.size := (Array.getElem?_eq_some_iff.mp hv).1
    have q := K5 i hi
    rw [hv] at q
    rw [Option.some.inj q]
    exact K6 i hi
  refine Back.mono (back hZ hw wi E V C K1 hty S hz (by omega) (by omega) (fun i hi => by rw [hcv i (by omega)]; exact hall _ (List.getElem_mem _)) hfr hlo) (fun P a hp => ⟨hp.1, hp.2.1, hp.2.2.1, by rw [e]; exact hp.2.2.2⟩) (fun P a v B hp hq => ?_)
  obtain ⟨L, ⟨q1, q2, q3, q4, q5, q6, q7, ⟨V', v1, v2, v3, v4, v5⟩, q9⟩, hl, hc, hs⟩ := hq
  refine ⟨L, ⟨q1, q2, q3, q4, q5, q6, q7, ⟨V'.cls, v3, V', v1, rfl, by rw [v4, e, hlen], K4, fun i hi => ?_, fun i hi => ?_⟩, q9⟩, hl, hc, by rw [hs, e]⟩
  · have hi' : i < cs.length := by omega
    rw [v5 i (by omega), hcv i hi']; simp [List.getD_eq_getElem?_getD, hi']
  · have hi' : i < cs.length := by omega
    simp only [List.getD_eq_getElem?_getD, List.getElem?_map, List.getElem?_eq_getElem hi', Option.map_some, Option.getD_some]
    exact fits_lo8 _
end StrChars.Road
namespace StrChars.Road
open Jvm Sem ClassFile Op Lib Jvm.Stand Jvm.Free Jvm.Free.XT
/-- WHAT COMES BACK, in the writer's own shape -/
def QV (Z : State) (x : Addr) (N : Int32) (bs : List Int32) (h : Heap) (n0 : Nat) (v : Option Value) (h' : Heap) (L : List Loc) : Prop := v = none ∧ RoadKit.Fr n0 L ∧ RoadKit.Keep h h' [x] ∧ RoadKit.Exa Z h' x ST ∧ RoadKit.Fld Z h' x ST "coder" "B" (.int 0) ∧
  ∃ (t : Addr) (kb : ClassId), n0 ≤ t ∧ h.size ≤ t ∧ ¬ t = x ∧ RoadKit.Fld Z h' x ST "value" "[B" (.ref t) ∧ RoadKit.Arv Z h' t kb .byte N (bs.map Value.int) (.int 0)
/-- **new String(chars) AT A CALL, FOR THE WRITER**: a char[] of n known ints, each 0 to 255 -/
theorem backV {p : Program} {l : Launch} {e : Env} {R : Room} {s : State} {args : Array Value} {below : List Frame} {len W : Nat} {Z : State} {a0 : Array Value} {h : Heap} (hZ : Z.Warmed39 s.vm) (hw : ∀ d ∈ words, d.before a0 Z = true) {kI : Nat} (wi : (Jvm.Cond.instantiable ST kI).before a0 Z = true)
    {x b : Addr} {kC : ClassId} {cs bs : List Int32} {d v0 c0 : Value} {z N : Int32} {n n0 : Nat} (hx0 : n0 ≤ x) (hh0 : n0 ≤ h.size) (E : RoadKit.Exa Z h x ST) (V : RoadKit.Fld Z h x ST "value" "[B" v0) (C : RoadKit.Fld Z h x ST "coder" "B" c0) (K : RoadKit.Arv Z h b kC .char N (cs.map Value.int) d) (S : RoadKit.Sta Z h ST "COMPACT_STRINGS" "Z" (.int z)) (hz : ¬ z = 0)
    (hn : cs.length = n) (hN : N = Int32.ofNat n) (l0 : 0 < n) (l2 : n ≤ 4000) (hp : ∀ c ∈ cs, ¬ c < 0 ∧ ¬ (255 : Int32) < c) (hb : bs = cs.map (fun c => c.toInt8.toInt32)) (hfr : 4 ≤ R.frames) (hlo : W + 65 ≤ R.locals) :
    Back l R p e below s args (⟨"java/lang/String", "<init>", "([C)V"⟩ : MethodName) len W (fun P a => a = #[.ref x, .ref b] ∧ P.U.heap = h ∧ P.cells + 1 ≤ R.cells ∧ P.slots + n ≤ R.slots)
      (fun P _ v B => ∃ L, QV Z x N bs h n0 v B.U.heap L ∧ B.locs = P.locs ++ L ∧ B.cells = P.cells + 1 ∧ B.slots = P.slots + n) := by
  subst hn hN hb
  refine Back.mono (backArv hZ hw wi E V C K S hz (n32 (by omega)) l0 (by omega) (fun c hc => (hp c hc).2) hfr hlo) (fun P a hp => hp) (fun P a v B hp hq => ?_)
  obtain ⟨L, ⟨q1, q2, q3, q4, q5, q6, q7, ⟨kb, v1, v2⟩, q9⟩, hl, hc, hs⟩ := hq
  exact ⟨L, ⟨q1, fun y hy => by rw [q2 y hy]; exact hx0, q3, q5, q7, h.size, kb, hh0, Nat.le_refl _, Nat.ne_of_gt E.lt, q6, by rw [List.map_map]; exact v2⟩, hl, hc, hs⟩
end StrChars.Road
namespace StrChars
open Jvm Sem ClassFile Op Lib Jvm.Stand Jvm.Free.XT Jvm.Free.ALB Jvm.Free.JM Jvm.Free
open Jvm.Lib.Cold (StaticIs)
def hi8 (x : Int32) : Int32 := lo8 (x >>> ((8 : Int32) &&& 31))
/-- what StringUTF16.getChar makes of two bytes -/
def pairCh (u v : Int32) : Int32 := (((u &&& 255) <<< ((0 : Int32) &&& 31)) ||| ((v &&& 255) <<< ((8 : Int32) &&& 31))).toUInt32.toUInt16.toUInt32.toInt32
theorem shr0 (c : Int32) : c >>> ((0 : Int32) &&& 31) = c := by
  have e : ((0 : Int32) &&& 31) = 0 := by decide
  rw [e]
  apply Int32.toBitVec_inj.mp
  rw [Int32.toBitVec_shiftRight]
  have e1 : ((0 : Int32).toBitVec.smod 32) = 0#32 := by decide
  rw [e1, BitVec.sshiftRight_eq']
  exact BitVec.sshiftRight_zero
theorem lo8_and (x : Int32) : (lo8 x &&& 255).toBitVec.toNat = x.toBitVec.toNat % 256 := by
  have h : (lo8 x).toBitVec = (x.toBitVec.signExtend 8).signExtend 32 := by rw [lo8, Int8.toBitVec_toInt32, Int32.toBitVec_toInt8]
  rw [Int32.toBitVec_and, BitVec.toNat_and, h]
  have e : ((x.toBitVec.signExtend 8).signExtend 32).toNat % 256 = x.toBitVec.toNat % 256 := by
    rw [BitVec.toNat_signExtend]
    have hlt := x.toBitVec.isLt
    simp only [BitVec.toNat_setWidth, BitVec.toNat_signExtend]
    split <;> split <;> omega
  rw [← e]
  exact Nat.and_two_pow_sub_one_eq_mod _ 8
theorem pair_says {c : Int32} (h0 : ¬ c < 0) (h1 : ¬ 65535 < c) : pairCh (lo8 c) (hi8 c) = c := by
  rw [Int32.lt_iff_toInt_lt] at h0 h1
  have e0 : (0 : Int32).toInt = 0 := rfl
  have e1 : (65535 : Int32).toInt = 65535 := rfl
  have hc : c.toInt = c.toBitVec.toNat := by
    have := c.toBitVec.isLt
    have e : c.toInt = c.toBitVec.toInt := rfl
    rw [e] at h0 h1
    rw [e]
    rw [BitVec.toInt_eq_toNat_cond] at h0 h1 ⊢
    split at h0 <;> split <;> omega
  have hn : c.toBitVec.toNat < 65536 := by omega
  have a1 := lo8_and c
  have a2 : (hi8 c &&& 255).toBitVec.toNat = c.toBitVec.toNat / 256 := by
    rw [hi8, lo8_and]
    have e : ((8 : Int32) &&& 31) = 8 := by decide
    rw [e, Int32.toBitVec_shiftRight]
    have e2 : ((8 : Int32).toBitVec.smod 32) = 8#32 := by decide
    rw [e2, BitVec.sshiftRight_eq', BitVec.toNat_sshiftRight_of_msb_false (by rw [BitVec.msb_eq_false_iff_two_mul_lt]; omega)]
    show c.toBitVec.toNat >>> 8 % 256 = _
    rw [Nat.shiftRight_eq_div_pow]
    omega
  unfold pairCh
  apply Int32.toBitVec_inj.mp
  apply BitVec.eq_of_toNat_eq
  have f0 : ((0 : Int32) &&& 31) = 0 := by decide
  have f8 : ((8 : Int32) &&& 31) = 8 := by decide
  rw [f0, f8]
  have g : (((lo8 c &&& 255) <<< (0 : Int32)) ||| ((hi8 c &&& 255) <<< (8 : Int32))).toBitVec.toNat = c.toBitVec.toNat := by
    rw [Int32.toBitVec_or, Int32.toBitVec_shiftLeft, Int32.toBitVec_shiftLeft]
    have s0 : ((0 : Int32).toBitVec.smod 32) = 0#32 := by decide
    have s8 : ((8 : Int32).toBitVec.smod 32) = 8#32 := by decide
    rw [s0, s8, BitVec.toNat_or]
    simp only [BitVec.shiftLeft_eq', BitVec.toNat_shiftLeft, a1, a2]
    show (c.toBitVec.toNat % 256) <<< 0 % 2 ^ 32 ||| (c.toBitVec.toNat / 256) <<< 8 % 2 ^ 32 = _
    rw [Nat.shiftLeft_zero, Nat.mod_eq_of_lt (show c.toBitVec.toNat % 256 < 2 ^ 32 by omega), Nat.mod_eq_of_lt (show (c.toBitVec.toNat / 256) <<< 8 < 2 ^ 32 by rw [Nat.shiftLeft_eq]; omega), Nat.or_comm, ← Nat.shiftLeft_add_eq_or_of_lt (by omega), Nat.shiftLeft_eq]
    omega
  show BitVec.toNat (((((lo8 c &&& 255) <<< (0 : Int32)) ||| ((hi8 c &&& 255) <<< (8 : Int32))).toBitVec.setWidth 16).setWidth 32) = _
  rw [BitVec.toNat_setWidth, BitVec.toNat_setWidth, g]
  omega
end StrChars
namespace StrChars
open Jvm Sem ClassFile Op Lib Jvm.Stand Jvm.Free.XT Jvm.Free.ALB Jvm.Free.JM Jvm.Free
open Jvm.Lib.Cold (StaticIs)
theorem shr1 {n : Nat} (h : 2 * n < 2 ^ 31) : Int32.ofNat (2 * n) >>> ((1 : Int32) &&& 31) = Int32.ofNat n := by
  have e : ((1 : Int32) &&& 31) = 1 := by decide
  rw [e]
  apply Int32.toBitVec_inj.mp
  rw [Int32.toBitVec_shiftRight]
  have e1 : ((1 : Int32).toBitVec.smod 32) = 1#32 := by decide
  have hm : (BitVec.ofNat 32 (2 * n)).toNat = 2 * n := by rw [BitVec.toNat_ofNat, Nat.mod_eq_of_lt (by omega)]
  rw [e1, BitVec.sshiftRight_eq']
  apply BitVec.eq_of_toNat_eq
  show ((BitVec.ofNat 32 (2 * n)).sshiftRight 1).toNat = (BitVec.ofNat 32 n).toNat
  rw [BitVec.toNat_sshiftRight_of_msb_false (by rw [BitVec.msb_eq_false_iff_two_mul_lt, hm]; omega), hm, BitVec.toNat_ofNat, Nat.shiftRight_eq_div_pow]
  omega
/-- charAt's cast of a byte read back -/
def chr8 (u : Int32) : Int32 := (u &&& 255).toUInt32.toUInt16.toUInt32.toInt32
theorem chr8_lo8 {c : Int32} (h0 : ¬ c < 0) (h1 : ¬ 255 < c) : chr8 (lo8 c) = c := by
  have t : ∀ k : Fin 256, (Int32.ofNat k.val).toUInt32.toUInt16.toUInt32.toInt32 = Int32.ofNat k.val := by decide +kernel
  unfold chr8
  rw [lo8_mask h0 h1]
  rw [Int32.lt_iff_toInt_lt] at h0 h1
  have e0 : (0 : Int32).toInt = 0 := rfl
  have e1 : (255 : Int32).toInt = 255 := rfl
  obtain ⟨k, hk⟩ : ∃ k : Nat, c.toInt = k := ⟨c.toInt.toNat, by omega⟩
  have hx : c = Int32.ofNat k := Int32.toInt_inj.mp (by rw [hk, Int32.toInt_ofNat_small (by omega)])
  rw [hx]
  exact t ⟨k, by omega⟩
theorem narrow_ch {c : Int32} (h0 : ¬ c < 0) (h1 : ¬ 65535 < c) : narrow .char (.int c) = .int c := by
  have q : narrow .char (.int (pairCh (lo8 c) (hi8 c))) = .int (pairCh (lo8 c) (hi8 c)) := narrow_c _
  rwa [pair_says h0 h1] at q
/-- the array's cell V codes the n chars f 0 .. f (n - 1) by the coder cd, as the JDK does: coder 1 just where some char is above 255 -/
def Cod (cd : Int32) (n : Nat) (f : Nat → Int32) (V : Cell) : Prop := (cd = 0 ∧ V.slots.size = n ∧ ∀ j, j < n → V.slots[j]? = some (.int (lo8 (f j))) ∧ ¬ 255 < f j) ∨ (cd = 1 ∧ V.slots.size = 2 * n ∧ (∀ j, j < n → V.slots[2 * j]? = some (.int (lo8 (f j))) ∧ V.slots[2 * j + 1]? = some (.int (hi8 (f j)))) ∧ ∃ j, j < n ∧ 255 < f j)
theorem Cod.cd {cd : Int32} {n : Nat} {f : Nat → Int32} {V : Cell} (h : Cod cd n f V) : cd = 0 ∨ cd = 1 := h.imp (fun q => q.1) fun q => q.1
theorem Cod.len {cd : Int32} {n : Nat} {f : Nat → Int32} {V : Cell} (h : Cod cd n f V) (hs : V.slots.size < 2 ^ 31) : Int32.ofNat V.slots.size >>> (cd &&& 31) = Int32.ofNat n := by
  rcases h with ⟨rfl, h, -⟩ | ⟨rfl, h, -⟩
  · rw [shr0, h]
  · rw [h, shr1 (by omega)]
/-- **x is a String of the n chars f 0 .. f (n - 1)**, Latin-1 or UTF-16; its array at t has the cell V -/
def Txt (x t : Addr) (V : Cell) (cd : Int32) (n : Nat) (f : Nat → Int32) (U : State) : Prop := Exact "java/lang/String" x U ∧ Has x "java/lang/String" "value" "[B" (.ref t) U ∧ Has x "java/lang/String" "coder" "B" (.int cd) U ∧ XT.Arr .byte t V U ∧ Cod cd n f V ∧ ∀ j, j < n → ¬ f j < 0 ∧ ¬ 65535 < f j
theorem Txt.mv {x t : Addr} {V : Cell} {cd : Int32} {n : Nat} {f : Nat → Int32} {U U' : State} (h : Txt x t V cd n f U) (hal : U.vm.Alike U'.vm) (hh : U'.heap = U.heap) : Txt x t V cd n f U' := ⟨h.1.mv hal hh, h.2.1.mv hal hh, h.2.2.1.mv hal hh, h.2.2.2.1.mv hal hh, h.2.2.2.2⟩
namespace Cdr
def yN : MethodName := ⟨"java/lang/String", "coder", "()B"⟩
abbrev yB : ByteArray := jdk_42_method_152_code
theorem d0 : decode yB 0 = .ok (.getstatic 38, 3) := by decide +kernel
theorem d3 : decode yB 3 = .ok (.ifCond (.eq) 10, 3) := by decide +kernel
theorem d6 : decode yB 6 = .ok (.aload_n 0, 1) := by decide +kernel
theorem d7 : decode yB 7 = .ok (.getfield 15, 3) := by decide +kernel
theorem d10 : decode yB 10 = .ok (.goto 4, 3) := by decide +kernel
theorem d14 : decode yB 14 = .ok (.ireturn, 1) := by decide +kernel
def site : List Cond := [.fieldLink "java/lang/String" 38 "java/lang/String" "COMPACT_STRINGS" "Z", .fieldLink "java/lang/String" 15 "java/lang/String" "coder" "B"]
def tab : Cond := tabOf yN yB 1 (some .byte) site
def P (x : Addr) (cd z : Int32) (args : Array Value) (s : State) : Prop := args = #[.ref x] ∧ Has x "java/lang/String" "coder" "B" (.int cd) s ∧ (cd = 0 ∨ cd = 1) ∧ StaticIs s "java/lang/String" "COMPACT_STRINGS" "Z" (.int z) ∧ ¬ z = 0
def E (cd : Int32) (r : Option Value) (s u : State) : Prop := XT.PureE (some (.int cd)) r s u
theorem law (l : Launch) (x : Addr) (cd z : Int32) : Law l yN 1 0 0 0 yB 1 (some .byte) site (P x cd z) (E cd) [] 0 0 := by
  refine Law.of_walk (plainFor_of_name (by decide +kernel)) (by decide +kernel) (by decide +kernel) (by decide) (fun _ _ h => by rw [h.1]; rfl) (fun _ U U' hal hh h => ⟨h.1, h.2.1.mv hal hh, h.2.2.1, h.2.2.2.1.there hal hh, h.2.2.2.2⟩) (fun r U U' V V' h1 hal h2 h => XT.PureE.mv r U U' V V' h1 hal h2 h) ?_
  intro p e s m args below meth c s₁ X0 hexec hbytes hml hret hlk hnm hown hh0 W hP
  obtain ⟨rfl, hx, hc, s1, hz⟩ := hP
  have c1 : Steps p.tables e below (s₁.setTop (entryFrame m #[.ref x] 1)) (s₁.setTop (mkF m 0 #[.val (.ref x)] [])) := entry rfl
  obtain ⟨T2, X2, q2, st2⟩ := X0.sget hexec hown (wk W (.fieldLink "java/lang/String" 38 "java/lang/String" "COMPACT_STRINGS" "Z")) s1 (fun _ _ h => by rw [hh0]; exact h) (g := (mkF m 0 #[.val (.ref x)] [])) rfl (hb hbytes d0)
  have hh2 := q2.trans hh0
  have c3 : Steps p.tables e below (s₁.setTop (entryFrame m #[.ref x] 1)) (T2.setTop (mkF m 7 #[.val (.ref x)] [.ref x])) := (c1.trans (st2 _ (Steps.refl _))).trans (by
    refine XS.ifNo X2.here hexec rfl (hb hbytes d3) rfl (i0_eq_f hz) ?_
    refine XS.aloadN X2.here hexec rfl (hb hbytes d6) rfl rfl ?_
    exact Steps.refl _)
  obtain ⟨T4, X4, q4, st4⟩ := X2.hget hexec hown (wk W (.fieldLink "java/lang/String" 15 "java/lang/String" "coder" "B")) (hx.mv X2.warmed.alike hh2) (g := (mkF m 7 #[.val (.ref x)] [.ref x])) rfl (rest := []) rfl (hb hbytes d7)
  have c5 : Steps p.tables e below (s₁.setTop (entryFrame m #[.ref x] 1)) (T4.setTop (mkF m 14 #[.val (.ref x)] [.int cd])) := (c3.trans (st4 _ (Steps.refl _))).trans (by
    refine XS.goto X4.here hexec rfl (pc0 := 10) rfl (hb hbytes d10) (by decide) rfl ?_
    exact Steps.refl _)
  exact ⟨T4, some (.int cd), _, _, _, X4, rfl, rfl, rfl, (fun h => by cases h), ⟨rfl, q4.trans hh2⟩, fun fs hl => c5.trans (X4.ireturnOut hexec hret (by rcases hc with rfl | rfl <;> rfl) (Or.inr (Or.inr (Or.inl rfl))) (hb hbytes d14) hl)⟩
end Cdr
namespace Len
def yN : MethodName := ⟨"java/lang/String", "length", "()I"⟩
abbrev yB : ByteArray := jdk_42_method_54_code
theorem d0 : decode yB 0 = .ok (.aload_n 0, 1) := by decide +kernel
theorem d1 : decode yB 1 = .ok (.getfield 9, 3) := by decide +kernel
theorem d4 : decode yB 4 = .ok (.arraylength, 1) := by decide +kernel
theorem d5 : decode yB 5 = .ok (.aload_n 0, 1) := by decide +kernel
theorem d6 : decode yB 6 = .ok (.invokevirtual 335, 3) := by decide +kernel
theorem d9 : decode yB 9 = .ok (.ishr, 1) := by decide +kernel
theorem d10 : decode yB 10 = .ok (.ireturn, 1) := by decide +kernel
def site : List Cond := [.fieldLink "java/lang/String" 9 "java/lang/String" "value" "[B", Cdr.tab] ++ virtW "java/lang/String" 335 "java/lang/String" Cdr.yN Cdr.yN
def tab : Cond := tabOf yN yB 1 (some .int) site
def P (x t : Addr) (V : Cell) (cd : Int32) (n : Nat) (f : Nat → Int32) (z : Int32) (args : Array Value) (s : State) : Prop := args = #[.ref x] ∧ Txt x t V cd n f s ∧ StaticIs s "java/lang/String" "COMPACT_STRINGS" "Z" (.int z) ∧ ¬ z = 0
def E (n : Nat) (r : Option Value) (s u : State) : Prop := XT.PureE (some (.int (Int32.ofNat n))) r s u
/-- length() of a String of n chars, in either coding -/
theorem law (l : Launch) (x t : Addr) (V : Cell) (cd : Int32) (n : Nat) (f : Nat → Int32) (z : Int32) : Law l yN 1 0 1 13 yB 1 (some .int) site (P x t V cd n f z) (E n) [] 0 0 := by
  refine Law.of_walk (plainFor_of_name (by decide +kernel)) (by decide +kernel) (by decide +kernel) (by decide) (fun _ _ h => by rw [h.1]; rfl) (fun _ U U' hal hh h => ⟨h.1, h.2.1.mv hal hh, h.2.2.1.there hal hh, h.2.2.2⟩) (fun r U U' V V' h1 hal h2 h => XT.PureE.mv r U U' V V' h1 hal h2 h) ?_
  intro p e s m args below meth c s₁ X0 hexec hbytes hml hret hlk hnm hown hh0 W hP
  obtain ⟨rfl, hx, s1, hz⟩ := hP
  have v31 := hx.2.2.2.1.2.2.2
  have c1 : Steps p.tables e below (s₁.setTop (entryFrame m #[.ref x] 1)) (s₁.setTop (mkF m 1 #[.val (.ref x)] [.ref x])) := Steps.trans (entry rfl) (by
    show Steps p.tables e below (s₁.setTop (mkF m 0 #[.val (.ref x)] [])) _
    refine XS.aloadN X0.here hexec rfl (hb hbytes d0) rfl rfl ?_
    exact Steps.refl _)
  obtain ⟨T2, X2, q2, st2⟩ := X0.hget hexec hown (wk W (.fieldLink "java/lang/String" 9 "java/lang/String" "value" "[B")) (hx.mv X0.warmed.alike hh0).2.1 (g := (mkF m 1 #[.val (.ref x)] [.ref x])) rfl (rest := []) rfl (hb hbytes d1)
  have hh2 := q2.trans hh0
  have hx2 := hx.mv X2.warmed.alike hh2
  have c3 : Steps p.tables e below (s₁.setTop (entryFrame m #[.ref x] 1)) (T2.setTop (mkF m 6 #[.val (.ref x)] [.ref x, .int (Int32.ofNat V.slots.size)])) := (c1.trans (st2 _ (Steps.refl _))).trans (by
    refine X2.alen hexec hx2.2.2.2.1 rfl rfl (hb hbytes d4) ?_
    refine XS.aloadN X2.here hexec rfl (hb hbytes d5) rfl rfl ?_
    exact Steps.refl _)
  obtain ⟨v4, T4, X4, E4, g4⟩ := X2.callV hexec (Cdr.law l x cd z) hown (wks W (virtW "java/lang/String" 335 "java/lang/String" Cdr.yN Cdr.yN)) rfl (by decide) (wk W Cdr.tab) (W := 1) (Nat.le_of_ble_eq_true rfl) (Nat.le_of_ble_eq_true rfl) (Nat.le_refl _) (Nat.le_refl _) (hx2.1.fc X2.warmed.alike) hx2.1.is (g := (mkF m 6 #[.val (.ref x)] [.ref x, .int (Int32.ofNat V.slots.size)])) rfl (by rw [hml]; rfl) c3 (argsL := []) (rest := [.int (Int32.ofNat V.slots.size)]) rfl rfl (by show 2 * 0 + (1 + 0) ≤ _; decide) (hb hbytes d6) (⟨rfl, hx2.2.2.1, hx.2.2.2.2.1.cd, s1.there X2.warmed.alike hh2, hz⟩)
  obtain ⟨rfl, q4⟩ := E4
  have c5 : Steps p.tables e below (s₁.setTop (entryFrame m #[.ref x] 1)) (T4.setTop (mkF m 10 #[.val (.ref x)] [.int (Int32.ofNat V.slots.size >>> (cd &&& 31))])) := Steps.trans g4 (by
    refine ishr X4.here hexec rfl (hb hbytes d9) rfl ?_
    exact Steps.refl _)
  rw [hx.2.2.2.2.1.len v31] at c5
  exact ⟨T4, some (.int (Int32.ofNat n)), _, _, _, X4, rfl, rfl, rfl, (fun h => by cases h), ⟨rfl, q4.trans hh2⟩, fun fs hl => c5.trans (X4.ireturnOut hexec hret rfl (Or.inl rfl) (hb hbytes d10) hl)⟩
theorem pays {l : Launch} {R : Room} {p : Program} {e : Env} {below : List Frame} {s : State} {sargs : Array Value} {len W : Nat} (x t : Addr) (V : Cell) (cd : Int32) (n : Nat) (f : Nat → Int32) (z : Int32) (htab : tab.before sargs s = true) (hfr : 2 ≤ R.frames) (hlo : W + 25 ≤ R.locals) :
    Back l R p e below s sargs yN len W (fun A₁ a₁ => A₁.cells + 0 ≤ R.cells ∧ A₁.slots + 0 ≤ R.slots ∧ P x t V cd n f z a₁ A₁.U) (fun A₁ _ v₁ B₁ => E n v₁ A₁.U B₁.U ∧ B₁.locs = A₁.locs ++ [] ∧ B₁.cells = A₁.cells + 0 ∧ B₁.slots = A₁.slots + 0) :=
  (law l x t V cd n f z).pays htab hfr (by omega)
end Len
namespace IsL
def yN : MethodName := ⟨"java/lang/String", "isLatin1", "()Z"⟩
abbrev yB : ByteArray := jdk_42_method_154_code
theorem d0 : decode yB 0 = .ok (.getstatic 38, 3) := by decide +kernel
theorem d3 : decode yB 3 = .ok (.ifCond (.eq) 14, 3) := by decide +kernel
theorem d6 : decode yB 6 = .ok (.aload_n 0, 1) := by decide +kernel
theorem d7 : decode yB 7 = .ok (.getfield 15, 3) := by decide +kernel
theorem d10 : decode yB 10 = .ok (.ifCond (.ne) 7, 3) := by decide +kernel
theorem d13 : decode yB 13 = .ok (.iconst 1, 1) := by decide +kernel
theorem d14 : decode yB 14 = .ok (.goto 4, 3) := by decide +kernel
theorem d17 : decode yB 17 = .ok (.iconst 0, 1) := by decide +kernel
theorem d18 : decode yB 18 = .ok (.ireturn, 1) := by decide +kernel
def site : List Cond := [.fieldLink "java/lang/String" 38 "java/lang/String" "COMPACT_STRINGS" "Z", .fieldLink "java/lang/String" 15 "java/lang/String" "coder" "B"]
def tab : Cond := tabOf yN yB 1 (some .boolean) site
def P (x : Addr) (cd z : Int32) (args : Array Value) (s : State) : Prop := args = #[.ref x] ∧ Has x "java/lang/String" "coder" "B" (.int cd) s ∧ (cd = 0 ∨ cd = 1) ∧ StaticIs s "java/lang/String" "COMPACT_STRINGS" "Z" (.int z) ∧ ¬ z = 0
def E (cd : Int32) (r : Option Value) (s u : State) : Prop := XT.PureE (some (.int (1 - cd))) r s u
theorem law (l : Launch) (x : Addr) (cd z : Int32) : Law l yN 1 0 0 0 yB 1 (some .boolean) site (P x cd z) (E cd) [] 0 0 := by
  refine Law.of_walk (plainFor_of_name (by decide +kernel)) (by decide +kernel) (by decide +kernel) (by decide) (fun _ _ h => by rw [h.1]; rfl) (fun _ U U' hal hh h => ⟨h.1, h.2.1.mv hal hh, h.2.2.1, h.2.2.2.1.there hal hh, h.2.2.2.2⟩) (fun r U U' V V' h1 hal h2 h => XT.PureE.mv r U U' V V' h1 hal h2 h) ?_
  intro p e s m args below meth c s₁ X0 hexec hbytes hml hret hlk hnm hown hh0 W hP
  obtain ⟨rfl, hx, hc, s1, hz⟩ := hP
  have c1 : Steps p.tables e below (s₁.setTop (entryFrame m #[.ref x] 1)) (s₁.setTop (mkF m 0 #[.val (.ref x)] [])) := entry rfl
  obtain ⟨T2, X2, q2, st2⟩ := X0.sget hexec hown (wk W (.fieldLink "java/lang/String" 38 "java/lang/String" "COMPACT_STRINGS" "Z")) s1 (fun _ _ h => by rw [hh0]; exact h) (g := (mkF m 0 #[.val (.ref x)] [])) rfl (hb hbytes d0)
  have hh2 := q2.trans hh0
  have c3 : Steps p.tables e below (s₁.setTop (entryFrame m #[.ref x] 1)) (T2.setTop (mkF m 7 #[.val (.ref x)] [.ref x])) := (c1.trans (st2 _ (Steps.refl _))).trans (by
    refine XS.ifNo X2.here hexec rfl (hb hbytes d3) rfl (i0_eq_f hz) ?_
    refine XS.aloadN X2.here hexec rfl (hb hbytes d6) rfl rfl ?_
    exact Steps.refl _)
  obtain ⟨T4, X4, q4, st4⟩ := X2.hget hexec hown (wk W (.fieldLink "java/lang/String" 15 "java/lang/String" "coder" "B")) (hx.mv X2.warmed.alike hh2) (g := (mkF m 7 #[.val (.ref x)] [.ref x])) rfl (rest := []) rfl (hb hbytes d7)
  have c5 : Steps p.tables e below (s₁.setTop (entryFrame m #[.ref x] 1)) (T4.setTop (mkF m 10 #[.val (.ref x)] [.int cd])) := c3.trans (st4 _ (Steps.refl _))
  have c6 : Steps p.tables e below (s₁.setTop (entryFrame m #[.ref x] 1)) (T4.setTop (mkF m 18 #[.val (.ref x)] [.int (1 - cd)])) := by
    rcases hc with rfl | rfl
    · exact c5.trans (by
        refine XS.ifNo X4.here hexec rfl (hb hbytes d10) rfl (i0_ne_f rfl) ?_
        refine iconstV X4.here hexec rfl 1 (hb hbytes d13) (by decide) ?_
        refine XS.goto X4.here hexec rfl (pc0 := 14) rfl (hb hbytes d14) (by decide) rfl ?_
        exact Steps.refl _)
    · exact c5.trans (by
        refine XS.ifYes X4.here hexec rfl (pc0 := 10) rfl (hb hbytes d10) rfl (i0_ne_t (by decide)) (by decide) rfl ?_
        refine iconstV X4.here hexec rfl 0 (hb hbytes d17) (by decide) ?_
        exact Steps.refl _)
  exact ⟨T4, some (.int (1 - cd)), _, _, _, X4, rfl, rfl, rfl, (fun h => by cases h), ⟨rfl, q4.trans hh2⟩, fun fs hl => c6.trans (X4.ireturnOut hexec hret (by rcases hc with rfl | rfl <;> rfl) (Or.inr (Or.inl rfl)) (hb hbytes d18) hl)⟩
end IsL
namespace LChA
def yN : MethodName := ⟨"java/lang/StringLatin1", "charAt", "([BI)C"⟩
abbrev yB : ByteArray := jdk_43_method_2_code
theorem d0 : decode yB 0 = .ok (.iload_n 1, 1) := by decide +kernel
theorem d1 : decode yB 1 = .ok (.aload_n 0, 1) := by decide +kernel
theorem d2 : decode yB 2 = .ok (.arraylength, 1) := by decide +kernel
theorem d3 : decode yB 3 = .ok (.invokestatic 9, 3) := by decide +kernel
theorem d6 : decode yB 6 = .ok (.aload_n 0, 1) := by decide +kernel
theorem d7 : decode yB 7 = .ok (.iload_n 1, 1) := by decide +kernel
theorem d8 : decode yB 8 = .ok (.baload, 1) := by decide +kernel
theorem d9 : decode yB 9 = .ok (.sipush 255, 3) := by decide +kernel
theorem d12 : decode yB 12 = .ok (.iand, 1) := by decide +kernel
theorem d13 : decode yB 13 = .ok (.i2c, 1) := by decide +kernel
theorem d14 : decode yB 14 = .ok (.ireturn, 1) := by decide +kernel
def site : List Cond := [JO.Str_checkIndex.tab] ++ staticW "java/lang/StringLatin1" 9 JO.Str_checkIndex.yN
def tab : Cond := tabOf yN yB 2 (some .char) site
def P (t : Addr) (V : Cell) (i : Nat) (u : Int32) (fm : Value) (args : Array Value) (s : State) : Prop := args = #[.ref t, .int (Int32.ofNat i)] ∧ XT.Arr .byte t V s ∧ V.slots[i]? = some (.int u) ∧ (StaticIs s "jdk/internal/util/Preconditions" "SIOOBE_FORMATTER" "Ljava/util/function/BiFunction;" fm ∧ fm.isRef = true)
def E (u : Int32) (r : Option Value) (s w : State) : Prop := XT.PureE (some (.int (chr8 u))) r s w
theorem law (l : Launch) (t : Addr) (V : Cell) (i : Nat) (u : Int32) (fm : Value) : Law l yN 2 2 2 27 yB 2 (some .char) site (P t V i u fm) (E u) [] 0 0 := by
  refine Law.of_walk (plainFor_of_name (by decide +kernel)) (by decide +kernel) (by decide +kernel) (by decide) (fun _ _ h => by rw [h.1]; rfl) (fun _ U U' hal hh h => ⟨h.1, h.2.1.mv hal hh, h.2.2.1, h.2.2.2.1.there hal hh, h.2.2.2.2⟩) (fun r U U' V V' h1 hal h2 h => XT.PureE.mv r U U' V V' h1 hal h2 h) ?_
  intro p e s m args below meth c s₁ X0 hexec hbytes hml hret hlk hnm hown hh0 W hP
  obtain ⟨rfl, hV, hu, s1, rf⟩ := hP
  have v31 := hV.2.2.2
  have hi : i < V.slots.size := (Array.getElem?_eq_some_iff.mp hu).1
  have c1 : Steps p.tables e below (s₁.setTop (entryFrame m #[.ref t, .int (Int32.ofNat i)] 2)) (s₁.setTop (mkF m 0 #[.val (.ref t), .val (.int (Int32.ofNat i))] [])) := entry rfl
  have c2 : Steps p.tables e below (s₁.setTop (entryFrame m #[.ref t, .int (Int32.ofNat i)] 2)) (s₁.setTop (mkF m 3 #[.val (.ref t), .val (.int (Int32.ofNat i))] [.int (Int32.ofNat V.slots.size), .int (Int32.ofNat i)])) := c1.trans (by
    refine XS.iloadN X0.here hexec rfl (hb hbytes d0) rfl ?_
    refine XS.aloadN X0.here hexec rfl (hb hbytes d1) rfl rfl ?_
    refine X0.alen hexec (hV.mv X0.warmed.alike hh0) rfl rfl (hb hbytes d2) ?_
    exact Steps.refl _)
  obtain ⟨v3, T3, X3, E3, g3⟩ := X0.callS hexec (JO.Str_checkIndex.law l (Int32.ofNat i) (Int32.ofNat V.slots.size) fm) hown (wks W (staticW "java/lang/StringLatin1" 9 JO.Str_checkIndex.yN)) (wk W JO.Str_checkIndex.tab) (W := 0) (Nat.le_of_ble_eq_true rfl) (Nat.le_of_ble_eq_true rfl) (Nat.le_refl _) (Nat.le_refl _) (g := (mkF m 3 #[.val (.ref t), .val (.int (Int32.ofNat i))] [.int (Int32.ofNat V.slots.size), .int (Int32.ofNat i)])) rfl (by rw [hml]; rfl) c2 (argsL := [.int (Int32.ofNat i), .int (Int32.ofNat V.slots.size)]) (rest := []) rfl rfl (by show 2 * 0 + 0 ≤ _; decide) (hb hbytes d3) (⟨rfl, rf, s1.there X0.warmed.alike hh0, Int32.ofNat_not_neg (by omega), lt32 v31 hi⟩)
  obtain ⟨rfl, q3⟩ := E3
  have hh3 := q3.trans hh0
  have c4 : Steps p.tables e below (s₁.setTop (entryFrame m #[.ref t, .int (Int32.ofNat i)] 2)) (T3.setTop (mkF m 14 #[.val (.ref t), .val (.int (Int32.ofNat i))] [.int (chr8 u)])) := Steps.trans g3 (by
    refine XS.aloadN X3.here hexec rfl (hb hbytes d6) rfl rfl ?_
    refine XS.iloadN X3.here hexec rfl (hb hbytes d7) rfl ?_
    refine X3.aget hexec (hV.mv X3.warmed.alike hh3) rfl hu rfl rfl (hb hbytes d8) ?_
    refine sipushV X3.here hexec rfl 255 (hb hbytes d9) (by decide) ?_
    refine XS.iand X3.here hexec rfl (hb hbytes d12) rfl ?_
    refine i2c X3.here hexec rfl (hb hbytes d13) rfl ?_
    exact Steps.refl _)
  exact ⟨T3, some (.int (chr8 u)), _, _, _, X3, rfl, rfl, rfl, (fun h => by cases h), ⟨rfl, hh3⟩, fun fs hl => c4.trans (X3.ireturnOut hexec hret (narrow_c _) (Or.inr (Or.inr (Or.inr (Or.inl rfl)))) (hb hbytes d14) hl)⟩
end LChA
end StrChars
namespace StrChars.Road
open Jvm Sem ClassFile Op Lib Jvm.Stand Jvm.Free Jvm.Free.XT
open Jvm.Lib.Cold (StaticIs)
theorem consq {a : Array Value} {s : State} {c : Jvm.Cond} {L : List Jvm.Cond} (h0 : c.before a s = true) (h : ∀ w ∈ L, w.before a s = true) : ∀ w ∈ c :: L, w.before a s = true := fun w hw => (List.mem_cons.mp hw).elim (fun e => e ▸ h0) (h w)
/-- the words of String.length(), either coding -/
abbrev wordsLen : List Jvm.Cond := [.code Len.yN Len.yB 1 (some .int), .initialized ST, .fieldLink ST 9 ST "value" "[B", .fieldLink ST 38 ST "COMPACT_STRINGS" "Z", .fieldLink ST 15 ST "coder" "B", .code Cdr.yN Cdr.yB 1 (some .byte), .methodLink ST 335 Cdr.yN, .declares Cdr.yN, .selects ST Cdr.yN Cdr.yN, .instanceMethod Cdr.yN]
theorem tabLen_of {a : Array Value} {s : State} (h : ∀ w ∈ wordsLen, w.before a s = true) : Len.tab.before a s = true := by
  have hc : Cdr.tab.before a s = true := unparts (wk h (.code Cdr.yN Cdr.yB 1 (some .byte))) (wks h (.initialized Cdr.yN.cls :: Cdr.site))
  have q := consq hc h
  exact unparts (wk q (.code Len.yN Len.yB 1 (some .int))) (wks q (.initialized Len.yN.cls :: Len.site))
theorem movedLen {Z s : State} {a0 args : Array Value} (hZ : Z.Warmed39 s.vm) (hw : ∀ d ∈ wordsLen, d.before a0 Z = true) : ∀ d ∈ wordsLen, d.before args s = true := fun d hd => by
  have q := hw d hd
  have t : ∀ d ∈ wordsLen, d = .arrayClass .byte ∨ (d.onTables && d.keepsFace) = true := by decide +kernel
  rcases t d hd with rfl | t
  · exact RoadKit.mvA hZ q
  · exact RoadKit.mv hZ q t
/-- the bytes of the chars cs, low before high -/
def wideBytes : List Int32 → List Value
  | [] => []
  | c :: cs => .int (lo8 c) :: .int (hi8 c) :: wideBytes cs
theorem wide_lo (d : Value) : ∀ (cs : List Int32) (j : Nat), j < cs.length → (wideBytes cs).getD (2 * j) d = .int (lo8 (cs.getD j 0))
  | [], j, h => absurd h (Nat.not_lt_zero j)
  | c :: cs, 0, _ => rfl
  | c :: cs, j + 1, h => by
    have q := wide_lo d cs j (by simpa using h)
    rw [show 2 * (j + 1) = 2 * j + 1 + 1 from by omega]
    simpa [wideBytes] using q
theorem wide_hi (d : Value) : ∀ (cs : List Int32) (j : Nat), j < cs.length → (wideBytes cs).getD (2 * j + 1) d = .int (hi8 (cs.getD j 0))
  | [], j, h => absurd h (Nat.not_lt_zero j)
  | c :: cs, 0, _ => rfl
  | c :: cs, j + 1, h => by
    have q := wide_hi d cs j (by simpa using h)
    rw [show 2 * (j + 1) + 1 = 2 * j + 1 + 1 + 1 from by omega]
    simpa [wideBytes] using q
theorem low_at (d : Value) (cs : List Int32) (j : Nat) (h : j < cs.length) : (cs.map fun c => Value.int (lo8 c)).getD j d = .int (lo8 (cs.getD j 0)) := by
  simp [List.getD_eq_getElem?_getD, h]
/-- an array of N2 bytes vs codes the chars cs by the coder cd -/
def CodA (cs : List Int32) (cd N2 : Int32) (vs : List Value) : Prop := (cd = 0 ∧ N2 = Int32.ofNat cs.length ∧ vs = (cs.map fun c => Value.int (lo8 c)) ∧ ∀ c ∈ cs, ¬ 255 < c) ∨ (cd = 1 ∧ N2 = Int32.ofNat (2 * cs.length) ∧ vs = wideBytes cs ∧ ∃ c ∈ cs, 255 < c)
theorem CodA.cod {cs : List Int32} {cd N2 : Int32} {vs : List Value} {V : Cell} (h : CodA cs cd N2 vs) (hn : 2 * cs.length < 2 ^ 31) (hs : V.slots.size = N2.toNatClampNeg) (hv : RoadKit.Has V vs (.int 0)) : Cod cd cs.length (fun j => cs.getD j 0) V := by
  rcases h with ⟨rfl, rfl, rfl, h⟩ | ⟨rfl, rfl, rfl, c, hc, hw⟩
  · rw [n32 (by omega)] at hs
    exact Or.inl ⟨rfl, hs, fun j hj => ⟨by rw [hv j (by omega), low_at _ _ _ hj], by
      have e : cs.getD j 0 = cs[j] := by simp [List.getD_eq_getElem?_getD, hj]
      show ¬ 255 < cs.getD j 0
      rw [e]; exact h _ (List.getElem_mem _)⟩⟩
  · rw [n32 (by omega)] at hs
    obtain ⟨j, hj, rfl⟩ := List.getElem_of_mem hc
    exact Or.inr ⟨rfl, hs, fun j hj => ⟨by rw [hv _ (by omega), wide_lo _ _ _ hj], by rw [hv _ (by omega), wide_hi _ _ _ hj]⟩, j, hj, by
      have e : cs.getD j 0 = cs[j] := by simp [List.getD_eq_getElem?_getD, hj]
      show 255 < cs.getD j 0
      rw [e]; exact hw⟩
/-- an object of exactly java/lang/String, its two fields found: as the laws ask it -/
theorem strObj {Z U : State} {a0 : Array Value} {kI : Nat} (wi : (Jvm.Cond.instantiable ST kI).before a0 Z = true) (al : Z.vm.Alike U.vm) {x : Addr} {v0 c0 : Value} (E : RoadKit.Exa Z U.heap x ST) (V : RoadKit.Fld Z U.heap x ST "value" "[B" v0) (C : RoadKit.Fld Z U.heap x ST "coder" "B" c0) :
    ∃ (D : Cell) (fV fC : Field), Blank ST x D U ∧ Found ST "value" "[B" fV U ∧ Found ST "coder" "B" fC U ∧ D.slots[fV.slot]? = some v0 ∧ D.slots[fC.slot]? = some c0 ∧ RoadKit.slotOf Z ST "value" "[B" = fV.slot ∧ RoadKit.slotOf Z ST "coder" "B" = fC.slot := by
  obtain ⟨D, cfV, kV, iV, fV, hD, gV, stV, knV, obV, asV, slV⟩ := V
  obtain ⟨D', cfC, kC, iC, fC, hD', gC, stC, -, -, asC, slC⟩ := C
  cases hD.symm.trans hD'
  obtain ⟨D2, kD, e1, e2, e3, e4, e5⟩ := E
  cases hD.symm.trans e1
  obtain ⟨c2, k2, i1, i2, i3, -⟩ := Cond.instantiable_spec wi
  cases e2.symm.trans i1
  cases e3.symm.trans i2
  obtain ⟨kU, u1, u2⟩ := al.2.2 _ _ e3
  exact ⟨D, fV, fC, ⟨hD, ⟨knV, fun q hq => by rw [hq] at obV; cases obV⟩, by rw [al.findClass]; exact e2, kU, u1, by rw [u2]; exact i3, by rw [u2]; exact e5 i3⟩, ⟨SBG.found_only al ⟨cfV, kV, iV, gV⟩, stV⟩, ⟨SBG.found_only al ⟨cfC, kC, iC, gC⟩, stC⟩, slV, slC, by simp [RoadKit.slotOf, gV], by simp [RoadKit.slotOf, gC]⟩
theorem sta_is {Z U : State} (al : Z.vm.Alike U.vm) {C n d : String} {v : Value} (S : RoadKit.Sta Z U.heap C n d v) : StaticIs U C n d v := by
  obtain ⟨cfS, iS, kS, fS, st, cS, t1, t2, t3, t4, t5, t6, t7⟩ := S
  exact StaticIs.there (s := { Z with heap := U.heap }) ⟨cfS, iS, kS, fS, st, cS, t1, t2, t3, t4, t5, (fun q => by rw [q] at t6; cases t6), t7⟩ al rfl
/-- **length() OF SUCH A STRING** -/
theorem lenW {p : Program} {l : Launch} {e : Env} {R : Room} {s : State} {args : Array Value} {below : List Frame} {len W : Nat} {Z : State} {a0 : Array Value} {h : Heap} (hZ : Z.Warmed39 s.vm) (hw : ∀ d ∈ wordsLen, d.before a0 Z = true) {kI : Nat} (wi : (Jvm.Cond.instantiable ST kI).before a0 Z = true)
    {x t : Addr} {kb : ClassId} {cs : List Int32} {cd N2 z : Int32} {vs : List Value} (E : RoadKit.Exa Z h x ST) (V : RoadKit.Fld Z h x ST "value" "[B" (.ref t)) (C : RoadKit.Fld Z h x ST "coder" "B" (.int cd)) (K : RoadKit.Arv Z h t kb .byte N2 vs (.int 0)) (hc : CodA cs cd N2 vs) (hb : ∀ c ∈ cs, ¬ c < 0 ∧ ¬ (65535 : Int32) < c)
    (S : RoadKit.Sta Z h ST "COMPACT_STRINGS" "Z" (.int z)) (hz : ¬ z = 0) (l2 : cs.length ≤ 4000) (hfr : 2 ≤ R.frames) (hlo : W + 25 ≤ R.locals) :
    Back l R p e below s args (⟨"java/lang/String", "length", "()I"⟩ : MethodName) len W (fun P a => a = #[.ref x] ∧ P.U.heap = h ∧ P.cells + 0 ≤ R.cells ∧ P.slots + 0 ≤ R.slots)
      (fun P _ v B => ∃ L, (v = some (.int (Int32.ofNat cs.length)) ∧ L = [] ∧ B.U.heap = h) ∧ B.locs = P.locs ++ L ∧ B.cells = P.cells + 0 ∧ B.slots = P.slots + 0) := by
  obtain ⟨A, K1, K2, K3, K4, K5, K6⟩ := K
  have hcod := hc.cod (by omega) K3 K5
  intro m meth c P g ig mk a X hg hsize hdg hW hn hp'
  obtain ⟨rfl, rfl, r1, r2⟩ := hp'
  have al : Z.vm.Alike P.U.vm := hZ.alike.trans X.warmed.alike
  obtain ⟨D, fV, fC, hB, F1, F2, g1, g2, -, -⟩ := strObj wi al E V C
  have hx : Txt x t A cd cs.length (fun j => cs.getD j 0) P.U := ⟨⟨_, hB.2.2.1, D, hB.1, rfl, by cases q : D.vm <;> first | rfl | exact absurd q (hB.2.1.2 _)⟩, Has.of hB F1 g1, Has.of hB F2 g2, ⟨K1.1, State.isArrayOf_alike al K1.2.1, K1.2.2, by rcases hcod with ⟨-, q, -⟩ | ⟨-, q, -⟩ <;> omega⟩, hcod, fun j hj => by
    have e : cs.getD j 0 = cs[j] := by simp [List.getD_eq_getElem?_getD, hj]
    show ¬ cs.getD j 0 < 0 ∧ ¬ 65535 < cs.getD j 0
    rw [e]; exact hb _ (List.getElem_mem _)⟩
  obtain ⟨v, B, X', ⟨⟨hv, hh⟩, hl, hk, hs⟩, st⟩ := Len.pays x t A cd cs.length (fun j => cs.getD j 0) z (tabLen_of (movedLen hZ hw)) hfr hlo m meth c P g ig mk _ X hg hsize hdg hW hn ⟨r1, r2, rfl, hx, sta_is al S, hz⟩
  exact ⟨v, B, X', ⟨[], ⟨hv, rfl, hh⟩, hl, hk, hs⟩, st⟩
end StrChars.Road
namespace StrChars.Road
open Jvm Sem ClassFile Op Lib Jvm.Stand Jvm.Free Jvm.Free.XT
open Jvm.Lib.Cold (StaticIs)
/-- the road's facts of a String, as the laws ask it -/
theorem txt_of {Z U : State} {a0 : Array Value} {kI : Nat} (wi : (Jvm.Cond.instantiable ST kI).before a0 Z = true) (al : Z.vm.Alike U.vm) {x t : Addr} {kb : ClassId} {cs : List Int32} {cd N2 : Int32} {vs : List Value} (E : RoadKit.Exa Z U.heap x ST) (V : RoadKit.Fld Z U.heap x ST "value" "[B" (.ref t)) (C : RoadKit.Fld Z U.heap x ST "coder" "B" (.int cd)) (K : RoadKit.Arv Z U.heap t kb .byte N2 vs (.int 0)) (hc : CodA cs cd N2 vs) (hb : ∀ c ∈ cs, ¬ c < 0 ∧ ¬ (65535 : Int32) < c) (l2 : cs.length ≤ 4000) :
    ∃ A, Txt x t A cd cs.length (fun j => cs.getD j 0) U := by
  obtain ⟨A, K1, K2, K3, K4, K5, K6⟩ := K
  have hcod := hc.cod (by omega) K3 K5
  obtain ⟨D, fV, fC, hB, F1, F2, g1, g2, -, -⟩ := strObj wi al E V C
  exact ⟨A, ⟨_, hB.2.2.1, D, hB.1, rfl, by cases q : D.vm <;> first | rfl | exact absurd q (hB.2.1.2 _)⟩, Has.of hB F1 g1, Has.of hB F2 g2, ⟨K1.1, State.isArrayOf_alike al K1.2.1, K1.2.2, by rcases hcod with ⟨-, q, -⟩ | ⟨-, q, -⟩ <;> omega⟩, hcod, fun j hj => by
    have e : cs.getD j 0 = cs[j] := by simp [List.getD_eq_getElem?_getD, hj]
    show ¬ cs.getD j 0 < 0 ∧ ¬ 65535 < cs.getD j 0
    rw [e]; exact hb _ (List.getElem_mem _)⟩
end StrChars.Road
namespace StrChars
open Jvm Sem ClassFile Op Lib Jvm.Stand Jvm.Free.XT Jvm.Free.ALB Jvm.Free.JM Jvm.Free
open Jvm.Lib.Cold (StaticIs)
namespace ChN
def yN : MethodName := ⟨"java/lang/String", "charAt", "(I)C"⟩
abbrev yB : ByteArray := jdk_42_method_56_code
theorem d0 : decode yB 0 = .ok (.aload_n 0, 1) := by decide +kernel
theorem d1 : decode yB 1 = .ok (.invokevirtual 492, 3) := by decide +kernel
theorem d4 : decode yB 4 = .ok (.ifCond (.eq) 12, 3) := by decide +kernel
theorem d7 : decode yB 7 = .ok (.aload_n 0, 1) := by decide +kernel
theorem d8 : decode yB 8 = .ok (.getfield 9, 3) := by decide +kernel
theorem d11 : decode yB 11 = .ok (.iload_n 1, 1) := by decide +kernel
theorem d12 : decode yB 12 = .ok (.invokestatic 495, 3) := by decide +kernel
theorem d15 : decode yB 15 = .ok (.ireturn, 1) := by decide +kernel
def site : List Cond := [.fieldLink "java/lang/String" 9 "java/lang/String" "value" "[B", IsL.tab, LChA.tab] ++ virtW "java/lang/String" 492 "java/lang/String" IsL.yN IsL.yN ++ staticW "java/lang/String" 495 LChA.yN
def tab : Cond := tabOf yN yB 2 (some .char) site
def P (x t : Addr) (V : Cell) (n : Nat) (f : Nat → Int32) (z : Int32) (fm : Value) (i : Nat) (args : Array Value) (s : State) : Prop := args = #[.ref x, .int (Int32.ofNat i)] ∧ Txt x t V 0 n f s ∧ i < n ∧ StaticIs s "java/lang/String" "COMPACT_STRINGS" "Z" (.int z) ∧ ¬ z = 0 ∧ StaticIs s "jdk/internal/util/Preconditions" "SIOOBE_FORMATTER" "Ljava/util/function/BiFunction;" fm ∧ fm.isRef = true
def E (f : Nat → Int32) (i : Nat) (r : Option Value) (s u : State) : Prop := XT.PureE (some (.int (f i))) r s u
/-- charAt(i) of a Latin-1 String of n chars, i < n: f i -/
theorem law (l : Launch) (x t : Addr) (V : Cell) (n : Nat) (f : Nat → Int32) (z : Int32) (fm : Value) (i : Nat) : Law l yN 2 1 3 40 yB 2 (some .char) site (P x t V n f z fm i) (E f i) [] 0 0 := by
  refine Law.of_walk (plainFor_of_name (by decide +kernel)) (by decide +kernel) (by decide +kernel) (by decide) (fun _ _ h => by rw [h.1]; rfl) (fun _ U U' hal hh h => ⟨h.1, h.2.1.mv hal hh, h.2.2.1, h.2.2.2.1.there hal hh, h.2.2.2.2.1, h.2.2.2.2.2.1.there hal hh, h.2.2.2.2.2.2⟩) (fun r U U' V V' h1 hal h2 h => XT.PureE.mv r U U' V V' h1 hal h2 h) ?_
  intro p e s m args below meth c s₁ X0 hexec hbytes hml hret hlk hnm hown hh0 W hP
  obtain ⟨rfl, hx, hi, s1, hz, s3, rf⟩ := hP
  have v31 := hx.2.2.2.1.2.2.2
  have hr := hx.2.2.2.2.2 i hi
  have hx0 := hx.mv X0.warmed.alike hh0
  have c1 : Steps p.tables e below (s₁.setTop (entryFrame m #[.ref x, .int (Int32.ofNat i)] 2)) (s₁.setTop (mkF m 1 #[.val (.ref x), .val (.int (Int32.ofNat i))] [.ref x])) := Steps.trans (entry rfl) (by
    show Steps p.tables e below (s₁.setTop (mkF m 0 #[.val (.ref x), .val (.int (Int32.ofNat i))] [])) _
    refine XS.aloadN X0.here hexec rfl (hb hbytes d0) rfl rfl ?_
    exact Steps.refl _)
  obtain ⟨v2, T2, X2, E2, g2⟩ := X0.callV hexec (IsL.law l x 0 z) hown (wks W (virtW "java/lang/String" 492 "java/lang/String" IsL.yN IsL.yN)) rfl (by decide) (wk W IsL.tab) (W := 0) (Nat.le_of_ble_eq_true rfl) (Nat.le_of_ble_eq_true rfl) (Nat.le_refl _) (Nat.le_refl _) (hx0.1.fc X0.warmed.alike) hx0.1.is (g := (mkF m 1 #[.val (.ref x), .val (.int (Int32.ofNat i))] [.ref x])) rfl (by rw [hml]; rfl) c1 (argsL := []) (rest := []) rfl rfl (by show 2 * 0 + 0 ≤ _; decide) (hb hbytes d1) (⟨rfl, hx0.2.2.1, hx.2.2.2.2.1.cd, s1.there X0.warmed.alike hh0, hz⟩)
  obtain ⟨rfl, q2⟩ := E2
  have hh2 := q2.trans hh0
  have hx2 := hx.mv X2.warmed.alike hh2
  obtain ⟨-, k1, k2⟩ | ⟨k0, -⟩ := hx.2.2.2.2.1
  · have c3 : Steps p.tables e below (s₁.setTop (entryFrame m #[.ref x, .int (Int32.ofNat i)] 2)) (T2.setTop (mkF m 8 #[.val (.ref x), .val (.int (Int32.ofNat i))] [.ref x])) := Steps.trans g2 (by
      refine XS.ifNo X2.here hexec rfl (hb hbytes d4) rfl (i0_eq_f (by decide)) ?_
      refine XS.aloadN X2.here hexec rfl (hb hbytes d7) rfl rfl ?_
      exact Steps.refl _)
    obtain ⟨T4, X4, q4, st4⟩ := X2.hget hexec hown (wk W (.fieldLink "java/lang/String" 9 "java/lang/String" "value" "[B")) hx2.2.1 (g := (mkF m 8 #[.val (.ref x), .val (.int (Int32.ofNat i))] [.ref x])) rfl (rest := []) rfl (hb hbytes d8)
    have hh4 := q4.trans hh2
    have c5 : Steps p.tables e below (s₁.setTop (entryFrame m #[.ref x, .int (Int32.ofNat i)] 2)) (T4.setTop (mkF m 12 #[.val (.ref x), .val (.int (Int32.ofNat i))] [.int (Int32.ofNat i), .ref t])) := (c3.trans (st4 _ (Steps.refl _))).trans (by
      refine XS.iloadN X4.here hexec rfl (hb hbytes d11) rfl ?_
      exact Steps.refl _)
    obtain ⟨v6, T6, X6, E6, g6⟩ := X4.callS hexec (LChA.law l t V i (lo8 (f i)) fm) hown (wks W (staticW "java/lang/String" 495 LChA.yN)) (wk W LChA.tab) (W := 0) (Nat.le_of_ble_eq_true rfl) (Nat.le_of_ble_eq_true rfl) (Nat.le_refl _) (Nat.le_refl _) (g := (mkF m 12 #[.val (.ref x), .val (.int (Int32.ofNat i))] [.int (Int32.ofNat i), .ref t])) rfl (by rw [hml]; rfl) c5 (argsL := [.ref t, .int (Int32.ofNat i)]) (rest := []) rfl rfl (by show 2 * 0 + 0 ≤ _; decide) (hb hbytes d12) (⟨rfl, hx.2.2.2.1.mv X4.warmed.alike hh4, (k2 i hi).1, s3.there X4.warmed.alike hh4, rf⟩)
    obtain ⟨rfl, q6⟩ := E6
    rw [chr8_lo8 hr.1 (k2 i hi).2] at g6
    exact ⟨T6, some (.int (f i)), _, _, _, X6, rfl, rfl, rfl, (fun h => by cases h), ⟨rfl, q6.trans hh4⟩, fun fs hl => Steps.trans g6 (X6.ireturnOut hexec hret (narrow_ch hr.1 hr.2) (Or.inr (Or.inr (Or.inr (Or.inl rfl)))) (hb hbytes d15) hl)⟩
  · exact absurd k0 (by decide)
theorem pays {l : Launch} {R : Room} {p : Program} {e : Env} {below : List Frame} {s : State} {sargs : Array Value} {len W : Nat} (x t : Addr) (V : Cell) (n : Nat) (f : Nat → Int32) (z : Int32) (fm : Value) (i : Nat) (htab : tab.before sargs s = true) (hfr : 4 ≤ R.frames) (hlo : W + 53 ≤ R.locals) :
    Back l R p e below s sargs yN len W (fun A₁ a₁ => A₁.cells + 0 ≤ R.cells ∧ A₁.slots + 0 ≤ R.slots ∧ P x t V n f z fm i a₁ A₁.U) (fun A₁ _ v₁ B₁ => E f i v₁ A₁.U B₁.U ∧ B₁.locs = A₁.locs ++ [] ∧ B₁.cells = A₁.cells + 0 ∧ B₁.slots = A₁.slots + 0) :=
  (law l x t V n f z fm i).pays htab hfr (by omega)
end ChN
end StrChars
namespace StrChars.Road
open Jvm Sem ClassFile Op Lib Jvm.Stand Jvm.Free Jvm.Free.XT
open Jvm.Lib.Cold (StaticIs)
/-- the words of String.charAt(int), the Latin-1 road alone -/
abbrev wordsChN : List Jvm.Cond := [.code ChN.yN ChN.yB 2 (some .char), .initialized ST, .fieldLink ST 9 ST "value" "[B", .fieldLink ST 38 ST "COMPACT_STRINGS" "Z", .fieldLink ST 15 ST "coder" "B", .code IsL.yN IsL.yB 1 (some .boolean), .methodLink ST 492 IsL.yN, .declares IsL.yN, .selects ST IsL.yN IsL.yN, .instanceMethod IsL.yN,
  .methodLink ST 495 LChA.yN, .static LChA.yN, .code LChA.yN LChA.yB 2 (some .char), .initialized "java/lang/StringLatin1", .methodLink "java/lang/StringLatin1" 9 JO.Str_checkIndex.yN, .static JO.Str_checkIndex.yN, .code JO.Str_checkIndex.yN JO.Str_checkIndex.yB 2 none,
  .fieldLink ST 1053 "jdk/internal/util/Preconditions" "SIOOBE_FORMATTER" "Ljava/util/function/BiFunction;", .methodLink ST 1059 JC.PreCheck.yN, .static JC.PreCheck.yN, .code JC.PreCheck.yN JC.PreCheck.yB 3 (some .int), .initialized "jdk/internal/util/Preconditions"]
theorem tabChN_of {a : Array Value} {s : State} (h : ∀ w ∈ wordsChN, w.before a s = true) : ChN.tab.before a s = true := by
  have hp : JC.PreCheck.tab.before a s = true := unparts (wk h (.code JC.PreCheck.yN JC.PreCheck.yB 3 (some .int))) (wks h (.initialized JC.PreCheck.yN.cls :: JC.PreCheck.site))
  have qk := consq hp h
  have hk : JO.Str_checkIndex.tab.before a s = true := unparts (wk qk (.code JO.Str_checkIndex.yN JO.Str_checkIndex.yB 2 none)) (wks qk (.initialized JO.Str_checkIndex.yN.cls :: JO.Str_checkIndex.site))
  have ql := consq hk h
  have hl : LChA.tab.before a s = true := unparts (wk ql (.code LChA.yN LChA.yB 2 (some .char))) (wks ql (.initialized LChA.yN.cls :: LChA.site))
  have hi : IsL.tab.before a s = true := unparts (wk h (.code IsL.yN IsL.yB 1 (some .boolean))) (wks h (.initialized IsL.yN.cls :: IsL.site))
  have q := consq hi (consq hl h)
  exact unparts (wk q (.code ChN.yN ChN.yB 2 (some .char))) (wks q (.initialized ChN.yN.cls :: ChN.site))
theorem movedChN {Z s : State} {a0 args : Array Value} (hZ : Z.Warmed39 s.vm) (hw : ∀ d ∈ wordsChN, d.before a0 Z = true) : ∀ d ∈ wordsChN, d.before args s = true := fun d hd => by
  have t : ∀ d ∈ wordsChN, (d.onTables && d.keepsFace) = true := by decide +kernel
  exact RoadKit.mv hZ (hw d hd) (t d hd)
/-- **charAt(i) OF A LATIN-1 STRING**, i < n: the char -/
theorem chN {p : Program} {l : Launch} {e : Env} {R : Room} {s : State} {args : Array Value} {below : List Frame} {len W : Nat} {Z : State} {a0 : Array Value} {h : Heap} (hZ : Z.Warmed39 s.vm) (hw : ∀ d ∈ wordsChN, d.before a0 Z = true) {kI : Nat} (wi : (Jvm.Cond.instantiable ST kI).before a0 Z = true)
    {x t : Addr} {kb : ClassId} {cs : List Int32} {N2 z : Int32} {vs : List Value} {fm : Value} {i : Nat} {j : Int32} (E : RoadKit.Exa Z h x ST) (V : RoadKit.Fld Z h x ST "value" "[B" (.ref t)) (C : RoadKit.Fld Z h x ST "coder" "B" (.int 0)) (K : RoadKit.Arv Z h t kb .byte N2 vs (.int 0)) (hc : CodA cs 0 N2 vs) (hb : ∀ c ∈ cs, ¬ c < 0 ∧ ¬ (65535 : Int32) < c)
    (S : RoadKit.Sta Z h ST "COMPACT_STRINGS" "Z" (.int z)) (hz : ¬ z = 0) (F : RoadKit.Sta Z h "jdk/internal/util/Preconditions" "SIOOBE_FORMATTER" "Ljava/util/function/BiFunction;" fm) (rf : fm.isRef = true) (l2 : cs.length ≤ 4000) (hi : i < cs.length) (hj : j = Int32.ofNat i) (hfr : 4 ≤ R.frames) (hlo : W + 53 ≤ R.locals) :
    Back l R p e below s args (⟨"java/lang/String", "charAt", "(I)C"⟩ : MethodName) len W (fun P a => a = #[.ref x, .int j] ∧ P.U.heap = h ∧ P.cells + 0 ≤ R.cells ∧ P.slots + 0 ≤ R.slots)
      (fun P _ v B => ∃ L, (v = some (.int (cs.getD i 0)) ∧ L = [] ∧ B.U.heap = h) ∧ B.locs = P.locs ++ L ∧ B.cells = P.cells + 0 ∧ B.slots = P.slots + 0) := by
  subst hj
  intro m meth c P g ig mk a X hg hsize hdg hW hn hp'
  obtain ⟨rfl, rfl, r1, r2⟩ := hp'
  have al : Z.vm.Alike P.U.vm := hZ.alike.trans X.warmed.alike
  obtain ⟨A, hx⟩ := txt_of wi al E V C K hc hb l2
  obtain ⟨v, B, X', ⟨⟨hv, hh⟩, hl, hk, hs⟩, st⟩ := ChN.pays x t A cs.length (fun j => cs.getD j 0) z fm i (tabChN_of (movedChN hZ hw)) hfr hlo m meth c P g ig mk _ X hg hsize hdg hW hn ⟨r1, r2, rfl, hx, hi, sta_is al S, hz, sta_is al F, rf⟩
  exact ⟨v, B, X', ⟨[], ⟨hv, rfl, hh⟩, hl, hk, hs⟩, st⟩
end StrChars.Road
end Jvm.Pilot.@@N@@
namespace Jvm.Pilot.@@N@@
open Jvm Jvm.ClassFile Sem Op Lib Jvm.Free Jvm.Stand Jvm.LawKit Jvm.RoadKit Bundle Jvm.Pilot.@@N@@.Jvm.D
section OwnRun
variable {p : Program} {l : Launch} {e : Env} {R : Room} {s : State} {m : MethodId} {args : Array Value} {below : List Frame} {meth : Method} {c : Code} {T : State} {locs : List Loc} {cells slots : Nat}
/-- from S the run comes to its end, and there Q holds -/
def Run (p : Program) (e : Env) (below : List Frame) (Q : State → Outcome → Prop) (S : State) : Prop := ∃ s₂ o, Steps p.tables e below S s₂ ∧ s₂.status = .running ∧ Ended s₂ below o ∧ Q s₂ o
def Ends (s : State) (Qb : Option Value → Heap → List Loc → Prop) (C S : Nat) : State → Outcome → Prop := fun s₂ o => ∃ v L, o = .returned v ∧ Qb v s₂.heap L ∧ FrameEnd s o s₂ L C S
theorem Run.st {Q : State → Outcome → Prop} {S S' : State} (h : ∀ t, Steps p.tables e below S' t → Steps p.tables e below S t) (r : Run p e below Q S') : Run p e below Q S := by
  obtain ⟨a, b, c, d⟩ := r
  exact ⟨a, b, h _ c, d⟩
theorem Run.out (X : Stand p l e R s m args below meth c T locs cells slots) (hx : p.tables.exec = Jvm.exec) {Qb : Option Value → Heap → List Loc → Prop} {C S : Nat} {pc : Nat} {Ls : Array Slot} {w : Value} {t : FieldType} {i : Instr} {rest : List Value} (hlocks : meth.locks = false) (hret : meth.sig.returnType = some t) (hn : narrow t w = w)
    (hi : (i = .ireturn ∧ (t = .int ∨ t = .boolean ∨ t = .byte ∨ t = .char ∨ t = .short) ∧ ∃ z, w = .int z) ∨ (i = .lreturn ∧ t = .long ∧ ∃ z, w = .long z) ∨ (i = .dreturn ∧ t = .double ∧ ∃ z, w = .double z) ∨ (i = .freturn ∧ t = .float ∧ ∃ z, w = .float z) ∨ (i = .areturn ∧ t.isReference = true ∧ w.isRef = true))
    (hd : decode c.code pc = .ok (i, 1)) (hC : cells ≤ C) (hS : slots ≤ S) (hq : Qb (some w) T.heap locs) : Run p e below (Ends s Qb C S) (T.setTop (mkF m pc Ls (w :: rest))) := by
  obtain ⟨fs, hr, hrun, hended, hW, hsame⟩ := X.leave (v := some w) (fun h => by rw [hret] at h; cases h) hlocks
  exact ⟨_, _, retOut X hx hret hn hi hd hr, hrun, hended, _, _, rfl, hq, ⟨_, rfl⟩, hW, hsame.mono hC hS⟩
theorem Run.outV (X : Stand p l e R s m args below meth c T locs cells slots) (hx : p.tables.exec = Jvm.exec) {Qb : Option Value → Heap → List Loc → Prop} {C S : Nat} {pc : Nat} {Ls : Array Slot} (hlocks : meth.locks = false) (hret : meth.sig.returnType = none)
    (hd : decode c.code pc = .ok (.return_, 1)) (hC : cells ≤ C) (hS : slots ≤ S) (hq : Qb none T.heap locs) : Run p e below (Ends s Qb C S) (T.setTop (mkF m pc Ls [])) := by
  obtain ⟨fs, hr, hrun, hended, hW, hsame⟩ := X.leave (v := none) (fun _ => rfl) hlocks
  exact ⟨_, _, X.returnOut hx hret hd hr, hrun, hended, _, _, rfl, hq, ⟨_, rfl⟩, hW, hsame.mono hC hS⟩
theorem lcYes {cd : ClassFile.Cond} {x y : Int64} {b : Bool} (h : ifCond.holds cd (Jvm.Free.XT.cmpL x y) = b) : ifCond.holds cd (lcmpW x y) = b := h
theorem nb01 {P : Prop} [Decidable P] : narrow .boolean (.int (if P then (1 : Int32) else (0 : Int32))) = .int (if P then (1 : Int32) else (0 : Int32)) := by split <;> rfl
theorem staK {Z : State} {h h' : Heap} {C n d : String} {v : Value} {ws : List Addr} (F : Sta Z h C n d v) (K : Keep h h' ws) (q : ∀ x ∈ ws, ∀ c : Cell, h[x]? = some c → c.vm.isStatics = false) : Sta Z h' C n d v := by
  obtain ⟨cf, i, k, f, st, cell, h1, h2, h3, h4, h5, h6, h7⟩ := F
  refine ⟨cf, i, k, f, st, cell, h1, h2, h3, h4, K.2.1 st cell h5 (fun m => ?_), h6, h7⟩
  have := q st m cell h5
  rw [h6] at this
  cases this
theorem exaP {Z : State} {h : Heap} {a : Addr} {C : String} (E : Exa Z h a C) : ∀ c : Cell, h[a]? = some c → c.vm.isStatics = false := fun c hc => by
  obtain ⟨cell, k, h1, -, -, h4, -⟩ := E
  cases h1.symm.trans hc
  exact h4
theorem arvP {Z : State} {h : Heap} {a : Addr} {k : ClassId} {ty : FieldType} {n : Int32} {vs : List Value} {d : Value} (E : Arv Z h a k ty n vs d) : ∀ c : Cell, h[a]? = some c → c.vm.isStatics = false := fun c hc => by
  obtain ⟨cell, A, -⟩ := E
  cases A.1.symm.trans hc
  exact A.plain
theorem selSelf {s : State} {args : Array Value} {y : MethodName} {n : Nat} (wi : (Jvm.Cond.instantiable y.cls n).before args s = true) (hp : s.PrivateAt y) (hi : (Jvm.Cond.instanceMethod y).before args s = true) (hy : y.cls ≠ "java/lang/invoke/MethodHandle" ∧ y.cls ≠ "java/lang/invoke/VarHandle") : (Jvm.Cond.selects y.cls y y).before args s = true := by
  obtain ⟨c, k, h1, h2, -, h4, -⟩ := Cond.instantiable_spec wi
  rw [Bool.or_eq_false_iff] at h4
  exact selects_self_of_private h1 h2 h4.1 hp hi hy
theorem own_lsw {tb : Tables} [Ours tb] {e : Env} {below : List Frame} {T target : State} {m : MethodId} {c : Code} {g : JFrame} (h : At T m c below) (hx : tb.exec = Jvm.exec) (hg : g.method = m) {dflt : Int} {ps : Array (Int × Int)} {len : Nat} {o : Int} {pc0 pc' : Nat} (hpc : g.pc = pc0) (hd : decode c.code g.pc = .ok (.lookupswitch dflt ps, len)) {i : Int32} {rest : List Value} (hs : g.stack = .int i :: rest)
    (hsort : ∀ q ∈ ps.toList.zip ps.toList.tail, q.1.1 < q.2.1) (hoff : lookupswitch.offset ps.toList dflt i.toInt = o) (ho : 0 ≤ (pc0 : Int) + o) (hp : ((pc0 : Int) + o).toNat = pc')
    (hr : Steps tb e below (T.setTop { g with pc := pc', stack := rest }) target) : Steps tb e below (T.setTop g) target := by
  subst hg hpc hp
  jvm_step h [h.top, hx, hd, hs, hoff, ho, lookupswitch.wp_chain]
  exact ⟨fun a b a1 b1 q => hsort _ q, hr⟩
theorem own_dupX2 {tb : Tables} [Ours tb] {e : Env} {below : List Frame} {T target : State} {m : MethodId} {c : Code} {g : JFrame} (h : At T m c below) (hx : tb.exec = Jvm.exec) (hg : g.method = m) {x y z : Value} {rest : List Value} (hd : decode c.code g.pc = .ok (.dup_x2, 1)) (hs : g.stack = x :: y :: z :: rest) (hc : x.category = 1) (hc' : y.category = 1) (hc'' : z.category = 1)
    (hr : Steps tb e below (T.setTop { g with pc := g.pc + 1, stack := x :: y :: z :: x :: rest }) target) : Steps tb e below (T.setTop g) target := by
  subst hg
  jvm_step h [h.top, hx, hd, hs, hc, hc', hc'']
  exact hr
theorem ord_v {args : Array Value} {s : State} {t : Term} {C n d : String} {k : Int32} {a : Addr} (ht : t.eval args s none [] s = some (.ref a)) (h : (Jvm.Cond.eq (.field t C n d) (.int k)).value args s none s [] = some true) : Fld s s.heap a C n d (.int k) := by
  refine Fld.start ?_
  rw [← fld_at (C := C) (n := n) (dd := d) ht]
  simp only [Cond.value] at h
  cases hv : (Term.field t C n d).eval args s none [] s with
  | none => simp [hv] at h
  | some v => cases v <;> simp_all [Term.eval]
theorem arr_len {args : Array Value} {s : State} {t : Term} {a : Addr} {cl : Cell} {ty : FieldType} {n : Int32} (ht : t.eval args s none [] s = some (.ref a)) (A : Arr s s.heap a cl ty) (h : (Jvm.Cond.eq (.length t) (.int n)).value args s none s [] = some true) : cl.slots.size < 2 ^ 31 ∧ cl.slots.size.toInt32 = n := by
  have ha := A.fin (Vm.Alike.refl s.vm)
  by_cases q : cl.slots.size < 2 ^ 31
  · refine ⟨q, ?_⟩
    have e := len_f ht ha q
    have e2 : (Term.int n).eval args s none [] s = some (.int n) := rfl
    simp only [Cond.value, e, e2] at h
    simpa using h
  · simp [Cond.value, Term.eval, ht, ha, q] at h
theorem arr_elR {args : Array Value} {s : State} {t u : Term} {a b : Addr} {cl : Cell} {ty : FieldType} {j : Int32} (ht : t.eval args s none [] s = some (.ref a)) (A : Arr s s.heap a cl ty) (h : (Jvm.Cond.eq (.elem t (.int j)) u).value args s none s [] = some true) (hu : u.eval args s none [] s = some (.ref b)) (hj : ¬ j < 0) : cl.slots[j.toNatClampNeg]? = some (.ref b) := by
  have ha := A.fin (Vm.Alike.refl s.vm)
  have e : (Term.elem t (.int j)).eval args s none [] s = cl.slots[j.toNatClampNeg]? := elem_f ht rfl ha hj
  simp only [Cond.value, hu, e] at h
  cases hv : cl.slots[j.toNatClampNeg]? with
  | none => simp [hv] at h
  | some v => cases v <;> simp_all
theorem arr_elI {args : Array Value} {s : State} {t : Term} {a : Addr} {cl : Cell} {ty : FieldType} {j k : Int32} (ht : t.eval args s none [] s = some (.ref a)) (A : Arr s s.heap a cl ty) (h : (Jvm.Cond.eq (.elem t (.int j)) (.int k)).value args s none s [] = some true) (hj : ¬ j < 0) : cl.slots[j.toNatClampNeg]? = some (.int k) := by
  have ha := A.fin (Vm.Alike.refl s.vm)
  have e : (Term.elem t (.int j)).eval args s none [] s = cl.slots[j.toNatClampNeg]? := elem_f ht rfl ha hj
  have e2 : (Term.int k).eval args s none [] s = some (.int k) := rfl
  simp only [Cond.value, e, e2] at h
  cases hv : cl.slots[j.toNatClampNeg]? with
  | none => simp [hv] at h
  | some v => cases v <;> simp_all
theorem own_get (vs : List Int32) (j : Nat) : (vs.map Value.int).getD j (.int (0 : Int32)) = .int (vs.getD j 0) := by
  simp only [List.getD_eq_getElem?_getD, List.getElem?_map]
  cases vs[j]? <;> rfl
theorem own_set (vs : List Int32) (j : Nat) (x : Int32) : (vs.map Value.int).set j (.int x) = (vs.set j x).map Value.int := by
  rw [List.map_set]
theorem own_ltm {vs : List Int32} {j : Nat} (h : j < vs.length) : j < (vs.map Value.int).length := by rw [List.length_map]; exact h
/-- where a run stands with this heap, whatever it has written among the new cells -/
def Good (p : Program) (l : Launch) (e : Env) (R : Room) (s : State) (m : MethodId) (args : Array Value) (below : List Frame) (meth : Method) (c : Code) (n0 cells slots : Nat) (H : Heap) (T : State) : Prop := ∃ locs, Stand p l e R s m args below meth c T locs cells slots ∧ Fr n0 locs ∧ T.heap = H
theorem inb32 {j z : Int32} {n : Int} (hz : z.toInt = n) (h0 : 0 ≤ j.toInt) (h1 : j.toInt < n) : ¬ j < 0 ∧ j < z := by
  rw [Int32.lt_iff_toInt_lt, Int32.lt_iff_toInt_lt, hz]
  have : (0 : Int32).toInt = 0 := by decide
  omega
theorem own_nn {n : Int32} (h : 0 ≤ n.toInt) : ¬ n < 0 := by
  rw [Int32.lt_iff_toInt_lt]
  have : (0 : Int32).toInt = 0 := by decide
  omega
theorem own_cap {n : Int32} {c : Nat} (h : n.toInt < (c : Int) + 1) : n.toNatClampNeg ≤ c := by
  simp only [Int32.toNatClampNeg]
  omega
theorem own_fin (x : Int32) (n : Nat) (hn : n < 2147483648) (h0 : 0 ≤ x.toInt) (h1 : x.toInt < n) : ∃ i : Fin n, x = Int32.ofNat i.1 := by
  refine ⟨⟨x.toInt.toNat, by omega⟩, Int32.toInt_inj.mp ?_⟩
  show x.toInt = (Int32.ofNat x.toInt.toNat).toInt
  rw [Int32.toInt_ofNat_small (by omega)]
  omega
def own_pl (x : Slot) : Prop := match x with | .second => False | .val y => y.category = 1 | .unset => True
theorem own_stl {ls ls' : Array Slot} {i : Nat} {x : Slot} {v : Value} (hx : ls[i]? = some x) (hv : v.category = 1) (h : own_pl x) (e : ls.setIfInBounds i (.val v) = ls' := by rfl) : storeLocals ls i v = some ls' := by
  subst e; refine storeLocals_cat1 hx hv ?_
  cases x with
  | second => exact h
  | unset => trivial
  | val y => exact h
theorem own_cat {v : Value} (h : v.isRef = true) : v.category = 1 := by
  rcases ref_cases h with rfl | ⟨_, rfl⟩ <;> rfl
end OwnRun
theorem hwi {aV : Array Value} {Z : State} (hw : ∀ d ∈ tables_1, d.before aV Z = true) (i : Nat) {d : Jvm.Cond} (e : tables_1[i]? = some d) : d.before aV Z = true := hw _ (List.mem_of_getElem? e)
abbrev own_bs (cs : List Int32) : List Int32 := cs.map (fun c => c.toInt8.toInt32)
def own_L1 (cs : List Int32) : Prop := (∀ c ∈ cs, ¬ c < 0 ∧ ¬ (255 : Int32) < c) ∧ cs.length ≤ 4000
section OwnWide
variable {p : Program} {l : Launch} {e : Env} {R : Room} {s : State} {m : MethodId} {args : Array Value} {below : List Frame} {meth : Method} {c : Code} {T : State} {locs : List Loc} {cells slots : Nat} {Z : State}
def EndsW (Z s : State) (Qb : Option Value → Heap → List Loc → Prop) (C S : Nat) : State → Outcome → Prop := fun s₂ o => ∃ v L, o = .returned v ∧ Qb v s₂.heap L ∧ CHr Z consts_1 s.vm s.heap s₂.vm s₂.heap ∧ ReturnedEndW s o s₂ L C S
theorem Run.outW {vm₁ : Vm} (X : Stand p l e R (s.setVm vm₁) m args below meth c T locs cells slots) (hx : p.tables.exec = Jvm.exec) {n : Nat} (hSn : s.Since vm₁ n) (hnn : n ≤ T.heap.size) (CR : CHr Z consts_1 s.vm s.heap T.vm T.heap) {Qb : Option Value → Heap → List Loc → Prop} {C S : Nat} {pc : Nat} {Ls : Array Slot} {w : Value} {t : FieldType} {i : Instr} {rest : List Value} (hlocks : meth.locks = false) (hret : meth.sig.returnType = some t) (hn : narrow t w = w)
    (hi : (i = .ireturn ∧ (t = .int ∨ t = .boolean ∨ t = .byte ∨ t = .char ∨ t = .short) ∧ ∃ z, w = .int z) ∨ (i = .lreturn ∧ t = .long ∧ ∃ z, w = .long z) ∨ (i = .dreturn ∧ t = .double ∧ ∃ z, w = .double z) ∨ (i = .freturn ∧ t = .float ∧ ∃ z, w = .float z) ∨ (i = .areturn ∧ t.isReference = true ∧ w.isRef = true))
    (hd : decode c.code pc = .ok (i, 1)) (hC : cells ≤ C) (hS : slots ≤ S) (hq : Qb (some w) T.heap locs) : Run p e below (EndsW Z s Qb C S) (T.setTop (mkF m pc Ls (w :: rest))) := by
  obtain ⟨fs, hr, hrun, hended, r1, r2, r3, r4⟩ := X.leaveW hSn hnn (v := some w) (fun h => by rw [hret] at h; cases h) hlocks
  exact ⟨_, _, retOut X hx hret hn hi hd hr, hrun, hended, _, _, rfl, hq, CR, r1, r2, r3, r4.mono hC hS⟩
theorem Run.outVW {vm₁ : Vm} (X : Stand p l e R (s.setVm vm₁) m args below meth c T locs cells slots) (hx : p.tables.exec = Jvm.exec) {n : Nat} (hSn : s.Since vm₁ n) (hnn : n ≤ T.heap.size) (CR : CHr Z consts_1 s.vm s.heap T.vm T.heap) {Qb : Option Value → Heap → List Loc → Prop} {C S : Nat} {pc : Nat} {Ls : Array Slot} (hlocks : meth.locks = false) (hret : meth.sig.returnType = none)
    (hd : decode c.code pc = .ok (.return_, 1)) (hC : cells ≤ C) (hS : slots ≤ S) (hq : Qb none T.heap locs) : Run p e below (EndsW Z s Qb C S) (T.setTop (mkF m pc Ls [])) := by
  obtain ⟨fs, hr, hrun, hended, r1, r2, r3, r4⟩ := X.leaveW hSn hnn (v := none) (fun _ => rfl) hlocks
  exact ⟨_, _, X.returnOut hx hret hd hr, hrun, hended, _, _, rfl, hq, CR, r1, r2, r3, r4.mono hC hS⟩
/-- 'Good' for a walk that may load constants -/
def GoodW (p : Program) (l : Launch) (e : Env) (R : Room) (s : State) (m : MethodId) (args : Array Value) (below : List Frame) (meth : Method) (c : Code) (n0 cells slots : Nat) (own : String) (Z : State) (h0 H : Heap) (T : State) : Prop :=
  ∃ (vm₁ : Vm) (k : Nat) (locs : List Loc), Stand p l e R (s.setVm vm₁) m args below meth c T locs cells slots ∧ Fr n0 locs ∧ T.heap = H ∧ s.Since vm₁ k ∧ k ≤ H.size ∧ Z.Warmed39 (s.setVm vm₁).vm ∧ (s.setVm vm₁).vm.findClass own = some m.cls ∧ CHr Z consts_1 s.vm h0 vm₁ H
/-- a String whose value is still null is no booked one -/
theorem own_safeN {EL : List (String × Nat)} {vm : Vm} {h : Heap} {x : Addr} (hal : Z.vm.Alike vm) (E : Exa Z h x "java/lang/String") (F : Fld Z h x "java/lang/String" "value" "[B" .null) : Safe Z EL vm h x := fun B => by
  obtain ⟨pp, -, u, a, -, q, -, G, hor⟩ := B
  rcases hor with rfl | rfl
  · have G1 := G.ha
    obtain ⟨cS, ⟨⟨-, -, -, ⟨cv, kv, iv, g4, -⟩, -, -, -, g8, -⟩, -⟩, -⟩ := G
    obtain ⟨cell, cf, k, i, f, f1, f2, f3, f4, f5, f6, f7⟩ := F
    cases (show h[q.sa]? = some q.sC from G1).symm.trans f1
    obtain ⟨k2, e1, -⟩ := State.fieldFound?_setVm (s := { Z with heap := h }) hal (show ({ Z with heap := h } : State).fieldFound? _ _ _ = _ from f2)
    have e2 := (show (Wst Z vm h).fieldFound? _ _ _ = _ from e1).symm.trans g4
    simp only [Option.some.injEq, Prod.mk.injEq] at e2
    rw [← e2.2.2.2, f7] at g8
    simp at g8
  · obtain ⟨cell, k, e1, e2, e3, -, -⟩ := E
    cases (show h[q.sd]? = some q.SA from G.hd).symm.trans e1
    obtain ⟨cS, -, -, f, -⟩ := G
    have f : vm.findClass "[B" = some q.SA.cls := f
    rw [hal.findClass] at f
    obtain ⟨k1, q1, q2⟩ := Vm.findClass_spec f
    obtain ⟨k2, q3, q4⟩ := Vm.findClass_spec e2
    cases q1.symm.trans q3
    exact absurd (q2.symm.trans q4) (by decide)
theorem own_safeA {EL : List (String × Nat)} {vm : Vm} {h : Heap} {x : Addr} {k : ClassId} {ty : FieldType} {n : Int32} {vs : List Value} {d : Value} (hal : Z.vm.Alike vm) (A : Arv Z h x k ty n vs d) (ht : ty ≠ .byte) : Safe Z EL vm h x := by
  obtain ⟨cl, A, -⟩ := A
  exact Safe.arr hal A ht
end OwnWide
def own_lit0 : List Int32 := []
theorem own_lit0_t : (∀ c ∈ ("" : String).toList, c.toNat < 256) ∧ ("" : String).toList.map (fun c => Value.int (Jvm.Lit.byteI c.toNat.toUInt16)) = (own_bs own_lit0).map Value.int := ⟨by decide, by first | rfl | decide +kernel⟩
theorem own_lit0_L1 : own_L1 own_lit0 := ⟨by decide, by decide⟩
theorem own_EW {aV : Array Value} {Z : State} (hw : ∀ d ∈ tables_1, d.before aV Z = true) : EW Z aV consts_1 := (EW.cons (own := "java/lang/String") (index := 7) (text := "") (hwi hw 19 rfl) (by decide) EW.nil)
theorem own_wS {aV : Array Value} {Z : State} (hw : ∀ d ∈ tables_1, d.before aV Z = true) : ∀ a ∈ Bundle.stringAtoms, a.before aV Z = true := fun d hd => hw d ((by decide +kernel : ∀ d ∈ Bundle.stringAtoms, d ∈ tables_1) d hd)
section OwnStr
open Jvm.Pilot.@@N@@.StrChars.Road
theorem own_cod {cs : List Int32} (h : own_L1 cs) : CodA cs 0 (Int32.ofNat cs.length) ((own_bs cs).map Value.int) := Or.inl ⟨rfl, rfl, by rw [own_bs, List.map_map]; rfl, fun c hc => (h.1 c hc).2⟩
theorem own_b16 {cs : List Int32} (h : own_L1 cs) : ∀ c ∈ cs, ¬ c < 0 ∧ ¬ (65535 : Int32) < c := fun c hc => ⟨(h.1 c hc).1, fun q => (h.1 c hc).2 (by
  rw [Int32.lt_iff_toInt_lt] at q ⊢
  have e1 : (65535 : Int32).toInt = 65535 := by decide
  have e2 : (255 : Int32).toInt = 255 := by decide
  omega)⟩
theorem own_ofN {j : Int32} (h0 : ¬ j < 0) : j = Int32.ofNat j.toNatClampNeg := by
  apply Int32.toInt_inj.mp
  rw [Int32.lt_iff_toInt_lt] at h0
  have e0 : (0 : Int32).toInt = 0 := by decide
  have := j.toInt_lt
  simp only [Int32.toNatClampNeg]
  rw [Int32.toInt_ofNat_small (by omega)]
  omega
theorem own_chB {p : Program} {l : Launch} {e : Env} {R : Room} {s : State} {args : Array Value} {below : List Frame} {len W n0 : Nat} {Z : State} {a0 : Array Value} {h : Heap} (hw : ∀ d ∈ tables_1, d.before a0 Z = true) (hZ : Z.Warmed39 s.vm)
    {x t : Addr} {kb : ClassId} {cs : List Int32} (E : Exa Z h x ST) (V : Fld Z h x ST "value" "[B" (.ref t)) (C : Fld Z h x ST "coder" "B" (.int 0)) (K : Arv Z h t kb .byte (Int32.ofNat cs.length) ((own_bs cs).map Value.int) (.int 0)) (hL : own_L1 cs)
    {z : Int32} (S : Sta Z h ST "COMPACT_STRINGS" "Z" (.int z)) (hz : ¬ z = 0) {fm : Value} (F : Sta Z h "jdk/internal/util/Preconditions" "SIOOBE_FORMATTER" "Ljava/util/function/BiFunction;" fm) (rf : fm.isRef = true) {j : Int32} (h0 : ¬ j < 0) (hj : j.toNatClampNeg < cs.length) (hfr : 4 ≤ R.frames) (hlo : W + 53 ≤ R.locals) :
    Back l R p e below s args (⟨"java/lang/String", "charAt", "(I)C"⟩ : MethodName) len W (fun A a => a = #[.ref x, .int j] ∧ A.U.heap = h ∧ A.cells + 0 ≤ R.cells ∧ A.slots + 0 ≤ R.slots)
      (fun A _ v B => ∃ L, (v = some (.int (cs.getD j.toNatClampNeg 0)) ∧ Fr n0 L ∧ B.U.heap = h) ∧ B.locs = A.locs ++ L ∧ B.cells = A.cells + 0 ∧ B.slots = A.slots + 0) :=
  Back.mono (chN (W := W) hZ (fun d hd => hw d ((by decide +kernel : ∀ d ∈ wordsChN, d ∈ tables_1) d hd)) (kI := 4) (own_wS hw _ (by simp [Bundle.stringAtoms, Bundle.sN])) E V C K (own_cod hL) (own_b16 hL) S hz F rf hL.2 hj (own_ofN h0) hfr hlo) (fun _ _ q => q)
    (fun A a v B _ q => by
      obtain ⟨L, ⟨q1, q2, q3⟩, r⟩ := q
      exact ⟨L, ⟨q1, by subst q2; exact Fr.nil n0, q3⟩, r⟩)
theorem own_lenB {p : Program} {l : Launch} {e : Env} {R : Room} {s : State} {args : Array Value} {below : List Frame} {len W n0 : Nat} {Z : State} {a0 : Array Value} {h : Heap} (hw : ∀ d ∈ tables_1, d.before a0 Z = true) (hZ : Z.Warmed39 s.vm)
    {x t : Addr} {kb : ClassId} {cs : List Int32} (E : Exa Z h x ST) (V : Fld Z h x ST "value" "[B" (.ref t)) (C : Fld Z h x ST "coder" "B" (.int 0)) (K : Arv Z h t kb .byte (Int32.ofNat cs.length) ((own_bs cs).map Value.int) (.int 0)) (hL : own_L1 cs)
    {z : Int32} (S : Sta Z h ST "COMPACT_STRINGS" "Z" (.int z)) (hz : ¬ z = 0) (hfr : 2 ≤ R.frames) (hlo : W + 25 ≤ R.locals) :
    Back l R p e below s args (⟨"java/lang/String", "length", "()I"⟩ : MethodName) len W (fun A a => a = #[.ref x] ∧ A.U.heap = h ∧ A.cells + 0 ≤ R.cells ∧ A.slots + 0 ≤ R.slots)
      (fun A _ v B => ∃ L, (v = some (.int (Int32.ofNat cs.length)) ∧ Fr n0 L ∧ B.U.heap = h) ∧ B.locs = A.locs ++ L ∧ B.cells = A.cells + 0 ∧ B.slots = A.slots + 0) :=
  Back.mono (lenW (W := W) hZ (fun d hd => hw d ((by decide +kernel : ∀ d ∈ wordsLen, d ∈ tables_1) d hd)) (kI := 4) (own_wS hw _ (by simp [Bundle.stringAtoms, Bundle.sN])) E V C K (own_cod hL) (own_b16 hL) S hz hL.2 hfr hlo) (fun _ _ q => q)
    (fun A a v B _ q => by
      obtain ⟨L, ⟨q1, q2, q3⟩, r⟩ := q
      exact ⟨L, ⟨q1, by subst q2; exact Fr.nil n0, q3⟩, r⟩)
def own_QS (Z : State) (x : Addr) (cs : List Int32) (h : Heap) (n0 : Nat) (v : Option Value) (h' : Heap) (L : List Loc) : Prop := v = none ∧ Fr n0 L ∧ Keep h h' [x] ∧ Exa Z h' x "java/lang/String" ∧ Fld Z h' x "java/lang/String" "coder" "B" (.int (0 : Int32)) ∧ ∃ (t : Addr) (kb : ClassId), Fld Z h' x "java/lang/String" "value" "[B" (.ref t) ∧ Arv Z h' t kb .byte (Int32.ofNat cs.length) ((own_bs cs).map Value.int) (.int (0 : Int32))
theorem own_bV {p : Program} {l : Launch} {e : Env} {R : Room} {s : State} {args : Array Value} {below : List Frame} {len W n0 : Nat} {Z : State} {a0 : Array Value} {h : Heap} (hw : ∀ d ∈ tables_1, d.before a0 Z = true) (hZ : Z.Warmed39 s.vm)
    {x b : Addr} {kC : ClassId} {cs : List Int32} {v0 c0 : Value} {z N : Int32} (cap : Nat) (hx0 : n0 ≤ x) (hh0 : n0 ≤ h.size) (E : Exa Z h x ST) (V : Fld Z h x ST "value" "[B" v0) (C : Fld Z h x ST "coder" "B" c0) (K : Arv Z h b kC .char N (cs.map Value.int) (.int (0 : Int32))) (S : Sta Z h ST "COMPACT_STRINGS" "Z" (.int z)) (hz : ¬ z = 0)
    (hN : cs.length = N.toNatClampNeg) (h0 : ¬ N < 0) (hne : ¬ N = 0) (hcap : N.toNatClampNeg ≤ cap) (hL : own_L1 cs) (hfr : 4 ≤ R.frames) (hlo : W + 65 ≤ R.locals) :
    Back l R p e below s args (⟨"java/lang/String", "<init>", "([C)V"⟩ : MethodName) len W (fun A a => a = #[.ref x, .ref b] ∧ A.U.heap = h ∧ A.cells + 1 ≤ R.cells ∧ A.slots + cap ≤ R.slots)
      (fun A _ v B => ∃ L, own_QS Z x cs h n0 v B.U.heap L ∧ B.locs = A.locs ++ L ∧ B.cells = A.cells + 1 ∧ B.slots = A.slots + cap) := by
  have eN : N = Int32.ofNat cs.length := by
    rw [hN]
    apply Int32.toInt_inj.mp
    rw [Int32.lt_iff_toInt_lt] at h0
    have e0 : (0 : Int32).toInt = 0 := by decide
    have := N.toInt_lt
    simp only [Int32.toNatClampNeg]
    rw [Int32.toInt_ofNat_small (by omega)]
    omega
  have l0 : 0 < cs.length := by
    rcases Nat.eq_zero_or_pos cs.length with q | q
    · exact absurd (by rw [eN, q]; rfl) hne
    · exact q
  have B := backV (p := p) (l := l) (e := e) (R := R) (s := s) (args := args) (below := below) (len := len) (W := W) hZ (fun d hd => hw d ((by decide +kernel : ∀ d ∈ words, d ∈ tables_1) d hd)) (kI := 4) (own_wS hw _ (by simp [Bundle.stringAtoms, Bundle.sN])) hx0 hh0 E V C K S hz rfl eN l0 hL.2 hL.1 rfl hfr hlo
  intro m meth c A g ig mk a X hg hsize hdg hW hn hp
  obtain ⟨hp1, hp2, hp3, hp4⟩ := hp
  obtain ⟨v, ⟨BU, Bl, Bc, Bs⟩, X', ⟨L, ⟨q1, q2, q3, q4, q5, t, kb, -, -, -, q9, q10⟩, hl, hc, hs⟩, st⟩ := B m meth c A g ig mk a X hg hsize hdg hW hn ⟨hp1, hp2, hp3, by omega⟩
  dsimp only [Pt.U, Pt.locs, Pt.cells, Pt.slots] at X' q3 q4 q5 q9 q10 hl hc hs st
  exact ⟨v, ⟨BU, Bl, A.cells + 1, A.slots + cap⟩, X'.mono (Nat.le_of_eq hc) (Nat.le_trans (Nat.le_of_eq hs) (Nat.add_le_add_left (by rw [hN]; exact hcap) _)), ⟨L, ⟨q1, q2, q3, q4, q5, t, kb, q9, eN ▸ q10⟩, hl, rfl, rfl⟩, st⟩
theorem own_rep {Z : State} {h : Heap} {a : Addr} {k : ClassId} {n : Int32} (F : Arv Z h a k .char n [] (.int (0 : Int32))) : Arv Z h a k .char n ((List.replicate n.toNatClampNeg (0 : Int32)).map Value.int) (.int (0 : Int32)) := by
  rw [List.map_replicate]
  exact F.pad (by simpa using pad_rep [] (.int (0 : Int32)) n.toNatClampNeg)
theorem own_repL (n : Nat) : ∀ c ∈ List.replicate n (0 : Int32), ¬ c < 0 ∧ ¬ (255 : Int32) < c := fun c hc => by
  rw [List.eq_of_mem_replicate hc]; decide
theorem own_narc {z : Int32} (h : ¬ z < 0 ∧ ¬ (255 : Int32) < z) : nar .char z = z := by
  obtain ⟨h0, h1⟩ := h
  have q : Value.int z.toUInt32.toUInt16.toUInt32.toInt32 = .int z := StrChars.narrow_ch h0 (fun q => h1 (by
    rw [Int32.lt_iff_toInt_lt] at q ⊢
    have e1 : (65535 : Int32).toInt = 65535 := by decide
    have e2 : (255 : Int32).toInt = 255 := by decide
    omega))
  exact Value.int.inj q
theorem own_setR {cs : List Int32} {j : Nat} {z : Int32} (h : ∀ c ∈ cs, ¬ c < 0 ∧ ¬ (255 : Int32) < c) (hz : ¬ z < 0 ∧ ¬ (255 : Int32) < z) : ∀ c ∈ cs.set j (nar .char z), ¬ c < 0 ∧ ¬ (255 : Int32) < c := fun c hc => by
  rw [own_narc hz] at hc
  rcases List.mem_or_eq_of_mem_set hc with q | rfl
  · exact h c q
  · exact hz
theorem own_r255 {z : Int32} (h : 0 ≤ z.toInt ∧ z.toInt < 256) : ¬ z < 0 ∧ ¬ (255 : Int32) < z := by
  rw [Int32.lt_iff_toInt_lt, Int32.lt_iff_toInt_lt]
  have e1 : (0 : Int32).toInt = 0 := by decide
  have e2 : (255 : Int32).toInt = 255 := by decide
  omega
theorem own_nc {z : Int32} (h : ¬ z < 0 ∧ ¬ (255 : Int32) < z) : narrow .char (.int z) = .int z := by
  have q := own_narc h
  exact congrArg Value.int q
theorem own_clt {j n : Int32} (h0 : ¬ j < 0) (h : j < n) : j.toNatClampNeg < n.toNatClampNeg := by
  rw [Int32.lt_iff_toInt_lt] at h0 h
  have e1 : (0 : Int32).toInt = 0 := by decide
  simp only [Int32.toNatClampNeg]
  omega
theorem own_getR {cs : List Int32} (h : own_L1 cs) {j : Nat} (hj : j < cs.length) : ¬ cs.getD j 0 < 0 ∧ ¬ (255 : Int32) < cs.getD j 0 := by
  have e : cs.getD j 0 = cs[j] := by simp [List.getD_eq_getElem?_getD, hj]
  rw [e]; exact h.1 _ (List.getElem_mem _)
theorem own_si {args : Array Value} {s : State} {C n d : String} {k : Int32} (h : (Jvm.Cond.eq (.static C n d) (.int k)).value args s none s [] = some true) : (Term.static C n d).eval args s none [] s = some (.int k) := by
  simp only [Cond.value] at h
  cases hv : (Term.static C n d).eval args s none [] s with
  | none => simp [hv] at h
  | some v => cases v <;> simp_all [Term.eval]
end OwnStr
theorem own_L1_nil : own_L1 ([] : List Int32) := ⟨by decide, by decide⟩
def own_w (cs : List Int32) : Nat → Int32
  | 0 => 0
  | j + 1 => own_w cs j ||| (if (255 : Int32) < cs.getD j 0 then (1 : Int32) else (0 : Int32))
def own_b (cs : List Int32) (j : Nat) : Int32 := if own_w cs (j + 1) = (0 : Int32) then cs.getD j 0 else (255 : Int32)
def own_k (cs : List Int32) : Nat → Int64
  | 0 => 0
  | j + 1 => (own_k cs j <<< ((8 : Int32) &&& 0x3f).toInt64) ||| (own_b cs j).toInt64
def own_wide (cs bs : List Int32) (nb : Int32) : Prop := nb = Int32.ofNat (2 * cs.length) ∧ cs.length ≤ 9 ∧ (∀ c ∈ cs, ¬ c < 0 ∧ ¬ (65535 : Int32) < c) ∧ bs.length = 2 * cs.length ∧ ∀ i, i < cs.length → bs.getD (2 * i) 0 = StrChars.lo8 (cs.getD i 0) ∧ bs.getD (2 * i + 1) 0 = StrChars.hi8 (cs.getD i 0)
def own_half (cs bs : List Int32) (j : Nat) : Prop := bs.length = 2 * cs.length ∧ ∀ i, i < j → bs.getD (2 * i) 0 = StrChars.lo8 (cs.getD i 0) ∧ bs.getD (2 * i + 1) 0 = StrChars.hi8 (cs.getD i 0)
theorem own_z0 : (0 : Int32).toInt = 0 := by decide
theorem own_nat {j : Int32} (h : ¬ j < 0) : (j.toNatClampNeg : Int) = j.toInt := by
  rw [Int32.lt_iff_toInt_lt] at h
  have := own_z0
  simp only [Int32.toNatClampNeg]
  omega
theorem own_natI {j : Int32} (h : 0 ≤ j.toInt) : (j.toNatClampNeg : Int) = j.toInt := by
  simp only [Int32.toNatClampNeg]
  omega
theorem own_cltN {j : Int32} {cs : List Int32} (h0 : ¬ j < 0) (hL : cs.length ≤ 4000) (h : j < Int32.ofNat cs.length) : j.toNatClampNeg < cs.length := by
  rw [Int32.lt_iff_toInt_lt, Int32.toInt_ofNat_small (by omega)] at h
  have := own_nat h0
  omega
theorem own_out {j : Int32} {cs : List Int32} (h0 : ¬ j < 0) (hL : cs.length ≤ 4000) (h : ¬ j < Int32.ofNat cs.length) : (0 : Int32) = cs.getD j.toNatClampNeg 0 := by
  rw [Int32.lt_iff_toInt_lt, Int32.toInt_ofNat_small (by omega)] at h
  have := own_nat h0
  rw [List.getD_eq_getElem?_getD, List.getElem?_eq_none (by omega)]
  rfl
theorem own_sh1 {p : Int32} (h0 : ¬ p < 0) (h1 : p.toNatClampNeg < 10) : (p <<< ((1 : Int32) &&& 31)).toNatClampNeg = 2 * p.toNatClampNeg ∧ (p <<< ((1 : Int32) &&& 31)).toInt = 2 * p.toInt ∧ ((p <<< ((1 : Int32) &&& 31)) + (1 : Int32)).toNatClampNeg = 2 * p.toNatClampNeg + 1 := by
  have e := c_ishl p (1 : Int32) 1 (by decide)
  have r := rng32 (p <<< ((1 : Int32) &&& 31))
  have q := own_nat h0
  have r2 := rng32 ((p <<< ((1 : Int32) &&& 31)) + (1 : Int32))
  have e2 := c_iadd (p <<< ((1 : Int32) &&& 31)) (1 : Int32)
  have e3 : (1 : Int32).toInt = 1 := by decide
  have e4 : (p <<< ((1 : Int32) &&& 31)).toInt = 2 * p.toInt := by omega
  have n1 := own_natI (j := p <<< ((1 : Int32) &&& 31)) (by omega)
  have n2 := own_natI (j := (p <<< ((1 : Int32) &&& 31)) + (1 : Int32)) (by omega)
  refine ⟨by omega, e4, by omega⟩
theorem own_gc {cs bs : List Int32} {nb p1 : Int32} (hW : own_wide cs bs nb) (h0 : ¬ p1 < 0) (h1 : p1.toNatClampNeg < cs.length) :
    StrChars.pairCh (bs.getD (p1 <<< ((1 : Int32) &&& 31)).toNatClampNeg 0) (bs.getD ((p1 <<< ((1 : Int32) &&& 31)) + (1 : Int32)).toNatClampNeg 0) = cs.getD p1.toNatClampNeg 0 := by
  obtain ⟨-, h9, hr, -, hb⟩ := hW
  obtain ⟨e1, -, e2⟩ := own_sh1 h0 (by omega)
  rw [e1, e2, (hb _ h1).1, (hb _ h1).2]
  have e : cs.getD p1.toNatClampNeg 0 = cs[p1.toNatClampNeg] := by simp [List.getD_eq_getElem?_getD, h1]
  have := hr _ (List.getElem_mem h1)
  rw [e]
  exact StrChars.pair_says this.1 this.2
theorem own_inb2 {cs bs : List Int32} {nb p1 : Int32} (hW : own_wide cs bs nb) (h0 : ¬ p1 < 0) (h1 : p1.toNatClampNeg < cs.length) : (¬ (p1 <<< ((1 : Int32) &&& 31)) < 0 ∧ (p1 <<< ((1 : Int32) &&& 31)) < nb) ∧ (¬ ((p1 <<< ((1 : Int32) &&& 31)) + (1 : Int32)) < 0 ∧ ((p1 <<< ((1 : Int32) &&& 31)) + (1 : Int32)) < nb) := by
  obtain ⟨hn, h9, -, -, -⟩ := hW
  have e := c_ishl p1 (1 : Int32) 1 (by decide)
  have r := rng32 (p1 <<< ((1 : Int32) &&& 31))
  have q := own_nat h0
  have r2 := rng32 ((p1 <<< ((1 : Int32) &&& 31)) + (1 : Int32))
  have e2 := c_iadd (p1 <<< ((1 : Int32) &&& 31)) (1 : Int32)
  have e3 : (1 : Int32).toInt = 1 := by decide
  have e4 := own_z0
  have e5 : nb.toInt = 2 * cs.length := by rw [hn, Int32.toInt_ofNat_small (by omega)]; omega
  simp only [Int32.lt_iff_toInt_lt]
  omega
theorem own_lo2 (x : Int32) : x.toInt8.toInt32.toInt8.toInt32 = StrChars.lo8 x := by
  show x.toInt8.toInt32.toInt8.toInt32 = x.toInt8.toInt32
  simp
theorem own_sr0 (x : Int32) : (x >>> ((0 : Int32) &&& 31)) = x := by
  apply Int32.toInt_inj.mp
  rw [c_ishr x (0 : Int32) 0 (by decide)]
  simp
theorem own_pc {bs : List Int32} {p1 p2 : Int32} (h0 : ¬ p1 < 0) (h1 : p1.toNatClampNeg < 10) :
    (bs.set (p1 <<< ((1 : Int32) &&& 31)).toNatClampNeg ((p2 >>> ((0 : Int32) &&& 31)).toInt8.toInt32.toInt8.toInt32)).set ((p1 <<< ((1 : Int32) &&& 31)) + (1 : Int32)).toNatClampNeg ((p2 >>> ((8 : Int32) &&& 31)).toInt8.toInt32.toInt8.toInt32) = (bs.set (2 * p1.toNatClampNeg) (StrChars.lo8 p2)).set (2 * p1.toNatClampNeg + 1) (StrChars.hi8 p2) := by
  obtain ⟨e1, -, e2⟩ := own_sh1 h0 h1
  rw [e1, e2, own_lo2, own_lo2, own_sr0]
  rfl
theorem own_gs {bs : List Int32} {j : Nat} {x : Int32} (h : j < bs.length) : (bs.set j x).getD j 0 = x := by
  rw [List.getD_eq_getElem?_getD, List.getElem?_set_self h]; rfl
theorem own_gn {bs : List Int32} {j k : Nat} {x : Int32} (h : j ≠ k) : (bs.set j x).getD k 0 = bs.getD k 0 := by
  rw [List.getD_eq_getElem?_getD, List.getElem?_set_ne h, ← List.getD_eq_getElem?_getD]
theorem own_halfS {cs bs : List Int32} {i : Nat} (h : own_half cs bs i) (hi : i < cs.length) : own_half cs ((bs.set (2 * i) (StrChars.lo8 (cs.getD i 0))).set (2 * i + 1) (StrChars.hi8 (cs.getD i 0))) (i + 1) := by
  obtain ⟨hl, hb⟩ := h
  refine ⟨by rw [List.length_set, List.length_set]; exact hl, fun j hj => ?_⟩
  by_cases q : j = i
  · subst q
    rw [own_gn (by omega), own_gs (by omega), own_gs (by rw [List.length_set]; omega)]
    exact ⟨rfl, rfl⟩
  · rw [own_gn (by omega), own_gn (by omega), own_gn (by omega), own_gn (by omega)]
    exact hb j (by omega)
theorem own_half0 (cs : List Int32) {n : Int32} (hn : ¬ n < 0) (h9 : n.toNatClampNeg < 10) (hl : cs.length = n.toNatClampNeg) : own_half cs (List.replicate (n <<< ((1 : Int32) &&& 31)).toNatClampNeg (0 : Int32)) 0 := ⟨by rw [List.length_replicate, (own_sh1 hn h9).1, hl], fun i hi => absurd hi (Nat.not_lt_zero _)⟩
theorem own_halfE {cs bs : List Int32} {n : Int32} (hn : ¬ n < 0) (h9 : n.toNatClampNeg < 10) (hl : cs.length = n.toNatClampNeg) (hr : ∀ c ∈ cs, ¬ c < 0 ∧ ¬ (65535 : Int32) < c) (h : own_half cs bs cs.length) : own_wide cs bs (n <<< ((1 : Int32) &&& 31)) := by
  refine ⟨?_, by omega, hr, h.1, h.2⟩
  apply Int32.toInt_inj.mp
  rw [Int32.toInt_ofNat_small (by omega), (own_sh1 hn h9).2.1]
  have := own_nat hn
  omega
theorem own_first {cs : List Int32} (h : ¬ ∀ c ∈ cs, ¬ (255 : Int32) < c) : ∃ k, k < cs.length ∧ (255 : Int32) < cs.getD k 0 ∧ ∀ j, j < k → ¬ (255 : Int32) < cs.getD j 0 := by
  induction cs with
  | nil => exact absurd (fun c hc => by cases hc) h
  | cons a t ih =>
    by_cases q : (255 : Int32) < a
    · exact ⟨0, by simp, by simpa using q, fun j hj => absurd hj (Nat.not_lt_zero _)⟩
    · obtain ⟨k, h1, h2, h3⟩ := ih (fun z => h (fun c hc => by
        rcases List.mem_cons.mp hc with rfl | hc
        · exact q
        · exact z c hc))
      refine ⟨k + 1, by simpa using h1, by simpa using h2, fun j hj => ?_⟩
      cases j with
      | zero => simpa using q
      | succ j => simpa using h3 j (by omega)
theorem own_ncc (y : Int32) : narrow .char (.int y.toUInt32.toUInt16.toUInt32.toInt32) = .int y.toUInt32.toUInt16.toUInt32.toInt32 := by
  obtain ⟨-, h0, h1⟩ := c_i2c y
  refine StrChars.narrow_ch ?_ ?_
  · rw [Int32.lt_iff_toInt_lt, own_z0]; omega
  · rw [Int32.lt_iff_toInt_lt, show (65535 : Int32).toInt = 65535 from by decide]; omega
theorem own_r16 (y : Int32) : ¬ y.toUInt32.toUInt16.toUInt32.toInt32 < 0 ∧ ¬ (65535 : Int32) < y.toUInt32.toUInt16.toUInt32.toInt32 := by
  obtain ⟨-, h0, h1⟩ := c_i2c y
  rw [Int32.lt_iff_toInt_lt, Int32.lt_iff_toInt_lt, own_z0, show (65535 : Int32).toInt = 65535 from by decide]
  omega
theorem own_nar16 {z : Int32} (h : ¬ z < 0 ∧ ¬ (65535 : Int32) < z) : nar .char z = z := by
  have q : Value.int z.toUInt32.toUInt16.toUInt32.toInt32 = .int z := StrChars.narrow_ch h.1 h.2
  exact Value.int.inj q
theorem own_getR16 {cs : List Int32} (h : ∀ c ∈ cs, ¬ c < 0 ∧ ¬ (65535 : Int32) < c) {j : Nat} (hj : j < cs.length) : narrow .char (.int (cs.getD j 0)) = .int (cs.getD j 0) := by
  have e : cs.getD j 0 = cs[j] := by simp [List.getD_eq_getElem?_getD, hj]
  have := h _ (List.getElem_mem hj)
  rw [e]; exact StrChars.narrow_ch this.1 this.2
def own_pre (xs cs : List Int32) (i : Nat) : Prop := ∀ j, j < i → j < cs.length → cs.getD j 0 = xs.getD j 0
theorem own_preS {xs cs : List Int32} {i : Nat} (h : own_pre xs cs i) (hi : cs.length ≤ i) : own_pre xs cs (i + 1) := fun j _ hl => h j (by omega) hl
theorem own_preT {xs cs : List Int32} {i : Nat} {z : Int32} (h : own_pre xs cs i) (hz : nar .char z = xs.getD i 0) : own_pre xs (cs.set i (nar .char z)) (i + 1) := fun j hj hl => by
  rw [List.length_set] at hl
  by_cases q : j = i
  · subst q
    rw [← hz]
    simp [List.getD_eq_getElem?_getD, List.getElem?_set, hl]
  · rw [← h j (by omega) hl]
    simp only [List.getD_eq_getElem?_getD, List.getElem?_set]
    rw [if_neg (by omega)]
theorem own_preR {xs cs : List Int32} {n : Nat} (h : own_pre xs cs n) (hn : cs.length ≤ n) (hx : ∀ j, j < n → ¬ xs.getD j 0 < 0 ∧ ¬ (65535 : Int32) < xs.getD j 0) : ∀ c ∈ cs, ¬ c < 0 ∧ ¬ (65535 : Int32) < c := fun c hc => by
  obtain ⟨j, hj, rfl⟩ := List.getElem_of_mem hc
  have e : cs.getD j 0 = cs[j] := by simp [List.getD_eq_getElem?_getD, hj]
  have := hx j (by omega)
  rw [← h j (by omega) hj, e] at this
  exact this
def own_v (cs : List Int32) (i : Nat) : Int32 := if own_w cs i = 0 then (0 : Int32) else (1 : Int32)
theorem own_w01 (cs : List Int32) (i : Nat) : own_w cs i = 0 ∨ own_w cs i = 1 := by
  induction i with
  | zero => exact Or.inl rfl
  | succ i ih =>
    unfold own_w
    rcases ih with e | e <;> rw [e] <;> split <;> decide
theorem own_vA {cs : List Int32} {i : Nat} (h : ¬ own_v cs i = 0) : (1 : Int32) = own_v cs (i + 1) := by
  rcases own_w01 cs i with e | e
  · exact absurd (by simp [own_v, e]) h
  · have : own_w cs (i + 1) = 1 := by unfold own_w; rw [e]; split <;> decide
    simp [own_v, this]
theorem own_vB {cs : List Int32} {i : Nat} (h : (255 : Int32) < cs.getD i 0) : (1 : Int32) = own_v cs (i + 1) := by
  have : own_w cs (i + 1) = 1 := by unfold own_w; rw [if_pos h]; rcases own_w01 cs i with e | e <;> rw [e] <;> decide
  simp [own_v, this]
theorem own_vC {cs : List Int32} {i : Nat} (h : own_v cs i = 0) (h' : ¬ (255 : Int32) < cs.getD i 0) : (0 : Int32) = own_v cs (i + 1) := by
  have e : own_w cs i = 0 := by
    rcases own_w01 cs i with e | e
    · exact e
    · simp [own_v, e] at h
  have : own_w cs (i + 1) = 0 := by unfold own_w; rw [if_neg h', e]; decide
  simp [own_v, this]
theorem own_gx {xs cs : List Int32} {n j : Int32} {i : Nat} (h : own_pre xs cs 9) (hl : cs.length = n.toNatClampNeg) (hj : j.toNatClampNeg = i) (h0 : ¬ j < 0) (h9 : i < 9) (hn : j < n) : cs.getD i 0 = xs.getD i 0 := h i h9 (by
  have := own_clt h0 hn
  omega)
theorem own_gz {cs : List Int32} {n j : Int32} {i : Nat} (hl : cs.length = n.toNatClampNeg) (hj : j.toNatClampNeg = i) (h0 : ¬ j < 0) (hn : ¬ j < n) : ¬ (255 : Int32) < cs.getD i 0 := by
  have h1 : cs.length ≤ i := by
    rw [Int32.lt_iff_toInt_lt] at hn h0
    have := own_z0
    rw [hl, ← hj]
    simp only [Int32.toNatClampNeg]
    omega
  rw [List.getD_eq_getElem?_getD, List.getElem?_eq_none h1]
  decide
theorem own_br {cs : List Int32} (h : ∀ c ∈ cs, ¬ c < 0 ∧ ¬ (65535 : Int32) < c) (j : Nat) : 0 ≤ (own_b cs j).toInt ∧ (own_b cs j).toInt < 256 := by
  unfold own_b
  split
  · rename_i q
    have q2 : ¬ (255 : Int32) < cs.getD j 0 := fun z => by
      unfold own_w at q
      rw [if_pos z] at q
      rcases own_w01 cs j with e | e <;> rw [e] at q <;> revert q <;> decide
    have q3 : ¬ cs.getD j 0 < 0 := by
      by_cases hj : j < cs.length
      · have e : cs.getD j 0 = cs[j] := by simp [List.getD_eq_getElem?_getD, hj]
        rw [e]; exact (h _ (List.getElem_mem hj)).1
      · rw [List.getD_eq_getElem?_getD, List.getElem?_eq_none (by omega)]; decide
    rw [Int32.lt_iff_toInt_lt] at q2 q3
    have := own_z0
    have e2 : (255 : Int32).toInt = 255 := by decide
    omega
  · decide
/-- the key's unsigned value behind j signs -/
def own_n (cs : List Int32) : Nat → Int
  | 0 => 0
  | j + 1 => 256 * own_n cs j + (own_b cs j).toInt
theorem own_k1 {k : Int64} {b : Int32} {N : Int} (h : k.toInt % 18446744073709551616 = N) (h1 : N < 72057594037927936) (hb : 0 ≤ b.toInt ∧ b.toInt < 256) : ((k <<< ((8 : Int32) &&& 0x3f).toInt64) ||| b.toInt64).toInt % 18446744073709551616 = 256 * N + b.toInt := by
  have e3 := c_lshl k (8 : Int32) 8 (by decide)
  have r3 := rng64 (k <<< ((8 : Int32) &&& 0x3f).toInt64)
  have e1 := c_i2l b
  have e4 := c_orL (k <<< ((8 : Int32) &&& 0x3f).toInt64) b.toInt64 8 (by decide) 256 (by decide) (by omega) (by omega) (by omega)
  have r4 := rng64 ((k <<< ((8 : Int32) &&& 0x3f).toInt64) ||| b.toInt64)
  omega
theorem own_kS (cs : List Int32) (j : Nat) {N : Int} (h : (own_k cs j).toInt % 18446744073709551616 = N) (h1 : N < 72057594037927936) (hb : 0 ≤ (own_b cs j).toInt ∧ (own_b cs j).toInt < 256) : (own_k cs (j + 1)).toInt % 18446744073709551616 = 256 * N + (own_b cs j).toInt := own_k1 h h1 hb
theorem own_k8 {cs : List Int32} (h : ∀ c ∈ cs, ¬ c < 0 ∧ ¬ (65535 : Int32) < c) : (own_k cs 8).toInt % 18446744073709551616 = own_n cs 8 := by
  have b0 := own_br h 0
  have b1 := own_br h 1
  have b2 := own_br h 2
  have b3 := own_br h 3
  have b4 := own_br h 4
  have b5 := own_br h 5
  have b6 := own_br h 6
  have b7 := own_br h 7
  have k0 : (own_k cs 0).toInt % 18446744073709551616 = 0 := by show (0 : Int64).toInt % 18446744073709551616 = 0; decide
  have k1 := own_kS cs 0 k0 (by omega) b0
  have k2 := own_kS cs 1 k1 (by omega) b1
  have k3 := own_kS cs 2 k2 (by omega) b2
  have k4 := own_kS cs 3 k3 (by omega) b3
  have k5 := own_kS cs 4 k4 (by omega) b4
  have k6 := own_kS cs 5 k5 (by omega) b5
  have k7 := own_kS cs 6 k6 (by omega) b6
  have k8 := own_kS cs 7 k7 (by omega) b7
  simp only [own_n]
  exact k8
theorem own_byte (k : Int64) (q : Int32) (s : Nat) (hs : q.toBitVec.toNat % 64 = s) : ((((k.toUInt64 >>> (q &&& 0x3f).toInt64.toUInt64).toInt64) &&& (255 : Int64))).toInt = ((k.toInt % 18446744073709551616) / (2 ^ s : Nat)) % 256 := by
  rw [c_maskL _ (255 : Int64) 8 (by decide) (by decide)]
  rcases Nat.eq_zero_or_pos s with z | z
  · subst z
    have e0 : (q &&& 0x3f).toInt64.toUInt64 = 0 := by
      have e1 := Jvm.RoadKit.c_mask q 0x3f 6 (by decide) (by decide)
      have r := rng32 q
      have e2 : (q &&& 0x3f).toInt = 0 := by
        rw [e1]
        have e3 : q.toInt = q.toBitVec.toInt := rfl
        rw [e3, BitVec.toInt_eq_toNat_cond]
        split <;> omega
      have e4 : (q &&& 0x3f) = 0 := Int32.toInt_inj.mp (by rw [e2]; decide)
      rw [e4]; rfl
    rw [e0]
    have e5 : (k.toUInt64 >>> (0 : UInt64)).toInt64 = k := by simp
    rw [e5]
    have r := rng64 k
    rw [show ((2 ^ 0 : Nat) : Int) = 1 from rfl, show ((2 ^ 8 : Nat) : Int) = 256 from rfl, Int.ediv_one]
    omega
  · rw [c_lushr k q s hs z]
    rfl
def own_atP (k : Int64) (i w c n : Int32) : Prop := (((k.toUInt64 >>> (((56 : Int32) - ((8 : Int32) * i)) &&& 0x3f).toInt64.toUInt64).toInt64) &&& (255 : Int64)) = (if w = (0 : Int32) then (if i < n then c.toInt64 else (0 : Int32).toInt64) else (255 : Int64))
theorem own_atE {xs cs : List Int32} {n j c : Int32} (i : Nat) (h : ∀ c ∈ cs, ¬ c < 0 ∧ ¬ (65535 : Int32) < c) (hp : own_pre xs cs 9) (hl : cs.length = n.toNatClampNeg) (hj : j.toNatClampNeg = i) (h0 : ¬ j < 0) (h8 : i < 8) (hc : c = xs.getD i 0)
    (hb : ((own_n cs 8) / (2 ^ (56 - 8 * i) : Nat)) % 256 = (own_b cs i).toInt) (hs : ((56 : Int32) - ((8 : Int32) * j)).toBitVec.toNat % 64 = 56 - 8 * i) : own_atP (own_k cs 8) j (own_v cs (i + 1)) c n := by
  unfold own_atP
  apply Int64.toInt_inj.mp
  rw [own_byte _ _ _ hs, own_k8 h, hb]
  unfold own_b own_v
  by_cases q : own_w cs (i + 1) = 0
  · rw [if_pos q, if_pos q, if_pos rfl]
    split
    · rename_i q2
      rw [own_gx hp hl hj h0 (by omega) q2, c_i2l, hc]
    · rename_i q2
      have h1 : cs.length ≤ i := by
        rw [Int32.lt_iff_toInt_lt] at q2 h0
        have := own_z0
        rw [hl, ← hj]
        simp only [Int32.toNatClampNeg]
        omega
      rw [List.getD_eq_getElem?_getD, List.getElem?_eq_none h1, c_i2l]
      rfl
  · rw [if_neg q, if_neg q, if_neg (by decide)]
    decide
theorem own_n8 {cs : List Int32} (h : ∀ c ∈ cs, ¬ c < 0 ∧ ¬ (65535 : Int32) < c) : ((own_n cs 8) / (2 ^ (56 - 8 * 0) : Nat)) % 256 = (own_b cs 0).toInt ∧ ((own_n cs 8) / (2 ^ (56 - 8 * 1) : Nat)) % 256 = (own_b cs 1).toInt ∧ ((own_n cs 8) / (2 ^ (56 - 8 * 2) : Nat)) % 256 = (own_b cs 2).toInt ∧ ((own_n cs 8) / (2 ^ (56 - 8 * 3) : Nat)) % 256 = (own_b cs 3).toInt ∧ ((own_n cs 8) / (2 ^ (56 - 8 * 4) : Nat)) % 256 = (own_b cs 4).toInt ∧ ((own_n cs 8) / (2 ^ (56 - 8 * 5) : Nat)) % 256 = (own_b cs 5).toInt ∧ ((own_n cs 8) / (2 ^ (56 - 8 * 6) : Nat)) % 256 = (own_b cs 6).toInt ∧ ((own_n cs 8) / (2 ^ (56 - 8 * 7) : Nat)) % 256 = (own_b cs 7).toInt := by
  have b0 := own_br h 0
  have b1 := own_br h 1
  have b2 := own_br h 2
  have b3 := own_br h 3
  have b4 := own_br h 4
  have b5 := own_br h 5
  have b6 := own_br h 6
  have b7 := own_br h 7
  simp only [own_n]
  generalize (own_b cs 0).toInt = y0 at *
  generalize (own_b cs 1).toInt = y1 at *
  generalize (own_b cs 2).toInt = y2 at *
  generalize (own_b cs 3).toInt = y3 at *
  generalize (own_b cs 4).toInt = y4 at *
  generalize (own_b cs 5).toInt = y5 at *
  generalize (own_b cs 6).toInt = y6 at *
  generalize (own_b cs 7).toInt = y7 at *
  refine ⟨?_, ?_, ?_, ?_, ?_, ?_, ?_, ?_⟩ <;> omega
theorem d21_0 : decode jdk_52_method_6_code 0 = .ok (.aload_n 0, 1) := by decide +kernel
theorem d21_1 : decode jdk_52_method_6_code 1 = .ok (.arraylength, 1) := by decide +kernel
theorem d21_2 : decode jdk_52_method_6_code 2 = .ok (.iconst 1, 1) := by decide +kernel
theorem d21_3 : decode jdk_52_method_6_code 3 = .ok (.ishr, 1) := by decide +kernel
theorem d21_4 : decode jdk_52_method_6_code 4 = .ok (.ireturn, 1) := by decide +kernel
theorem pn_0 : plainName "java/lang/StringUTF16" = true := by first | (simp [plainName, overriddenIn]; done) | decide +kernel
theorem ef_ULen (m : MethodId) (a0 : Addr) : entryFrame m #[(.ref a0)] 1 = mkF m 0 #[.val (.ref a0)] [] := by first | (simp [entryFrame, mkF, argsToLocals, Value.category]; done) | rfl
def QULen (Z : State) (a0 : Addr) (kb : ClassId) (bs : List Int32) (nb : Int32) (h0 : Heap) (n0 : Nat) (v : Option Value) (h : Heap) (L : List Loc) : Prop := v = some (.int (nb >>> ((1 : Int32) &&& 31))) ∧ Fr n0 L ∧ h = h0
set_option maxRecDepth 65536 in
set_option maxHeartbeats 40000000 in
theorem rmULen (l : Launch) (Z : State) (aV : Array Value) (hw : ∀ d ∈ tables_1, d.before aV Z = true) (ws : List Jvm.Cond) (a0 : Addr) (kb : ClassId) (bs : List Int32) (nb : Int32) (h0 : Heap) (n0 : Nat) (Zn : n0 ≤ h0.size) (V_a0 : Arv Z h0 a0 kb .byte nb (bs.map Value.int) (.int (0 : Int32))) :
    MetFree l (⟨"java/lang/StringUTF16", "length", "([B)I"⟩ : MethodName) (head1 (Jvm.Cond.code (⟨"java/lang/StringUTF16", "length", "([B)I"⟩ : MethodName) jdk_52_method_6_code 1 (some .int) :: ws) ({ frames := 0, cells := 0, slots := 0, locals := 0 } : Room)) (fun a U => a = #[(.ref a0)] ∧ Z.Warmed39 U.vm ∧ U.heap = h0) (fun _ _ _ _ _ => True) (fun _ U o U' => ∃ v L, o = .returned v ∧ QULen Z a0 kb bs nb h0 n0 v U'.heap L ∧ FrameEnd U o U' L ({ frames := 0, cells := 0, slots := 0, locals := 0 } : Room).cells ({ frames := 0, cells := 0, slots := 0, locals := 0 } : Room).slots) := by
  refine MetFree.of_bodySF (plainFor_of_name pn_0) hisR ?_
  intro p e s m args below meth c s₁ Bd hml0 hP hK
  obtain ⟨rfl, hZ, hh⟩ := hP
  have hx := Bd.exec
  have hby := Bd.bytes
  have hml : c.maxLocals = 1 := hml0
  have hown : s.vm.findClass "java/lang/StringUTF16" = some m.cls := findClass_of_methodNamed Bd.named
  have hnm := (name_of_methodNamed Bd.named Bd.method).1
  have X0 : Stand p l e ({ frames := 0, cells := 0, slots := 0, locals := 0 } : Room) s m #[(.ref a0)] below meth c s₁ [] 0 0 := Stand.of_body Bd
  have e0 : s₁.heap = h0 := by rw [← hh, Bd.state]; rfl
  have N0 := Fr.nil n0
  have Kp := Keep.refl h0 []
  show Run p e below (Ends s (QULen Z a0 kb bs nb h0 n0) ({ frames := 0, cells := 0, slots := 0, locals := 0 } : Room).cells ({ frames := 0, cells := 0, slots := 0, locals := 0 } : Room).slots) _
  refine Run.st (S' := s₁.setTop (mkF m 0 #[.val (.ref a0)] [])) (fun t k => castTop (ef_ULen m a0) k) ?_
  refine Run.st (S' := s₁.setTop (mkF m 1 #[.val (.ref a0)] [(.ref a0)])) (fun _ k => XS.aloadN X0.here hx rfl (hb hby d21_0) rfl rfl k) ?_
  obtain ⟨cl1, Ar1, -, Sa1, Na1, -, -⟩ := id V_a0
  refine Run.st (S' := s₁.setTop (mkF m 2 #[.val (.ref a0)] [(.int nb)])) (fun _ k => X0.arraylength hx (by rw [e0]; exact Ar1.1) (State.isArrayOf_alike hZ.alike Ar1.2.1) (g := (mkF m 1 #[.val (.ref a0)] [(.ref a0)])) rfl rfl (hb hby d21_1) _ (by rw [len_of Sa1 Na1]; exact k)) ?_
  refine Run.st (S' := s₁.setTop (mkF m 4 #[.val (.ref a0)] [(.int (nb >>> ((1 : Int32) &&& 31)))])) (fun _ k => XS.iconst X0.here hx rfl (hb hby d21_2) (XS.ishr X0.here hx rfl (hb hby d21_3) rfl k)) ?_
  refine Run.out X0 hx Bd.notSynchronized Bd.returns rfl (Or.inl ⟨rfl, by simp, _, rfl⟩) (hb hby d21_4) (by decide) (by decide) ?_
  rw [e0]
  exact ⟨rfl, N0, rfl⟩
theorem d23_0 : decode jdk_41_method_11_code 0 = .ok (.iload_n 0, 1) := by decide +kernel
theorem d23_1 : decode jdk_41_method_11_code 1 = .ok (.ifCond .lt 8, 3) := by decide +kernel
theorem d23_4 : decode jdk_41_method_11_code 4 = .ok (.iload_n 0, 1) := by decide +kernel
theorem d23_5 : decode jdk_41_method_11_code 5 = .ok (.iload_n 1, 1) := by decide +kernel
theorem d23_6 : decode jdk_41_method_11_code 6 = .ok (.if_icmp .lt 10, 3) := by decide +kernel
theorem d23_16 : decode jdk_41_method_11_code 16 = .ok (.iload_n 0, 1) := by decide +kernel
theorem d23_17 : decode jdk_41_method_11_code 17 = .ok (.ireturn, 1) := by decide +kernel
theorem pn_1 : plainName "jdk/internal/util/Preconditions" = true := by first | (simp [plainName, overriddenIn]; done) | decide +kernel
theorem ef_PCk (m : MethodId) (p0 : Int32) (p1 : Int32) (fm : Value) (r_fm : fm.isRef = true) : entryFrame m #[(.int p0), (.int p1), fm] 3 = mkF m 0 #[.val (.int p0), .val (.int p1), .val fm] [] := by rcases ref_cases r_fm with rfl | ⟨_, rfl⟩ <;> first | (simp [entryFrame, mkF, argsToLocals, Value.category]; done) | rfl
def QPCk (Z : State) (p0 : Int32) (p1 : Int32) (fm : Value) (h0 : Heap) (n0 : Nat) (v : Option Value) (h : Heap) (L : List Loc) : Prop := v = some (.int p0) ∧ Fr n0 L ∧ h = h0
set_option maxRecDepth 65536 in
set_option maxHeartbeats 40000000 in
theorem rmPCk (l : Launch) (Z : State) (aV : Array Value) (hw : ∀ d ∈ tables_1, d.before aV Z = true) (ws : List Jvm.Cond) (p0 : Int32) (p1 : Int32) (fm : Value) (h0 : Heap) (n0 : Nat) (Zn : n0 ≤ h0.size) (rfm : fm.isRef = true) (h0i : ¬ p0 < 0) (h1i : p0 < p1) :
    MetFree l (⟨"jdk/internal/util/Preconditions", "checkIndex", "(IILjava/util/function/BiFunction;)I"⟩ : MethodName) (head1 (Jvm.Cond.code (⟨"jdk/internal/util/Preconditions", "checkIndex", "(IILjava/util/function/BiFunction;)I"⟩ : MethodName) jdk_41_method_11_code 3 (some .int) :: ws) ({ frames := 0, cells := 0, slots := 0, locals := 0 } : Room)) (fun a U => a = #[(.int p0), (.int p1), fm] ∧ Z.Warmed39 U.vm ∧ U.heap = h0) (fun _ _ _ _ _ => True) (fun _ U o U' => ∃ v L, o = .returned v ∧ QPCk Z p0 p1 fm h0 n0 v U'.heap L ∧ FrameEnd U o U' L ({ frames := 0, cells := 0, slots := 0, locals := 0 } : Room).cells ({ frames := 0, cells := 0, slots := 0, locals := 0 } : Room).slots) := by
  refine MetFree.of_bodySF (plainFor_of_name pn_1) hisR ?_
  intro p e s m args below meth c s₁ Bd hml0 hP hK
  obtain ⟨rfl, hZ, hh⟩ := hP
  have hx := Bd.exec
  have hby := Bd.bytes
  have hml : c.maxLocals = 3 := hml0
  have hown : s.vm.findClass "jdk/internal/util/Preconditions" = some m.cls := findClass_of_methodNamed Bd.named
  have hnm := (name_of_methodNamed Bd.named Bd.method).1
  have X0 : Stand p l e ({ frames := 0, cells := 0, slots := 0, locals := 0 } : Room) s m #[(.int p0), (.int p1), fm] below meth c s₁ [] 0 0 := Stand.of_body Bd
  have e0 : s₁.heap = h0 := by rw [← hh, Bd.state]; rfl
  have N0 := Fr.nil n0
  have Kp := Keep.refl h0 []
  show Run p e below (Ends s (QPCk Z p0 p1 fm h0 n0) ({ frames := 0, cells := 0, slots := 0, locals := 0 } : Room).cells ({ frames := 0, cells := 0, slots := 0, locals := 0 } : Room).slots) _
  refine Run.st (S' := s₁.setTop (mkF m 0 #[.val (.int p0), .val (.int p1), .val fm] [])) (fun t k => castTop (ef_PCk m p0 p1 fm rfm) k) ?_
  refine Run.st (S' := s₁.setTop (mkF m 17 #[.val (.int p0), .val (.int p1), .val fm] [(.int p0)])) (fun _ k => XS.iloadN X0.here hx rfl (hb hby d23_0) rfl (XS.ifNo X0.here hx rfl (hb hby d23_1) rfl ((if0 _ _).trans (flt (show ¬ (p0 < (0 : Int32)) from h0i)).1) (XS.iloadN X0.here hx rfl (hb hby d23_4) rfl (XS.iloadN X0.here hx rfl (hb hby d23_5) rfl (XS.icmpYes X0.here hx rfl (pc0 := 6) (pc' := 16) rfl (hb hby d23_6) rfl (tlt (show p0 < p1 from h1i)).1 (by decide) (by decide) (XS.iloadN X0.here hx rfl (hb hby d23_16) rfl k)))))) ?_
  refine Run.out X0 hx Bd.notSynchronized Bd.returns rfl (Or.inl ⟨rfl, by simp, _, rfl⟩) (hb hby d23_17) (by decide) (by decide) ?_
  rw [e0]
  exact ⟨rfl, N0, rfl⟩
theorem pd_0 : parseMethodDescriptor "(IILjava/util/function/BiFunction;)I" = some ⟨[.int, .int, (.object "java/util/function/BiFunction")], some .int⟩ := by decide +kernel
theorem d22_0 : decode jdk_42_method_155_code 0 = .ok (.iload_n 0, 1) := by decide +kernel
theorem d22_1 : decode jdk_42_method_155_code 1 = .ok (.iload_n 1, 1) := by decide +kernel
theorem d22_2 : decode jdk_42_method_155_code 2 = .ok (.getstatic 1053, 3) := by decide +kernel
theorem d22_5 : decode jdk_42_method_155_code 5 = .ok (.invokestatic 1059, 3) := by decide +kernel
theorem d22_8 : decode jdk_42_method_155_code 8 = .ok (.pop, 1) := by decide +kernel
theorem d22_9 : decode jdk_42_method_155_code 9 = .ok (.return_, 1) := by decide +kernel
theorem pn_2 : plainName "java/lang/String" = true := by first | (simp [plainName, overriddenIn]; done) | decide +kernel
theorem ef_SCk (m : MethodId) (p0 : Int32) (p1 : Int32) : entryFrame m #[(.int p0), (.int p1)] 2 = mkF m 0 #[.val (.int p0), .val (.int p1)] [] := by first | (simp [entryFrame, mkF, argsToLocals, Value.category]; done) | rfl
def QSCk (Z : State) (p0 : Int32) (p1 : Int32) (fm : Value) (h0 : Heap) (n0 : Nat) (v : Option Value) (h : Heap) (L : List Loc) : Prop := v = none ∧ Fr n0 L ∧ h = h0
set_option maxRecDepth 65536 in
set_option maxHeartbeats 40000000 in
theorem rmSCk (l : Launch) (Z : State) (aV : Array Value) (hw : ∀ d ∈ tables_1, d.before aV Z = true) (ws : List Jvm.Cond) (p0 : Int32) (p1 : Int32) (fm : Value) (h0 : Heap) (n0 : Nat) (Zn : n0 ≤ h0.size) (OL : Old Z n0 h0) (rfm : fm.isRef = true) (h0i : ¬ p0 < 0) (h1i : p0 < p1) (S_sf : Sta Z Z.heap "jdk/internal/util/Preconditions" "SIOOBE_FORMATTER" "Ljava/util/function/BiFunction;" fm) :
    MetFree l (⟨"java/lang/String", "checkIndex", "(II)V"⟩ : MethodName) (head1 (Jvm.Cond.code (⟨"java/lang/String", "checkIndex", "(II)V"⟩ : MethodName) jdk_42_method_155_code 2 none :: ws) ({ frames := 1, cells := 0, slots := 0, locals := 14 } : Room)) (fun a U => a = #[(.int p0), (.int p1)] ∧ Z.Warmed39 U.vm ∧ U.heap = h0) (fun _ _ _ _ _ => True) (fun _ U o U' => ∃ v L, o = .returned v ∧ QSCk Z p0 p1 fm h0 n0 v U'.heap L ∧ FrameEnd U o U' L ({ frames := 1, cells := 0, slots := 0, locals := 14 } : Room).cells ({ frames := 1, cells := 0, slots := 0, locals := 14 } : Room).slots) := by
  refine MetFree.of_bodySF (plainFor_of_name pn_2) hisR ?_
  intro p e s m args below meth c s₁ Bd hml0 hP hK
  obtain ⟨rfl, hZ, hh⟩ := hP
  have hx := Bd.exec
  have hby := Bd.bytes
  have hml : c.maxLocals = 2 := hml0
  have hown : s.vm.findClass "java/lang/String" = some m.cls := findClass_of_methodNamed Bd.named
  have hnm := (name_of_methodNamed Bd.named Bd.method).1
  have X0 : Stand p l e ({ frames := 1, cells := 0, slots := 0, locals := 14 } : Room) s m #[(.int p0), (.int p1)] below meth c s₁ [] 0 0 := Stand.of_body Bd
  have e0 : s₁.heap = h0 := by rw [← hh, Bd.state]; rfl
  have N0 := Fr.nil n0
  have Kp := Keep.refl h0 []
  show Run p e below (Ends s (QSCk Z p0 p1 fm h0 n0) ({ frames := 1, cells := 0, slots := 0, locals := 14 } : Room).cells ({ frames := 1, cells := 0, slots := 0, locals := 14 } : Room).slots) _
  refine Run.st (S' := s₁.setTop (mkF m 0 #[.val (.int p0), .val (.int p1)] [])) (fun t k => castTop (ef_SCk m p0 p1) k) ?_
  refine Run.st (S' := s₁.setTop (mkF m 2 #[.val (.int p0), .val (.int p1)] [(.int p1), (.int p0)])) (fun _ k => XS.iloadN X0.here hx rfl (hb hby d22_0) rfl (XS.iloadN X0.here hx rfl (hb hby d22_1) rfl k)) ?_
  have u_S_sf := S_sf.ext OL.2
  obtain ⟨T1, X1, e1, st1⟩ := getS2 X0 hx hZ hown (host := "") (Or.inl (hwi hw 96 rfl)) Via.refl e0 u_S_sf (g := (mkF m 2 #[.val (.int p0), .val (.int p1)] [(.int p1), (.int p0)])) rfl (hb hby d22_2)
  refine Run.st (S' := T1.setTop (mkF m 5 #[.val (.int p0), .val (.int p1)] [fm, (.int p1), (.int p0)])) (fun _ k => st1 _ k) ?_
  obtain ⟨_, _, ⟨T2, L2, k2, n2⟩, -, X2, ⟨Lc2, hQ2, l2, y2, z2⟩, st2⟩ := Jvm.LawKit.callS X1 hx (y := (⟨"jdk/internal/util/Preconditions", "checkIndex", "(IILjava/util/function/BiFunction;)I"⟩ : MethodName)) hown (mvT hZ (hwi hw 98 rfl)) (mvT hZ (hwi hw 99 rfl)) (mvT hZ (hwi hw 97 rfl)) (mvT hZ (hwi hw 100 rfl)) (by decide) (backOf (W := 0) (rmPCk l Z aV hw [] p0 p1 fm h0 n0 Zn rfm h0i h1i) hZ (hwi hw 100 rfl) (hwi hw 97 rfl) (by decide) (by decide)) (g := (mkF m 5 #[.val (.int p0), .val (.int p1)] [fm, (.int p1), (.int p0)])) rfl (by rw [hml]; rfl) (argsL := [(.int p0), (.int p1), fm]) (rest := []) (lenOf pd_0 rfl) rfl (by show 2 * 0 + _ ≤ _; exact Nat.le_of_eq rfl) (hb hby d22_5) (fun _ _ => ⟨rfl, e1, (by decide : 0 + 0 ≤ _), (by decide : 0 + 0 ≤ _)⟩)
  dsimp only [Pt.U, Pt.locs, Pt.cells, Pt.slots] at X2 l2 y2 z2 st2 hQ2
  replace l2 := l2.symm; replace y2 := y2.symm; replace z2 := z2.symm; subst l2 y2 z2
  obtain ⟨rfl, N2q, e2⟩ := hQ2
  have N2 := Fr.app N0 N2q
  refine Run.st (S' := T2.setTop (mkF m 9 #[.val (.int p0), .val (.int p1)] [])) (fun _ k => st2 _ (XS.pop X2.here hx rfl (hb hby d22_8) rfl rfl k)) ?_
  refine Run.outV X2 hx Bd.notSynchronized Bd.returns (hb hby d22_9) (by decide) (by decide) ?_
  rw [e2]
  exact ⟨rfl, N2, rfl⟩
theorem own_ck {cs bs : List Int32} {nb p1 : Int32} (hW : own_wide cs bs nb) (h0 : ¬ p1 < 0) (h1 : p1.toNatClampNeg < cs.length) : p1 < (nb >>> ((1 : Int32) &&& 31)) := by
  obtain ⟨hn, h9, -, -, -⟩ := hW
  have e5 : nb.toInt = 2 * cs.length := by rw [hn, Int32.toInt_ofNat_small (by omega)]; omega
  have e := c_ishr nb (1 : Int32) 1 (by decide)
  have q := own_nat h0
  rw [Int32.lt_iff_toInt_lt]
  omega
theorem own_len2 {cs bs : List Int32} {nb : Int32} (hW : own_wide cs bs nb) : (nb >>> ((1 : Int32) &&& 31)) = Int32.ofNat cs.length := by
  obtain ⟨hn, h9, -, -, -⟩ := hW
  have e5 : nb.toInt = 2 * cs.length := by rw [hn, Int32.toInt_ofNat_small (by omega)]; omega
  have e := c_ishr nb (1 : Int32) 1 (by decide)
  apply Int32.toInt_inj.mp
  rw [Int32.toInt_ofNat_small (by omega)]
  omega
theorem pd_1 : parseMethodDescriptor "([B)I" = some ⟨[(.array .byte)], some .int⟩ := by decide +kernel
theorem pd_2 : parseMethodDescriptor "(II)V" = some ⟨[.int, .int], none⟩ := by decide +kernel
theorem d20_0 : decode jdk_52_method_91_code 0 = .ok (.iload_n 0, 1) := by decide +kernel
theorem d20_1 : decode jdk_52_method_91_code 1 = .ok (.aload_n 1, 1) := by decide +kernel
theorem d20_2 : decode jdk_52_method_91_code 2 = .ok (.invokestatic 48, 3) := by decide +kernel
theorem d20_5 : decode jdk_52_method_91_code 5 = .ok (.invokestatic 414, 3) := by decide +kernel
theorem d20_8 : decode jdk_52_method_91_code 8 = .ok (.return_, 1) := by decide +kernel
theorem ef_UCk (m : MethodId) (p1 : Int32) (a1 : Addr) : entryFrame m #[(.int p1), (.ref a1)] 2 = mkF m 0 #[.val (.int p1), .val (.ref a1)] [] := by first | (simp [entryFrame, mkF, argsToLocals, Value.category]; done) | rfl
def QUCk (Z : State) (p1 : Int32) (a1 : Addr) (kb : ClassId) (bs : List Int32) (nb : Int32) (fm : Value) (cs : List Int32) (h0 : Heap) (n0 : Nat) (v : Option Value) (h : Heap) (L : List Loc) : Prop := v = none ∧ Fr n0 L ∧ h = h0
set_option maxRecDepth 65536 in
set_option maxHeartbeats 40000000 in
theorem rmUCk (l : Launch) (Z : State) (aV : Array Value) (hw : ∀ d ∈ tables_1, d.before aV Z = true) (ws : List Jvm.Cond) (p1 : Int32) (a1 : Addr) (kb : ClassId) (bs : List Int32) (nb : Int32) (fm : Value) (cs : List Int32) (h0 : Heap) (n0 : Nat) (Zn : n0 ≤ h0.size) (OL : Old Z n0 h0) (rfm : fm.isRef = true) (hW : own_wide cs bs nb) (hp0 : ¬ p1 < 0) (hpl : p1.toNatClampNeg < cs.length) (V_a1 : Arv Z h0 a1 kb .byte nb (bs.map Value.int) (.int (0 : Int32))) (S_sf : Sta Z Z.heap "jdk/internal/util/Preconditions" "SIOOBE_FORMATTER" "Ljava/util/function/BiFunction;" fm) :
    MetFree l (⟨"java/lang/StringUTF16", "checkIndex", "(I[B)V"⟩ : MethodName) (head1 (Jvm.Cond.code (⟨"java/lang/StringUTF16", "checkIndex", "(I[B)V"⟩ : MethodName) jdk_52_method_91_code 2 none :: ws) ({ frames := 2, cells := 0, slots := 0, locals := 27 } : Room)) (fun a U => a = #[(.int p1), (.ref a1)] ∧ Z.Warmed39 U.vm ∧ U.heap = h0) (fun _ _ _ _ _ => True) (fun _ U o U' => ∃ v L, o = .returned v ∧ QUCk Z p1 a1 kb bs nb fm cs h0 n0 v U'.heap L ∧ FrameEnd U o U' L ({ frames := 2, cells := 0, slots := 0, locals := 27 } : Room).cells ({ frames := 2, cells := 0, slots := 0, locals := 27 } : Room).slots) := by
  refine MetFree.of_bodySF (plainFor_of_name pn_0) hisR ?_
  intro p e s m args below meth c s₁ Bd hml0 hP hK
  obtain ⟨rfl, hZ, hh⟩ := hP
  have hx := Bd.exec
  have hby := Bd.bytes
  have hml : c.maxLocals = 2 := hml0
  have hown : s.vm.findClass "java/lang/StringUTF16" = some m.cls := findClass_of_methodNamed Bd.named
  have hnm := (name_of_methodNamed Bd.named Bd.method).1
  have X0 : Stand p l e ({ frames := 2, cells := 0, slots := 0, locals := 27 } : Room) s m #[(.int p1), (.ref a1)] below meth c s₁ [] 0 0 := Stand.of_body Bd
  have e0 : s₁.heap = h0 := by rw [← hh, Bd.state]; rfl
  have N0 := Fr.nil n0
  have Kp := Keep.refl h0 []
  show Run p e below (Ends s (QUCk Z p1 a1 kb bs nb fm cs h0 n0) ({ frames := 2, cells := 0, slots := 0, locals := 27 } : Room).cells ({ frames := 2, cells := 0, slots := 0, locals := 27 } : Room).slots) _
  refine Run.st (S' := s₁.setTop (mkF m 0 #[.val (.int p1), .val (.ref a1)] [])) (fun t k => castTop (ef_UCk m p1 a1) k) ?_
  refine Run.st (S' := s₁.setTop (mkF m 2 #[.val (.int p1), .val (.ref a1)] [(.ref a1), (.int p1)])) (fun _ k => XS.iloadN X0.here hx rfl (hb hby d20_0) rfl (XS.aloadN X0.here hx rfl (hb hby d20_1) rfl rfl k)) ?_
  obtain ⟨_, _, ⟨T1, L1, k1, n1⟩, -, X1, ⟨Lc1, hQ1, l1, y1, z1⟩, st1⟩ := Jvm.LawKit.callS X0 hx (y := (⟨"java/lang/StringUTF16", "length", "([B)I"⟩ : MethodName)) hown (mvT hZ (hwi hw 90 rfl)) (mvT hZ (hwi hw 91 rfl)) (mvT hZ (hwi hw 47 rfl)) (mvT hZ (hwi hw 92 rfl)) (by decide) (backOf (W := 1) (rmULen l Z aV hw [] a1 kb bs nb h0 n0 Zn V_a1) hZ (hwi hw 92 rfl) (hwi hw 47 rfl) (by decide) (by decide)) (g := (mkF m 2 #[.val (.int p1), .val (.ref a1)] [(.ref a1), (.int p1)])) rfl (by rw [hml]; rfl) (argsL := [(.ref a1)]) (rest := [(.int p1)]) (lenOf pd_1 rfl) rfl (by show 2 * 0 + _ ≤ _; exact Nat.le_of_eq rfl) (hb hby d20_2) (fun _ _ => ⟨rfl, e0, (by decide : 0 + 0 ≤ _), (by decide : 0 + 0 ≤ _)⟩)
  dsimp only [Pt.U, Pt.locs, Pt.cells, Pt.slots] at X1 l1 y1 z1 st1 hQ1
  replace l1 := l1.symm; replace y1 := y1.symm; replace z1 := z1.symm; subst l1 y1 z1
  obtain ⟨rfl, N1q, e1⟩ := hQ1
  have N1 := Fr.app N0 N1q
  refine Run.st (S' := T1.setTop (mkF m 5 #[.val (.int p1), .val (.ref a1)] [(.int (nb >>> ((1 : Int32) &&& 31))), (.int p1)])) (fun _ k => st1 _ k) ?_
  obtain ⟨_, _, ⟨T2, L2, k2, n2⟩, -, X2, ⟨Lc2, hQ2, l2, y2, z2⟩, st2⟩ := Jvm.LawKit.callS X1 hx (y := (⟨"java/lang/String", "checkIndex", "(II)V"⟩ : MethodName)) hown (mvT hZ (hwi hw 93 rfl)) (mvT hZ (hwi hw 94 rfl)) (mvT hZ (hwi hw 8 rfl)) (mvT hZ (hwi hw 95 rfl)) (by decide) (backOf (W := 0) (rmSCk l Z aV hw [] p1 (nb >>> ((1 : Int32) &&& 31)) fm h0 n0 Zn OL rfm hp0 (own_ck hW hp0 hpl) S_sf) hZ (hwi hw 95 rfl) (hwi hw 8 rfl) (by decide) (by decide)) (g := (mkF m 5 #[.val (.int p1), .val (.ref a1)] [(.int (nb >>> ((1 : Int32) &&& 31))), (.int p1)])) rfl (by rw [hml]; rfl) (argsL := [(.int p1), (.int (nb >>> ((1 : Int32) &&& 31)))]) (rest := []) (lenOf pd_2 rfl) rfl (by show 2 * 0 + _ ≤ _; exact Nat.le_of_eq rfl) (hb hby d20_5) (fun _ _ => ⟨rfl, e1, (by decide : 0 + 0 ≤ _), (by decide : 0 + 0 ≤ _)⟩)
  dsimp only [Pt.U, Pt.locs, Pt.cells, Pt.slots] at X2 l2 y2 z2 st2 hQ2
  replace l2 := l2.symm; replace y2 := y2.symm; replace z2 := z2.symm; subst l2 y2 z2
  obtain ⟨rfl, N2q, e2⟩ := hQ2
  have N2 := Fr.app N1 N2q
  refine Run.st (S' := T2.setTop (mkF m 8 #[.val (.int p1), .val (.ref a1)] [])) (fun _ k => st2 _ k) ?_
  refine Run.outV X2 hx Bd.notSynchronized Bd.returns (hb hby d20_8) (by decide) (by decide) ?_
  rw [e2]
  exact ⟨rfl, N2, rfl⟩
theorem d15_0 : decode jdk_52_method_5_code 0 = .ok (.getstatic 44, 3) := by decide +kernel
theorem d15_3 : decode jdk_52_method_5_code 3 = .ok (.ifCond .ne 25, 3) := by decide +kernel
theorem d15_28 : decode jdk_52_method_5_code 28 = .ok (.iload_n 1, 1) := by decide +kernel
theorem d15_29 : decode jdk_52_method_5_code 29 = .ok (.iconst 1, 1) := by decide +kernel
theorem d15_30 : decode jdk_52_method_5_code 30 = .ok (.ishl, 1) := by decide +kernel
theorem d15_31 : decode jdk_52_method_5_code 31 = .ok (.istore_n 1, 1) := by decide +kernel
theorem d15_32 : decode jdk_52_method_5_code 32 = .ok (.aload_n 0, 1) := by decide +kernel
theorem d15_33 : decode jdk_52_method_5_code 33 = .ok (.iload_n 1, 1) := by decide +kernel
theorem d15_34 : decode jdk_52_method_5_code 34 = .ok (.iinc 1 1, 3) := by decide +kernel
theorem d15_37 : decode jdk_52_method_5_code 37 = .ok (.baload, 1) := by decide +kernel
theorem d15_38 : decode jdk_52_method_5_code 38 = .ok (.sipush 255, 3) := by decide +kernel
theorem d15_41 : decode jdk_52_method_5_code 41 = .ok (.iand, 1) := by decide +kernel
theorem d15_42 : decode jdk_52_method_5_code 42 = .ok (.getstatic 59, 3) := by decide +kernel
theorem d15_45 : decode jdk_52_method_5_code 45 = .ok (.ishl, 1) := by decide +kernel
theorem d15_46 : decode jdk_52_method_5_code 46 = .ok (.aload_n 0, 1) := by decide +kernel
theorem d15_47 : decode jdk_52_method_5_code 47 = .ok (.iload_n 1, 1) := by decide +kernel
theorem d15_48 : decode jdk_52_method_5_code 48 = .ok (.baload, 1) := by decide +kernel
theorem d15_49 : decode jdk_52_method_5_code 49 = .ok (.sipush 255, 3) := by decide +kernel
theorem d15_52 : decode jdk_52_method_5_code 52 = .ok (.iand, 1) := by decide +kernel
theorem d15_53 : decode jdk_52_method_5_code 53 = .ok (.getstatic 63, 3) := by decide +kernel
theorem d15_56 : decode jdk_52_method_5_code 56 = .ok (.ishl, 1) := by decide +kernel
theorem d15_57 : decode jdk_52_method_5_code 57 = .ok (.ior, 1) := by decide +kernel
theorem d15_58 : decode jdk_52_method_5_code 58 = .ok (.i2c, 1) := by decide +kernel
theorem d15_59 : decode jdk_52_method_5_code 59 = .ok (.ireturn, 1) := by decide +kernel
theorem ef_GCh (m : MethodId) (a0 : Addr) (p1 : Int32) : entryFrame m #[(.ref a0), (.int p1)] 2 = mkF m 0 #[.val (.ref a0), .val (.int p1)] [] := by first | (simp [entryFrame, mkF, argsToLocals, Value.category]; done) | rfl
def QGCh (Z : State) (a0 : Addr) (p1 : Int32) (kb : ClassId) (bs : List Int32) (nb : Int32) (cs : List Int32) (h0 : Heap) (n0 : Nat) (v : Option Value) (h : Heap) (L : List Loc) : Prop := v = some (.int (cs.getD p1.toNatClampNeg 0)) ∧ Fr n0 L ∧ h = h0
set_option maxRecDepth 65536 in
set_option maxHeartbeats 40000000 in
theorem rmGCh (l : Launch) (Z : State) (aV : Array Value) (hw : ∀ d ∈ tables_1, d.before aV Z = true) (ws : List Jvm.Cond) (a0 : Addr) (p1 : Int32) (kb : ClassId) (bs : List Int32) (nb : Int32) (cs : List Int32) (h0 : Heap) (n0 : Nat) (Zn : n0 ≤ h0.size) (OL : Old Z n0 h0) (hW : own_wide cs bs nb) (hp0 : ¬ p1 < 0) (hpl : p1.toNatClampNeg < cs.length) (V_a0 : Arv Z h0 a0 kb .byte nb (bs.map Value.int) (.int (0 : Int32))) (S_as : Sta Z Z.heap "java/lang/StringUTF16" "$assertionsDisabled" "Z" (.int (1 : Int32))) (S_hi : Sta Z Z.heap "java/lang/StringUTF16" "HI_BYTE_SHIFT" "I" (.int (0 : Int32))) (S_lo : Sta Z Z.heap "java/lang/StringUTF16" "LO_BYTE_SHIFT" "I" (.int (8 : Int32))) :
    MetFree l (⟨"java/lang/StringUTF16", "getChar", "([BI)C"⟩ : MethodName) (head1 (Jvm.Cond.code (⟨"java/lang/StringUTF16", "getChar", "([BI)C"⟩ : MethodName) jdk_52_method_5_code 2 (some .char) :: ws) ({ frames := 0, cells := 0, slots := 0, locals := 0 } : Room)) (fun a U => a = #[(.ref a0), (.int p1)] ∧ Z.Warmed39 U.vm ∧ U.heap = h0) (fun _ _ _ _ _ => True) (fun _ U o U' => ∃ v L, o = .returned v ∧ QGCh Z a0 p1 kb bs nb cs h0 n0 v U'.heap L ∧ FrameEnd U o U' L ({ frames := 0, cells := 0, slots := 0, locals := 0 } : Room).cells ({ frames := 0, cells := 0, slots := 0, locals := 0 } : Room).slots) := by
  refine MetFree.of_bodySF (plainFor_of_name pn_0) hisR ?_
  intro p e s m args below meth c s₁ Bd hml0 hP hK
  obtain ⟨rfl, hZ, hh⟩ := hP
  have hx := Bd.exec
  have hby := Bd.bytes
  have hml : c.maxLocals = 2 := hml0
  have hown : s.vm.findClass "java/lang/StringUTF16" = some m.cls := findClass_of_methodNamed Bd.named
  have hnm := (name_of_methodNamed Bd.named Bd.method).1
  have X0 : Stand p l e ({ frames := 0, cells := 0, slots := 0, locals := 0 } : Room) s m #[(.ref a0), (.int p1)] below meth c s₁ [] 0 0 := Stand.of_body Bd
  have e0 : s₁.heap = h0 := by rw [← hh, Bd.state]; rfl
  have N0 := Fr.nil n0
  have Kp := Keep.refl h0 []
  show Run p e below (Ends s (QGCh Z a0 p1 kb bs nb cs h0 n0) ({ frames := 0, cells := 0, slots := 0, locals := 0 } : Room).cells ({ frames := 0, cells := 0, slots := 0, locals := 0 } : Room).slots) _
  refine Run.st (S' := s₁.setTop (mkF m 0 #[.val (.ref a0), .val (.int p1)] [])) (fun t k => castTop (ef_GCh m a0 p1) k) ?_
  have u_S_as := S_as.ext OL.2
  obtain ⟨T1, X1, e1, st1⟩ := getS2 X0 hx hZ hown (host := "") (Or.inl (hwi hw 65 rfl)) Via.refl e0 u_S_as (g := (mkF m 0 #[.val (.ref a0), .val (.int p1)] [])) rfl (hb hby d15_0)
  refine Run.st (S' := T1.setTop (mkF m 34 #[.val (.ref a0), .val (.int (p1 <<< ((1 : Int32) &&& 31)))] [(.int (p1 <<< ((1 : Int32) &&& 31))), (.ref a0)])) (fun _ k => st1 _ (XS.ifYes X1.here hx rfl (pc0 := 3) (pc' := 28) rfl (hb hby d15_3) rfl ((if0 _ _).trans (feq (show ¬ ((1 : Int32) = (0 : Int32)) from (by decide))).2) (by decide) (by decide) (XS.iloadN X1.here hx rfl (hb hby d15_28) rfl (XS.iconst X1.here hx rfl (hb hby d15_29) (XS.ishl X1.here hx rfl (hb hby d15_30) rfl (XS.istoreN X1.here hx rfl (hb hby d15_31) rfl (l' := #[.val (.ref a0), .val (.int (p1 <<< ((1 : Int32) &&& 31)))]) rfl (XS.aloadN X1.here hx rfl (hb hby d15_32) rfl rfl (XS.iloadN X1.here hx rfl (hb hby d15_33) rfl k)))))))) ?_
  refine Run.st (S' := T1.setTop (mkF m 37 #[.val (.ref a0), .val (.int ((p1 <<< ((1 : Int32) &&& 31)) + (1 : Int32)))] [(.int (p1 <<< ((1 : Int32) &&& 31))), (.ref a0)])) (fun _ k => XS.iinc X1.here hx rfl (hb hby d15_34) rfl (l' := #[.val (.ref a0), .val (.int ((p1 <<< ((1 : Int32) &&& 31)) + (1 : Int32)))]) rfl k) ?_
  obtain ⟨cl2, Ar2, qa2, Sa2, Na2, Ha2, Ga2⟩ := id V_a0
  have hin2 : ¬ ((p1 <<< ((1 : Int32) &&& 31)) < 0 ∨ cl2.slots.size ≤ ((p1 <<< ((1 : Int32) &&& 31))).toNatClampNeg) := inb_of Sa2 (own_inb2 hW hp0 hpl).1
  have hat2 : cl2.slots[((p1 <<< ((1 : Int32) &&& 31))).toNatClampNeg]? = some (.int (bs.getD ((p1 <<< ((1 : Int32) &&& 31))).toNatClampNeg 0)) := Has.at Ha2 hin2 (own_get _ _)
  refine Run.st (S' := T1.setTop (mkF m 42 #[.val (.ref a0), .val (.int ((p1 <<< ((1 : Int32) &&& 31)) + (1 : Int32)))] [(.int ((bs.getD ((p1 <<< ((1 : Int32) &&& 31))).toNatClampNeg 0) &&& (255 : Int32)))])) (fun _ k => X1.baloadBytes hx (j := (p1 <<< ((1 : Int32) &&& 31))) (v := (.int (bs.getD ((p1 <<< ((1 : Int32) &&& 31))).toNatClampNeg 0))) (by rw [e1]; exact Ar2.1) (State.isArrayOf_alike hZ.alike Ar2.2.1) Ar2.2.2 hin2 hat2 (g := (mkF m 37 #[.val (.ref a0), .val (.int ((p1 <<< ((1 : Int32) &&& 31)) + (1 : Int32)))] [(.int (p1 <<< ((1 : Int32) &&& 31))), (.ref a0)])) rfl rfl (hb hby d15_37) _ (XS.sipush X1.here hx rfl (hb hby d15_38) (XS.iand X1.here hx rfl (hb hby d15_41) rfl k))) ?_
  have u_S_hi := S_hi.ext OL.2
  obtain ⟨T3, X3, e3, st3⟩ := getS2 X1 hx hZ hown (host := "") (Or.inl (hwi hw 66 rfl)) Via.refl e1 u_S_hi (g := (mkF m 42 #[.val (.ref a0), .val (.int ((p1 <<< ((1 : Int32) &&& 31)) + (1 : Int32)))] [(.int ((bs.getD ((p1 <<< ((1 : Int32) &&& 31))).toNatClampNeg 0) &&& (255 : Int32)))])) rfl (hb hby d15_42)
  refine Run.st (S' := T3.setTop (mkF m 48 #[.val (.ref a0), .val (.int ((p1 <<< ((1 : Int32) &&& 31)) + (1 : Int32)))] [(.int ((p1 <<< ((1 : Int32) &&& 31)) + (1 : Int32))), (.ref a0), (.int (((bs.getD ((p1 <<< ((1 : Int32) &&& 31))).toNatClampNeg 0) &&& (255 : Int32)) <<< ((0 : Int32) &&& 31)))])) (fun _ k => st3 _ (XS.ishl X3.here hx rfl (hb hby d15_45) rfl (XS.aloadN X3.here hx rfl (hb hby d15_46) rfl rfl (XS.iloadN X3.here hx rfl (hb hby d15_47) rfl k)))) ?_
  obtain ⟨cl4, Ar4, qa4, Sa4, Na4, Ha4, Ga4⟩ := id V_a0
  have hin4 : ¬ (((p1 <<< ((1 : Int32) &&& 31)) + (1 : Int32)) < 0 ∨ cl4.slots.size ≤ (((p1 <<< ((1 : Int32) &&& 31)) + (1 : Int32))).toNatClampNeg) := inb_of Sa4 (own_inb2 hW hp0 hpl).2
  have hat4 : cl4.slots[(((p1 <<< ((1 : Int32) &&& 31)) + (1 : Int32))).toNatClampNeg]? = some (.int (bs.getD (((p1 <<< ((1 : Int32) &&& 31)) + (1 : Int32))).toNatClampNeg 0)) := Has.at Ha4 hin4 (own_get _ _)
  refine Run.st (S' := T3.setTop (mkF m 53 #[.val (.ref a0), .val (.int ((p1 <<< ((1 : Int32) &&& 31)) + (1 : Int32)))] [(.int ((bs.getD (((p1 <<< ((1 : Int32) &&& 31)) + (1 : Int32))).toNatClampNeg 0) &&& (255 : Int32))), (.int (((bs.getD ((p1 <<< ((1 : Int32) &&& 31))).toNatClampNeg 0) &&& (255 : Int32)) <<< ((0 : Int32) &&& 31)))])) (fun _ k => X3.baloadBytes hx (j := ((p1 <<< ((1 : Int32) &&& 31)) + (1 : Int32))) (v := (.int (bs.getD (((p1 <<< ((1 : Int32) &&& 31)) + (1 : Int32))).toNatClampNeg 0))) (by rw [e3]; exact Ar4.1) (State.isArrayOf_alike hZ.alike Ar4.2.1) Ar4.2.2 hin4 hat4 (g := (mkF m 48 #[.val (.ref a0), .val (.int ((p1 <<< ((1 : Int32) &&& 31)) + (1 : Int32)))] [(.int ((p1 <<< ((1 : Int32) &&& 31)) + (1 : Int32))), (.ref a0), (.int (((bs.getD ((p1 <<< ((1 : Int32) &&& 31))).toNatClampNeg 0) &&& (255 : Int32)) <<< ((0 : Int32) &&& 31)))])) rfl rfl (hb hby d15_48) _ (XS.sipush X3.here hx rfl (hb hby d15_49) (XS.iand X3.here hx rfl (hb hby d15_52) rfl k))) ?_
  have u_S_lo := S_lo.ext OL.2
  obtain ⟨T5, X5, e5, st5⟩ := getS2 X3 hx hZ hown (host := "") (Or.inl (hwi hw 67 rfl)) Via.refl e3 u_S_lo (g := (mkF m 53 #[.val (.ref a0), .val (.int ((p1 <<< ((1 : Int32) &&& 31)) + (1 : Int32)))] [(.int ((bs.getD (((p1 <<< ((1 : Int32) &&& 31)) + (1 : Int32))).toNatClampNeg 0) &&& (255 : Int32))), (.int (((bs.getD ((p1 <<< ((1 : Int32) &&& 31))).toNatClampNeg 0) &&& (255 : Int32)) <<< ((0 : Int32) &&& 31)))])) rfl (hb hby d15_53)
  refine Run.st (S' := T5.setTop (mkF m 59 #[.val (.ref a0), .val (.int ((p1 <<< ((1 : Int32) &&& 31)) + (1 : Int32)))] [(.int (((((bs.getD ((p1 <<< ((1 : Int32) &&& 31))).toNatClampNeg 0) &&& (255 : Int32)) <<< ((0 : Int32) &&& 31)) ||| (((bs.getD (((p1 <<< ((1 : Int32) &&& 31)) + (1 : Int32))).toNatClampNeg 0) &&& (255 : Int32)) <<< ((8 : Int32) &&& 31))).toUInt32.toUInt16.toUInt32.toInt32))])) (fun _ k => st5 _ (XS.ishl X5.here hx rfl (hb hby d15_56) rfl (XS.ior X5.here hx rfl (hb hby d15_57) rfl (XS.i2c X5.here hx rfl (hb hby d15_58) rfl k)))) ?_
  refine Run.out X5 hx Bd.notSynchronized Bd.returns (own_ncc _) (Or.inl ⟨rfl, by simp, _, rfl⟩) (hb hby d15_59) (by decide) (by decide) ?_
  rw [e5]
  exact ⟨congrArg (fun z => some (Value.int z)) (own_gc hW hp0 hpl), N0, rfl⟩
theorem pd_3 : parseMethodDescriptor "(I[B)V" = some ⟨[.int, (.array .byte)], none⟩ := by decide +kernel
theorem pd_4 : parseMethodDescriptor "([BI)C" = some ⟨[(.array .byte), .int], some .char⟩ := by decide +kernel
theorem d19_0 : decode jdk_52_method_83_code 0 = .ok (.iload_n 1, 1) := by decide +kernel
theorem d19_1 : decode jdk_52_method_83_code 1 = .ok (.aload_n 0, 1) := by decide +kernel
theorem d19_2 : decode jdk_52_method_83_code 2 = .ok (.invokestatic 67, 3) := by decide +kernel
theorem d19_5 : decode jdk_52_method_83_code 5 = .ok (.aload_n 0, 1) := by decide +kernel
theorem d19_6 : decode jdk_52_method_83_code 6 = .ok (.iload_n 1, 1) := by decide +kernel
theorem d19_7 : decode jdk_52_method_83_code 7 = .ok (.invokestatic 71, 3) := by decide +kernel
theorem d19_10 : decode jdk_52_method_83_code 10 = .ok (.ireturn, 1) := by decide +kernel
theorem ef_UCh (m : MethodId) (a0 : Addr) (p1 : Int32) : entryFrame m #[(.ref a0), (.int p1)] 2 = mkF m 0 #[.val (.ref a0), .val (.int p1)] [] := by first | (simp [entryFrame, mkF, argsToLocals, Value.category]; done) | rfl
def QUCh (Z : State) (a0 : Addr) (p1 : Int32) (kb : ClassId) (bs : List Int32) (nb : Int32) (fm : Value) (cs : List Int32) (h0 : Heap) (n0 : Nat) (v : Option Value) (h : Heap) (L : List Loc) : Prop := v = some (.int (cs.getD p1.toNatClampNeg 0)) ∧ Fr n0 L ∧ h = h0
set_option maxRecDepth 65536 in
set_option maxHeartbeats 40000000 in
theorem rmUCh (l : Launch) (Z : State) (aV : Array Value) (hw : ∀ d ∈ tables_1, d.before aV Z = true) (ws : List Jvm.Cond) (a0 : Addr) (p1 : Int32) (kb : ClassId) (bs : List Int32) (nb : Int32) (fm : Value) (cs : List Int32) (h0 : Heap) (n0 : Nat) (Zn : n0 ≤ h0.size) (OL : Old Z n0 h0) (rfm : fm.isRef = true) (hW : own_wide cs bs nb) (hp0 : ¬ p1 < 0) (hpl : p1.toNatClampNeg < cs.length) (V_a0 : Arv Z h0 a0 kb .byte nb (bs.map Value.int) (.int (0 : Int32))) (S_as : Sta Z Z.heap "java/lang/StringUTF16" "$assertionsDisabled" "Z" (.int (1 : Int32))) (S_hi : Sta Z Z.heap "java/lang/StringUTF16" "HI_BYTE_SHIFT" "I" (.int (0 : Int32))) (S_lo : Sta Z Z.heap "java/lang/StringUTF16" "LO_BYTE_SHIFT" "I" (.int (8 : Int32))) (S_sf : Sta Z Z.heap "jdk/internal/util/Preconditions" "SIOOBE_FORMATTER" "Ljava/util/function/BiFunction;" fm) :
    MetFree l (⟨"java/lang/StringUTF16", "charAt", "([BI)C"⟩ : MethodName) (head1 (Jvm.Cond.code (⟨"java/lang/StringUTF16", "charAt", "([BI)C"⟩ : MethodName) jdk_52_method_83_code 2 (some .char) :: ws) ({ frames := 3, cells := 0, slots := 0, locals := 40 } : Room)) (fun a U => a = #[(.ref a0), (.int p1)] ∧ Z.Warmed39 U.vm ∧ U.heap = h0) (fun _ _ _ _ _ => True) (fun _ U o U' => ∃ v L, o = .returned v ∧ QUCh Z a0 p1 kb bs nb fm cs h0 n0 v U'.heap L ∧ FrameEnd U o U' L ({ frames := 3, cells := 0, slots := 0, locals := 40 } : Room).cells ({ frames := 3, cells := 0, slots := 0, locals := 40 } : Room).slots) := by
  refine MetFree.of_bodySF (plainFor_of_name pn_0) hisR ?_
  intro p e s m args below meth c s₁ Bd hml0 hP hK
  obtain ⟨rfl, hZ, hh⟩ := hP
  have hx := Bd.exec
  have hby := Bd.bytes
  have hml : c.maxLocals = 2 := hml0
  have hown : s.vm.findClass "java/lang/StringUTF16" = some m.cls := findClass_of_methodNamed Bd.named
  have hnm := (name_of_methodNamed Bd.named Bd.method).1
  have X0 : Stand p l e ({ frames := 3, cells := 0, slots := 0, locals := 40 } : Room) s m #[(.ref a0), (.int p1)] below meth c s₁ [] 0 0 := Stand.of_body Bd
  have e0 : s₁.heap = h0 := by rw [← hh, Bd.state]; rfl
  have N0 := Fr.nil n0
  have Kp := Keep.refl h0 []
  show Run p e below (Ends s (QUCh Z a0 p1 kb bs nb fm cs h0 n0) ({ frames := 3, cells := 0, slots := 0, locals := 40 } : Room).cells ({ frames := 3, cells := 0, slots := 0, locals := 40 } : Room).slots) _
  refine Run.st (S' := s₁.setTop (mkF m 0 #[.val (.ref a0), .val (.int p1)] [])) (fun t k => castTop (ef_UCh m a0 p1) k) ?_
  refine Run.st (S' := s₁.setTop (mkF m 2 #[.val (.ref a0), .val (.int p1)] [(.ref a0), (.int p1)])) (fun _ k => XS.iloadN X0.here hx rfl (hb hby d19_0) rfl (XS.aloadN X0.here hx rfl (hb hby d19_1) rfl rfl k)) ?_
  obtain ⟨_, _, ⟨T1, L1, k1, n1⟩, -, X1, ⟨Lc1, hQ1, l1, y1, z1⟩, st1⟩ := Jvm.LawKit.callS X0 hx (y := (⟨"java/lang/StringUTF16", "checkIndex", "(I[B)V"⟩ : MethodName)) hown (mvT hZ (hwi hw 87 rfl)) (mvT hZ (hwi hw 88 rfl)) (mvT hZ (hwi hw 47 rfl)) (mvT hZ (hwi hw 89 rfl)) (by decide) (backOf (W := 0) (rmUCk l Z aV hw [] p1 a0 kb bs nb fm cs h0 n0 Zn OL rfm hW hp0 hpl V_a0 S_sf) hZ (hwi hw 89 rfl) (hwi hw 47 rfl) (by decide) (by decide)) (g := (mkF m 2 #[.val (.ref a0), .val (.int p1)] [(.ref a0), (.int p1)])) rfl (by rw [hml]; rfl) (argsL := [(.int p1), (.ref a0)]) (rest := []) (lenOf pd_3 rfl) rfl (by show 2 * 0 + _ ≤ _; exact Nat.le_of_eq rfl) (hb hby d19_2) (fun _ _ => ⟨rfl, e0, (by decide : 0 + 0 ≤ _), (by decide : 0 + 0 ≤ _)⟩)
  dsimp only [Pt.U, Pt.locs, Pt.cells, Pt.slots] at X1 l1 y1 z1 st1 hQ1
  replace l1 := l1.symm; replace y1 := y1.symm; replace z1 := z1.symm; subst l1 y1 z1
  obtain ⟨rfl, N1q, e1⟩ := hQ1
  have N1 := Fr.app N0 N1q
  refine Run.st (S' := T1.setTop (mkF m 7 #[.val (.ref a0), .val (.int p1)] [(.int p1), (.ref a0)])) (fun _ k => st1 _ (XS.aloadN X1.here hx rfl (hb hby d19_5) rfl rfl (XS.iloadN X1.here hx rfl (hb hby d19_6) rfl k))) ?_
  obtain ⟨_, _, ⟨T2, L2, k2, n2⟩, -, X2, ⟨Lc2, hQ2, l2, y2, z2⟩, st2⟩ := Jvm.LawKit.callS X1 hx (y := (⟨"java/lang/StringUTF16", "getChar", "([BI)C"⟩ : MethodName)) hown (mvT hZ (hwi hw 68 rfl)) (mvT hZ (hwi hw 69 rfl)) (mvT hZ (hwi hw 47 rfl)) (mvT hZ (hwi hw 70 rfl)) (by decide) (backOf (W := 0) (rmGCh l Z aV hw [] a0 p1 kb bs nb cs h0 n0 Zn OL hW hp0 hpl V_a0 S_as S_hi S_lo) hZ (hwi hw 70 rfl) (hwi hw 47 rfl) (by decide) (by decide)) (g := (mkF m 7 #[.val (.ref a0), .val (.int p1)] [(.int p1), (.ref a0)])) rfl (by rw [hml]; rfl) (argsL := [(.ref a0), (.int p1)]) (rest := []) (lenOf pd_4 rfl) rfl (by show 2 * 0 + _ ≤ _; exact Nat.le_of_eq rfl) (hb hby d19_7) (fun _ _ => ⟨rfl, e1, (by decide : 0 + 0 ≤ _), (by decide : 0 + 0 ≤ _)⟩)
  dsimp only [Pt.U, Pt.locs, Pt.cells, Pt.slots] at X2 l2 y2 z2 st2 hQ2
  replace l2 := l2.symm; replace y2 := y2.symm; replace z2 := z2.symm; subst l2 y2 z2
  obtain ⟨rfl, N2q, e2⟩ := hQ2
  have N2 := Fr.app N1 N2q
  refine Run.st (S' := T2.setTop (mkF m 10 #[.val (.ref a0), .val (.int p1)] [(.int (cs.getD (p1).toNatClampNeg 0))])) (fun _ k => st2 _ k) ?_
  refine Run.out X2 hx Bd.notSynchronized Bd.returns (own_getR16 hW.2.2.1 hpl) (Or.inl ⟨rfl, by simp, _, rfl⟩) (hb hby d19_10) (by decide) (by decide) ?_
  rw [e2]
  exact ⟨rfl, N2, rfl⟩
theorem d18_0 : decode jdk_42_method_154_code 0 = .ok (.getstatic 38, 3) := by decide +kernel
theorem d18_3 : decode jdk_42_method_154_code 3 = .ok (.ifCond .eq 14, 3) := by decide +kernel
theorem d18_6 : decode jdk_42_method_154_code 6 = .ok (.aload_n 0, 1) := by decide +kernel
theorem d18_7 : decode jdk_42_method_154_code 7 = .ok (.getfield 15, 3) := by decide +kernel
theorem d18_10 : decode jdk_42_method_154_code 10 = .ok (.ifCond .ne 7, 3) := by decide +kernel
theorem d18_17 : decode jdk_42_method_154_code 17 = .ok (.iconst 0, 1) := by decide +kernel
theorem d18_18 : decode jdk_42_method_154_code 18 = .ok (.ireturn, 1) := by decide +kernel
theorem ef_IsL (m : MethodId) (a0 : Addr) : entryFrame m #[(.ref a0)] 1 = mkF m 0 #[.val (.ref a0)] [] := by first | (simp [entryFrame, mkF, argsToLocals, Value.category]; done) | rfl
def QIsL (Z : State) (a0 : Addr) (zc : Int32) (h0 : Heap) (n0 : Nat) (v : Option Value) (h : Heap) (L : List Loc) : Prop := v = some (.int (0 : Int32)) ∧ Fr n0 L ∧ h = h0
set_option maxRecDepth 65536 in
set_option maxHeartbeats 40000000 in
theorem rmIsL (l : Launch) (Z : State) (aV : Array Value) (hw : ∀ d ∈ tables_1, d.before aV Z = true) (ws : List Jvm.Cond) (a0 : Addr) (zc : Int32) (h0 : Heap) (n0 : Nat) (Zn : n0 ≤ h0.size) (OL : Old Z n0 h0) (hzc : ¬ zc = 0) (F_coder_a0 : Fld Z h0 a0 "java/lang/String" "coder" "B" (.int (1 : Int32))) (S_cs : Sta Z Z.heap "java/lang/String" "COMPACT_STRINGS" "Z" (.int zc)) :
    MetFree l (⟨"java/lang/String", "isLatin1", "()Z"⟩ : MethodName) (head1 (Jvm.Cond.code (⟨"java/lang/String", "isLatin1", "()Z"⟩ : MethodName) jdk_42_method_154_code 1 (some .boolean) :: ws) ({ frames := 0, cells := 0, slots := 0, locals := 0 } : Room)) (fun a U => a = #[(.ref a0)] ∧ Z.Warmed39 U.vm ∧ U.heap = h0) (fun _ _ _ _ _ => True) (fun _ U o U' => ∃ v L, o = .returned v ∧ QIsL Z a0 zc h0 n0 v U'.heap L ∧ FrameEnd U o U' L ({ frames := 0, cells := 0, slots := 0, locals := 0 } : Room).cells ({ frames := 0, cells := 0, slots := 0, locals := 0 } : Room).slots) := by
  refine MetFree.of_bodySF (plainFor_of_name pn_2) hisR ?_
  intro p e s m args below meth c s₁ Bd hml0 hP hK
  obtain ⟨rfl, hZ, hh⟩ := hP
  have hx := Bd.exec
  have hby := Bd.bytes
  have hml : c.maxLocals = 1 := hml0
  have hown : s.vm.findClass "java/lang/String" = some m.cls := findClass_of_methodNamed Bd.named
  have hnm := (name_of_methodNamed Bd.named Bd.method).1
  have X0 : Stand p l e ({ frames := 0, cells := 0, slots := 0, locals := 0 } : Room) s m #[(.ref a0)] below meth c s₁ [] 0 0 := Stand.of_body Bd
  have e0 : s₁.heap = h0 := by rw [← hh, Bd.state]; rfl
  have N0 := Fr.nil n0
  have Kp := Keep.refl h0 []
  show Run p e below (Ends s (QIsL Z a0 zc h0 n0) ({ frames := 0, cells := 0, slots := 0, locals := 0 } : Room).cells ({ frames := 0, cells := 0, slots := 0, locals := 0 } : Room).slots) _
  refine Run.st (S' := s₁.setTop (mkF m 0 #[.val (.ref a0)] [])) (fun t k => castTop (ef_IsL m a0) k) ?_
  have u_S_cs := S_cs.ext OL.2
  obtain ⟨T1, X1, e1, st1⟩ := getS2 X0 hx hZ hown (host := "") (Or.inl (hwi hw 41 rfl)) Via.refl e0 u_S_cs (g := (mkF m 0 #[.val (.ref a0)] [])) rfl (hb hby d18_0)
  refine Run.st (S' := T1.setTop (mkF m 7 #[.val (.ref a0)] [(.ref a0)])) (fun _ k => st1 _ (XS.ifNo X1.here hx rfl (hb hby d18_3) rfl ((if0 _ _).trans (feq (show ¬ (zc = (0 : Int32)) from hzc)).1) (XS.aloadN X1.here hx rfl (hb hby d18_6) rfl rfl k))) ?_
  obtain ⟨T2, X2, e2, st2⟩ := getF X1 hx hZ hown (host := "") (Or.inl (hwi hw 26 rfl)) Via.refl e1 F_coder_a0 (g := (mkF m 7 #[.val (.ref a0)] [(.ref a0)])) rfl rfl (hb hby d18_7)
  refine Run.st (S' := T2.setTop (mkF m 18 #[.val (.ref a0)] [(.int (0 : Int32))])) (fun _ k => st2 _ (XS.ifYes X2.here hx rfl (pc0 := 10) (pc' := 17) rfl (hb hby d18_10) rfl ((if0 _ _).trans (feq (show ¬ ((1 : Int32) = (0 : Int32)) from (by decide))).2) (by decide) (by decide) (XS.iconst X2.here hx rfl (hb hby d18_17) k))) ?_
  refine Run.out X2 hx Bd.notSynchronized Bd.returns rfl (Or.inl ⟨rfl, by simp, _, rfl⟩) (hb hby d18_18) (by decide) (by decide) ?_
  rw [e2]
  exact ⟨rfl, N0, rfl⟩
theorem pd_5 : parseMethodDescriptor "()Z" = some ⟨[], some .boolean⟩ := by decide +kernel
theorem d17_0 : decode jdk_42_method_56_code 0 = .ok (.aload_n 0, 1) := by decide +kernel
theorem d17_1 : decode jdk_42_method_56_code 1 = .ok (.invokevirtual 492, 3) := by decide +kernel
theorem d17_4 : decode jdk_42_method_56_code 4 = .ok (.ifCond .eq 12, 3) := by decide +kernel
theorem d17_16 : decode jdk_42_method_56_code 16 = .ok (.aload_n 0, 1) := by decide +kernel
theorem d17_17 : decode jdk_42_method_56_code 17 = .ok (.getfield 9, 3) := by decide +kernel
theorem d17_20 : decode jdk_42_method_56_code 20 = .ok (.iload_n 1, 1) := by decide +kernel
theorem d17_21 : decode jdk_42_method_56_code 21 = .ok (.invokestatic 498, 3) := by decide +kernel
theorem d17_24 : decode jdk_42_method_56_code 24 = .ok (.ireturn, 1) := by decide +kernel
theorem ef_SCh (m : MethodId) (a0 : Addr) (p1 : Int32) : entryFrame m #[(.ref a0), (.int p1)] 2 = mkF m 0 #[.val (.ref a0), .val (.int p1)] [] := by first | (simp [entryFrame, mkF, argsToLocals, Value.category]; done) | rfl
def QSCh (Z : State) (a0 : Addr) (p1 : Int32) (t0 : Addr) (kb : ClassId) (bs : List Int32) (nb : Int32) (fm : Value) (zc : Int32) (cs : List Int32) (h0 : Heap) (n0 : Nat) (v : Option Value) (h : Heap) (L : List Loc) : Prop := v = some (.int (cs.getD p1.toNatClampNeg 0)) ∧ Fr n0 L ∧ h = h0
set_option maxRecDepth 65536 in
set_option maxHeartbeats 40000000 in
theorem rmSCh (l : Launch) (Z : State) (aV : Array Value) (hw : ∀ d ∈ tables_1, d.before aV Z = true) (ws : List Jvm.Cond) (a0 : Addr) (p1 : Int32) (t0 : Addr) (kb : ClassId) (bs : List Int32) (nb : Int32) (fm : Value) (zc : Int32) (cs : List Int32) (h0 : Heap) (n0 : Nat) (Zn : n0 ≤ h0.size) (OL : Old Z n0 h0) (hzc : ¬ zc = 0) (rfm : fm.isRef = true) (hW : own_wide cs bs nb) (hp0 : ¬ p1 < 0) (hpl : p1.toNatClampNeg < cs.length) (E_a0 : Exa Z h0 a0 "java/lang/String") (F_coder_a0 : Fld Z h0 a0 "java/lang/String" "coder" "B" (.int (1 : Int32))) (F_value_a0 : Fld Z h0 a0 "java/lang/String" "value" "[B" (.ref t0)) (V_t0 : Arv Z h0 t0 kb .byte nb (bs.map Value.int) (.int (0 : Int32))) (S_as : Sta Z Z.heap "java/lang/StringUTF16" "$assertionsDisabled" "Z" (.int (1 : Int32))) (S_hi : Sta Z Z.heap "java/lang/StringUTF16" "HI_BYTE_SHIFT" "I" (.int (0 : Int32))) (S_lo : Sta Z Z.heap "java/lang/StringUTF16" "LO_BYTE_SHIFT" "I" (.int (8 : Int32))) (S_sf : Sta Z Z.heap "jdk/internal/util/Preconditions" "SIOOBE_FORMATTER" "Ljava/util/function/BiFunction;" fm) (S_cs : Sta Z Z.heap "java/lang/String" "COMPACT_STRINGS" "Z" (.int zc)) :
    MetFree l (⟨"java/lang/String", "charAt", "(I)C"⟩ : MethodName) (head1 (Jvm.Cond.code (⟨"java/lang/String", "charAt", "(I)C"⟩ : MethodName) jdk_42_method_56_code 2 (some .char) :: ws) ({ frames := 4, cells := 0, slots := 0, locals := 53 } : Room)) (fun a U => a = #[(.ref a0), (.int p1)] ∧ Z.Warmed39 U.vm ∧ U.heap = h0) (fun _ _ _ _ _ => True) (fun _ U o U' => ∃ v L, o = .returned v ∧ QSCh Z a0 p1 t0 kb bs nb fm zc cs h0 n0 v U'.heap L ∧ FrameEnd U o U' L ({ frames := 4, cells := 0, slots := 0, locals := 53 } : Room).cells ({ frames := 4, cells := 0, slots := 0, locals := 53 } : Room).slots) := by
  refine MetFree.of_bodySF (plainFor_of_name pn_2) hisR ?_
  intro p e s m args below meth c s₁ Bd hml0 hP hK
  obtain ⟨rfl, hZ, hh⟩ := hP
  have hx := Bd.exec
  have hby := Bd.bytes
  have hml : c.maxLocals = 2 := hml0
  have hown : s.vm.findClass "java/lang/String" = some m.cls := findClass_of_methodNamed Bd.named
  have hnm := (name_of_methodNamed Bd.named Bd.method).1
  have X0 : Stand p l e ({ frames := 4, cells := 0, slots := 0, locals := 53 } : Room) s m #[(.ref a0), (.int p1)] below meth c s₁ [] 0 0 := Stand.of_body Bd
  have e0 : s₁.heap = h0 := by rw [← hh, Bd.state]; rfl
  have N0 := Fr.nil n0
  have Kp := Keep.refl h0 []
  show Run p e below (Ends s (QSCh Z a0 p1 t0 kb bs nb fm zc cs h0 n0) ({ frames := 4, cells := 0, slots := 0, locals := 53 } : Room).cells ({ frames := 4, cells := 0, slots := 0, locals := 53 } : Room).slots) _
  refine Run.st (S' := s₁.setTop (mkF m 0 #[.val (.ref a0), .val (.int p1)] [])) (fun t k => castTop (ef_SCh m a0 p1) k) ?_
  refine Run.st (S' := s₁.setTop (mkF m 1 #[.val (.ref a0), .val (.int p1)] [(.ref a0)])) (fun _ k => XS.aloadN X0.here hx rfl (hb hby d17_0) rfl rfl k) ?_
  obtain ⟨cq1, kq1, q1a, q1b, q1c⟩ := isOf hZ e0 E_a0
  obtain ⟨_, _, ⟨T1, L1, k1, n1⟩, -, X1, ⟨Lc1, hQ1, l1, y1, z1⟩, st1⟩ := X0.virtualBack hx (y := (⟨"java/lang/String", "isLatin1", "()Z"⟩ : MethodName)) (z := (⟨"java/lang/String", "isLatin1", "()Z"⟩ : MethodName)) hown (mvT hZ (hwi hw 79 rfl)) (mvT hZ (hwi hw 80 rfl)) (notFace_of_selects (args := #[]) (mvT hZ (hwi hw 82 rfl))) (mvT hZ (hwi hw 82 rfl)) (mvT hZ (hwi hw 81 rfl)) (by decide) (backOf (W := 0) (rmIsL l Z aV hw [] a0 zc h0 n0 Zn OL hzc F_coder_a0 S_cs) hZ (hwi hw 83 rfl) (hwi hw 8 rfl) (by decide) (by decide)) q1a q1c (g := (mkF m 1 #[.val (.ref a0), .val (.int p1)] [(.ref a0)])) rfl (by rw [hml]; rfl) (Steps.refl _) (argsL := []) (rest := []) (lenOf pd_5 rfl) rfl (by show 2 * 0 + _ ≤ _; exact Nat.le_of_eq rfl) (hb hby d17_1) (fun _ _ => ⟨rfl, e0, (by decide : 0 + 0 ≤ _), (by decide : 0 + 0 ≤ _)⟩)
  dsimp only [Pt.U, Pt.locs, Pt.cells, Pt.slots] at X1 l1 y1 z1 st1 hQ1
  replace l1 := l1.symm; replace y1 := y1.symm; replace z1 := z1.symm; subst l1 y1 z1
  obtain ⟨rfl, N1q, e1⟩ := hQ1
  have N1 := Fr.app N0 N1q
  refine Run.st (S' := T1.setTop (mkF m 17 #[.val (.ref a0), .val (.int p1)] [(.ref a0)])) (fun _ k => st1.trans (XS.ifYes X1.here hx rfl (pc0 := 4) (pc' := 16) rfl (hb hby d17_4) rfl ((if0 _ _).trans (teq (show (0 : Int32) = (0 : Int32) from (by decide))).1) (by decide) (by decide) (XS.aloadN X1.here hx rfl (hb hby d17_16) rfl rfl k))) ?_
  obtain ⟨T2, X2, e2, st2⟩ := getF X1 hx hZ hown (host := "") (Or.inl (hwi hw 25 rfl)) Via.refl e1 F_value_a0 (g := (mkF m 17 #[.val (.ref a0), .val (.int p1)] [(.ref a0)])) rfl rfl (hb hby d17_17)
  refine Run.st (S' := T2.setTop (mkF m 21 #[.val (.ref a0), .val (.int p1)] [(.int p1), (.ref t0)])) (fun _ k => st2 _ (XS.iloadN X2.here hx rfl (hb hby d17_20) rfl k)) ?_
  obtain ⟨_, _, ⟨T3, L3, k3, n3⟩, -, X3, ⟨Lc3, hQ3, l3, y3, z3⟩, st3⟩ := Jvm.LawKit.callS X2 hx (y := (⟨"java/lang/StringUTF16", "charAt", "([BI)C"⟩ : MethodName)) hown (mvT hZ (hwi hw 84 rfl)) (mvT hZ (hwi hw 85 rfl)) (mvT hZ (hwi hw 47 rfl)) (mvT hZ (hwi hw 86 rfl)) (by decide) (backOf (W := 0) (rmUCh l Z aV hw [] t0 p1 kb bs nb fm cs h0 n0 Zn OL rfm hW hp0 hpl V_t0 S_as S_hi S_lo S_sf) hZ (hwi hw 86 rfl) (hwi hw 47 rfl) (by decide) (by decide)) (g := (mkF m 21 #[.val (.ref a0), .val (.int p1)] [(.int p1), (.ref t0)])) rfl (by rw [hml]; rfl) (argsL := [(.ref t0), (.int p1)]) (rest := []) (lenOf pd_4 rfl) rfl (by show 2 * 0 + _ ≤ _; exact Nat.le_of_eq rfl) (hb hby d17_21) (fun _ _ => ⟨rfl, e2, (by decide : 0 + 0 ≤ _), (by decide : 0 + 0 ≤ _)⟩)
  dsimp only [Pt.U, Pt.locs, Pt.cells, Pt.slots] at X3 l3 y3 z3 st3 hQ3
  replace l3 := l3.symm; replace y3 := y3.symm; replace z3 := z3.symm; subst l3 y3 z3
  obtain ⟨rfl, N3q, e3⟩ := hQ3
  have N3 := Fr.app N1 N3q
  refine Run.st (S' := T3.setTop (mkF m 24 #[.val (.ref a0), .val (.int p1)] [(.int (cs.getD (p1).toNatClampNeg 0))])) (fun _ k => st3 _ k) ?_
  refine Run.out X3 hx Bd.notSynchronized Bd.returns (own_getR16 hW.2.2.1 hpl) (Or.inl ⟨rfl, by simp, _, rfl⟩) (hb hby d17_24) (by decide) (by decide) ?_
  rw [e3]
  exact ⟨rfl, N3, rfl⟩
theorem d7_0 : decode jdk_42_method_152_code 0 = .ok (.getstatic 38, 3) := by decide +kernel
theorem d7_3 : decode jdk_42_method_152_code 3 = .ok (.ifCond .eq 10, 3) := by decide +kernel
theorem d7_6 : decode jdk_42_method_152_code 6 = .ok (.aload_n 0, 1) := by decide +kernel
theorem d7_7 : decode jdk_42_method_152_code 7 = .ok (.getfield 15, 3) := by decide +kernel
theorem d7_10 : decode jdk_42_method_152_code 10 = .ok (.goto 4, 3) := by decide +kernel
theorem d7_14 : decode jdk_42_method_152_code 14 = .ok (.ireturn, 1) := by decide +kernel
theorem ef_Cod (m : MethodId) (a0 : Addr) : entryFrame m #[(.ref a0)] 1 = mkF m 0 #[.val (.ref a0)] [] := by first | (simp [entryFrame, mkF, argsToLocals, Value.category]; done) | rfl
def QCod (Z : State) (a0 : Addr) (zc : Int32) (h0 : Heap) (n0 : Nat) (v : Option Value) (h : Heap) (L : List Loc) : Prop := v = some (.int (1 : Int32)) ∧ Fr n0 L ∧ h = h0
set_option maxRecDepth 65536 in
set_option maxHeartbeats 40000000 in
theorem rmCod (l : Launch) (Z : State) (aV : Array Value) (hw : ∀ d ∈ tables_1, d.before aV Z = true) (ws : List Jvm.Cond) (a0 : Addr) (zc : Int32) (h0 : Heap) (n0 : Nat) (Zn : n0 ≤ h0.size) (OL : Old Z n0 h0) (hzc : ¬ zc = 0) (F_coder_a0 : Fld Z h0 a0 "java/lang/String" "coder" "B" (.int (1 : Int32))) (S_cs : Sta Z Z.heap "java/lang/String" "COMPACT_STRINGS" "Z" (.int zc)) :
    MetFree l (⟨"java/lang/String", "coder", "()B"⟩ : MethodName) (head1 (Jvm.Cond.code (⟨"java/lang/String", "coder", "()B"⟩ : MethodName) jdk_42_method_152_code 1 (some .byte) :: ws) ({ frames := 0, cells := 0, slots := 0, locals := 0 } : Room)) (fun a U => a = #[(.ref a0)] ∧ Z.Warmed39 U.vm ∧ U.heap = h0) (fun _ _ _ _ _ => True) (fun _ U o U' => ∃ v L, o = .returned v ∧ QCod Z a0 zc h0 n0 v U'.heap L ∧ FrameEnd U o U' L ({ frames := 0, cells := 0, slots := 0, locals := 0 } : Room).cells ({ frames := 0, cells := 0, slots := 0, locals := 0 } : Room).slots) := by
  refine MetFree.of_bodySF (plainFor_of_name pn_2) hisR ?_
  intro p e s m args below meth c s₁ Bd hml0 hP hK
  obtain ⟨rfl, hZ, hh⟩ := hP
  have hx := Bd.exec
  have hby := Bd.bytes
  have hml : c.maxLocals = 1 := hml0
  have hown : s.vm.findClass "java/lang/String" = some m.cls := findClass_of_methodNamed Bd.named
  have hnm := (name_of_methodNamed Bd.named Bd.method).1
  have X0 : Stand p l e ({ frames := 0, cells := 0, slots := 0, locals := 0 } : Room) s m #[(.ref a0)] below meth c s₁ [] 0 0 := Stand.of_body Bd
  have e0 : s₁.heap = h0 := by rw [← hh, Bd.state]; rfl
  have N0 := Fr.nil n0
  have Kp := Keep.refl h0 []
  show Run p e below (Ends s (QCod Z a0 zc h0 n0) ({ frames := 0, cells := 0, slots := 0, locals := 0 } : Room).cells ({ frames := 0, cells := 0, slots := 0, locals := 0 } : Room).slots) _
  refine Run.st (S' := s₁.setTop (mkF m 0 #[.val (.ref a0)] [])) (fun t k => castTop (ef_Cod m a0) k) ?_
  have u_S_cs := S_cs.ext OL.2
  obtain ⟨T1, X1, e1, st1⟩ := getS2 X0 hx hZ hown (host := "") (Or.inl (hwi hw 41 rfl)) Via.refl e0 u_S_cs (g := (mkF m 0 #[.val (.ref a0)] [])) rfl (hb hby d7_0)
  refine Run.st (S' := T1.setTop (mkF m 7 #[.val (.ref a0)] [(.ref a0)])) (fun _ k => st1 _ (XS.ifNo X1.here hx rfl (hb hby d7_3) rfl ((if0 _ _).trans (feq (show ¬ (zc = (0 : Int32)) from hzc)).1) (XS.aloadN X1.here hx rfl (hb hby d7_6) rfl rfl k))) ?_
  obtain ⟨T2, X2, e2, st2⟩ := getF X1 hx hZ hown (host := "") (Or.inl (hwi hw 26 rfl)) Via.refl e1 F_coder_a0 (g := (mkF m 7 #[.val (.ref a0)] [(.ref a0)])) rfl rfl (hb hby d7_7)
  refine Run.st (S' := T2.setTop (mkF m 14 #[.val (.ref a0)] [(.int (1 : Int32))])) (fun _ k => st2 _ (XS.goto X2.here hx rfl (pc0 := 10) (pc' := 14) rfl (hb hby d7_10) (by decide) (by decide) k)) ?_
  refine Run.out X2 hx Bd.notSynchronized Bd.returns rfl (Or.inl ⟨rfl, by simp, _, rfl⟩) (hb hby d7_14) (by decide) (by decide) ?_
  rw [e2]
  exact ⟨rfl, N0, rfl⟩
theorem pd_6 : parseMethodDescriptor "()B" = some ⟨[], some .byte⟩ := by decide +kernel
theorem d6_0 : decode jdk_42_method_54_code 0 = .ok (.aload_n 0, 1) := by decide +kernel
theorem d6_1 : decode jdk_42_method_54_code 1 = .ok (.getfield 9, 3) := by decide +kernel
theorem d6_4 : decode jdk_42_method_54_code 4 = .ok (.arraylength, 1) := by decide +kernel
theorem d6_5 : decode jdk_42_method_54_code 5 = .ok (.aload_n 0, 1) := by decide +kernel
theorem d6_6 : decode jdk_42_method_54_code 6 = .ok (.invokevirtual 335, 3) := by decide +kernel
theorem d6_9 : decode jdk_42_method_54_code 9 = .ok (.ishr, 1) := by decide +kernel
theorem d6_10 : decode jdk_42_method_54_code 10 = .ok (.ireturn, 1) := by decide +kernel
theorem ef_SLen (m : MethodId) (a0 : Addr) : entryFrame m #[(.ref a0)] 1 = mkF m 0 #[.val (.ref a0)] [] := by first | (simp [entryFrame, mkF, argsToLocals, Value.category]; done) | rfl
def QSLen (Z : State) (a0 : Addr) (t0 : Addr) (kb : ClassId) (bs : List Int32) (nb : Int32) (zc : Int32) (cs : List Int32) (h0 : Heap) (n0 : Nat) (v : Option Value) (h : Heap) (L : List Loc) : Prop := v = some (.int (Int32.ofNat cs.length)) ∧ Fr n0 L ∧ h = h0
set_option maxRecDepth 65536 in
set_option maxHeartbeats 40000000 in
theorem rmSLen (l : Launch) (Z : State) (aV : Array Value) (hw : ∀ d ∈ tables_1, d.before aV Z = true) (ws : List Jvm.Cond) (a0 : Addr) (t0 : Addr) (kb : ClassId) (bs : List Int32) (nb : Int32) (zc : Int32) (cs : List Int32) (h0 : Heap) (n0 : Nat) (Zn : n0 ≤ h0.size) (OL : Old Z n0 h0) (hzc : ¬ zc = 0) (hW : own_wide cs bs nb) (E_a0 : Exa Z h0 a0 "java/lang/String") (F_coder_a0 : Fld Z h0 a0 "java/lang/String" "coder" "B" (.int (1 : Int32))) (F_value_a0 : Fld Z h0 a0 "java/lang/String" "value" "[B" (.ref t0)) (V_t0 : Arv Z h0 t0 kb .byte nb (bs.map Value.int) (.int (0 : Int32))) (S_cs : Sta Z Z.heap "java/lang/String" "COMPACT_STRINGS" "Z" (.int zc)) :
    MetFree l (⟨"java/lang/String", "length", "()I"⟩ : MethodName) (head1 (Jvm.Cond.code (⟨"java/lang/String", "length", "()I"⟩ : MethodName) jdk_42_method_54_code 1 (some .int) :: ws) ({ frames := 1, cells := 0, slots := 0, locals := 13 } : Room)) (fun a U => a = #[(.ref a0)] ∧ Z.Warmed39 U.vm ∧ U.heap = h0) (fun _ _ _ _ _ => True) (fun _ U o U' => ∃ v L, o = .returned v ∧ QSLen Z a0 t0 kb bs nb zc cs h0 n0 v U'.heap L ∧ FrameEnd U o U' L ({ frames := 1, cells := 0, slots := 0, locals := 13 } : Room).cells ({ frames := 1, cells := 0, slots := 0, locals := 13 } : Room).slots) := by
  refine MetFree.of_bodySF (plainFor_of_name pn_2) hisR ?_
  intro p e s m args below meth c s₁ Bd hml0 hP hK
  obtain ⟨rfl, hZ, hh⟩ := hP
  have hx := Bd.exec
  have hby := Bd.bytes
  have hml : c.maxLocals = 1 := hml0
  have hown : s.vm.findClass "java/lang/String" = some m.cls := findClass_of_methodNamed Bd.named
  have hnm := (name_of_methodNamed Bd.named Bd.method).1
  have X0 : Stand p l e ({ frames := 1, cells := 0, slots := 0, locals := 13 } : Room) s m #[(.ref a0)] below meth c s₁ [] 0 0 := Stand.of_body Bd
  have e0 : s₁.heap = h0 := by rw [← hh, Bd.state]; rfl
  have N0 := Fr.nil n0
  have Kp := Keep.refl h0 []
  show Run p e below (Ends s (QSLen Z a0 t0 kb bs nb zc cs h0 n0) ({ frames := 1, cells := 0, slots := 0, locals := 13 } : Room).cells ({ frames := 1, cells := 0, slots := 0, locals := 13 } : Room).slots) _
  refine Run.st (S' := s₁.setTop (mkF m 0 #[.val (.ref a0)] [])) (fun t k => castTop (ef_SLen m a0) k) ?_
  refine Run.st (S' := s₁.setTop (mkF m 1 #[.val (.ref a0)] [(.ref a0)])) (fun _ k => XS.aloadN X0.here hx rfl (hb hby d6_0) rfl rfl k) ?_
  obtain ⟨T1, X1, e1, st1⟩ := getF X0 hx hZ hown (host := "") (Or.inl (hwi hw 25 rfl)) Via.refl e0 F_value_a0 (g := (mkF m 1 #[.val (.ref a0)] [(.ref a0)])) rfl rfl (hb hby d6_1)
  refine Run.st (S' := T1.setTop (mkF m 4 #[.val (.ref a0)] [(.ref t0)])) (fun _ k => st1 _ k) ?_
  obtain ⟨cl2, Ar2, -, Sa2, Na2, -, -⟩ := id V_t0
  refine Run.st (S' := T1.setTop (mkF m 5 #[.val (.ref a0)] [(.int nb)])) (fun _ k => X1.arraylength hx (by rw [e1]; exact Ar2.1) (State.isArrayOf_alike hZ.alike Ar2.2.1) (g := (mkF m 4 #[.val (.ref a0)] [(.ref t0)])) rfl rfl (hb hby d6_4) _ (by rw [len_of Sa2 Na2]; exact k)) ?_
  refine Run.st (S' := T1.setTop (mkF m 6 #[.val (.ref a0)] [(.ref a0), (.int nb)])) (fun _ k => XS.aloadN X1.here hx rfl (hb hby d6_5) rfl rfl k) ?_
  obtain ⟨cq3, kq3, q3a, q3b, q3c⟩ := isOf hZ e1 E_a0
  obtain ⟨_, _, ⟨T3, L3, k3, n3⟩, -, X3, ⟨Lc3, hQ3, l3, y3, z3⟩, st3⟩ := X1.virtualBack hx (y := (⟨"java/lang/String", "coder", "()B"⟩ : MethodName)) (z := (⟨"java/lang/String", "coder", "()B"⟩ : MethodName)) hown (mvT hZ (hwi hw 36 rfl)) (mvT hZ (hwi hw 37 rfl)) (notFace_of_selects (args := #[]) (mvT hZ (hwi hw 39 rfl))) (mvT hZ (hwi hw 39 rfl)) (mvT hZ (hwi hw 38 rfl)) (by decide) (backOf (W := 1) (rmCod l Z aV hw [] a0 zc h0 n0 Zn OL hzc F_coder_a0 S_cs) hZ (hwi hw 40 rfl) (hwi hw 8 rfl) (by decide) (by decide)) q3a q3c (g := (mkF m 6 #[.val (.ref a0)] [(.ref a0), (.int nb)])) rfl (by rw [hml]; rfl) (Steps.refl _) (argsL := []) (rest := [(.int nb)]) (lenOf pd_6 rfl) rfl (by show 2 * 0 + _ ≤ _; exact Nat.le_of_eq rfl) (hb hby d6_6) (fun _ _ => ⟨rfl, e1, (by decide : 0 + 0 ≤ _), (by decide : 0 + 0 ≤ _)⟩)
  dsimp only [Pt.U, Pt.locs, Pt.cells, Pt.slots] at X3 l3 y3 z3 st3 hQ3
  replace l3 := l3.symm; replace y3 := y3.symm; replace z3 := z3.symm; subst l3 y3 z3
  obtain ⟨rfl, N3q, e3⟩ := hQ3
  have N3 := Fr.app N0 N3q
  refine Run.st (S' := T3.setTop (mkF m 10 #[.val (.ref a0)] [(.int (nb >>> ((1 : Int32) &&& 31)))])) (fun _ k => st3.trans (XS.ishr X3.here hx rfl (hb hby d6_9) rfl k)) ?_
  refine Run.out X3 hx Bd.notSynchronized Bd.returns rfl (Or.inl ⟨rfl, by simp, _, rfl⟩) (hb hby d6_10) (by decide) (by decide) ?_
  rw [e3]
  exact ⟨congrArg (fun z => some (Value.int z)) (own_len2 hW), N3, rfl⟩
theorem own_cap18 {p : Int32} (h0 : ¬ p < 0) (h1 : p.toNatClampNeg < 10) : ¬ (p <<< ((1 : Int32) &&& 31)) < 0 ∧ (p <<< ((1 : Int32) &&& 31)).toNatClampNeg ≤ 18 := by
  obtain ⟨e1, e2, -⟩ := own_sh1 h0 h1
  have q := own_nat h0
  rw [Int32.lt_iff_toInt_lt, e1, e2, own_z0]
  omega
theorem own_lt1 {p : Int32} (h1 : p.toNatClampNeg < 10) : p < (1073741823 : Int32) := by
  rw [Int32.lt_iff_toInt_lt, show (1073741823 : Int32).toInt = 1073741823 from by decide]
  simp only [Int32.toNatClampNeg] at h1
  omega
theorem own_repB {Z : State} {h : Heap} {a : Addr} {k : ClassId} {n : Int32} (F : Arv Z h a k .byte n [] (.int (0 : Int32))) : Arv Z h a k .byte n ((List.replicate n.toNatClampNeg (0 : Int32)).map Value.int) (.int (0 : Int32)) := by
  rw [List.map_replicate]
  exact F.pad (by simpa using pad_rep [] (.int (0 : Int32)) n.toNatClampNeg)
theorem d13_0 : decode jdk_52_method_3_code 0 = .ok (.iload_n 0, 1) := by decide +kernel
theorem d13_1 : decode jdk_52_method_3_code 1 = .ok (.ifCond .ge 11, 3) := by decide +kernel
theorem d13_12 : decode jdk_52_method_3_code 12 = .ok (.iload_n 0, 1) := by decide +kernel
theorem d13_13 : decode jdk_52_method_3_code 13 = .ok (.ldc 20, 2) := by decide +kernel
theorem d13_15 : decode jdk_52_method_3_code 15 = .ok (.if_icmp .lt 40, 3) := by decide +kernel
theorem d13_55 : decode jdk_52_method_3_code 55 = .ok (.iload_n 0, 1) := by decide +kernel
theorem d13_56 : decode jdk_52_method_3_code 56 = .ok (.iconst 1, 1) := by decide +kernel
theorem d13_57 : decode jdk_52_method_3_code 57 = .ok (.ishl, 1) := by decide +kernel
theorem d13_58 : decode jdk_52_method_3_code 58 = .ok (.ireturn, 1) := by decide +kernel
theorem ef_NBL (m : MethodId) (p2 : Int32) : entryFrame m #[(.int p2)] 1 = mkF m 0 #[.val (.int p2)] [] := by first | (simp [entryFrame, mkF, argsToLocals, Value.category]; done) | rfl
def QNBL (Z : State) (p2 : Int32) (h0 : Heap) (n0 : Nat) (v : Option Value) (h : Heap) (L : List Loc) : Prop := v = some (.int (p2 <<< ((1 : Int32) &&& 31))) ∧ Fr n0 L ∧ h = h0
set_option maxRecDepth 65536 in
set_option maxHeartbeats 40000000 in
theorem rmNBL (l : Launch) (Z : State) (aV : Array Value) (hw : ∀ d ∈ tables_1, d.before aV Z = true) (ws : List Jvm.Cond) (p2 : Int32) (h0 : Heap) (n0 : Nat) (Zn : n0 ≤ h0.size) (hn : ¬ p2 < 0) (h9 : p2.toNatClampNeg < 10) :
    MetFree l (⟨"java/lang/StringUTF16", "newBytesLength", "(I)I"⟩ : MethodName) (head1 (Jvm.Cond.code (⟨"java/lang/StringUTF16", "newBytesLength", "(I)I"⟩ : MethodName) jdk_52_method_3_code 1 (some .int) :: ws) ({ frames := 0, cells := 0, slots := 0, locals := 0 } : Room)) (fun a U => a = #[(.int p2)] ∧ Z.Warmed39 U.vm ∧ U.heap = h0) (fun _ _ _ _ _ => True) (fun _ U o U' => ∃ v L, o = .returned v ∧ QNBL Z p2 h0 n0 v U'.heap L ∧ FrameEnd U o U' L ({ frames := 0, cells := 0, slots := 0, locals := 0 } : Room).cells ({ frames := 0, cells := 0, slots := 0, locals := 0 } : Room).slots) := by
  refine MetFree.of_bodySF (plainFor_of_name pn_0) hisR ?_
  intro p e s m args below meth c s₁ Bd hml0 hP hK
  obtain ⟨rfl, hZ, hh⟩ := hP
  have hx := Bd.exec
  have hby := Bd.bytes
  have hml : c.maxLocals = 1 := hml0
  have hown : s.vm.findClass "java/lang/StringUTF16" = some m.cls := findClass_of_methodNamed Bd.named
  have hnm := (name_of_methodNamed Bd.named Bd.method).1
  have X0 : Stand p l e ({ frames := 0, cells := 0, slots := 0, locals := 0 } : Room) s m #[(.int p2)] below meth c s₁ [] 0 0 := Stand.of_body Bd
  have e0 : s₁.heap = h0 := by rw [← hh, Bd.state]; rfl
  have N0 := Fr.nil n0
  have Kp := Keep.refl h0 []
  show Run p e below (Ends s (QNBL Z p2 h0 n0) ({ frames := 0, cells := 0, slots := 0, locals := 0 } : Room).cells ({ frames := 0, cells := 0, slots := 0, locals := 0 } : Room).slots) _
  refine Run.st (S' := s₁.setTop (mkF m 0 #[.val (.int p2)] [])) (fun t k => castTop (ef_NBL m p2) k) ?_
  refine Run.st (S' := s₁.setTop (mkF m 58 #[.val (.int p2)] [(.int (p2 <<< ((1 : Int32) &&& 31)))])) (fun _ k => XS.iloadN X0.here hx rfl (hb hby d13_0) rfl (XS.ifYes X0.here hx rfl (pc0 := 1) (pc' := 12) rfl (hb hby d13_1) rfl ((if0 _ _).trans (flt (show ¬ (p2 < (0 : Int32)) from hn)).2.1) (by decide) (by decide) (XS.iloadN X0.here hx rfl (hb hby d13_12) rfl (X0.ldcInt hx hown (mvT hZ (hwi hw 61 rfl)) (g := (mkF m 13 #[.val (.int p2)] [(.int p2)])) rfl (hb hby d13_13) _ (XS.icmpYes X0.here hx rfl (pc0 := 15) (pc' := 55) rfl (hb hby d13_15) rfl (tlt (show p2 < (1073741823 : Int32) from (own_lt1 h9))).1 (by decide) (by decide) (XS.iloadN X0.here hx rfl (hb hby d13_55) rfl (XS.iconst X0.here hx rfl (hb hby d13_56) (XS.ishl X0.here hx rfl (hb hby d13_57) rfl k)))))))) ?_
  refine Run.out X0 hx Bd.notSynchronized Bd.returns rfl (Or.inl ⟨rfl, by simp, _, rfl⟩) (hb hby d13_58) (by decide) (by decide) ?_
  rw [e0]
  exact ⟨rfl, N0, rfl⟩
theorem pd_7 : parseMethodDescriptor "(I)I" = some ⟨[.int], some .int⟩ := by decide +kernel
theorem d12_0 : decode jdk_52_method_2_code 0 = .ok (.iload_n 0, 1) := by decide +kernel
theorem d12_1 : decode jdk_52_method_2_code 1 = .ok (.invokestatic 11, 3) := by decide +kernel
theorem d12_4 : decode jdk_52_method_2_code 4 = .ok (.newarray .byte, 2) := by decide +kernel
theorem d12_6 : decode jdk_52_method_2_code 6 = .ok (.areturn, 1) := by decide +kernel
theorem ef_NBF (m : MethodId) (p2 : Int32) : entryFrame m #[(.int p2)] 1 = mkF m 0 #[.val (.int p2)] [] := by first | (simp [entryFrame, mkF, argsToLocals, Value.category]; done) | rfl
def QNBF (Z : State) (p2 : Int32) (h0 : Heap) (n0 : Nat) (v : Option Value) (h : Heap) (L : List Loc) : Prop := ∃ (y0 : Addr) (ky0 : ClassId), v = some (.ref y0) ∧ Fr n0 L ∧ Keep h0 h [] ∧ n0 ≤ y0 ∧ h0.size ≤ y0 ∧ Arv Z h y0 ky0 .byte (p2 <<< ((1 : Int32) &&& 31)) [] (.int (0 : Int32))
set_option maxRecDepth 65536 in
set_option maxHeartbeats 40000000 in
theorem rmNBF (l : Launch) (Z : State) (aV : Array Value) (hw : ∀ d ∈ tables_1, d.before aV Z = true) (ws : List Jvm.Cond) (p2 : Int32) (h0 : Heap) (n0 : Nat) (Zn : n0 ≤ h0.size) (hn : ¬ p2 < 0) (h9 : p2.toNatClampNeg < 10) :
    MetFree l (⟨"java/lang/StringUTF16", "newBytesFor", "(I)[B"⟩ : MethodName) (head1 (Jvm.Cond.code (⟨"java/lang/StringUTF16", "newBytesFor", "(I)[B"⟩ : MethodName) jdk_52_method_2_code 1 (some (.array .byte)) :: ws) ({ frames := 1, cells := 1, slots := 18, locals := 12 } : Room)) (fun a U => a = #[(.int p2)] ∧ Z.Warmed39 U.vm ∧ U.heap = h0) (fun _ _ _ _ _ => True) (fun _ U o U' => ∃ v L, o = .returned v ∧ QNBF Z p2 h0 n0 v U'.heap L ∧ FrameEnd U o U' L ({ frames := 1, cells := 1, slots := 18, locals := 12 } : Room).cells ({ frames := 1, cells := 1, slots := 18, locals := 12 } : Room).slots) := by
  refine MetFree.of_bodySF (plainFor_of_name pn_0) hisR ?_
  intro p e s m args below meth c s₁ Bd hml0 hP hK
  obtain ⟨rfl, hZ, hh⟩ := hP
  have hx := Bd.exec
  have hby := Bd.bytes
  have hml : c.maxLocals = 1 := hml0
  have hown : s.vm.findClass "java/lang/StringUTF16" = some m.cls := findClass_of_methodNamed Bd.named
  have hnm := (name_of_methodNamed Bd.named Bd.method).1
  have X0 : Stand p l e ({ frames := 1, cells := 1, slots := 18, locals := 12 } : Room) s m #[(.int p2)] below meth c s₁ [] 0 0 := Stand.of_body Bd
  have e0 : s₁.heap = h0 := by rw [← hh, Bd.state]; rfl
  have N0 := Fr.nil n0
  have Kp := Keep.refl h0 []
  show Run p e below (Ends s (QNBF Z p2 h0 n0) ({ frames := 1, cells := 1, slots := 18, locals := 12 } : Room).cells ({ frames := 1, cells := 1, slots := 18, locals := 12 } : Room).slots) _
  refine Run.st (S' := s₁.setTop (mkF m 0 #[.val (.int p2)] [])) (fun t k => castTop (ef_NBF m p2) k) ?_
  refine Run.st (S' := s₁.setTop (mkF m 1 #[.val (.int p2)] [(.int p2)])) (fun _ k => XS.iloadN X0.here hx rfl (hb hby d12_0) rfl k) ?_
  obtain ⟨_, _, ⟨T1, L1, k1, n1⟩, -, X1, ⟨Lc1, hQ1, l1, y1, z1⟩, st1⟩ := Jvm.LawKit.callS X0 hx (y := (⟨"java/lang/StringUTF16", "newBytesLength", "(I)I"⟩ : MethodName)) hown (mvT hZ (hwi hw 58 rfl)) (mvT hZ (hwi hw 59 rfl)) (mvT hZ (hwi hw 47 rfl)) (mvT hZ (hwi hw 60 rfl)) (by decide) (backOf (W := 0) (rmNBL l Z aV hw [] p2 h0 n0 Zn hn h9) hZ (hwi hw 60 rfl) (hwi hw 47 rfl) (by decide) (by decide)) (g := (mkF m 1 #[.val (.int p2)] [(.int p2)])) rfl (by rw [hml]; rfl) (argsL := [(.int p2)]) (rest := []) (lenOf pd_7 rfl) rfl (by show 2 * 0 + _ ≤ _; exact Nat.le_of_eq rfl) (hb hby d12_1) (fun _ _ => ⟨rfl, e0, (by decide : 0 + 0 ≤ _), (by decide : 0 + 0 ≤ _)⟩)
  dsimp only [Pt.U, Pt.locs, Pt.cells, Pt.slots] at X1 l1 y1 z1 st1 hQ1
  replace l1 := l1.symm; replace y1 := y1.symm; replace z1 := z1.symm; subst l1 y1 z1
  obtain ⟨rfl, N1q, e1⟩ := hQ1
  have N1 := Fr.app N0 N1q
  refine Run.st (S' := T1.setTop (mkF m 4 #[.val (.int p2)] [(.int (p2 <<< ((1 : Int32) &&& 31)))])) (fun _ k => st1 _ k) ?_
  obtain ⟨T2, h2, k2, X2, e2, E2, A2, st2⟩ := newP X1 hx hZ (hwi hw 20 rfl) e1 (g := (mkF m 4 #[.val (.int p2)] [(.int (p2 <<< ((1 : Int32) &&& 31)))])) rfl (hb hby d12_4) rfl (own_cap18 hn h9).1 (cap := 18) (own_cap18 hn h9).2 (by decide) (by decide) (by decide)
  obtain ⟨b2, g2⟩ : ∃ z, z = h0.size := ⟨_, rfl⟩
  rw [← g2] at A2 st2
  have g_b2 : n0 ≤ b2 := Nat.le_trans Zn (Nat.le_of_eq g2.symm)
  have Zn := Nat.le_trans Zn E2.1
  have sz_b2 : h0.size ≤ b2 := Nat.le_trans Kp.1 (Nat.le_of_eq g2.symm)
  have Kp := Kp.ext E2
  have V_b2 : Arv Z h2 b2 k2 .byte (p2 <<< ((1 : Int32) &&& 31)) [] (.int (0 : Int32)) := Arv.new A2 (own_cap18 hn h9).1
  refine Run.st (S' := T2.setTop (mkF m 6 #[.val (.int p2)] [(.ref b2)])) (fun _ k => st2 _ k) ?_
  refine Run.out X2 hx Bd.notSynchronized Bd.returns rfl (Or.inr (Or.inr (Or.inr (Or.inr ⟨rfl, rfl, rfl⟩)))) (hb hby d12_6) (by decide) (by decide) ?_
  rw [e2]
  exact ⟨b2, k2, rfl, N1, Kp, g_b2, sz_b2, V_b2⟩
theorem own_pin {p1 nb : Int32} (h0 : ¬ p1 < 0) (hin : p1.toNatClampNeg < 9 ∧ 2 * p1.toInt + 1 < nb.toInt) : (¬ (p1 <<< ((1 : Int32) &&& 31)) < 0 ∧ (p1 <<< ((1 : Int32) &&& 31)) < nb) ∧ (¬ ((p1 <<< ((1 : Int32) &&& 31)) + (1 : Int32)) < 0 ∧ ((p1 <<< ((1 : Int32) &&& 31)) + (1 : Int32)) < nb) := by
  have e := c_ishl p1 (1 : Int32) 1 (by decide)
  have r := rng32 (p1 <<< ((1 : Int32) &&& 31))
  have q := own_nat h0
  have r2 := rng32 ((p1 <<< ((1 : Int32) &&& 31)) + (1 : Int32))
  have e2 := c_iadd (p1 <<< ((1 : Int32) &&& 31)) (1 : Int32)
  have e3 : (1 : Int32).toInt = 1 := by decide
  have e4 := own_z0
  simp only [Int32.lt_iff_toInt_lt]
  omega
theorem own_pil {p1 nb : Int32} {bs : List Int32} (h0 : ¬ p1 < 0) (hin : p1.toNatClampNeg < 9 ∧ 2 * p1.toInt + 1 < nb.toInt) (hb : bs.length = nb.toNatClampNeg) : (p1 <<< ((1 : Int32) &&& 31)).toNatClampNeg < (bs.map Value.int).length ∧ ((p1 <<< ((1 : Int32) &&& 31)) + (1 : Int32)).toNatClampNeg < (bs.map Value.int).length := by
  obtain ⟨e1, -, e2⟩ := own_sh1 h0 (by omega)
  have q := own_nat h0
  rw [e1, e2, List.length_map, hb]
  simp only [Int32.toNatClampNeg] at q ⊢
  omega
theorem d14_0 : decode jdk_52_method_4_code 0 = .ok (.getstatic 44, 3) := by decide +kernel
theorem d14_3 : decode jdk_52_method_4_code 3 = .ok (.ifCond .ne 25, 3) := by decide +kernel
theorem d14_28 : decode jdk_52_method_4_code 28 = .ok (.iload_n 1, 1) := by decide +kernel
theorem d14_29 : decode jdk_52_method_4_code 29 = .ok (.iconst 1, 1) := by decide +kernel
theorem d14_30 : decode jdk_52_method_4_code 30 = .ok (.ishl, 1) := by decide +kernel
theorem d14_31 : decode jdk_52_method_4_code 31 = .ok (.istore_n 1, 1) := by decide +kernel
theorem d14_32 : decode jdk_52_method_4_code 32 = .ok (.aload_n 0, 1) := by decide +kernel
theorem d14_33 : decode jdk_52_method_4_code 33 = .ok (.iload_n 1, 1) := by decide +kernel
theorem d14_34 : decode jdk_52_method_4_code 34 = .ok (.iinc 1 1, 3) := by decide +kernel
theorem d14_37 : decode jdk_52_method_4_code 37 = .ok (.iload_n 2, 1) := by decide +kernel
theorem d14_38 : decode jdk_52_method_4_code 38 = .ok (.getstatic 59, 3) := by decide +kernel
theorem d14_41 : decode jdk_52_method_4_code 41 = .ok (.ishr, 1) := by decide +kernel
theorem d14_42 : decode jdk_52_method_4_code 42 = .ok (.i2b, 1) := by decide +kernel
theorem d14_43 : decode jdk_52_method_4_code 43 = .ok (.bastore, 1) := by decide +kernel
theorem d14_44 : decode jdk_52_method_4_code 44 = .ok (.aload_n 0, 1) := by decide +kernel
theorem d14_45 : decode jdk_52_method_4_code 45 = .ok (.iload_n 1, 1) := by decide +kernel
theorem d14_46 : decode jdk_52_method_4_code 46 = .ok (.iload_n 2, 1) := by decide +kernel
theorem d14_47 : decode jdk_52_method_4_code 47 = .ok (.getstatic 63, 3) := by decide +kernel
theorem d14_50 : decode jdk_52_method_4_code 50 = .ok (.ishr, 1) := by decide +kernel
theorem d14_51 : decode jdk_52_method_4_code 51 = .ok (.i2b, 1) := by decide +kernel
theorem d14_52 : decode jdk_52_method_4_code 52 = .ok (.bastore, 1) := by decide +kernel
theorem d14_53 : decode jdk_52_method_4_code 53 = .ok (.return_, 1) := by decide +kernel
theorem ef_PCh (m : MethodId) (a0 : Addr) (p1 : Int32) (p2 : Int32) : entryFrame m #[(.ref a0), (.int p1), (.int p2)] 3 = mkF m 0 #[.val (.ref a0), .val (.int p1), .val (.int p2)] [] := by first | (simp [entryFrame, mkF, argsToLocals, Value.category]; done) | rfl
def QPCh (Z : State) (a0 : Addr) (p1 : Int32) (p2 : Int32) (kb : ClassId) (bs : List Int32) (nb : Int32) (h0 : Heap) (n0 : Nat) (v : Option Value) (h : Heap) (L : List Loc) : Prop := v = none ∧ Fr n0 L ∧ Keep h0 h [a0] ∧ Arv Z h a0 kb .byte nb (((bs.set (2 * p1.toNatClampNeg) (StrChars.lo8 p2)).set (2 * p1.toNatClampNeg + 1) (StrChars.hi8 p2)).map Value.int) (.int (0 : Int32))
set_option maxRecDepth 65536 in
set_option maxHeartbeats 40000000 in
theorem rmPCh (l : Launch) (Z : State) (aV : Array Value) (hw : ∀ d ∈ tables_1, d.before aV Z = true) (ws : List Jvm.Cond) (a0 : Addr) (p1 : Int32) (p2 : Int32) (kb : ClassId) (bs : List Int32) (nb : Int32) (h0 : Heap) (n0 : Nat) (Zn : n0 ≤ h0.size) (OL : Old Z n0 h0) (g_a0 : n0 ≤ a0) (hp0 : ¬ p1 < 0) (hin : p1.toNatClampNeg < 9 ∧ 2 * p1.toInt + 1 < nb.toInt) (hbl : bs.length = nb.toNatClampNeg) (V_a0 : Arv Z h0 a0 kb .byte nb (bs.map Value.int) (.int (0 : Int32))) (S_as : Sta Z Z.heap "java/lang/StringUTF16" "$assertionsDisabled" "Z" (.int (1 : Int32))) (S_hi : Sta Z Z.heap "java/lang/StringUTF16" "HI_BYTE_SHIFT" "I" (.int (0 : Int32))) (S_lo : Sta Z Z.heap "java/lang/StringUTF16" "LO_BYTE_SHIFT" "I" (.int (8 : Int32))) :
    MetFree l (⟨"java/lang/StringUTF16", "putChar", "([BII)V"⟩ : MethodName) (head1 (Jvm.Cond.code (⟨"java/lang/StringUTF16", "putChar", "([BII)V"⟩ : MethodName) jdk_52_method_4_code 3 none :: ws) ({ frames := 0, cells := 0, slots := 0, locals := 0 } : Room)) (fun a U => a = #[(.ref a0), (.int p1), (.int p2)] ∧ Z.Warmed39 U.vm ∧ U.heap = h0) (fun _ _ _ _ _ => True) (fun _ U o U' => ∃ v L, o = .returned v ∧ QPCh Z a0 p1 p2 kb bs nb h0 n0 v U'.heap L ∧ FrameEnd U o U' L ({ frames := 0, cells := 0, slots := 0, locals := 0 } : Room).cells ({ frames := 0, cells := 0, slots := 0, locals := 0 } : Room).slots) := by
  refine MetFree.of_bodySF (plainFor_of_name pn_0) hisR ?_
  intro p e s m args below meth c s₁ Bd hml0 hP hK
  obtain ⟨rfl, hZ, hh⟩ := hP
  have hx := Bd.exec
  have hby := Bd.bytes
  have hml : c.maxLocals = 3 := hml0
  have hown : s.vm.findClass "java/lang/StringUTF16" = some m.cls := findClass_of_methodNamed Bd.named
  have hnm := (name_of_methodNamed Bd.named Bd.method).1
  have X0 : Stand p l e ({ frames := 0, cells := 0, slots := 0, locals := 0 } : Room) s m #[(.ref a0), (.int p1), (.int p2)] below meth c s₁ [] 0 0 := Stand.of_body Bd
  have e0 : s₁.heap = h0 := by rw [← hh, Bd.state]; rfl
  have N0 := Fr.nil n0
  have Kp := Keep.refl h0 [a0]
  show Run p e below (Ends s (QPCh Z a0 p1 p2 kb bs nb h0 n0) ({ frames := 0, cells := 0, slots := 0, locals := 0 } : Room).cells ({ frames := 0, cells := 0, slots := 0, locals := 0 } : Room).slots) _
  refine Run.st (S' := s₁.setTop (mkF m 0 #[.val (.ref a0), .val (.int p1), .val (.int p2)] [])) (fun t k => castTop (ef_PCh m a0 p1 p2) k) ?_
  have u_S_as := S_as.ext OL.2
  obtain ⟨T1, X1, e1, st1⟩ := getS2 X0 hx hZ hown (host := "") (Or.inl (hwi hw 65 rfl)) Via.refl e0 u_S_as (g := (mkF m 0 #[.val (.ref a0), .val (.int p1), .val (.int p2)] [])) rfl (hb hby d14_0)
  refine Run.st (S' := T1.setTop (mkF m 34 #[.val (.ref a0), .val (.int (p1 <<< ((1 : Int32) &&& 31))), .val (.int p2)] [(.int (p1 <<< ((1 : Int32) &&& 31))), (.ref a0)])) (fun _ k => st1 _ (XS.ifYes X1.here hx rfl (pc0 := 3) (pc' := 28) rfl (hb hby d14_3) rfl ((if0 _ _).trans (feq (show ¬ ((1 : Int32) = (0 : Int32)) from (by decide))).2) (by decide) (by decide) (XS.iloadN X1.here hx rfl (hb hby d14_28) rfl (XS.iconst X1.here hx rfl (hb hby d14_29) (XS.ishl X1.here hx rfl (hb hby d14_30) rfl (XS.istoreN X1.here hx rfl (hb hby d14_31) rfl (l' := #[.val (.ref a0), .val (.int (p1 <<< ((1 : Int32) &&& 31))), .val (.int p2)]) rfl (XS.aloadN X1.here hx rfl (hb hby d14_32) rfl rfl (XS.iloadN X1.here hx rfl (hb hby d14_33) rfl k)))))))) ?_
  refine Run.st (S' := T1.setTop (mkF m 38 #[.val (.ref a0), .val (.int ((p1 <<< ((1 : Int32) &&& 31)) + (1 : Int32))), .val (.int p2)] [(.int p2), (.int (p1 <<< ((1 : Int32) &&& 31))), (.ref a0)])) (fun _ k => XS.iinc X1.here hx rfl (hb hby d14_34) rfl (l' := #[.val (.ref a0), .val (.int ((p1 <<< ((1 : Int32) &&& 31)) + (1 : Int32))), .val (.int p2)]) rfl (XS.iloadN X1.here hx rfl (hb hby d14_37) rfl k)) ?_
  have u_S_hi := S_hi.ext OL.2
  obtain ⟨T2, X2, e2, st2⟩ := getS2 X1 hx hZ hown (host := "") (Or.inl (hwi hw 66 rfl)) Via.refl e1 u_S_hi (g := (mkF m 38 #[.val (.ref a0), .val (.int ((p1 <<< ((1 : Int32) &&& 31)) + (1 : Int32))), .val (.int p2)] [(.int p2), (.int (p1 <<< ((1 : Int32) &&& 31))), (.ref a0)])) rfl (hb hby d14_38)
  refine Run.st (S' := T2.setTop (mkF m 43 #[.val (.ref a0), .val (.int ((p1 <<< ((1 : Int32) &&& 31)) + (1 : Int32))), .val (.int p2)] [(.int ((p2 >>> ((0 : Int32) &&& 31)).toInt8.toInt32)), (.int (p1 <<< ((1 : Int32) &&& 31))), (.ref a0)])) (fun _ k => st2 _ (XS.ishr X2.here hx rfl (hb hby d14_41) rfl (XS.i2b X2.here hx rfl (hb hby d14_42) rfl k))) ?_
  obtain ⟨cl3, Ar3, qa3, Sa3, Na3, Ha3, Ga3⟩ := V_a0
  have hin3 : ¬ ((p1 <<< ((1 : Int32) &&& 31)) < 0 ∨ cl3.slots.size ≤ ((p1 <<< ((1 : Int32) &&& 31))).toNatClampNeg) := inb_of Sa3 (own_pin hp0 hin).1
  obtain ⟨T3, h3, X3, e3, W3, st3⟩ := stB X2 hx hZ e2 Ar3 (j := (p1 <<< ((1 : Int32) &&& 31))) hin3 (g := (mkF m 43 #[.val (.ref a0), .val (.int ((p1 <<< ((1 : Int32) &&& 31)) + (1 : Int32))), .val (.int p2)] [(.int ((p2 >>> ((0 : Int32) &&& 31)).toInt8.toInt32)), (.int (p1 <<< ((1 : Int32) &&& 31))), (.ref a0)])) rfl rfl (hb hby d14_43)
  have V_a0 := Arv.set Ar3 qa3 Sa3 Na3 Ha3 Ga3 (fits_nar_byte _) W3 ((p1 <<< ((1 : Int32) &&& 31))).toNatClampNeg rfl (own_pil hp0 hin hbl).1
  rw [own_set] at V_a0
  have OL := OL.wr W3 g_a0
  have N3 := Fr.snoc X3 N0 g_a0
  have Kp := Kp.wr W3 (Or.inl (by simp))
  have Zn := Nat.le_trans Zn (Nat.le_of_eq W3.size.symm)
  refine Run.st (S' := T3.setTop (mkF m 47 #[.val (.ref a0), .val (.int ((p1 <<< ((1 : Int32) &&& 31)) + (1 : Int32))), .val (.int p2)] [(.int p2), (.int ((p1 <<< ((1 : Int32) &&& 31)) + (1 : Int32))), (.ref a0)])) (fun _ k => st3 _ (XS.aloadN X3.here hx rfl (hb hby d14_44) rfl rfl (XS.iloadN X3.here hx rfl (hb hby d14_45) rfl (XS.iloadN X3.here hx rfl (hb hby d14_46) rfl k)))) ?_
  have u_S_lo := S_lo.ext OL.2
  obtain ⟨T4, X4, e4, st4⟩ := getS2 X3 hx hZ hown (host := "") (Or.inl (hwi hw 67 rfl)) Via.refl e3 u_S_lo (g := (mkF m 47 #[.val (.ref a0), .val (.int ((p1 <<< ((1 : Int32) &&& 31)) + (1 : Int32))), .val (.int p2)] [(.int p2), (.int ((p1 <<< ((1 : Int32) &&& 31)) + (1 : Int32))), (.ref a0)])) rfl (hb hby d14_47)
  refine Run.st (S' := T4.setTop (mkF m 52 #[.val (.ref a0), .val (.int ((p1 <<< ((1 : Int32) &&& 31)) + (1 : Int32))), .val (.int p2)] [(.int ((p2 >>> ((8 : Int32) &&& 31)).toInt8.toInt32)), (.int ((p1 <<< ((1 : Int32) &&& 31)) + (1 : Int32))), (.ref a0)])) (fun _ k => st4 _ (XS.ishr X4.here hx rfl (hb hby d14_50) rfl (XS.i2b X4.here hx rfl (hb hby d14_51) rfl k))) ?_
  obtain ⟨cl5, Ar5, qa5, Sa5, Na5, Ha5, Ga5⟩ := V_a0
  have hin5 : ¬ (((p1 <<< ((1 : Int32) &&& 31)) + (1 : Int32)) < 0 ∨ cl5.slots.size ≤ (((p1 <<< ((1 : Int32) &&& 31)) + (1 : Int32))).toNatClampNeg) := inb_of Sa5 (own_pin hp0 hin).2
  obtain ⟨T5, h5, X5, e5, W5, st5⟩ := stB X4 hx hZ e4 Ar5 (j := ((p1 <<< ((1 : Int32) &&& 31)) + (1 : Int32))) hin5 (g := (mkF m 52 #[.val (.ref a0), .val (.int ((p1 <<< ((1 : Int32) &&& 31)) + (1 : Int32))), .val (.int p2)] [(.int ((p2 >>> ((8 : Int32) &&& 31)).toInt8.toInt32)), (.int ((p1 <<< ((1 : Int32) &&& 31)) + (1 : Int32))), (.ref a0)])) rfl rfl (hb hby d14_52)
  have V_a0 := Arv.set Ar5 qa5 Sa5 Na5 Ha5 Ga5 (fits_nar_byte _) W5 (((p1 <<< ((1 : Int32) &&& 31)) + (1 : Int32))).toNatClampNeg rfl (own_pil hp0 hin (by rw [List.length_set]; exact hbl)).2
  rw [own_set] at V_a0
  have OL := OL.wr W5 g_a0
  have N5 := Fr.snoc X5 N3 g_a0
  have Kp := Kp.wr W5 (Or.inl (by simp))
  have Zn := Nat.le_trans Zn (Nat.le_of_eq W5.size.symm)
  refine Run.st (S' := T5.setTop (mkF m 53 #[.val (.ref a0), .val (.int ((p1 <<< ((1 : Int32) &&& 31)) + (1 : Int32))), .val (.int p2)] [])) (fun _ k => st5 _ k) ?_
  refine Run.outV X5 hx Bd.notSynchronized Bd.returns (hb hby d14_53) (by decide) (by decide) ?_
  rw [e5]
  exact ⟨rfl, N5, Kp, by rw [own_pc hp0 (by have := hin.1; omega)] at V_a0; exact V_a0⟩
theorem own_lt9 {iv p2 : Int32} {fu : Nat} (h : iv.toInt + ((fu + 1 : Nat) : Int) = p2.toInt) : iv < p2 := by
  rw [Int32.lt_iff_toInt_lt]
  omega
theorem own_nl9 {iv p2 : Int32} (h : iv.toInt + ((0 : Nat) : Int) = p2.toInt) : ¬ iv < p2 := by
  rw [Int32.lt_iff_toInt_lt]
  omega
theorem own_lc9 {iv p2 : Int32} {fu : Nat} {cs : List Int32} (hl : cs.length = p2.toNatClampNeg) (h0 : 0 ≤ iv.toInt) (h : iv.toInt + ((fu + 1 : Nat) : Int) = p2.toInt) : iv.toNatClampNeg < cs.length := by
  rw [hl]
  simp only [Int32.toNatClampNeg]
  omega
theorem own_i1 {iv p2 : Int32} {fu : Nat} (h9 : p2.toNatClampNeg < 10) (h0 : 0 ≤ iv.toInt) (h : iv.toInt + ((fu + 1 : Nat) : Int) = p2.toInt) : (iv + (1 : Int32)).toInt + (fu : Int) = p2.toInt ∧ 0 ≤ (iv + (1 : Int32)).toInt ∧ (iv + (1 : Int32)).toNatClampNeg = iv.toNatClampNeg + 1 := by
  have e2 := c_iadd iv (1 : Int32)
  have r2 := rng32 (iv + (1 : Int32))
  have e3 : (1 : Int32).toInt = 1 := by decide
  simp only [Int32.toNatClampNeg] at h9 ⊢
  omega
theorem own_n0 {p2 : Int32} (hn : ¬ p2 < 0) : (0 : Int32).toInt + ((p2.toNatClampNeg : Nat) : Int) = p2.toInt := by
  rw [own_nat hn, own_z0]
  omega
theorem own_pcin {iv p2 : Int32} {fu : Nat} (h9 : p2.toNatClampNeg < 10) (hn : ¬ p2 < 0) (h0 : 0 ≤ iv.toInt) (h : iv.toInt + ((fu + 1 : Nat) : Int) = p2.toInt) : iv.toNatClampNeg < 9 ∧ 2 * iv.toInt + 1 < (p2 <<< ((1 : Int32) &&& 31)).toInt := by
  rw [(own_sh1 hn h9).2.1]
  simp only [Int32.toNatClampNeg] at h9 ⊢
  omega
theorem own_blen {bz cs : List Int32} {p2 : Int32} (h9 : p2.toNatClampNeg < 10) (hn : ¬ p2 < 0) (hl : cs.length = p2.toNatClampNeg) (h : bz.length = 2 * cs.length) : bz.length = (p2 <<< ((1 : Int32) &&& 31)).toNatClampNeg := by
  rw [(own_sh1 hn h9).1, h, hl]
theorem pd_8 : parseMethodDescriptor "(I)[B" = some ⟨[.int], some (.array .byte)⟩ := by decide +kernel
theorem pd_9 : parseMethodDescriptor "([BII)V" = some ⟨[(.array .byte), .int, .int], none⟩ := by decide +kernel
theorem d11_0 : decode jdk_52_method_14_code 0 = .ok (.iload_n 2, 1) := by decide +kernel
theorem d11_1 : decode jdk_52_method_14_code 1 = .ok (.invokestatic 107, 3) := by decide +kernel
theorem d11_4 : decode jdk_52_method_14_code 4 = .ok (.astore_n 3, 1) := by decide +kernel
theorem d11_5 : decode jdk_52_method_14_code 5 = .ok (.iconst 0, 1) := by decide +kernel
theorem d11_6 : decode jdk_52_method_14_code 6 = .ok (.istore 4, 2) := by decide +kernel
theorem d11_8 : decode jdk_52_method_14_code 8 = .ok (.iload 4, 2) := by decide +kernel
theorem d11_10 : decode jdk_52_method_14_code 10 = .ok (.iload_n 2, 1) := by decide +kernel
theorem d11_11 : decode jdk_52_method_14_code 11 = .ok (.if_icmp .ge 21, 3) := by decide +kernel
theorem d11_14 : decode jdk_52_method_14_code 14 = .ok (.aload_n 3, 1) := by decide +kernel
theorem d11_15 : decode jdk_52_method_14_code 15 = .ok (.iload 4, 2) := by decide +kernel
theorem d11_17 : decode jdk_52_method_14_code 17 = .ok (.aload_n 0, 1) := by decide +kernel
theorem d11_18 : decode jdk_52_method_14_code 18 = .ok (.iload_n 1, 1) := by decide +kernel
theorem d11_19 : decode jdk_52_method_14_code 19 = .ok (.caload, 1) := by decide +kernel
theorem d11_20 : decode jdk_52_method_14_code 20 = .ok (.invokestatic 111, 3) := by decide +kernel
theorem d11_23 : decode jdk_52_method_14_code 23 = .ok (.iinc 1 1, 3) := by decide +kernel
theorem d11_26 : decode jdk_52_method_14_code 26 = .ok (.iinc 4 1, 3) := by decide +kernel
theorem d11_29 : decode jdk_52_method_14_code 29 = .ok (.goto (-21), 3) := by decide +kernel
theorem d11_32 : decode jdk_52_method_14_code 32 = .ok (.aload_n 3, 1) := by decide +kernel
theorem d11_33 : decode jdk_52_method_14_code 33 = .ok (.areturn, 1) := by decide +kernel
theorem ef_TBy (m : MethodId) (a0 : Addr) (p2 : Int32) : entryFrame m #[(.ref a0), (.int (0 : Int32)), (.int p2)] 5 = mkF m 0 #[.val (.ref a0), .val (.int (0 : Int32)), .val (.int p2), .unset, .unset] [] := by first | (simp [entryFrame, mkF, argsToLocals, Value.category]; done) | rfl
def QTBy (Z : State) (a0 : Addr) (p2 : Int32) (kc : ClassId) (cs : List Int32) (h0 : Heap) (n0 : Nat) (v : Option Value) (h : Heap) (L : List Loc) : Prop := ∃ (y : Addr) (ky : ClassId) (bz : List Int32), v = some (.ref y) ∧ Fr n0 L ∧ Keep h0 h [] ∧ n0 ≤ y ∧ h0.size ≤ y ∧ Arv Z h y ky .byte (p2 <<< ((1 : Int32) &&& 31)) (bz.map Value.int) (.int (0 : Int32)) ∧ own_wide cs bz (p2 <<< ((1 : Int32) &&& 31))
set_option maxRecDepth 65536 in
set_option maxHeartbeats 40000000 in
theorem rmTBy (l : Launch) (Z : State) (aV : Array Value) (hw : ∀ d ∈ tables_1, d.before aV Z = true) (ws : List Jvm.Cond) (a0 : Addr) (p2 : Int32) (kc : ClassId) (cs : List Int32) (h0 : Heap) (n0 : Nat) (Zn : n0 ≤ h0.size) (OL : Old Z n0 h0) (hn : ¬ p2 < 0) (h9 : p2.toNatClampNeg < 10) (hl : cs.length = p2.toNatClampNeg) (hr : (∀ c ∈ cs, ¬ c < 0 ∧ ¬ (65535 : Int32) < c)) (V_a0 : Arv Z h0 a0 kc .char p2 (cs.map Value.int) (.int (0 : Int32))) (S_as : Sta Z Z.heap "java/lang/StringUTF16" "$assertionsDisabled" "Z" (.int (1 : Int32))) (S_hi : Sta Z Z.heap "java/lang/StringUTF16" "HI_BYTE_SHIFT" "I" (.int (0 : Int32))) (S_lo : Sta Z Z.heap "java/lang/StringUTF16" "LO_BYTE_SHIFT" "I" (.int (8 : Int32))) :
    MetFree l (⟨"java/lang/StringUTF16", "toBytes", "([CII)[B"⟩ : MethodName) (head1 (Jvm.Cond.code (⟨"java/lang/StringUTF16", "toBytes", "([CII)[B"⟩ : MethodName) jdk_52_method_14_code 5 (some (.array .byte)) :: ws) ({ frames := 2, cells := 1, slots := 18, locals := 24 } : Room)) (fun a U => a = #[(.ref a0), (.int (0 : Int32)), (.int p2)] ∧ Z.Warmed39 U.vm ∧ U.heap = h0) (fun _ _ _ _ _ => True) (fun _ U o U' => ∃ v L, o = .returned v ∧ QTBy Z a0 p2 kc cs h0 n0 v U'.heap L ∧ FrameEnd U o U' L ({ frames := 2, cells := 1, slots := 18, locals := 24 } : Room).cells ({ frames := 2, cells := 1, slots := 18, locals := 24 } : Room).slots) := by
  refine MetFree.of_bodySF (plainFor_of_name pn_0) hisR ?_
  intro p e s m args below meth c s₁ Bd hml0 hP hK
  obtain ⟨rfl, hZ, hh⟩ := hP
  have hx := Bd.exec
  have hby := Bd.bytes
  have hml : c.maxLocals = 5 := hml0
  have hown : s.vm.findClass "java/lang/StringUTF16" = some m.cls := findClass_of_methodNamed Bd.named
  have hnm := (name_of_methodNamed Bd.named Bd.method).1
  have X0 : Stand p l e ({ frames := 2, cells := 1, slots := 18, locals := 24 } : Room) s m #[(.ref a0), (.int (0 : Int32)), (.int p2)] below meth c s₁ [] 0 0 := Stand.of_body Bd
  have e0 : s₁.heap = h0 := by rw [← hh, Bd.state]; rfl
  have N0 := Fr.nil n0
  have Kp := Keep.refl h0 []
  show Run p e below (Ends s (QTBy Z a0 p2 kc cs h0 n0) ({ frames := 2, cells := 1, slots := 18, locals := 24 } : Room).cells ({ frames := 2, cells := 1, slots := 18, locals := 24 } : Room).slots) _
  refine Run.st (S' := s₁.setTop (mkF m 0 #[.val (.ref a0), .val (.int (0 : Int32)), .val (.int p2), .unset, .unset] [])) (fun t k => castTop (ef_TBy m a0 p2) k) ?_
  refine Run.st (S' := s₁.setTop (mkF m 1 #[.val (.ref a0), .val (.int (0 : Int32)), .val (.int p2), .unset, .unset] [(.int p2)])) (fun _ k => XS.iloadN X0.here hx rfl (hb hby d11_0) rfl k) ?_
  obtain ⟨_, _, ⟨T1, L1, k1, n1⟩, -, X1, ⟨Lc1, hQ1, l1, y1, z1⟩, st1⟩ := Jvm.LawKit.callS X0 hx (y := (⟨"java/lang/StringUTF16", "newBytesFor", "(I)[B"⟩ : MethodName)) hown (mvT hZ (hwi hw 55 rfl)) (mvT hZ (hwi hw 56 rfl)) (mvT hZ (hwi hw 47 rfl)) (mvT hZ (hwi hw 57 rfl)) (by decide) (backOf (W := 0) (rmNBF l Z aV hw [] p2 h0 n0 Zn hn h9) hZ (hwi hw 57 rfl) (hwi hw 47 rfl) (by decide) (by decide)) (g := (mkF m 1 #[.val (.ref a0), .val (.int (0 : Int32)), .val (.int p2), .unset, .unset] [(.int p2)])) rfl (by rw [hml]; rfl) (argsL := [(.int p2)]) (rest := []) (lenOf pd_8 rfl) rfl (by show 2 * 0 + _ ≤ _; exact Nat.le_of_eq rfl) (hb hby d11_1) (fun _ _ => ⟨rfl, e0, (by decide : 0 + 1 ≤ _), (by decide : 0 + 18 ≤ _)⟩)
  dsimp only [Pt.U, Pt.locs, Pt.cells, Pt.slots] at X1 l1 y1 z1 st1 hQ1
  replace l1 := l1.symm; replace y1 := y1.symm; replace z1 := z1.symm; subst l1 y1 z1
  obtain ⟨b1, kb1, rfl, N1q, K1, g_b1, z_b1, q1_0⟩ := hQ1
  have ne_a0_b1 : a0 ≠ b1 := Nat.ne_of_lt (Nat.lt_of_lt_of_le V_a0.lt z_b1)
  have sz_b1 : h0.size ≤ b1 := Nat.le_trans Kp.1 z_b1
  have OL := OL.keep K1 all0
  have V_a0 := V_a0.keep K1 nin0
  have V_b1 := q1_0
  have Kp := Kp.trans K1 all0
  have Zn := Nat.le_trans Zn K1.1
  have N1 := Fr.app N0 N1q
  refine Run.st (S' := T1.setTop (mkF m 8 #[.val (.ref a0), .val (.int (0 : Int32)), .val (.int p2), .val (.ref b1), .val (.int (0 : Int32))] [])) (fun _ k => st1 _ (XS.astoreN X1.here hx rfl (hb hby d11_4) rfl rfl (l' := #[.val (.ref a0), .val (.int (0 : Int32)), .val (.int p2), .val (.ref b1), .unset]) rfl (XS.iconst X1.here hx rfl (hb hby d11_5) (XS.istore X1.here hx rfl (hb hby d11_6) rfl (l' := #[.val (.ref a0), .val (.int (0 : Int32)), .val (.int p2), .val (.ref b1), .val (.int (0 : Int32))]) rfl k)))) ?_
  have V_b1 : Arv Z T1.heap b1 kb1 .byte (p2 <<< ((1 : Int32) &&& 31)) ((List.replicate (p2 <<< ((1 : Int32) &&& 31)).toNatClampNeg (0 : Int32)).map Value.int) (.int (0 : Int32)) := own_repB V_b1
  have LP2 : ∀ (fu : Nat) (iv : Int32) (sv : Int32) (bz : List Int32) (Tl2 : State) (Hl2 : Heap) (gl : Good p l e ({ frames := 2, cells := 1, slots := 18, locals := 24 } : Room) s m #[(.ref a0), (.int (0 : Int32)), (.int p2)] below meth c n0 1 18 Hl2 Tl2) (Zn : n0 ≤ Hl2.size) (Kp : Keep h0 Hl2 []) (OL : Old Z n0 Hl2) (V_a0 : Arv Z Hl2 a0 kc .char p2 (cs.map Value.int) (.int (0 : Int32))) (V_b1 : Arv Z Hl2 b1 kb1 .byte (p2 <<< ((1 : Int32) &&& 31)) (bz.map Value.int) (.int (0 : Int32))), (iv.toInt + (fu : Int) = p2.toInt ∧ 0 ≤ iv.toInt ∧ sv = iv ∧ own_half cs bz iv.toNatClampNeg) → Run p e below (Ends s (QTBy Z a0 p2 kc cs h0 n0) ({ frames := 2, cells := 1, slots := 18, locals := 24 } : Room).cells ({ frames := 2, cells := 1, slots := 18, locals := 24 } : Room).slots) (Tl2.setTop (mkF m 8 #[.val (.ref a0), .val (.int sv), .val (.int p2), .val (.ref b1), .val (.int iv)] [])) := by
    intro fu
    induction fu with
    | zero =>
      intro iv sv bz Tl2 Hl2 gl Zn Kp OL V_a0 V_b1 hyl
      obtain ⟨lcs2, Xl2, Nl2, El2⟩ := gl
      refine Run.st (S' := Tl2.setTop (mkF m 33 #[.val (.ref a0), .val (.int sv), .val (.int p2), .val (.ref b1), .val (.int iv)] [(.ref b1)])) (fun _ k => XS.iload Xl2.here hx rfl (hb hby d11_8) rfl (XS.iloadN Xl2.here hx rfl (hb hby d11_10) rfl (XS.icmpYes Xl2.here hx rfl (pc0 := 11) (pc' := 32) rfl (hb hby d11_11) rfl (flt (show ¬ (iv < p2) from (own_nl9 hyl.1))).2.1 (by decide) (by decide) (XS.aloadN Xl2.here hx rfl (hb hby d11_32) rfl rfl k)))) ?_
      refine Run.out Xl2 hx Bd.notSynchronized Bd.returns rfl (Or.inr (Or.inr (Or.inr (Or.inr ⟨rfl, rfl, rfl⟩)))) (hb hby d11_33) (by decide) (by decide) ?_
      rw [El2]
      exact ⟨b1, kb1, bz, rfl, Nl2, Kp, g_b1, sz_b1, V_b1, own_halfE hn h9 hl hr (by have e := hyl.2.2.2; have q := hyl.1; rw [show cs.length = iv.toNatClampNeg from by rw [hl]; simp only [Int32.toNatClampNeg]; omega]; exact e)⟩
    | succ fu ih =>
      intro iv sv bz Tl2 Hl2 gl Zn Kp OL V_a0 V_b1 hyl
      obtain ⟨lcs2, Xl2, Nl2, El2⟩ := gl
      refine Run.st (S' := Tl2.setTop (mkF m 19 #[.val (.ref a0), .val (.int sv), .val (.int p2), .val (.ref b1), .val (.int iv)] [(.int sv), (.ref a0), (.int iv), (.ref b1)])) (fun _ k => XS.iload Xl2.here hx rfl (hb hby d11_8) rfl (XS.iloadN Xl2.here hx rfl (hb hby d11_10) rfl (XS.icmpNo Xl2.here hx rfl (hb hby d11_11) rfl (tlt (show iv < p2 from (own_lt9 hyl.1))).2.1 (XS.aloadN Xl2.here hx rfl (hb hby d11_14) rfl rfl (XS.iload Xl2.here hx rfl (hb hby d11_15) rfl (XS.aloadN Xl2.here hx rfl (hb hby d11_17) rfl rfl (XS.iloadN Xl2.here hx rfl (hb hby d11_18) rfl k))))))) ?_
      obtain ⟨cl3, Ar3, qa3, Sa3, Na3, Ha3, Ga3⟩ := id V_a0
      have hin3 : ¬ (sv < 0 ∨ cl3.slots.size ≤ (sv).toNatClampNeg) := inb_of Sa3 (inb32 (z := p2) rfl (by rw [hyl.2.2.1]; exact hyl.2.1) (by rw [hyl.2.2.1]; have := hyl.1; omega))
      have hat3 : cl3.slots[(sv).toNatClampNeg]? = some (.int (cs.getD (sv).toNatClampNeg 0)) := Has.at Ha3 hin3 (own_get _ _)
      refine Run.st (S' := Tl2.setTop (mkF m 20 #[.val (.ref a0), .val (.int sv), .val (.int p2), .val (.ref b1), .val (.int iv)] [(.int (cs.getD (sv).toNatClampNeg 0)), (.int iv), (.ref b1)])) (fun _ k => Xl2.caload hx (j := sv) (v := (.int (cs.getD (sv).toNatClampNeg 0))) (by rw [El2]; exact Ar3.1) (State.isArrayOf_alike hZ.alike Ar3.2.1) Ar3.2.2 hin3 hat3 (g := (mkF m 19 #[.val (.ref a0), .val (.int sv), .val (.int p2), .val (.ref b1), .val (.int iv)] [(.int sv), (.ref a0), (.int iv), (.ref b1)])) rfl rfl (hb hby d11_19) _ k) ?_
      obtain ⟨_, _, ⟨T4, L4, k4, n4⟩, -, X4, ⟨Lc4, hQ4, l4, y4, z4⟩, st4⟩ := Jvm.LawKit.callS Xl2 hx (y := (⟨"java/lang/StringUTF16", "putChar", "([BII)V"⟩ : MethodName)) hown (mvT hZ (hwi hw 62 rfl)) (mvT hZ (hwi hw 63 rfl)) (mvT hZ (hwi hw 47 rfl)) (mvT hZ (hwi hw 64 rfl)) (by decide) (backOf (W := 0) (rmPCh l Z aV hw [] b1 iv (cs.getD (sv).toNatClampNeg 0) kb1 bz (p2 <<< ((1 : Int32) &&& 31)) Hl2 n0 Zn OL g_b1 (own_nn hyl.2.1) (own_pcin h9 hn hyl.2.1 hyl.1) (own_blen h9 hn hl hyl.2.2.2.1) V_b1 S_as S_hi S_lo) hZ (hwi hw 64 rfl) (hwi hw 47 rfl) (by decide) (by decide)) (g := (mkF m 20 #[.val (.ref a0), .val (.int sv), .val (.int p2), .val (.ref b1), .val (.int iv)] [(.int (cs.getD (sv).toNatClampNeg 0)), (.int iv), (.ref b1)])) rfl (by rw [hml]; rfl) (argsL := [(.ref b1), (.int iv), (.int (cs.getD (sv).toNatClampNeg 0))]) (rest := []) (lenOf pd_9 rfl) rfl (by show 2 * 0 + _ ≤ _; exact Nat.le_of_eq rfl) (hb hby d11_20) (fun _ _ => ⟨rfl, El2, (by decide : 1 + 0 ≤ _), (by decide : 18 + 0 ≤ _)⟩)
      dsimp only [Pt.U, Pt.locs, Pt.cells, Pt.slots] at X4 l4 y4 z4 st4 hQ4
      replace l4 := l4.symm; replace y4 := y4.symm; replace z4 := z4.symm; subst l4 y4 z4
      obtain ⟨rfl, N4q, K4, qV⟩ := hQ4
      have OL := OL.keep K4 (allS g_b1 all0)
      have V_a0 := V_a0.keep K4 (ninS ne_a0_b1 nin0)
      have V_b1 := qV
      have Kp := Kp.trans K4 (allS (Or.inr sz_b1) all0)
      have Zn := Nat.le_trans Zn K4.1
      have N4 := Fr.app Nl2 N4q
      refine Run.st (S' := T4.setTop (mkF m 8 #[.val (.ref a0), .val (.int (sv + (1 : Int32))), .val (.int p2), .val (.ref b1), .val (.int (iv + (1 : Int32)))] [])) (fun _ k => st4 _ (XS.iinc X4.here hx rfl (hb hby d11_23) rfl (l' := #[.val (.ref a0), .val (.int (sv + (1 : Int32))), .val (.int p2), .val (.ref b1), .val (.int iv)]) rfl (XS.iinc X4.here hx rfl (hb hby d11_26) rfl (l' := #[.val (.ref a0), .val (.int (sv + (1 : Int32))), .val (.int p2), .val (.ref b1), .val (.int (iv + (1 : Int32)))]) rfl (XS.goto X4.here hx rfl (pc0 := 29) (pc' := 8) rfl (hb hby d11_29) (by decide) (by decide) k)))) ?_
      exact ih (iv + (1 : Int32)) (sv + (1 : Int32)) ((bz.set (2 * (iv).toNatClampNeg) (StrChars.lo8 (cs.getD (sv).toNatClampNeg 0))).set (2 * (iv).toNatClampNeg + 1) (StrChars.hi8 (cs.getD (sv).toNatClampNeg 0))) _ _ ⟨_, X4, N4, rfl⟩ Zn Kp OL V_a0 V_b1 ⟨(own_i1 h9 hyl.2.1 hyl.1).1, (own_i1 h9 hyl.2.1 hyl.1).2.1, (by rw [hyl.2.2.1]), (by rw [(own_i1 h9 hyl.2.1 hyl.1).2.2, hyl.2.2.1]; exact own_halfS hyl.2.2.2 (own_lc9 hl hyl.2.1 hyl.1))⟩
  exact LP2 p2.toNatClampNeg (0 : Int32) (0 : Int32) (List.replicate (p2 <<< ((1 : Int32) &&& 31)).toNatClampNeg (0 : Int32)) _ _ ⟨_, X1, N1, rfl⟩ Zn Kp OL V_a0 V_b1 ⟨own_n0 hn, by decide, rfl, own_half0 cs hn h9 hl⟩
theorem own_kl {iv p4 : Int32} {fu kk : Nat} {cs : List Int32} (hl : cs.length = p4.toNatClampNeg) (hk : kk < cs.length) (h0 : 0 ≤ iv.toInt) (h : iv.toInt + (fu : Int) = kk) : iv < p4 ∧ iv.toInt < p4.toInt := by
  rw [Int32.lt_iff_toInt_lt]
  simp only [Int32.toNatClampNeg] at hl
  omega
theorem own_ki {iv : Int32} {fu kk : Nat} (h0 : 0 ≤ iv.toInt) (h : iv.toInt + ((fu + 1 : Nat) : Int) = kk) : iv.toNatClampNeg < kk := by
  simp only [Int32.toNatClampNeg]
  omega
theorem own_ke {iv : Int32} {kk : Nat} (h0 : 0 ≤ iv.toInt) (h : iv.toInt + ((0 : Nat) : Int) = kk) : iv.toNatClampNeg = kk ∧ iv = Int32.ofNat kk := by
  have e : iv.toNatClampNeg = kk := by simp only [Int32.toNatClampNeg]; omega
  exact ⟨e, by rw [← e]; exact own_ofN (own_nn h0)⟩
theorem own_k1i {iv : Int32} {fu kk : Nat} (h9 : kk < 10) (h0 : 0 ≤ iv.toInt) (h : iv.toInt + ((fu + 1 : Nat) : Int) = kk) : (iv + (1 : Int32)).toInt + (fu : Int) = kk ∧ 0 ≤ (iv + (1 : Int32)).toInt := by
  have e2 := c_iadd iv (1 : Int32)
  have r2 := rng32 (iv + (1 : Int32))
  have e3 : (1 : Int32).toInt = 1 := by decide
  omega
theorem d10_0 : decode jdk_52_method_21_code 0 = .ok (.iconst 0, 1) := by decide +kernel
theorem d10_1 : decode jdk_52_method_21_code 1 = .ok (.istore 5, 2) := by decide +kernel
theorem d10_3 : decode jdk_52_method_21_code 3 = .ok (.iload 5, 2) := by decide +kernel
theorem d10_5 : decode jdk_52_method_21_code 5 = .ok (.iload 4, 2) := by decide +kernel
theorem d10_7 : decode jdk_52_method_21_code 7 = .ok (.if_icmp .ge 37, 3) := by decide +kernel
theorem d10_10 : decode jdk_52_method_21_code 10 = .ok (.aload_n 0, 1) := by decide +kernel
theorem d10_11 : decode jdk_52_method_21_code 11 = .ok (.iload_n 1, 1) := by decide +kernel
theorem d10_12 : decode jdk_52_method_21_code 12 = .ok (.caload, 1) := by decide +kernel
theorem d10_13 : decode jdk_52_method_21_code 13 = .ok (.istore 6, 2) := by decide +kernel
theorem d10_15 : decode jdk_52_method_21_code 15 = .ok (.iload 6, 2) := by decide +kernel
theorem d10_17 : decode jdk_52_method_21_code 17 = .ok (.sipush 255, 3) := by decide +kernel
theorem d10_20 : decode jdk_52_method_21_code 20 = .ok (.if_icmp .le 6, 3) := by decide +kernel
theorem d10_23 : decode jdk_52_method_21_code 23 = .ok (.iload 5, 2) := by decide +kernel
theorem d10_25 : decode jdk_52_method_21_code 25 = .ok (.ireturn, 1) := by decide +kernel
theorem d10_26 : decode jdk_52_method_21_code 26 = .ok (.aload_n 2, 1) := by decide +kernel
theorem d10_27 : decode jdk_52_method_21_code 27 = .ok (.iload_n 3, 1) := by decide +kernel
theorem d10_28 : decode jdk_52_method_21_code 28 = .ok (.iload 6, 2) := by decide +kernel
theorem d10_30 : decode jdk_52_method_21_code 30 = .ok (.i2b, 1) := by decide +kernel
theorem d10_31 : decode jdk_52_method_21_code 31 = .ok (.bastore, 1) := by decide +kernel
theorem d10_32 : decode jdk_52_method_21_code 32 = .ok (.iinc 1 1, 3) := by decide +kernel
theorem d10_35 : decode jdk_52_method_21_code 35 = .ok (.iinc 3 1, 3) := by decide +kernel
theorem d10_38 : decode jdk_52_method_21_code 38 = .ok (.iinc 5 1, 3) := by decide +kernel
theorem d10_41 : decode jdk_52_method_21_code 41 = .ok (.goto (-38), 3) := by decide +kernel
theorem ef_Cm5 (m : MethodId) (a0 : Addr) (a2 : Addr) (p4 : Int32) : entryFrame m #[(.ref a0), (.int (0 : Int32)), (.ref a2), (.int (0 : Int32)), (.int p4)] 7 = mkF m 0 #[.val (.ref a0), .val (.int (0 : Int32)), .val (.ref a2), .val (.int (0 : Int32)), .val (.int p4), .unset, .unset] [] := by first | (simp [entryFrame, mkF, argsToLocals, Value.category]; done) | rfl
def QCm5 (Z : State) (a0 : Addr) (a2 : Addr) (p4 : Int32) (kc : ClassId) (cs : List Int32) (kb : ClassId) (ya : List Int32) (kk : Nat) (h0 : Heap) (n0 : Nat) (v : Option Value) (h : Heap) (L : List Loc) : Prop := v = some (.int (Int32.ofNat kk)) ∧ Fr n0 L ∧ Keep h0 h [a2]
set_option maxRecDepth 65536 in
set_option maxHeartbeats 40000000 in
theorem rmCm5 (l : Launch) (Z : State) (aV : Array Value) (hw : ∀ d ∈ tables_1, d.before aV Z = true) (ws : List Jvm.Cond) (a0 : Addr) (a2 : Addr) (p4 : Int32) (kc : ClassId) (cs : List Int32) (kb : ClassId) (ya : List Int32) (kk : Nat) (h0 : Heap) (n0 : Nat) (Zn : n0 ≤ h0.size) (OL : Old Z n0 h0) (g_a2 : n0 ≤ a2) (ne_a0__a2 : a0 ≠ a2) (hl : cs.length = p4.toNatClampNeg) (h9 : p4.toNatClampNeg < 10) (hya : ya.length = p4.toNatClampNeg) (hk1 : kk < cs.length) (hk2 : (255 : Int32) < cs.getD kk 0) (hk3 : ∀ j, j < kk → ¬ (255 : Int32) < cs.getD j 0) (V_a0 : Arv Z h0 a0 kc .char p4 (cs.map Value.int) (.int (0 : Int32))) (V_a2 : Arv Z h0 a2 kb .byte p4 (ya.map Value.int) (.int (0 : Int32))) :
    MetFree l (⟨"java/lang/StringUTF16", "compress", "([CI[BII)I"⟩ : MethodName) (head1 (Jvm.Cond.code (⟨"java/lang/StringUTF16", "compress", "([CI[BII)I"⟩ : MethodName) jdk_52_method_21_code 7 (some .int) :: ws) ({ frames := 0, cells := 0, slots := 0, locals := 0 } : Room)) (fun a U => a = #[(.ref a0), (.int (0 : Int32)), (.ref a2), (.int (0 : Int32)), (.int p4)] ∧ Z.Warmed39 U.vm ∧ U.heap = h0) (fun _ _ _ _ _ => True) (fun _ U o U' => ∃ v L, o = .returned v ∧ QCm5 Z a0 a2 p4 kc cs kb ya kk h0 n0 v U'.heap L ∧ FrameEnd U o U' L ({ frames := 0, cells := 0, slots := 0, locals := 0 } : Room).cells ({ frames := 0, cells := 0, slots := 0, locals := 0 } : Room).slots) := by
  refine MetFree.of_bodySF (plainFor_of_name pn_0) hisR ?_
  intro p e s m args below meth c s₁ Bd hml0 hP hK
  obtain ⟨rfl, hZ, hh⟩ := hP
  have hx := Bd.exec
  have hby := Bd.bytes
  have hml : c.maxLocals = 7 := hml0
  have hown : s.vm.findClass "java/lang/StringUTF16" = some m.cls := findClass_of_methodNamed Bd.named
  have hnm := (name_of_methodNamed Bd.named Bd.method).1
  have X0 : Stand p l e ({ frames := 0, cells := 0, slots := 0, locals := 0 } : Room) s m #[(.ref a0), (.int (0 : Int32)), (.ref a2), (.int (0 : Int32)), (.int p4)] below meth c s₁ [] 0 0 := Stand.of_body Bd
  have e0 : s₁.heap = h0 := by rw [← hh, Bd.state]; rfl
  have N0 := Fr.nil n0
  have Kp := Keep.refl h0 [a2]
  show Run p e below (Ends s (QCm5 Z a0 a2 p4 kc cs kb ya kk h0 n0) ({ frames := 0, cells := 0, slots := 0, locals := 0 } : Room).cells ({ frames := 0, cells := 0, slots := 0, locals := 0 } : Room).slots) _
  refine Run.st (S' := s₁.setTop (mkF m 0 #[.val (.ref a0), .val (.int (0 : Int32)), .val (.ref a2), .val (.int (0 : Int32)), .val (.int p4), .unset, .unset] [])) (fun t k => castTop (ef_Cm5 m a0 a2 p4) k) ?_
  refine Run.st (S' := s₁.setTop (mkF m 3 #[.val (.ref a0), .val (.int (0 : Int32)), .val (.ref a2), .val (.int (0 : Int32)), .val (.int p4), .val (.int (0 : Int32)), .unset] [])) (fun _ k => XS.iconst X0.here hx rfl (hb hby d10_0) (XS.istore X0.here hx rfl (hb hby d10_1) rfl (l' := #[.val (.ref a0), .val (.int (0 : Int32)), .val (.ref a2), .val (.int (0 : Int32)), .val (.int p4), .val (.int (0 : Int32)), .unset]) rfl k)) ?_
  have LP1 : ∀ (fu : Nat) (iv : Int32) (sv : Int32) (dv : Int32) (x6 : Slot) (yb : List Int32) (Tl1 : State) (Hl1 : Heap) (gl : Good p l e ({ frames := 0, cells := 0, slots := 0, locals := 0 } : Room) s m #[(.ref a0), (.int (0 : Int32)), (.ref a2), (.int (0 : Int32)), (.int p4)] below meth c n0 0 0 Hl1 Tl1) (Zn : n0 ≤ Hl1.size) (Kp : Keep h0 Hl1 [a2]) (OL : Old Z n0 Hl1) (V_a0 : Arv Z Hl1 a0 kc .char p4 (cs.map Value.int) (.int (0 : Int32))) (V_a2 : Arv Z Hl1 a2 kb .byte p4 (yb.map Value.int) (.int (0 : Int32))), (iv.toInt + (fu : Int) = kk ∧ 0 ≤ iv.toInt ∧ sv = iv ∧ dv = iv ∧ yb.length = p4.toNatClampNeg ∧ own_pl x6) → Run p e below (Ends s (QCm5 Z a0 a2 p4 kc cs kb ya kk h0 n0) ({ frames := 0, cells := 0, slots := 0, locals := 0 } : Room).cells ({ frames := 0, cells := 0, slots := 0, locals := 0 } : Room).slots) (Tl1.setTop (mkF m 3 #[.val (.ref a0), .val (.int sv), .val (.ref a2), .val (.int dv), .val (.int p4), .val (.int iv), x6] [])) := by
    intro fu
    induction fu with
    | zero =>
      intro iv sv dv x6 yb Tl1 Hl1 gl Zn Kp OL V_a0 V_a2 hyl
      obtain ⟨lcs1, Xl1, Nl1, El1⟩ := gl
      refine Run.st (S' := Tl1.setTop (mkF m 12 #[.val (.ref a0), .val (.int sv), .val (.ref a2), .val (.int dv), .val (.int p4), .val (.int iv), x6] [(.int sv), (.ref a0)])) (fun _ k => XS.iload Xl1.here hx rfl (hb hby d10_3) rfl (XS.iload Xl1.here hx rfl (hb hby d10_5) rfl (XS.icmpNo Xl1.here hx rfl (hb hby d10_7) rfl (tlt (show iv < p4 from (own_kl hl hk1 hyl.2.1 hyl.1).1)).2.1 (XS.aloadN Xl1.here hx rfl (hb hby d10_10) rfl rfl (XS.iloadN Xl1.here hx rfl (hb hby d10_11) rfl k))))) ?_
      obtain ⟨cl2, Ar2, qa2, Sa2, Na2, Ha2, Ga2⟩ := id V_a0
      have hin2 : ¬ (sv < 0 ∨ cl2.slots.size ≤ (sv).toNatClampNeg) := inb_of Sa2 (by rw [hyl.2.2.1]; exact inb32 (z := p4) rfl hyl.2.1 (own_kl hl hk1 hyl.2.1 hyl.1).2)
      have hat2 : cl2.slots[(sv).toNatClampNeg]? = some (.int (cs.getD (sv).toNatClampNeg 0)) := Has.at Ha2 hin2 (own_get _ _)
      refine Run.st (S' := Tl1.setTop (mkF m 25 #[.val (.ref a0), .val (.int sv), .val (.ref a2), .val (.int dv), .val (.int p4), .val (.int iv), .val (.int (cs.getD (sv).toNatClampNeg 0))] [(.int iv)])) (fun _ k => Xl1.caload hx (j := sv) (v := (.int (cs.getD (sv).toNatClampNeg 0))) (by rw [El1]; exact Ar2.1) (State.isArrayOf_alike hZ.alike Ar2.2.1) Ar2.2.2 hin2 hat2 (g := (mkF m 12 #[.val (.ref a0), .val (.int sv), .val (.ref a2), .val (.int dv), .val (.int p4), .val (.int iv), x6] [(.int sv), (.ref a0)])) rfl rfl (hb hby d10_12) _ (XS.istore Xl1.here hx rfl (hb hby d10_13) rfl (l' := #[.val (.ref a0), .val (.int sv), .val (.ref a2), .val (.int dv), .val (.int p4), .val (.int iv), .val (.int (cs.getD (sv).toNatClampNeg 0))]) (own_stl (x := x6) rfl rfl hyl.2.2.2.2.2) (XS.iload Xl1.here hx rfl (hb hby d10_15) rfl (XS.sipush Xl1.here hx rfl (hb hby d10_17) (XS.icmpNo Xl1.here hx rfl (hb hby d10_20) rfl (tlt (show (255 : Int32) < (cs.getD (sv).toNatClampNeg 0) from (show (255 : Int32) < cs.getD sv.toNatClampNeg 0 from by rw [hyl.2.2.1, (own_ke hyl.2.1 hyl.1).1]; exact hk2))).2.2.2 (XS.iload Xl1.here hx rfl (hb hby d10_23) rfl k)))))) ?_
      refine Run.out Xl1 hx Bd.notSynchronized Bd.returns rfl (Or.inl ⟨rfl, by simp, _, rfl⟩) (hb hby d10_25) (by decide) (by decide) ?_
      rw [El1]
      exact ⟨congrArg (fun z => some (Value.int z)) (own_ke hyl.2.1 hyl.1).2, Nl1, Kp⟩
    | succ fu ih =>
      intro iv sv dv x6 yb Tl1 Hl1 gl Zn Kp OL V_a0 V_a2 hyl
      obtain ⟨lcs1, Xl1, Nl1, El1⟩ := gl
      refine Run.st (S' := Tl1.setTop (mkF m 12 #[.val (.ref a0), .val (.int sv), .val (.ref a2), .val (.int dv), .val (.int p4), .val (.int iv), x6] [(.int sv), (.ref a0)])) (fun _ k => XS.iload Xl1.here hx rfl (hb hby d10_3) rfl (XS.iload Xl1.here hx rfl (hb hby d10_5) rfl (XS.icmpNo Xl1.here hx rfl (hb hby d10_7) rfl (tlt (show iv < p4 from (own_kl hl hk1 hyl.2.1 hyl.1).1)).2.1 (XS.aloadN Xl1.here hx rfl (hb hby d10_10) rfl rfl (XS.iloadN Xl1.here hx rfl (hb hby d10_11) rfl k))))) ?_
      obtain ⟨cl3, Ar3, qa3, Sa3, Na3, Ha3, Ga3⟩ := id V_a0
      have hin3 : ¬ (sv < 0 ∨ cl3.slots.size ≤ (sv).toNatClampNeg) := inb_of Sa3 (by rw [hyl.2.2.1]; exact inb32 (z := p4) rfl hyl.2.1 (own_kl hl hk1 hyl.2.1 hyl.1).2)
      have hat3 : cl3.slots[(sv).toNatClampNeg]? = some (.int (cs.getD (sv).toNatClampNeg 0)) := Has.at Ha3 hin3 (own_get _ _)
      refine Run.st (S' := Tl1.setTop (mkF m 30 #[.val (.ref a0), .val (.int sv), .val (.ref a2), .val (.int dv), .val (.int p4), .val (.int iv), .val (.int (cs.getD (sv).toNatClampNeg 0))] [(.int (cs.getD (sv).toNatClampNeg 0)), (.int dv), (.ref a2)])) (fun _ k => Xl1.caload hx (j := sv) (v := (.int (cs.getD (sv).toNatClampNeg 0))) (by rw [El1]; exact Ar3.1) (State.isArrayOf_alike hZ.alike Ar3.2.1) Ar3.2.2 hin3 hat3 (g := (mkF m 12 #[.val (.ref a0), .val (.int sv), .val (.ref a2), .val (.int dv), .val (.int p4), .val (.int iv), x6] [(.int sv), (.ref a0)])) rfl rfl (hb hby d10_12) _ (XS.istore Xl1.here hx rfl (hb hby d10_13) rfl (l' := #[.val (.ref a0), .val (.int sv), .val (.ref a2), .val (.int dv), .val (.int p4), .val (.int iv), .val (.int (cs.getD (sv).toNatClampNeg 0))]) (own_stl (x := x6) rfl rfl hyl.2.2.2.2.2) (XS.iload Xl1.here hx rfl (hb hby d10_15) rfl (XS.sipush Xl1.here hx rfl (hb hby d10_17) (XS.icmpYes Xl1.here hx rfl (pc0 := 20) (pc' := 26) rfl (hb hby d10_20) rfl (flt (show ¬ ((255 : Int32) < (cs.getD (sv).toNatClampNeg 0)) from (show ¬ (255 : Int32) < cs.getD sv.toNatClampNeg 0 from by rw [hyl.2.2.1]; exact hk3 _ (own_ki hyl.2.1 hyl.1)))).2.2.2 (by decide) (by decide) (XS.aloadN Xl1.here hx rfl (hb hby d10_26) rfl rfl (XS.iloadN Xl1.here hx rfl (hb hby d10_27) rfl (XS.iload Xl1.here hx rfl (hb hby d10_28) rfl k)))))))) ?_
      refine Run.st (S' := Tl1.setTop (mkF m 31 #[.val (.ref a0), .val (.int sv), .val (.ref a2), .val (.int dv), .val (.int p4), .val (.int iv), .val (.int (cs.getD (sv).toNatClampNeg 0))] [(.int ((cs.getD (sv).toNatClampNeg 0).toInt8.toInt32)), (.int dv), (.ref a2)])) (fun _ k => XS.i2b Xl1.here hx rfl (hb hby d10_30) rfl k) ?_
      obtain ⟨cl4, Ar4, qa4, Sa4, Na4, Ha4, Ga4⟩ := V_a2
      have hin4 : ¬ (dv < 0 ∨ cl4.slots.size ≤ (dv).toNatClampNeg) := inb_of Sa4 (by rw [hyl.2.2.2.1]; exact inb32 (z := p4) rfl hyl.2.1 (own_kl hl hk1 hyl.2.1 hyl.1).2)
      obtain ⟨T4, h4, X4, e4, W4, st4⟩ := stB Xl1 hx hZ El1 Ar4 (j := dv) hin4 (g := (mkF m 31 #[.val (.ref a0), .val (.int sv), .val (.ref a2), .val (.int dv), .val (.int p4), .val (.int iv), .val (.int (cs.getD (sv).toNatClampNeg 0))] [(.int ((cs.getD (sv).toNatClampNeg 0).toInt8.toInt32)), (.int dv), (.ref a2)])) rfl rfl (hb hby d10_31)
      have V_a2 := Arv.set Ar4 qa4 Sa4 Na4 Ha4 Ga4 (fits_nar_byte _) W4 (dv).toNatClampNeg rfl (own_ltm (by rw [hyl.2.2.2.2.1, hyl.2.2.2.1]; exact own_clt (own_nn hyl.2.1) (own_kl hl hk1 hyl.2.1 hyl.1).1))
      rw [own_set] at V_a2
      have OL := OL.wr W4 g_a2
      have V_a0 := V_a0.other W4 ne_a0__a2
      have N4 := Fr.snoc X4 Nl1 g_a2
      have Kp := Kp.wr W4 (Or.inl (by simp))
      have Zn := Nat.le_trans Zn (Nat.le_of_eq W4.size.symm)
      refine Run.st (S' := T4.setTop (mkF m 3 #[.val (.ref a0), .val (.int (sv + (1 : Int32))), .val (.ref a2), .val (.int (dv + (1 : Int32))), .val (.int p4), .val (.int (iv + (1 : Int32))), .val (.int (cs.getD (sv).toNatClampNeg 0))] [])) (fun _ k => st4 _ (XS.iinc X4.here hx rfl (hb hby d10_32) rfl (l' := #[.val (.ref a0), .val (.int (sv + (1 : Int32))), .val (.ref a2), .val (.int dv), .val (.int p4), .val (.int iv), .val (.int (cs.getD (sv).toNatClampNeg 0))]) rfl (XS.iinc X4.here hx rfl (hb hby d10_35) rfl (l' := #[.val (.ref a0), .val (.int (sv + (1 : Int32))), .val (.ref a2), .val (.int (dv + (1 : Int32))), .val (.int p4), .val (.int iv), .val (.int (cs.getD (sv).toNatClampNeg 0))]) rfl (XS.iinc X4.here hx rfl (hb hby d10_38) rfl (l' := #[.val (.ref a0), .val (.int (sv + (1 : Int32))), .val (.ref a2), .val (.int (dv + (1 : Int32))), .val (.int p4), .val (.int (iv + (1 : Int32))), .val (.int (cs.getD (sv).toNatClampNeg 0))]) rfl (XS.goto X4.here hx rfl (pc0 := 41) (pc' := 3) rfl (hb hby d10_41) (by decide) (by decide) k))))) ?_
      exact ih (iv + (1 : Int32)) (sv + (1 : Int32)) (dv + (1 : Int32)) (.val (.int (cs.getD (sv).toNatClampNeg 0))) (yb.set (dv).toNatClampNeg (nar .byte ((cs.getD (sv).toNatClampNeg 0).toInt8.toInt32))) _ _ ⟨_, X4, N4, e4⟩ Zn Kp OL V_a0 V_a2 ⟨(own_k1i (by omega) hyl.2.1 hyl.1).1, (own_k1i (by omega) hyl.2.1 hyl.1).2, (by rw [hyl.2.2.1]), (by rw [hyl.2.2.2.1]), (by rw [List.length_set]; exact hyl.2.2.2.2.1), rfl⟩
  exact LP1 kk (0 : Int32) (0 : Int32) (0 : Int32) (.unset) ya _ _ ⟨_, X0, N0, e0⟩ Zn Kp OL V_a0 V_a2 ⟨by rw [own_z0]; omega, by decide, rfl, rfl, hya, trivial⟩
theorem own_kne {p2 : Int32} {kk : Nat} {cs : List Int32} (hl : cs.length = p2.toNatClampNeg) (h9 : p2.toNatClampNeg < 10) (hk : kk < cs.length) : ¬ (Int32.ofNat kk = p2) := fun q => by
  rw [← q] at hl h9
  simp only [Int32.toNatClampNeg] at hl h9
  have hk9 : kk < 10 := by omega
  rw [Int32.toInt_ofNat_small (by omega)] at hl
  omega
theorem own_knn {kk n : Nat} (h : kk < n) (hn : n < 10) : ¬ (Int32.ofNat kk) < 0 ∧ (Int32.ofNat kk).toNatClampNeg = kk := by
  rw [Int32.lt_iff_toInt_lt, own_z0]
  simp only [Int32.toNatClampNeg]
  rw [Int32.toInt_ofNat_small (by omega)]
  omega
theorem pd_10 : parseMethodDescriptor "([CI[BII)I" = some ⟨[(.array .char), .int, (.array .byte), .int, .int], some .int⟩ := by decide +kernel
theorem pd_11 : parseMethodDescriptor "([CII)[B" = some ⟨[(.array .char), .int, .int], some (.array .byte)⟩ := by decide +kernel
theorem d9_0 : decode jdk_52_method_16_code 0 = .ok (.iload_n 2, 1) := by decide +kernel
theorem d9_1 : decode jdk_52_method_16_code 1 = .ok (.newarray .byte, 2) := by decide +kernel
theorem d9_3 : decode jdk_52_method_16_code 3 = .ok (.astore_n 3, 1) := by decide +kernel
theorem d9_4 : decode jdk_52_method_16_code 4 = .ok (.aload_n 0, 1) := by decide +kernel
theorem d9_5 : decode jdk_52_method_16_code 5 = .ok (.iload_n 1, 1) := by decide +kernel
theorem d9_6 : decode jdk_52_method_16_code 6 = .ok (.aload_n 3, 1) := by decide +kernel
theorem d9_7 : decode jdk_52_method_16_code 7 = .ok (.iconst 0, 1) := by decide +kernel
theorem d9_8 : decode jdk_52_method_16_code 8 = .ok (.iload_n 2, 1) := by decide +kernel
theorem d9_9 : decode jdk_52_method_16_code 9 = .ok (.invokestatic 115, 3) := by decide +kernel
theorem d9_12 : decode jdk_52_method_16_code 12 = .ok (.istore 4, 2) := by decide +kernel
theorem d9_14 : decode jdk_52_method_16_code 14 = .ok (.iload 4, 2) := by decide +kernel
theorem d9_16 : decode jdk_52_method_16_code 16 = .ok (.iload_n 2, 1) := by decide +kernel
theorem d9_17 : decode jdk_52_method_16_code 17 = .ok (.if_icmp .eq 40, 3) := by decide +kernel
theorem d9_20 : decode jdk_52_method_16_code 20 = .ok (.aload_n 0, 1) := by decide +kernel
theorem d9_21 : decode jdk_52_method_16_code 21 = .ok (.iload_n 1, 1) := by decide +kernel
theorem d9_22 : decode jdk_52_method_16_code 22 = .ok (.iload_n 2, 1) := by decide +kernel
theorem d9_23 : decode jdk_52_method_16_code 23 = .ok (.invokestatic 119, 3) := by decide +kernel
theorem d9_26 : decode jdk_52_method_16_code 26 = .ok (.astore 5, 2) := by decide +kernel
theorem d9_28 : decode jdk_52_method_16_code 28 = .ok (.aload 5, 2) := by decide +kernel
theorem d9_30 : decode jdk_52_method_16_code 30 = .ok (.iload 4, 2) := by decide +kernel
theorem d9_32 : decode jdk_52_method_16_code 32 = .ok (.invokestatic 71, 3) := by decide +kernel
theorem d9_35 : decode jdk_52_method_16_code 35 = .ok (.sipush 255, 3) := by decide +kernel
theorem d9_38 : decode jdk_52_method_16_code 38 = .ok (.if_icmp .gt 16, 3) := by decide +kernel
theorem d9_54 : decode jdk_52_method_16_code 54 = .ok (.aload 5, 2) := by decide +kernel
theorem d9_56 : decode jdk_52_method_16_code 56 = .ok (.areturn, 1) := by decide +kernel
theorem ef_Cm3 (m : MethodId) (a0 : Addr) (p2 : Int32) : entryFrame m #[(.ref a0), (.int (0 : Int32)), (.int p2)] 6 = mkF m 0 #[.val (.ref a0), .val (.int (0 : Int32)), .val (.int p2), .unset, .unset, .unset] [] := by first | (simp [entryFrame, mkF, argsToLocals, Value.category]; done) | rfl
def QCm3 (Z : State) (a0 : Addr) (p2 : Int32) (kc : ClassId) (cs : List Int32) (kk : Nat) (h0 : Heap) (n0 : Nat) (v : Option Value) (h : Heap) (L : List Loc) : Prop := ∃ (y : Addr) (ky : ClassId) (bz : List Int32), v = some (.ref y) ∧ Fr n0 L ∧ Keep h0 h [] ∧ n0 ≤ y ∧ h0.size ≤ y ∧ Arv Z h y ky .byte (p2 <<< ((1 : Int32) &&& 31)) (bz.map Value.int) (.int (0 : Int32)) ∧ own_wide cs bz (p2 <<< ((1 : Int32) &&& 31))
set_option maxRecDepth 65536 in
set_option maxHeartbeats 40000000 in
theorem rmCm3 (l : Launch) (Z : State) (aV : Array Value) (hw : ∀ d ∈ tables_1, d.before aV Z = true) (ws : List Jvm.Cond) (a0 : Addr) (p2 : Int32) (kc : ClassId) (cs : List Int32) (kk : Nat) (h0 : Heap) (n0 : Nat) (Zn : n0 ≤ h0.size) (OL : Old Z n0 h0) (hn : ¬ p2 < 0) (h9 : p2.toNatClampNeg < 10) (hl : cs.length = p2.toNatClampNeg) (hr : (∀ c ∈ cs, ¬ c < 0 ∧ ¬ (65535 : Int32) < c)) (hk1 : kk < cs.length) (hk2 : (255 : Int32) < cs.getD kk 0) (hk3 : ∀ j, j < kk → ¬ (255 : Int32) < cs.getD j 0) (V_a0 : Arv Z h0 a0 kc .char p2 (cs.map Value.int) (.int (0 : Int32))) (S_as : Sta Z Z.heap "java/lang/StringUTF16" "$assertionsDisabled" "Z" (.int (1 : Int32))) (S_hi : Sta Z Z.heap "java/lang/StringUTF16" "HI_BYTE_SHIFT" "I" (.int (0 : Int32))) (S_lo : Sta Z Z.heap "java/lang/StringUTF16" "LO_BYTE_SHIFT" "I" (.int (8 : Int32))) :
    MetFree l (⟨"java/lang/StringUTF16", "compress", "([CII)[B"⟩ : MethodName) (head1 (Jvm.Cond.code (⟨"java/lang/StringUTF16", "compress", "([CII)[B"⟩ : MethodName) jdk_52_method_16_code 6 (some (.array .byte)) :: ws) ({ frames := 3, cells := 2, slots := 27, locals := 40 } : Room)) (fun a U => a = #[(.ref a0), (.int (0 : Int32)), (.int p2)] ∧ Z.Warmed39 U.vm ∧ U.heap = h0) (fun _ _ _ _ _ => True) (fun _ U o U' => ∃ v L, o = .returned v ∧ QCm3 Z a0 p2 kc cs kk h0 n0 v U'.heap L ∧ FrameEnd U o U' L ({ frames := 3, cells := 2, slots := 27, locals := 40 } : Room).cells ({ frames := 3, cells := 2, slots := 27, locals := 40 } : Room).slots) := by
  refine MetFree.of_bodySF (plainFor_of_name pn_0) hisR ?_
  intro p e s m args below meth c s₁ Bd hml0 hP hK
  obtain ⟨rfl, hZ, hh⟩ := hP
  have hx := Bd.exec
  have hby := Bd.bytes
  have hml : c.maxLocals = 6 := hml0
  have hown : s.vm.findClass "java/lang/StringUTF16" = some m.cls := findClass_of_methodNamed Bd.named
  have hnm := (name_of_methodNamed Bd.named Bd.method).1
  have X0 : Stand p l e ({ frames := 3, cells := 2, slots := 27, locals := 40 } : Room) s m #[(.ref a0), (.int (0 : Int32)), (.int p2)] below meth c s₁ [] 0 0 := Stand.of_body Bd
  have e0 : s₁.heap = h0 := by rw [← hh, Bd.state]; rfl
  have N0 := Fr.nil n0
  have Kp := Keep.refl h0 []
  show Run p e below (Ends s (QCm3 Z a0 p2 kc cs kk h0 n0) ({ frames := 3, cells := 2, slots := 27, locals := 40 } : Room).cells ({ frames := 3, cells := 2, slots := 27, locals := 40 } : Room).slots) _
  refine Run.st (S' := s₁.setTop (mkF m 0 #[.val (.ref a0), .val (.int (0 : Int32)), .val (.int p2), .unset, .unset, .unset] [])) (fun t k => castTop (ef_Cm3 m a0 p2) k) ?_
  refine Run.st (S' := s₁.setTop (mkF m 1 #[.val (.ref a0), .val (.int (0 : Int32)), .val (.int p2), .unset, .unset, .unset] [(.int p2)])) (fun _ k => XS.iloadN X0.here hx rfl (hb hby d9_0) rfl k) ?_
  obtain ⟨T1, h1, k1, X1, e1, E1, A1, st1⟩ := newP X0 hx hZ (hwi hw 20 rfl) e0 (g := (mkF m 1 #[.val (.ref a0), .val (.int (0 : Int32)), .val (.int p2), .unset, .unset, .unset] [(.int p2)])) rfl (hb hby d9_1) rfl hn (cap := 9) (Nat.le_of_lt_succ h9) (by decide) (by decide) (by decide)
  obtain ⟨b1, g1⟩ : ∃ z, z = h0.size := ⟨_, rfl⟩
  rw [← g1] at A1 st1
  have ne_a0_b1 : a0 ≠ b1 := Nat.ne_of_lt (Nat.lt_of_lt_of_le V_a0.lt (Nat.le_of_eq g1.symm))
  have V_a0 := V_a0.ext E1
  have OL := OL.ext E1
  have g_b1 : n0 ≤ b1 := Nat.le_trans Zn (Nat.le_of_eq g1.symm)
  have Zn := Nat.le_trans Zn E1.1
  have sz_b1 : h0.size ≤ b1 := Nat.le_trans Kp.1 (Nat.le_of_eq g1.symm)
  have Kp := Kp.ext E1
  have V_b1 : Arv Z h1 b1 k1 .byte p2 [] (.int (0 : Int32)) := Arv.new A1 hn
  refine Run.st (S' := T1.setTop (mkF m 4 #[.val (.ref a0), .val (.int (0 : Int32)), .val (.int p2), .val (.ref b1), .unset, .unset] [])) (fun _ k => st1 _ (XS.astoreN X1.here hx rfl (hb hby d9_3) rfl rfl (l' := #[.val (.ref a0), .val (.int (0 : Int32)), .val (.int p2), .val (.ref b1), .unset, .unset]) rfl k)) ?_
  have V_b1 := own_repB V_b1
  have hya : (List.replicate p2.toNatClampNeg (0 : Int32)).length = p2.toNatClampNeg := List.length_replicate
  refine Run.st (S' := T1.setTop (mkF m 9 #[.val (.ref a0), .val (.int (0 : Int32)), .val (.int p2), .val (.ref b1), .unset, .unset] [(.int p2), (.int (0 : Int32)), (.ref b1), (.int (0 : Int32)), (.ref a0)])) (fun _ k => XS.aloadN X1.here hx rfl (hb hby d9_4) rfl rfl (XS.iloadN X1.here hx rfl (hb hby d9_5) rfl (XS.aloadN X1.here hx rfl (hb hby d9_6) rfl rfl (XS.iconst X1.here hx rfl (hb hby d9_7) (XS.iloadN X1.here hx rfl (hb hby d9_8) rfl k))))) ?_
  obtain ⟨_, _, ⟨T2, L2, k2, n2⟩, -, X2, ⟨Lc2, hQ2, l2, y2, z2⟩, st2⟩ := Jvm.LawKit.callS X1 hx (y := (⟨"java/lang/StringUTF16", "compress", "([CI[BII)I"⟩ : MethodName)) hown (mvT hZ (hwi hw 49 rfl)) (mvT hZ (hwi hw 50 rfl)) (mvT hZ (hwi hw 47 rfl)) (mvT hZ (hwi hw 51 rfl)) (by decide) (backOf (W := 0) (rmCm5 l Z aV hw [] a0 b1 p2 kc cs k1 (List.replicate p2.toNatClampNeg (0 : Int32)) kk h1 n0 Zn OL g_b1 ne_a0_b1 hl h9 hya hk1 hk2 hk3 V_a0 V_b1) hZ (hwi hw 51 rfl) (hwi hw 47 rfl) (by decide) (by decide)) (g := (mkF m 9 #[.val (.ref a0), .val (.int (0 : Int32)), .val (.int p2), .val (.ref b1), .unset, .unset] [(.int p2), (.int (0 : Int32)), (.ref b1), (.int (0 : Int32)), (.ref a0)])) rfl (by rw [hml]; rfl) (argsL := [(.ref a0), (.int (0 : Int32)), (.ref b1), (.int (0 : Int32)), (.int p2)]) (rest := []) (lenOf pd_10 rfl) rfl (by show 2 * 0 + _ ≤ _; exact Nat.le_of_eq rfl) (hb hby d9_9) (fun _ _ => ⟨rfl, e1, (by decide : 1 + 0 ≤ _), (by decide : 9 + 0 ≤ _)⟩)
  dsimp only [Pt.U, Pt.locs, Pt.cells, Pt.slots] at X2 l2 y2 z2 st2 hQ2
  replace l2 := l2.symm; replace y2 := y2.symm; replace z2 := z2.symm; subst l2 y2 z2
  obtain ⟨rfl, N2q, K2⟩ := hQ2
  have OL := OL.keep K2 (allS g_b1 all0)
  have V_a0 := V_a0.keep K2 (ninS ne_a0_b1 nin0)
  have Kp := Kp.trans K2 (allS (Or.inr sz_b1) all0)
  have Zn := Nat.le_trans Zn K2.1
  have N2 := Fr.app N0 N2q
  refine Run.st (S' := T2.setTop (mkF m 23 #[.val (.ref a0), .val (.int (0 : Int32)), .val (.int p2), .val (.ref b1), .val (.int (Int32.ofNat kk)), .unset] [(.int p2), (.int (0 : Int32)), (.ref a0)])) (fun _ k => st2 _ (XS.istore X2.here hx rfl (hb hby d9_12) rfl (l' := #[.val (.ref a0), .val (.int (0 : Int32)), .val (.int p2), .val (.ref b1), .val (.int (Int32.ofNat kk)), .unset]) rfl (XS.iload X2.here hx rfl (hb hby d9_14) rfl (XS.iloadN X2.here hx rfl (hb hby d9_16) rfl (XS.icmpNo X2.here hx rfl (hb hby d9_17) rfl (feq (show ¬ ((Int32.ofNat kk) = p2) from (own_kne hl h9 hk1))).1 (XS.aloadN X2.here hx rfl (hb hby d9_20) rfl rfl (XS.iloadN X2.here hx rfl (hb hby d9_21) rfl (XS.iloadN X2.here hx rfl (hb hby d9_22) rfl k)))))))) ?_
  obtain ⟨_, _, ⟨T3, L3, k3, n3⟩, -, X3, ⟨Lc3, hQ3, l3, y3, z3⟩, st3⟩ := Jvm.LawKit.callS X2 hx (y := (⟨"java/lang/StringUTF16", "toBytes", "([CII)[B"⟩ : MethodName)) hown (mvT hZ (hwi hw 52 rfl)) (mvT hZ (hwi hw 53 rfl)) (mvT hZ (hwi hw 47 rfl)) (mvT hZ (hwi hw 54 rfl)) (by decide) (backOf (W := 0) (rmTBy l Z aV hw [] a0 p2 kc cs T2.heap n0 Zn OL hn h9 hl hr V_a0 S_as S_hi S_lo) hZ (hwi hw 54 rfl) (hwi hw 47 rfl) (by decide) (by decide)) (g := (mkF m 23 #[.val (.ref a0), .val (.int (0 : Int32)), .val (.int p2), .val (.ref b1), .val (.int (Int32.ofNat kk)), .unset] [(.int p2), (.int (0 : Int32)), (.ref a0)])) rfl (by rw [hml]; rfl) (argsL := [(.ref a0), (.int (0 : Int32)), (.int p2)]) (rest := []) (lenOf pd_11 rfl) rfl (by show 2 * 0 + _ ≤ _; exact Nat.le_of_eq rfl) (hb hby d9_23) (fun _ _ => ⟨rfl, rfl, (by decide : 1 + 1 ≤ _), (by decide : 9 + 18 ≤ _)⟩)
  dsimp only [Pt.U, Pt.locs, Pt.cells, Pt.slots] at X3 l3 y3 z3 st3 hQ3
  replace l3 := l3.symm; replace y3 := y3.symm; replace z3 := z3.symm; subst l3 y3 z3
  obtain ⟨y3, ky3, bz3, rfl, N3q, K3, g_y3, z_y3, V_y3, hW⟩ := hQ3
  have ne_a0_y3 : a0 ≠ y3 := Nat.ne_of_lt (Nat.lt_of_lt_of_le V_a0.lt z_y3)
  have sz_y3 : h0.size ≤ y3 := Nat.le_trans Kp.1 z_y3
  have OL := OL.keep K3 all0
  have V_a0 := V_a0.keep K3 nin0
  have Kp := Kp.trans K3 all0
  have Zn := Nat.le_trans Zn K3.1
  have N3 := Fr.app N2 N3q
  refine Run.st (S' := T3.setTop (mkF m 32 #[.val (.ref a0), .val (.int (0 : Int32)), .val (.int p2), .val (.ref b1), .val (.int (Int32.ofNat kk)), .val (.ref y3)] [(.int (Int32.ofNat kk)), (.ref y3)])) (fun _ k => st3 _ (XS.astore X3.here hx rfl (hb hby d9_26) rfl rfl (l' := #[.val (.ref a0), .val (.int (0 : Int32)), .val (.int p2), .val (.ref b1), .val (.int (Int32.ofNat kk)), .val (.ref y3)]) rfl (XS.aload X3.here hx rfl (hb hby d9_28) rfl rfl (XS.iload X3.here hx rfl (hb hby d9_30) rfl k)))) ?_
  obtain ⟨_, _, ⟨T4, L4, k4, n4⟩, -, X4, ⟨Lc4, hQ4, l4, y4, z4⟩, st4⟩ := Jvm.LawKit.callS X3 hx (y := (⟨"java/lang/StringUTF16", "getChar", "([BI)C"⟩ : MethodName)) hown (mvT hZ (hwi hw 68 rfl)) (mvT hZ (hwi hw 69 rfl)) (mvT hZ (hwi hw 47 rfl)) (mvT hZ (hwi hw 70 rfl)) (by decide) (backOf (W := 0) (rmGCh l Z aV hw [] y3 (Int32.ofNat kk) ky3 bz3 (p2 <<< ((1 : Int32) &&& 31)) cs T3.heap n0 Zn OL hW (own_knn hk1 (by omega)).1 (by rw [(own_knn hk1 (by omega)).2]; exact hk1) V_y3 S_as S_hi S_lo) hZ (hwi hw 70 rfl) (hwi hw 47 rfl) (by decide) (by decide)) (g := (mkF m 32 #[.val (.ref a0), .val (.int (0 : Int32)), .val (.int p2), .val (.ref b1), .val (.int (Int32.ofNat kk)), .val (.ref y3)] [(.int (Int32.ofNat kk)), (.ref y3)])) rfl (by rw [hml]; rfl) (argsL := [(.ref y3), (.int (Int32.ofNat kk))]) (rest := []) (lenOf pd_4 rfl) rfl (by show 2 * 0 + _ ≤ _; exact Nat.le_of_eq rfl) (hb hby d9_32) (fun _ _ => ⟨rfl, rfl, (by decide : 2 + 0 ≤ _), (by decide : 27 + 0 ≤ _)⟩)
  dsimp only [Pt.U, Pt.locs, Pt.cells, Pt.slots] at X4 l4 y4 z4 st4 hQ4
  replace l4 := l4.symm; replace y4 := y4.symm; replace z4 := z4.symm; subst l4 y4 z4
  obtain ⟨rfl, N4q, e4⟩ := hQ4
  have N4 := Fr.app N3 N4q
  refine Run.st (S' := T4.setTop (mkF m 56 #[.val (.ref a0), .val (.int (0 : Int32)), .val (.int p2), .val (.ref b1), .val (.int (Int32.ofNat kk)), .val (.ref y3)] [(.ref y3)])) (fun _ k => st4 _ (XS.sipush X4.here hx rfl (hb hby d9_35) (XS.icmpYes X4.here hx rfl (pc0 := 38) (pc' := 54) rfl (hb hby d9_38) rfl (tlt (show (255 : Int32) < (cs.getD ((Int32.ofNat kk)).toNatClampNeg 0) from (by rw [(own_knn hk1 (by omega)).2]; exact hk2))).2.2.1 (by decide) (by decide) (XS.aload X4.here hx rfl (hb hby d9_54) rfl rfl k)))) ?_
  refine Run.out X4 hx Bd.notSynchronized Bd.returns rfl (Or.inr (Or.inr (Or.inr (Or.inr ⟨rfl, rfl, rfl⟩)))) (hb hby d9_56) (by decide) (by decide) ?_
  rw [e4]
  exact ⟨y3, ky3, bz3, rfl, N4, Kp, g_y3, sz_y3, V_y3, hW⟩
theorem own_cfa {p : Int32} (hn : ¬ p < 0) (h9 : p.toNatClampNeg < 10) (hne : ¬ p = 0) : ((((p - (p <<< ((1 : Int32) &&& 31))).toUInt32 >>> ((31 : Int32) &&& 31).toUInt32).toInt32).toInt8.toInt32) = (1 : Int32) := by
  have h : ∀ i : Fin 10, i.1 ≠ 0 → (((((Int32.ofNat i.1) - ((Int32.ofNat i.1) <<< ((1 : Int32) &&& 31))).toUInt32 >>> ((31 : Int32) &&& 31).toUInt32).toInt32).toInt8.toInt32) = (1 : Int32) := by decide +kernel
  have e := own_ofN hn
  have q := h ⟨p.toNatClampNeg, h9⟩ (fun z => hne (by rw [e]; simp only at z; rw [z]; rfl))
  rw [e]
  exact q
theorem d16_0 : decode jdk_52_method_15_code 0 = .ok (.iload_n 1, 1) := by decide +kernel
theorem d16_1 : decode jdk_52_method_15_code 1 = .ok (.aload_n 0, 1) := by decide +kernel
theorem d16_2 : decode jdk_52_method_15_code 2 = .ok (.arraylength, 1) := by decide +kernel
theorem d16_3 : decode jdk_52_method_15_code 3 = .ok (.isub, 1) := by decide +kernel
theorem d16_4 : decode jdk_52_method_15_code 4 = .ok (.bipush 31, 2) := by decide +kernel
theorem d16_6 : decode jdk_52_method_15_code 6 = .ok (.iushr, 1) := by decide +kernel
theorem d16_7 : decode jdk_52_method_15_code 7 = .ok (.i2b, 1) := by decide +kernel
theorem d16_8 : decode jdk_52_method_15_code 8 = .ok (.ireturn, 1) := by decide +kernel
theorem ef_CFA (m : MethodId) (a0 : Addr) (p1 : Int32) : entryFrame m #[(.ref a0), (.int p1)] 2 = mkF m 0 #[.val (.ref a0), .val (.int p1)] [] := by first | (simp [entryFrame, mkF, argsToLocals, Value.category]; done) | rfl
def QCFA (Z : State) (a0 : Addr) (p1 : Int32) (kb : ClassId) (bs : List Int32) (h0 : Heap) (n0 : Nat) (v : Option Value) (h : Heap) (L : List Loc) : Prop := v = some (.int (1 : Int32)) ∧ Fr n0 L ∧ h = h0
set_option maxRecDepth 65536 in
set_option maxHeartbeats 40000000 in
theorem rmCFA (l : Launch) (Z : State) (aV : Array Value) (hw : ∀ d ∈ tables_1, d.before aV Z = true) (ws : List Jvm.Cond) (a0 : Addr) (p1 : Int32) (kb : ClassId) (bs : List Int32) (h0 : Heap) (n0 : Nat) (Zn : n0 ≤ h0.size) (OL : Old Z n0 h0) (hn : ¬ p1 < 0) (h9 : p1.toNatClampNeg < 10) (hne : ¬ p1 = 0) (V_a0 : Arv Z h0 a0 kb .byte (p1 <<< ((1 : Int32) &&& 31)) (bs.map Value.int) (.int (0 : Int32))) :
    MetFree l (⟨"java/lang/StringUTF16", "coderFromArrayLen", "([BI)B"⟩ : MethodName) (head1 (Jvm.Cond.code (⟨"java/lang/StringUTF16", "coderFromArrayLen", "([BI)B"⟩ : MethodName) jdk_52_method_15_code 2 (some .byte) :: ws) ({ frames := 0, cells := 0, slots := 0, locals := 0 } : Room)) (fun a U => a = #[(.ref a0), (.int p1)] ∧ Z.Warmed39 U.vm ∧ U.heap = h0) (fun _ _ _ _ _ => True) (fun _ U o U' => ∃ v L, o = .returned v ∧ QCFA Z a0 p1 kb bs h0 n0 v U'.heap L ∧ FrameEnd U o U' L ({ frames := 0, cells := 0, slots := 0, locals := 0 } : Room).cells ({ frames := 0, cells := 0, slots := 0, locals := 0 } : Room).slots) := by
  refine MetFree.of_bodySF (plainFor_of_name pn_0) hisR ?_
  intro p e s m args below meth c s₁ Bd hml0 hP hK
  obtain ⟨rfl, hZ, hh⟩ := hP
  have hx := Bd.exec
  have hby := Bd.bytes
  have hml : c.maxLocals = 2 := hml0
  have hown : s.vm.findClass "java/lang/StringUTF16" = some m.cls := findClass_of_methodNamed Bd.named
  have hnm := (name_of_methodNamed Bd.named Bd.method).1
  have X0 : Stand p l e ({ frames := 0, cells := 0, slots := 0, locals := 0 } : Room) s m #[(.ref a0), (.int p1)] below meth c s₁ [] 0 0 := Stand.of_body Bd
  have e0 : s₁.heap = h0 := by rw [← hh, Bd.state]; rfl
  have N0 := Fr.nil n0
  have Kp := Keep.refl h0 []
  show Run p e below (Ends s (QCFA Z a0 p1 kb bs h0 n0) ({ frames := 0, cells := 0, slots := 0, locals := 0 } : Room).cells ({ frames := 0, cells := 0, slots := 0, locals := 0 } : Room).slots) _
  refine Run.st (S' := s₁.setTop (mkF m 0 #[.val (.ref a0), .val (.int p1)] [])) (fun t k => castTop (ef_CFA m a0 p1) k) ?_
  refine Run.st (S' := s₁.setTop (mkF m 2 #[.val (.ref a0), .val (.int p1)] [(.ref a0), (.int p1)])) (fun _ k => XS.iloadN X0.here hx rfl (hb hby d16_0) rfl (XS.aloadN X0.here hx rfl (hb hby d16_1) rfl rfl k)) ?_
  obtain ⟨cl1, Ar1, -, Sa1, Na1, -, -⟩ := id V_a0
  refine Run.st (S' := s₁.setTop (mkF m 3 #[.val (.ref a0), .val (.int p1)] [(.int (p1 <<< ((1 : Int32) &&& 31))), (.int p1)])) (fun _ k => X0.arraylength hx (by rw [e0]; exact Ar1.1) (State.isArrayOf_alike hZ.alike Ar1.2.1) (g := (mkF m 2 #[.val (.ref a0), .val (.int p1)] [(.ref a0), (.int p1)])) rfl rfl (hb hby d16_2) _ (by rw [len_of Sa1 Na1]; exact k)) ?_
  refine Run.st (S' := s₁.setTop (mkF m 8 #[.val (.ref a0), .val (.int p1)] [(.int ((((p1 - (p1 <<< ((1 : Int32) &&& 31))).toUInt32 >>> ((31 : Int32) &&& 31).toUInt32).toInt32).toInt8.toInt32))])) (fun _ k => XS.isub X0.here hx rfl (hb hby d16_3) rfl (XS.bipush X0.here hx rfl (hb hby d16_4) (XS.iushr X0.here hx rfl (hb hby d16_6) rfl (XS.i2b X0.here hx rfl (hb hby d16_7) rfl k)))) ?_
  refine Run.out X0 hx Bd.notSynchronized Bd.returns (by rw [own_cfa hn h9 hne]; rfl) (Or.inl ⟨rfl, by simp, _, rfl⟩) (hb hby d16_8) (by decide) (by decide) ?_
  rw [e0]
  exact ⟨congrArg (fun z => some (Value.int z)) (own_cfa hn h9 hne), N0, rfl⟩
theorem pd_12 : parseMethodDescriptor "([BI)B" = some ⟨[(.array .byte), .int], some .byte⟩ := by decide +kernel
theorem d3_0 : decode jdk_42_method_149_code 0 = .ok (.aload_n 0, 1) := by decide +kernel
theorem d3_1 : decode jdk_42_method_149_code 1 = .ok (.invokespecial 1, 3) := by decide +kernel
theorem d3_4 : decode jdk_42_method_149_code 4 = .ok (.iload_n 3, 1) := by decide +kernel
theorem d3_5 : decode jdk_42_method_149_code 5 = .ok (.ifCond .ne 22, 3) := by decide +kernel
theorem d3_27 : decode jdk_42_method_149_code 27 = .ok (.getstatic 38, 3) := by decide +kernel
theorem d3_30 : decode jdk_42_method_149_code 30 = .ok (.ifCond .eq 28, 3) := by decide +kernel
theorem d3_33 : decode jdk_42_method_149_code 33 = .ok (.aload_n 1, 1) := by decide +kernel
theorem d3_34 : decode jdk_42_method_149_code 34 = .ok (.iload_n 2, 1) := by decide +kernel
theorem d3_35 : decode jdk_42_method_149_code 35 = .ok (.iload_n 3, 1) := by decide +kernel
theorem d3_36 : decode jdk_42_method_149_code 36 = .ok (.invokestatic 177, 3) := by decide +kernel
theorem d3_39 : decode jdk_42_method_149_code 39 = .ok (.astore 5, 2) := by decide +kernel
theorem d3_41 : decode jdk_42_method_149_code 41 = .ok (.aload_n 0, 1) := by decide +kernel
theorem d3_42 : decode jdk_42_method_149_code 42 = .ok (.aload 5, 2) := by decide +kernel
theorem d3_44 : decode jdk_42_method_149_code 44 = .ok (.iload_n 3, 1) := by decide +kernel
theorem d3_45 : decode jdk_42_method_149_code 45 = .ok (.invokestatic 47, 3) := by decide +kernel
theorem d3_48 : decode jdk_42_method_149_code 48 = .ok (.putfield 15, 3) := by decide +kernel
theorem d3_51 : decode jdk_42_method_149_code 51 = .ok (.aload_n 0, 1) := by decide +kernel
theorem d3_52 : decode jdk_42_method_149_code 52 = .ok (.aload 5, 2) := by decide +kernel
theorem d3_54 : decode jdk_42_method_149_code 54 = .ok (.putfield 9, 3) := by decide +kernel
theorem d3_57 : decode jdk_42_method_149_code 57 = .ok (.return_, 1) := by decide +kernel
theorem ef_U4 (m : MethodId) (a0 : Addr) (a1 : Addr) (p2 : Int32) : entryFrame m #[(.ref a0), (.ref a1), (.int (0 : Int32)), (.int p2), .null] 6 = mkF m 0 #[.val (.ref a0), .val (.ref a1), .val (.int (0 : Int32)), .val (.int p2), .val .null, .unset] [] := by first | (simp [entryFrame, mkF, argsToLocals, Value.category]; done) | rfl
def QU4 (Z : State) (a0 : Addr) (a1 : Addr) (p2 : Int32) (kc : ClassId) (cs : List Int32) (zc : Int32) (kk : Nat) (h0 : Heap) (n0 : Nat) (v : Option Value) (h : Heap) (L : List Loc) : Prop := v = none ∧ Fr n0 L ∧ Keep h0 h [a0] ∧ Exa Z h a0 "java/lang/String" ∧ Fld Z h a0 "java/lang/String" "coder" "B" (.int (1 : Int32)) ∧ ∃ (t : Addr) (kt : ClassId) (bz : List Int32), Fld Z h a0 "java/lang/String" "value" "[B" (.ref t) ∧ Arv Z h t kt .byte (p2 <<< ((1 : Int32) &&& 31)) (bz.map Value.int) (.int (0 : Int32)) ∧ own_wide cs bz (p2 <<< ((1 : Int32) &&& 31))
set_option maxRecDepth 65536 in
set_option maxHeartbeats 40000000 in
theorem rmU4 (l : Launch) (Z : State) (aV : Array Value) (hw : ∀ d ∈ tables_1, d.before aV Z = true) (ws : List Jvm.Cond) (a0 : Addr) (a1 : Addr) (p2 : Int32) (kc : ClassId) (cs : List Int32) (zc : Int32) (kk : Nat) (h0 : Heap) (n0 : Nat) (Zn : n0 ≤ h0.size) (OL : Old Z n0 h0) (hzc : ¬ zc = 0) (hn : ¬ p2 < 0) (h9 : p2.toNatClampNeg < 10) (hl : cs.length = p2.toNatClampNeg) (hr : (∀ c ∈ cs, ¬ c < 0 ∧ ¬ (65535 : Int32) < c)) (hne : ¬ p2 = 0) (g_a0 : n0 ≤ a0) (ne_a0__a1 : a0 ≠ a1) (hk1 : kk < cs.length) (hk2 : (255 : Int32) < cs.getD kk 0) (hk3 : ∀ j, j < kk → ¬ (255 : Int32) < cs.getD j 0) (E_a0 : Exa Z h0 a0 "java/lang/String") (F_value_a0 : Fld Z h0 a0 "java/lang/String" "value" "[B" .null) (F_coder_a0 : Fld Z h0 a0 "java/lang/String" "coder" "B" (.int (0 : Int32))) (V_a1 : Arv Z h0 a1 kc .char p2 (cs.map Value.int) (.int (0 : Int32))) (S_as : Sta Z Z.heap "java/lang/StringUTF16" "$assertionsDisabled" "Z" (.int (1 : Int32))) (S_hi : Sta Z Z.heap "java/lang/StringUTF16" "HI_BYTE_SHIFT" "I" (.int (0 : Int32))) (S_lo : Sta Z Z.heap "java/lang/StringUTF16" "LO_BYTE_SHIFT" "I" (.int (8 : Int32))) (S_cs : Sta Z Z.heap "java/lang/String" "COMPACT_STRINGS" "Z" (.int zc)) :
    MetFree l (⟨"java/lang/String", "<init>", "([CIILjava/lang/Void;)V"⟩ : MethodName) (head1 (Jvm.Cond.code (⟨"java/lang/String", "<init>", "([CIILjava/lang/Void;)V"⟩ : MethodName) jdk_42_method_149_code 6 none :: ws) ({ frames := 4, cells := 2, slots := 27, locals := 57 } : Room)) (fun a U => a = #[(.ref a0), (.ref a1), (.int (0 : Int32)), (.int p2), .null] ∧ Z.Warmed39 U.vm ∧ U.heap = h0) (fun _ _ _ _ _ => True) (fun _ U o U' => ∃ v L, o = .returned v ∧ QU4 Z a0 a1 p2 kc cs zc kk h0 n0 v U'.heap L ∧ FrameEnd U o U' L ({ frames := 4, cells := 2, slots := 27, locals := 57 } : Room).cells ({ frames := 4, cells := 2, slots := 27, locals := 57 } : Room).slots) := by
  refine MetFree.of_bodySF (plainFor_of_name pn_2) hisR ?_
  intro p e s m args below meth c s₁ Bd hml0 hP hK
  obtain ⟨rfl, hZ, hh⟩ := hP
  have hx := Bd.exec
  have hby := Bd.bytes
  have hml : c.maxLocals = 6 := hml0
  have hown : s.vm.findClass "java/lang/String" = some m.cls := findClass_of_methodNamed Bd.named
  have hnm := (name_of_methodNamed Bd.named Bd.method).1
  have X0 : Stand p l e ({ frames := 4, cells := 2, slots := 27, locals := 57 } : Room) s m #[(.ref a0), (.ref a1), (.int (0 : Int32)), (.int p2), .null] below meth c s₁ [] 0 0 := Stand.of_body Bd
  have e0 : s₁.heap = h0 := by rw [← hh, Bd.state]; rfl
  have N0 := Fr.nil n0
  have Kp := Keep.refl h0 [a0]
  show Run p e below (Ends s (QU4 Z a0 a1 p2 kc cs zc kk h0 n0) ({ frames := 4, cells := 2, slots := 27, locals := 57 } : Room).cells ({ frames := 4, cells := 2, slots := 27, locals := 57 } : Room).slots) _
  refine Run.st (S' := s₁.setTop (mkF m 0 #[.val (.ref a0), .val (.ref a1), .val (.int (0 : Int32)), .val (.int p2), .val .null, .unset] [])) (fun t k => castTop (ef_U4 m a0 a1 p2) k) ?_
  refine Run.st (S' := s₁.setTop (mkF m 1 #[.val (.ref a0), .val (.ref a1), .val (.int (0 : Int32)), .val (.int p2), .val .null, .unset] [(.ref a0)])) (fun _ k => XS.aloadN X0.here hx rfl (hb hby d3_0) rfl rfl k) ?_
  obtain ⟨T1, X1, e1, st1⟩ := initO X0 hx hZ hown (hwi hw 16 rfl) (hwi hw 17 rfl) (hwi hw 18 rfl) e0 (g := (mkF m 1 #[.val (.ref a0), .val (.ref a1), .val (.int (0 : Int32)), .val (.int p2), .val .null, .unset] [(.ref a0)])) rfl (by rw [hml]; rfl) rfl (hb hby d3_1) (by decide) (W := 0) (by show 2 * 0 + _ ≤ _; exact Nat.le_of_eq rfl) (by decide)
  refine Run.st (S' := T1.setTop (mkF m 27 #[.val (.ref a0), .val (.ref a1), .val (.int (0 : Int32)), .val (.int p2), .val .null, .unset] [])) (fun _ k => st1 _ (XS.iloadN X1.here hx rfl (hb hby d3_4) rfl (XS.ifYes X1.here hx rfl (pc0 := 5) (pc' := 27) rfl (hb hby d3_5) rfl ((if0 _ _).trans (feq (show ¬ (p2 = (0 : Int32)) from hne)).2) (by decide) (by decide) k))) ?_
  have u_S_cs := S_cs.ext OL.2
  obtain ⟨T2, X2, e2, st2⟩ := getS2 X1 hx hZ hown (host := "") (Or.inl (hwi hw 41 rfl)) Via.refl e1 u_S_cs (g := (mkF m 27 #[.val (.ref a0), .val (.ref a1), .val (.int (0 : Int32)), .val (.int p2), .val .null, .unset] [])) rfl (hb hby d3_27)
  refine Run.st (S' := T2.setTop (mkF m 36 #[.val (.ref a0), .val (.ref a1), .val (.int (0 : Int32)), .val (.int p2), .val .null, .unset] [(.int p2), (.int (0 : Int32)), (.ref a1)])) (fun _ k => st2 _ (XS.ifNo X2.here hx rfl (hb hby d3_30) rfl ((if0 _ _).trans (feq (show ¬ (zc = (0 : Int32)) from hzc)).1) (XS.aloadN X2.here hx rfl (hb hby d3_33) rfl rfl (XS.iloadN X2.here hx rfl (hb hby d3_34) rfl (XS.iloadN X2.here hx rfl (hb hby d3_35) rfl k))))) ?_
  obtain ⟨_, _, ⟨T3, L3, k3, n3⟩, -, X3, ⟨Lc3, hQ3, l3, y3, z3⟩, st3⟩ := Jvm.LawKit.callS X2 hx (y := (⟨"java/lang/StringUTF16", "compress", "([CII)[B"⟩ : MethodName)) hown (mvT hZ (hwi hw 45 rfl)) (mvT hZ (hwi hw 46 rfl)) (mvT hZ (hwi hw 47 rfl)) (mvT hZ (hwi hw 48 rfl)) (by decide) (backOf (W := 0) (rmCm3 l Z aV hw [] a1 p2 kc cs kk h0 n0 Zn OL hn h9 hl hr hk1 hk2 hk3 V_a1 S_as S_hi S_lo) hZ (hwi hw 48 rfl) (hwi hw 47 rfl) (by decide) (by decide)) (g := (mkF m 36 #[.val (.ref a0), .val (.ref a1), .val (.int (0 : Int32)), .val (.int p2), .val .null, .unset] [(.int p2), (.int (0 : Int32)), (.ref a1)])) rfl (by rw [hml]; rfl) (argsL := [(.ref a1), (.int (0 : Int32)), (.int p2)]) (rest := []) (lenOf pd_11 rfl) rfl (by show 2 * 0 + _ ≤ _; exact Nat.le_of_eq rfl) (hb hby d3_36) (fun _ _ => ⟨rfl, e2, (by decide : 0 + 2 ≤ _), (by decide : 0 + 27 ≤ _)⟩)
  dsimp only [Pt.U, Pt.locs, Pt.cells, Pt.slots] at X3 l3 y3 z3 st3 hQ3
  replace l3 := l3.symm; replace y3 := y3.symm; replace z3 := z3.symm; subst l3 y3 z3
  obtain ⟨y3, ky3, bz3, rfl, N3q, K3, g_y3, z_y3, V_y3, hW⟩ := hQ3
  have ne_a0_y3 : a0 ≠ y3 := Nat.ne_of_lt (Nat.lt_of_lt_of_le E_a0.lt z_y3)
  have ne_a1_y3 : a1 ≠ y3 := Nat.ne_of_lt (Nat.lt_of_lt_of_le V_a1.lt z_y3)
  have sz_y3 : h0.size ≤ y3 := Nat.le_trans Kp.1 z_y3
  have OL := OL.keep K3 all0
  have E_a0 := E_a0.keep K3
  have F_value_a0 := F_value_a0.keep K3 nin0
  have F_coder_a0 := F_coder_a0.keep K3 nin0
  have V_a1 := V_a1.keep K3 nin0
  have Kp := Kp.trans K3 all0
  have Zn := Nat.le_trans Zn K3.1
  have N3 := Fr.app N0 N3q
  refine Run.st (S' := T3.setTop (mkF m 45 #[.val (.ref a0), .val (.ref a1), .val (.int (0 : Int32)), .val (.int p2), .val .null, .val (.ref y3)] [(.int p2), (.ref y3), (.ref a0)])) (fun _ k => st3 _ (XS.astore X3.here hx rfl (hb hby d3_39) rfl rfl (l' := #[.val (.ref a0), .val (.ref a1), .val (.int (0 : Int32)), .val (.int p2), .val .null, .val (.ref y3)]) rfl (XS.aloadN X3.here hx rfl (hb hby d3_41) rfl rfl (XS.aload X3.here hx rfl (hb hby d3_42) rfl rfl (XS.iloadN X3.here hx rfl (hb hby d3_44) rfl k))))) ?_
  obtain ⟨_, _, ⟨T4, L4, k4, n4⟩, -, X4, ⟨Lc4, hQ4, l4, y4, z4⟩, st4⟩ := Jvm.LawKit.callS X3 hx (y := (⟨"java/lang/StringUTF16", "coderFromArrayLen", "([BI)B"⟩ : MethodName)) hown (mvT hZ (hwi hw 71 rfl)) (mvT hZ (hwi hw 72 rfl)) (mvT hZ (hwi hw 47 rfl)) (mvT hZ (hwi hw 73 rfl)) (by decide) (backOf (W := 1) (rmCFA l Z aV hw [] y3 p2 ky3 bz3 T3.heap n0 Zn OL hn h9 hne V_y3) hZ (hwi hw 73 rfl) (hwi hw 47 rfl) (by decide) (by decide)) (g := (mkF m 45 #[.val (.ref a0), .val (.ref a1), .val (.int (0 : Int32)), .val (.int p2), .val .null, .val (.ref y3)] [(.int p2), (.ref y3), (.ref a0)])) rfl (by rw [hml]; rfl) (argsL := [(.ref y3), (.int p2)]) (rest := [(.ref a0)]) (lenOf pd_12 rfl) rfl (by show 2 * 0 + _ ≤ _; exact Nat.le_of_eq rfl) (hb hby d3_45) (fun _ _ => ⟨rfl, rfl, (by decide : 2 + 0 ≤ _), (by decide : 27 + 0 ≤ _)⟩)
  dsimp only [Pt.U, Pt.locs, Pt.cells, Pt.slots] at X4 l4 y4 z4 st4 hQ4
  replace l4 := l4.symm; replace y4 := y4.symm; replace z4 := z4.symm; subst l4 y4 z4
  obtain ⟨rfl, N4q, e4⟩ := hQ4
  have N4 := Fr.app N3 N4q
  refine Run.st (S' := T4.setTop (mkF m 48 #[.val (.ref a0), .val (.ref a1), .val (.int (0 : Int32)), .val (.int p2), .val .null, .val (.ref y3)] [(.int (1 : Int32)), (.ref a0)])) (fun _ k => st4 _ k) ?_
  obtain ⟨T5, h5, X5, e5, W5, st5⟩ := putFN X4 hx hZ hown (hwi hw 26 rfl) Via.refl e4 F_coder_a0 E_a0 (Or.inr ⟨(hwi hw 22 rfl), rfl, hnm⟩) (hwi hw 7 rfl) (ty := .byte) (v' := (.int (1 : Int32))) (by decide) (by rfl) (by rfl) (g := (mkF m 48 #[.val (.ref a0), .val (.ref a1), .val (.int (0 : Int32)), .val (.int p2), .val .null, .val (.ref y3)] [(.int (1 : Int32)), (.ref a0)])) rfl rfl (hb hby d3_48)
  have F_coder_a0 := F_coder_a0.same W5
  have OL := OL.wr W5 g_a0
  have E_a0 := E_a0.wr W5
  have F_value_a0 := F_value_a0.other W5 (Or.inr (slot_ne (Or.inr (hwi hw 21 rfl)) (Or.inr (hwi hw 22 rfl)) (by decide) (t := (.array .byte)) (t' := .byte) (by decide) (by decide)))
  have V_a1 := V_a1.other W5 (Ne.symm ne_a0__a1)
  have V_y3 := V_y3.other W5 (Ne.symm ne_a0_y3)
  have N5 := Fr.snoc X5 N4 g_a0
  have Kp := Kp.wr W5 (Or.inl (by simp))
  have Zn := Nat.le_trans Zn (Nat.le_of_eq W5.size.symm)
  refine Run.st (S' := T5.setTop (mkF m 54 #[.val (.ref a0), .val (.ref a1), .val (.int (0 : Int32)), .val (.int p2), .val .null, .val (.ref y3)] [(.ref y3), (.ref a0)])) (fun _ k => st5 _ (XS.aloadN X5.here hx rfl (hb hby d3_51) rfl rfl (XS.aload X5.here hx rfl (hb hby d3_52) rfl rfl k))) ?_
  obtain ⟨T6, h6, X6, e6, W6, st6⟩ := putF X5 hx hZ hown (host := "") (Or.inl (hwi hw 25 rfl)) Via.refl e5 F_value_a0 E_a0 (Or.inr ⟨(hwi hw 21 rfl), rfl, hnm⟩) (hwi hw 7 rfl) (ty := (.array .byte)) (by decide) rfl rfl (g := (mkF m 54 #[.val (.ref a0), .val (.ref a1), .val (.int (0 : Int32)), .val (.int p2), .val .null, .val (.ref y3)] [(.ref y3), (.ref a0)])) rfl rfl (hb hby d3_54)
  have F_value_a0 := F_value_a0.same W6
  have OL := OL.wr W6 g_a0
  have E_a0 := E_a0.wr W6
  have F_coder_a0 := F_coder_a0.other W6 (Or.inr (slot_ne (Or.inr (hwi hw 22 rfl)) (Or.inr (hwi hw 21 rfl)) (by decide) (t := .byte) (t' := (.array .byte)) (by decide) (by decide)))
  have V_a1 := V_a1.other W6 (Ne.symm ne_a0__a1)
  have V_y3 := V_y3.other W6 (Ne.symm ne_a0_y3)
  have N6 := Fr.snoc X6 N5 g_a0
  have Kp := Kp.wr W6 (Or.inl (by simp))
  have Zn := Nat.le_trans Zn (Nat.le_of_eq W6.size.symm)
  refine Run.st (S' := T6.setTop (mkF m 57 #[.val (.ref a0), .val (.ref a1), .val (.int (0 : Int32)), .val (.int p2), .val .null, .val (.ref y3)] [])) (fun _ k => st6 _ k) ?_
  refine Run.outV X6 hx Bd.notSynchronized Bd.returns (hb hby d3_57) (by decide) (by decide) ?_
  rw [e6]
  exact ⟨rfl, N6, Kp, E_a0, F_coder_a0, y3, ky3, bz3, F_value_a0, V_y3, hW⟩
theorem pd_13 : parseMethodDescriptor "([CIILjava/lang/Void;)V" = some ⟨[(.array .char), .int, .int, (.object "java/lang/Void")], none⟩ := by decide +kernel
theorem d2_0 : decode jdk_42_method_3_code 0 = .ok (.aload_n 0, 1) := by decide +kernel
theorem d2_1 : decode jdk_42_method_3_code 1 = .ok (.aload_n 1, 1) := by decide +kernel
theorem d2_2 : decode jdk_42_method_3_code 2 = .ok (.iconst 0, 1) := by decide +kernel
theorem d2_3 : decode jdk_42_method_3_code 3 = .ok (.aload_n 1, 1) := by decide +kernel
theorem d2_4 : decode jdk_42_method_3_code 4 = .ok (.arraylength, 1) := by decide +kernel
theorem d2_5 : decode jdk_42_method_3_code 5 = .ok (.aconst_null, 1) := by decide +kernel
theorem d2_6 : decode jdk_42_method_3_code 6 = .ok (.invokespecial 27, 3) := by decide +kernel
theorem d2_9 : decode jdk_42_method_3_code 9 = .ok (.return_, 1) := by decide +kernel
theorem ef_U1 (m : MethodId) (a0 : Addr) (a1 : Addr) : entryFrame m #[(.ref a0), (.ref a1)] 2 = mkF m 0 #[.val (.ref a0), .val (.ref a1)] [] := by first | (simp [entryFrame, mkF, argsToLocals, Value.category]; done) | rfl
def QU1 (Z : State) (a0 : Addr) (a1 : Addr) (kc : ClassId) (cs : List Int32) (p2 : Int32) (zc : Int32) (kk : Nat) (h0 : Heap) (n0 : Nat) (v : Option Value) (h : Heap) (L : List Loc) : Prop := v = none ∧ Fr n0 L ∧ Keep h0 h [a0] ∧ Exa Z h a0 "java/lang/String" ∧ Fld Z h a0 "java/lang/String" "coder" "B" (.int (1 : Int32)) ∧ ∃ (t : Addr) (kt : ClassId) (bz : List Int32), Fld Z h a0 "java/lang/String" "value" "[B" (.ref t) ∧ Arv Z h t kt .byte (p2 <<< ((1 : Int32) &&& 31)) (bz.map Value.int) (.int (0 : Int32)) ∧ own_wide cs bz (p2 <<< ((1 : Int32) &&& 31))
set_option maxRecDepth 65536 in
set_option maxHeartbeats 40000000 in
theorem rmU1 (l : Launch) (Z : State) (aV : Array Value) (hw : ∀ d ∈ tables_1, d.before aV Z = true) (ws : List Jvm.Cond) (a0 : Addr) (a1 : Addr) (kc : ClassId) (cs : List Int32) (p2 : Int32) (zc : Int32) (kk : Nat) (h0 : Heap) (n0 : Nat) (Zn : n0 ≤ h0.size) (OL : Old Z n0 h0) (hzc : ¬ zc = 0) (hn : ¬ p2 < 0) (h9 : p2.toNatClampNeg < 10) (hl : cs.length = p2.toNatClampNeg) (hr : (∀ c ∈ cs, ¬ c < 0 ∧ ¬ (65535 : Int32) < c)) (hne : ¬ p2 = 0) (g_a0 : n0 ≤ a0) (ne_a0__a1 : a0 ≠ a1) (hk1 : kk < cs.length) (hk2 : (255 : Int32) < cs.getD kk 0) (hk3 : ∀ j, j < kk → ¬ (255 : Int32) < cs.getD j 0) (E_a0 : Exa Z h0 a0 "java/lang/String") (F_value_a0 : Fld Z h0 a0 "java/lang/String" "value" "[B" .null) (F_coder_a0 : Fld Z h0 a0 "java/lang/String" "coder" "B" (.int (0 : Int32))) (V_a1 : Arv Z h0 a1 kc .char p2 (cs.map Value.int) (.int (0 : Int32))) (S_as : Sta Z Z.heap "java/lang/StringUTF16" "$assertionsDisabled" "Z" (.int (1 : Int32))) (S_hi : Sta Z Z.heap "java/lang/StringUTF16" "HI_BYTE_SHIFT" "I" (.int (0 : Int32))) (S_lo : Sta Z Z.heap "java/lang/StringUTF16" "LO_BYTE_SHIFT" "I" (.int (8 : Int32))) (S_cs : Sta Z Z.heap "java/lang/String" "COMPACT_STRINGS" "Z" (.int zc)) :
    MetFree l (⟨"java/lang/String", "<init>", "([C)V"⟩ : MethodName) (head1 (Jvm.Cond.code (⟨"java/lang/String", "<init>", "([C)V"⟩ : MethodName) jdk_42_method_3_code 2 none :: ws) ({ frames := 5, cells := 2, slots := 27, locals := 74 } : Room)) (fun a U => a = #[(.ref a0), (.ref a1)] ∧ Z.Warmed39 U.vm ∧ U.heap = h0) (fun _ _ _ _ _ => True) (fun _ U o U' => ∃ v L, o = .returned v ∧ QU1 Z a0 a1 kc cs p2 zc kk h0 n0 v U'.heap L ∧ FrameEnd U o U' L ({ frames := 5, cells := 2, slots := 27, locals := 74 } : Room).cells ({ frames := 5, cells := 2, slots := 27, locals := 74 } : Room).slots) := by
  refine MetFree.of_bodySF (plainFor_of_name pn_2) hisR ?_
  intro p e s m args below meth c s₁ Bd hml0 hP hK
  obtain ⟨rfl, hZ, hh⟩ := hP
  have hx := Bd.exec
  have hby := Bd.bytes
  have hml : c.maxLocals = 2 := hml0
  have hown : s.vm.findClass "java/lang/String" = some m.cls := findClass_of_methodNamed Bd.named
  have hnm := (name_of_methodNamed Bd.named Bd.method).1
  have X0 : Stand p l e ({ frames := 5, cells := 2, slots := 27, locals := 74 } : Room) s m #[(.ref a0), (.ref a1)] below meth c s₁ [] 0 0 := Stand.of_body Bd
  have e0 : s₁.heap = h0 := by rw [← hh, Bd.state]; rfl
  have N0 := Fr.nil n0
  have Kp := Keep.refl h0 [a0]
  show Run p e below (Ends s (QU1 Z a0 a1 kc cs p2 zc kk h0 n0) ({ frames := 5, cells := 2, slots := 27, locals := 74 } : Room).cells ({ frames := 5, cells := 2, slots := 27, locals := 74 } : Room).slots) _
  refine Run.st (S' := s₁.setTop (mkF m 0 #[.val (.ref a0), .val (.ref a1)] [])) (fun t k => castTop (ef_U1 m a0 a1) k) ?_
  refine Run.st (S' := s₁.setTop (mkF m 4 #[.val (.ref a0), .val (.ref a1)] [(.ref a1), (.int (0 : Int32)), (.ref a1), (.ref a0)])) (fun _ k => XS.aloadN X0.here hx rfl (hb hby d2_0) rfl rfl (XS.aloadN X0.here hx rfl (hb hby d2_1) rfl rfl (XS.iconst X0.here hx rfl (hb hby d2_2) (XS.aloadN X0.here hx rfl (hb hby d2_3) rfl rfl k)))) ?_
  obtain ⟨cl1, Ar1, -, Sa1, Na1, -, -⟩ := id V_a1
  refine Run.st (S' := s₁.setTop (mkF m 5 #[.val (.ref a0), .val (.ref a1)] [(.int p2), (.int (0 : Int32)), (.ref a1), (.ref a0)])) (fun _ k => X0.arraylength hx (by rw [e0]; exact Ar1.1) (State.isArrayOf_alike hZ.alike Ar1.2.1) (g := (mkF m 4 #[.val (.ref a0), .val (.ref a1)] [(.ref a1), (.int (0 : Int32)), (.ref a1), (.ref a0)])) rfl rfl (hb hby d2_4) _ (by rw [len_of Sa1 Na1]; exact k)) ?_
  refine Run.st (S' := s₁.setTop (mkF m 6 #[.val (.ref a0), .val (.ref a1)] [.null, (.int p2), (.int (0 : Int32)), (.ref a1), (.ref a0)])) (fun _ k => XS.aconstNull X0.here hx rfl (hb hby d2_5) k) ?_
  obtain ⟨_, _, ⟨T2, L2, k2, n2⟩, -, X2, ⟨Lc2, hQ2, l2, y2, z2⟩, st2⟩ := X0.specialBack hx (y := (⟨"java/lang/String", "<init>", "([CIILjava/lang/Void;)V"⟩ : MethodName)) rfl hown (mvT hZ (hwi hw 12 rfl)) (mvT hZ (hwi hw 13 rfl)) (mvT hZ (hwi hw 15 rfl)) (by decide) (backOf (W := 0) (rmU4 l Z aV hw [] a0 a1 p2 kc cs zc kk h0 n0 Zn OL hzc hn h9 hl hr hne g_a0 ne_a0__a1 hk1 hk2 hk3 E_a0 F_value_a0 F_coder_a0 V_a1 S_as S_hi S_lo S_cs) hZ (hwi hw 15 rfl) (hwi hw 8 rfl) (by decide) (by decide)) (g := (mkF m 6 #[.val (.ref a0), .val (.ref a1)] [.null, (.int p2), (.int (0 : Int32)), (.ref a1), (.ref a0)])) rfl (by rw [hml]; rfl) (Steps.refl _) (a := a0) (argsL := [(.ref a1), (.int (0 : Int32)), (.int p2), .null]) (rest := []) (lenOf pd_13 rfl) rfl (by show 2 * 0 + _ ≤ _; exact Nat.le_of_eq rfl) (hb hby d2_6) (fun _ _ => ⟨rfl, e0, (by decide : 0 + 2 ≤ _), (by decide : 0 + 27 ≤ _)⟩)
  dsimp only [Pt.U, Pt.locs, Pt.cells, Pt.slots] at X2 l2 y2 z2 st2 hQ2
  replace l2 := l2.symm; replace y2 := y2.symm; replace z2 := z2.symm; subst l2 y2 z2
  obtain ⟨rfl, N2q, K2, qE, qC, t2, kt2, bz2, qV, qK, hW⟩ := hQ2
  have OL := OL.keep K2 (allS g_a0 all0)
  have V_a1 := V_a1.keep K2 (ninS (Ne.symm ne_a0__a1) nin0)
  have E_a0 := qE
  have F_coder_a0 := qC
  have F_value_a0 := qV
  have V_t2 := qK
  have Kp := Kp.trans K2 (allS (Or.inl (by simp)) all0)
  have Zn := Nat.le_trans Zn K2.1
  have N2 := Fr.app N0 N2q
  refine Run.st (S' := T2.setTop (mkF m 9 #[.val (.ref a0), .val (.ref a1)] [])) (fun _ k => st2.trans k) ?_
  refine Run.outV X2 hx Bd.notSynchronized Bd.returns (hb hby d2_9) (by decide) (by decide) ?_
  exact ⟨rfl, N2, Kp, E_a0, F_coder_a0, t2, kt2, bz2, F_value_a0, V_t2, hW⟩
theorem d3_8 : decode jdk_42_method_149_code 8 = .ok (.aload_n 0, 1) := by decide +kernel
theorem d3_9 : decode jdk_42_method_149_code 9 = .ok (.ldc 7, 2) := by decide +kernel
theorem d3_11 : decode jdk_42_method_149_code 11 = .ok (.getfield 9, 3) := by decide +kernel
theorem d3_14 : decode jdk_42_method_149_code 14 = .ok (.putfield 9, 3) := by decide +kernel
theorem d3_17 : decode jdk_42_method_149_code 17 = .ok (.aload_n 0, 1) := by decide +kernel
theorem d3_18 : decode jdk_42_method_149_code 18 = .ok (.ldc 7, 2) := by decide +kernel
theorem d3_20 : decode jdk_42_method_149_code 20 = .ok (.getfield 15, 3) := by decide +kernel
theorem d3_23 : decode jdk_42_method_149_code 23 = .ok (.putfield 15, 3) := by decide +kernel
theorem d3_26 : decode jdk_42_method_149_code 26 = .ok (.return_, 1) := by decide +kernel
theorem ef_Ini4 (m : MethodId) (a0 : Addr) (a1 : Addr) (p2 : Int32) (p3 : Int32) : entryFrame m #[(.ref a0), (.ref a1), (.int p2), (.int p3), .null] 6 = mkF m 0 #[.val (.ref a0), .val (.ref a1), .val (.int p2), .val (.int p3), .val .null, .unset] [] := by first | (simp [entryFrame, mkF, argsToLocals, Value.category]; done) | rfl
def QIni4 (Z : State) (a0 : Addr) (a1 : Addr) (p2 : Int32) (p3 : Int32) (h0 : Heap) (n0 : Nat) (v : Option Value) (h : Heap) (L : List Loc) : Prop := own_QS Z a0 [] h0 n0 v h L
set_option maxRecDepth 65536 in
set_option maxHeartbeats 40000000 in
theorem rmIni4 (l : Launch) (Z : State) (aV : Array Value) (hw : ∀ d ∈ tables_1, d.before aV Z = true) (ws : List Jvm.Cond) (a0 : Addr) (a1 : Addr) (p2 : Int32) (p3 : Int32) (h0 : Heap) (n0 : Nat) (Zn : n0 ≤ h0.size) (OL : Old Z n0 h0) (g_a0 : n0 ≤ a0) (hp3 : p3 = (0 : Int32)) (E_a0 : Exa Z h0 a0 "java/lang/String") (F_value_a0 : Fld Z h0 a0 "java/lang/String" "value" "[B" .null) (F_coder_a0 : Fld Z h0 a0 "java/lang/String" "coder" "B" (.int (0 : Int32))) :
    MetFree l (⟨"java/lang/String", "<init>", "([CIILjava/lang/Void;)V"⟩ : MethodName) (head1 (Jvm.Cond.code (⟨"java/lang/String", "<init>", "([CIILjava/lang/Void;)V"⟩ : MethodName) jdk_42_method_149_code 6 none :: ws) ({ frames := 1, cells := 4, slots := 8, locals := 12 } : Room)) (fun a U => a = #[(.ref a0), (.ref a1), (.int p2), (.int p3), .null] ∧ Z.Warmed39 U.vm ∧ U.heap = h0 ∧ CHv Z consts_1 U.vm h0) (fun _ _ _ _ _ => True) (fun _ U o U' => ∃ v L, o = .returned v ∧ QIni4 Z a0 a1 p2 p3 h0 n0 v U'.heap L ∧ CHr Z consts_1 U.vm U.heap U'.vm U'.heap ∧ ReturnedEndW U o U' L ({ frames := 1, cells := 4, slots := 8, locals := 12 } : Room).cells ({ frames := 1, cells := 4, slots := 8, locals := 12 } : Room).slots) := by
  refine MetFree.of_bodySF (plainFor_of_name pn_2) hisR ?_
  intro p e s m args below meth c s₁ Bd hml0 hP hK
  obtain ⟨rfl, hZ, hh, CH0⟩ := hP
  have hx := Bd.exec
  have hby := Bd.bytes
  have hml : c.maxLocals = 6 := hml0
  have hown : s.vm.findClass "java/lang/String" = some m.cls := findClass_of_methodNamed Bd.named
  have hnm := (name_of_methodNamed Bd.named Bd.method).1
  have X0 : Stand p l e ({ frames := 1, cells := 4, slots := 8, locals := 12 } : Room) s m #[(.ref a0), (.ref a1), (.int p2), (.int p3), .null] below meth c s₁ [] 0 0 := Stand.of_body Bd
  have e0 : s₁.heap = h0 := by rw [← hh, Bd.state]; rfl
  have N0 := Fr.nil n0
  have Kp := Keep.refl h0 [a0]
  have X0 : Stand p l e ({ frames := 1, cells := 4, slots := 8, locals := 12 } : Room) (s.setVm s.vm) m #[(.ref a0), (.ref a1), (.int p2), (.int p3), .null] below meth c s₁ [] 0 0 := X0
  have hS : s.Since s.vm 0 := (State.WarmedH.refl s).since 0
  have hk : 0 ≤ h0.size := Nat.zero_le _
  have CR := CHr.refl CH0
  have hZ : Z.Warmed39 (s.setVm s.vm).vm := hZ
  have hown : (s.setVm s.vm).vm.findClass "java/lang/String" = some m.cls := hown
  have sf_a0 := own_safeN (EL := consts_1) hZ.alike E_a0 F_value_a0
  show Run p e below (EndsW Z s (QIni4 Z a0 a1 p2 p3 h0 n0) ({ frames := 1, cells := 4, slots := 8, locals := 12 } : Room).cells ({ frames := 1, cells := 4, slots := 8, locals := 12 } : Room).slots) _
  refine Run.st (S' := s₁.setTop (mkF m 0 #[.val (.ref a0), .val (.ref a1), .val (.int p2), .val (.int p3), .val .null, .unset] [])) (fun t k => castTop (ef_Ini4 m a0 a1 p2 p3) k) ?_
  refine Run.st (S' := s₁.setTop (mkF m 1 #[.val (.ref a0), .val (.ref a1), .val (.int p2), .val (.int p3), .val .null, .unset] [(.ref a0)])) (fun _ k => XS.aloadN X0.here hx rfl (hb hby d3_0) rfl rfl k) ?_
  obtain ⟨T1, X1, e1, st1⟩ := initO X0 hx hZ hown (hwi hw 16 rfl) (hwi hw 17 rfl) (hwi hw 18 rfl) e0 (g := (mkF m 1 #[.val (.ref a0), .val (.ref a1), .val (.int p2), .val (.int p3), .val .null, .unset] [(.ref a0)])) rfl (by rw [hml]; rfl) rfl (hb hby d3_1) (by decide) (W := 0) (by show 2 * 0 + _ ≤ _; exact Nat.le_of_eq rfl) (by decide)
  refine Run.st (S' := T1.setTop (mkF m 9 #[.val (.ref a0), .val (.ref a1), .val (.int p2), .val (.int p3), .val .null, .unset] [(.ref a0)])) (fun _ k => st1 _ (XS.iloadN X1.here hx rfl (hb hby d3_4) rfl (XS.ifNo X1.here hx rfl (hb hby d3_5) rfl ((if0 _ _).trans (teq (show p3 = (0 : Int32) from hp3)).2) (XS.aloadN X1.here hx rfl (hb hby d3_8) rfl rfl k)))) ?_
  obtain ⟨sl2, T2, h2, kk2, sb2, kb2, X2, e2, E2, hS, hk, hZ, hown, E_sl2, F_coder_sl2, F_value_sl2, V_sb2, -, -, hC, -, hne2, st2⟩ := ldcCH X1 hx hZ hown (hwi hw 19 rfl) (own_wS hw) e1 hS hk (own_EW hw) (by decide) CR.1 (z := (Int32.ofNat own_lit0.length)) own_lit0_t (by decide) (by decide) (g := (mkF m 9 #[.val (.ref a0), .val (.ref a1), .val (.int p2), .val (.int p3), .val .null, .unset] [(.ref a0)])) rfl (hb hby d3_9) (n := 0) (by decide) (by decide) (by decide) (by decide)
  have sf_a0 := hC.safe E_a0.lt sf_a0
  have ne_a0_sl2 := (hne2 _ sf_a0).1
  have ne_a0_sb2 := (hne2 _ sf_a0).2
  have CR := CR.trans hC
  have E_a0 := E_a0.ext E2
  have F_value_a0 := F_value_a0.ext E2
  have F_coder_a0 := F_coder_a0.ext E2
  have OL := OL.ext E2
  have Zn := Nat.le_trans Zn E2.1
  have Kp := Kp.ext E2
  refine Run.st (S' := T2.setTop (mkF m 11 #[.val (.ref a0), .val (.ref a1), .val (.int p2), .val (.int p3), .val .null, .unset] [(.ref sl2), (.ref a0)])) (fun _ k => st2 _ k) ?_
  obtain ⟨T3, X3, e3, st3⟩ := getF X2 hx hZ hown (host := "") (Or.inl (hwi hw 25 rfl)) Via.refl e2 F_value_sl2 (g := (mkF m 11 #[.val (.ref a0), .val (.ref a1), .val (.int p2), .val (.int p3), .val .null, .unset] [(.ref sl2), (.ref a0)])) rfl rfl (hb hby d3_11)
  refine Run.st (S' := T3.setTop (mkF m 14 #[.val (.ref a0), .val (.ref a1), .val (.int p2), .val (.int p3), .val .null, .unset] [(.ref sb2), (.ref a0)])) (fun _ k => st3 _ k) ?_
  have sfw := sf_a0
  obtain ⟨T4, h4, X4, e4, W4, st4⟩ := putF X3 hx hZ hown (host := "") (Or.inl (hwi hw 25 rfl)) Via.refl e3 F_value_a0 E_a0 (Or.inr ⟨(hwi hw 21 rfl), rfl, hnm⟩) (hwi hw 7 rfl) (ty := (.array .byte)) (by decide) rfl rfl (g := (mkF m 14 #[.val (.ref a0), .val (.ref a1), .val (.int p2), .val (.int p3), .val .null, .unset] [(.ref sb2), (.ref a0)])) rfl rfl (hb hby d3_14)
  have F_value_a0 := F_value_a0.same W4
  have OL := OL.wr W4 g_a0
  have sf_a0 := Safe.wr W4 sfw CR.1 sf_a0
  have CR := CR.trans (CHr.wr W4 sfw CR.1)
  have E_a0 := E_a0.wr W4
  have F_coder_a0 := F_coder_a0.other W4 (Or.inr (slot_ne (Or.inr (hwi hw 22 rfl)) (Or.inr (hwi hw 21 rfl)) (by decide) (t := .byte) (t' := (.array .byte)) (by decide) (by decide)))
  have E_sl2 := E_sl2.wr W4
  have F_coder_sl2 := F_coder_sl2.other W4 (Or.inl (Ne.symm ne_a0_sl2))
  have F_value_sl2 := F_value_sl2.other W4 (Or.inl (Ne.symm ne_a0_sl2))
  have V_sb2 := V_sb2.other W4 (Ne.symm ne_a0_sb2)
  have N4 := Fr.snoc X4 N0 g_a0
  have Kp := Kp.wr W4 (Or.inl (by simp))
  have Zn := Nat.le_trans Zn (Nat.le_of_eq W4.size.symm)
  have hk := Nat.le_trans hk (Nat.le_of_eq W4.size.symm)
  refine Run.st (S' := T4.setTop (mkF m 18 #[.val (.ref a0), .val (.ref a1), .val (.int p2), .val (.int p3), .val .null, .unset] [(.ref a0)])) (fun _ k => st4 _ (XS.aloadN X4.here hx rfl (hb hby d3_17) rfl rfl k)) ?_
  obtain ⟨sl5, T5, h5, kk5, sb5, kb5, X5, e5, E5, hS, hk, hZ, hown, E_sl5, F_coder_sl5, F_value_sl5, V_sb5, -, -, hC, -, hne5, st5⟩ := ldcCH X4 hx hZ hown (hwi hw 19 rfl) (own_wS hw) e4 hS hk (own_EW hw) (by decide) CR.1 (z := (Int32.ofNat own_lit0.length)) own_lit0_t (by decide) (by decide) (g := (mkF m 18 #[.val (.ref a0), .val (.ref a1), .val (.int p2), .val (.int p3), .val .null, .unset] [(.ref a0)])) rfl (hb hby d3_18) (n := 0) (by decide) (by decide) (by decide) (by decide)
  have sf_a0 := hC.safe E_a0.lt sf_a0
  have ne_a0_sl5 := (hne5 _ sf_a0).1
  have ne_a0_sb5 := (hne5 _ sf_a0).2
  have CR := CR.trans hC
  have E_a0 := E_a0.ext E5
  have F_value_a0 := F_value_a0.ext E5
  have F_coder_a0 := F_coder_a0.ext E5
  have E_sl2 := E_sl2.ext E5
  have F_coder_sl2 := F_coder_sl2.ext E5
  have F_value_sl2 := F_value_sl2.ext E5
  have V_sb2 := V_sb2.ext E5
  have OL := OL.ext E5
  have Zn := Nat.le_trans Zn E5.1
  have Kp := Kp.ext E5
  refine Run.st (S' := T5.setTop (mkF m 20 #[.val (.ref a0), .val (.ref a1), .val (.int p2), .val (.int p3), .val .null, .unset] [(.ref sl5), (.ref a0)])) (fun _ k => st5 _ k) ?_
  obtain ⟨T6, X6, e6, st6⟩ := getF X5 hx hZ hown (host := "") (Or.inl (hwi hw 26 rfl)) Via.refl e5 F_coder_sl5 (g := (mkF m 20 #[.val (.ref a0), .val (.ref a1), .val (.int p2), .val (.int p3), .val .null, .unset] [(.ref sl5), (.ref a0)])) rfl rfl (hb hby d3_20)
  refine Run.st (S' := T6.setTop (mkF m 23 #[.val (.ref a0), .val (.ref a1), .val (.int p2), .val (.int p3), .val .null, .unset] [(.int (0 : Int32)), (.ref a0)])) (fun _ k => st6 _ k) ?_
  have sfw := sf_a0
  obtain ⟨T7, h7, X7, e7, W7, st7⟩ := putFN X6 hx hZ hown (hwi hw 26 rfl) Via.refl e6 F_coder_a0 E_a0 (Or.inr ⟨(hwi hw 22 rfl), rfl, hnm⟩) (hwi hw 7 rfl) (ty := .byte) (v' := (.int (0 : Int32))) (by decide) (by rfl) (by rfl) (g := (mkF m 23 #[.val (.ref a0), .val (.ref a1), .val (.int p2), .val (.int p3), .val .null, .unset] [(.int (0 : Int32)), (.ref a0)])) rfl rfl (hb hby d3_23)
  have F_coder_a0 := F_coder_a0.same W7
  have OL := OL.wr W7 g_a0
  have sf_a0 := Safe.wr W7 sfw CR.1 sf_a0
  have CR := CR.trans (CHr.wr W7 sfw CR.1)
  have E_a0 := E_a0.wr W7
  have F_value_a0 := F_value_a0.other W7 (Or.inr (slot_ne (Or.inr (hwi hw 21 rfl)) (Or.inr (hwi hw 22 rfl)) (by decide) (t := (.array .byte)) (t' := .byte) (by decide) (by decide)))
  have E_sl2 := E_sl2.wr W7
  have F_coder_sl2 := F_coder_sl2.other W7 (Or.inl (Ne.symm ne_a0_sl2))
  have F_value_sl2 := F_value_sl2.other W7 (Or.inl (Ne.symm ne_a0_sl2))
  have V_sb2 := V_sb2.other W7 (Ne.symm ne_a0_sb2)
  have E_sl5 := E_sl5.wr W7
  have F_coder_sl5 := F_coder_sl5.other W7 (Or.inl (Ne.symm ne_a0_sl5))
  have F_value_sl5 := F_value_sl5.other W7 (Or.inl (Ne.symm ne_a0_sl5))
  have V_sb5 := V_sb5.other W7 (Ne.symm ne_a0_sb5)
  have N7 := Fr.snoc X7 N4 g_a0
  have Kp := Kp.wr W7 (Or.inl (by simp))
  have Zn := Nat.le_trans Zn (Nat.le_of_eq W7.size.symm)
  have hk := Nat.le_trans hk (Nat.le_of_eq W7.size.symm)
  refine Run.st (S' := T7.setTop (mkF m 26 #[.val (.ref a0), .val (.ref a1), .val (.int p2), .val (.int p3), .val .null, .unset] [])) (fun _ k => st7 _ k) ?_
  refine Run.outVW X7 hx hS (by rw [e7]; exact hk) (by rw [hh, e7]; exact CR.trans (CHv.at X7 hZ (own_EW hw) CR.1)) Bd.notSynchronized Bd.returns (hb hby d3_26) (by decide) (by decide) ?_
  rw [e7]
  exact ⟨rfl, N7, Kp, E_a0, F_coder_a0, sb2, kb2, F_value_a0, V_sb2⟩
theorem ef_Ini1 (m : MethodId) (a0 : Addr) (a1 : Addr) : entryFrame m #[(.ref a0), (.ref a1)] 2 = mkF m 0 #[.val (.ref a0), .val (.ref a1)] [] := by first | (simp [entryFrame, mkF, argsToLocals, Value.category]; done) | rfl
def QIni1 (Z : State) (a0 : Addr) (a1 : Addr) (kc : ClassId) (cc : List Int32) (lc : Int32) (h0 : Heap) (n0 : Nat) (v : Option Value) (h : Heap) (L : List Loc) : Prop := own_QS Z a0 [] h0 n0 v h L
set_option maxRecDepth 65536 in
set_option maxHeartbeats 40000000 in
theorem rmIni1 (l : Launch) (Z : State) (aV : Array Value) (hw : ∀ d ∈ tables_1, d.before aV Z = true) (ws : List Jvm.Cond) (a0 : Addr) (a1 : Addr) (kc : ClassId) (cc : List Int32) (lc : Int32) (h0 : Heap) (n0 : Nat) (Zn : n0 ≤ h0.size) (OL : Old Z n0 h0) (g_a0 : n0 ≤ a0) (hlc : lc = (0 : Int32)) (ne_a0__a1 : a0 ≠ a1) (E_a0 : Exa Z h0 a0 "java/lang/String") (F_value_a0 : Fld Z h0 a0 "java/lang/String" "value" "[B" .null) (F_coder_a0 : Fld Z h0 a0 "java/lang/String" "coder" "B" (.int (0 : Int32))) (V_a1 : Arv Z h0 a1 kc .char lc (cc.map Value.int) (.int (0 : Int32))) :
    MetFree l (⟨"java/lang/String", "<init>", "([C)V"⟩ : MethodName) (head1 (Jvm.Cond.code (⟨"java/lang/String", "<init>", "([C)V"⟩ : MethodName) jdk_42_method_3_code 2 none :: ws) ({ frames := 2, cells := 4, slots := 8, locals := 29 } : Room)) (fun a U => a = #[(.ref a0), (.ref a1)] ∧ Z.Warmed39 U.vm ∧ U.heap = h0 ∧ CHv Z consts_1 U.vm h0) (fun _ _ _ _ _ => True) (fun _ U o U' => ∃ v L, o = .returned v ∧ QIni1 Z a0 a1 kc cc lc h0 n0 v U'.heap L ∧ CHr Z consts_1 U.vm U.heap U'.vm U'.heap ∧ ReturnedEndW U o U' L ({ frames := 2, cells := 4, slots := 8, locals := 29 } : Room).cells ({ frames := 2, cells := 4, slots := 8, locals := 29 } : Room).slots) := by
  refine MetFree.of_bodySF (plainFor_of_name pn_2) hisR ?_
  intro p e s m args below meth c s₁ Bd hml0 hP hK
  obtain ⟨rfl, hZ, hh, CH0⟩ := hP
  have hx := Bd.exec
  have hby := Bd.bytes
  have hml : c.maxLocals = 2 := hml0
  have hown : s.vm.findClass "java/lang/String" = some m.cls := findClass_of_methodNamed Bd.named
  have hnm := (name_of_methodNamed Bd.named Bd.method).1
  have X0 : Stand p l e ({ frames := 2, cells := 4, slots := 8, locals := 29 } : Room) s m #[(.ref a0), (.ref a1)] below meth c s₁ [] 0 0 := Stand.of_body Bd
  have e0 : s₁.heap = h0 := by rw [← hh, Bd.state]; rfl
  have N0 := Fr.nil n0
  have Kp := Keep.refl h0 [a0]
  have X0 : Stand p l e ({ frames := 2, cells := 4, slots := 8, locals := 29 } : Room) (s.setVm s.vm) m #[(.ref a0), (.ref a1)] below meth c s₁ [] 0 0 := X0
  have hS : s.Since s.vm 0 := (State.WarmedH.refl s).since 0
  have hk : 0 ≤ h0.size := Nat.zero_le _
  have CR := CHr.refl CH0
  have hZ : Z.Warmed39 (s.setVm s.vm).vm := hZ
  have hown : (s.setVm s.vm).vm.findClass "java/lang/String" = some m.cls := hown
  show Run p e below (EndsW Z s (QIni1 Z a0 a1 kc cc lc h0 n0) ({ frames := 2, cells := 4, slots := 8, locals := 29 } : Room).cells ({ frames := 2, cells := 4, slots := 8, locals := 29 } : Room).slots) _
  refine Run.st (S' := s₁.setTop (mkF m 0 #[.val (.ref a0), .val (.ref a1)] [])) (fun t k => castTop (ef_Ini1 m a0 a1) k) ?_
  refine Run.st (S' := s₁.setTop (mkF m 4 #[.val (.ref a0), .val (.ref a1)] [(.ref a1), (.int (0 : Int32)), (.ref a1), (.ref a0)])) (fun _ k => XS.aloadN X0.here hx rfl (hb hby d2_0) rfl rfl (XS.aloadN X0.here hx rfl (hb hby d2_1) rfl rfl (XS.iconst X0.here hx rfl (hb hby d2_2) (XS.aloadN X0.here hx rfl (hb hby d2_3) rfl rfl k)))) ?_
  obtain ⟨cl1, Ar1, -, Sa1, Na1, -, -⟩ := id V_a1
  refine Run.st (S' := s₁.setTop (mkF m 5 #[.val (.ref a0), .val (.ref a1)] [(.int lc), (.int (0 : Int32)), (.ref a1), (.ref a0)])) (fun _ k => X0.arraylength hx (by rw [e0]; exact Ar1.1) (State.isArrayOf_alike hZ.alike Ar1.2.1) (g := (mkF m 4 #[.val (.ref a0), .val (.ref a1)] [(.ref a1), (.int (0 : Int32)), (.ref a1), (.ref a0)])) rfl rfl (hb hby d2_4) _ (by rw [len_of Sa1 Na1]; exact k)) ?_
  refine Run.st (S' := s₁.setTop (mkF m 6 #[.val (.ref a0), .val (.ref a1)] [.null, (.int lc), (.int (0 : Int32)), (.ref a1), (.ref a0)])) (fun _ k => XS.aconstNull X0.here hx rfl (hb hby d2_5) k) ?_
  obtain ⟨_, _, ⟨T2, L2, k2, n2⟩, -, X2, S2, gr2, ⟨Lc2, hQ2, l2, y2, z2, hC⟩, st2⟩ := X0.specialBackS hx (y := (⟨"java/lang/String", "<init>", "([CIILjava/lang/Void;)V"⟩ : MethodName)) rfl hown (mvT hZ (hwi hw 12 rfl)) (mvT hZ (hwi hw 13 rfl)) (mvT hZ (hwi hw 15 rfl)) (by decide) (backOfSH (s := s) (vm0 := s.vm) (W := 0) (rmIni4 l Z aV hw [] a0 a1 (0 : Int32) lc h0 n0 Zn OL g_a0 hlc E_a0 F_value_a0 F_coder_a0) hZ (hwi hw 15 rfl) (hwi hw 8 rfl) (by decide) (by decide) (own_EW hw) CR.1) (g := (mkF m 6 #[.val (.ref a0), .val (.ref a1)] [.null, (.int lc), (.int (0 : Int32)), (.ref a1), (.ref a0)])) rfl (by rw [hml]; rfl) (Steps.refl _) (a := a0) (argsL := [(.ref a1), (.int (0 : Int32)), (.int lc), .null]) (rest := []) (lenOf pd_13 rfl) rfl (by show 2 * 0 + _ ≤ _; exact Nat.le_of_eq rfl) (hb hby d2_6) (fun _ _ => ⟨rfl, e0, (by decide : 0 + 4 ≤ _), (by decide : 0 + 8 ≤ _)⟩)
  dsimp only [Pt.U, Pt.locs, Pt.cells, Pt.slots] at X2 l2 y2 z2 st2 hQ2 S2 gr2 hC
  have hZ := State.Warmed39.trans hZ S2.1
  have hown : (s.setVm T2.vm).vm.findClass "java/lang/String" = some m.cls := by rw [show (s.setVm T2.vm).vm = T2.vm from rfl, S2.1.alike.findClass]; exact hown
  have hS := foldS hS (by rw [e0]; exact hk) S2 gr2
  have hk : T2.heap.size ≤ T2.heap.size := Nat.le_refl _
  have X2 : Stand p l e _ (s.setVm T2.vm) m _ below meth c T2 _ _ _ := X2
  have CR := CR.trans hC
  replace l2 := l2.symm; replace y2 := y2.symm; replace z2 := z2.symm; subst l2 y2 z2
  obtain ⟨rfl, N2q, K2, qE, qC, t2, kt2, qV, qK⟩ := hQ2
  have OL := OL.keep K2 (allS g_a0 all0)
  have V_a1 := V_a1.keep K2 (ninS (Ne.symm ne_a0__a1) nin0)
  have E_a0 := qE
  have F_coder_a0 := qC
  have F_value_a0 := qV
  have V_t2 := qK
  have Kp := Kp.trans K2 (allS (Or.inl (by simp)) all0)
  have Zn := Nat.le_trans Zn K2.1
  have N2 := Fr.app N0 N2q
  refine Run.st (S' := T2.setTop (mkF m 9 #[.val (.ref a0), .val (.ref a1)] [])) (fun _ k => st2.trans k) ?_
  refine Run.outVW X2 hx hS hk (by rw [hh]; exact CR.trans (CHv.at X2 hZ (own_EW hw) CR.1)) Bd.notSynchronized Bd.returns (hb hby d2_9) (by decide) (by decide) ?_
  exact ⟨rfl, N2, Kp, E_a0, F_coder_a0, t2, kt2, F_value_a0, V_t2⟩
theorem own_i8 {iv : Int32} {fu : Nat} (h0 : 0 ≤ iv.toInt) (h : iv.toInt + ((fu + 1 : Nat) : Int) = 8) : (iv + (1 : Int32)).toInt + (fu : Int) = 8 ∧ 0 ≤ (iv + (1 : Int32)).toInt ∧ (iv + (1 : Int32)).toNatClampNeg = iv.toNatClampNeg + 1 := by
  have e2 := c_iadd iv (1 : Int32)
  have r2 := rng32 (iv + (1 : Int32))
  have e3 : (1 : Int32).toInt = 1 := by decide
  simp only [Int32.toNatClampNeg]
  omega
theorem own_l8 {iv : Int32} {fu : Nat} (h : iv.toInt + ((fu + 1 : Nat) : Int) = 8) : iv < (8 : Int32) := by
  rw [Int32.lt_iff_toInt_lt, show (8 : Int32).toInt = 8 from by decide]
  omega
theorem own_n8l {iv : Int32} (h : iv.toInt + ((0 : Nat) : Int) = 8) : ¬ iv < (8 : Int32) := by
  rw [Int32.lt_iff_toInt_lt, show (8 : Int32).toInt = 8 from by decide]
  omega
theorem own_bk {cs : List Int32} {j j1 : Nat} {wd cv w2 : Int32} {kv k2 : Int64} (hw : wd = own_w cs j) (hc : cv = cs.getD j 0) (h2 : w2 = (wd ||| (if (255 : Int32) < cv then (1 : Int32) else (0 : Int32)))) (hk : kv = own_k cs j) (hk2 : k2 = ((kv <<< ((8 : Int32) &&& 0x3f).toInt64) ||| (if w2 = (0 : Int32) then cv else (255 : Int32)).toInt64)) (e : j1 = j + 1) : w2 = own_w cs j1 ∧ k2 = own_k cs j1 := by
  subst e
  have hw2 : w2 = own_w cs (j + 1) := by rw [h2, hw, hc]; rfl
  exact ⟨hw2, by rw [hk2, hk, hw2, hc]; rfl⟩
theorem own_e8 {iv : Int32} (h0 : 0 ≤ iv.toInt) (h : iv.toInt + ((0 : Nat) : Int) = 8) : iv.toNatClampNeg = 8 := by
  simp only [Int32.toNatClampNeg]
  omega
theorem pd_14 : parseMethodDescriptor "()I" = some ⟨[], some .int⟩ := by decide +kernel
theorem pd_15 : parseMethodDescriptor "(I)C" = some ⟨[.int], some .char⟩ := by decide +kernel
theorem d5_0 : decode prog_17_method_2_code 0 = .ok (.lconst 0, 1) := by decide +kernel
theorem d5_1 : decode prog_17_method_2_code 1 = .ok (.lstore_n 1, 1) := by decide +kernel
theorem d5_2 : decode prog_17_method_2_code 2 = .ok (.iconst 0, 1) := by decide +kernel
theorem d5_3 : decode prog_17_method_2_code 3 = .ok (.istore_n 3, 1) := by decide +kernel
theorem d5_4 : decode prog_17_method_2_code 4 = .ok (.iconst 0, 1) := by decide +kernel
theorem d5_5 : decode prog_17_method_2_code 5 = .ok (.istore 4, 2) := by decide +kernel
theorem d5_7 : decode prog_17_method_2_code 7 = .ok (.iload 4, 2) := by decide +kernel
theorem d5_9 : decode prog_17_method_2_code 9 = .ok (.bipush 8, 2) := by decide +kernel
theorem d5_11 : decode prog_17_method_2_code 11 = .ok (.if_icmp .ge 65, 3) := by decide +kernel
theorem d5_14 : decode prog_17_method_2_code 14 = .ok (.iload 4, 2) := by decide +kernel
theorem d5_16 : decode prog_17_method_2_code 16 = .ok (.aload_n 0, 1) := by decide +kernel
theorem d5_17 : decode prog_17_method_2_code 17 = .ok (.invokevirtual 9, 3) := by decide +kernel
theorem d5_20 : decode prog_17_method_2_code 20 = .ok (.if_icmp .ge 12, 3) := by decide +kernel
theorem d5_23 : decode prog_17_method_2_code 23 = .ok (.aload_n 0, 1) := by decide +kernel
theorem d5_24 : decode prog_17_method_2_code 24 = .ok (.iload 4, 2) := by decide +kernel
theorem d5_26 : decode prog_17_method_2_code 26 = .ok (.invokevirtual 15, 3) := by decide +kernel
theorem d5_29 : decode prog_17_method_2_code 29 = .ok (.goto 4, 3) := by decide +kernel
theorem d5_32 : decode prog_17_method_2_code 32 = .ok (.iconst 0, 1) := by decide +kernel
theorem d5_33 : decode prog_17_method_2_code 33 = .ok (.istore 5, 2) := by decide +kernel
theorem d5_35 : decode prog_17_method_2_code 35 = .ok (.iload_n 3, 1) := by decide +kernel
theorem d5_36 : decode prog_17_method_2_code 36 = .ok (.iload 5, 2) := by decide +kernel
theorem d5_38 : decode prog_17_method_2_code 38 = .ok (.sipush 255, 3) := by decide +kernel
theorem d5_41 : decode prog_17_method_2_code 41 = .ok (.if_icmp .le 7, 3) := by decide +kernel
theorem d5_44 : decode prog_17_method_2_code 44 = .ok (.iconst 1, 1) := by decide +kernel
theorem d5_45 : decode prog_17_method_2_code 45 = .ok (.goto 4, 3) := by decide +kernel
theorem d5_48 : decode prog_17_method_2_code 48 = .ok (.iconst 0, 1) := by decide +kernel
theorem d5_49 : decode prog_17_method_2_code 49 = .ok (.ior, 1) := by decide +kernel
theorem d5_50 : decode prog_17_method_2_code 50 = .ok (.istore_n 3, 1) := by decide +kernel
theorem d5_51 : decode prog_17_method_2_code 51 = .ok (.lload_n 1, 1) := by decide +kernel
theorem d5_52 : decode prog_17_method_2_code 52 = .ok (.bipush 8, 2) := by decide +kernel
theorem d5_54 : decode prog_17_method_2_code 54 = .ok (.lshl, 1) := by decide +kernel
theorem d5_55 : decode prog_17_method_2_code 55 = .ok (.iload_n 3, 1) := by decide +kernel
theorem d5_56 : decode prog_17_method_2_code 56 = .ok (.ifCond .eq 9, 3) := by decide +kernel
theorem d5_59 : decode prog_17_method_2_code 59 = .ok (.sipush 255, 3) := by decide +kernel
theorem d5_62 : decode prog_17_method_2_code 62 = .ok (.goto 5, 3) := by decide +kernel
theorem d5_65 : decode prog_17_method_2_code 65 = .ok (.iload 5, 2) := by decide +kernel
theorem d5_67 : decode prog_17_method_2_code 67 = .ok (.i2l, 1) := by decide +kernel
theorem d5_68 : decode prog_17_method_2_code 68 = .ok (.lor, 1) := by decide +kernel
theorem d5_69 : decode prog_17_method_2_code 69 = .ok (.lstore_n 1, 1) := by decide +kernel
theorem d5_70 : decode prog_17_method_2_code 70 = .ok (.iinc 4 1, 3) := by decide +kernel
theorem d5_73 : decode prog_17_method_2_code 73 = .ok (.goto (-66), 3) := by decide +kernel
theorem d5_76 : decode prog_17_method_2_code 76 = .ok (.lload_n 1, 1) := by decide +kernel
theorem d5_77 : decode prog_17_method_2_code 77 = .ok (.lreturn, 1) := by decide +kernel
theorem pn_3 : plainName "org/succession/Names" = true := by first | (simp [plainName, overriddenIn]; done) | decide +kernel
theorem ef_KeyL (m : MethodId) (a0 : Addr) : entryFrame m #[(.ref a0)] 6 = mkF m 0 #[.val (.ref a0), .unset, .unset, .unset, .unset, .unset] [] := by first | (simp [entryFrame, mkF, argsToLocals, Value.category]; done) | rfl
def QKeyL (Z : State) (a0 : Addr) (t0 : Addr) (kb : ClassId) (cs : List Int32) (fm : Value) (zc : Int32) (h0 : Heap) (n0 : Nat) (v : Option Value) (h : Heap) (L : List Loc) : Prop := v = some (.long (own_k cs 8)) ∧ Fr n0 L ∧ Keep h0 h []
set_option maxRecDepth 65536 in
set_option maxHeartbeats 40000000 in
theorem rmKeyL (l : Launch) (Z : State) (aV : Array Value) (hw : ∀ d ∈ tables_1, d.before aV Z = true) (ws : List Jvm.Cond) (a0 : Addr) (t0 : Addr) (kb : ClassId) (cs : List Int32) (fm : Value) (zc : Int32) (h0 : Heap) (n0 : Nat) (Zn : n0 ≤ h0.size) (OL : Old Z n0 h0) (hzc : ¬ zc = 0) (rfm : fm.isRef = true) (hL : own_L1 cs) (E_a0 : Exa Z h0 a0 "java/lang/String") (F_coder_a0 : Fld Z h0 a0 "java/lang/String" "coder" "B" (.int (0 : Int32))) (F_value_a0 : Fld Z h0 a0 "java/lang/String" "value" "[B" (.ref t0)) (V_t0 : Arv Z h0 t0 kb .byte (Int32.ofNat cs.length) ((own_bs cs).map Value.int) (.int (0 : Int32))) (S_sf : Sta Z Z.heap "jdk/internal/util/Preconditions" "SIOOBE_FORMATTER" "Ljava/util/function/BiFunction;" fm) (S_cs : Sta Z Z.heap "java/lang/String" "COMPACT_STRINGS" "Z" (.int zc)) :
    MetFree l (⟨"org/succession/Names", "key", "(Ljava/lang/String;)J"⟩ : MethodName) (head1 (Jvm.Cond.code (⟨"org/succession/Names", "key", "(Ljava/lang/String;)J"⟩ : MethodName) prog_17_method_2_code 6 (some .long) :: ws) ({ frames := 5, cells := 0, slots := 0, locals := 66 } : Room)) (fun a U => a = #[(.ref a0)] ∧ Z.Warmed39 U.vm ∧ U.heap = h0) (fun _ _ _ _ _ => True) (fun _ U o U' => ∃ v L, o = .returned v ∧ QKeyL Z a0 t0 kb cs fm zc h0 n0 v U'.heap L ∧ FrameEnd U o U' L ({ frames := 5, cells := 0, slots := 0, locals := 66 } : Room).cells ({ frames := 5, cells := 0, slots := 0, locals := 66 } : Room).slots) := by
  refine MetFree.of_bodySF (plainFor_of_name pn_3) hisR ?_
  intro p e s m args below meth c s₁ Bd hml0 hP hK
  obtain ⟨rfl, hZ, hh⟩ := hP
  have hx := Bd.exec
  have hby := Bd.bytes
  have hml : c.maxLocals = 6 := hml0
  have hown : s.vm.findClass "org/succession/Names" = some m.cls := findClass_of_methodNamed Bd.named
  have hnm := (name_of_methodNamed Bd.named Bd.method).1
  have X0 : Stand p l e ({ frames := 5, cells := 0, slots := 0, locals := 66 } : Room) s m #[(.ref a0)] below meth c s₁ [] 0 0 := Stand.of_body Bd
  have e0 : s₁.heap = h0 := by rw [← hh, Bd.state]; rfl
  have N0 := Fr.nil n0
  have Kp := Keep.refl h0 []
  show Run p e below (Ends s (QKeyL Z a0 t0 kb cs fm zc h0 n0) ({ frames := 5, cells := 0, slots := 0, locals := 66 } : Room).cells ({ frames := 5, cells := 0, slots := 0, locals := 66 } : Room).slots) _
  refine Run.st (S' := s₁.setTop (mkF m 0 #[.val (.ref a0), .unset, .unset, .unset, .unset, .unset] [])) (fun t k => castTop (ef_KeyL m a0) k) ?_
  refine Run.st (S' := s₁.setTop (mkF m 7 #[.val (.ref a0), .val (.long (0 : Int64)), .second, .val (.int (0 : Int32)), .val (.int (0 : Int32)), .unset] [])) (fun _ k => XS.lconst X0.here hx rfl (hb hby d5_0) (XS.lstoreN X0.here hx rfl (hb hby d5_1) rfl (l' := #[.val (.ref a0), .val (.long (0 : Int64)), .second, .unset, .unset, .unset]) rfl (XS.iconst X0.here hx rfl (hb hby d5_2) (XS.istoreN X0.here hx rfl (hb hby d5_3) rfl (l' := #[.val (.ref a0), .val (.long (0 : Int64)), .second, .val (.int (0 : Int32)), .unset, .unset]) rfl (XS.iconst X0.here hx rfl (hb hby d5_4) (XS.istore X0.here hx rfl (hb hby d5_5) rfl (l' := #[.val (.ref a0), .val (.long (0 : Int64)), .second, .val (.int (0 : Int32)), .val (.int (0 : Int32)), .unset]) rfl k)))))) ?_
  have LP1 : ∀ (fu : Nat) (iv : Int32) (wd : Int32) (kv : Int64) (x5 : Slot) (Tl1 : State) (Hl1 : Heap) (gl : Good p l e ({ frames := 5, cells := 0, slots := 0, locals := 66 } : Room) s m #[(.ref a0)] below meth c n0 0 0 Hl1 Tl1) (Zn : n0 ≤ Hl1.size) (Kp : Keep h0 Hl1 []) (OL : Old Z n0 Hl1) (E_a0 : Exa Z Hl1 a0 "java/lang/String") (F_coder_a0 : Fld Z Hl1 a0 "java/lang/String" "coder" "B" (.int (0 : Int32))) (F_value_a0 : Fld Z Hl1 a0 "java/lang/String" "value" "[B" (.ref t0)) (V_t0 : Arv Z Hl1 t0 kb .byte (Int32.ofNat cs.length) ((own_bs cs).map Value.int) (.int (0 : Int32))), (iv.toInt + (fu : Int) = 8 ∧ 0 ≤ iv.toInt ∧ wd = own_w cs iv.toNatClampNeg ∧ kv = own_k cs iv.toNatClampNeg ∧ own_pl x5) → Run p e below (Ends s (QKeyL Z a0 t0 kb cs fm zc h0 n0) ({ frames := 5, cells := 0, slots := 0, locals := 66 } : Room).cells ({ frames := 5, cells := 0, slots := 0, locals := 66 } : Room).slots) (Tl1.setTop (mkF m 7 #[.val (.ref a0), .val (.long kv), .second, .val (.int wd), .val (.int iv), x5] [])) := by
    intro fu
    induction fu with
    | zero =>
      intro iv wd kv x5 Tl1 Hl1 gl Zn Kp OL E_a0 F_coder_a0 F_value_a0 V_t0 hyl
      obtain ⟨lcs1, Xl1, Nl1, El1⟩ := gl
      refine Run.st (S' := Tl1.setTop (mkF m 77 #[.val (.ref a0), .val (.long kv), .second, .val (.int wd), .val (.int iv), x5] [(.long kv)])) (fun _ k => XS.iload Xl1.here hx rfl (hb hby d5_7) rfl (XS.bipush Xl1.here hx rfl (hb hby d5_9) (XS.icmpYes Xl1.here hx rfl (pc0 := 11) (pc' := 76) rfl (hb hby d5_11) rfl (flt (show ¬ (iv < (8 : Int32)) from (own_n8l hyl.1))).2.1 (by decide) (by decide) (XS.lloadN Xl1.here hx rfl (hb hby d5_76) rfl k)))) ?_
      refine Run.out Xl1 hx Bd.notSynchronized Bd.returns rfl (Or.inr (Or.inl ⟨rfl, rfl, _, rfl⟩)) (hb hby d5_77) (by decide) (by decide) ?_
      rw [El1]
      exact ⟨by rw [hyl.2.2.2.1, own_e8 hyl.2.1 hyl.1], Nl1, Kp⟩
    | succ fu ih =>
      intro iv wd kv x5 Tl1 Hl1 gl Zn Kp OL E_a0 F_coder_a0 F_value_a0 V_t0 hyl
      obtain ⟨lcs1, Xl1, Nl1, El1⟩ := gl
      refine Run.st (S' := Tl1.setTop (mkF m 14 #[.val (.ref a0), .val (.long kv), .second, .val (.int wd), .val (.int iv), x5] [])) (fun _ k => XS.iload Xl1.here hx rfl (hb hby d5_7) rfl (XS.bipush Xl1.here hx rfl (hb hby d5_9) (XS.icmpNo Xl1.here hx rfl (hb hby d5_11) rfl (tlt (show iv < (8 : Int32) from (own_l8 hyl.1))).2.1 k))) ?_
      have JH2 : ∀ (cv : Int32) (Tl2 : State) (Hl2 : Heap) (gl : Good p l e ({ frames := 5, cells := 0, slots := 0, locals := 66 } : Room) s m #[(.ref a0)] below meth c n0 0 0 Hl2 Tl2) (Zn : n0 ≤ Hl2.size) (Kp : Keep h0 Hl2 []) (OL : Old Z n0 Hl2) (E_a0 : Exa Z Hl2 a0 "java/lang/String") (F_coder_a0 : Fld Z Hl2 a0 "java/lang/String" "coder" "B" (.int (0 : Int32))) (F_value_a0 : Fld Z Hl2 a0 "java/lang/String" "value" "[B" (.ref t0)) (V_t0 : Arv Z Hl2 t0 kb .byte (Int32.ofNat cs.length) ((own_bs cs).map Value.int) (.int (0 : Int32))), cv = cs.getD iv.toNatClampNeg 0 → Run p e below (Ends s (QKeyL Z a0 t0 kb cs fm zc h0 n0) ({ frames := 5, cells := 0, slots := 0, locals := 66 } : Room).cells ({ frames := 5, cells := 0, slots := 0, locals := 66 } : Room).slots) (Tl2.setTop (mkF m 35 #[.val (.ref a0), .val (.long kv), .second, .val (.int wd), .val (.int iv), .val (.int cv)] [])) := by
        intro cv Tl2 Hl2 gl Zn Kp OL E_a0 F_coder_a0 F_value_a0 V_t0 hyJ
        obtain ⟨lcs2, Xl2, Nl2, El2⟩ := gl
        have J51_3 : ∀ (w2 : Int32), w2 = (wd ||| (if (255 : Int32) < cv then (1 : Int32) else (0 : Int32))) → Run p e below (Ends s (QKeyL Z a0 t0 kb cs fm zc h0 n0) ({ frames := 5, cells := 0, slots := 0, locals := 66 } : Room).cells ({ frames := 5, cells := 0, slots := 0, locals := 66 } : Room).slots) (Tl2.setTop (mkF m 51 #[.val (.ref a0), .val (.long kv), .second, .val (.int w2), .val (.int iv), .val (.int cv)] [])) := by
          intro w2 h_w2
          have J70_4 : ∀ (k2 : Int64), k2 = ((kv <<< ((8 : Int32) &&& 0x3f).toInt64) ||| (if w2 = (0 : Int32) then cv else (255 : Int32)).toInt64) → Run p e below (Ends s (QKeyL Z a0 t0 kb cs fm zc h0 n0) ({ frames := 5, cells := 0, slots := 0, locals := 66 } : Room).cells ({ frames := 5, cells := 0, slots := 0, locals := 66 } : Room).slots) (Tl2.setTop (mkF m 70 #[.val (.ref a0), .val (.long k2), .second, .val (.int w2), .val (.int iv), .val (.int cv)] [])) := by
            intro k2 h_k2
            refine Run.st (S' := Tl2.setTop (mkF m 7 #[.val (.ref a0), .val (.long k2), .second, .val (.int w2), .val (.int (iv + (1 : Int32))), .val (.int cv)] [])) (fun _ k => XS.iinc Xl2.here hx rfl (hb hby d5_70) rfl (l' := #[.val (.ref a0), .val (.long k2), .second, .val (.int w2), .val (.int (iv + (1 : Int32))), .val (.int cv)]) rfl (XS.goto Xl2.here hx rfl (pc0 := 73) (pc' := 7) rfl (hb hby d5_73) (by decide) (by decide) k)) ?_
            exact ih (iv + (1 : Int32)) w2 k2 (.val (.int cv)) _ _ ⟨_, Xl2, Nl2, El2⟩ Zn Kp OL E_a0 F_coder_a0 F_value_a0 V_t0 ⟨(own_i8 hyl.2.1 hyl.1).1, (own_i8 hyl.2.1 hyl.1).2.1, (own_bk hyl.2.2.1 hyJ h_w2 hyl.2.2.2.1 h_k2 (own_i8 hyl.2.1 hyl.1).2.2).1, (own_bk hyl.2.2.1 hyJ h_w2 hyl.2.2.2.1 h_k2 (own_i8 hyl.2.1 hyl.1).2.2).2, rfl⟩
          refine Run.st (S' := Tl2.setTop (mkF m 56 #[.val (.ref a0), .val (.long kv), .second, .val (.int w2), .val (.int iv), .val (.int cv)] [(.int w2), (.long (kv <<< ((8 : Int32) &&& 0x3f).toInt64))])) (fun _ k => XS.lloadN Xl2.here hx rfl (hb hby d5_51) rfl (XS.bipush Xl2.here hx rfl (hb hby d5_52) (XS.lshl Xl2.here hx rfl (hb hby d5_54) rfl (XS.iloadN Xl2.here hx rfl (hb hby d5_55) rfl k)))) ?_
          by_cases hc56_5 : w2 = (0 : Int32)
          · refine Run.st (S' := Tl2.setTop (mkF m 70 #[.val (.ref a0), .val (.long ((kv <<< ((8 : Int32) &&& 0x3f).toInt64) ||| (cv.toInt64))), .second, .val (.int w2), .val (.int iv), .val (.int cv)] [])) (fun _ k => XS.ifYes Xl2.here hx rfl (pc0 := 56) (pc' := 65) rfl (hb hby d5_56) rfl ((if0 _ _).trans (teq hc56_5).1) (by decide) (by decide) (XS.iload Xl2.here hx rfl (hb hby d5_65) rfl (XS.i2l Xl2.here hx rfl (hb hby d5_67) rfl (XS.lor Xl2.here hx rfl (hb hby d5_68) rfl (XS.lstoreN Xl2.here hx rfl (hb hby d5_69) rfl (l' := #[.val (.ref a0), .val (.long ((kv <<< ((8 : Int32) &&& 0x3f).toInt64) ||| (cv.toInt64))), .second, .val (.int w2), .val (.int iv), .val (.int cv)]) rfl k))))) ?_
            exact J70_4 ((kv <<< ((8 : Int32) &&& 0x3f).toInt64) ||| (cv.toInt64)) (by rw [if_pos hc56_5] <;> rfl)
          · refine Run.st (S' := Tl2.setTop (mkF m 70 #[.val (.ref a0), .val (.long ((kv <<< ((8 : Int32) &&& 0x3f).toInt64) ||| (255 : Int64))), .second, .val (.int w2), .val (.int iv), .val (.int cv)] [])) (fun _ k => XS.ifNo Xl2.here hx rfl (hb hby d5_56) rfl ((if0 _ _).trans (feq hc56_5).1) (XS.sipush Xl2.here hx rfl (hb hby d5_59) (XS.goto Xl2.here hx rfl (pc0 := 62) (pc' := 67) rfl (hb hby d5_62) (by decide) (by decide) (XS.i2l Xl2.here hx rfl (hb hby d5_67) rfl (XS.lor Xl2.here hx rfl (hb hby d5_68) rfl (XS.lstoreN Xl2.here hx rfl (hb hby d5_69) rfl (l' := #[.val (.ref a0), .val (.long ((kv <<< ((8 : Int32) &&& 0x3f).toInt64) ||| (255 : Int64))), .second, .val (.int w2), .val (.int iv), .val (.int cv)]) rfl k)))))) ?_
            exact J70_4 ((kv <<< ((8 : Int32) &&& 0x3f).toInt64) ||| (255 : Int64)) (by rw [if_neg hc56_5] <;> rfl)
        refine Run.st (S' := Tl2.setTop (mkF m 41 #[.val (.ref a0), .val (.long kv), .second, .val (.int wd), .val (.int iv), .val (.int cv)] [(.int (255 : Int32)), (.int cv), (.int wd)])) (fun _ k => XS.iloadN Xl2.here hx rfl (hb hby d5_35) rfl (XS.iload Xl2.here hx rfl (hb hby d5_36) rfl (XS.sipush Xl2.here hx rfl (hb hby d5_38) k))) ?_
        by_cases hc41_6 : (255 : Int32) < cv
        · refine Run.st (S' := Tl2.setTop (mkF m 51 #[.val (.ref a0), .val (.long kv), .second, .val (.int (wd ||| (1 : Int32))), .val (.int iv), .val (.int cv)] [])) (fun _ k => XS.icmpNo Xl2.here hx rfl (hb hby d5_41) rfl (tlt hc41_6).2.2.2 (XS.iconst Xl2.here hx rfl (hb hby d5_44) (XS.goto Xl2.here hx rfl (pc0 := 45) (pc' := 49) rfl (hb hby d5_45) (by decide) (by decide) (XS.ior Xl2.here hx rfl (hb hby d5_49) rfl (XS.istoreN Xl2.here hx rfl (hb hby d5_50) rfl (l' := #[.val (.ref a0), .val (.long kv), .second, .val (.int (wd ||| (1 : Int32))), .val (.int iv), .val (.int cv)]) rfl k))))) ?_
          exact J51_3 (wd ||| (1 : Int32)) (by rw [if_pos hc41_6])
        · refine Run.st (S' := Tl2.setTop (mkF m 51 #[.val (.ref a0), .val (.long kv), .second, .val (.int (wd ||| (0 : Int32))), .val (.int iv), .val (.int cv)] [])) (fun _ k => XS.icmpYes Xl2.here hx rfl (pc0 := 41) (pc' := 48) rfl (hb hby d5_41) rfl (flt hc41_6).2.2.2 (by decide) (by decide) (XS.iconst Xl2.here hx rfl (hb hby d5_48) (XS.ior Xl2.here hx rfl (hb hby d5_49) rfl (XS.istoreN Xl2.here hx rfl (hb hby d5_50) rfl (l' := #[.val (.ref a0), .val (.long kv), .second, .val (.int (wd ||| (0 : Int32))), .val (.int iv), .val (.int cv)]) rfl k)))) ?_
          exact J51_3 (wd ||| (0 : Int32)) (by rw [if_neg hc41_6])
      refine Run.st (S' := Tl1.setTop (mkF m 17 #[.val (.ref a0), .val (.long kv), .second, .val (.int wd), .val (.int iv), x5] [(.ref a0), (.int iv)])) (fun _ k => XS.iload Xl1.here hx rfl (hb hby d5_14) rfl (XS.aloadN Xl1.here hx rfl (hb hby d5_16) rfl rfl k)) ?_
      have u_S_cs := S_cs.ext OL.2
      obtain ⟨cq7, kq7, q7a, q7b, q7c⟩ := isOf hZ El1 E_a0
      obtain ⟨_, _, ⟨T7, L7, k7, n7⟩, -, X7, ⟨Lc7, hQ7, l7, y7, z7⟩, st7⟩ := Xl1.virtualBack hx (y := (⟨"java/lang/String", "length", "()I"⟩ : MethodName)) (z := (⟨"java/lang/String", "length", "()I"⟩ : MethodName)) hown (mvT hZ (hwi hw 31 rfl)) (mvT hZ (hwi hw 32 rfl)) (notFace_of_selects (args := #[]) (mvT hZ (hwi hw 34 rfl))) (mvT hZ (hwi hw 34 rfl)) (mvT hZ (hwi hw 33 rfl)) (by decide) (own_lenB (n0 := n0) (W := 1) hw hZ E_a0 F_value_a0 F_coder_a0 V_t0 hL u_S_cs hzc (by decide) (by decide)) q7a q7c (g := (mkF m 17 #[.val (.ref a0), .val (.long kv), .second, .val (.int wd), .val (.int iv), x5] [(.ref a0), (.int iv)])) rfl (by rw [hml]; rfl) (Steps.refl _) (argsL := []) (rest := [(.int iv)]) (lenOf pd_14 rfl) rfl (by show 2 * 0 + _ ≤ _; exact Nat.le_of_eq rfl) (hb hby d5_17) (fun _ _ => ⟨rfl, El1, (by decide : 0 + 0 ≤ _), (by decide : 0 + 0 ≤ _)⟩)
      dsimp only [Pt.U, Pt.locs, Pt.cells, Pt.slots] at X7 l7 y7 z7 st7 hQ7
      replace l7 := l7.symm; replace y7 := y7.symm; replace z7 := z7.symm; subst l7 y7 z7
      obtain ⟨rfl, N7q, e7⟩ := hQ7
      have N7 := Fr.app Nl1 N7q
      refine Run.st (S' := T7.setTop (mkF m 20 #[.val (.ref a0), .val (.long kv), .second, .val (.int wd), .val (.int iv), x5] [(.int (Int32.ofNat cs.length)), (.int iv)])) (fun _ k => st7.trans k) ?_
      by_cases hc20_8 : iv < (Int32.ofNat cs.length)
      · refine Run.st (S' := T7.setTop (mkF m 26 #[.val (.ref a0), .val (.long kv), .second, .val (.int wd), .val (.int iv), x5] [(.int iv), (.ref a0)])) (fun _ k => XS.icmpNo X7.here hx rfl (hb hby d5_20) rfl (tlt hc20_8).2.1 (XS.aloadN X7.here hx rfl (hb hby d5_23) rfl rfl (XS.iload X7.here hx rfl (hb hby d5_24) rfl k))) ?_
        have u_S_cs := S_cs.ext OL.2
        have u_S_sf := S_sf.ext OL.2
        obtain ⟨cq9, kq9, q9a, q9b, q9c⟩ := isOf hZ e7 E_a0
        obtain ⟨_, _, ⟨T9, L9, k9, n9⟩, -, X9, ⟨Lc9, hQ9, l9, y9, z9⟩, st9⟩ := X7.virtualBack hx (y := (⟨"java/lang/String", "charAt", "(I)C"⟩ : MethodName)) (z := (⟨"java/lang/String", "charAt", "(I)C"⟩ : MethodName)) hown (mvT hZ (hwi hw 74 rfl)) (mvT hZ (hwi hw 75 rfl)) (notFace_of_selects (args := #[]) (mvT hZ (hwi hw 77 rfl))) (mvT hZ (hwi hw 77 rfl)) (mvT hZ (hwi hw 76 rfl)) (by decide) (own_chB (n0 := n0) (W := 0) hw hZ E_a0 F_value_a0 F_coder_a0 V_t0 hL u_S_cs hzc u_S_sf rfm (own_nn hyl.2.1) (own_cltN (own_nn hyl.2.1) hL.2 hc20_8) (by decide) (by decide)) q9a q9c (g := (mkF m 26 #[.val (.ref a0), .val (.long kv), .second, .val (.int wd), .val (.int iv), x5] [(.int iv), (.ref a0)])) rfl (by rw [hml]; rfl) (Steps.refl _) (argsL := [(.int iv)]) (rest := []) (lenOf pd_15 rfl) rfl (by show 2 * 0 + _ ≤ _; exact Nat.le_of_eq rfl) (hb hby d5_26) (fun _ _ => ⟨rfl, e7, (by decide : 0 + 0 ≤ _), (by decide : 0 + 0 ≤ _)⟩)
        dsimp only [Pt.U, Pt.locs, Pt.cells, Pt.slots] at X9 l9 y9 z9 st9 hQ9
        replace l9 := l9.symm; replace y9 := y9.symm; replace z9 := z9.symm; subst l9 y9 z9
        obtain ⟨rfl, N9q, e9⟩ := hQ9
        have N9 := Fr.app N7 N9q
        refine Run.st (S' := T9.setTop (mkF m 35 #[.val (.ref a0), .val (.long kv), .second, .val (.int wd), .val (.int iv), .val (.int (cs.getD (iv).toNatClampNeg 0))] [])) (fun _ k => st9.trans (XS.goto X9.here hx rfl (pc0 := 29) (pc' := 33) rfl (hb hby d5_29) (by decide) (by decide) (XS.istore X9.here hx rfl (hb hby d5_33) rfl (l' := #[.val (.ref a0), .val (.long kv), .second, .val (.int wd), .val (.int iv), .val (.int (cs.getD (iv).toNatClampNeg 0))]) (own_stl (x := x5) rfl rfl hyl.2.2.2.2) k))) ?_
        exact JH2 (cs.getD (iv).toNatClampNeg 0) _ _ ⟨_, X9, N9, e9⟩ Zn Kp OL E_a0 F_coder_a0 F_value_a0 V_t0 rfl
      · refine Run.st (S' := T7.setTop (mkF m 35 #[.val (.ref a0), .val (.long kv), .second, .val (.int wd), .val (.int iv), .val (.int (0 : Int32))] [])) (fun _ k => XS.icmpYes X7.here hx rfl (pc0 := 20) (pc' := 32) rfl (hb hby d5_20) rfl (flt hc20_8).2.1 (by decide) (by decide) (XS.iconst X7.here hx rfl (hb hby d5_32) (XS.istore X7.here hx rfl (hb hby d5_33) rfl (l' := #[.val (.ref a0), .val (.long kv), .second, .val (.int wd), .val (.int iv), .val (.int (0 : Int32))]) (own_stl (x := x5) rfl rfl hyl.2.2.2.2) k))) ?_
        exact JH2 (0 : Int32) _ _ ⟨_, X7, N7, e7⟩ Zn Kp OL E_a0 F_coder_a0 F_value_a0 V_t0 (own_out (own_nn hyl.2.1) hL.2 hc20_8)
  exact LP1 8 (0 : Int32) (0 : Int32) (0 : Int64) (.unset) _ _ ⟨_, X0, N0, e0⟩ Zn Kp OL E_a0 F_coder_a0 F_value_a0 V_t0 ⟨by decide, by decide, rfl, rfl, trivial⟩
theorem ef_KeyU (m : MethodId) (a0 : Addr) : entryFrame m #[(.ref a0)] 6 = mkF m 0 #[.val (.ref a0), .unset, .unset, .unset, .unset, .unset] [] := by first | (simp [entryFrame, mkF, argsToLocals, Value.category]; done) | rfl
def QKeyU (Z : State) (a0 : Addr) (t0 : Addr) (kb : ClassId) (bs : List Int32) (nb : Int32) (fm : Value) (zc : Int32) (cs : List Int32) (h0 : Heap) (n0 : Nat) (v : Option Value) (h : Heap) (L : List Loc) : Prop := v = some (.long (own_k cs 8)) ∧ Fr n0 L ∧ Keep h0 h []
set_option maxRecDepth 65536 in
set_option maxHeartbeats 40000000 in
theorem rmKeyU (l : Launch) (Z : State) (aV : Array Value) (hw : ∀ d ∈ tables_1, d.before aV Z = true) (ws : List Jvm.Cond) (a0 : Addr) (t0 : Addr) (kb : ClassId) (bs : List Int32) (nb : Int32) (fm : Value) (zc : Int32) (cs : List Int32) (h0 : Heap) (n0 : Nat) (Zn : n0 ≤ h0.size) (OL : Old Z n0 h0) (hzc : ¬ zc = 0) (rfm : fm.isRef = true) (hW : own_wide cs bs nb) (E_a0 : Exa Z h0 a0 "java/lang/String") (F_coder_a0 : Fld Z h0 a0 "java/lang/String" "coder" "B" (.int (1 : Int32))) (F_value_a0 : Fld Z h0 a0 "java/lang/String" "value" "[B" (.ref t0)) (V_t0 : Arv Z h0 t0 kb .byte nb (bs.map Value.int) (.int (0 : Int32))) (S_as : Sta Z Z.heap "java/lang/StringUTF16" "$assertionsDisabled" "Z" (.int (1 : Int32))) (S_hi : Sta Z Z.heap "java/lang/StringUTF16" "HI_BYTE_SHIFT" "I" (.int (0 : Int32))) (S_lo : Sta Z Z.heap "java/lang/StringUTF16" "LO_BYTE_SHIFT" "I" (.int (8 : Int32))) (S_sf : Sta Z Z.heap "jdk/internal/util/Preconditions" "SIOOBE_FORMATTER" "Ljava/util/function/BiFunction;" fm) (S_cs : Sta Z Z.heap "java/lang/String" "COMPACT_STRINGS" "Z" (.int zc)) :
    MetFree l (⟨"org/succession/Names", "key", "(Ljava/lang/String;)J"⟩ : MethodName) (head1 (Jvm.Cond.code (⟨"org/succession/Names", "key", "(Ljava/lang/String;)J"⟩ : MethodName) prog_17_method_2_code 6 (some .long) :: ws) ({ frames := 5, cells := 0, slots := 0, locals := 66 } : Room)) (fun a U => a = #[(.ref a0)] ∧ Z.Warmed39 U.vm ∧ U.heap = h0) (fun _ _ _ _ _ => True) (fun _ U o U' => ∃ v L, o = .returned v ∧ QKeyU Z a0 t0 kb bs nb fm zc cs h0 n0 v U'.heap L ∧ FrameEnd U o U' L ({ frames := 5, cells := 0, slots := 0, locals := 66 } : Room).cells ({ frames := 5, cells := 0, slots := 0, locals := 66 } : Room).slots) := by
  refine MetFree.of_bodySF (plainFor_of_name pn_3) hisR ?_
  intro p e s m args below meth c s₁ Bd hml0 hP hK
  obtain ⟨rfl, hZ, hh⟩ := hP
  have hx := Bd.exec
  have hby := Bd.bytes
  have hml : c.maxLocals = 6 := hml0
  have hown : s.vm.findClass "org/succession/Names" = some m.cls := findClass_of_methodNamed Bd.named
  have hnm := (name_of_methodNamed Bd.named Bd.method).1
  have X0 : Stand p l e ({ frames := 5, cells := 0, slots := 0, locals := 66 } : Room) s m #[(.ref a0)] below meth c s₁ [] 0 0 := Stand.of_body Bd
  have e0 : s₁.heap = h0 := by rw [← hh, Bd.state]; rfl
  have N0 := Fr.nil n0
  have Kp := Keep.refl h0 []
  show Run p e below (Ends s (QKeyU Z a0 t0 kb bs nb fm zc cs h0 n0) ({ frames := 5, cells := 0, slots := 0, locals := 66 } : Room).cells ({ frames := 5, cells := 0, slots := 0, locals := 66 } : Room).slots) _
  refine Run.st (S' := s₁.setTop (mkF m 0 #[.val (.ref a0), .unset, .unset, .unset, .unset, .unset] [])) (fun t k => castTop (ef_KeyU m a0) k) ?_
  refine Run.st (S' := s₁.setTop (mkF m 7 #[.val (.ref a0), .val (.long (0 : Int64)), .second, .val (.int (0 : Int32)), .val (.int (0 : Int32)), .unset] [])) (fun _ k => XS.lconst X0.here hx rfl (hb hby d5_0) (XS.lstoreN X0.here hx rfl (hb hby d5_1) rfl (l' := #[.val (.ref a0), .val (.long (0 : Int64)), .second, .unset, .unset, .unset]) rfl (XS.iconst X0.here hx rfl (hb hby d5_2) (XS.istoreN X0.here hx rfl (hb hby d5_3) rfl (l' := #[.val (.ref a0), .val (.long (0 : Int64)), .second, .val (.int (0 : Int32)), .unset, .unset]) rfl (XS.iconst X0.here hx rfl (hb hby d5_4) (XS.istore X0.here hx rfl (hb hby d5_5) rfl (l' := #[.val (.ref a0), .val (.long (0 : Int64)), .second, .val (.int (0 : Int32)), .val (.int (0 : Int32)), .unset]) rfl k)))))) ?_
  have LP1 : ∀ (fu : Nat) (iv : Int32) (wd : Int32) (kv : Int64) (x5 : Slot) (Tl1 : State) (Hl1 : Heap) (gl : Good p l e ({ frames := 5, cells := 0, slots := 0, locals := 66 } : Room) s m #[(.ref a0)] below meth c n0 0 0 Hl1 Tl1) (Zn : n0 ≤ Hl1.size) (Kp : Keep h0 Hl1 []) (OL : Old Z n0 Hl1) (E_a0 : Exa Z Hl1 a0 "java/lang/String") (F_coder_a0 : Fld Z Hl1 a0 "java/lang/String" "coder" "B" (.int (1 : Int32))) (F_value_a0 : Fld Z Hl1 a0 "java/lang/String" "value" "[B" (.ref t0)) (V_t0 : Arv Z Hl1 t0 kb .byte nb (bs.map Value.int) (.int (0 : Int32))), (iv.toInt + (fu : Int) = 8 ∧ 0 ≤ iv.toInt ∧ wd = own_w cs iv.toNatClampNeg ∧ kv = own_k cs iv.toNatClampNeg ∧ own_pl x5) → Run p e below (Ends s (QKeyU Z a0 t0 kb bs nb fm zc cs h0 n0) ({ frames := 5, cells := 0, slots := 0, locals := 66 } : Room).cells ({ frames := 5, cells := 0, slots := 0, locals := 66 } : Room).slots) (Tl1.setTop (mkF m 7 #[.val (.ref a0), .val (.long kv), .second, .val (.int wd), .val (.int iv), x5] [])) := by
    intro fu
    induction fu with
    | zero =>
      intro iv wd kv x5 Tl1 Hl1 gl Zn Kp OL E_a0 F_coder_a0 F_value_a0 V_t0 hyl
      obtain ⟨lcs1, Xl1, Nl1, El1⟩ := gl
      refine Run.st (S' := Tl1.setTop (mkF m 77 #[.val (.ref a0), .val (.long kv), .second, .val (.int wd), .val (.int iv), x5] [(.long kv)])) (fun _ k => XS.iload Xl1.here hx rfl (hb hby d5_7) rfl (XS.bipush Xl1.here hx rfl (hb hby d5_9) (XS.icmpYes Xl1.here hx rfl (pc0 := 11) (pc' := 76) rfl (hb hby d5_11) rfl (flt (show ¬ (iv < (8 : Int32)) from (own_n8l hyl.1))).2.1 (by decide) (by decide) (XS.lloadN Xl1.here hx rfl (hb hby d5_76) rfl k)))) ?_
      refine Run.out Xl1 hx Bd.notSynchronized Bd.returns rfl (Or.inr (Or.inl ⟨rfl, rfl, _, rfl⟩)) (hb hby d5_77) (by decide) (by decide) ?_
      rw [El1]
      exact ⟨by rw [hyl.2.2.2.1, own_e8 hyl.2.1 hyl.1], Nl1, Kp⟩
    | succ fu ih =>
      intro iv wd kv x5 Tl1 Hl1 gl Zn Kp OL E_a0 F_coder_a0 F_value_a0 V_t0 hyl
      obtain ⟨lcs1, Xl1, Nl1, El1⟩ := gl
      refine Run.st (S' := Tl1.setTop (mkF m 14 #[.val (.ref a0), .val (.long kv), .second, .val (.int wd), .val (.int iv), x5] [])) (fun _ k => XS.iload Xl1.here hx rfl (hb hby d5_7) rfl (XS.bipush Xl1.here hx rfl (hb hby d5_9) (XS.icmpNo Xl1.here hx rfl (hb hby d5_11) rfl (tlt (show iv < (8 : Int32) from (own_l8 hyl.1))).2.1 k))) ?_
      have JH2 : ∀ (cv : Int32) (Tl2 : State) (Hl2 : Heap) (gl : Good p l e ({ frames := 5, cells := 0, slots := 0, locals := 66 } : Room) s m #[(.ref a0)] below meth c n0 0 0 Hl2 Tl2) (Zn : n0 ≤ Hl2.size) (Kp : Keep h0 Hl2 []) (OL : Old Z n0 Hl2) (E_a0 : Exa Z Hl2 a0 "java/lang/String") (F_coder_a0 : Fld Z Hl2 a0 "java/lang/String" "coder" "B" (.int (1 : Int32))) (F_value_a0 : Fld Z Hl2 a0 "java/lang/String" "value" "[B" (.ref t0)) (V_t0 : Arv Z Hl2 t0 kb .byte nb (bs.map Value.int) (.int (0 : Int32))), cv = cs.getD iv.toNatClampNeg 0 → Run p e below (Ends s (QKeyU Z a0 t0 kb bs nb fm zc cs h0 n0) ({ frames := 5, cells := 0, slots := 0, locals := 66 } : Room).cells ({ frames := 5, cells := 0, slots := 0, locals := 66 } : Room).slots) (Tl2.setTop (mkF m 35 #[.val (.ref a0), .val (.long kv), .second, .val (.int wd), .val (.int iv), .val (.int cv)] [])) := by
        intro cv Tl2 Hl2 gl Zn Kp OL E_a0 F_coder_a0 F_value_a0 V_t0 hyJ
        obtain ⟨lcs2, Xl2, Nl2, El2⟩ := gl
        have J51_3 : ∀ (w2 : Int32), w2 = (wd ||| (if (255 : Int32) < cv then (1 : Int32) else (0 : Int32))) → Run p e below (Ends s (QKeyU Z a0 t0 kb bs nb fm zc cs h0 n0) ({ frames := 5, cells := 0, slots := 0, locals := 66 } : Room).cells ({ frames := 5, cells := 0, slots := 0, locals := 66 } : Room).slots) (Tl2.setTop (mkF m 51 #[.val (.ref a0), .val (.long kv), .second, .val (.int w2), .val (.int iv), .val (.int cv)] [])) := by
          intro w2 h_w2
          have J70_4 : ∀ (k2 : Int64), k2 = ((kv <<< ((8 : Int32) &&& 0x3f).toInt64) ||| (if w2 = (0 : Int32) then cv else (255 : Int32)).toInt64) → Run p e below (Ends s (QKeyU Z a0 t0 kb bs nb fm zc cs h0 n0) ({ frames := 5, cells := 0, slots := 0, locals := 66 } : Room).cells ({ frames := 5, cells := 0, slots := 0, locals := 66 } : Room).slots) (Tl2.setTop (mkF m 70 #[.val (.ref a0), .val (.long k2), .second, .val (.int w2), .val (.int iv), .val (.int cv)] [])) := by
            intro k2 h_k2
            refine Run.st (S' := Tl2.setTop (mkF m 7 #[.val (.ref a0), .val (.long k2), .second, .val (.int w2), .val (.int (iv + (1 : Int32))), .val (.int cv)] [])) (fun _ k => XS.iinc Xl2.here hx rfl (hb hby d5_70) rfl (l' := #[.val (.ref a0), .val (.long k2), .second, .val (.int w2), .val (.int (iv + (1 : Int32))), .val (.int cv)]) rfl (XS.goto Xl2.here hx rfl (pc0 := 73) (pc' := 7) rfl (hb hby d5_73) (by decide) (by decide) k)) ?_
            exact ih (iv + (1 : Int32)) w2 k2 (.val (.int cv)) _ _ ⟨_, Xl2, Nl2, El2⟩ Zn Kp OL E_a0 F_coder_a0 F_value_a0 V_t0 ⟨(own_i8 hyl.2.1 hyl.1).1, (own_i8 hyl.2.1 hyl.1).2.1, (own_bk hyl.2.2.1 hyJ h_w2 hyl.2.2.2.1 h_k2 (own_i8 hyl.2.1 hyl.1).2.2).1, (own_bk hyl.2.2.1 hyJ h_w2 hyl.2.2.2.1 h_k2 (own_i8 hyl.2.1 hyl.1).2.2).2, rfl⟩
          refine Run.st (S' := Tl2.setTop (mkF m 56 #[.val (.ref a0), .val (.long kv), .second, .val (.int w2), .val (.int iv), .val (.int cv)] [(.int w2), (.long (kv <<< ((8 : Int32) &&& 0x3f).toInt64))])) (fun _ k => XS.lloadN Xl2.here hx rfl (hb hby d5_51) rfl (XS.bipush Xl2.here hx rfl (hb hby d5_52) (XS.lshl Xl2.here hx rfl (hb hby d5_54) rfl (XS.iloadN Xl2.here hx rfl (hb hby d5_55) rfl k)))) ?_
          by_cases hc56_5 : w2 = (0 : Int32)
          · refine Run.st (S' := Tl2.setTop (mkF m 70 #[.val (.ref a0), .val (.long ((kv <<< ((8 : Int32) &&& 0x3f).toInt64) ||| (cv.toInt64))), .second, .val (.int w2), .val (.int iv), .val (.int cv)] [])) (fun _ k => XS.ifYes Xl2.here hx rfl (pc0 := 56) (pc' := 65) rfl (hb hby d5_56) rfl ((if0 _ _).trans (teq hc56_5).1) (by decide) (by decide) (XS.iload Xl2.here hx rfl (hb hby d5_65) rfl (XS.i2l Xl2.here hx rfl (hb hby d5_67) rfl (XS.lor Xl2.here hx rfl (hb hby d5_68) rfl (XS.lstoreN Xl2.here hx rfl (hb hby d5_69) rfl (l' := #[.val (.ref a0), .val (.long ((kv <<< ((8 : Int32) &&& 0x3f).toInt64) ||| (cv.toInt64))), .second, .val (.int w2), .val (.int iv), .val (.int cv)]) rfl k))))) ?_
            exact J70_4 ((kv <<< ((8 : Int32) &&& 0x3f).toInt64) ||| (cv.toInt64)) (by rw [if_pos hc56_5] <;> rfl)
          · refine Run.st (S' := Tl2.setTop (mkF m 70 #[.val (.ref a0), .val (.long ((kv <<< ((8 : Int32) &&& 0x3f).toInt64) ||| (255 : Int64))), .second, .val (.int w2), .val (.int iv), .val (.int cv)] [])) (fun _ k => XS.ifNo Xl2.here hx rfl (hb hby d5_56) rfl ((if0 _ _).trans (feq hc56_5).1) (XS.sipush Xl2.here hx rfl (hb hby d5_59) (XS.goto Xl2.here hx rfl (pc0 := 62) (pc' := 67) rfl (hb hby d5_62) (by decide) (by decide) (XS.i2l Xl2.here hx rfl (hb hby d5_67) rfl (XS.lor Xl2.here hx rfl (hb hby d5_68) rfl (XS.lstoreN Xl2.here hx rfl (hb hby d5_69) rfl (l' := #[.val (.ref a0), .val (.long ((kv <<< ((8 : Int32) &&& 0x3f).toInt64) ||| (255 : Int64))), .second, .val (.int w2), .val (.int iv), .val (.int cv)]) rfl k)))))) ?_
            exact J70_4 ((kv <<< ((8 : Int32) &&& 0x3f).toInt64) ||| (255 : Int64)) (by rw [if_neg hc56_5] <;> rfl)
        refine Run.st (S' := Tl2.setTop (mkF m 41 #[.val (.ref a0), .val (.long kv), .second, .val (.int wd), .val (.int iv), .val (.int cv)] [(.int (255 : Int32)), (.int cv), (.int wd)])) (fun _ k => XS.iloadN Xl2.here hx rfl (hb hby d5_35) rfl (XS.iload Xl2.here hx rfl (hb hby d5_36) rfl (XS.sipush Xl2.here hx rfl (hb hby d5_38) k))) ?_
        by_cases hc41_6 : (255 : Int32) < cv
        · refine Run.st (S' := Tl2.setTop (mkF m 51 #[.val (.ref a0), .val (.long kv), .second, .val (.int (wd ||| (1 : Int32))), .val (.int iv), .val (.int cv)] [])) (fun _ k => XS.icmpNo Xl2.here hx rfl (hb hby d5_41) rfl (tlt hc41_6).2.2.2 (XS.iconst Xl2.here hx rfl (hb hby d5_44) (XS.goto Xl2.here hx rfl (pc0 := 45) (pc' := 49) rfl (hb hby d5_45) (by decide) (by decide) (XS.ior Xl2.here hx rfl (hb hby d5_49) rfl (XS.istoreN Xl2.here hx rfl (hb hby d5_50) rfl (l' := #[.val (.ref a0), .val (.long kv), .second, .val (.int (wd ||| (1 : Int32))), .val (.int iv), .val (.int cv)]) rfl k))))) ?_
          exact J51_3 (wd ||| (1 : Int32)) (by rw [if_pos hc41_6])
        · refine Run.st (S' := Tl2.setTop (mkF m 51 #[.val (.ref a0), .val (.long kv), .second, .val (.int (wd ||| (0 : Int32))), .val (.int iv), .val (.int cv)] [])) (fun _ k => XS.icmpYes Xl2.here hx rfl (pc0 := 41) (pc' := 48) rfl (hb hby d5_41) rfl (flt hc41_6).2.2.2 (by decide) (by decide) (XS.iconst Xl2.here hx rfl (hb hby d5_48) (XS.ior Xl2.here hx rfl (hb hby d5_49) rfl (XS.istoreN Xl2.here hx rfl (hb hby d5_50) rfl (l' := #[.val (.ref a0), .val (.long kv), .second, .val (.int (wd ||| (0 : Int32))), .val (.int iv), .val (.int cv)]) rfl k)))) ?_
          exact J51_3 (wd ||| (0 : Int32)) (by rw [if_neg hc41_6])
      refine Run.st (S' := Tl1.setTop (mkF m 17 #[.val (.ref a0), .val (.long kv), .second, .val (.int wd), .val (.int iv), x5] [(.ref a0), (.int iv)])) (fun _ k => XS.iload Xl1.here hx rfl (hb hby d5_14) rfl (XS.aloadN Xl1.here hx rfl (hb hby d5_16) rfl rfl k)) ?_
      obtain ⟨cq7, kq7, q7a, q7b, q7c⟩ := isOf hZ El1 E_a0
      obtain ⟨_, _, ⟨T7, L7, k7, n7⟩, -, X7, ⟨Lc7, hQ7, l7, y7, z7⟩, st7⟩ := Xl1.virtualBack hx (y := (⟨"java/lang/String", "length", "()I"⟩ : MethodName)) (z := (⟨"java/lang/String", "length", "()I"⟩ : MethodName)) hown (mvT hZ (hwi hw 31 rfl)) (mvT hZ (hwi hw 32 rfl)) (notFace_of_selects (args := #[]) (mvT hZ (hwi hw 34 rfl))) (mvT hZ (hwi hw 34 rfl)) (mvT hZ (hwi hw 33 rfl)) (by decide) (backOf (W := 1) (rmSLen l Z aV hw [] a0 t0 kb bs nb zc cs Hl1 n0 Zn OL hzc hW E_a0 F_coder_a0 F_value_a0 V_t0 S_cs) hZ (hwi hw 35 rfl) (hwi hw 8 rfl) (by decide) (by decide)) q7a q7c (g := (mkF m 17 #[.val (.ref a0), .val (.long kv), .second, .val (.int wd), .val (.int iv), x5] [(.ref a0), (.int iv)])) rfl (by rw [hml]; rfl) (Steps.refl _) (argsL := []) (rest := [(.int iv)]) (lenOf pd_14 rfl) rfl (by show 2 * 0 + _ ≤ _; exact Nat.le_of_eq rfl) (hb hby d5_17) (fun _ _ => ⟨rfl, El1, (by decide : 0 + 0 ≤ _), (by decide : 0 + 0 ≤ _)⟩)
      dsimp only [Pt.U, Pt.locs, Pt.cells, Pt.slots] at X7 l7 y7 z7 st7 hQ7
      replace l7 := l7.symm; replace y7 := y7.symm; replace z7 := z7.symm; subst l7 y7 z7
      obtain ⟨rfl, N7q, e7⟩ := hQ7
      have N7 := Fr.app Nl1 N7q
      refine Run.st (S' := T7.setTop (mkF m 20 #[.val (.ref a0), .val (.long kv), .second, .val (.int wd), .val (.int iv), x5] [(.int (Int32.ofNat cs.length)), (.int iv)])) (fun _ k => st7.trans k) ?_
      by_cases hc20_8 : iv < (Int32.ofNat cs.length)
      · refine Run.st (S' := T7.setTop (mkF m 26 #[.val (.ref a0), .val (.long kv), .second, .val (.int wd), .val (.int iv), x5] [(.int iv), (.ref a0)])) (fun _ k => XS.icmpNo X7.here hx rfl (hb hby d5_20) rfl (tlt hc20_8).2.1 (XS.aloadN X7.here hx rfl (hb hby d5_23) rfl rfl (XS.iload X7.here hx rfl (hb hby d5_24) rfl k))) ?_
        obtain ⟨cq9, kq9, q9a, q9b, q9c⟩ := isOf hZ e7 E_a0
        obtain ⟨_, _, ⟨T9, L9, k9, n9⟩, -, X9, ⟨Lc9, hQ9, l9, y9, z9⟩, st9⟩ := X7.virtualBack hx (y := (⟨"java/lang/String", "charAt", "(I)C"⟩ : MethodName)) (z := (⟨"java/lang/String", "charAt", "(I)C"⟩ : MethodName)) hown (mvT hZ (hwi hw 74 rfl)) (mvT hZ (hwi hw 75 rfl)) (notFace_of_selects (args := #[]) (mvT hZ (hwi hw 77 rfl))) (mvT hZ (hwi hw 77 rfl)) (mvT hZ (hwi hw 76 rfl)) (by decide) (backOf (W := 0) (rmSCh l Z aV hw [] a0 iv t0 kb bs nb fm zc cs Hl1 n0 Zn OL hzc rfm hW (own_nn hyl.2.1) (own_cltN (own_nn hyl.2.1) (by have := hW.2.1; omega) hc20_8) E_a0 F_coder_a0 F_value_a0 V_t0 S_as S_hi S_lo S_sf S_cs) hZ (hwi hw 78 rfl) (hwi hw 8 rfl) (by decide) (by decide)) q9a q9c (g := (mkF m 26 #[.val (.ref a0), .val (.long kv), .second, .val (.int wd), .val (.int iv), x5] [(.int iv), (.ref a0)])) rfl (by rw [hml]; rfl) (Steps.refl _) (argsL := [(.int iv)]) (rest := []) (lenOf pd_15 rfl) rfl (by show 2 * 0 + _ ≤ _; exact Nat.le_of_eq rfl) (hb hby d5_26) (fun _ _ => ⟨rfl, e7, (by decide : 0 + 0 ≤ _), (by decide : 0 + 0 ≤ _)⟩)
        dsimp only [Pt.U, Pt.locs, Pt.cells, Pt.slots] at X9 l9 y9 z9 st9 hQ9
        replace l9 := l9.symm; replace y9 := y9.symm; replace z9 := z9.symm; subst l9 y9 z9
        obtain ⟨rfl, N9q, e9⟩ := hQ9
        have N9 := Fr.app N7 N9q
        refine Run.st (S' := T9.setTop (mkF m 35 #[.val (.ref a0), .val (.long kv), .second, .val (.int wd), .val (.int iv), .val (.int (cs.getD (iv).toNatClampNeg 0))] [])) (fun _ k => st9.trans (XS.goto X9.here hx rfl (pc0 := 29) (pc' := 33) rfl (hb hby d5_29) (by decide) (by decide) (XS.istore X9.here hx rfl (hb hby d5_33) rfl (l' := #[.val (.ref a0), .val (.long kv), .second, .val (.int wd), .val (.int iv), .val (.int (cs.getD (iv).toNatClampNeg 0))]) (own_stl (x := x5) rfl rfl hyl.2.2.2.2) k))) ?_
        exact JH2 (cs.getD (iv).toNatClampNeg 0) _ _ ⟨_, X9, N9, e9⟩ Zn Kp OL E_a0 F_coder_a0 F_value_a0 V_t0 rfl
      · refine Run.st (S' := T7.setTop (mkF m 35 #[.val (.ref a0), .val (.long kv), .second, .val (.int wd), .val (.int iv), .val (.int (0 : Int32))] [])) (fun _ k => XS.icmpYes X7.here hx rfl (pc0 := 20) (pc' := 32) rfl (hb hby d5_20) rfl (flt hc20_8).2.1 (by decide) (by decide) (XS.iconst X7.here hx rfl (hb hby d5_32) (XS.istore X7.here hx rfl (hb hby d5_33) rfl (l' := #[.val (.ref a0), .val (.long kv), .second, .val (.int wd), .val (.int iv), .val (.int (0 : Int32))]) (own_stl (x := x5) rfl rfl hyl.2.2.2.2) k))) ?_
        exact JH2 (0 : Int32) _ _ ⟨_, X7, N7, e7⟩ Zn Kp OL E_a0 F_coder_a0 F_value_a0 V_t0 (own_out (own_nn hyl.2.1) (by have := hW.2.1; omega) hc20_8)
  exact LP1 8 (0 : Int32) (0 : Int32) (0 : Int64) (.unset) _ _ ⟨_, X0, N0, e0⟩ Zn Kp OL E_a0 F_coder_a0 F_value_a0 V_t0 ⟨by decide, by decide, rfl, rfl, trivial⟩
theorem d1_0 : decode method_3_code 0 = .ok (.lload_n 0, 1) := by decide +kernel
theorem d1_1 : decode method_3_code 1 = .ok (.bipush 8, 2) := by decide +kernel
theorem d1_3 : decode method_3_code 3 = .ok (.iload 5, 2) := by decide +kernel
theorem d1_5 : decode method_3_code 5 = .ok (.imul, 1) := by decide +kernel
theorem d1_6 : decode method_3_code 6 = .ok (.lushr, 1) := by decide +kernel
theorem d1_7 : decode method_3_code 7 = .ok (.ldc2_w 28, 3) := by decide +kernel
theorem d1_10 : decode method_3_code 10 = .ok (.land, 1) := by decide +kernel
theorem d1_11 : decode method_3_code 11 = .ok (.l2i, 1) := by decide +kernel
theorem d1_12 : decode method_3_code 12 = .ok (.istore 6, 2) := by decide +kernel
theorem d1_14 : decode method_3_code 14 = .ok (.iload 4, 2) := by decide +kernel
theorem d1_16 : decode method_3_code 16 = .ok (.iload 5, 2) := by decide +kernel
theorem d1_18 : decode method_3_code 18 = .ok (.iushr, 1) := by decide +kernel
theorem d1_19 : decode method_3_code 19 = .ok (.iconst 1, 1) := by decide +kernel
theorem d1_20 : decode method_3_code 20 = .ok (.iand, 1) := by decide +kernel
theorem d1_21 : decode method_3_code 21 = .ok (.ifCond .eq 18, 3) := by decide +kernel
theorem d1_24 : decode method_3_code 24 = .ok (.lload_n 2, 1) := by decide +kernel
theorem d1_25 : decode method_3_code 25 = .ok (.bipush 8, 2) := by decide +kernel
theorem d1_27 : decode method_3_code 27 = .ok (.iload 5, 2) := by decide +kernel
theorem d1_29 : decode method_3_code 29 = .ok (.imul, 1) := by decide +kernel
theorem d1_30 : decode method_3_code 30 = .ok (.lushr, 1) := by decide +kernel
theorem d1_31 : decode method_3_code 31 = .ok (.ldc2_w 28, 3) := by decide +kernel
theorem d1_34 : decode method_3_code 34 = .ok (.land, 1) := by decide +kernel
theorem d1_35 : decode method_3_code 35 = .ok (.l2i, 1) := by decide +kernel
theorem d1_36 : decode method_3_code 36 = .ok (.goto 4, 3) := by decide +kernel
theorem d1_39 : decode method_3_code 39 = .ok (.iconst 0, 1) := by decide +kernel
theorem d1_40 : decode method_3_code 40 = .ok (.istore 7, 2) := by decide +kernel
theorem d1_42 : decode method_3_code 42 = .ok (.iload 7, 2) := by decide +kernel
theorem d1_44 : decode method_3_code 44 = .ok (.bipush 8, 2) := by decide +kernel
theorem d1_46 : decode method_3_code 46 = .ok (.ishl, 1) := by decide +kernel
theorem d1_47 : decode method_3_code 47 = .ok (.iload 6, 2) := by decide +kernel
theorem d1_49 : decode method_3_code 49 = .ok (.ior, 1) := by decide +kernel
theorem d1_50 : decode method_3_code 50 = .ok (.i2c, 1) := by decide +kernel
theorem d1_51 : decode method_3_code 51 = .ok (.ireturn, 1) := by decide +kernel
theorem pn_4 : plainName "org/succession/NamesKeyPinLaw" = true := by first | (simp [plainName, overriddenIn]; done) | decide +kernel
theorem ef_Ch (m : MethodId) (q0 : Int64) (q1 : Int64) (p2 : Int32) (p3 : Int32) : entryFrame m #[(.long q0), (.long q1), (.int p2), (.int p3)] 8 = mkF m 0 #[.val (.long q0), .second, .val (.long q1), .second, .val (.int p2), .val (.int p3), .unset, .unset] [] := by first | (simp [entryFrame, mkF, argsToLocals, Value.category]; done) | rfl
def QCh (Z : State) (q0 : Int64) (q1 : Int64) (p2 : Int32) (p3 : Int32) (h0 : Heap) (n0 : Nat) (v : Option Value) (h : Heap) (L : List Loc) : Prop := ∃ z : Int32, v = some (.int z) ∧ (¬ z < 0 ∧ ¬ (65535 : Int32) < z) ∧ Fr n0 L ∧ h = h0
set_option maxRecDepth 65536 in
set_option maxHeartbeats 40000000 in
theorem rmCh (l : Launch) (Z : State) (aV : Array Value) (hw : ∀ d ∈ tables_1, d.before aV Z = true) (ws : List Jvm.Cond) (q0 : Int64) (q1 : Int64) (p2 : Int32) (p3 : Int32) (h0 : Heap) (n0 : Nat) (Zn : n0 ≤ h0.size) :
    MetFree l (⟨"org/succession/NamesKeyPinLaw", "ch", "(JJII)C"⟩ : MethodName) (head1 (Jvm.Cond.code (⟨"org/succession/NamesKeyPinLaw", "ch", "(JJII)C"⟩ : MethodName) method_3_code 8 (some .char) :: ws) ({ frames := 0, cells := 0, slots := 0, locals := 0 } : Room)) (fun a U => a = #[(.long q0), (.long q1), (.int p2), (.int p3)] ∧ Z.Warmed39 U.vm ∧ U.heap = h0) (fun _ _ _ _ _ => True) (fun _ U o U' => ∃ v L, o = .returned v ∧ QCh Z q0 q1 p2 p3 h0 n0 v U'.heap L ∧ FrameEnd U o U' L ({ frames := 0, cells := 0, slots := 0, locals := 0 } : Room).cells ({ frames := 0, cells := 0, slots := 0, locals := 0 } : Room).slots) := by
  refine MetFree.of_bodySF (plainFor_of_name pn_4) hisR ?_
  intro p e s m args below meth c s₁ Bd hml0 hP hK
  obtain ⟨rfl, hZ, hh⟩ := hP
  have hx := Bd.exec
  have hby := Bd.bytes
  have hml : c.maxLocals = 8 := hml0
  have hown : s.vm.findClass "org/succession/NamesKeyPinLaw" = some m.cls := findClass_of_methodNamed Bd.named
  have hnm := (name_of_methodNamed Bd.named Bd.method).1
  have X0 : Stand p l e ({ frames := 0, cells := 0, slots := 0, locals := 0 } : Room) s m #[(.long q0), (.long q1), (.int p2), (.int p3)] below meth c s₁ [] 0 0 := Stand.of_body Bd
  have e0 : s₁.heap = h0 := by rw [← hh, Bd.state]; rfl
  have N0 := Fr.nil n0
  have Kp := Keep.refl h0 []
  show Run p e below (Ends s (QCh Z q0 q1 p2 p3 h0 n0) ({ frames := 0, cells := 0, slots := 0, locals := 0 } : Room).cells ({ frames := 0, cells := 0, slots := 0, locals := 0 } : Room).slots) _
  refine Run.st (S' := s₁.setTop (mkF m 0 #[.val (.long q0), .second, .val (.long q1), .second, .val (.int p2), .val (.int p3), .unset, .unset] [])) (fun t k => castTop (ef_Ch m q0 q1 p2 p3) k) ?_
  refine Run.st (S' := s₁.setTop (mkF m 12 #[.val (.long q0), .second, .val (.long q1), .second, .val (.int p2), .val (.int p3), .unset, .unset] [(.int ((((q0.toUInt64 >>> (((8 : Int32) * p3) &&& 0x3f).toInt64.toUInt64).toInt64) &&& (255 : Int64)).toInt32))])) (fun _ k => XS.lloadN X0.here hx rfl (hb hby d1_0) rfl (XS.bipush X0.here hx rfl (hb hby d1_1) (XS.iload X0.here hx rfl (hb hby d1_3) rfl (XS.imul X0.here hx rfl (hb hby d1_5) rfl (XS.lushr X0.here hx rfl (hb hby d1_6) rfl (X0.ldc2Long hx hown (mvT hZ (hwi hw 5 rfl)) (g := (mkF m 7 #[.val (.long q0), .second, .val (.long q1), .second, .val (.int p2), .val (.int p3), .unset, .unset] [(.long ((q0.toUInt64 >>> (((8 : Int32) * p3) &&& 0x3f).toInt64.toUInt64).toInt64))])) rfl (hb hby d1_7) _ (XS.land X0.here hx rfl (hb hby d1_10) rfl (XS.l2i X0.here hx rfl (hb hby d1_11) rfl k)))))))) ?_
  refine Run.st (S' := s₁.setTop (mkF m 21 #[.val (.long q0), .second, .val (.long q1), .second, .val (.int p2), .val (.int p3), .val (.int ((((q0.toUInt64 >>> (((8 : Int32) * p3) &&& 0x3f).toInt64.toUInt64).toInt64) &&& (255 : Int64)).toInt32)), .unset] [(.int (((p2.toUInt32 >>> (p3 &&& 31).toUInt32).toInt32) &&& (1 : Int32)))])) (fun _ k => XS.istore X0.here hx rfl (hb hby d1_12) rfl (l' := #[.val (.long q0), .second, .val (.long q1), .second, .val (.int p2), .val (.int p3), .val (.int ((((q0.toUInt64 >>> (((8 : Int32) * p3) &&& 0x3f).toInt64.toUInt64).toInt64) &&& (255 : Int64)).toInt32)), .unset]) rfl (XS.iload X0.here hx rfl (hb hby d1_14) rfl (XS.iload X0.here hx rfl (hb hby d1_16) rfl (XS.iushr X0.here hx rfl (hb hby d1_18) rfl (XS.iconst X0.here hx rfl (hb hby d1_19) (XS.iand X0.here hx rfl (hb hby d1_20) rfl k)))))) ?_
  by_cases hc21_1 : (((p2.toUInt32 >>> (p3 &&& 31).toUInt32).toInt32) &&& (1 : Int32)) = (0 : Int32)
  · refine Run.st (S' := s₁.setTop (mkF m 50 #[.val (.long q0), .second, .val (.long q1), .second, .val (.int p2), .val (.int p3), .val (.int ((((q0.toUInt64 >>> (((8 : Int32) * p3) &&& 0x3f).toInt64.toUInt64).toInt64) &&& (255 : Int64)).toInt32)), .val (.int (0 : Int32))] [(.int ((0 : Int32) ||| ((((q0.toUInt64 >>> (((8 : Int32) * p3) &&& 0x3f).toInt64.toUInt64).toInt64) &&& (255 : Int64)).toInt32)))])) (fun _ k => XS.ifYes X0.here hx rfl (pc0 := 21) (pc' := 39) rfl (hb hby d1_21) rfl ((if0 _ _).trans (teq hc21_1).1) (by decide) (by decide) (XS.iconst X0.here hx rfl (hb hby d1_39) (XS.istore X0.here hx rfl (hb hby d1_40) rfl (l' := #[.val (.long q0), .second, .val (.long q1), .second, .val (.int p2), .val (.int p3), .val (.int ((((q0.toUInt64 >>> (((8 : Int32) * p3) &&& 0x3f).toInt64.toUInt64).toInt64) &&& (255 : Int64)).toInt32)), .val (.int (0 : Int32))]) rfl (XS.iload X0.here hx rfl (hb hby d1_42) rfl (XS.bipush X0.here hx rfl (hb hby d1_44) (XS.ishl X0.here hx rfl (hb hby d1_46) rfl (XS.iload X0.here hx rfl (hb hby d1_47) rfl (XS.ior X0.here hx rfl (hb hby d1_49) rfl k)))))))) ?_
    refine Run.st (S' := s₁.setTop (mkF m 51 #[.val (.long q0), .second, .val (.long q1), .second, .val (.int p2), .val (.int p3), .val (.int ((((q0.toUInt64 >>> (((8 : Int32) * p3) &&& 0x3f).toInt64.toUInt64).toInt64) &&& (255 : Int64)).toInt32)), .val (.int (0 : Int32))] [(.int (((0 : Int32) ||| ((((q0.toUInt64 >>> (((8 : Int32) * p3) &&& 0x3f).toInt64.toUInt64).toInt64) &&& (255 : Int64)).toInt32)).toUInt32.toUInt16.toUInt32.toInt32))])) (fun _ k => XS.i2c X0.here hx rfl (hb hby d1_50) rfl k) ?_
    refine Run.out X0 hx Bd.notSynchronized Bd.returns (own_ncc _) (Or.inl ⟨rfl, by simp, _, rfl⟩) (hb hby d1_51) (by decide) (by decide) ?_
    rw [e0]
    exact ⟨_, rfl, own_r16 _, N0, rfl⟩
  · refine Run.st (S' := s₁.setTop (mkF m 35 #[.val (.long q0), .second, .val (.long q1), .second, .val (.int p2), .val (.int p3), .val (.int ((((q0.toUInt64 >>> (((8 : Int32) * p3) &&& 0x3f).toInt64.toUInt64).toInt64) &&& (255 : Int64)).toInt32)), .unset] [(.long (((q1.toUInt64 >>> (((8 : Int32) * p3) &&& 0x3f).toInt64.toUInt64).toInt64) &&& (255 : Int64)))])) (fun _ k => XS.ifNo X0.here hx rfl (hb hby d1_21) rfl ((if0 _ _).trans (feq hc21_1).1) (XS.lloadN X0.here hx rfl (hb hby d1_24) rfl (XS.bipush X0.here hx rfl (hb hby d1_25) (XS.iload X0.here hx rfl (hb hby d1_27) rfl (XS.imul X0.here hx rfl (hb hby d1_29) rfl (XS.lushr X0.here hx rfl (hb hby d1_30) rfl (X0.ldc2Long hx hown (mvT hZ (hwi hw 5 rfl)) (g := (mkF m 31 #[.val (.long q0), .second, .val (.long q1), .second, .val (.int p2), .val (.int p3), .val (.int ((((q0.toUInt64 >>> (((8 : Int32) * p3) &&& 0x3f).toInt64.toUInt64).toInt64) &&& (255 : Int64)).toInt32)), .unset] [(.long ((q1.toUInt64 >>> (((8 : Int32) * p3) &&& 0x3f).toInt64.toUInt64).toInt64))])) rfl (hb hby d1_31) _ (XS.land X0.here hx rfl (hb hby d1_34) rfl k)))))))) ?_
    refine Run.st (S' := s₁.setTop (mkF m 50 #[.val (.long q0), .second, .val (.long q1), .second, .val (.int p2), .val (.int p3), .val (.int ((((q0.toUInt64 >>> (((8 : Int32) * p3) &&& 0x3f).toInt64.toUInt64).toInt64) &&& (255 : Int64)).toInt32)), .val (.int ((((q1.toUInt64 >>> (((8 : Int32) * p3) &&& 0x3f).toInt64.toUInt64).toInt64) &&& (255 : Int64)).toInt32))] [(.int ((((((q1.toUInt64 >>> (((8 : Int32) * p3) &&& 0x3f).toInt64.toUInt64).toInt64) &&& (255 : Int64)).toInt32) <<< ((8 : Int32) &&& 31)) ||| ((((q0.toUInt64 >>> (((8 : Int32) * p3) &&& 0x3f).toInt64.toUInt64).toInt64) &&& (255 : Int64)).toInt32)))])) (fun _ k => XS.l2i X0.here hx rfl (hb hby d1_35) rfl (XS.goto X0.here hx rfl (pc0 := 36) (pc' := 40) rfl (hb hby d1_36) (by decide) (by decide) (XS.istore X0.here hx rfl (hb hby d1_40) rfl (l' := #[.val (.long q0), .second, .val (.long q1), .second, .val (.int p2), .val (.int p3), .val (.int ((((q0.toUInt64 >>> (((8 : Int32) * p3) &&& 0x3f).toInt64.toUInt64).toInt64) &&& (255 : Int64)).toInt32)), .val (.int ((((q1.toUInt64 >>> (((8 : Int32) * p3) &&& 0x3f).toInt64.toUInt64).toInt64) &&& (255 : Int64)).toInt32))]) rfl (XS.iload X0.here hx rfl (hb hby d1_42) rfl (XS.bipush X0.here hx rfl (hb hby d1_44) (XS.ishl X0.here hx rfl (hb hby d1_46) rfl (XS.iload X0.here hx rfl (hb hby d1_47) rfl (XS.ior X0.here hx rfl (hb hby d1_49) rfl k)))))))) ?_
    refine Run.st (S' := s₁.setTop (mkF m 51 #[.val (.long q0), .second, .val (.long q1), .second, .val (.int p2), .val (.int p3), .val (.int ((((q0.toUInt64 >>> (((8 : Int32) * p3) &&& 0x3f).toInt64.toUInt64).toInt64) &&& (255 : Int64)).toInt32)), .val (.int ((((q1.toUInt64 >>> (((8 : Int32) * p3) &&& 0x3f).toInt64.toUInt64).toInt64) &&& (255 : Int64)).toInt32))] [(.int (((((((q1.toUInt64 >>> (((8 : Int32) * p3) &&& 0x3f).toInt64.toUInt64).toInt64) &&& (255 : Int64)).toInt32) <<< ((8 : Int32) &&& 31)) ||| ((((q0.toUInt64 >>> (((8 : Int32) * p3) &&& 0x3f).toInt64.toUInt64).toInt64) &&& (255 : Int64)).toInt32)).toUInt32.toUInt16.toUInt32.toInt32))])) (fun _ k => XS.i2c X0.here hx rfl (hb hby d1_50) rfl k) ?_
    refine Run.out X0 hx Bd.notSynchronized Bd.returns (own_ncc _) (Or.inl ⟨rfl, by simp, _, rfl⟩) (hb hby d1_51) (by decide) (by decide) ?_
    rw [e0]
    exact ⟨_, rfl, own_r16 _, N0, rfl⟩
theorem d8_0 : decode method_4_code 0 = .ok (.iload_n 3, 1) := by decide +kernel
theorem d8_1 : decode method_4_code 1 = .ok (.ifCond .eq 9, 3) := by decide +kernel
theorem d8_4 : decode method_4_code 4 = .ok (.ldc2_w 28, 3) := by decide +kernel
theorem d8_7 : decode method_4_code 7 = .ok (.goto 16, 3) := by decide +kernel
theorem d8_10 : decode method_4_code 10 = .ok (.iload_n 2, 1) := by decide +kernel
theorem d8_11 : decode method_4_code 11 = .ok (.iload 5, 2) := by decide +kernel
theorem d8_13 : decode method_4_code 13 = .ok (.if_icmp .ge 8, 3) := by decide +kernel
theorem d8_16 : decode method_4_code 16 = .ok (.iload 4, 2) := by decide +kernel
theorem d8_18 : decode method_4_code 18 = .ok (.goto 4, 3) := by decide +kernel
theorem d8_21 : decode method_4_code 21 = .ok (.iconst 0, 1) := by decide +kernel
theorem d8_22 : decode method_4_code 22 = .ok (.i2l, 1) := by decide +kernel
theorem d8_23 : decode method_4_code 23 = .ok (.lstore 6, 2) := by decide +kernel
theorem d8_25 : decode method_4_code 25 = .ok (.lload_n 0, 1) := by decide +kernel
theorem d8_26 : decode method_4_code 26 = .ok (.bipush 56, 2) := by decide +kernel
theorem d8_28 : decode method_4_code 28 = .ok (.bipush 8, 2) := by decide +kernel
theorem d8_30 : decode method_4_code 30 = .ok (.iload_n 2, 1) := by decide +kernel
theorem d8_31 : decode method_4_code 31 = .ok (.imul, 1) := by decide +kernel
theorem d8_32 : decode method_4_code 32 = .ok (.isub, 1) := by decide +kernel
theorem d8_33 : decode method_4_code 33 = .ok (.lushr, 1) := by decide +kernel
theorem d8_34 : decode method_4_code 34 = .ok (.ldc2_w 28, 3) := by decide +kernel
theorem d8_37 : decode method_4_code 37 = .ok (.land, 1) := by decide +kernel
theorem d8_38 : decode method_4_code 38 = .ok (.lload 6, 2) := by decide +kernel
theorem d8_40 : decode method_4_code 40 = .ok (.lcmp, 1) := by decide +kernel
theorem d8_41 : decode method_4_code 41 = .ok (.ifCond .ne 7, 3) := by decide +kernel
theorem d8_44 : decode method_4_code 44 = .ok (.iconst 1, 1) := by decide +kernel
theorem d8_45 : decode method_4_code 45 = .ok (.goto 4, 3) := by decide +kernel
theorem d8_49 : decode method_4_code 49 = .ok (.ireturn, 1) := by decide +kernel
theorem ef_At (m : MethodId) (q0 : Int64) (p1 : Int32) (p2 : Int32) (p3 : Int32) (p4 : Int32) : entryFrame m #[(.long q0), (.int p1), (.int p2), (.int p3), (.int p4)] 8 = mkF m 0 #[.val (.long q0), .second, .val (.int p1), .val (.int p2), .val (.int p3), .val (.int p4), .unset, .unset] [] := by first | (simp [entryFrame, mkF, argsToLocals, Value.category]; done) | rfl
def QAt (Z : State) (q0 : Int64) (p1 : Int32) (p2 : Int32) (p3 : Int32) (p4 : Int32) (h0 : Heap) (n0 : Nat) (v : Option Value) (h : Heap) (L : List Loc) : Prop := v = some (.int (1 : Int32)) ∧ Fr n0 L ∧ h = h0
set_option maxRecDepth 65536 in
set_option maxHeartbeats 40000000 in
theorem rmAt (l : Launch) (Z : State) (aV : Array Value) (hw : ∀ d ∈ tables_1, d.before aV Z = true) (ws : List Jvm.Cond) (q0 : Int64) (p1 : Int32) (p2 : Int32) (p3 : Int32) (p4 : Int32) (h0 : Heap) (n0 : Nat) (Zn : n0 ≤ h0.size) (hAt : own_atP q0 p1 p2 p3 p4) :
    MetFree l (⟨"org/succession/NamesKeyPinLaw", "at", "(JIZCI)Z"⟩ : MethodName) (head1 (Jvm.Cond.code (⟨"org/succession/NamesKeyPinLaw", "at", "(JIZCI)Z"⟩ : MethodName) method_4_code 8 (some .boolean) :: ws) ({ frames := 0, cells := 0, slots := 0, locals := 0 } : Room)) (fun a U => a = #[(.long q0), (.int p1), (.int p2), (.int p3), (.int p4)] ∧ Z.Warmed39 U.vm ∧ U.heap = h0) (fun _ _ _ _ _ => True) (fun _ U o U' => ∃ v L, o = .returned v ∧ QAt Z q0 p1 p2 p3 p4 h0 n0 v U'.heap L ∧ FrameEnd U o U' L ({ frames := 0, cells := 0, slots := 0, locals := 0 } : Room).cells ({ frames := 0, cells := 0, slots := 0, locals := 0 } : Room).slots) := by
  refine MetFree.of_bodySF (plainFor_of_name pn_4) hisR ?_
  intro p e s m args below meth c s₁ Bd hml0 hP hK
  obtain ⟨rfl, hZ, hh⟩ := hP
  have hx := Bd.exec
  have hby := Bd.bytes
  have hml : c.maxLocals = 8 := hml0
  have hown : s.vm.findClass "org/succession/NamesKeyPinLaw" = some m.cls := findClass_of_methodNamed Bd.named
  have hnm := (name_of_methodNamed Bd.named Bd.method).1
  have X0 : Stand p l e ({ frames := 0, cells := 0, slots := 0, locals := 0 } : Room) s m #[(.long q0), (.int p1), (.int p2), (.int p3), (.int p4)] below meth c s₁ [] 0 0 := Stand.of_body Bd
  have e0 : s₁.heap = h0 := by rw [← hh, Bd.state]; rfl
  have N0 := Fr.nil n0
  have Kp := Keep.refl h0 []
  show Run p e below (Ends s (QAt Z q0 p1 p2 p3 p4 h0 n0) ({ frames := 0, cells := 0, slots := 0, locals := 0 } : Room).cells ({ frames := 0, cells := 0, slots := 0, locals := 0 } : Room).slots) _
  refine Run.st (S' := s₁.setTop (mkF m 0 #[.val (.long q0), .second, .val (.int p1), .val (.int p2), .val (.int p3), .val (.int p4), .unset, .unset] [])) (fun t k => castTop (ef_At m q0 p1 p2 p3 p4) k) ?_
  refine Run.st (S' := s₁.setTop (mkF m 1 #[.val (.long q0), .second, .val (.int p1), .val (.int p2), .val (.int p3), .val (.int p4), .unset, .unset] [(.int p2)])) (fun _ k => XS.iloadN X0.here hx rfl (hb hby d8_0) rfl k) ?_
  by_cases hc1_1 : p2 = (0 : Int32)
  · refine Run.st (S' := s₁.setTop (mkF m 13 #[.val (.long q0), .second, .val (.int p1), .val (.int p2), .val (.int p3), .val (.int p4), .unset, .unset] [(.int p4), (.int p1)])) (fun _ k => XS.ifYes X0.here hx rfl (pc0 := 1) (pc' := 10) rfl (hb hby d8_1) rfl ((if0 _ _).trans (teq hc1_1).1) (by decide) (by decide) (XS.iloadN X0.here hx rfl (hb hby d8_10) rfl (XS.iload X0.here hx rfl (hb hby d8_11) rfl k))) ?_
    by_cases hc13_2 : p1 < p4
    · refine Run.st (S' := s₁.setTop (mkF m 30 #[.val (.long q0), .second, .val (.int p1), .val (.int p2), .val (.int p3), .val (.int p4), .val (.long (p3.toInt64)), .second] [(.int (8 : Int32)), (.int (56 : Int32)), (.long q0)])) (fun _ k => XS.icmpNo X0.here hx rfl (hb hby d8_13) rfl (tlt hc13_2).2.1 (XS.iload X0.here hx rfl (hb hby d8_16) rfl (XS.goto X0.here hx rfl (pc0 := 18) (pc' := 22) rfl (hb hby d8_18) (by decide) (by decide) (XS.i2l X0.here hx rfl (hb hby d8_22) rfl (XS.lstore X0.here hx rfl (hb hby d8_23) rfl (l' := #[.val (.long q0), .second, .val (.int p1), .val (.int p2), .val (.int p3), .val (.int p4), .val (.long (p3.toInt64)), .second]) rfl (XS.lloadN X0.here hx rfl (hb hby d8_25) rfl (XS.bipush X0.here hx rfl (hb hby d8_26) (XS.bipush X0.here hx rfl (hb hby d8_28) k)))))))) ?_
      refine Run.st (S' := s₁.setTop (mkF m 41 #[.val (.long q0), .second, .val (.int p1), .val (.int p2), .val (.int p3), .val (.int p4), .val (.long (p3.toInt64)), .second] [(.int (lcmpW (((q0.toUInt64 >>> (((56 : Int32) - ((8 : Int32) * p1)) &&& 0x3f).toInt64.toUInt64).toInt64) &&& (255 : Int64)) (p3.toInt64)))])) (fun _ k => XS.iloadN X0.here hx rfl (hb hby d8_30) rfl (XS.imul X0.here hx rfl (hb hby d8_31) rfl (XS.isub X0.here hx rfl (hb hby d8_32) rfl (XS.lushr X0.here hx rfl (hb hby d8_33) rfl (X0.ldc2Long hx hown (mvT hZ (hwi hw 5 rfl)) (g := (mkF m 34 #[.val (.long q0), .second, .val (.int p1), .val (.int p2), .val (.int p3), .val (.int p4), .val (.long (p3.toInt64)), .second] [(.long ((q0.toUInt64 >>> (((56 : Int32) - ((8 : Int32) * p1)) &&& 0x3f).toInt64.toUInt64).toInt64))])) rfl (hb hby d8_34) _ (XS.land X0.here hx rfl (hb hby d8_37) rfl (XS.lload X0.here hx rfl (hb hby d8_38) rfl (XS.lcmp X0.here hx rfl (hb hby d8_40) rfl k)))))))) ?_
      refine Run.st (S' := s₁.setTop (mkF m 49 #[.val (.long q0), .second, .val (.int p1), .val (.int p2), .val (.int p3), .val (.int p4), .val (.long (p3.toInt64)), .second] [(.int (1 : Int32))])) (fun _ k => XS.ifNo X0.here hx rfl (hb hby d8_41) rfl (lcYes (Jvm.Free.XT.ll_ne_f (show (((q0.toUInt64 >>> (((56 : Int32) - ((8 : Int32) * p1)) &&& 0x3f).toInt64.toUInt64).toInt64) &&& (255 : Int64)) = (p3.toInt64) from (by rw [own_atP, if_pos hc1_1, if_pos hc13_2] at hAt; exact hAt)))) (XS.iconst X0.here hx rfl (hb hby d8_44) (XS.goto X0.here hx rfl (pc0 := 45) (pc' := 49) rfl (hb hby d8_45) (by decide) (by decide) k))) ?_
      refine Run.out X0 hx Bd.notSynchronized Bd.returns rfl (Or.inl ⟨rfl, by simp, _, rfl⟩) (hb hby d8_49) (by decide) (by decide) ?_
      rw [e0]
      exact ⟨rfl, N0, rfl⟩
    · refine Run.st (S' := s₁.setTop (mkF m 31 #[.val (.long q0), .second, .val (.int p1), .val (.int p2), .val (.int p3), .val (.int p4), .val (.long (0 : Int64)), .second] [(.int p1), (.int (8 : Int32)), (.int (56 : Int32)), (.long q0)])) (fun _ k => XS.icmpYes X0.here hx rfl (pc0 := 13) (pc' := 21) rfl (hb hby d8_13) rfl (flt hc13_2).2.1 (by decide) (by decide) (XS.iconst X0.here hx rfl (hb hby d8_21) (XS.i2l X0.here hx rfl (hb hby d8_22) rfl (XS.lstore X0.here hx rfl (hb hby d8_23) rfl (l' := #[.val (.long q0), .second, .val (.int p1), .val (.int p2), .val (.int p3), .val (.int p4), .val (.long (0 : Int64)), .second]) rfl (XS.lloadN X0.here hx rfl (hb hby d8_25) rfl (XS.bipush X0.here hx rfl (hb hby d8_26) (XS.bipush X0.here hx rfl (hb hby d8_28) (XS.iloadN X0.here hx rfl (hb hby d8_30) rfl k)))))))) ?_
      refine Run.st (S' := s₁.setTop (mkF m 44 #[.val (.long q0), .second, .val (.int p1), .val (.int p2), .val (.int p3), .val (.int p4), .val (.long (0 : Int64)), .second] [])) (fun _ k => XS.imul X0.here hx rfl (hb hby d8_31) rfl (XS.isub X0.here hx rfl (hb hby d8_32) rfl (XS.lushr X0.here hx rfl (hb hby d8_33) rfl (X0.ldc2Long hx hown (mvT hZ (hwi hw 5 rfl)) (g := (mkF m 34 #[.val (.long q0), .second, .val (.int p1), .val (.int p2), .val (.int p3), .val (.int p4), .val (.long (0 : Int64)), .second] [(.long ((q0.toUInt64 >>> (((56 : Int32) - ((8 : Int32) * p1)) &&& 0x3f).toInt64.toUInt64).toInt64))])) rfl (hb hby d8_34) _ (XS.land X0.here hx rfl (hb hby d8_37) rfl (XS.lload X0.here hx rfl (hb hby d8_38) rfl (XS.lcmp X0.here hx rfl (hb hby d8_40) rfl (XS.ifNo X0.here hx rfl (hb hby d8_41) rfl (lcYes (Jvm.Free.XT.ll_ne_f (show (((q0.toUInt64 >>> (((56 : Int32) - ((8 : Int32) * p1)) &&& 0x3f).toInt64.toUInt64).toInt64) &&& (255 : Int64)) = (0 : Int64) from (by rw [own_atP, if_pos hc1_1, if_neg hc13_2] at hAt; exact hAt)))) k)))))))) ?_
      refine Run.st (S' := s₁.setTop (mkF m 49 #[.val (.long q0), .second, .val (.int p1), .val (.int p2), .val (.int p3), .val (.int p4), .val (.long (0 : Int64)), .second] [(.int (1 : Int32))])) (fun _ k => XS.iconst X0.here hx rfl (hb hby d8_44) (XS.goto X0.here hx rfl (pc0 := 45) (pc' := 49) rfl (hb hby d8_45) (by decide) (by decide) k)) ?_
      refine Run.out X0 hx Bd.notSynchronized Bd.returns rfl (Or.inl ⟨rfl, by simp, _, rfl⟩) (hb hby d8_49) (by decide) (by decide) ?_
      rw [e0]
      exact ⟨rfl, N0, rfl⟩
  · refine Run.st (S' := s₁.setTop (mkF m 31 #[.val (.long q0), .second, .val (.int p1), .val (.int p2), .val (.int p3), .val (.int p4), .val (.long (255 : Int64)), .second] [(.int p1), (.int (8 : Int32)), (.int (56 : Int32)), (.long q0)])) (fun _ k => XS.ifNo X0.here hx rfl (hb hby d8_1) rfl ((if0 _ _).trans (feq hc1_1).1) (X0.ldc2Long hx hown (mvT hZ (hwi hw 5 rfl)) (g := (mkF m 4 #[.val (.long q0), .second, .val (.int p1), .val (.int p2), .val (.int p3), .val (.int p4), .unset, .unset] [])) rfl (hb hby d8_4) _ (XS.goto X0.here hx rfl (pc0 := 7) (pc' := 23) rfl (hb hby d8_7) (by decide) (by decide) (XS.lstore X0.here hx rfl (hb hby d8_23) rfl (l' := #[.val (.long q0), .second, .val (.int p1), .val (.int p2), .val (.int p3), .val (.int p4), .val (.long (255 : Int64)), .second]) rfl (XS.lloadN X0.here hx rfl (hb hby d8_25) rfl (XS.bipush X0.here hx rfl (hb hby d8_26) (XS.bipush X0.here hx rfl (hb hby d8_28) (XS.iloadN X0.here hx rfl (hb hby d8_30) rfl k)))))))) ?_
    refine Run.st (S' := s₁.setTop (mkF m 44 #[.val (.long q0), .second, .val (.int p1), .val (.int p2), .val (.int p3), .val (.int p4), .val (.long (255 : Int64)), .second] [])) (fun _ k => XS.imul X0.here hx rfl (hb hby d8_31) rfl (XS.isub X0.here hx rfl (hb hby d8_32) rfl (XS.lushr X0.here hx rfl (hb hby d8_33) rfl (X0.ldc2Long hx hown (mvT hZ (hwi hw 5 rfl)) (g := (mkF m 34 #[.val (.long q0), .second, .val (.int p1), .val (.int p2), .val (.int p3), .val (.int p4), .val (.long (255 : Int64)), .second] [(.long ((q0.toUInt64 >>> (((56 : Int32) - ((8 : Int32) * p1)) &&& 0x3f).toInt64.toUInt64).toInt64))])) rfl (hb hby d8_34) _ (XS.land X0.here hx rfl (hb hby d8_37) rfl (XS.lload X0.here hx rfl (hb hby d8_38) rfl (XS.lcmp X0.here hx rfl (hb hby d8_40) rfl (XS.ifNo X0.here hx rfl (hb hby d8_41) rfl (lcYes (Jvm.Free.XT.ll_ne_f (show (((q0.toUInt64 >>> (((56 : Int32) - ((8 : Int32) * p1)) &&& 0x3f).toInt64.toUInt64).toInt64) &&& (255 : Int64)) = (255 : Int64) from (by rw [own_atP, if_neg hc1_1] at hAt; exact hAt)))) k)))))))) ?_
    refine Run.st (S' := s₁.setTop (mkF m 49 #[.val (.long q0), .second, .val (.int p1), .val (.int p2), .val (.int p3), .val (.int p4), .val (.long (255 : Int64)), .second] [(.int (1 : Int32))])) (fun _ k => XS.iconst X0.here hx rfl (hb hby d8_44) (XS.goto X0.here hx rfl (pc0 := 45) (pc' := 49) rfl (hb hby d8_45) (by decide) (by decide) k)) ?_
    refine Run.out X0 hx Bd.notSynchronized Bd.returns rfl (Or.inl ⟨rfl, by simp, _, rfl⟩) (hb hby d8_49) (by decide) (by decide) ?_
    rw [e0]
    exact ⟨rfl, N0, rfl⟩
theorem own_nle {j n : Int32} {i : Nat} (hj : j.toInt = i) (h : ¬ j < n) : n.toNatClampNeg ≤ i := by
  rw [Int32.lt_iff_toInt_lt] at h
  simp only [Int32.toNatClampNeg]
  omega
theorem own_kz {cs : List Int32} {n : Int32} (hl : cs.length = n.toNatClampNeg) (h : n = (0 : Int32)) : own_k [] 8 = own_k cs 8 := by
  have e : cs = [] := by
    apply List.eq_nil_of_length_eq_zero
    rw [hl, h]; rfl
  rw [e]
theorem own_L1of {cs : List Int32} (hr : ∀ c ∈ cs, ¬ c < 0 ∧ ¬ (65535 : Int32) < c) (h : ∀ c ∈ cs, ¬ (255 : Int32) < c) (hl : cs.length ≤ 4000) : own_L1 cs := ⟨fun c hc => ⟨(hr c hc).1, h c hc⟩, hl⟩
theorem pd_16 : parseMethodDescriptor "(JJII)C" = some ⟨[.long, .long, .int, .int], some .char⟩ := by decide +kernel
theorem pd_17 : parseMethodDescriptor "(JIZCI)Z" = some ⟨[.long, .int, .boolean, .char, .int], some .boolean⟩ := by decide +kernel
theorem pd_18 : parseMethodDescriptor "([C)V" = some ⟨[(.array .char)], none⟩ := by decide +kernel
theorem pd_19 : parseMethodDescriptor "(Ljava/lang/String;)J" = some ⟨[(.object "java/lang/String")], some .long⟩ := by decide +kernel
theorem ef_0 (m : MethodId) (p0 : Int32) (q1 : Int64) (q2 : Int64) (p3 : Int32) (p4 : Int32) : entryFrame m #[(.int p0), (.long q1), (.long q2), (.int p3), (.int p4)] maxLocals = mkF m 0 #[.val (.int p0), .val (.long q1), .second, .val (.long q2), .second, .val (.int p3), .val (.int p4), .unset, .unset, .unset, .unset, .unset, .unset, .unset, .unset, .unset, .unset, .unset, .unset, .unset] [] := by first | (simp [entryFrame, mkF, argsToLocals, Value.category, maxLocals]; done) | rfl
def Q0 (Z : State) (p0 : Int32) (q1 : Int64) (q2 : Int64) (p3 : Int32) (p4 : Int32) (zc : Int32) (fm : Value) (h0 : Heap) (n0 : Nat) (v : Option Value) (h : Heap) (L : List Loc) : Prop := v = some (.int 1) ∧ Fr n0 L
set_option maxRecDepth 65536 in
set_option maxHeartbeats 40000000 in
theorem rm0 (l : Launch) (Z : State) (aV : Array Value) (hw : ∀ d ∈ tables_1, d.before aV Z = true) (ws : List Jvm.Cond) (p0 : Int32) (q1 : Int64) (q2 : Int64) (p3 : Int32) (p4 : Int32) (zc : Int32) (fm : Value) (h0 : Heap) (n0 : Nat) (Zn : n0 ≤ h0.size) (OL : Old Z n0 h0) (hzc : ¬ zc = 0) (rfm : fm.isRef = true) (S_cs : Sta Z Z.heap "java/lang/String" "COMPACT_STRINGS" "Z" (.int zc)) (S_sf : Sta Z Z.heap "jdk/internal/util/Preconditions" "SIOOBE_FORMATTER" "Ljava/util/function/BiFunction;" fm) (S_as : Sta Z Z.heap "java/lang/StringUTF16" "$assertionsDisabled" "Z" (.int (1 : Int32))) (S_hi : Sta Z Z.heap "java/lang/StringUTF16" "HI_BYTE_SHIFT" "I" (.int (0 : Int32))) (S_lo : Sta Z Z.heap "java/lang/StringUTF16" "LO_BYTE_SHIFT" "I" (.int (8 : Int32))) :
    MetFree l x (head1 (Jvm.Cond.code x code maxLocals ret :: ws) room_1) (fun a U => a = #[(.int p0), (.long q1), (.long q2), (.int p3), (.int p4)] ∧ Z.Warmed39 U.vm ∧ U.heap = h0 ∧ CHv Z consts_1 U.vm h0) (fun _ _ _ _ _ => True) (fun _ U o U' => ∃ v L, o = .returned v ∧ Q0 Z p0 q1 q2 p3 p4 zc fm h0 n0 v U'.heap L ∧ CHr Z consts_1 U.vm U.heap U'.vm U'.heap ∧ ReturnedEndW U o U' L room_1.cells room_1.slots) := by
  refine MetFree.of_bodySF (plainFor_of_name pn_4) hisR ?_
  intro p e s m args below meth c s₁ Bd hml0 hP hK
  obtain ⟨rfl, hZ, hh, CH0⟩ := hP
  have hx := Bd.exec
  have hby := Bd.bytes
  have hml : c.maxLocals = 20 := hml0
  have hown : s.vm.findClass "org/succession/NamesKeyPinLaw" = some m.cls := findClass_of_methodNamed Bd.named
  have hnm := (name_of_methodNamed Bd.named Bd.method).1
  have X0 : Stand p l e room_1 s m #[(.int p0), (.long q1), (.long q2), (.int p3), (.int p4)] below meth c s₁ [] 0 0 := Stand.of_body Bd
  have e0 : s₁.heap = h0 := by rw [← hh, Bd.state]; rfl
  have N0 := Fr.nil n0
  have Kp := Keep.refl h0 []
  have X0 : Stand p l e room_1 (s.setVm s.vm) m #[(.int p0), (.long q1), (.long q2), (.int p3), (.int p4)] below meth c s₁ [] 0 0 := X0
  have hS : s.Since s.vm 0 := (State.WarmedH.refl s).since 0
  have hk : 0 ≤ h0.size := Nat.zero_le _
  have CR := CHr.refl CH0
  have hZ : Z.Warmed39 (s.setVm s.vm).vm := hZ
  have hown : (s.setVm s.vm).vm.findClass "org/succession/NamesKeyPinLaw" = some m.cls := hown
  show Run p e below (EndsW Z s (Q0 Z p0 q1 q2 p3 p4 zc fm h0 n0) room_1.cells room_1.slots) _
  refine Run.st (S' := s₁.setTop (mkF m 0 #[.val (.int p0), .val (.long q1), .second, .val (.long q2), .second, .val (.int p3), .val (.int p4), .unset, .unset, .unset, .unset, .unset, .unset, .unset, .unset, .unset, .unset, .unset, .unset, .unset] [])) (fun t k => castTop (ef_0 m p0 q1 q2 p3 p4) k) ?_
  refine Run.st (S' := s₁.setTop (mkF m 9 #[.val (.int p0), .val (.long q1), .second, .val (.long q2), .second, .val (.int p3), .val (.int p4), .val (.int ((p0 &&& (15 : Int32)) % (10 : Int32))), .unset, .unset, .unset, .unset, .unset, .unset, .unset, .unset, .unset, .unset, .unset, .unset] [])) (fun _ k => XS.iloadN X0.here hx rfl (hb hby at_0) rfl (XS.bipush X0.here hx rfl (hb hby at_1) (XS.iand X0.here hx rfl (hb hby at_3) rfl (XS.bipush X0.here hx rfl (hb hby at_4) (iremM X0 hx rfl (hb hby at_6) rfl (by decide) (XS.istore X0.here hx rfl (hb hby at_7) rfl (l' := #[.val (.int p0), .val (.long q1), .second, .val (.long q2), .second, .val (.int p3), .val (.int p4), .val (.int ((p0 &&& (15 : Int32)) % (10 : Int32))), .unset, .unset, .unset, .unset, .unset, .unset, .unset, .unset, .unset, .unset, .unset, .unset]) rfl k)))))) ?_
  have hnn : 0 ≤ (((p0 &&& (15 : Int32)) % (10 : Int32))).toInt ∧ (((p0 &&& (15 : Int32)) % (10 : Int32))).toInt < 10 := (by have := rng32 ((p0 &&& (15 : Int32)) % (10 : Int32)); have := c_irem (p0 &&& (15 : Int32)) (10 : Int32) 10 (by decide); have := rng32 (p0 &&& (15 : Int32)); have := c_mask p0 (15 : Int32) 4 (by decide) (by decide); have := rng32 p0; (try simp only [Int32.lt_iff_toInt_lt, Int64.lt_iff_toInt_lt, Int32.le_iff_toInt_le, Int64.le_iff_toInt_le, ← Int32.toInt_inj, ← Int64.toInt_inj] at  ⊢); omega)
  generalize enn : ((p0 &&& (15 : Int32)) % (10 : Int32)) = nn at hnn ⊢
  refine Run.st (S' := s₁.setTop (mkF m 11 #[.val (.int p0), .val (.long q1), .second, .val (.long q2), .second, .val (.int p3), .val (.int p4), .val (.int nn), .unset, .unset, .unset, .unset, .unset, .unset, .unset, .unset, .unset, .unset, .unset, .unset] [(.int (9 : Int32))])) (fun _ k => XS.bipush X0.here hx rfl (hb hby at_9) k) ?_
  obtain ⟨T1, h1, k1, X1, e1, E1, A1, st1⟩ := newP X0 hx hZ (hwi hw 0 rfl) e0 (g := (mkF m 11 #[.val (.int p0), .val (.long q1), .second, .val (.long q2), .second, .val (.int p3), .val (.int p4), .val (.int nn), .unset, .unset, .unset, .unset, .unset, .unset, .unset, .unset, .unset, .unset, .unset, .unset] [(.int (9 : Int32))])) rfl (hb hby at_11) rfl (by decide) (cap := 9) (by decide) (by decide) (by decide) (by decide)
  obtain ⟨b1, g1⟩ : ∃ z, z = h0.size := ⟨_, rfl⟩
  rw [← g1] at A1 st1
  have CR := CR.trans (CHr.ext E1 CR.1)
  have OL := OL.ext E1
  have g_b1 : n0 ≤ b1 := Nat.le_trans Zn (Nat.le_of_eq g1.symm)
  have Zn := Nat.le_trans Zn E1.1
  have hk := Nat.le_trans hk E1.1
  have sz_b1 : h0.size ≤ b1 := Nat.le_trans Kp.1 (Nat.le_of_eq g1.symm)
  have Kp := Kp.ext E1
  have V_b1 : Arv Z h1 b1 k1 .char (9 : Int32) [(.int (0 : Int32)), (.int (0 : Int32)), (.int (0 : Int32)), (.int (0 : Int32)), (.int (0 : Int32)), (.int (0 : Int32)), (.int (0 : Int32)), (.int (0 : Int32)), (.int (0 : Int32))] (.int (0 : Int32)) := (Arv.new A1 (by decide)).pad (pad_rep [] (.int (0 : Int32)) 9)
  refine Run.st (S' := T1.setTop (mkF m 23 #[.val (.int p0), .val (.long q1), .second, .val (.long q2), .second, .val (.int p3), .val (.int p4), .val (.int nn), .val (.ref b1), .unset, .unset, .unset, .unset, .unset, .unset, .unset, .unset, .unset, .unset, .unset] [(.int (0 : Int32)), (.int p3), (.long q2), (.long q1), (.int (0 : Int32)), (.ref b1)])) (fun _ k => st1 _ (XS.astore X1.here hx rfl (hb hby at_13) rfl rfl (l' := #[.val (.int p0), .val (.long q1), .second, .val (.long q2), .second, .val (.int p3), .val (.int p4), .val (.int nn), .val (.ref b1), .unset, .unset, .unset, .unset, .unset, .unset, .unset, .unset, .unset, .unset, .unset]) rfl (XS.aload X1.here hx rfl (hb hby at_15) rfl rfl (XS.iconst X1.here hx rfl (hb hby at_17) (XS.lloadN X1.here hx rfl (hb hby at_18) rfl (XS.lloadN X1.here hx rfl (hb hby at_19) rfl (XS.iload X1.here hx rfl (hb hby at_20) rfl (XS.iconst X1.here hx rfl (hb hby at_22) k)))))))) ?_
  obtain ⟨_, _, ⟨T2, L2, k2, n2⟩, -, X2, ⟨Lc2, hQ2, l2, y2, z2⟩, st2⟩ := Jvm.LawKit.callS X1 hx (y := (⟨"org/succession/NamesKeyPinLaw", "ch", "(JJII)C"⟩ : MethodName)) hown (mvT hZ (hwi hw 1 rfl)) (mvT hZ (hwi hw 2 rfl)) (mvT hZ (hwi hw 3 rfl)) (mvT hZ (hwi hw 4 rfl)) (by decide) (backOf (W := 2) (rmCh l Z aV hw [] q1 q2 p3 (0 : Int32) h1 n0 Zn ) hZ (hwi hw 4 rfl) (hwi hw 3 rfl) (by decide) (by decide)) (g := (mkF m 23 #[.val (.int p0), .val (.long q1), .second, .val (.long q2), .second, .val (.int p3), .val (.int p4), .val (.int nn), .val (.ref b1), .unset, .unset, .unset, .unset, .unset, .unset, .unset, .unset, .unset, .unset, .unset] [(.int (0 : Int32)), (.int p3), (.long q2), (.long q1), (.int (0 : Int32)), (.ref b1)])) rfl (by rw [hml]; rfl) (argsL := [(.long q1), (.long q2), (.int p3), (.int (0 : Int32))]) (rest := [(.int (0 : Int32)), (.ref b1)]) (lenOf pd_16 rfl) rfl (by show 2 * 0 + _ ≤ _; exact Nat.le_of_eq rfl) (hb hby at_23) (fun _ _ => ⟨rfl, e1, (by decide : 1 + 0 ≤ _), (by decide : 9 + 0 ≤ _)⟩)
  dsimp only [Pt.U, Pt.locs, Pt.cells, Pt.slots] at X2 l2 y2 z2 st2 hQ2
  replace l2 := l2.symm; replace y2 := y2.symm; replace z2 := z2.symm; subst l2 y2 z2
  obtain ⟨az2, rfl, haz2, N2q, e2⟩ := hQ2
  have N2 := Fr.app N0 N2q
  refine Run.st (S' := T2.setTop (mkF m 26 #[.val (.int p0), .val (.long q1), .second, .val (.long q2), .second, .val (.int p3), .val (.int p4), .val (.int nn), .val (.ref b1), .unset, .unset, .unset, .unset, .unset, .unset, .unset, .unset, .unset, .unset, .unset] [(.int az2), (.int (0 : Int32)), (.ref b1)])) (fun _ k => st2 _ k) ?_
  have sfw := (own_safeA (EL := consts_1) hZ.alike V_b1 (by decide))
  obtain ⟨cl3, Ar3, qa3, Sa3, Na3, Ha3, Ga3⟩ := V_b1
  have hin3 : ¬ ((0 : Int32) < 0 ∨ cl3.slots.size ≤ ((0 : Int32)).toNatClampNeg) := inb_of Sa3 ⟨by decide, by decide⟩
  obtain ⟨T3, h3, X3, e3, W3, st3⟩ := stC X2 hx hZ e2 Ar3 (j := (0 : Int32)) hin3 (g := (mkF m 26 #[.val (.int p0), .val (.long q1), .second, .val (.long q2), .second, .val (.int p3), .val (.int p4), .val (.int nn), .val (.ref b1), .unset, .unset, .unset, .unset, .unset, .unset, .unset, .unset, .unset, .unset, .unset] [(.int az2), (.int (0 : Int32)), (.ref b1)])) rfl rfl (hb hby at_26)
  have V_b1 := Arv.set Ar3 qa3 Sa3 Na3 Ha3 Ga3 (fits_nar_char _) W3 0 rfl (Nat.le_of_ble_eq_true rfl)
  have V_b1 : Arv Z h3 b1 k1 .char (9 : Int32) [(.int (nar .char az2)), (.int (0 : Int32)), (.int (0 : Int32)), (.int (0 : Int32)), (.int (0 : Int32)), (.int (0 : Int32)), (.int (0 : Int32)), (.int (0 : Int32)), (.int (0 : Int32))] (.int (0 : Int32)) := V_b1
  have OL := OL.wr W3 g_b1
  have CR := CR.trans (CHr.wr W3 sfw CR.1)
  have N3 := Fr.snoc X3 N2 g_b1
  have Kp := Kp.wr W3 (Or.inr sz_b1)
  have Zn := Nat.le_trans Zn (Nat.le_of_eq W3.size.symm)
  have hk := Nat.le_trans hk (Nat.le_of_eq W3.size.symm)
  refine Run.st (S' := T3.setTop (mkF m 27 #[.val (.int p0), .val (.long q1), .second, .val (.long q2), .second, .val (.int p3), .val (.int p4), .val (.int nn), .val (.ref b1), .unset, .unset, .unset, .unset, .unset, .unset, .unset, .unset, .unset, .unset, .unset] [])) (fun _ k => st3 _ k) ?_
  obtain ⟨x0, ex0⟩ : ∃ z, z = az2 := ⟨_, rfl⟩
  have hx0 : ¬ x0 < 0 ∧ ¬ (65535 : Int32) < x0 := by rw [ex0]; exact haz2
  rw [own_nar16 (z := az2) haz2, ← ex0] at V_b1
  refine Run.st (S' := T3.setTop (mkF m 35 #[.val (.int p0), .val (.long q1), .second, .val (.long q2), .second, .val (.int p3), .val (.int p4), .val (.int nn), .val (.ref b1), .unset, .unset, .unset, .unset, .unset, .unset, .unset, .unset, .unset, .unset, .unset] [(.int (1 : Int32)), (.int p3), (.long q2), (.long q1), (.int (1 : Int32)), (.ref b1)])) (fun _ k => XS.aload X3.here hx rfl (hb hby at_27) rfl rfl (XS.iconst X3.here hx rfl (hb hby at_29) (XS.lloadN X3.here hx rfl (hb hby at_30) rfl (XS.lloadN X3.here hx rfl (hb hby at_31) rfl (XS.iload X3.here hx rfl (hb hby at_32) rfl (XS.iconst X3.here hx rfl (hb hby at_34) k)))))) ?_
  obtain ⟨_, _, ⟨T4, L4, k4, n4⟩, -, X4, ⟨Lc4, hQ4, l4, y4, z4⟩, st4⟩ := Jvm.LawKit.callS X3 hx (y := (⟨"org/succession/NamesKeyPinLaw", "ch", "(JJII)C"⟩ : MethodName)) hown (mvT hZ (hwi hw 1 rfl)) (mvT hZ (hwi hw 2 rfl)) (mvT hZ (hwi hw 3 rfl)) (mvT hZ (hwi hw 4 rfl)) (by decide) (backOf (W := 2) (rmCh l Z aV hw [] q1 q2 p3 (1 : Int32) h3 n0 Zn ) hZ (hwi hw 4 rfl) (hwi hw 3 rfl) (by decide) (by decide)) (g := (mkF m 35 #[.val (.int p0), .val (.long q1), .second, .val (.long q2), .second, .val (.int p3), .val (.int p4), .val (.int nn), .val (.ref b1), .unset, .unset, .unset, .unset, .unset, .unset, .unset, .unset, .unset, .unset, .unset] [(.int (1 : Int32)), (.int p3), (.long q2), (.long q1), (.int (1 : Int32)), (.ref b1)])) rfl (by rw [hml]; rfl) (argsL := [(.long q1), (.long q2), (.int p3), (.int (1 : Int32))]) (rest := [(.int (1 : Int32)), (.ref b1)]) (lenOf pd_16 rfl) rfl (by show 2 * 0 + _ ≤ _; exact Nat.le_of_eq rfl) (hb hby at_35) (fun _ _ => ⟨rfl, e3, (by decide : 1 + 0 ≤ _), (by decide : 9 + 0 ≤ _)⟩)
  dsimp only [Pt.U, Pt.locs, Pt.cells, Pt.slots] at X4 l4 y4 z4 st4 hQ4
  replace l4 := l4.symm; replace y4 := y4.symm; replace z4 := z4.symm; subst l4 y4 z4
  obtain ⟨az4, rfl, haz4, N4q, e4⟩ := hQ4
  have N4 := Fr.app N3 N4q
  refine Run.st (S' := T4.setTop (mkF m 38 #[.val (.int p0), .val (.long q1), .second, .val (.long q2), .second, .val (.int p3), .val (.int p4), .val (.int nn), .val (.ref b1), .unset, .unset, .unset, .unset, .unset, .unset, .unset, .unset, .unset, .unset, .unset] [(.int az4), (.int (1 : Int32)), (.ref b1)])) (fun _ k => st4 _ k) ?_
  have sfw := (own_safeA (EL := consts_1) hZ.alike V_b1 (by decide))
  obtain ⟨cl5, Ar5, qa5, Sa5, Na5, Ha5, Ga5⟩ := V_b1
  have hin5 : ¬ ((1 : Int32) < 0 ∨ cl5.slots.size ≤ ((1 : Int32)).toNatClampNeg) := inb_of Sa5 ⟨by decide, by decide⟩
  obtain ⟨T5, h5, X5, e5, W5, st5⟩ := stC X4 hx hZ e4 Ar5 (j := (1 : Int32)) hin5 (g := (mkF m 38 #[.val (.int p0), .val (.long q1), .second, .val (.long q2), .second, .val (.int p3), .val (.int p4), .val (.int nn), .val (.ref b1), .unset, .unset, .unset, .unset, .unset, .unset, .unset, .unset, .unset, .unset, .unset] [(.int az4), (.int (1 : Int32)), (.ref b1)])) rfl rfl (hb hby at_38)
  have V_b1 := Arv.set Ar5 qa5 Sa5 Na5 Ha5 Ga5 (fits_nar_char _) W5 1 rfl (Nat.le_of_ble_eq_true rfl)
  have V_b1 : Arv Z h5 b1 k1 .char (9 : Int32) [(.int x0), (.int (nar .char az4)), (.int (0 : Int32)), (.int (0 : Int32)), (.int (0 : Int32)), (.int (0 : Int32)), (.int (0 : Int32)), (.int (0 : Int32)), (.int (0 : Int32))] (.int (0 : Int32)) := V_b1
  have OL := OL.wr W5 g_b1
  have CR := CR.trans (CHr.wr W5 sfw CR.1)
  have N5 := Fr.snoc X5 N4 g_b1
  have Kp := Kp.wr W5 (Or.inr sz_b1)
  have Zn := Nat.le_trans Zn (Nat.le_of_eq W5.size.symm)
  have hk := Nat.le_trans hk (Nat.le_of_eq W5.size.symm)
  refine Run.st (S' := T5.setTop (mkF m 39 #[.val (.int p0), .val (.long q1), .second, .val (.long q2), .second, .val (.int p3), .val (.int p4), .val (.int nn), .val (.ref b1), .unset, .unset, .unset, .unset, .unset, .unset, .unset, .unset, .unset, .unset, .unset] [])) (fun _ k => st5 _ k) ?_
  obtain ⟨x1, ex1⟩ : ∃ z, z = az4 := ⟨_, rfl⟩
  have hx1 : ¬ x1 < 0 ∧ ¬ (65535 : Int32) < x1 := by rw [ex1]; exact haz4
  rw [own_nar16 (z := az4) haz4, ← ex1] at V_b1
  refine Run.st (S' := T5.setTop (mkF m 47 #[.val (.int p0), .val (.long q1), .second, .val (.long q2), .second, .val (.int p3), .val (.int p4), .val (.int nn), .val (.ref b1), .unset, .unset, .unset, .unset, .unset, .unset, .unset, .unset, .unset, .unset, .unset] [(.int (2 : Int32)), (.int p3), (.long q2), (.long q1), (.int (2 : Int32)), (.ref b1)])) (fun _ k => XS.aload X5.here hx rfl (hb hby at_39) rfl rfl (XS.iconst X5.here hx rfl (hb hby at_41) (XS.lloadN X5.here hx rfl (hb hby at_42) rfl (XS.lloadN X5.here hx rfl (hb hby at_43) rfl (XS.iload X5.here hx rfl (hb hby at_44) rfl (XS.iconst X5.here hx rfl (hb hby at_46) k)))))) ?_
  obtain ⟨_, _, ⟨T6, L6, k6, n6⟩, -, X6, ⟨Lc6, hQ6, l6, y6, z6⟩, st6⟩ := Jvm.LawKit.callS X5 hx (y := (⟨"org/succession/NamesKeyPinLaw", "ch", "(JJII)C"⟩ : MethodName)) hown (mvT hZ (hwi hw 1 rfl)) (mvT hZ (hwi hw 2 rfl)) (mvT hZ (hwi hw 3 rfl)) (mvT hZ (hwi hw 4 rfl)) (by decide) (backOf (W := 2) (rmCh l Z aV hw [] q1 q2 p3 (2 : Int32) h5 n0 Zn ) hZ (hwi hw 4 rfl) (hwi hw 3 rfl) (by decide) (by decide)) (g := (mkF m 47 #[.val (.int p0), .val (.long q1), .second, .val (.long q2), .second, .val (.int p3), .val (.int p4), .val (.int nn), .val (.ref b1), .unset, .unset, .unset, .unset, .unset, .unset, .unset, .unset, .unset, .unset, .unset] [(.int (2 : Int32)), (.int p3), (.long q2), (.long q1), (.int (2 : Int32)), (.ref b1)])) rfl (by rw [hml]; rfl) (argsL := [(.long q1), (.long q2), (.int p3), (.int (2 : Int32))]) (rest := [(.int (2 : Int32)), (.ref b1)]) (lenOf pd_16 rfl) rfl (by show 2 * 0 + _ ≤ _; exact Nat.le_of_eq rfl) (hb hby at_47) (fun _ _ => ⟨rfl, e5, (by decide : 1 + 0 ≤ _), (by decide : 9 + 0 ≤ _)⟩)
  dsimp only [Pt.U, Pt.locs, Pt.cells, Pt.slots] at X6 l6 y6 z6 st6 hQ6
  replace l6 := l6.symm; replace y6 := y6.symm; replace z6 := z6.symm; subst l6 y6 z6
  obtain ⟨az6, rfl, haz6, N6q, e6⟩ := hQ6
  have N6 := Fr.app N5 N6q
  refine Run.st (S' := T6.setTop (mkF m 50 #[.val (.int p0), .val (.long q1), .second, .val (.long q2), .second, .val (.int p3), .val (.int p4), .val (.int nn), .val (.ref b1), .unset, .unset, .unset, .unset, .unset, .unset, .unset, .unset, .unset, .unset, .unset] [(.int az6), (.int (2 : Int32)), (.ref b1)])) (fun _ k => st6 _ k) ?_
  have sfw := (own_safeA (EL := consts_1) hZ.alike V_b1 (by decide))
  obtain ⟨cl7, Ar7, qa7, Sa7, Na7, Ha7, Ga7⟩ := V_b1
  have hin7 : ¬ ((2 : Int32) < 0 ∨ cl7.slots.size ≤ ((2 : Int32)).toNatClampNeg) := inb_of Sa7 ⟨by decide, by decide⟩
  obtain ⟨T7, h7, X7, e7, W7, st7⟩ := stC X6 hx hZ e6 Ar7 (j := (2 : Int32)) hin7 (g := (mkF m 50 #[.val (.int p0), .val (.long q1), .second, .val (.long q2), .second, .val (.int p3), .val (.int p4), .val (.int nn), .val (.ref b1), .unset, .unset, .unset, .unset, .unset, .unset, .unset, .unset, .unset, .unset, .unset] [(.int az6), (.int (2 : Int32)), (.ref b1)])) rfl rfl (hb hby at_50)
  have V_b1 := Arv.set Ar7 qa7 Sa7 Na7 Ha7 Ga7 (fits_nar_char _) W7 2 rfl (Nat.le_of_ble_eq_true rfl)
  have V_b1 : Arv Z h7 b1 k1 .char (9 : Int32) [(.int x0), (.int x1), (.int (nar .char az6)), (.int (0 : Int32)), (.int (0 : Int32)), (.int (0 : Int32)), (.int (0 : Int32)), (.int (0 : Int32)), (.int (0 : Int32))] (.int (0 : Int32)) := V_b1
  have OL := OL.wr W7 g_b1
  have CR := CR.trans (CHr.wr W7 sfw CR.1)
  have N7 := Fr.snoc X7 N6 g_b1
  have Kp := Kp.wr W7 (Or.inr sz_b1)
  have Zn := Nat.le_trans Zn (Nat.le_of_eq W7.size.symm)
  have hk := Nat.le_trans hk (Nat.le_of_eq W7.size.symm)
  refine Run.st (S' := T7.setTop (mkF m 51 #[.val (.int p0), .val (.long q1), .second, .val (.long q2), .second, .val (.int p3), .val (.int p4), .val (.int nn), .val (.ref b1), .unset, .unset, .unset, .unset, .unset, .unset, .unset, .unset, .unset, .unset, .unset] [])) (fun _ k => st7 _ k) ?_
  obtain ⟨x2, ex2⟩ : ∃ z, z = az6 := ⟨_, rfl⟩
  have hx2 : ¬ x2 < 0 ∧ ¬ (65535 : Int32) < x2 := by rw [ex2]; exact haz6
  rw [own_nar16 (z := az6) haz6, ← ex2] at V_b1
  refine Run.st (S' := T7.setTop (mkF m 59 #[.val (.int p0), .val (.long q1), .second, .val (.long q2), .second, .val (.int p3), .val (.int p4), .val (.int nn), .val (.ref b1), .unset, .unset, .unset, .unset, .unset, .unset, .unset, .unset, .unset, .unset, .unset] [(.int (3 : Int32)), (.int p3), (.long q2), (.long q1), (.int (3 : Int32)), (.ref b1)])) (fun _ k => XS.aload X7.here hx rfl (hb hby at_51) rfl rfl (XS.iconst X7.here hx rfl (hb hby at_53) (XS.lloadN X7.here hx rfl (hb hby at_54) rfl (XS.lloadN X7.here hx rfl (hb hby at_55) rfl (XS.iload X7.here hx rfl (hb hby at_56) rfl (XS.iconst X7.here hx rfl (hb hby at_58) k)))))) ?_
  obtain ⟨_, _, ⟨T8, L8, k8, n8⟩, -, X8, ⟨Lc8, hQ8, l8, y8, z8⟩, st8⟩ := Jvm.LawKit.callS X7 hx (y := (⟨"org/succession/NamesKeyPinLaw", "ch", "(JJII)C"⟩ : MethodName)) hown (mvT hZ (hwi hw 1 rfl)) (mvT hZ (hwi hw 2 rfl)) (mvT hZ (hwi hw 3 rfl)) (mvT hZ (hwi hw 4 rfl)) (by decide) (backOf (W := 2) (rmCh l Z aV hw [] q1 q2 p3 (3 : Int32) h7 n0 Zn ) hZ (hwi hw 4 rfl) (hwi hw 3 rfl) (by decide) (by decide)) (g := (mkF m 59 #[.val (.int p0), .val (.long q1), .second, .val (.long q2), .second, .val (.int p3), .val (.int p4), .val (.int nn), .val (.ref b1), .unset, .unset, .unset, .unset, .unset, .unset, .unset, .unset, .unset, .unset, .unset] [(.int (3 : Int32)), (.int p3), (.long q2), (.long q1), (.int (3 : Int32)), (.ref b1)])) rfl (by rw [hml]; rfl) (argsL := [(.long q1), (.long q2), (.int p3), (.int (3 : Int32))]) (rest := [(.int (3 : Int32)), (.ref b1)]) (lenOf pd_16 rfl) rfl (by show 2 * 0 + _ ≤ _; exact Nat.le_of_eq rfl) (hb hby at_59) (fun _ _ => ⟨rfl, e7, (by decide : 1 + 0 ≤ _), (by decide : 9 + 0 ≤ _)⟩)
  dsimp only [Pt.U, Pt.locs, Pt.cells, Pt.slots] at X8 l8 y8 z8 st8 hQ8
  replace l8 := l8.symm; replace y8 := y8.symm; replace z8 := z8.symm; subst l8 y8 z8
  obtain ⟨az8, rfl, haz8, N8q, e8⟩ := hQ8
  have N8 := Fr.app N7 N8q
  refine Run.st (S' := T8.setTop (mkF m 62 #[.val (.int p0), .val (.long q1), .second, .val (.long q2), .second, .val (.int p3), .val (.int p4), .val (.int nn), .val (.ref b1), .unset, .unset, .unset, .unset, .unset, .unset, .unset, .unset, .unset, .unset, .unset] [(.int az8), (.int (3 : Int32)), (.ref b1)])) (fun _ k => st8 _ k) ?_
  have sfw := (own_safeA (EL := consts_1) hZ.alike V_b1 (by decide))
  obtain ⟨cl9, Ar9, qa9, Sa9, Na9, Ha9, Ga9⟩ := V_b1
  have hin9 : ¬ ((3 : Int32) < 0 ∨ cl9.slots.size ≤ ((3 : Int32)).toNatClampNeg) := inb_of Sa9 ⟨by decide, by decide⟩
  obtain ⟨T9, h9, X9, e9, W9, st9⟩ := stC X8 hx hZ e8 Ar9 (j := (3 : Int32)) hin9 (g := (mkF m 62 #[.val (.int p0), .val (.long q1), .second, .val (.long q2), .second, .val (.int p3), .val (.int p4), .val (.int nn), .val (.ref b1), .unset, .unset, .unset, .unset, .unset, .unset, .unset, .unset, .unset, .unset, .unset] [(.int az8), (.int (3 : Int32)), (.ref b1)])) rfl rfl (hb hby at_62)
  have V_b1 := Arv.set Ar9 qa9 Sa9 Na9 Ha9 Ga9 (fits_nar_char _) W9 3 rfl (Nat.le_of_ble_eq_true rfl)
  have V_b1 : Arv Z h9 b1 k1 .char (9 : Int32) [(.int x0), (.int x1), (.int x2), (.int (nar .char az8)), (.int (0 : Int32)), (.int (0 : Int32)), (.int (0 : Int32)), (.int (0 : Int32)), (.int (0 : Int32))] (.int (0 : Int32)) := V_b1
  have OL := OL.wr W9 g_b1
  have CR := CR.trans (CHr.wr W9 sfw CR.1)
  have N9 := Fr.snoc X9 N8 g_b1
  have Kp := Kp.wr W9 (Or.inr sz_b1)
  have Zn := Nat.le_trans Zn (Nat.le_of_eq W9.size.symm)
  have hk := Nat.le_trans hk (Nat.le_of_eq W9.size.symm)
  refine Run.st (S' := T9.setTop (mkF m 63 #[.val (.int p0), .val (.long q1), .second, .val (.long q2), .second, .val (.int p3), .val (.int p4), .val (.int nn), .val (.ref b1), .unset, .unset, .unset, .unset, .unset, .unset, .unset, .unset, .unset, .unset, .unset] [])) (fun _ k => st9 _ k) ?_
  obtain ⟨x3, ex3⟩ : ∃ z, z = az8 := ⟨_, rfl⟩
  have hx3 : ¬ x3 < 0 ∧ ¬ (65535 : Int32) < x3 := by rw [ex3]; exact haz8
  rw [own_nar16 (z := az8) haz8, ← ex3] at V_b1
  refine Run.st (S' := T9.setTop (mkF m 71 #[.val (.int p0), .val (.long q1), .second, .val (.long q2), .second, .val (.int p3), .val (.int p4), .val (.int nn), .val (.ref b1), .unset, .unset, .unset, .unset, .unset, .unset, .unset, .unset, .unset, .unset, .unset] [(.int (4 : Int32)), (.int p3), (.long q2), (.long q1), (.int (4 : Int32)), (.ref b1)])) (fun _ k => XS.aload X9.here hx rfl (hb hby at_63) rfl rfl (XS.iconst X9.here hx rfl (hb hby at_65) (XS.lloadN X9.here hx rfl (hb hby at_66) rfl (XS.lloadN X9.here hx rfl (hb hby at_67) rfl (XS.iload X9.here hx rfl (hb hby at_68) rfl (XS.iconst X9.here hx rfl (hb hby at_70) k)))))) ?_
  obtain ⟨_, _, ⟨T10, L10, k10, n10⟩, -, X10, ⟨Lc10, hQ10, l10, y10, z10⟩, st10⟩ := Jvm.LawKit.callS X9 hx (y := (⟨"org/succession/NamesKeyPinLaw", "ch", "(JJII)C"⟩ : MethodName)) hown (mvT hZ (hwi hw 1 rfl)) (mvT hZ (hwi hw 2 rfl)) (mvT hZ (hwi hw 3 rfl)) (mvT hZ (hwi hw 4 rfl)) (by decide) (backOf (W := 2) (rmCh l Z aV hw [] q1 q2 p3 (4 : Int32) h9 n0 Zn ) hZ (hwi hw 4 rfl) (hwi hw 3 rfl) (by decide) (by decide)) (g := (mkF m 71 #[.val (.int p0), .val (.long q1), .second, .val (.long q2), .second, .val (.int p3), .val (.int p4), .val (.int nn), .val (.ref b1), .unset, .unset, .unset, .unset, .unset, .unset, .unset, .unset, .unset, .unset, .unset] [(.int (4 : Int32)), (.int p3), (.long q2), (.long q1), (.int (4 : Int32)), (.ref b1)])) rfl (by rw [hml]; rfl) (argsL := [(.long q1), (.long q2), (.int p3), (.int (4 : Int32))]) (rest := [(.int (4 : Int32)), (.ref b1)]) (lenOf pd_16 rfl) rfl (by show 2 * 0 + _ ≤ _; exact Nat.le_of_eq rfl) (hb hby at_71) (fun _ _ => ⟨rfl, e9, (by decide : 1 + 0 ≤ _), (by decide : 9 + 0 ≤ _)⟩)
  dsimp only [Pt.U, Pt.locs, Pt.cells, Pt.slots] at X10 l10 y10 z10 st10 hQ10
  replace l10 := l10.symm; replace y10 := y10.symm; replace z10 := z10.symm; subst l10 y10 z10
  obtain ⟨az10, rfl, haz10, N10q, e10⟩ := hQ10
  have N10 := Fr.app N9 N10q
  refine Run.st (S' := T10.setTop (mkF m 74 #[.val (.int p0), .val (.long q1), .second, .val (.long q2), .second, .val (.int p3), .val (.int p4), .val (.int nn), .val (.ref b1), .unset, .unset, .unset, .unset, .unset, .unset, .unset, .unset, .unset, .unset, .unset] [(.int az10), (.int (4 : Int32)), (.ref b1)])) (fun _ k => st10 _ k) ?_
  have sfw := (own_safeA (EL := consts_1) hZ.alike V_b1 (by decide))
  obtain ⟨cl11, Ar11, qa11, Sa11, Na11, Ha11, Ga11⟩ := V_b1
  have hin11 : ¬ ((4 : Int32) < 0 ∨ cl11.slots.size ≤ ((4 : Int32)).toNatClampNeg) := inb_of Sa11 ⟨by decide, by decide⟩
  obtain ⟨T11, h11, X11, e11, W11, st11⟩ := stC X10 hx hZ e10 Ar11 (j := (4 : Int32)) hin11 (g := (mkF m 74 #[.val (.int p0), .val (.long q1), .second, .val (.long q2), .second, .val (.int p3), .val (.int p4), .val (.int nn), .val (.ref b1), .unset, .unset, .unset, .unset, .unset, .unset, .unset, .unset, .unset, .unset, .unset] [(.int az10), (.int (4 : Int32)), (.ref b1)])) rfl rfl (hb hby at_74)
  have V_b1 := Arv.set Ar11 qa11 Sa11 Na11 Ha11 Ga11 (fits_nar_char _) W11 4 rfl (Nat.le_of_ble_eq_true rfl)
  have V_b1 : Arv Z h11 b1 k1 .char (9 : Int32) [(.int x0), (.int x1), (.int x2), (.int x3), (.int (nar .char az10)), (.int (0 : Int32)), (.int (0 : Int32)), (.int (0 : Int32)), (.int (0 : Int32))] (.int (0 : Int32)) := V_b1
  have OL := OL.wr W11 g_b1
  have CR := CR.trans (CHr.wr W11 sfw CR.1)
  have N11 := Fr.snoc X11 N10 g_b1
  have Kp := Kp.wr W11 (Or.inr sz_b1)
  have Zn := Nat.le_trans Zn (Nat.le_of_eq W11.size.symm)
  have hk := Nat.le_trans hk (Nat.le_of_eq W11.size.symm)
  refine Run.st (S' := T11.setTop (mkF m 75 #[.val (.int p0), .val (.long q1), .second, .val (.long q2), .second, .val (.int p3), .val (.int p4), .val (.int nn), .val (.ref b1), .unset, .unset, .unset, .unset, .unset, .unset, .unset, .unset, .unset, .unset, .unset] [])) (fun _ k => st11 _ k) ?_
  obtain ⟨x4, ex4⟩ : ∃ z, z = az10 := ⟨_, rfl⟩
  have hx4 : ¬ x4 < 0 ∧ ¬ (65535 : Int32) < x4 := by rw [ex4]; exact haz10
  rw [own_nar16 (z := az10) haz10, ← ex4] at V_b1
  refine Run.st (S' := T11.setTop (mkF m 83 #[.val (.int p0), .val (.long q1), .second, .val (.long q2), .second, .val (.int p3), .val (.int p4), .val (.int nn), .val (.ref b1), .unset, .unset, .unset, .unset, .unset, .unset, .unset, .unset, .unset, .unset, .unset] [(.int (5 : Int32)), (.int p3), (.long q2), (.long q1), (.int (5 : Int32)), (.ref b1)])) (fun _ k => XS.aload X11.here hx rfl (hb hby at_75) rfl rfl (XS.iconst X11.here hx rfl (hb hby at_77) (XS.lloadN X11.here hx rfl (hb hby at_78) rfl (XS.lloadN X11.here hx rfl (hb hby at_79) rfl (XS.iload X11.here hx rfl (hb hby at_80) rfl (XS.iconst X11.here hx rfl (hb hby at_82) k)))))) ?_
  obtain ⟨_, _, ⟨T12, L12, k12, n12⟩, -, X12, ⟨Lc12, hQ12, l12, y12, z12⟩, st12⟩ := Jvm.LawKit.callS X11 hx (y := (⟨"org/succession/NamesKeyPinLaw", "ch", "(JJII)C"⟩ : MethodName)) hown (mvT hZ (hwi hw 1 rfl)) (mvT hZ (hwi hw 2 rfl)) (mvT hZ (hwi hw 3 rfl)) (mvT hZ (hwi hw 4 rfl)) (by decide) (backOf (W := 2) (rmCh l Z aV hw [] q1 q2 p3 (5 : Int32) h11 n0 Zn ) hZ (hwi hw 4 rfl) (hwi hw 3 rfl) (by decide) (by decide)) (g := (mkF m 83 #[.val (.int p0), .val (.long q1), .second, .val (.long q2), .second, .val (.int p3), .val (.int p4), .val (.int nn), .val (.ref b1), .unset, .unset, .unset, .unset, .unset, .unset, .unset, .unset, .unset, .unset, .unset] [(.int (5 : Int32)), (.int p3), (.long q2), (.long q1), (.int (5 : Int32)), (.ref b1)])) rfl (by rw [hml]; rfl) (argsL := [(.long q1), (.long q2), (.int p3), (.int (5 : Int32))]) (rest := [(.int (5 : Int32)), (.ref b1)]) (lenOf pd_16 rfl) rfl (by show 2 * 0 + _ ≤ _; exact Nat.le_of_eq rfl) (hb hby at_83) (fun _ _ => ⟨rfl, e11, (by decide : 1 + 0 ≤ _), (by decide : 9 + 0 ≤ _)⟩)
  dsimp only [Pt.U, Pt.locs, Pt.cells, Pt.slots] at X12 l12 y12 z12 st12 hQ12
  replace l12 := l12.symm; replace y12 := y12.symm; replace z12 := z12.symm; subst l12 y12 z12
  obtain ⟨az12, rfl, haz12, N12q, e12⟩ := hQ12
  have N12 := Fr.app N11 N12q
  refine Run.st (S' := T12.setTop (mkF m 86 #[.val (.int p0), .val (.long q1), .second, .val (.long q2), .second, .val (.int p3), .val (.int p4), .val (.int nn), .val (.ref b1), .unset, .unset, .unset, .unset, .unset, .unset, .unset, .unset, .unset, .unset, .unset] [(.int az12), (.int (5 : Int32)), (.ref b1)])) (fun _ k => st12 _ k) ?_
  have sfw := (own_safeA (EL := consts_1) hZ.alike V_b1 (by decide))
  obtain ⟨cl13, Ar13, qa13, Sa13, Na13, Ha13, Ga13⟩ := V_b1
  have hin13 : ¬ ((5 : Int32) < 0 ∨ cl13.slots.size ≤ ((5 : Int32)).toNatClampNeg) := inb_of Sa13 ⟨by decide, by decide⟩
  obtain ⟨T13, h13, X13, e13, W13, st13⟩ := stC X12 hx hZ e12 Ar13 (j := (5 : Int32)) hin13 (g := (mkF m 86 #[.val (.int p0), .val (.long q1), .second, .val (.long q2), .second, .val (.int p3), .val (.int p4), .val (.int nn), .val (.ref b1), .unset, .unset, .unset, .unset, .unset, .unset, .unset, .unset, .unset, .unset, .unset] [(.int az12), (.int (5 : Int32)), (.ref b1)])) rfl rfl (hb hby at_86)
  have V_b1 := Arv.set Ar13 qa13 Sa13 Na13 Ha13 Ga13 (fits_nar_char _) W13 5 rfl (Nat.le_of_ble_eq_true rfl)
  have V_b1 : Arv Z h13 b1 k1 .char (9 : Int32) [(.int x0), (.int x1), (.int x2), (.int x3), (.int x4), (.int (nar .char az12)), (.int (0 : Int32)), (.int (0 : Int32)), (.int (0 : Int32))] (.int (0 : Int32)) := V_b1
  have OL := OL.wr W13 g_b1
  have CR := CR.trans (CHr.wr W13 sfw CR.1)
  have N13 := Fr.snoc X13 N12 g_b1
  have Kp := Kp.wr W13 (Or.inr sz_b1)
  have Zn := Nat.le_trans Zn (Nat.le_of_eq W13.size.symm)
  have hk := Nat.le_trans hk (Nat.le_of_eq W13.size.symm)
  refine Run.st (S' := T13.setTop (mkF m 87 #[.val (.int p0), .val (.long q1), .second, .val (.long q2), .second, .val (.int p3), .val (.int p4), .val (.int nn), .val (.ref b1), .unset, .unset, .unset, .unset, .unset, .unset, .unset, .unset, .unset, .unset, .unset] [])) (fun _ k => st13 _ k) ?_
  obtain ⟨x5, ex5⟩ : ∃ z, z = az12 := ⟨_, rfl⟩
  have hx5 : ¬ x5 < 0 ∧ ¬ (65535 : Int32) < x5 := by rw [ex5]; exact haz12
  rw [own_nar16 (z := az12) haz12, ← ex5] at V_b1
  refine Run.st (S' := T13.setTop (mkF m 97 #[.val (.int p0), .val (.long q1), .second, .val (.long q2), .second, .val (.int p3), .val (.int p4), .val (.int nn), .val (.ref b1), .unset, .unset, .unset, .unset, .unset, .unset, .unset, .unset, .unset, .unset, .unset] [(.int (6 : Int32)), (.int p3), (.long q2), (.long q1), (.int (6 : Int32)), (.ref b1)])) (fun _ k => XS.aload X13.here hx rfl (hb hby at_87) rfl rfl (XS.bipush X13.here hx rfl (hb hby at_89) (XS.lloadN X13.here hx rfl (hb hby at_91) rfl (XS.lloadN X13.here hx rfl (hb hby at_92) rfl (XS.iload X13.here hx rfl (hb hby at_93) rfl (XS.bipush X13.here hx rfl (hb hby at_95) k)))))) ?_
  obtain ⟨_, _, ⟨T14, L14, k14, n14⟩, -, X14, ⟨Lc14, hQ14, l14, y14, z14⟩, st14⟩ := Jvm.LawKit.callS X13 hx (y := (⟨"org/succession/NamesKeyPinLaw", "ch", "(JJII)C"⟩ : MethodName)) hown (mvT hZ (hwi hw 1 rfl)) (mvT hZ (hwi hw 2 rfl)) (mvT hZ (hwi hw 3 rfl)) (mvT hZ (hwi hw 4 rfl)) (by decide) (backOf (W := 2) (rmCh l Z aV hw [] q1 q2 p3 (6 : Int32) h13 n0 Zn ) hZ (hwi hw 4 rfl) (hwi hw 3 rfl) (by decide) (by decide)) (g := (mkF m 97 #[.val (.int p0), .val (.long q1), .second, .val (.long q2), .second, .val (.int p3), .val (.int p4), .val (.int nn), .val (.ref b1), .unset, .unset, .unset, .unset, .unset, .unset, .unset, .unset, .unset, .unset, .unset] [(.int (6 : Int32)), (.int p3), (.long q2), (.long q1), (.int (6 : Int32)), (.ref b1)])) rfl (by rw [hml]; rfl) (argsL := [(.long q1), (.long q2), (.int p3), (.int (6 : Int32))]) (rest := [(.int (6 : Int32)), (.ref b1)]) (lenOf pd_16 rfl) rfl (by show 2 * 0 + _ ≤ _; exact Nat.le_of_eq rfl) (hb hby at_97) (fun _ _ => ⟨rfl, e13, (by decide : 1 + 0 ≤ _), (by decide : 9 + 0 ≤ _)⟩)
  dsimp only [Pt.U, Pt.locs, Pt.cells, Pt.slots] at X14 l14 y14 z14 st14 hQ14
  replace l14 := l14.symm; replace y14 := y14.symm; replace z14 := z14.symm; subst l14 y14 z14
  obtain ⟨az14, rfl, haz14, N14q, e14⟩ := hQ14
  have N14 := Fr.app N13 N14q
  refine Run.st (S' := T14.setTop (mkF m 100 #[.val (.int p0), .val (.long q1), .second, .val (.long q2), .second, .val (.int p3), .val (.int p4), .val (.int nn), .val (.ref b1), .unset, .unset, .unset, .unset, .unset, .unset, .unset, .unset, .unset, .unset, .unset] [(.int az14), (.int (6 : Int32)), (.ref b1)])) (fun _ k => st14 _ k) ?_
  have sfw := (own_safeA (EL := consts_1) hZ.alike V_b1 (by decide))
  obtain ⟨cl15, Ar15, qa15, Sa15, Na15, Ha15, Ga15⟩ := V_b1
  have hin15 : ¬ ((6 : Int32) < 0 ∨ cl15.slots.size ≤ ((6 : Int32)).toNatClampNeg) := inb_of Sa15 ⟨by decide, by decide⟩
  obtain ⟨T15, h15, X15, e15, W15, st15⟩ := stC X14 hx hZ e14 Ar15 (j := (6 : Int32)) hin15 (g := (mkF m 100 #[.val (.int p0), .val (.long q1), .second, .val (.long q2), .second, .val (.int p3), .val (.int p4), .val (.int nn), .val (.ref b1), .unset, .unset, .unset, .unset, .unset, .unset, .unset, .unset, .unset, .unset, .unset] [(.int az14), (.int (6 : Int32)), (.ref b1)])) rfl rfl (hb hby at_100)
  have V_b1 := Arv.set Ar15 qa15 Sa15 Na15 Ha15 Ga15 (fits_nar_char _) W15 6 rfl (Nat.le_of_ble_eq_true rfl)
  have V_b1 : Arv Z h15 b1 k1 .char (9 : Int32) [(.int x0), (.int x1), (.int x2), (.int x3), (.int x4), (.int x5), (.int (nar .char az14)), (.int (0 : Int32)), (.int (0 : Int32))] (.int (0 : Int32)) := V_b1
  have OL := OL.wr W15 g_b1
  have CR := CR.trans (CHr.wr W15 sfw CR.1)
  have N15 := Fr.snoc X15 N14 g_b1
  have Kp := Kp.wr W15 (Or.inr sz_b1)
  have Zn := Nat.le_trans Zn (Nat.le_of_eq W15.size.symm)
  have hk := Nat.le_trans hk (Nat.le_of_eq W15.size.symm)
  refine Run.st (S' := T15.setTop (mkF m 101 #[.val (.int p0), .val (.long q1), .second, .val (.long q2), .second, .val (.int p3), .val (.int p4), .val (.int nn), .val (.ref b1), .unset, .unset, .unset, .unset, .unset, .unset, .unset, .unset, .unset, .unset, .unset] [])) (fun _ k => st15 _ k) ?_
  obtain ⟨x6, ex6⟩ : ∃ z, z = az14 := ⟨_, rfl⟩
  have hx6 : ¬ x6 < 0 ∧ ¬ (65535 : Int32) < x6 := by rw [ex6]; exact haz14
  rw [own_nar16 (z := az14) haz14, ← ex6] at V_b1
  refine Run.st (S' := T15.setTop (mkF m 111 #[.val (.int p0), .val (.long q1), .second, .val (.long q2), .second, .val (.int p3), .val (.int p4), .val (.int nn), .val (.ref b1), .unset, .unset, .unset, .unset, .unset, .unset, .unset, .unset, .unset, .unset, .unset] [(.int (7 : Int32)), (.int p3), (.long q2), (.long q1), (.int (7 : Int32)), (.ref b1)])) (fun _ k => XS.aload X15.here hx rfl (hb hby at_101) rfl rfl (XS.bipush X15.here hx rfl (hb hby at_103) (XS.lloadN X15.here hx rfl (hb hby at_105) rfl (XS.lloadN X15.here hx rfl (hb hby at_106) rfl (XS.iload X15.here hx rfl (hb hby at_107) rfl (XS.bipush X15.here hx rfl (hb hby at_109) k)))))) ?_
  obtain ⟨_, _, ⟨T16, L16, k16, n16⟩, -, X16, ⟨Lc16, hQ16, l16, y16, z16⟩, st16⟩ := Jvm.LawKit.callS X15 hx (y := (⟨"org/succession/NamesKeyPinLaw", "ch", "(JJII)C"⟩ : MethodName)) hown (mvT hZ (hwi hw 1 rfl)) (mvT hZ (hwi hw 2 rfl)) (mvT hZ (hwi hw 3 rfl)) (mvT hZ (hwi hw 4 rfl)) (by decide) (backOf (W := 2) (rmCh l Z aV hw [] q1 q2 p3 (7 : Int32) h15 n0 Zn ) hZ (hwi hw 4 rfl) (hwi hw 3 rfl) (by decide) (by decide)) (g := (mkF m 111 #[.val (.int p0), .val (.long q1), .second, .val (.long q2), .second, .val (.int p3), .val (.int p4), .val (.int nn), .val (.ref b1), .unset, .unset, .unset, .unset, .unset, .unset, .unset, .unset, .unset, .unset, .unset] [(.int (7 : Int32)), (.int p3), (.long q2), (.long q1), (.int (7 : Int32)), (.ref b1)])) rfl (by rw [hml]; rfl) (argsL := [(.long q1), (.long q2), (.int p3), (.int (7 : Int32))]) (rest := [(.int (7 : Int32)), (.ref b1)]) (lenOf pd_16 rfl) rfl (by show 2 * 0 + _ ≤ _; exact Nat.le_of_eq rfl) (hb hby at_111) (fun _ _ => ⟨rfl, e15, (by decide : 1 + 0 ≤ _), (by decide : 9 + 0 ≤ _)⟩)
  dsimp only [Pt.U, Pt.locs, Pt.cells, Pt.slots] at X16 l16 y16 z16 st16 hQ16
  replace l16 := l16.symm; replace y16 := y16.symm; replace z16 := z16.symm; subst l16 y16 z16
  obtain ⟨az16, rfl, haz16, N16q, e16⟩ := hQ16
  have N16 := Fr.app N15 N16q
  refine Run.st (S' := T16.setTop (mkF m 114 #[.val (.int p0), .val (.long q1), .second, .val (.long q2), .second, .val (.int p3), .val (.int p4), .val (.int nn), .val (.ref b1), .unset, .unset, .unset, .unset, .unset, .unset, .unset, .unset, .unset, .unset, .unset] [(.int az16), (.int (7 : Int32)), (.ref b1)])) (fun _ k => st16 _ k) ?_
  have sfw := (own_safeA (EL := consts_1) hZ.alike V_b1 (by decide))
  obtain ⟨cl17, Ar17, qa17, Sa17, Na17, Ha17, Ga17⟩ := V_b1
  have hin17 : ¬ ((7 : Int32) < 0 ∨ cl17.slots.size ≤ ((7 : Int32)).toNatClampNeg) := inb_of Sa17 ⟨by decide, by decide⟩
  obtain ⟨T17, h17, X17, e17, W17, st17⟩ := stC X16 hx hZ e16 Ar17 (j := (7 : Int32)) hin17 (g := (mkF m 114 #[.val (.int p0), .val (.long q1), .second, .val (.long q2), .second, .val (.int p3), .val (.int p4), .val (.int nn), .val (.ref b1), .unset, .unset, .unset, .unset, .unset, .unset, .unset, .unset, .unset, .unset, .unset] [(.int az16), (.int (7 : Int32)), (.ref b1)])) rfl rfl (hb hby at_114)
  have V_b1 := Arv.set Ar17 qa17 Sa17 Na17 Ha17 Ga17 (fits_nar_char _) W17 7 rfl (Nat.le_of_ble_eq_true rfl)
  have V_b1 : Arv Z h17 b1 k1 .char (9 : Int32) [(.int x0), (.int x1), (.int x2), (.int x3), (.int x4), (.int x5), (.int x6), (.int (nar .char az16)), (.int (0 : Int32))] (.int (0 : Int32)) := V_b1
  have OL := OL.wr W17 g_b1
  have CR := CR.trans (CHr.wr W17 sfw CR.1)
  have N17 := Fr.snoc X17 N16 g_b1
  have Kp := Kp.wr W17 (Or.inr sz_b1)
  have Zn := Nat.le_trans Zn (Nat.le_of_eq W17.size.symm)
  have hk := Nat.le_trans hk (Nat.le_of_eq W17.size.symm)
  refine Run.st (S' := T17.setTop (mkF m 115 #[.val (.int p0), .val (.long q1), .second, .val (.long q2), .second, .val (.int p3), .val (.int p4), .val (.int nn), .val (.ref b1), .unset, .unset, .unset, .unset, .unset, .unset, .unset, .unset, .unset, .unset, .unset] [])) (fun _ k => st17 _ k) ?_
  obtain ⟨x7, ex7⟩ : ∃ z, z = az16 := ⟨_, rfl⟩
  have hx7 : ¬ x7 < 0 ∧ ¬ (65535 : Int32) < x7 := by rw [ex7]; exact haz16
  rw [own_nar16 (z := az16) haz16, ← ex7] at V_b1
  refine Run.st (S' := T17.setTop (mkF m 122 #[.val (.int p0), .val (.long q1), .second, .val (.long q2), .second, .val (.int p3), .val (.int p4), .val (.int nn), .val (.ref b1), .unset, .unset, .unset, .unset, .unset, .unset, .unset, .unset, .unset, .unset, .unset] [(.int (p4.toUInt32.toUInt16.toUInt32.toInt32)), (.int (8 : Int32)), (.ref b1)])) (fun _ k => XS.aload X17.here hx rfl (hb hby at_115) rfl rfl (XS.bipush X17.here hx rfl (hb hby at_117) (XS.iload X17.here hx rfl (hb hby at_119) rfl (XS.i2c X17.here hx rfl (hb hby at_121) rfl k)))) ?_
  have sfw := (own_safeA (EL := consts_1) hZ.alike V_b1 (by decide))
  obtain ⟨cl18, Ar18, qa18, Sa18, Na18, Ha18, Ga18⟩ := V_b1
  have hin18 : ¬ ((8 : Int32) < 0 ∨ cl18.slots.size ≤ ((8 : Int32)).toNatClampNeg) := inb_of Sa18 ⟨by decide, by decide⟩
  obtain ⟨T18, h18, X18, e18, W18, st18⟩ := stC X17 hx hZ e17 Ar18 (j := (8 : Int32)) hin18 (g := (mkF m 122 #[.val (.int p0), .val (.long q1), .second, .val (.long q2), .second, .val (.int p3), .val (.int p4), .val (.int nn), .val (.ref b1), .unset, .unset, .unset, .unset, .unset, .unset, .unset, .unset, .unset, .unset, .unset] [(.int (p4.toUInt32.toUInt16.toUInt32.toInt32)), (.int (8 : Int32)), (.ref b1)])) rfl rfl (hb hby at_122)
  have V_b1 := Arv.set Ar18 qa18 Sa18 Na18 Ha18 Ga18 (fits_nar_char _) W18 8 rfl (Nat.le_of_ble_eq_true rfl)
  have V_b1 : Arv Z h18 b1 k1 .char (9 : Int32) [(.int x0), (.int x1), (.int x2), (.int x3), (.int x4), (.int x5), (.int x6), (.int x7), (.int (nar .char (p4.toUInt32.toUInt16.toUInt32.toInt32)))] (.int (0 : Int32)) := V_b1
  have OL := OL.wr W18 g_b1
  have CR := CR.trans (CHr.wr W18 sfw CR.1)
  have N18 := Fr.snoc X18 N17 g_b1
  have Kp := Kp.wr W18 (Or.inr sz_b1)
  have Zn := Nat.le_trans Zn (Nat.le_of_eq W18.size.symm)
  have hk := Nat.le_trans hk (Nat.le_of_eq W18.size.symm)
  refine Run.st (S' := T18.setTop (mkF m 123 #[.val (.int p0), .val (.long q1), .second, .val (.long q2), .second, .val (.int p3), .val (.int p4), .val (.int nn), .val (.ref b1), .unset, .unset, .unset, .unset, .unset, .unset, .unset, .unset, .unset, .unset, .unset] [])) (fun _ k => st18 _ k) ?_
  obtain ⟨x8, ex8⟩ : ∃ z, z = (p4.toUInt32.toUInt16.toUInt32.toInt32) := ⟨_, rfl⟩
  have hx8 : ¬ x8 < 0 ∧ ¬ (65535 : Int32) < x8 := by rw [ex8]; exact (own_r16 _)
  rw [own_nar16 (z := (p4.toUInt32.toUInt16.toUInt32.toInt32)) (own_r16 _), ← ex8] at V_b1
  have hxs : ∀ j, j < 9 → ¬ ([x0, x1, x2, x3, x4, x5, x6, x7, x8] : List Int32).getD j 0 < 0 ∧ ¬ (65535 : Int32) < ([x0, x1, x2, x3, x4, x5, x6, x7, x8] : List Int32).getD j 0 := fun j hj => by
    match j, hj with
    | 0, _ => exact hx0
    | 1, _ => exact hx1
    | 2, _ => exact hx2
    | 3, _ => exact hx3
    | 4, _ => exact hx4
    | 5, _ => exact hx5
    | 6, _ => exact hx6
    | 7, _ => exact hx7
    | 8, _ => exact hx8
  refine Run.st (S' := T18.setTop (mkF m 125 #[.val (.int p0), .val (.long q1), .second, .val (.long q2), .second, .val (.int p3), .val (.int p4), .val (.int nn), .val (.ref b1), .unset, .unset, .unset, .unset, .unset, .unset, .unset, .unset, .unset, .unset, .unset] [(.int nn)])) (fun _ k => XS.iload X18.here hx rfl (hb hby at_123) rfl k) ?_
  obtain ⟨T19, h19, k19, X19, e19, E19, A19, st19⟩ := newP X18 hx hZ (hwi hw 0 rfl) e18 (g := (mkF m 125 #[.val (.int p0), .val (.long q1), .second, .val (.long q2), .second, .val (.int p3), .val (.int p4), .val (.int nn), .val (.ref b1), .unset, .unset, .unset, .unset, .unset, .unset, .unset, .unset, .unset, .unset, .unset] [(.int nn)])) rfl (hb hby at_125) rfl (own_nn hnn.1) (cap := 9) (own_cap (c := 9) (by have := hnn; omega)) (by decide) (by decide) (by decide)
  obtain ⟨b19, g19⟩ : ∃ z, z = h18.size := ⟨_, rfl⟩
  rw [← g19] at A19 st19
  have ne_b1_b19 : b1 ≠ b19 := Nat.ne_of_lt (Nat.lt_of_lt_of_le V_b1.lt (Nat.le_of_eq g19.symm))
  have CR := CR.trans (CHr.ext E19 CR.1)
  have V_b1 := V_b1.ext E19
  have OL := OL.ext E19
  have g_b19 : n0 ≤ b19 := Nat.le_trans Zn (Nat.le_of_eq g19.symm)
  have Zn := Nat.le_trans Zn E19.1
  have hk := Nat.le_trans hk E19.1
  have sz_b19 : h0.size ≤ b19 := Nat.le_trans Kp.1 (Nat.le_of_eq g19.symm)
  have Kp := Kp.ext E19
  have V_b19 : Arv Z h19 b19 k19 .char nn [] (.int (0 : Int32)) := Arv.new A19 (own_nn hnn.1)
  refine Run.st (S' := T19.setTop (mkF m 127 #[.val (.int p0), .val (.long q1), .second, .val (.long q2), .second, .val (.int p3), .val (.int p4), .val (.int nn), .val (.ref b1), .unset, .unset, .unset, .unset, .unset, .unset, .unset, .unset, .unset, .unset, .unset] [(.ref b19)])) (fun _ k => st19 _ k) ?_
  have V_b19 := own_rep V_b19
  refine Run.st (S' := T19.setTop (mkF m 129 #[.val (.int p0), .val (.long q1), .second, .val (.long q2), .second, .val (.int p3), .val (.int p4), .val (.int nn), .val (.ref b1), .val (.ref b19), .unset, .unset, .unset, .unset, .unset, .unset, .unset, .unset, .unset, .unset] [])) (fun _ k => XS.astore X19.here hx rfl (hb hby at_127) rfl rfl (l' := #[.val (.int p0), .val (.long q1), .second, .val (.long q2), .second, .val (.int p3), .val (.int p4), .val (.int nn), .val (.ref b1), .val (.ref b19), .unset, .unset, .unset, .unset, .unset, .unset, .unset, .unset, .unset, .unset]) rfl k) ?_
  have hyJ : own_pre [x0, x1, x2, x3, x4, x5, x6, x7, x8] (List.replicate nn.toNatClampNeg (0 : Int32)) 0 ∧ (List.replicate nn.toNatClampNeg (0 : Int32)).length = nn.toNatClampNeg := ⟨fun j hj => absurd hj (Nat.not_lt_zero _), List.length_replicate⟩
  have JH20 : ∀ (c1 : List Int32) (Tl20 : State) (Hl20 : Heap) (gl : GoodW p l e room_1 s m #[(.int p0), (.long q1), (.long q2), (.int p3), (.int p4)] below meth c n0 2 18 "org/succession/NamesKeyPinLaw" Z h0 Hl20 Tl20) (Zn : n0 ≤ Hl20.size) (Kp : Keep h0 Hl20 []) (OL : Old Z n0 Hl20) (V_b1 : Arv Z Hl20 b1 k1 .char (9 : Int32) [(.int x0), (.int x1), (.int x2), (.int x3), (.int x4), (.int x5), (.int x6), (.int x7), (.int x8)] (.int (0 : Int32))) (V_b19 : Arv Z Hl20 b19 k19 .char nn (c1.map Value.int) (.int (0 : Int32))), own_pre [x0, x1, x2, x3, x4, x5, x6, x7, x8] c1 1 ∧ c1.length = nn.toNatClampNeg → Run p e below (EndsW Z s (Q0 Z p0 q1 q2 p3 p4 zc fm h0 n0) room_1.cells room_1.slots) (Tl20.setTop (mkF m 142 #[.val (.int p0), .val (.long q1), .second, .val (.long q2), .second, .val (.int p3), .val (.int p4), .val (.int nn), .val (.ref b1), .val (.ref b19), .unset, .unset, .unset, .unset, .unset, .unset, .unset, .unset, .unset, .unset] [])) := by
    intro c1 Tl20 Hl20 gl Zn Kp OL V_b1 V_b19 hyJ
    obtain ⟨vmJ20, kJ20, lcs20, Xl20, Nl20, El20, hS, hk, hZ, hown, CR⟩ := gl
    have JH21 : ∀ (c2 : List Int32) (Tl21 : State) (Hl21 : Heap) (gl : GoodW p l e room_1 s m #[(.int p0), (.long q1), (.long q2), (.int p3), (.int p4)] below meth c n0 2 18 "org/succession/NamesKeyPinLaw" Z h0 Hl21 Tl21) (Zn : n0 ≤ Hl21.size) (Kp : Keep h0 Hl21 []) (OL : Old Z n0 Hl21) (V_b1 : Arv Z Hl21 b1 k1 .char (9 : Int32) [(.int x0), (.int x1), (.int x2), (.int x3), (.int x4), (.int x5), (.int x6), (.int x7), (.int x8)] (.int (0 : Int32))) (V_b19 : Arv Z Hl21 b19 k19 .char nn (c2.map Value.int) (.int (0 : Int32))), own_pre [x0, x1, x2, x3, x4, x5, x6, x7, x8] c2 2 ∧ c2.length = nn.toNatClampNeg → Run p e below (EndsW Z s (Q0 Z p0 q1 q2 p3 p4 zc fm h0 n0) room_1.cells room_1.slots) (Tl21.setTop (mkF m 156 #[.val (.int p0), .val (.long q1), .second, .val (.long q2), .second, .val (.int p3), .val (.int p4), .val (.int nn), .val (.ref b1), .val (.ref b19), .unset, .unset, .unset, .unset, .unset, .unset, .unset, .unset, .unset, .unset] [])) := by
      intro c2 Tl21 Hl21 gl Zn Kp OL V_b1 V_b19 hyJ
      obtain ⟨vmJ21, kJ21, lcs21, Xl21, Nl21, El21, hS, hk, hZ, hown, CR⟩ := gl
      have JH22 : ∀ (c3 : List Int32) (Tl22 : State) (Hl22 : Heap) (gl : GoodW p l e room_1 s m #[(.int p0), (.long q1), (.long q2), (.int p3), (.int p4)] below meth c n0 2 18 "org/succession/NamesKeyPinLaw" Z h0 Hl22 Tl22) (Zn : n0 ≤ Hl22.size) (Kp : Keep h0 Hl22 []) (OL : Old Z n0 Hl22) (V_b1 : Arv Z Hl22 b1 k1 .char (9 : Int32) [(.int x0), (.int x1), (.int x2), (.int x3), (.int x4), (.int x5), (.int x6), (.int x7), (.int x8)] (.int (0 : Int32))) (V_b19 : Arv Z Hl22 b19 k19 .char nn (c3.map Value.int) (.int (0 : Int32))), own_pre [x0, x1, x2, x3, x4, x5, x6, x7, x8] c3 3 ∧ c3.length = nn.toNatClampNeg → Run p e below (EndsW Z s (Q0 Z p0 q1 q2 p3 p4 zc fm h0 n0) room_1.cells room_1.slots) (Tl22.setTop (mkF m 170 #[.val (.int p0), .val (.long q1), .second, .val (.long q2), .second, .val (.int p3), .val (.int p4), .val (.int nn), .val (.ref b1), .val (.ref b19), .unset, .unset, .unset, .unset, .unset, .unset, .unset, .unset, .unset, .unset] [])) := by
        intro c3 Tl22 Hl22 gl Zn Kp OL V_b1 V_b19 hyJ
        obtain ⟨vmJ22, kJ22, lcs22, Xl22, Nl22, El22, hS, hk, hZ, hown, CR⟩ := gl
        have JH23 : ∀ (c4 : List Int32) (Tl23 : State) (Hl23 : Heap) (gl : GoodW p l e room_1 s m #[(.int p0), (.long q1), (.long q2), (.int p3), (.int p4)] below meth c n0 2 18 "org/succession/NamesKeyPinLaw" Z h0 Hl23 Tl23) (Zn : n0 ≤ Hl23.size) (Kp : Keep h0 Hl23 []) (OL : Old Z n0 Hl23) (V_b1 : Arv Z Hl23 b1 k1 .char (9 : Int32) [(.int x0), (.int x1), (.int x2), (.int x3), (.int x4), (.int x5), (.int x6), (.int x7), (.int x8)] (.int (0 : Int32))) (V_b19 : Arv Z Hl23 b19 k19 .char nn (c4.map Value.int) (.int (0 : Int32))), own_pre [x0, x1, x2, x3, x4, x5, x6, x7, x8] c4 4 ∧ c4.length = nn.toNatClampNeg → Run p e below (EndsW Z s (Q0 Z p0 q1 q2 p3 p4 zc fm h0 n0) room_1.cells room_1.slots) (Tl23.setTop (mkF m 184 #[.val (.int p0), .val (.long q1), .second, .val (.long q2), .second, .val (.int p3), .val (.int p4), .val (.int nn), .val (.ref b1), .val (.ref b19), .unset, .unset, .unset, .unset, .unset, .unset, .unset, .unset, .unset, .unset] [])) := by
          intro c4 Tl23 Hl23 gl Zn Kp OL V_b1 V_b19 hyJ
          obtain ⟨vmJ23, kJ23, lcs23, Xl23, Nl23, El23, hS, hk, hZ, hown, CR⟩ := gl
          have JH24 : ∀ (c5 : List Int32) (Tl24 : State) (Hl24 : Heap) (gl : GoodW p l e room_1 s m #[(.int p0), (.long q1), (.long q2), (.int p3), (.int p4)] below meth c n0 2 18 "org/succession/NamesKeyPinLaw" Z h0 Hl24 Tl24) (Zn : n0 ≤ Hl24.size) (Kp : Keep h0 Hl24 []) (OL : Old Z n0 Hl24) (V_b1 : Arv Z Hl24 b1 k1 .char (9 : Int32) [(.int x0), (.int x1), (.int x2), (.int x3), (.int x4), (.int x5), (.int x6), (.int x7), (.int x8)] (.int (0 : Int32))) (V_b19 : Arv Z Hl24 b19 k19 .char nn (c5.map Value.int) (.int (0 : Int32))), own_pre [x0, x1, x2, x3, x4, x5, x6, x7, x8] c5 5 ∧ c5.length = nn.toNatClampNeg → Run p e below (EndsW Z s (Q0 Z p0 q1 q2 p3 p4 zc fm h0 n0) room_1.cells room_1.slots) (Tl24.setTop (mkF m 198 #[.val (.int p0), .val (.long q1), .second, .val (.long q2), .second, .val (.int p3), .val (.int p4), .val (.int nn), .val (.ref b1), .val (.ref b19), .unset, .unset, .unset, .unset, .unset, .unset, .unset, .unset, .unset, .unset] [])) := by
            intro c5 Tl24 Hl24 gl Zn Kp OL V_b1 V_b19 hyJ
            obtain ⟨vmJ24, kJ24, lcs24, Xl24, Nl24, El24, hS, hk, hZ, hown, CR⟩ := gl
            have JH25 : ∀ (c6 : List Int32) (Tl25 : State) (Hl25 : Heap) (gl : GoodW p l e room_1 s m #[(.int p0), (.long q1), (.long q2), (.int p3), (.int p4)] below meth c n0 2 18 "org/succession/NamesKeyPinLaw" Z h0 Hl25 Tl25) (Zn : n0 ≤ Hl25.size) (Kp : Keep h0 Hl25 []) (OL : Old Z n0 Hl25) (V_b1 : Arv Z Hl25 b1 k1 .char (9 : Int32) [(.int x0), (.int x1), (.int x2), (.int x3), (.int x4), (.int x5), (.int x6), (.int x7), (.int x8)] (.int (0 : Int32))) (V_b19 : Arv Z Hl25 b19 k19 .char nn (c6.map Value.int) (.int (0 : Int32))), own_pre [x0, x1, x2, x3, x4, x5, x6, x7, x8] c6 6 ∧ c6.length = nn.toNatClampNeg → Run p e below (EndsW Z s (Q0 Z p0 q1 q2 p3 p4 zc fm h0 n0) room_1.cells room_1.slots) (Tl25.setTop (mkF m 212 #[.val (.int p0), .val (.long q1), .second, .val (.long q2), .second, .val (.int p3), .val (.int p4), .val (.int nn), .val (.ref b1), .val (.ref b19), .unset, .unset, .unset, .unset, .unset, .unset, .unset, .unset, .unset, .unset] [])) := by
              intro c6 Tl25 Hl25 gl Zn Kp OL V_b1 V_b19 hyJ
              obtain ⟨vmJ25, kJ25, lcs25, Xl25, Nl25, El25, hS, hk, hZ, hown, CR⟩ := gl
              have JH26 : ∀ (c7 : List Int32) (Tl26 : State) (Hl26 : Heap) (gl : GoodW p l e room_1 s m #[(.int p0), (.long q1), (.long q2), (.int p3), (.int p4)] below meth c n0 2 18 "org/succession/NamesKeyPinLaw" Z h0 Hl26 Tl26) (Zn : n0 ≤ Hl26.size) (Kp : Keep h0 Hl26 []) (OL : Old Z n0 Hl26) (V_b1 : Arv Z Hl26 b1 k1 .char (9 : Int32) [(.int x0), (.int x1), (.int x2), (.int x3), (.int x4), (.int x5), (.int x6), (.int x7), (.int x8)] (.int (0 : Int32))) (V_b19 : Arv Z Hl26 b19 k19 .char nn (c7.map Value.int) (.int (0 : Int32))), own_pre [x0, x1, x2, x3, x4, x5, x6, x7, x8] c7 7 ∧ c7.length = nn.toNatClampNeg → Run p e below (EndsW Z s (Q0 Z p0 q1 q2 p3 p4 zc fm h0 n0) room_1.cells room_1.slots) (Tl26.setTop (mkF m 229 #[.val (.int p0), .val (.long q1), .second, .val (.long q2), .second, .val (.int p3), .val (.int p4), .val (.int nn), .val (.ref b1), .val (.ref b19), .unset, .unset, .unset, .unset, .unset, .unset, .unset, .unset, .unset, .unset] [])) := by
                intro c7 Tl26 Hl26 gl Zn Kp OL V_b1 V_b19 hyJ
                obtain ⟨vmJ26, kJ26, lcs26, Xl26, Nl26, El26, hS, hk, hZ, hown, CR⟩ := gl
                have JH27 : ∀ (c8 : List Int32) (Tl27 : State) (Hl27 : Heap) (gl : GoodW p l e room_1 s m #[(.int p0), (.long q1), (.long q2), (.int p3), (.int p4)] below meth c n0 2 18 "org/succession/NamesKeyPinLaw" Z h0 Hl27 Tl27) (Zn : n0 ≤ Hl27.size) (Kp : Keep h0 Hl27 []) (OL : Old Z n0 Hl27) (V_b1 : Arv Z Hl27 b1 k1 .char (9 : Int32) [(.int x0), (.int x1), (.int x2), (.int x3), (.int x4), (.int x5), (.int x6), (.int x7), (.int x8)] (.int (0 : Int32))) (V_b19 : Arv Z Hl27 b19 k19 .char nn (c8.map Value.int) (.int (0 : Int32))), own_pre [x0, x1, x2, x3, x4, x5, x6, x7, x8] c8 8 ∧ c8.length = nn.toNatClampNeg → Run p e below (EndsW Z s (Q0 Z p0 q1 q2 p3 p4 zc fm h0 n0) room_1.cells room_1.slots) (Tl27.setTop (mkF m 246 #[.val (.int p0), .val (.long q1), .second, .val (.long q2), .second, .val (.int p3), .val (.int p4), .val (.int nn), .val (.ref b1), .val (.ref b19), .unset, .unset, .unset, .unset, .unset, .unset, .unset, .unset, .unset, .unset] [])) := by
                  intro c8 Tl27 Hl27 gl Zn Kp OL V_b1 V_b19 hyJ
                  obtain ⟨vmJ27, kJ27, lcs27, Xl27, Nl27, El27, hS, hk, hZ, hown, CR⟩ := gl
                  have JH28 : ∀ (c9 : List Int32) (Tl28 : State) (Hl28 : Heap) (gl : GoodW p l e room_1 s m #[(.int p0), (.long q1), (.long q2), (.int p3), (.int p4)] below meth c n0 2 18 "org/succession/NamesKeyPinLaw" Z h0 Hl28 Tl28) (Zn : n0 ≤ Hl28.size) (Kp : Keep h0 Hl28 []) (OL : Old Z n0 Hl28) (V_b1 : Arv Z Hl28 b1 k1 .char (9 : Int32) [(.int x0), (.int x1), (.int x2), (.int x3), (.int x4), (.int x5), (.int x6), (.int x7), (.int x8)] (.int (0 : Int32))) (V_b19 : Arv Z Hl28 b19 k19 .char nn (c9.map Value.int) (.int (0 : Int32))), own_pre [x0, x1, x2, x3, x4, x5, x6, x7, x8] c9 9 ∧ c9.length = nn.toNatClampNeg → Run p e below (EndsW Z s (Q0 Z p0 q1 q2 p3 p4 zc fm h0 n0) room_1.cells room_1.slots) (Tl28.setTop (mkF m 263 #[.val (.int p0), .val (.long q1), .second, .val (.long q2), .second, .val (.int p3), .val (.int p4), .val (.int nn), .val (.ref b1), .val (.ref b19), .unset, .unset, .unset, .unset, .unset, .unset, .unset, .unset, .unset, .unset] [])) := by
                    intro c9 Tl28 Hl28 gl Zn Kp OL V_b1 V_b19 hyJ
                    obtain ⟨vmJ28, kJ28, lcs28, Xl28, Nl28, El28, hS, hk, hZ, hown, CR⟩ := gl
                    obtain ⟨T29, h29, X29, e29, E29, A29, D29, -, st29⟩ := newO Xl28 hx hZ hown (hwi hw 6 rfl) (hwi hw 7 rfl) (hwi hw 8 rfl) El28 (g := (mkF m 263 #[.val (.int p0), .val (.long q1), .second, .val (.long q2), .second, .val (.int p3), .val (.int p4), .val (.int nn), .val (.ref b1), .val (.ref b19), .unset, .unset, .unset, .unset, .unset, .unset, .unset, .unset, .unset, .unset] [])) rfl (hb hby at_263) (by decide) (by decide)
                    obtain ⟨b29, g29⟩ : ∃ z, z = Hl28.size := ⟨_, rfl⟩
                    rw [← g29] at A29 D29 st29
                    have ne_b1_b29 : b1 ≠ b29 := Nat.ne_of_lt (Nat.lt_of_lt_of_le V_b1.lt (Nat.le_of_eq g29.symm))
                    have ne_b19_b29 : b19 ≠ b29 := Nat.ne_of_lt (Nat.lt_of_lt_of_le V_b19.lt (Nat.le_of_eq g29.symm))
                    have CR := CR.trans (CHr.ext E29 CR.1)
                    have V_b1 := V_b1.ext E29
                    have V_b19 := V_b19.ext E29
                    have OL := OL.ext E29
                    have g_b29 : n0 ≤ b29 := Nat.le_trans Zn (Nat.le_of_eq g29.symm)
                    have Zn := Nat.le_trans Zn E29.1
                    have hk := Nat.le_trans hk E29.1
                    have sz_b29 : h0.size ≤ b29 := Nat.le_trans Kp.1 (Nat.le_of_eq g29.symm)
                    have Kp := Kp.ext E29
                    have E_b29 := A29
                    have F_value_b29 : Fld Z h29 b29 "java/lang/String" "value" "[B" .null := D29 (Or.inr (hwi hw 21 rfl)) (ty := (.array .byte)) (by decide)
                    have F_coder_b29 : Fld Z h29 b29 "java/lang/String" "coder" "B" (.int (0 : Int32)) := D29 (Or.inr (hwi hw 22 rfl)) (ty := .byte) (by decide)
                    refine Run.st (S' := T29.setTop (mkF m 269 #[.val (.int p0), .val (.long q1), .second, .val (.long q2), .second, .val (.int p3), .val (.int p4), .val (.int nn), .val (.ref b1), .val (.ref b19), .unset, .unset, .unset, .unset, .unset, .unset, .unset, .unset, .unset, .unset] [(.ref b19), (.ref b29), (.ref b29)])) (fun _ k => st29 _ (XS.dup X29.here hx rfl (hb hby at_266) rfl rfl (XS.aload X29.here hx rfl (hb hby at_267) rfl rfl k))) ?_
                    have hyC := hyJ
                    have hr := own_preR hyC.1 (by rw [hyC.2]; exact own_cap (c := 9) (by have := hnn; omega)) hxs
                    have h9 : nn.toNatClampNeg < 10 := by have := hnn; simp only [Int32.toNatClampNeg]; omega
                    have hl9 : c9.length ≤ 4000 := by rw [hyC.2]; omega
                    have JH30 : ∀ (kz : Int64) (Tl30 : State) (Hl30 : Heap) (gl : GoodW p l e room_1 s m #[(.int p0), (.long q1), (.long q2), (.int p3), (.int p4)] below meth c n0 7 62 "org/succession/NamesKeyPinLaw" Z h0 Hl30 Tl30) (Zn : n0 ≤ Hl30.size) (Kp : Keep h0 Hl30 []) (OL : Old Z n0 Hl30) (V_b1 : Arv Z Hl30 b1 k1 .char (9 : Int32) [(.int x0), (.int x1), (.int x2), (.int x3), (.int x4), (.int x5), (.int x6), (.int x7), (.int x8)] (.int (0 : Int32))), kz = own_k c9 8 → Run p e below (EndsW Z s (Q0 Z p0 q1 q2 p3 p4 zc fm h0 n0) room_1.cells room_1.slots) (Tl30.setTop (mkF m 277 #[.val (.int p0), .val (.long q1), .second, .val (.long q2), .second, .val (.int p3), .val (.int p4), .val (.int nn), .val (.ref b1), .val (.ref b19), .val (.long kz), .second, .unset, .unset, .unset, .unset, .unset, .unset, .unset, .unset] [])) := by
                      intro kz Tl30 Hl30 gl Zn Kp OL V_b1 hyJ
                      obtain ⟨vmJ30, kJ30, lcs30, Xl30, Nl30, El30, hS, hk, hZ, hown, CR⟩ := gl
                      have hkz := hyJ
                      have hyJ := hyC
                      have J299_31 : ∀ (w0 : Int32), w0 = own_v c9 1 → Run p e below (EndsW Z s (Q0 Z p0 q1 q2 p3 p4 zc fm h0 n0) room_1.cells room_1.slots) (Tl30.setTop (mkF m 299 #[.val (.int p0), .val (.long q1), .second, .val (.long q2), .second, .val (.int p3), .val (.int p4), .val (.int nn), .val (.ref b1), .val (.ref b19), .val (.long kz), .second, .val (.int w0), .unset, .unset, .unset, .unset, .unset, .unset, .unset] [])) := by
                        intro w0 h_w0
                        have J327_32 : ∀ (w1 : Int32), w1 = own_v c9 2 → Run p e below (EndsW Z s (Q0 Z p0 q1 q2 p3 p4 zc fm h0 n0) room_1.cells room_1.slots) (Tl30.setTop (mkF m 327 #[.val (.int p0), .val (.long q1), .second, .val (.long q2), .second, .val (.int p3), .val (.int p4), .val (.int nn), .val (.ref b1), .val (.ref b19), .val (.long kz), .second, .val (.int w0), .val (.int w1), .unset, .unset, .unset, .unset, .unset, .unset] [])) := by
                          intro w1 h_w1
                          have J355_33 : ∀ (w2 : Int32), w2 = own_v c9 3 → Run p e below (EndsW Z s (Q0 Z p0 q1 q2 p3 p4 zc fm h0 n0) room_1.cells room_1.slots) (Tl30.setTop (mkF m 355 #[.val (.int p0), .val (.long q1), .second, .val (.long q2), .second, .val (.int p3), .val (.int p4), .val (.int nn), .val (.ref b1), .val (.ref b19), .val (.long kz), .second, .val (.int w0), .val (.int w1), .val (.int w2), .unset, .unset, .unset, .unset, .unset] [])) := by
                            intro w2 h_w2
                            have J383_34 : ∀ (w3 : Int32), w3 = own_v c9 4 → Run p e below (EndsW Z s (Q0 Z p0 q1 q2 p3 p4 zc fm h0 n0) room_1.cells room_1.slots) (Tl30.setTop (mkF m 383 #[.val (.int p0), .val (.long q1), .second, .val (.long q2), .second, .val (.int p3), .val (.int p4), .val (.int nn), .val (.ref b1), .val (.ref b19), .val (.long kz), .second, .val (.int w0), .val (.int w1), .val (.int w2), .val (.int w3), .unset, .unset, .unset, .unset] [])) := by
                              intro w3 h_w3
                              have J411_35 : ∀ (w4 : Int32), w4 = own_v c9 5 → Run p e below (EndsW Z s (Q0 Z p0 q1 q2 p3 p4 zc fm h0 n0) room_1.cells room_1.slots) (Tl30.setTop (mkF m 411 #[.val (.int p0), .val (.long q1), .second, .val (.long q2), .second, .val (.int p3), .val (.int p4), .val (.int nn), .val (.ref b1), .val (.ref b19), .val (.long kz), .second, .val (.int w0), .val (.int w1), .val (.int w2), .val (.int w3), .val (.int w4), .unset, .unset, .unset] [])) := by
                                intro w4 h_w4
                                have J439_36 : ∀ (w5 : Int32), w5 = own_v c9 6 → Run p e below (EndsW Z s (Q0 Z p0 q1 q2 p3 p4 zc fm h0 n0) room_1.cells room_1.slots) (Tl30.setTop (mkF m 439 #[.val (.int p0), .val (.long q1), .second, .val (.long q2), .second, .val (.int p3), .val (.int p4), .val (.int nn), .val (.ref b1), .val (.ref b19), .val (.long kz), .second, .val (.int w0), .val (.int w1), .val (.int w2), .val (.int w3), .val (.int w4), .val (.int w5), .unset, .unset] [])) := by
                                  intro w5 h_w5
                                  have J469_37 : ∀ (w6 : Int32), w6 = own_v c9 7 → Run p e below (EndsW Z s (Q0 Z p0 q1 q2 p3 p4 zc fm h0 n0) room_1.cells room_1.slots) (Tl30.setTop (mkF m 469 #[.val (.int p0), .val (.long q1), .second, .val (.long q2), .second, .val (.int p3), .val (.int p4), .val (.int nn), .val (.ref b1), .val (.ref b19), .val (.long kz), .second, .val (.int w0), .val (.int w1), .val (.int w2), .val (.int w3), .val (.int w4), .val (.int w5), .val (.int w6), .unset] [])) := by
                                    intro w6 h_w6
                                    have J499_38 : ∀ (w7 : Int32), w7 = own_v c9 8 → Run p e below (EndsW Z s (Q0 Z p0 q1 q2 p3 p4 zc fm h0 n0) room_1.cells room_1.slots) (Tl30.setTop (mkF m 499 #[.val (.int p0), .val (.long q1), .second, .val (.long q2), .second, .val (.int p3), .val (.int p4), .val (.int nn), .val (.ref b1), .val (.ref b19), .val (.long kz), .second, .val (.int w0), .val (.int w1), .val (.int w2), .val (.int w3), .val (.int w4), .val (.int w5), .val (.int w6), .val (.int w7)] [])) := by
                                      intro w7 h_w7
                                      have hN8 := own_n8 hr
                                      refine Run.st (S' := Tl30.setTop (mkF m 507 #[.val (.int p0), .val (.long q1), .second, .val (.long q2), .second, .val (.int p3), .val (.int p4), .val (.int nn), .val (.ref b1), .val (.ref b19), .val (.long kz), .second, .val (.int w0), .val (.int w1), .val (.int w2), .val (.int w3), .val (.int w4), .val (.int w5), .val (.int w6), .val (.int w7)] [(.int (0 : Int32)), (.ref b1), (.int w0), (.int (0 : Int32)), (.long kz)])) (fun _ k => XS.lload Xl30.here hx rfl (hb hby at_499) rfl (XS.iconst Xl30.here hx rfl (hb hby at_501) (XS.iload Xl30.here hx rfl (hb hby at_502) rfl (XS.aload Xl30.here hx rfl (hb hby at_504) rfl rfl (XS.iconst Xl30.here hx rfl (hb hby at_506) k))))) ?_
                                      obtain ⟨cl39, Ar39, qa39, Sa39, Na39, Ha39, Ga39⟩ := id V_b1
                                      have hin39 : ¬ ((0 : Int32) < 0 ∨ cl39.slots.size ≤ ((0 : Int32)).toNatClampNeg) := inb_of Sa39 ⟨by decide, by decide⟩
                                      have hat39 : cl39.slots[((0 : Int32)).toNatClampNeg]? = some (.int x0) := Has.at Ha39 hin39 rfl
                                      refine Run.st (S' := Tl30.setTop (mkF m 510 #[.val (.int p0), .val (.long q1), .second, .val (.long q2), .second, .val (.int p3), .val (.int p4), .val (.int nn), .val (.ref b1), .val (.ref b19), .val (.long kz), .second, .val (.int w0), .val (.int w1), .val (.int w2), .val (.int w3), .val (.int w4), .val (.int w5), .val (.int w6), .val (.int w7)] [(.int nn), (.int x0), (.int w0), (.int (0 : Int32)), (.long kz)])) (fun _ k => Xl30.caload hx (j := (0 : Int32)) (v := (.int x0)) (by rw [El30]; exact Ar39.1) (State.isArrayOf_alike hZ.alike Ar39.2.1) Ar39.2.2 hin39 hat39 (g := (mkF m 507 #[.val (.int p0), .val (.long q1), .second, .val (.long q2), .second, .val (.int p3), .val (.int p4), .val (.int nn), .val (.ref b1), .val (.ref b19), .val (.long kz), .second, .val (.int w0), .val (.int w1), .val (.int w2), .val (.int w3), .val (.int w4), .val (.int w5), .val (.int w6), .val (.int w7)] [(.int (0 : Int32)), (.ref b1), (.int w0), (.int (0 : Int32)), (.long kz)])) rfl rfl (hb hby at_507) _ (XS.iload Xl30.here hx rfl (hb hby at_508) rfl k)) ?_
                                      obtain ⟨_, _, ⟨T40, L40, k40, n40⟩, -, X40, ⟨Lc40, hQ40, l40, y40, z40⟩, st40⟩ := Jvm.LawKit.callS Xl30 hx (y := (⟨"org/succession/NamesKeyPinLaw", "at", "(JIZCI)Z"⟩ : MethodName)) hown (mvT hZ (hwi hw 42 rfl)) (mvT hZ (hwi hw 43 rfl)) (mvT hZ (hwi hw 3 rfl)) (mvT hZ (hwi hw 44 rfl)) (by decide) (backOf (W := 0) (rmAt l Z aV hw [] kz (0 : Int32) w0 x0 nn Hl30 n0 Zn (by rw [hkz, h_w0]; exact own_atE (xs := [x0, x1, x2, x3, x4, x5, x6, x7, x8]) 0 hr hyC.1 hyC.2 (by decide) (by decide) (by decide) rfl hN8.1 (by decide))) hZ (hwi hw 44 rfl) (hwi hw 3 rfl) (by decide) (by decide)) (g := (mkF m 510 #[.val (.int p0), .val (.long q1), .second, .val (.long q2), .second, .val (.int p3), .val (.int p4), .val (.int nn), .val (.ref b1), .val (.ref b19), .val (.long kz), .second, .val (.int w0), .val (.int w1), .val (.int w2), .val (.int w3), .val (.int w4), .val (.int w5), .val (.int w6), .val (.int w7)] [(.int nn), (.int x0), (.int w0), (.int (0 : Int32)), (.long kz)])) rfl (by rw [hml]; rfl) (argsL := [(.long kz), (.int (0 : Int32)), (.int w0), (.int x0), (.int nn)]) (rest := []) (lenOf pd_17 rfl) rfl (by show 2 * 0 + _ ≤ _; exact Nat.le_of_eq rfl) (hb hby at_510) (fun _ _ => ⟨rfl, El30, (by decide : 7 + 0 ≤ _), (by decide : 62 + 0 ≤ _)⟩)
                                      dsimp only [Pt.U, Pt.locs, Pt.cells, Pt.slots] at X40 l40 y40 z40 st40 hQ40
                                      replace l40 := l40.symm; replace y40 := y40.symm; replace z40 := z40.symm; subst l40 y40 z40
                                      obtain ⟨rfl, N40q, e40⟩ := hQ40
                                      have N40 := Fr.app Nl30 N40q
                                      refine Run.st (S' := T40.setTop (mkF m 524 #[.val (.int p0), .val (.long q1), .second, .val (.long q2), .second, .val (.int p3), .val (.int p4), .val (.int nn), .val (.ref b1), .val (.ref b19), .val (.long kz), .second, .val (.int w0), .val (.int w1), .val (.int w2), .val (.int w3), .val (.int w4), .val (.int w5), .val (.int w6), .val (.int w7)] [(.int (1 : Int32)), (.ref b1), (.int w1), (.int (1 : Int32)), (.long kz)])) (fun _ k => st40 _ (XS.ifNo X40.here hx rfl (hb hby at_513) rfl ((if0 _ _).trans (feq (show ¬ ((1 : Int32) = (0 : Int32)) from (by decide))).1) (XS.lload X40.here hx rfl (hb hby at_516) rfl (XS.iconst X40.here hx rfl (hb hby at_518) (XS.iload X40.here hx rfl (hb hby at_519) rfl (XS.aload X40.here hx rfl (hb hby at_521) rfl rfl (XS.iconst X40.here hx rfl (hb hby at_523) k))))))) ?_
                                      obtain ⟨cl41, Ar41, qa41, Sa41, Na41, Ha41, Ga41⟩ := id V_b1
                                      have hin41 : ¬ ((1 : Int32) < 0 ∨ cl41.slots.size ≤ ((1 : Int32)).toNatClampNeg) := inb_of Sa41 ⟨by decide, by decide⟩
                                      have hat41 : cl41.slots[((1 : Int32)).toNatClampNeg]? = some (.int x1) := Has.at Ha41 hin41 rfl
                                      refine Run.st (S' := T40.setTop (mkF m 527 #[.val (.int p0), .val (.long q1), .second, .val (.long q2), .second, .val (.int p3), .val (.int p4), .val (.int nn), .val (.ref b1), .val (.ref b19), .val (.long kz), .second, .val (.int w0), .val (.int w1), .val (.int w2), .val (.int w3), .val (.int w4), .val (.int w5), .val (.int w6), .val (.int w7)] [(.int nn), (.int x1), (.int w1), (.int (1 : Int32)), (.long kz)])) (fun _ k => X40.caload hx (j := (1 : Int32)) (v := (.int x1)) (by rw [e40]; exact Ar41.1) (State.isArrayOf_alike hZ.alike Ar41.2.1) Ar41.2.2 hin41 hat41 (g := (mkF m 524 #[.val (.int p0), .val (.long q1), .second, .val (.long q2), .second, .val (.int p3), .val (.int p4), .val (.int nn), .val (.ref b1), .val (.ref b19), .val (.long kz), .second, .val (.int w0), .val (.int w1), .val (.int w2), .val (.int w3), .val (.int w4), .val (.int w5), .val (.int w6), .val (.int w7)] [(.int (1 : Int32)), (.ref b1), (.int w1), (.int (1 : Int32)), (.long kz)])) rfl rfl (hb hby at_524) _ (XS.iload X40.here hx rfl (hb hby at_525) rfl k)) ?_
                                      obtain ⟨_, _, ⟨T42, L42, k42, n42⟩, -, X42, ⟨Lc42, hQ42, l42, y42, z42⟩, st42⟩ := Jvm.LawKit.callS X40 hx (y := (⟨"org/succession/NamesKeyPinLaw", "at", "(JIZCI)Z"⟩ : MethodName)) hown (mvT hZ (hwi hw 42 rfl)) (mvT hZ (hwi hw 43 rfl)) (mvT hZ (hwi hw 3 rfl)) (mvT hZ (hwi hw 44 rfl)) (by decide) (backOf (W := 0) (rmAt l Z aV hw [] kz (1 : Int32) w1 x1 nn Hl30 n0 Zn (by rw [hkz, h_w1]; exact own_atE (xs := [x0, x1, x2, x3, x4, x5, x6, x7, x8]) 1 hr hyC.1 hyC.2 (by decide) (by decide) (by decide) rfl hN8.2.1 (by decide))) hZ (hwi hw 44 rfl) (hwi hw 3 rfl) (by decide) (by decide)) (g := (mkF m 527 #[.val (.int p0), .val (.long q1), .second, .val (.long q2), .second, .val (.int p3), .val (.int p4), .val (.int nn), .val (.ref b1), .val (.ref b19), .val (.long kz), .second, .val (.int w0), .val (.int w1), .val (.int w2), .val (.int w3), .val (.int w4), .val (.int w5), .val (.int w6), .val (.int w7)] [(.int nn), (.int x1), (.int w1), (.int (1 : Int32)), (.long kz)])) rfl (by rw [hml]; rfl) (argsL := [(.long kz), (.int (1 : Int32)), (.int w1), (.int x1), (.int nn)]) (rest := []) (lenOf pd_17 rfl) rfl (by show 2 * 0 + _ ≤ _; exact Nat.le_of_eq rfl) (hb hby at_527) (fun _ _ => ⟨rfl, e40, (by decide : 7 + 0 ≤ _), (by decide : 62 + 0 ≤ _)⟩)
                                      dsimp only [Pt.U, Pt.locs, Pt.cells, Pt.slots] at X42 l42 y42 z42 st42 hQ42
                                      replace l42 := l42.symm; replace y42 := y42.symm; replace z42 := z42.symm; subst l42 y42 z42
                                      obtain ⟨rfl, N42q, e42⟩ := hQ42
                                      have N42 := Fr.app N40 N42q
                                      refine Run.st (S' := T42.setTop (mkF m 541 #[.val (.int p0), .val (.long q1), .second, .val (.long q2), .second, .val (.int p3), .val (.int p4), .val (.int nn), .val (.ref b1), .val (.ref b19), .val (.long kz), .second, .val (.int w0), .val (.int w1), .val (.int w2), .val (.int w3), .val (.int w4), .val (.int w5), .val (.int w6), .val (.int w7)] [(.int (2 : Int32)), (.ref b1), (.int w2), (.int (2 : Int32)), (.long kz)])) (fun _ k => st42 _ (XS.ifNo X42.here hx rfl (hb hby at_530) rfl ((if0 _ _).trans (feq (show ¬ ((1 : Int32) = (0 : Int32)) from (by decide))).1) (XS.lload X42.here hx rfl (hb hby at_533) rfl (XS.iconst X42.here hx rfl (hb hby at_535) (XS.iload X42.here hx rfl (hb hby at_536) rfl (XS.aload X42.here hx rfl (hb hby at_538) rfl rfl (XS.iconst X42.here hx rfl (hb hby at_540) k))))))) ?_
                                      obtain ⟨cl43, Ar43, qa43, Sa43, Na43, Ha43, Ga43⟩ := id V_b1
                                      have hin43 : ¬ ((2 : Int32) < 0 ∨ cl43.slots.size ≤ ((2 : Int32)).toNatClampNeg) := inb_of Sa43 ⟨by decide, by decide⟩
                                      have hat43 : cl43.slots[((2 : Int32)).toNatClampNeg]? = some (.int x2) := Has.at Ha43 hin43 rfl
                                      refine Run.st (S' := T42.setTop (mkF m 544 #[.val (.int p0), .val (.long q1), .second, .val (.long q2), .second, .val (.int p3), .val (.int p4), .val (.int nn), .val (.ref b1), .val (.ref b19), .val (.long kz), .second, .val (.int w0), .val (.int w1), .val (.int w2), .val (.int w3), .val (.int w4), .val (.int w5), .val (.int w6), .val (.int w7)] [(.int nn), (.int x2), (.int w2), (.int (2 : Int32)), (.long kz)])) (fun _ k => X42.caload hx (j := (2 : Int32)) (v := (.int x2)) (by rw [e42]; exact Ar43.1) (State.isArrayOf_alike hZ.alike Ar43.2.1) Ar43.2.2 hin43 hat43 (g := (mkF m 541 #[.val (.int p0), .val (.long q1), .second, .val (.long q2), .second, .val (.int p3), .val (.int p4), .val (.int nn), .val (.ref b1), .val (.ref b19), .val (.long kz), .second, .val (.int w0), .val (.int w1), .val (.int w2), .val (.int w3), .val (.int w4), .val (.int w5), .val (.int w6), .val (.int w7)] [(.int (2 : Int32)), (.ref b1), (.int w2), (.int (2 : Int32)), (.long kz)])) rfl rfl (hb hby at_541) _ (XS.iload X42.here hx rfl (hb hby at_542) rfl k)) ?_
                                      obtain ⟨_, _, ⟨T44, L44, k44, n44⟩, -, X44, ⟨Lc44, hQ44, l44, y44, z44⟩, st44⟩ := Jvm.LawKit.callS X42 hx (y := (⟨"org/succession/NamesKeyPinLaw", "at", "(JIZCI)Z"⟩ : MethodName)) hown (mvT hZ (hwi hw 42 rfl)) (mvT hZ (hwi hw 43 rfl)) (mvT hZ (hwi hw 3 rfl)) (mvT hZ (hwi hw 44 rfl)) (by decide) (backOf (W := 0) (rmAt l Z aV hw [] kz (2 : Int32) w2 x2 nn Hl30 n0 Zn (by rw [hkz, h_w2]; exact own_atE (xs := [x0, x1, x2, x3, x4, x5, x6, x7, x8]) 2 hr hyC.1 hyC.2 (by decide) (by decide) (by decide) rfl hN8.2.2.1 (by decide))) hZ (hwi hw 44 rfl) (hwi hw 3 rfl) (by decide) (by decide)) (g := (mkF m 544 #[.val (.int p0), .val (.long q1), .second, .val (.long q2), .second, .val (.int p3), .val (.int p4), .val (.int nn), .val (.ref b1), .val (.ref b19), .val (.long kz), .second, .val (.int w0), .val (.int w1), .val (.int w2), .val (.int w3), .val (.int w4), .val (.int w5), .val (.int w6), .val (.int w7)] [(.int nn), (.int x2), (.int w2), (.int (2 : Int32)), (.long kz)])) rfl (by rw [hml]; rfl) (argsL := [(.long kz), (.int (2 : Int32)), (.int w2), (.int x2), (.int nn)]) (rest := []) (lenOf pd_17 rfl) rfl (by show 2 * 0 + _ ≤ _; exact Nat.le_of_eq rfl) (hb hby at_544) (fun _ _ => ⟨rfl, e42, (by decide : 7 + 0 ≤ _), (by decide : 62 + 0 ≤ _)⟩)
                                      dsimp only [Pt.U, Pt.locs, Pt.cells, Pt.slots] at X44 l44 y44 z44 st44 hQ44
                                      replace l44 := l44.symm; replace y44 := y44.symm; replace z44 := z44.symm; subst l44 y44 z44
                                      obtain ⟨rfl, N44q, e44⟩ := hQ44
                                      have N44 := Fr.app N42 N44q
                                      refine Run.st (S' := T44.setTop (mkF m 558 #[.val (.int p0), .val (.long q1), .second, .val (.long q2), .second, .val (.int p3), .val (.int p4), .val (.int nn), .val (.ref b1), .val (.ref b19), .val (.long kz), .second, .val (.int w0), .val (.int w1), .val (.int w2), .val (.int w3), .val (.int w4), .val (.int w5), .val (.int w6), .val (.int w7)] [(.int (3 : Int32)), (.ref b1), (.int w3), (.int (3 : Int32)), (.long kz)])) (fun _ k => st44 _ (XS.ifNo X44.here hx rfl (hb hby at_547) rfl ((if0 _ _).trans (feq (show ¬ ((1 : Int32) = (0 : Int32)) from (by decide))).1) (XS.lload X44.here hx rfl (hb hby at_550) rfl (XS.iconst X44.here hx rfl (hb hby at_552) (XS.iload X44.here hx rfl (hb hby at_553) rfl (XS.aload X44.here hx rfl (hb hby at_555) rfl rfl (XS.iconst X44.here hx rfl (hb hby at_557) k))))))) ?_
                                      obtain ⟨cl45, Ar45, qa45, Sa45, Na45, Ha45, Ga45⟩ := id V_b1
                                      have hin45 : ¬ ((3 : Int32) < 0 ∨ cl45.slots.size ≤ ((3 : Int32)).toNatClampNeg) := inb_of Sa45 ⟨by decide, by decide⟩
                                      have hat45 : cl45.slots[((3 : Int32)).toNatClampNeg]? = some (.int x3) := Has.at Ha45 hin45 rfl
                                      refine Run.st (S' := T44.setTop (mkF m 561 #[.val (.int p0), .val (.long q1), .second, .val (.long q2), .second, .val (.int p3), .val (.int p4), .val (.int nn), .val (.ref b1), .val (.ref b19), .val (.long kz), .second, .val (.int w0), .val (.int w1), .val (.int w2), .val (.int w3), .val (.int w4), .val (.int w5), .val (.int w6), .val (.int w7)] [(.int nn), (.int x3), (.int w3), (.int (3 : Int32)), (.long kz)])) (fun _ k => X44.caload hx (j := (3 : Int32)) (v := (.int x3)) (by rw [e44]; exact Ar45.1) (State.isArrayOf_alike hZ.alike Ar45.2.1) Ar45.2.2 hin45 hat45 (g := (mkF m 558 #[.val (.int p0), .val (.long q1), .second, .val (.long q2), .second, .val (.int p3), .val (.int p4), .val (.int nn), .val (.ref b1), .val (.ref b19), .val (.long kz), .second, .val (.int w0), .val (.int w1), .val (.int w2), .val (.int w3), .val (.int w4), .val (.int w5), .val (.int w6), .val (.int w7)] [(.int (3 : Int32)), (.ref b1), (.int w3), (.int (3 : Int32)), (.long kz)])) rfl rfl (hb hby at_558) _ (XS.iload X44.here hx rfl (hb hby at_559) rfl k)) ?_
                                      obtain ⟨_, _, ⟨T46, L46, k46, n46⟩, -, X46, ⟨Lc46, hQ46, l46, y46, z46⟩, st46⟩ := Jvm.LawKit.callS X44 hx (y := (⟨"org/succession/NamesKeyPinLaw", "at", "(JIZCI)Z"⟩ : MethodName)) hown (mvT hZ (hwi hw 42 rfl)) (mvT hZ (hwi hw 43 rfl)) (mvT hZ (hwi hw 3 rfl)) (mvT hZ (hwi hw 44 rfl)) (by decide) (backOf (W := 0) (rmAt l Z aV hw [] kz (3 : Int32) w3 x3 nn Hl30 n0 Zn (by rw [hkz, h_w3]; exact own_atE (xs := [x0, x1, x2, x3, x4, x5, x6, x7, x8]) 3 hr hyC.1 hyC.2 (by decide) (by decide) (by decide) rfl hN8.2.2.2.1 (by decide))) hZ (hwi hw 44 rfl) (hwi hw 3 rfl) (by decide) (by decide)) (g := (mkF m 561 #[.val (.int p0), .val (.long q1), .second, .val (.long q2), .second, .val (.int p3), .val (.int p4), .val (.int nn), .val (.ref b1), .val (.ref b19), .val (.long kz), .second, .val (.int w0), .val (.int w1), .val (.int w2), .val (.int w3), .val (.int w4), .val (.int w5), .val (.int w6), .val (.int w7)] [(.int nn), (.int x3), (.int w3), (.int (3 : Int32)), (.long kz)])) rfl (by rw [hml]; rfl) (argsL := [(.long kz), (.int (3 : Int32)), (.int w3), (.int x3), (.int nn)]) (rest := []) (lenOf pd_17 rfl) rfl (by show 2 * 0 + _ ≤ _; exact Nat.le_of_eq rfl) (hb hby at_561) (fun _ _ => ⟨rfl, e44, (by decide : 7 + 0 ≤ _), (by decide : 62 + 0 ≤ _)⟩)
                                      dsimp only [Pt.U, Pt.locs, Pt.cells, Pt.slots] at X46 l46 y46 z46 st46 hQ46
                                      replace l46 := l46.symm; replace y46 := y46.symm; replace z46 := z46.symm; subst l46 y46 z46
                                      obtain ⟨rfl, N46q, e46⟩ := hQ46
                                      have N46 := Fr.app N44 N46q
                                      refine Run.st (S' := T46.setTop (mkF m 575 #[.val (.int p0), .val (.long q1), .second, .val (.long q2), .second, .val (.int p3), .val (.int p4), .val (.int nn), .val (.ref b1), .val (.ref b19), .val (.long kz), .second, .val (.int w0), .val (.int w1), .val (.int w2), .val (.int w3), .val (.int w4), .val (.int w5), .val (.int w6), .val (.int w7)] [(.int (4 : Int32)), (.ref b1), (.int w4), (.int (4 : Int32)), (.long kz)])) (fun _ k => st46 _ (XS.ifNo X46.here hx rfl (hb hby at_564) rfl ((if0 _ _).trans (feq (show ¬ ((1 : Int32) = (0 : Int32)) from (by decide))).1) (XS.lload X46.here hx rfl (hb hby at_567) rfl (XS.iconst X46.here hx rfl (hb hby at_569) (XS.iload X46.here hx rfl (hb hby at_570) rfl (XS.aload X46.here hx rfl (hb hby at_572) rfl rfl (XS.iconst X46.here hx rfl (hb hby at_574) k))))))) ?_
                                      obtain ⟨cl47, Ar47, qa47, Sa47, Na47, Ha47, Ga47⟩ := id V_b1
                                      have hin47 : ¬ ((4 : Int32) < 0 ∨ cl47.slots.size ≤ ((4 : Int32)).toNatClampNeg) := inb_of Sa47 ⟨by decide, by decide⟩
                                      have hat47 : cl47.slots[((4 : Int32)).toNatClampNeg]? = some (.int x4) := Has.at Ha47 hin47 rfl
                                      refine Run.st (S' := T46.setTop (mkF m 578 #[.val (.int p0), .val (.long q1), .second, .val (.long q2), .second, .val (.int p3), .val (.int p4), .val (.int nn), .val (.ref b1), .val (.ref b19), .val (.long kz), .second, .val (.int w0), .val (.int w1), .val (.int w2), .val (.int w3), .val (.int w4), .val (.int w5), .val (.int w6), .val (.int w7)] [(.int nn), (.int x4), (.int w4), (.int (4 : Int32)), (.long kz)])) (fun _ k => X46.caload hx (j := (4 : Int32)) (v := (.int x4)) (by rw [e46]; exact Ar47.1) (State.isArrayOf_alike hZ.alike Ar47.2.1) Ar47.2.2 hin47 hat47 (g := (mkF m 575 #[.val (.int p0), .val (.long q1), .second, .val (.long q2), .second, .val (.int p3), .val (.int p4), .val (.int nn), .val (.ref b1), .val (.ref b19), .val (.long kz), .second, .val (.int w0), .val (.int w1), .val (.int w2), .val (.int w3), .val (.int w4), .val (.int w5), .val (.int w6), .val (.int w7)] [(.int (4 : Int32)), (.ref b1), (.int w4), (.int (4 : Int32)), (.long kz)])) rfl rfl (hb hby at_575) _ (XS.iload X46.here hx rfl (hb hby at_576) rfl k)) ?_
                                      obtain ⟨_, _, ⟨T48, L48, k48, n48⟩, -, X48, ⟨Lc48, hQ48, l48, y48, z48⟩, st48⟩ := Jvm.LawKit.callS X46 hx (y := (⟨"org/succession/NamesKeyPinLaw", "at", "(JIZCI)Z"⟩ : MethodName)) hown (mvT hZ (hwi hw 42 rfl)) (mvT hZ (hwi hw 43 rfl)) (mvT hZ (hwi hw 3 rfl)) (mvT hZ (hwi hw 44 rfl)) (by decide) (backOf (W := 0) (rmAt l Z aV hw [] kz (4 : Int32) w4 x4 nn Hl30 n0 Zn (by rw [hkz, h_w4]; exact own_atE (xs := [x0, x1, x2, x3, x4, x5, x6, x7, x8]) 4 hr hyC.1 hyC.2 (by decide) (by decide) (by decide) rfl hN8.2.2.2.2.1 (by decide))) hZ (hwi hw 44 rfl) (hwi hw 3 rfl) (by decide) (by decide)) (g := (mkF m 578 #[.val (.int p0), .val (.long q1), .second, .val (.long q2), .second, .val (.int p3), .val (.int p4), .val (.int nn), .val (.ref b1), .val (.ref b19), .val (.long kz), .second, .val (.int w0), .val (.int w1), .val (.int w2), .val (.int w3), .val (.int w4), .val (.int w5), .val (.int w6), .val (.int w7)] [(.int nn), (.int x4), (.int w4), (.int (4 : Int32)), (.long kz)])) rfl (by rw [hml]; rfl) (argsL := [(.long kz), (.int (4 : Int32)), (.int w4), (.int x4), (.int nn)]) (rest := []) (lenOf pd_17 rfl) rfl (by show 2 * 0 + _ ≤ _; exact Nat.le_of_eq rfl) (hb hby at_578) (fun _ _ => ⟨rfl, e46, (by decide : 7 + 0 ≤ _), (by decide : 62 + 0 ≤ _)⟩)
                                      dsimp only [Pt.U, Pt.locs, Pt.cells, Pt.slots] at X48 l48 y48 z48 st48 hQ48
                                      replace l48 := l48.symm; replace y48 := y48.symm; replace z48 := z48.symm; subst l48 y48 z48
                                      obtain ⟨rfl, N48q, e48⟩ := hQ48
                                      have N48 := Fr.app N46 N48q
                                      refine Run.st (S' := T48.setTop (mkF m 592 #[.val (.int p0), .val (.long q1), .second, .val (.long q2), .second, .val (.int p3), .val (.int p4), .val (.int nn), .val (.ref b1), .val (.ref b19), .val (.long kz), .second, .val (.int w0), .val (.int w1), .val (.int w2), .val (.int w3), .val (.int w4), .val (.int w5), .val (.int w6), .val (.int w7)] [(.int (5 : Int32)), (.ref b1), (.int w5), (.int (5 : Int32)), (.long kz)])) (fun _ k => st48 _ (XS.ifNo X48.here hx rfl (hb hby at_581) rfl ((if0 _ _).trans (feq (show ¬ ((1 : Int32) = (0 : Int32)) from (by decide))).1) (XS.lload X48.here hx rfl (hb hby at_584) rfl (XS.iconst X48.here hx rfl (hb hby at_586) (XS.iload X48.here hx rfl (hb hby at_587) rfl (XS.aload X48.here hx rfl (hb hby at_589) rfl rfl (XS.iconst X48.here hx rfl (hb hby at_591) k))))))) ?_
                                      obtain ⟨cl49, Ar49, qa49, Sa49, Na49, Ha49, Ga49⟩ := id V_b1
                                      have hin49 : ¬ ((5 : Int32) < 0 ∨ cl49.slots.size ≤ ((5 : Int32)).toNatClampNeg) := inb_of Sa49 ⟨by decide, by decide⟩
                                      have hat49 : cl49.slots[((5 : Int32)).toNatClampNeg]? = some (.int x5) := Has.at Ha49 hin49 rfl
                                      refine Run.st (S' := T48.setTop (mkF m 595 #[.val (.int p0), .val (.long q1), .second, .val (.long q2), .second, .val (.int p3), .val (.int p4), .val (.int nn), .val (.ref b1), .val (.ref b19), .val (.long kz), .second, .val (.int w0), .val (.int w1), .val (.int w2), .val (.int w3), .val (.int w4), .val (.int w5), .val (.int w6), .val (.int w7)] [(.int nn), (.int x5), (.int w5), (.int (5 : Int32)), (.long kz)])) (fun _ k => X48.caload hx (j := (5 : Int32)) (v := (.int x5)) (by rw [e48]; exact Ar49.1) (State.isArrayOf_alike hZ.alike Ar49.2.1) Ar49.2.2 hin49 hat49 (g := (mkF m 592 #[.val (.int p0), .val (.long q1), .second, .val (.long q2), .second, .val (.int p3), .val (.int p4), .val (.int nn), .val (.ref b1), .val (.ref b19), .val (.long kz), .second, .val (.int w0), .val (.int w1), .val (.int w2), .val (.int w3), .val (.int w4), .val (.int w5), .val (.int w6), .val (.int w7)] [(.int (5 : Int32)), (.ref b1), (.int w5), (.int (5 : Int32)), (.long kz)])) rfl rfl (hb hby at_592) _ (XS.iload X48.here hx rfl (hb hby at_593) rfl k)) ?_
                                      obtain ⟨_, _, ⟨T50, L50, k50, n50⟩, -, X50, ⟨Lc50, hQ50, l50, y50, z50⟩, st50⟩ := Jvm.LawKit.callS X48 hx (y := (⟨"org/succession/NamesKeyPinLaw", "at", "(JIZCI)Z"⟩ : MethodName)) hown (mvT hZ (hwi hw 42 rfl)) (mvT hZ (hwi hw 43 rfl)) (mvT hZ (hwi hw 3 rfl)) (mvT hZ (hwi hw 44 rfl)) (by decide) (backOf (W := 0) (rmAt l Z aV hw [] kz (5 : Int32) w5 x5 nn Hl30 n0 Zn (by rw [hkz, h_w5]; exact own_atE (xs := [x0, x1, x2, x3, x4, x5, x6, x7, x8]) 5 hr hyC.1 hyC.2 (by decide) (by decide) (by decide) rfl hN8.2.2.2.2.2.1 (by decide))) hZ (hwi hw 44 rfl) (hwi hw 3 rfl) (by decide) (by decide)) (g := (mkF m 595 #[.val (.int p0), .val (.long q1), .second, .val (.long q2), .second, .val (.int p3), .val (.int p4), .val (.int nn), .val (.ref b1), .val (.ref b19), .val (.long kz), .second, .val (.int w0), .val (.int w1), .val (.int w2), .val (.int w3), .val (.int w4), .val (.int w5), .val (.int w6), .val (.int w7)] [(.int nn), (.int x5), (.int w5), (.int (5 : Int32)), (.long kz)])) rfl (by rw [hml]; rfl) (argsL := [(.long kz), (.int (5 : Int32)), (.int w5), (.int x5), (.int nn)]) (rest := []) (lenOf pd_17 rfl) rfl (by show 2 * 0 + _ ≤ _; exact Nat.le_of_eq rfl) (hb hby at_595) (fun _ _ => ⟨rfl, e48, (by decide : 7 + 0 ≤ _), (by decide : 62 + 0 ≤ _)⟩)
                                      dsimp only [Pt.U, Pt.locs, Pt.cells, Pt.slots] at X50 l50 y50 z50 st50 hQ50
                                      replace l50 := l50.symm; replace y50 := y50.symm; replace z50 := z50.symm; subst l50 y50 z50
                                      obtain ⟨rfl, N50q, e50⟩ := hQ50
                                      have N50 := Fr.app N48 N50q
                                      refine Run.st (S' := T50.setTop (mkF m 611 #[.val (.int p0), .val (.long q1), .second, .val (.long q2), .second, .val (.int p3), .val (.int p4), .val (.int nn), .val (.ref b1), .val (.ref b19), .val (.long kz), .second, .val (.int w0), .val (.int w1), .val (.int w2), .val (.int w3), .val (.int w4), .val (.int w5), .val (.int w6), .val (.int w7)] [(.int (6 : Int32)), (.ref b1), (.int w6), (.int (6 : Int32)), (.long kz)])) (fun _ k => st50 _ (XS.ifNo X50.here hx rfl (hb hby at_598) rfl ((if0 _ _).trans (feq (show ¬ ((1 : Int32) = (0 : Int32)) from (by decide))).1) (XS.lload X50.here hx rfl (hb hby at_601) rfl (XS.bipush X50.here hx rfl (hb hby at_603) (XS.iload X50.here hx rfl (hb hby at_605) rfl (XS.aload X50.here hx rfl (hb hby at_607) rfl rfl (XS.bipush X50.here hx rfl (hb hby at_609) k))))))) ?_
                                      obtain ⟨cl51, Ar51, qa51, Sa51, Na51, Ha51, Ga51⟩ := id V_b1
                                      have hin51 : ¬ ((6 : Int32) < 0 ∨ cl51.slots.size ≤ ((6 : Int32)).toNatClampNeg) := inb_of Sa51 ⟨by decide, by decide⟩
                                      have hat51 : cl51.slots[((6 : Int32)).toNatClampNeg]? = some (.int x6) := Has.at Ha51 hin51 rfl
                                      refine Run.st (S' := T50.setTop (mkF m 614 #[.val (.int p0), .val (.long q1), .second, .val (.long q2), .second, .val (.int p3), .val (.int p4), .val (.int nn), .val (.ref b1), .val (.ref b19), .val (.long kz), .second, .val (.int w0), .val (.int w1), .val (.int w2), .val (.int w3), .val (.int w4), .val (.int w5), .val (.int w6), .val (.int w7)] [(.int nn), (.int x6), (.int w6), (.int (6 : Int32)), (.long kz)])) (fun _ k => X50.caload hx (j := (6 : Int32)) (v := (.int x6)) (by rw [e50]; exact Ar51.1) (State.isArrayOf_alike hZ.alike Ar51.2.1) Ar51.2.2 hin51 hat51 (g := (mkF m 611 #[.val (.int p0), .val (.long q1), .second, .val (.long q2), .second, .val (.int p3), .val (.int p4), .val (.int nn), .val (.ref b1), .val (.ref b19), .val (.long kz), .second, .val (.int w0), .val (.int w1), .val (.int w2), .val (.int w3), .val (.int w4), .val (.int w5), .val (.int w6), .val (.int w7)] [(.int (6 : Int32)), (.ref b1), (.int w6), (.int (6 : Int32)), (.long kz)])) rfl rfl (hb hby at_611) _ (XS.iload X50.here hx rfl (hb hby at_612) rfl k)) ?_
                                      obtain ⟨_, _, ⟨T52, L52, k52, n52⟩, -, X52, ⟨Lc52, hQ52, l52, y52, z52⟩, st52⟩ := Jvm.LawKit.callS X50 hx (y := (⟨"org/succession/NamesKeyPinLaw", "at", "(JIZCI)Z"⟩ : MethodName)) hown (mvT hZ (hwi hw 42 rfl)) (mvT hZ (hwi hw 43 rfl)) (mvT hZ (hwi hw 3 rfl)) (mvT hZ (hwi hw 44 rfl)) (by decide) (backOf (W := 0) (rmAt l Z aV hw [] kz (6 : Int32) w6 x6 nn Hl30 n0 Zn (by rw [hkz, h_w6]; exact own_atE (xs := [x0, x1, x2, x3, x4, x5, x6, x7, x8]) 6 hr hyC.1 hyC.2 (by decide) (by decide) (by decide) rfl hN8.2.2.2.2.2.2.1 (by decide))) hZ (hwi hw 44 rfl) (hwi hw 3 rfl) (by decide) (by decide)) (g := (mkF m 614 #[.val (.int p0), .val (.long q1), .second, .val (.long q2), .second, .val (.int p3), .val (.int p4), .val (.int nn), .val (.ref b1), .val (.ref b19), .val (.long kz), .second, .val (.int w0), .val (.int w1), .val (.int w2), .val (.int w3), .val (.int w4), .val (.int w5), .val (.int w6), .val (.int w7)] [(.int nn), (.int x6), (.int w6), (.int (6 : Int32)), (.long kz)])) rfl (by rw [hml]; rfl) (argsL := [(.long kz), (.int (6 : Int32)), (.int w6), (.int x6), (.int nn)]) (rest := []) (lenOf pd_17 rfl) rfl (by show 2 * 0 + _ ≤ _; exact Nat.le_of_eq rfl) (hb hby at_614) (fun _ _ => ⟨rfl, e50, (by decide : 7 + 0 ≤ _), (by decide : 62 + 0 ≤ _)⟩)
                                      dsimp only [Pt.U, Pt.locs, Pt.cells, Pt.slots] at X52 l52 y52 z52 st52 hQ52
                                      replace l52 := l52.symm; replace y52 := y52.symm; replace z52 := z52.symm; subst l52 y52 z52
                                      obtain ⟨rfl, N52q, e52⟩ := hQ52
                                      have N52 := Fr.app N50 N52q
                                      refine Run.st (S' := T52.setTop (mkF m 630 #[.val (.int p0), .val (.long q1), .second, .val (.long q2), .second, .val (.int p3), .val (.int p4), .val (.int nn), .val (.ref b1), .val (.ref b19), .val (.long kz), .second, .val (.int w0), .val (.int w1), .val (.int w2), .val (.int w3), .val (.int w4), .val (.int w5), .val (.int w6), .val (.int w7)] [(.int (7 : Int32)), (.ref b1), (.int w7), (.int (7 : Int32)), (.long kz)])) (fun _ k => st52 _ (XS.ifNo X52.here hx rfl (hb hby at_617) rfl ((if0 _ _).trans (feq (show ¬ ((1 : Int32) = (0 : Int32)) from (by decide))).1) (XS.lload X52.here hx rfl (hb hby at_620) rfl (XS.bipush X52.here hx rfl (hb hby at_622) (XS.iload X52.here hx rfl (hb hby at_624) rfl (XS.aload X52.here hx rfl (hb hby at_626) rfl rfl (XS.bipush X52.here hx rfl (hb hby at_628) k))))))) ?_
                                      obtain ⟨cl53, Ar53, qa53, Sa53, Na53, Ha53, Ga53⟩ := id V_b1
                                      have hin53 : ¬ ((7 : Int32) < 0 ∨ cl53.slots.size ≤ ((7 : Int32)).toNatClampNeg) := inb_of Sa53 ⟨by decide, by decide⟩
                                      have hat53 : cl53.slots[((7 : Int32)).toNatClampNeg]? = some (.int x7) := Has.at Ha53 hin53 rfl
                                      refine Run.st (S' := T52.setTop (mkF m 633 #[.val (.int p0), .val (.long q1), .second, .val (.long q2), .second, .val (.int p3), .val (.int p4), .val (.int nn), .val (.ref b1), .val (.ref b19), .val (.long kz), .second, .val (.int w0), .val (.int w1), .val (.int w2), .val (.int w3), .val (.int w4), .val (.int w5), .val (.int w6), .val (.int w7)] [(.int nn), (.int x7), (.int w7), (.int (7 : Int32)), (.long kz)])) (fun _ k => X52.caload hx (j := (7 : Int32)) (v := (.int x7)) (by rw [e52]; exact Ar53.1) (State.isArrayOf_alike hZ.alike Ar53.2.1) Ar53.2.2 hin53 hat53 (g := (mkF m 630 #[.val (.int p0), .val (.long q1), .second, .val (.long q2), .second, .val (.int p3), .val (.int p4), .val (.int nn), .val (.ref b1), .val (.ref b19), .val (.long kz), .second, .val (.int w0), .val (.int w1), .val (.int w2), .val (.int w3), .val (.int w4), .val (.int w5), .val (.int w6), .val (.int w7)] [(.int (7 : Int32)), (.ref b1), (.int w7), (.int (7 : Int32)), (.long kz)])) rfl rfl (hb hby at_630) _ (XS.iload X52.here hx rfl (hb hby at_631) rfl k)) ?_
                                      obtain ⟨_, _, ⟨T54, L54, k54, n54⟩, -, X54, ⟨Lc54, hQ54, l54, y54, z54⟩, st54⟩ := Jvm.LawKit.callS X52 hx (y := (⟨"org/succession/NamesKeyPinLaw", "at", "(JIZCI)Z"⟩ : MethodName)) hown (mvT hZ (hwi hw 42 rfl)) (mvT hZ (hwi hw 43 rfl)) (mvT hZ (hwi hw 3 rfl)) (mvT hZ (hwi hw 44 rfl)) (by decide) (backOf (W := 0) (rmAt l Z aV hw [] kz (7 : Int32) w7 x7 nn Hl30 n0 Zn (by rw [hkz, h_w7]; exact own_atE (xs := [x0, x1, x2, x3, x4, x5, x6, x7, x8]) 7 hr hyC.1 hyC.2 (by decide) (by decide) (by decide) rfl hN8.2.2.2.2.2.2.2 (by decide))) hZ (hwi hw 44 rfl) (hwi hw 3 rfl) (by decide) (by decide)) (g := (mkF m 633 #[.val (.int p0), .val (.long q1), .second, .val (.long q2), .second, .val (.int p3), .val (.int p4), .val (.int nn), .val (.ref b1), .val (.ref b19), .val (.long kz), .second, .val (.int w0), .val (.int w1), .val (.int w2), .val (.int w3), .val (.int w4), .val (.int w5), .val (.int w6), .val (.int w7)] [(.int nn), (.int x7), (.int w7), (.int (7 : Int32)), (.long kz)])) rfl (by rw [hml]; rfl) (argsL := [(.long kz), (.int (7 : Int32)), (.int w7), (.int x7), (.int nn)]) (rest := []) (lenOf pd_17 rfl) rfl (by show 2 * 0 + _ ≤ _; exact Nat.le_of_eq rfl) (hb hby at_633) (fun _ _ => ⟨rfl, e52, (by decide : 7 + 0 ≤ _), (by decide : 62 + 0 ≤ _)⟩)
                                      dsimp only [Pt.U, Pt.locs, Pt.cells, Pt.slots] at X54 l54 y54 z54 st54 hQ54
                                      replace l54 := l54.symm; replace y54 := y54.symm; replace z54 := z54.symm; subst l54 y54 z54
                                      obtain ⟨rfl, N54q, e54⟩ := hQ54
                                      have N54 := Fr.app N52 N54q
                                      refine Run.st (S' := T54.setTop (mkF m 644 #[.val (.int p0), .val (.long q1), .second, .val (.long q2), .second, .val (.int p3), .val (.int p4), .val (.int nn), .val (.ref b1), .val (.ref b19), .val (.long kz), .second, .val (.int w0), .val (.int w1), .val (.int w2), .val (.int w3), .val (.int w4), .val (.int w5), .val (.int w6), .val (.int w7)] [(.int (1 : Int32))])) (fun _ k => st54 _ (XS.ifNo X54.here hx rfl (hb hby at_636) rfl ((if0 _ _).trans (feq (show ¬ ((1 : Int32) = (0 : Int32)) from (by decide))).1) (XS.iconst X54.here hx rfl (hb hby at_639) (XS.goto X54.here hx rfl (pc0 := 640) (pc' := 644) rfl (hb hby at_640) (by decide) (by decide) k)))) ?_
                                      refine Run.outW X54 hx hS (by rw [e54]; exact hk) (by rw [hh, e54]; exact CR.trans (CHv.at X54 hZ (own_EW hw) CR.1)) Bd.notSynchronized Bd.returns rfl (Or.inl ⟨rfl, by simp, _, rfl⟩) (hb hby at_644) (by decide) (by decide) ?_
                                      rw [e54]
                                      exact ⟨rfl, N54⟩
                                    refine Run.st (S' := Tl30.setTop (mkF m 471 #[.val (.int p0), .val (.long q1), .second, .val (.long q2), .second, .val (.int p3), .val (.int p4), .val (.int nn), .val (.ref b1), .val (.ref b19), .val (.long kz), .second, .val (.int w0), .val (.int w1), .val (.int w2), .val (.int w3), .val (.int w4), .val (.int w5), .val (.int w6), .unset] [(.int w6)])) (fun _ k => XS.iload Xl30.here hx rfl (hb hby at_469) rfl k) ?_
                                    by_cases hc471_55 : w6 = (0 : Int32)
                                    · refine Run.st (S' := Tl30.setTop (mkF m 478 #[.val (.int p0), .val (.long q1), .second, .val (.long q2), .second, .val (.int p3), .val (.int p4), .val (.int nn), .val (.ref b1), .val (.ref b19), .val (.long kz), .second, .val (.int w0), .val (.int w1), .val (.int w2), .val (.int w3), .val (.int w4), .val (.int w5), .val (.int w6), .unset] [(.int (7 : Int32)), (.int nn)])) (fun _ k => XS.ifNo Xl30.here hx rfl (hb hby at_471) rfl ((if0 _ _).trans (teq hc471_55).2) (XS.iload Xl30.here hx rfl (hb hby at_474) rfl (XS.bipush Xl30.here hx rfl (hb hby at_476) k))) ?_
                                      by_cases hc478_56 : (7 : Int32) < nn
                                      · refine Run.st (S' := Tl30.setTop (mkF m 485 #[.val (.int p0), .val (.long q1), .second, .val (.long q2), .second, .val (.int p3), .val (.int p4), .val (.int nn), .val (.ref b1), .val (.ref b19), .val (.long kz), .second, .val (.int w0), .val (.int w1), .val (.int w2), .val (.int w3), .val (.int w4), .val (.int w5), .val (.int w6), .unset] [(.int (7 : Int32)), (.ref b1)])) (fun _ k => XS.icmpNo Xl30.here hx rfl (hb hby at_478) rfl (tlt hc478_56).2.2.2 (XS.aload Xl30.here hx rfl (hb hby at_481) rfl rfl (XS.bipush Xl30.here hx rfl (hb hby at_483) k))) ?_
                                        obtain ⟨cl57, Ar57, qa57, Sa57, Na57, Ha57, Ga57⟩ := id V_b1
                                        have hin57 : ¬ ((7 : Int32) < 0 ∨ cl57.slots.size ≤ ((7 : Int32)).toNatClampNeg) := inb_of Sa57 ⟨by decide, by decide⟩
                                        have hat57 : cl57.slots[((7 : Int32)).toNatClampNeg]? = some (.int x7) := Has.at Ha57 hin57 rfl
                                        refine Run.st (S' := Tl30.setTop (mkF m 489 #[.val (.int p0), .val (.long q1), .second, .val (.long q2), .second, .val (.int p3), .val (.int p4), .val (.int nn), .val (.ref b1), .val (.ref b19), .val (.long kz), .second, .val (.int w0), .val (.int w1), .val (.int w2), .val (.int w3), .val (.int w4), .val (.int w5), .val (.int w6), .unset] [(.int (255 : Int32)), (.int x7)])) (fun _ k => Xl30.caload hx (j := (7 : Int32)) (v := (.int x7)) (by rw [El30]; exact Ar57.1) (State.isArrayOf_alike hZ.alike Ar57.2.1) Ar57.2.2 hin57 hat57 (g := (mkF m 485 #[.val (.int p0), .val (.long q1), .second, .val (.long q2), .second, .val (.int p3), .val (.int p4), .val (.int nn), .val (.ref b1), .val (.ref b19), .val (.long kz), .second, .val (.int w0), .val (.int w1), .val (.int w2), .val (.int w3), .val (.int w4), .val (.int w5), .val (.int w6), .unset] [(.int (7 : Int32)), (.ref b1)])) rfl rfl (hb hby at_485) _ (XS.sipush Xl30.here hx rfl (hb hby at_486) k)) ?_
                                        by_cases hc489_58 : (255 : Int32) < x7
                                        · refine Run.st (S' := Tl30.setTop (mkF m 499 #[.val (.int p0), .val (.long q1), .second, .val (.long q2), .second, .val (.int p3), .val (.int p4), .val (.int nn), .val (.ref b1), .val (.ref b19), .val (.long kz), .second, .val (.int w0), .val (.int w1), .val (.int w2), .val (.int w3), .val (.int w4), .val (.int w5), .val (.int w6), .val (.int (1 : Int32))] [])) (fun _ k => XS.icmpNo Xl30.here hx rfl (hb hby at_489) rfl (tlt hc489_58).2.2.2 (XS.iconst Xl30.here hx rfl (hb hby at_492) (XS.goto Xl30.here hx rfl (pc0 := 493) (pc' := 497) rfl (hb hby at_493) (by decide) (by decide) (XS.istore Xl30.here hx rfl (hb hby at_497) rfl (l' := #[.val (.int p0), .val (.long q1), .second, .val (.long q2), .second, .val (.int p3), .val (.int p4), .val (.int nn), .val (.ref b1), .val (.ref b19), .val (.long kz), .second, .val (.int w0), .val (.int w1), .val (.int w2), .val (.int w3), .val (.int w4), .val (.int w5), .val (.int w6), .val (.int (1 : Int32))]) rfl k)))) ?_
                                          exact J499_38 (1 : Int32) (own_vB (i := 7) (by rw [(own_gx (j := (7 : Int32)) (i := 7) hyC.1 hyC.2 (by decide) (by decide) (by decide) hc478_56)]; exact hc489_58))
                                        · refine Run.st (S' := Tl30.setTop (mkF m 499 #[.val (.int p0), .val (.long q1), .second, .val (.long q2), .second, .val (.int p3), .val (.int p4), .val (.int nn), .val (.ref b1), .val (.ref b19), .val (.long kz), .second, .val (.int w0), .val (.int w1), .val (.int w2), .val (.int w3), .val (.int w4), .val (.int w5), .val (.int w6), .val (.int (0 : Int32))] [])) (fun _ k => XS.icmpYes Xl30.here hx rfl (pc0 := 489) (pc' := 496) rfl (hb hby at_489) rfl (flt hc489_58).2.2.2 (by decide) (by decide) (XS.iconst Xl30.here hx rfl (hb hby at_496) (XS.istore Xl30.here hx rfl (hb hby at_497) rfl (l' := #[.val (.int p0), .val (.long q1), .second, .val (.long q2), .second, .val (.int p3), .val (.int p4), .val (.int nn), .val (.ref b1), .val (.ref b19), .val (.long kz), .second, .val (.int w0), .val (.int w1), .val (.int w2), .val (.int w3), .val (.int w4), .val (.int w5), .val (.int w6), .val (.int (0 : Int32))]) rfl k))) ?_
                                          exact J499_38 (0 : Int32) (own_vC (i := 7) (by rw [← h_w6]; exact hc471_55) (by rw [(own_gx (j := (7 : Int32)) (i := 7) hyC.1 hyC.2 (by decide) (by decide) (by decide) hc478_56)]; exact hc489_58))
                                      · refine Run.st (S' := Tl30.setTop (mkF m 499 #[.val (.int p0), .val (.long q1), .second, .val (.long q2), .second, .val (.int p3), .val (.int p4), .val (.int nn), .val (.ref b1), .val (.ref b19), .val (.long kz), .second, .val (.int w0), .val (.int w1), .val (.int w2), .val (.int w3), .val (.int w4), .val (.int w5), .val (.int w6), .val (.int (0 : Int32))] [])) (fun _ k => XS.icmpYes Xl30.here hx rfl (pc0 := 478) (pc' := 496) rfl (hb hby at_478) rfl (flt hc478_56).2.2.2 (by decide) (by decide) (XS.iconst Xl30.here hx rfl (hb hby at_496) (XS.istore Xl30.here hx rfl (hb hby at_497) rfl (l' := #[.val (.int p0), .val (.long q1), .second, .val (.long q2), .second, .val (.int p3), .val (.int p4), .val (.int nn), .val (.ref b1), .val (.ref b19), .val (.long kz), .second, .val (.int w0), .val (.int w1), .val (.int w2), .val (.int w3), .val (.int w4), .val (.int w5), .val (.int w6), .val (.int (0 : Int32))]) rfl k))) ?_
                                        exact J499_38 (0 : Int32) (own_vC (i := 7) (by rw [← h_w6]; exact hc471_55) (own_gz (j := (7 : Int32)) hyC.2 (by decide) (by decide) hc478_56))
                                    · refine Run.st (S' := Tl30.setTop (mkF m 499 #[.val (.int p0), .val (.long q1), .second, .val (.long q2), .second, .val (.int p3), .val (.int p4), .val (.int nn), .val (.ref b1), .val (.ref b19), .val (.long kz), .second, .val (.int w0), .val (.int w1), .val (.int w2), .val (.int w3), .val (.int w4), .val (.int w5), .val (.int w6), .val (.int (1 : Int32))] [])) (fun _ k => XS.ifYes Xl30.here hx rfl (pc0 := 471) (pc' := 492) rfl (hb hby at_471) rfl ((if0 _ _).trans (feq hc471_55).2) (by decide) (by decide) (XS.iconst Xl30.here hx rfl (hb hby at_492) (XS.goto Xl30.here hx rfl (pc0 := 493) (pc' := 497) rfl (hb hby at_493) (by decide) (by decide) (XS.istore Xl30.here hx rfl (hb hby at_497) rfl (l' := #[.val (.int p0), .val (.long q1), .second, .val (.long q2), .second, .val (.int p3), .val (.int p4), .val (.int nn), .val (.ref b1), .val (.ref b19), .val (.long kz), .second, .val (.int w0), .val (.int w1), .val (.int w2), .val (.int w3), .val (.int w4), .val (.int w5), .val (.int w6), .val (.int (1 : Int32))]) rfl k)))) ?_
                                      exact J499_38 (1 : Int32) (own_vA (i := 7) (by rw [← h_w6]; exact hc471_55))
                                  refine Run.st (S' := Tl30.setTop (mkF m 441 #[.val (.int p0), .val (.long q1), .second, .val (.long q2), .second, .val (.int p3), .val (.int p4), .val (.int nn), .val (.ref b1), .val (.ref b19), .val (.long kz), .second, .val (.int w0), .val (.int w1), .val (.int w2), .val (.int w3), .val (.int w4), .val (.int w5), .unset, .unset] [(.int w5)])) (fun _ k => XS.iload Xl30.here hx rfl (hb hby at_439) rfl k) ?_
                                  by_cases hc441_59 : w5 = (0 : Int32)
                                  · refine Run.st (S' := Tl30.setTop (mkF m 448 #[.val (.int p0), .val (.long q1), .second, .val (.long q2), .second, .val (.int p3), .val (.int p4), .val (.int nn), .val (.ref b1), .val (.ref b19), .val (.long kz), .second, .val (.int w0), .val (.int w1), .val (.int w2), .val (.int w3), .val (.int w4), .val (.int w5), .unset, .unset] [(.int (6 : Int32)), (.int nn)])) (fun _ k => XS.ifNo Xl30.here hx rfl (hb hby at_441) rfl ((if0 _ _).trans (teq hc441_59).2) (XS.iload Xl30.here hx rfl (hb hby at_444) rfl (XS.bipush Xl30.here hx rfl (hb hby at_446) k))) ?_
                                    by_cases hc448_60 : (6 : Int32) < nn
                                    · refine Run.st (S' := Tl30.setTop (mkF m 455 #[.val (.int p0), .val (.long q1), .second, .val (.long q2), .second, .val (.int p3), .val (.int p4), .val (.int nn), .val (.ref b1), .val (.ref b19), .val (.long kz), .second, .val (.int w0), .val (.int w1), .val (.int w2), .val (.int w3), .val (.int w4), .val (.int w5), .unset, .unset] [(.int (6 : Int32)), (.ref b1)])) (fun _ k => XS.icmpNo Xl30.here hx rfl (hb hby at_448) rfl (tlt hc448_60).2.2.2 (XS.aload Xl30.here hx rfl (hb hby at_451) rfl rfl (XS.bipush Xl30.here hx rfl (hb hby at_453) k))) ?_
                                      obtain ⟨cl61, Ar61, qa61, Sa61, Na61, Ha61, Ga61⟩ := id V_b1
                                      have hin61 : ¬ ((6 : Int32) < 0 ∨ cl61.slots.size ≤ ((6 : Int32)).toNatClampNeg) := inb_of Sa61 ⟨by decide, by decide⟩
                                      have hat61 : cl61.slots[((6 : Int32)).toNatClampNeg]? = some (.int x6) := Has.at Ha61 hin61 rfl
                                      refine Run.st (S' := Tl30.setTop (mkF m 459 #[.val (.int p0), .val (.long q1), .second, .val (.long q2), .second, .val (.int p3), .val (.int p4), .val (.int nn), .val (.ref b1), .val (.ref b19), .val (.long kz), .second, .val (.int w0), .val (.int w1), .val (.int w2), .val (.int w3), .val (.int w4), .val (.int w5), .unset, .unset] [(.int (255 : Int32)), (.int x6)])) (fun _ k => Xl30.caload hx (j := (6 : Int32)) (v := (.int x6)) (by rw [El30]; exact Ar61.1) (State.isArrayOf_alike hZ.alike Ar61.2.1) Ar61.2.2 hin61 hat61 (g := (mkF m 455 #[.val (.int p0), .val (.long q1), .second, .val (.long q2), .second, .val (.int p3), .val (.int p4), .val (.int nn), .val (.ref b1), .val (.ref b19), .val (.long kz), .second, .val (.int w0), .val (.int w1), .val (.int w2), .val (.int w3), .val (.int w4), .val (.int w5), .unset, .unset] [(.int (6 : Int32)), (.ref b1)])) rfl rfl (hb hby at_455) _ (XS.sipush Xl30.here hx rfl (hb hby at_456) k)) ?_
                                      by_cases hc459_62 : (255 : Int32) < x6
                                      · refine Run.st (S' := Tl30.setTop (mkF m 469 #[.val (.int p0), .val (.long q1), .second, .val (.long q2), .second, .val (.int p3), .val (.int p4), .val (.int nn), .val (.ref b1), .val (.ref b19), .val (.long kz), .second, .val (.int w0), .val (.int w1), .val (.int w2), .val (.int w3), .val (.int w4), .val (.int w5), .val (.int (1 : Int32)), .unset] [])) (fun _ k => XS.icmpNo Xl30.here hx rfl (hb hby at_459) rfl (tlt hc459_62).2.2.2 (XS.iconst Xl30.here hx rfl (hb hby at_462) (XS.goto Xl30.here hx rfl (pc0 := 463) (pc' := 467) rfl (hb hby at_463) (by decide) (by decide) (XS.istore Xl30.here hx rfl (hb hby at_467) rfl (l' := #[.val (.int p0), .val (.long q1), .second, .val (.long q2), .second, .val (.int p3), .val (.int p4), .val (.int nn), .val (.ref b1), .val (.ref b19), .val (.long kz), .second, .val (.int w0), .val (.int w1), .val (.int w2), .val (.int w3), .val (.int w4), .val (.int w5), .val (.int (1 : Int32)), .unset]) rfl k)))) ?_
                                        exact J469_37 (1 : Int32) (own_vB (i := 6) (by rw [(own_gx (j := (6 : Int32)) (i := 6) hyC.1 hyC.2 (by decide) (by decide) (by decide) hc448_60)]; exact hc459_62))
                                      · refine Run.st (S' := Tl30.setTop (mkF m 469 #[.val (.int p0), .val (.long q1), .second, .val (.long q2), .second, .val (.int p3), .val (.int p4), .val (.int nn), .val (.ref b1), .val (.ref b19), .val (.long kz), .second, .val (.int w0), .val (.int w1), .val (.int w2), .val (.int w3), .val (.int w4), .val (.int w5), .val (.int (0 : Int32)), .unset] [])) (fun _ k => XS.icmpYes Xl30.here hx rfl (pc0 := 459) (pc' := 466) rfl (hb hby at_459) rfl (flt hc459_62).2.2.2 (by decide) (by decide) (XS.iconst Xl30.here hx rfl (hb hby at_466) (XS.istore Xl30.here hx rfl (hb hby at_467) rfl (l' := #[.val (.int p0), .val (.long q1), .second, .val (.long q2), .second, .val (.int p3), .val (.int p4), .val (.int nn), .val (.ref b1), .val (.ref b19), .val (.long kz), .second, .val (.int w0), .val (.int w1), .val (.int w2), .val (.int w3), .val (.int w4), .val (.int w5), .val (.int (0 : Int32)), .unset]) rfl k))) ?_
                                        exact J469_37 (0 : Int32) (own_vC (i := 6) (by rw [← h_w5]; exact hc441_59) (by rw [(own_gx (j := (6 : Int32)) (i := 6) hyC.1 hyC.2 (by decide) (by decide) (by decide) hc448_60)]; exact hc459_62))
                                    · refine Run.st (S' := Tl30.setTop (mkF m 469 #[.val (.int p0), .val (.long q1), .second, .val (.long q2), .second, .val (.int p3), .val (.int p4), .val (.int nn), .val (.ref b1), .val (.ref b19), .val (.long kz), .second, .val (.int w0), .val (.int w1), .val (.int w2), .val (.int w3), .val (.int w4), .val (.int w5), .val (.int (0 : Int32)), .unset] [])) (fun _ k => XS.icmpYes Xl30.here hx rfl (pc0 := 448) (pc' := 466) rfl (hb hby at_448) rfl (flt hc448_60).2.2.2 (by decide) (by decide) (XS.iconst Xl30.here hx rfl (hb hby at_466) (XS.istore Xl30.here hx rfl (hb hby at_467) rfl (l' := #[.val (.int p0), .val (.long q1), .second, .val (.long q2), .second, .val (.int p3), .val (.int p4), .val (.int nn), .val (.ref b1), .val (.ref b19), .val (.long kz), .second, .val (.int w0), .val (.int w1), .val (.int w2), .val (.int w3), .val (.int w4), .val (.int w5), .val (.int (0 : Int32)), .unset]) rfl k))) ?_
                                      exact J469_37 (0 : Int32) (own_vC (i := 6) (by rw [← h_w5]; exact hc441_59) (own_gz (j := (6 : Int32)) hyC.2 (by decide) (by decide) hc448_60))
                                  · refine Run.st (S' := Tl30.setTop (mkF m 469 #[.val (.int p0), .val (.long q1), .second, .val (.long q2), .second, .val (.int p3), .val (.int p4), .val (.int nn), .val (.ref b1), .val (.ref b19), .val (.long kz), .second, .val (.int w0), .val (.int w1), .val (.int w2), .val (.int w3), .val (.int w4), .val (.int w5), .val (.int (1 : Int32)), .unset] [])) (fun _ k => XS.ifYes Xl30.here hx rfl (pc0 := 441) (pc' := 462) rfl (hb hby at_441) rfl ((if0 _ _).trans (feq hc441_59).2) (by decide) (by decide) (XS.iconst Xl30.here hx rfl (hb hby at_462) (XS.goto Xl30.here hx rfl (pc0 := 463) (pc' := 467) rfl (hb hby at_463) (by decide) (by decide) (XS.istore Xl30.here hx rfl (hb hby at_467) rfl (l' := #[.val (.int p0), .val (.long q1), .second, .val (.long q2), .second, .val (.int p3), .val (.int p4), .val (.int nn), .val (.ref b1), .val (.ref b19), .val (.long kz), .second, .val (.int w0), .val (.int w1), .val (.int w2), .val (.int w3), .val (.int w4), .val (.int w5), .val (.int (1 : Int32)), .unset]) rfl k)))) ?_
                                    exact J469_37 (1 : Int32) (own_vA (i := 6) (by rw [← h_w5]; exact hc441_59))
                                refine Run.st (S' := Tl30.setTop (mkF m 413 #[.val (.int p0), .val (.long q1), .second, .val (.long q2), .second, .val (.int p3), .val (.int p4), .val (.int nn), .val (.ref b1), .val (.ref b19), .val (.long kz), .second, .val (.int w0), .val (.int w1), .val (.int w2), .val (.int w3), .val (.int w4), .unset, .unset, .unset] [(.int w4)])) (fun _ k => XS.iload Xl30.here hx rfl (hb hby at_411) rfl k) ?_
                                by_cases hc413_63 : w4 = (0 : Int32)
                                · refine Run.st (S' := Tl30.setTop (mkF m 419 #[.val (.int p0), .val (.long q1), .second, .val (.long q2), .second, .val (.int p3), .val (.int p4), .val (.int nn), .val (.ref b1), .val (.ref b19), .val (.long kz), .second, .val (.int w0), .val (.int w1), .val (.int w2), .val (.int w3), .val (.int w4), .unset, .unset, .unset] [(.int (5 : Int32)), (.int nn)])) (fun _ k => XS.ifNo Xl30.here hx rfl (hb hby at_413) rfl ((if0 _ _).trans (teq hc413_63).2) (XS.iload Xl30.here hx rfl (hb hby at_416) rfl (XS.iconst Xl30.here hx rfl (hb hby at_418) k))) ?_
                                  by_cases hc419_64 : (5 : Int32) < nn
                                  · refine Run.st (S' := Tl30.setTop (mkF m 425 #[.val (.int p0), .val (.long q1), .second, .val (.long q2), .second, .val (.int p3), .val (.int p4), .val (.int nn), .val (.ref b1), .val (.ref b19), .val (.long kz), .second, .val (.int w0), .val (.int w1), .val (.int w2), .val (.int w3), .val (.int w4), .unset, .unset, .unset] [(.int (5 : Int32)), (.ref b1)])) (fun _ k => XS.icmpNo Xl30.here hx rfl (hb hby at_419) rfl (tlt hc419_64).2.2.2 (XS.aload Xl30.here hx rfl (hb hby at_422) rfl rfl (XS.iconst Xl30.here hx rfl (hb hby at_424) k))) ?_
                                    obtain ⟨cl65, Ar65, qa65, Sa65, Na65, Ha65, Ga65⟩ := id V_b1
                                    have hin65 : ¬ ((5 : Int32) < 0 ∨ cl65.slots.size ≤ ((5 : Int32)).toNatClampNeg) := inb_of Sa65 ⟨by decide, by decide⟩
                                    have hat65 : cl65.slots[((5 : Int32)).toNatClampNeg]? = some (.int x5) := Has.at Ha65 hin65 rfl
                                    refine Run.st (S' := Tl30.setTop (mkF m 429 #[.val (.int p0), .val (.long q1), .second, .val (.long q2), .second, .val (.int p3), .val (.int p4), .val (.int nn), .val (.ref b1), .val (.ref b19), .val (.long kz), .second, .val (.int w0), .val (.int w1), .val (.int w2), .val (.int w3), .val (.int w4), .unset, .unset, .unset] [(.int (255 : Int32)), (.int x5)])) (fun _ k => Xl30.caload hx (j := (5 : Int32)) (v := (.int x5)) (by rw [El30]; exact Ar65.1) (State.isArrayOf_alike hZ.alike Ar65.2.1) Ar65.2.2 hin65 hat65 (g := (mkF m 425 #[.val (.int p0), .val (.long q1), .second, .val (.long q2), .second, .val (.int p3), .val (.int p4), .val (.int nn), .val (.ref b1), .val (.ref b19), .val (.long kz), .second, .val (.int w0), .val (.int w1), .val (.int w2), .val (.int w3), .val (.int w4), .unset, .unset, .unset] [(.int (5 : Int32)), (.ref b1)])) rfl rfl (hb hby at_425) _ (XS.sipush Xl30.here hx rfl (hb hby at_426) k)) ?_
                                    by_cases hc429_66 : (255 : Int32) < x5
                                    · refine Run.st (S' := Tl30.setTop (mkF m 439 #[.val (.int p0), .val (.long q1), .second, .val (.long q2), .second, .val (.int p3), .val (.int p4), .val (.int nn), .val (.ref b1), .val (.ref b19), .val (.long kz), .second, .val (.int w0), .val (.int w1), .val (.int w2), .val (.int w3), .val (.int w4), .val (.int (1 : Int32)), .unset, .unset] [])) (fun _ k => XS.icmpNo Xl30.here hx rfl (hb hby at_429) rfl (tlt hc429_66).2.2.2 (XS.iconst Xl30.here hx rfl (hb hby at_432) (XS.goto Xl30.here hx rfl (pc0 := 433) (pc' := 437) rfl (hb hby at_433) (by decide) (by decide) (XS.istore Xl30.here hx rfl (hb hby at_437) rfl (l' := #[.val (.int p0), .val (.long q1), .second, .val (.long q2), .second, .val (.int p3), .val (.int p4), .val (.int nn), .val (.ref b1), .val (.ref b19), .val (.long kz), .second, .val (.int w0), .val (.int w1), .val (.int w2), .val (.int w3), .val (.int w4), .val (.int (1 : Int32)), .unset, .unset]) rfl k)))) ?_
                                      exact J439_36 (1 : Int32) (own_vB (i := 5) (by rw [(own_gx (j := (5 : Int32)) (i := 5) hyC.1 hyC.2 (by decide) (by decide) (by decide) hc419_64)]; exact hc429_66))
                                    · refine Run.st (S' := Tl30.setTop (mkF m 439 #[.val (.int p0), .val (.long q1), .second, .val (.long q2), .second, .val (.int p3), .val (.int p4), .val (.int nn), .val (.ref b1), .val (.ref b19), .val (.long kz), .second, .val (.int w0), .val (.int w1), .val (.int w2), .val (.int w3), .val (.int w4), .val (.int (0 : Int32)), .unset, .unset] [])) (fun _ k => XS.icmpYes Xl30.here hx rfl (pc0 := 429) (pc' := 436) rfl (hb hby at_429) rfl (flt hc429_66).2.2.2 (by decide) (by decide) (XS.iconst Xl30.here hx rfl (hb hby at_436) (XS.istore Xl30.here hx rfl (hb hby at_437) rfl (l' := #[.val (.int p0), .val (.long q1), .second, .val (.long q2), .second, .val (.int p3), .val (.int p4), .val (.int nn), .val (.ref b1), .val (.ref b19), .val (.long kz), .second, .val (.int w0), .val (.int w1), .val (.int w2), .val (.int w3), .val (.int w4), .val (.int (0 : Int32)), .unset, .unset]) rfl k))) ?_
                                      exact J439_36 (0 : Int32) (own_vC (i := 5) (by rw [← h_w4]; exact hc413_63) (by rw [(own_gx (j := (5 : Int32)) (i := 5) hyC.1 hyC.2 (by decide) (by decide) (by decide) hc419_64)]; exact hc429_66))
                                  · refine Run.st (S' := Tl30.setTop (mkF m 439 #[.val (.int p0), .val (.long q1), .second, .val (.long q2), .second, .val (.int p3), .val (.int p4), .val (.int nn), .val (.ref b1), .val (.ref b19), .val (.long kz), .second, .val (.int w0), .val (.int w1), .val (.int w2), .val (.int w3), .val (.int w4), .val (.int (0 : Int32)), .unset, .unset] [])) (fun _ k => XS.icmpYes Xl30.here hx rfl (pc0 := 419) (pc' := 436) rfl (hb hby at_419) rfl (flt hc419_64).2.2.2 (by decide) (by decide) (XS.iconst Xl30.here hx rfl (hb hby at_436) (XS.istore Xl30.here hx rfl (hb hby at_437) rfl (l' := #[.val (.int p0), .val (.long q1), .second, .val (.long q2), .second, .val (.int p3), .val (.int p4), .val (.int nn), .val (.ref b1), .val (.ref b19), .val (.long kz), .second, .val (.int w0), .val (.int w1), .val (.int w2), .val (.int w3), .val (.int w4), .val (.int (0 : Int32)), .unset, .unset]) rfl k))) ?_
                                    exact J439_36 (0 : Int32) (own_vC (i := 5) (by rw [← h_w4]; exact hc413_63) (own_gz (j := (5 : Int32)) hyC.2 (by decide) (by decide) hc419_64))
                                · refine Run.st (S' := Tl30.setTop (mkF m 439 #[.val (.int p0), .val (.long q1), .second, .val (.long q2), .second, .val (.int p3), .val (.int p4), .val (.int nn), .val (.ref b1), .val (.ref b19), .val (.long kz), .second, .val (.int w0), .val (.int w1), .val (.int w2), .val (.int w3), .val (.int w4), .val (.int (1 : Int32)), .unset, .unset] [])) (fun _ k => XS.ifYes Xl30.here hx rfl (pc0 := 413) (pc' := 432) rfl (hb hby at_413) rfl ((if0 _ _).trans (feq hc413_63).2) (by decide) (by decide) (XS.iconst Xl30.here hx rfl (hb hby at_432) (XS.goto Xl30.here hx rfl (pc0 := 433) (pc' := 437) rfl (hb hby at_433) (by decide) (by decide) (XS.istore Xl30.here hx rfl (hb hby at_437) rfl (l' := #[.val (.int p0), .val (.long q1), .second, .val (.long q2), .second, .val (.int p3), .val (.int p4), .val (.int nn), .val (.ref b1), .val (.ref b19), .val (.long kz), .second, .val (.int w0), .val (.int w1), .val (.int w2), .val (.int w3), .val (.int w4), .val (.int (1 : Int32)), .unset, .unset]) rfl k)))) ?_
                                  exact J439_36 (1 : Int32) (own_vA (i := 5) (by rw [← h_w4]; exact hc413_63))
                              refine Run.st (S' := Tl30.setTop (mkF m 385 #[.val (.int p0), .val (.long q1), .second, .val (.long q2), .second, .val (.int p3), .val (.int p4), .val (.int nn), .val (.ref b1), .val (.ref b19), .val (.long kz), .second, .val (.int w0), .val (.int w1), .val (.int w2), .val (.int w3), .unset, .unset, .unset, .unset] [(.int w3)])) (fun _ k => XS.iload Xl30.here hx rfl (hb hby at_383) rfl k) ?_
                              by_cases hc385_67 : w3 = (0 : Int32)
                              · refine Run.st (S' := Tl30.setTop (mkF m 391 #[.val (.int p0), .val (.long q1), .second, .val (.long q2), .second, .val (.int p3), .val (.int p4), .val (.int nn), .val (.ref b1), .val (.ref b19), .val (.long kz), .second, .val (.int w0), .val (.int w1), .val (.int w2), .val (.int w3), .unset, .unset, .unset, .unset] [(.int (4 : Int32)), (.int nn)])) (fun _ k => XS.ifNo Xl30.here hx rfl (hb hby at_385) rfl ((if0 _ _).trans (teq hc385_67).2) (XS.iload Xl30.here hx rfl (hb hby at_388) rfl (XS.iconst Xl30.here hx rfl (hb hby at_390) k))) ?_
                                by_cases hc391_68 : (4 : Int32) < nn
                                · refine Run.st (S' := Tl30.setTop (mkF m 397 #[.val (.int p0), .val (.long q1), .second, .val (.long q2), .second, .val (.int p3), .val (.int p4), .val (.int nn), .val (.ref b1), .val (.ref b19), .val (.long kz), .second, .val (.int w0), .val (.int w1), .val (.int w2), .val (.int w3), .unset, .unset, .unset, .unset] [(.int (4 : Int32)), (.ref b1)])) (fun _ k => XS.icmpNo Xl30.here hx rfl (hb hby at_391) rfl (tlt hc391_68).2.2.2 (XS.aload Xl30.here hx rfl (hb hby at_394) rfl rfl (XS.iconst Xl30.here hx rfl (hb hby at_396) k))) ?_
                                  obtain ⟨cl69, Ar69, qa69, Sa69, Na69, Ha69, Ga69⟩ := id V_b1
                                  have hin69 : ¬ ((4 : Int32) < 0 ∨ cl69.slots.size ≤ ((4 : Int32)).toNatClampNeg) := inb_of Sa69 ⟨by decide, by decide⟩
                                  have hat69 : cl69.slots[((4 : Int32)).toNatClampNeg]? = some (.int x4) := Has.at Ha69 hin69 rfl
                                  refine Run.st (S' := Tl30.setTop (mkF m 401 #[.val (.int p0), .val (.long q1), .second, .val (.long q2), .second, .val (.int p3), .val (.int p4), .val (.int nn), .val (.ref b1), .val (.ref b19), .val (.long kz), .second, .val (.int w0), .val (.int w1), .val (.int w2), .val (.int w3), .unset, .unset, .unset, .unset] [(.int (255 : Int32)), (.int x4)])) (fun _ k => Xl30.caload hx (j := (4 : Int32)) (v := (.int x4)) (by rw [El30]; exact Ar69.1) (State.isArrayOf_alike hZ.alike Ar69.2.1) Ar69.2.2 hin69 hat69 (g := (mkF m 397 #[.val (.int p0), .val (.long q1), .second, .val (.long q2), .second, .val (.int p3), .val (.int p4), .val (.int nn), .val (.ref b1), .val (.ref b19), .val (.long kz), .second, .val (.int w0), .val (.int w1), .val (.int w2), .val (.int w3), .unset, .unset, .unset, .unset] [(.int (4 : Int32)), (.ref b1)])) rfl rfl (hb hby at_397) _ (XS.sipush Xl30.here hx rfl (hb hby at_398) k)) ?_
                                  by_cases hc401_70 : (255 : Int32) < x4
                                  · refine Run.st (S' := Tl30.setTop (mkF m 411 #[.val (.int p0), .val (.long q1), .second, .val (.long q2), .second, .val (.int p3), .val (.int p4), .val (.int nn), .val (.ref b1), .val (.ref b19), .val (.long kz), .second, .val (.int w0), .val (.int w1), .val (.int w2), .val (.int w3), .val (.int (1 : Int32)), .unset, .unset, .unset] [])) (fun _ k => XS.icmpNo Xl30.here hx rfl (hb hby at_401) rfl (tlt hc401_70).2.2.2 (XS.iconst Xl30.here hx rfl (hb hby at_404) (XS.goto Xl30.here hx rfl (pc0 := 405) (pc' := 409) rfl (hb hby at_405) (by decide) (by decide) (XS.istore Xl30.here hx rfl (hb hby at_409) rfl (l' := #[.val (.int p0), .val (.long q1), .second, .val (.long q2), .second, .val (.int p3), .val (.int p4), .val (.int nn), .val (.ref b1), .val (.ref b19), .val (.long kz), .second, .val (.int w0), .val (.int w1), .val (.int w2), .val (.int w3), .val (.int (1 : Int32)), .unset, .unset, .unset]) rfl k)))) ?_
                                    exact J411_35 (1 : Int32) (own_vB (i := 4) (by rw [(own_gx (j := (4 : Int32)) (i := 4) hyC.1 hyC.2 (by decide) (by decide) (by decide) hc391_68)]; exact hc401_70))
                                  · refine Run.st (S' := Tl30.setTop (mkF m 411 #[.val (.int p0), .val (.long q1), .second, .val (.long q2), .second, .val (.int p3), .val (.int p4), .val (.int nn), .val (.ref b1), .val (.ref b19), .val (.long kz), .second, .val (.int w0), .val (.int w1), .val (.int w2), .val (.int w3), .val (.int (0 : Int32)), .unset, .unset, .unset] [])) (fun _ k => XS.icmpYes Xl30.here hx rfl (pc0 := 401) (pc' := 408) rfl (hb hby at_401) rfl (flt hc401_70).2.2.2 (by decide) (by decide) (XS.iconst Xl30.here hx rfl (hb hby at_408) (XS.istore Xl30.here hx rfl (hb hby at_409) rfl (l' := #[.val (.int p0), .val (.long q1), .second, .val (.long q2), .second, .val (.int p3), .val (.int p4), .val (.int nn), .val (.ref b1), .val (.ref b19), .val (.long kz), .second, .val (.int w0), .val (.int w1), .val (.int w2), .val (.int w3), .val (.int (0 : Int32)), .unset, .unset, .unset]) rfl k))) ?_
                                    exact J411_35 (0 : Int32) (own_vC (i := 4) (by rw [← h_w3]; exact hc385_67) (by rw [(own_gx (j := (4 : Int32)) (i := 4) hyC.1 hyC.2 (by decide) (by decide) (by decide) hc391_68)]; exact hc401_70))
                                · refine Run.st (S' := Tl30.setTop (mkF m 411 #[.val (.int p0), .val (.long q1), .second, .val (.long q2), .second, .val (.int p3), .val (.int p4), .val (.int nn), .val (.ref b1), .val (.ref b19), .val (.long kz), .second, .val (.int w0), .val (.int w1), .val (.int w2), .val (.int w3), .val (.int (0 : Int32)), .unset, .unset, .unset] [])) (fun _ k => XS.icmpYes Xl30.here hx rfl (pc0 := 391) (pc' := 408) rfl (hb hby at_391) rfl (flt hc391_68).2.2.2 (by decide) (by decide) (XS.iconst Xl30.here hx rfl (hb hby at_408) (XS.istore Xl30.here hx rfl (hb hby at_409) rfl (l' := #[.val (.int p0), .val (.long q1), .second, .val (.long q2), .second, .val (.int p3), .val (.int p4), .val (.int nn), .val (.ref b1), .val (.ref b19), .val (.long kz), .second, .val (.int w0), .val (.int w1), .val (.int w2), .val (.int w3), .val (.int (0 : Int32)), .unset, .unset, .unset]) rfl k))) ?_
                                  exact J411_35 (0 : Int32) (own_vC (i := 4) (by rw [← h_w3]; exact hc385_67) (own_gz (j := (4 : Int32)) hyC.2 (by decide) (by decide) hc391_68))
                              · refine Run.st (S' := Tl30.setTop (mkF m 411 #[.val (.int p0), .val (.long q1), .second, .val (.long q2), .second, .val (.int p3), .val (.int p4), .val (.int nn), .val (.ref b1), .val (.ref b19), .val (.long kz), .second, .val (.int w0), .val (.int w1), .val (.int w2), .val (.int w3), .val (.int (1 : Int32)), .unset, .unset, .unset] [])) (fun _ k => XS.ifYes Xl30.here hx rfl (pc0 := 385) (pc' := 404) rfl (hb hby at_385) rfl ((if0 _ _).trans (feq hc385_67).2) (by decide) (by decide) (XS.iconst Xl30.here hx rfl (hb hby at_404) (XS.goto Xl30.here hx rfl (pc0 := 405) (pc' := 409) rfl (hb hby at_405) (by decide) (by decide) (XS.istore Xl30.here hx rfl (hb hby at_409) rfl (l' := #[.val (.int p0), .val (.long q1), .second, .val (.long q2), .second, .val (.int p3), .val (.int p4), .val (.int nn), .val (.ref b1), .val (.ref b19), .val (.long kz), .second, .val (.int w0), .val (.int w1), .val (.int w2), .val (.int w3), .val (.int (1 : Int32)), .unset, .unset, .unset]) rfl k)))) ?_
                                exact J411_35 (1 : Int32) (own_vA (i := 4) (by rw [← h_w3]; exact hc385_67))
                            refine Run.st (S' := Tl30.setTop (mkF m 357 #[.val (.int p0), .val (.long q1), .second, .val (.long q2), .second, .val (.int p3), .val (.int p4), .val (.int nn), .val (.ref b1), .val (.ref b19), .val (.long kz), .second, .val (.int w0), .val (.int w1), .val (.int w2), .unset, .unset, .unset, .unset, .unset] [(.int w2)])) (fun _ k => XS.iload Xl30.here hx rfl (hb hby at_355) rfl k) ?_
                            by_cases hc357_71 : w2 = (0 : Int32)
                            · refine Run.st (S' := Tl30.setTop (mkF m 363 #[.val (.int p0), .val (.long q1), .second, .val (.long q2), .second, .val (.int p3), .val (.int p4), .val (.int nn), .val (.ref b1), .val (.ref b19), .val (.long kz), .second, .val (.int w0), .val (.int w1), .val (.int w2), .unset, .unset, .unset, .unset, .unset] [(.int (3 : Int32)), (.int nn)])) (fun _ k => XS.ifNo Xl30.here hx rfl (hb hby at_357) rfl ((if0 _ _).trans (teq hc357_71).2) (XS.iload Xl30.here hx rfl (hb hby at_360) rfl (XS.iconst Xl30.here hx rfl (hb hby at_362) k))) ?_
                              by_cases hc363_72 : (3 : Int32) < nn
                              · refine Run.st (S' := Tl30.setTop (mkF m 369 #[.val (.int p0), .val (.long q1), .second, .val (.long q2), .second, .val (.int p3), .val (.int p4), .val (.int nn), .val (.ref b1), .val (.ref b19), .val (.long kz), .second, .val (.int w0), .val (.int w1), .val (.int w2), .unset, .unset, .unset, .unset, .unset] [(.int (3 : Int32)), (.ref b1)])) (fun _ k => XS.icmpNo Xl30.here hx rfl (hb hby at_363) rfl (tlt hc363_72).2.2.2 (XS.aload Xl30.here hx rfl (hb hby at_366) rfl rfl (XS.iconst Xl30.here hx rfl (hb hby at_368) k))) ?_
                                obtain ⟨cl73, Ar73, qa73, Sa73, Na73, Ha73, Ga73⟩ := id V_b1
                                have hin73 : ¬ ((3 : Int32) < 0 ∨ cl73.slots.size ≤ ((3 : Int32)).toNatClampNeg) := inb_of Sa73 ⟨by decide, by decide⟩
                                have hat73 : cl73.slots[((3 : Int32)).toNatClampNeg]? = some (.int x3) := Has.at Ha73 hin73 rfl
                                refine Run.st (S' := Tl30.setTop (mkF m 373 #[.val (.int p0), .val (.long q1), .second, .val (.long q2), .second, .val (.int p3), .val (.int p4), .val (.int nn), .val (.ref b1), .val (.ref b19), .val (.long kz), .second, .val (.int w0), .val (.int w1), .val (.int w2), .unset, .unset, .unset, .unset, .unset] [(.int (255 : Int32)), (.int x3)])) (fun _ k => Xl30.caload hx (j := (3 : Int32)) (v := (.int x3)) (by rw [El30]; exact Ar73.1) (State.isArrayOf_alike hZ.alike Ar73.2.1) Ar73.2.2 hin73 hat73 (g := (mkF m 369 #[.val (.int p0), .val (.long q1), .second, .val (.long q2), .second, .val (.int p3), .val (.int p4), .val (.int nn), .val (.ref b1), .val (.ref b19), .val (.long kz), .second, .val (.int w0), .val (.int w1), .val (.int w2), .unset, .unset, .unset, .unset, .unset] [(.int (3 : Int32)), (.ref b1)])) rfl rfl (hb hby at_369) _ (XS.sipush Xl30.here hx rfl (hb hby at_370) k)) ?_
                                by_cases hc373_74 : (255 : Int32) < x3
                                · refine Run.st (S' := Tl30.setTop (mkF m 383 #[.val (.int p0), .val (.long q1), .second, .val (.long q2), .second, .val (.int p3), .val (.int p4), .val (.int nn), .val (.ref b1), .val (.ref b19), .val (.long kz), .second, .val (.int w0), .val (.int w1), .val (.int w2), .val (.int (1 : Int32)), .unset, .unset, .unset, .unset] [])) (fun _ k => XS.icmpNo Xl30.here hx rfl (hb hby at_373) rfl (tlt hc373_74).2.2.2 (XS.iconst Xl30.here hx rfl (hb hby at_376) (XS.goto Xl30.here hx rfl (pc0 := 377) (pc' := 381) rfl (hb hby at_377) (by decide) (by decide) (XS.istore Xl30.here hx rfl (hb hby at_381) rfl (l' := #[.val (.int p0), .val (.long q1), .second, .val (.long q2), .second, .val (.int p3), .val (.int p4), .val (.int nn), .val (.ref b1), .val (.ref b19), .val (.long kz), .second, .val (.int w0), .val (.int w1), .val (.int w2), .val (.int (1 : Int32)), .unset, .unset, .unset, .unset]) rfl k)))) ?_
                                  exact J383_34 (1 : Int32) (own_vB (i := 3) (by rw [(own_gx (j := (3 : Int32)) (i := 3) hyC.1 hyC.2 (by decide) (by decide) (by decide) hc363_72)]; exact hc373_74))
                                · refine Run.st (S' := Tl30.setTop (mkF m 383 #[.val (.int p0), .val (.long q1), .second, .val (.long q2), .second, .val (.int p3), .val (.int p4), .val (.int nn), .val (.ref b1), .val (.ref b19), .val (.long kz), .second, .val (.int w0), .val (.int w1), .val (.int w2), .val (.int (0 : Int32)), .unset, .unset, .unset, .unset] [])) (fun _ k => XS.icmpYes Xl30.here hx rfl (pc0 := 373) (pc' := 380) rfl (hb hby at_373) rfl (flt hc373_74).2.2.2 (by decide) (by decide) (XS.iconst Xl30.here hx rfl (hb hby at_380) (XS.istore Xl30.here hx rfl (hb hby at_381) rfl (l' := #[.val (.int p0), .val (.long q1), .second, .val (.long q2), .second, .val (.int p3), .val (.int p4), .val (.int nn), .val (.ref b1), .val (.ref b19), .val (.long kz), .second, .val (.int w0), .val (.int w1), .val (.int w2), .val (.int (0 : Int32)), .unset, .unset, .unset, .unset]) rfl k))) ?_
                                  exact J383_34 (0 : Int32) (own_vC (i := 3) (by rw [← h_w2]; exact hc357_71) (by rw [(own_gx (j := (3 : Int32)) (i := 3) hyC.1 hyC.2 (by decide) (by decide) (by decide) hc363_72)]; exact hc373_74))
                              · refine Run.st (S' := Tl30.setTop (mkF m 383 #[.val (.int p0), .val (.long q1), .second, .val (.long q2), .second, .val (.int p3), .val (.int p4), .val (.int nn), .val (.ref b1), .val (.ref b19), .val (.long kz), .second, .val (.int w0), .val (.int w1), .val (.int w2), .val (.int (0 : Int32)), .unset, .unset, .unset, .unset] [])) (fun _ k => XS.icmpYes Xl30.here hx rfl (pc0 := 363) (pc' := 380) rfl (hb hby at_363) rfl (flt hc363_72).2.2.2 (by decide) (by decide) (XS.iconst Xl30.here hx rfl (hb hby at_380) (XS.istore Xl30.here hx rfl (hb hby at_381) rfl (l' := #[.val (.int p0), .val (.long q1), .second, .val (.long q2), .second, .val (.int p3), .val (.int p4), .val (.int nn), .val (.ref b1), .val (.ref b19), .val (.long kz), .second, .val (.int w0), .val (.int w1), .val (.int w2), .val (.int (0 : Int32)), .unset, .unset, .unset, .unset]) rfl k))) ?_
                                exact J383_34 (0 : Int32) (own_vC (i := 3) (by rw [← h_w2]; exact hc357_71) (own_gz (j := (3 : Int32)) hyC.2 (by decide) (by decide) hc363_72))
                            · refine Run.st (S' := Tl30.setTop (mkF m 383 #[.val (.int p0), .val (.long q1), .second, .val (.long q2), .second, .val (.int p3), .val (.int p4), .val (.int nn), .val (.ref b1), .val (.ref b19), .val (.long kz), .second, .val (.int w0), .val (.int w1), .val (.int w2), .val (.int (1 : Int32)), .unset, .unset, .unset, .unset] [])) (fun _ k => XS.ifYes Xl30.here hx rfl (pc0 := 357) (pc' := 376) rfl (hb hby at_357) rfl ((if0 _ _).trans (feq hc357_71).2) (by decide) (by decide) (XS.iconst Xl30.here hx rfl (hb hby at_376) (XS.goto Xl30.here hx rfl (pc0 := 377) (pc' := 381) rfl (hb hby at_377) (by decide) (by decide) (XS.istore Xl30.here hx rfl (hb hby at_381) rfl (l' := #[.val (.int p0), .val (.long q1), .second, .val (.long q2), .second, .val (.int p3), .val (.int p4), .val (.int nn), .val (.ref b1), .val (.ref b19), .val (.long kz), .second, .val (.int w0), .val (.int w1), .val (.int w2), .val (.int (1 : Int32)), .unset, .unset, .unset, .unset]) rfl k)))) ?_
                              exact J383_34 (1 : Int32) (own_vA (i := 3) (by rw [← h_w2]; exact hc357_71))
                          refine Run.st (S' := Tl30.setTop (mkF m 329 #[.val (.int p0), .val (.long q1), .second, .val (.long q2), .second, .val (.int p3), .val (.int p4), .val (.int nn), .val (.ref b1), .val (.ref b19), .val (.long kz), .second, .val (.int w0), .val (.int w1), .unset, .unset, .unset, .unset, .unset, .unset] [(.int w1)])) (fun _ k => XS.iload Xl30.here hx rfl (hb hby at_327) rfl k) ?_
                          by_cases hc329_75 : w1 = (0 : Int32)
                          · refine Run.st (S' := Tl30.setTop (mkF m 335 #[.val (.int p0), .val (.long q1), .second, .val (.long q2), .second, .val (.int p3), .val (.int p4), .val (.int nn), .val (.ref b1), .val (.ref b19), .val (.long kz), .second, .val (.int w0), .val (.int w1), .unset, .unset, .unset, .unset, .unset, .unset] [(.int (2 : Int32)), (.int nn)])) (fun _ k => XS.ifNo Xl30.here hx rfl (hb hby at_329) rfl ((if0 _ _).trans (teq hc329_75).2) (XS.iload Xl30.here hx rfl (hb hby at_332) rfl (XS.iconst Xl30.here hx rfl (hb hby at_334) k))) ?_
                            by_cases hc335_76 : (2 : Int32) < nn
                            · refine Run.st (S' := Tl30.setTop (mkF m 341 #[.val (.int p0), .val (.long q1), .second, .val (.long q2), .second, .val (.int p3), .val (.int p4), .val (.int nn), .val (.ref b1), .val (.ref b19), .val (.long kz), .second, .val (.int w0), .val (.int w1), .unset, .unset, .unset, .unset, .unset, .unset] [(.int (2 : Int32)), (.ref b1)])) (fun _ k => XS.icmpNo Xl30.here hx rfl (hb hby at_335) rfl (tlt hc335_76).2.2.2 (XS.aload Xl30.here hx rfl (hb hby at_338) rfl rfl (XS.iconst Xl30.here hx rfl (hb hby at_340) k))) ?_
                              obtain ⟨cl77, Ar77, qa77, Sa77, Na77, Ha77, Ga77⟩ := id V_b1
                              have hin77 : ¬ ((2 : Int32) < 0 ∨ cl77.slots.size ≤ ((2 : Int32)).toNatClampNeg) := inb_of Sa77 ⟨by decide, by decide⟩
                              have hat77 : cl77.slots[((2 : Int32)).toNatClampNeg]? = some (.int x2) := Has.at Ha77 hin77 rfl
                              refine Run.st (S' := Tl30.setTop (mkF m 345 #[.val (.int p0), .val (.long q1), .second, .val (.long q2), .second, .val (.int p3), .val (.int p4), .val (.int nn), .val (.ref b1), .val (.ref b19), .val (.long kz), .second, .val (.int w0), .val (.int w1), .unset, .unset, .unset, .unset, .unset, .unset] [(.int (255 : Int32)), (.int x2)])) (fun _ k => Xl30.caload hx (j := (2 : Int32)) (v := (.int x2)) (by rw [El30]; exact Ar77.1) (State.isArrayOf_alike hZ.alike Ar77.2.1) Ar77.2.2 hin77 hat77 (g := (mkF m 341 #[.val (.int p0), .val (.long q1), .second, .val (.long q2), .second, .val (.int p3), .val (.int p4), .val (.int nn), .val (.ref b1), .val (.ref b19), .val (.long kz), .second, .val (.int w0), .val (.int w1), .unset, .unset, .unset, .unset, .unset, .unset] [(.int (2 : Int32)), (.ref b1)])) rfl rfl (hb hby at_341) _ (XS.sipush Xl30.here hx rfl (hb hby at_342) k)) ?_
                              by_cases hc345_78 : (255 : Int32) < x2
                              · refine Run.st (S' := Tl30.setTop (mkF m 355 #[.val (.int p0), .val (.long q1), .second, .val (.long q2), .second, .val (.int p3), .val (.int p4), .val (.int nn), .val (.ref b1), .val (.ref b19), .val (.long kz), .second, .val (.int w0), .val (.int w1), .val (.int (1 : Int32)), .unset, .unset, .unset, .unset, .unset] [])) (fun _ k => XS.icmpNo Xl30.here hx rfl (hb hby at_345) rfl (tlt hc345_78).2.2.2 (XS.iconst Xl30.here hx rfl (hb hby at_348) (XS.goto Xl30.here hx rfl (pc0 := 349) (pc' := 353) rfl (hb hby at_349) (by decide) (by decide) (XS.istore Xl30.here hx rfl (hb hby at_353) rfl (l' := #[.val (.int p0), .val (.long q1), .second, .val (.long q2), .second, .val (.int p3), .val (.int p4), .val (.int nn), .val (.ref b1), .val (.ref b19), .val (.long kz), .second, .val (.int w0), .val (.int w1), .val (.int (1 : Int32)), .unset, .unset, .unset, .unset, .unset]) rfl k)))) ?_
                                exact J355_33 (1 : Int32) (own_vB (i := 2) (by rw [(own_gx (j := (2 : Int32)) (i := 2) hyC.1 hyC.2 (by decide) (by decide) (by decide) hc335_76)]; exact hc345_78))
                              · refine Run.st (S' := Tl30.setTop (mkF m 355 #[.val (.int p0), .val (.long q1), .second, .val (.long q2), .second, .val (.int p3), .val (.int p4), .val (.int nn), .val (.ref b1), .val (.ref b19), .val (.long kz), .second, .val (.int w0), .val (.int w1), .val (.int (0 : Int32)), .unset, .unset, .unset, .unset, .unset] [])) (fun _ k => XS.icmpYes Xl30.here hx rfl (pc0 := 345) (pc' := 352) rfl (hb hby at_345) rfl (flt hc345_78).2.2.2 (by decide) (by decide) (XS.iconst Xl30.here hx rfl (hb hby at_352) (XS.istore Xl30.here hx rfl (hb hby at_353) rfl (l' := #[.val (.int p0), .val (.long q1), .second, .val (.long q2), .second, .val (.int p3), .val (.int p4), .val (.int nn), .val (.ref b1), .val (.ref b19), .val (.long kz), .second, .val (.int w0), .val (.int w1), .val (.int (0 : Int32)), .unset, .unset, .unset, .unset, .unset]) rfl k))) ?_
                                exact J355_33 (0 : Int32) (own_vC (i := 2) (by rw [← h_w1]; exact hc329_75) (by rw [(own_gx (j := (2 : Int32)) (i := 2) hyC.1 hyC.2 (by decide) (by decide) (by decide) hc335_76)]; exact hc345_78))
                            · refine Run.st (S' := Tl30.setTop (mkF m 355 #[.val (.int p0), .val (.long q1), .second, .val (.long q2), .second, .val (.int p3), .val (.int p4), .val (.int nn), .val (.ref b1), .val (.ref b19), .val (.long kz), .second, .val (.int w0), .val (.int w1), .val (.int (0 : Int32)), .unset, .unset, .unset, .unset, .unset] [])) (fun _ k => XS.icmpYes Xl30.here hx rfl (pc0 := 335) (pc' := 352) rfl (hb hby at_335) rfl (flt hc335_76).2.2.2 (by decide) (by decide) (XS.iconst Xl30.here hx rfl (hb hby at_352) (XS.istore Xl30.here hx rfl (hb hby at_353) rfl (l' := #[.val (.int p0), .val (.long q1), .second, .val (.long q2), .second, .val (.int p3), .val (.int p4), .val (.int nn), .val (.ref b1), .val (.ref b19), .val (.long kz), .second, .val (.int w0), .val (.int w1), .val (.int (0 : Int32)), .unset, .unset, .unset, .unset, .unset]) rfl k))) ?_
                              exact J355_33 (0 : Int32) (own_vC (i := 2) (by rw [← h_w1]; exact hc329_75) (own_gz (j := (2 : Int32)) hyC.2 (by decide) (by decide) hc335_76))
                          · refine Run.st (S' := Tl30.setTop (mkF m 355 #[.val (.int p0), .val (.long q1), .second, .val (.long q2), .second, .val (.int p3), .val (.int p4), .val (.int nn), .val (.ref b1), .val (.ref b19), .val (.long kz), .second, .val (.int w0), .val (.int w1), .val (.int (1 : Int32)), .unset, .unset, .unset, .unset, .unset] [])) (fun _ k => XS.ifYes Xl30.here hx rfl (pc0 := 329) (pc' := 348) rfl (hb hby at_329) rfl ((if0 _ _).trans (feq hc329_75).2) (by decide) (by decide) (XS.iconst Xl30.here hx rfl (hb hby at_348) (XS.goto Xl30.here hx rfl (pc0 := 349) (pc' := 353) rfl (hb hby at_349) (by decide) (by decide) (XS.istore Xl30.here hx rfl (hb hby at_353) rfl (l' := #[.val (.int p0), .val (.long q1), .second, .val (.long q2), .second, .val (.int p3), .val (.int p4), .val (.int nn), .val (.ref b1), .val (.ref b19), .val (.long kz), .second, .val (.int w0), .val (.int w1), .val (.int (1 : Int32)), .unset, .unset, .unset, .unset, .unset]) rfl k)))) ?_
                            exact J355_33 (1 : Int32) (own_vA (i := 2) (by rw [← h_w1]; exact hc329_75))
                        refine Run.st (S' := Tl30.setTop (mkF m 301 #[.val (.int p0), .val (.long q1), .second, .val (.long q2), .second, .val (.int p3), .val (.int p4), .val (.int nn), .val (.ref b1), .val (.ref b19), .val (.long kz), .second, .val (.int w0), .unset, .unset, .unset, .unset, .unset, .unset, .unset] [(.int w0)])) (fun _ k => XS.iload Xl30.here hx rfl (hb hby at_299) rfl k) ?_
                        by_cases hc301_79 : w0 = (0 : Int32)
                        · refine Run.st (S' := Tl30.setTop (mkF m 307 #[.val (.int p0), .val (.long q1), .second, .val (.long q2), .second, .val (.int p3), .val (.int p4), .val (.int nn), .val (.ref b1), .val (.ref b19), .val (.long kz), .second, .val (.int w0), .unset, .unset, .unset, .unset, .unset, .unset, .unset] [(.int (1 : Int32)), (.int nn)])) (fun _ k => XS.ifNo Xl30.here hx rfl (hb hby at_301) rfl ((if0 _ _).trans (teq hc301_79).2) (XS.iload Xl30.here hx rfl (hb hby at_304) rfl (XS.iconst Xl30.here hx rfl (hb hby at_306) k))) ?_
                          by_cases hc307_80 : (1 : Int32) < nn
                          · refine Run.st (S' := Tl30.setTop (mkF m 313 #[.val (.int p0), .val (.long q1), .second, .val (.long q2), .second, .val (.int p3), .val (.int p4), .val (.int nn), .val (.ref b1), .val (.ref b19), .val (.long kz), .second, .val (.int w0), .unset, .unset, .unset, .unset, .unset, .unset, .unset] [(.int (1 : Int32)), (.ref b1)])) (fun _ k => XS.icmpNo Xl30.here hx rfl (hb hby at_307) rfl (tlt hc307_80).2.2.2 (XS.aload Xl30.here hx rfl (hb hby at_310) rfl rfl (XS.iconst Xl30.here hx rfl (hb hby at_312) k))) ?_
                            obtain ⟨cl81, Ar81, qa81, Sa81, Na81, Ha81, Ga81⟩ := id V_b1
                            have hin81 : ¬ ((1 : Int32) < 0 ∨ cl81.slots.size ≤ ((1 : Int32)).toNatClampNeg) := inb_of Sa81 ⟨by decide, by decide⟩
                            have hat81 : cl81.slots[((1 : Int32)).toNatClampNeg]? = some (.int x1) := Has.at Ha81 hin81 rfl
                            refine Run.st (S' := Tl30.setTop (mkF m 317 #[.val (.int p0), .val (.long q1), .second, .val (.long q2), .second, .val (.int p3), .val (.int p4), .val (.int nn), .val (.ref b1), .val (.ref b19), .val (.long kz), .second, .val (.int w0), .unset, .unset, .unset, .unset, .unset, .unset, .unset] [(.int (255 : Int32)), (.int x1)])) (fun _ k => Xl30.caload hx (j := (1 : Int32)) (v := (.int x1)) (by rw [El30]; exact Ar81.1) (State.isArrayOf_alike hZ.alike Ar81.2.1) Ar81.2.2 hin81 hat81 (g := (mkF m 313 #[.val (.int p0), .val (.long q1), .second, .val (.long q2), .second, .val (.int p3), .val (.int p4), .val (.int nn), .val (.ref b1), .val (.ref b19), .val (.long kz), .second, .val (.int w0), .unset, .unset, .unset, .unset, .unset, .unset, .unset] [(.int (1 : Int32)), (.ref b1)])) rfl rfl (hb hby at_313) _ (XS.sipush Xl30.here hx rfl (hb hby at_314) k)) ?_
                            by_cases hc317_82 : (255 : Int32) < x1
                            · refine Run.st (S' := Tl30.setTop (mkF m 327 #[.val (.int p0), .val (.long q1), .second, .val (.long q2), .second, .val (.int p3), .val (.int p4), .val (.int nn), .val (.ref b1), .val (.ref b19), .val (.long kz), .second, .val (.int w0), .val (.int (1 : Int32)), .unset, .unset, .unset, .unset, .unset, .unset] [])) (fun _ k => XS.icmpNo Xl30.here hx rfl (hb hby at_317) rfl (tlt hc317_82).2.2.2 (XS.iconst Xl30.here hx rfl (hb hby at_320) (XS.goto Xl30.here hx rfl (pc0 := 321) (pc' := 325) rfl (hb hby at_321) (by decide) (by decide) (XS.istore Xl30.here hx rfl (hb hby at_325) rfl (l' := #[.val (.int p0), .val (.long q1), .second, .val (.long q2), .second, .val (.int p3), .val (.int p4), .val (.int nn), .val (.ref b1), .val (.ref b19), .val (.long kz), .second, .val (.int w0), .val (.int (1 : Int32)), .unset, .unset, .unset, .unset, .unset, .unset]) rfl k)))) ?_
                              exact J327_32 (1 : Int32) (own_vB (i := 1) (by rw [(own_gx (j := (1 : Int32)) (i := 1) hyC.1 hyC.2 (by decide) (by decide) (by decide) hc307_80)]; exact hc317_82))
                            · refine Run.st (S' := Tl30.setTop (mkF m 327 #[.val (.int p0), .val (.long q1), .second, .val (.long q2), .second, .val (.int p3), .val (.int p4), .val (.int nn), .val (.ref b1), .val (.ref b19), .val (.long kz), .second, .val (.int w0), .val (.int (0 : Int32)), .unset, .unset, .unset, .unset, .unset, .unset] [])) (fun _ k => XS.icmpYes Xl30.here hx rfl (pc0 := 317) (pc' := 324) rfl (hb hby at_317) rfl (flt hc317_82).2.2.2 (by decide) (by decide) (XS.iconst Xl30.here hx rfl (hb hby at_324) (XS.istore Xl30.here hx rfl (hb hby at_325) rfl (l' := #[.val (.int p0), .val (.long q1), .second, .val (.long q2), .second, .val (.int p3), .val (.int p4), .val (.int nn), .val (.ref b1), .val (.ref b19), .val (.long kz), .second, .val (.int w0), .val (.int (0 : Int32)), .unset, .unset, .unset, .unset, .unset, .unset]) rfl k))) ?_
                              exact J327_32 (0 : Int32) (own_vC (i := 1) (by rw [← h_w0]; exact hc301_79) (by rw [(own_gx (j := (1 : Int32)) (i := 1) hyC.1 hyC.2 (by decide) (by decide) (by decide) hc307_80)]; exact hc317_82))
                          · refine Run.st (S' := Tl30.setTop (mkF m 327 #[.val (.int p0), .val (.long q1), .second, .val (.long q2), .second, .val (.int p3), .val (.int p4), .val (.int nn), .val (.ref b1), .val (.ref b19), .val (.long kz), .second, .val (.int w0), .val (.int (0 : Int32)), .unset, .unset, .unset, .unset, .unset, .unset] [])) (fun _ k => XS.icmpYes Xl30.here hx rfl (pc0 := 307) (pc' := 324) rfl (hb hby at_307) rfl (flt hc307_80).2.2.2 (by decide) (by decide) (XS.iconst Xl30.here hx rfl (hb hby at_324) (XS.istore Xl30.here hx rfl (hb hby at_325) rfl (l' := #[.val (.int p0), .val (.long q1), .second, .val (.long q2), .second, .val (.int p3), .val (.int p4), .val (.int nn), .val (.ref b1), .val (.ref b19), .val (.long kz), .second, .val (.int w0), .val (.int (0 : Int32)), .unset, .unset, .unset, .unset, .unset, .unset]) rfl k))) ?_
                            exact J327_32 (0 : Int32) (own_vC (i := 1) (by rw [← h_w0]; exact hc301_79) (own_gz (j := (1 : Int32)) hyC.2 (by decide) (by decide) hc307_80))
                        · refine Run.st (S' := Tl30.setTop (mkF m 327 #[.val (.int p0), .val (.long q1), .second, .val (.long q2), .second, .val (.int p3), .val (.int p4), .val (.int nn), .val (.ref b1), .val (.ref b19), .val (.long kz), .second, .val (.int w0), .val (.int (1 : Int32)), .unset, .unset, .unset, .unset, .unset, .unset] [])) (fun _ k => XS.ifYes Xl30.here hx rfl (pc0 := 301) (pc' := 320) rfl (hb hby at_301) rfl ((if0 _ _).trans (feq hc301_79).2) (by decide) (by decide) (XS.iconst Xl30.here hx rfl (hb hby at_320) (XS.goto Xl30.here hx rfl (pc0 := 321) (pc' := 325) rfl (hb hby at_321) (by decide) (by decide) (XS.istore Xl30.here hx rfl (hb hby at_325) rfl (l' := #[.val (.int p0), .val (.long q1), .second, .val (.long q2), .second, .val (.int p3), .val (.int p4), .val (.int nn), .val (.ref b1), .val (.ref b19), .val (.long kz), .second, .val (.int w0), .val (.int (1 : Int32)), .unset, .unset, .unset, .unset, .unset, .unset]) rfl k)))) ?_
                          exact J327_32 (1 : Int32) (own_vA (i := 1) (by rw [← h_w0]; exact hc301_79))
                      refine Run.st (S' := Tl30.setTop (mkF m 279 #[.val (.int p0), .val (.long q1), .second, .val (.long q2), .second, .val (.int p3), .val (.int p4), .val (.int nn), .val (.ref b1), .val (.ref b19), .val (.long kz), .second, .unset, .unset, .unset, .unset, .unset, .unset, .unset, .unset] [(.int nn)])) (fun _ k => XS.iload Xl30.here hx rfl (hb hby at_277) rfl k) ?_
                      by_cases hc279_83 : (0 : Int32) < nn
                      · refine Run.st (S' := Tl30.setTop (mkF m 285 #[.val (.int p0), .val (.long q1), .second, .val (.long q2), .second, .val (.int p3), .val (.int p4), .val (.int nn), .val (.ref b1), .val (.ref b19), .val (.long kz), .second, .unset, .unset, .unset, .unset, .unset, .unset, .unset, .unset] [(.int (0 : Int32)), (.ref b1)])) (fun _ k => XS.ifNo Xl30.here hx rfl (hb hby at_279) rfl ((if0 _ _).trans (tlt hc279_83).2.2.2) (XS.aload Xl30.here hx rfl (hb hby at_282) rfl rfl (XS.iconst Xl30.here hx rfl (hb hby at_284) k))) ?_
                        obtain ⟨cl84, Ar84, qa84, Sa84, Na84, Ha84, Ga84⟩ := id V_b1
                        have hin84 : ¬ ((0 : Int32) < 0 ∨ cl84.slots.size ≤ ((0 : Int32)).toNatClampNeg) := inb_of Sa84 ⟨by decide, by decide⟩
                        have hat84 : cl84.slots[((0 : Int32)).toNatClampNeg]? = some (.int x0) := Has.at Ha84 hin84 rfl
                        refine Run.st (S' := Tl30.setTop (mkF m 289 #[.val (.int p0), .val (.long q1), .second, .val (.long q2), .second, .val (.int p3), .val (.int p4), .val (.int nn), .val (.ref b1), .val (.ref b19), .val (.long kz), .second, .unset, .unset, .unset, .unset, .unset, .unset, .unset, .unset] [(.int (255 : Int32)), (.int x0)])) (fun _ k => Xl30.caload hx (j := (0 : Int32)) (v := (.int x0)) (by rw [El30]; exact Ar84.1) (State.isArrayOf_alike hZ.alike Ar84.2.1) Ar84.2.2 hin84 hat84 (g := (mkF m 285 #[.val (.int p0), .val (.long q1), .second, .val (.long q2), .second, .val (.int p3), .val (.int p4), .val (.int nn), .val (.ref b1), .val (.ref b19), .val (.long kz), .second, .unset, .unset, .unset, .unset, .unset, .unset, .unset, .unset] [(.int (0 : Int32)), (.ref b1)])) rfl rfl (hb hby at_285) _ (XS.sipush Xl30.here hx rfl (hb hby at_286) k)) ?_
                        by_cases hc289_85 : (255 : Int32) < x0
                        · refine Run.st (S' := Tl30.setTop (mkF m 299 #[.val (.int p0), .val (.long q1), .second, .val (.long q2), .second, .val (.int p3), .val (.int p4), .val (.int nn), .val (.ref b1), .val (.ref b19), .val (.long kz), .second, .val (.int (1 : Int32)), .unset, .unset, .unset, .unset, .unset, .unset, .unset] [])) (fun _ k => XS.icmpNo Xl30.here hx rfl (hb hby at_289) rfl (tlt hc289_85).2.2.2 (XS.iconst Xl30.here hx rfl (hb hby at_292) (XS.goto Xl30.here hx rfl (pc0 := 293) (pc' := 297) rfl (hb hby at_293) (by decide) (by decide) (XS.istore Xl30.here hx rfl (hb hby at_297) rfl (l' := #[.val (.int p0), .val (.long q1), .second, .val (.long q2), .second, .val (.int p3), .val (.int p4), .val (.int nn), .val (.ref b1), .val (.ref b19), .val (.long kz), .second, .val (.int (1 : Int32)), .unset, .unset, .unset, .unset, .unset, .unset, .unset]) rfl k)))) ?_
                          exact J299_31 (1 : Int32) (own_vB (i := 0) (by rw [(own_gx (j := (0 : Int32)) (i := 0) hyC.1 hyC.2 (by decide) (by decide) (by decide) hc279_83)]; exact hc289_85))
                        · refine Run.st (S' := Tl30.setTop (mkF m 299 #[.val (.int p0), .val (.long q1), .second, .val (.long q2), .second, .val (.int p3), .val (.int p4), .val (.int nn), .val (.ref b1), .val (.ref b19), .val (.long kz), .second, .val (.int (0 : Int32)), .unset, .unset, .unset, .unset, .unset, .unset, .unset] [])) (fun _ k => XS.icmpYes Xl30.here hx rfl (pc0 := 289) (pc' := 296) rfl (hb hby at_289) rfl (flt hc289_85).2.2.2 (by decide) (by decide) (XS.iconst Xl30.here hx rfl (hb hby at_296) (XS.istore Xl30.here hx rfl (hb hby at_297) rfl (l' := #[.val (.int p0), .val (.long q1), .second, .val (.long q2), .second, .val (.int p3), .val (.int p4), .val (.int nn), .val (.ref b1), .val (.ref b19), .val (.long kz), .second, .val (.int (0 : Int32)), .unset, .unset, .unset, .unset, .unset, .unset, .unset]) rfl k))) ?_
                          exact J299_31 (0 : Int32) (own_vC (i := 0) rfl (by rw [(own_gx (j := (0 : Int32)) (i := 0) hyC.1 hyC.2 (by decide) (by decide) (by decide) hc279_83)]; exact hc289_85))
                      · refine Run.st (S' := Tl30.setTop (mkF m 299 #[.val (.int p0), .val (.long q1), .second, .val (.long q2), .second, .val (.int p3), .val (.int p4), .val (.int nn), .val (.ref b1), .val (.ref b19), .val (.long kz), .second, .val (.int (0 : Int32)), .unset, .unset, .unset, .unset, .unset, .unset, .unset] [])) (fun _ k => XS.ifYes Xl30.here hx rfl (pc0 := 279) (pc' := 296) rfl (hb hby at_279) rfl ((if0 _ _).trans (flt hc279_83).2.2.2) (by decide) (by decide) (XS.iconst Xl30.here hx rfl (hb hby at_296) (XS.istore Xl30.here hx rfl (hb hby at_297) rfl (l' := #[.val (.int p0), .val (.long q1), .second, .val (.long q2), .second, .val (.int p3), .val (.int p4), .val (.int nn), .val (.ref b1), .val (.ref b19), .val (.long kz), .second, .val (.int (0 : Int32)), .unset, .unset, .unset, .unset, .unset, .unset, .unset]) rfl k))) ?_
                        exact J299_31 (0 : Int32) (own_vC (i := 0) rfl (own_gz (j := (0 : Int32)) hyC.2 (by decide) (by decide) hc279_83))
                    by_cases hk269_86 : nn = (0 : Int32)
                    · obtain ⟨_, _, ⟨T87, L87, k87, n87⟩, -, X87, S87, gr87, ⟨Lc87, hQ87, l87, y87, z87, hC⟩, st87⟩ := X29.specialBackS hx (y := (⟨"java/lang/String", "<init>", "([C)V"⟩ : MethodName)) rfl hown (mvT hZ (hwi hw 9 rfl)) (mvT hZ (hwi hw 10 rfl)) (mvT hZ (hwi hw 11 rfl)) (by decide) (backOfSH (s := s) (vm0 := vmJ28) (W := 1) (rmIni1 l Z aV hw [] b29 b19 k19 c9 nn h29 n0 Zn OL g_b29 hk269_86 (Ne.symm ne_b19_b29) E_b29 F_value_b29 F_coder_b29 V_b19) hZ (hwi hw 11 rfl) (hwi hw 8 rfl) (by decide) (by decide) (own_EW hw) CR.1) (g := (mkF m 269 #[.val (.int p0), .val (.long q1), .second, .val (.long q2), .second, .val (.int p3), .val (.int p4), .val (.int nn), .val (.ref b1), .val (.ref b19), .unset, .unset, .unset, .unset, .unset, .unset, .unset, .unset, .unset, .unset] [(.ref b19), (.ref b29), (.ref b29)])) rfl (by rw [hml]; rfl) (Steps.refl _) (a := b29) (argsL := [(.ref b19)]) (rest := [(.ref b29)]) (lenOf pd_18 rfl) rfl (by show 2 * 0 + _ ≤ _; exact Nat.le_of_eq rfl) (hb hby at_269) (fun _ _ => ⟨rfl, e29, (by decide : 3 + 4 ≤ _), (by decide : 22 + 8 ≤ _)⟩)
                      dsimp only [Pt.U, Pt.locs, Pt.cells, Pt.slots] at X87 l87 y87 z87 st87 hQ87 S87 gr87 hC
                      have hZ := State.Warmed39.trans hZ S87.1
                      have hown : (s.setVm T87.vm).vm.findClass "org/succession/NamesKeyPinLaw" = some m.cls := by rw [show (s.setVm T87.vm).vm = T87.vm from rfl, S87.1.alike.findClass]; exact hown
                      have hS := foldS hS (by rw [e29]; exact hk) S87 gr87
                      have hk : T87.heap.size ≤ T87.heap.size := Nat.le_refl _
                      have X87 : Stand p l e _ (s.setVm T87.vm) m _ below meth c T87 _ _ _ := X87
                      have CR := CR.trans hC
                      replace l87 := l87.symm; replace y87 := y87.symm; replace z87 := z87.symm; subst l87 y87 z87
                      obtain ⟨rfl, N87q, K87, qE, qC, t87, kt87, qV, qK⟩ := hQ87
                      have OL := OL.keep K87 (allS g_b29 all0)
                      have V_b1 := V_b1.keep K87 (ninS ne_b1_b29 nin0)
                      have V_b19 := V_b19.keep K87 (ninS ne_b19_b29 nin0)
                      have E_b29 := qE
                      have F_coder_b29 := qC
                      have F_value_b29 := qV
                      have V_t87 := qK
                      have Kp := Kp.trans K87 (allS (Or.inr sz_b29) all0)
                      have Zn := Nat.le_trans Zn K87.1
                      have N87 := Fr.app Nl28 N87q
                      refine Run.st (S' := T87.setTop (mkF m 272 #[.val (.int p0), .val (.long q1), .second, .val (.long q2), .second, .val (.int p3), .val (.int p4), .val (.int nn), .val (.ref b1), .val (.ref b19), .unset, .unset, .unset, .unset, .unset, .unset, .unset, .unset, .unset, .unset] [(.ref b29)])) (fun _ k => st87.trans k) ?_
                      obtain ⟨_, _, ⟨T88, L88, k88, n88⟩, -, X88, ⟨Lc88, hQ88, l88, y88, z88⟩, st88⟩ := Jvm.LawKit.callS X87 hx (y := (⟨"org/succession/Names", "key", "(Ljava/lang/String;)J"⟩ : MethodName)) hown (mvT hZ (hwi hw 27 rfl)) (mvT hZ (hwi hw 28 rfl)) (mvT hZ (hwi hw 29 rfl)) (mvT hZ (hwi hw 30 rfl)) (by decide) (backOf (W := 0) (rmKeyL l Z aV hw [] b29 t87 kt87 ([] : List Int32) fm zc T87.heap n0 Zn OL hzc rfm own_L1_nil E_b29 F_coder_b29 F_value_b29 V_t87 S_sf S_cs) hZ (hwi hw 30 rfl) (hwi hw 29 rfl) (by decide) (by decide)) (g := (mkF m 272 #[.val (.int p0), .val (.long q1), .second, .val (.long q2), .second, .val (.int p3), .val (.int p4), .val (.int nn), .val (.ref b1), .val (.ref b19), .unset, .unset, .unset, .unset, .unset, .unset, .unset, .unset, .unset, .unset] [(.ref b29)])) rfl (by rw [hml]; rfl) (argsL := [(.ref b29)]) (rest := []) (lenOf pd_19 rfl) rfl (by show 2 * 0 + _ ≤ _; exact Nat.le_of_eq rfl) (hb hby at_272) (fun _ _ => ⟨rfl, rfl, (by decide : 7 + 0 ≤ _), (by decide : 30 + 0 ≤ _)⟩)
                      dsimp only [Pt.U, Pt.locs, Pt.cells, Pt.slots] at X88 l88 y88 z88 st88 hQ88
                      replace l88 := l88.symm; replace y88 := y88.symm; replace z88 := z88.symm; subst l88 y88 z88
                      obtain ⟨rfl, N88q, K88⟩ := hQ88
                      have sfa : ∀ x ∈ [], Safe Z consts_1 T87.vm T87.heap x := all0
                      have CR := CR.trans (CHr.keep K88 sfa CR.1)
                      have OL := OL.keep K88 all0
                      have V_b1 := V_b1.keep K88 nin0
                      have V_b19 := V_b19.keep K88 nin0
                      have E_b29 := E_b29.keep K88
                      have F_value_b29 := F_value_b29.keep K88 nin0
                      have F_coder_b29 := F_coder_b29.keep K88 nin0
                      have V_t87 := V_t87.keep K88 nin0
                      have Kp := Kp.trans K88 all0
                      have Zn := Nat.le_trans Zn K88.1
                      have hk := Nat.le_trans hk K88.1
                      have N88 := Fr.app N87 N88q
                      refine Run.st (S' := T88.setTop (mkF m 277 #[.val (.int p0), .val (.long q1), .second, .val (.long q2), .second, .val (.int p3), .val (.int p4), .val (.int nn), .val (.ref b1), .val (.ref b19), .val (.long (own_k ([] : List Int32) 8)), .second, .unset, .unset, .unset, .unset, .unset, .unset, .unset, .unset] [])) (fun _ k => st88 _ (XS.lstore X88.here hx rfl (hb hby at_275) rfl (l' := #[.val (.int p0), .val (.long q1), .second, .val (.long q2), .second, .val (.int p3), .val (.int p4), .val (.int nn), .val (.ref b1), .val (.ref b19), .val (.long (own_k ([] : List Int32) 8)), .second, .unset, .unset, .unset, .unset, .unset, .unset, .unset, .unset]) rfl k)) ?_
                      exact JH30 (own_k ([] : List Int32) 8) _ _ ⟨_, _, _, X88.mono (by decide) (by decide), N88, rfl, hS, hk, hZ, hown, CR⟩ Zn Kp OL V_b1 (own_kz hyC.2 hk269_86)
                    · by_cases hk269_89 : (∀ c ∈ c9, ¬ (255 : Int32) < c)
                      · have hL1 := own_L1of hr hk269_89 hl9
                        have u_S_cs := S_cs.ext OL.2
                        obtain ⟨_, _, ⟨T90, L90, k90, n90⟩, -, X90, ⟨Lc90, hQ90, l90, y90, z90⟩, st90⟩ := X29.specialBack hx (y := (⟨"java/lang/String", "<init>", "([C)V"⟩ : MethodName)) rfl hown (mvT hZ (hwi hw 9 rfl)) (mvT hZ (hwi hw 10 rfl)) (mvT hZ (hwi hw 11 rfl)) (by decide) (own_bV (W := 1) hw hZ 9 g_b29 Zn E_b29 F_value_b29 F_coder_b29 V_b19 u_S_cs hzc hyC.2 (own_nn hnn.1) hk269_86 (own_cap (c := 9) (by have := hnn; omega)) hL1 (by decide) (by decide)) (g := (mkF m 269 #[.val (.int p0), .val (.long q1), .second, .val (.long q2), .second, .val (.int p3), .val (.int p4), .val (.int nn), .val (.ref b1), .val (.ref b19), .unset, .unset, .unset, .unset, .unset, .unset, .unset, .unset, .unset, .unset] [(.ref b19), (.ref b29), (.ref b29)])) rfl (by rw [hml]; rfl) (Steps.refl _) (a := b29) (argsL := [(.ref b19)]) (rest := [(.ref b29)]) (lenOf pd_18 rfl) rfl (by show 2 * 0 + _ ≤ _; exact Nat.le_of_eq rfl) (hb hby at_269) (fun _ _ => ⟨rfl, e29, (by decide : 3 + 1 ≤ _), (by decide : 22 + 9 ≤ _)⟩)
                        dsimp only [Pt.U, Pt.locs, Pt.cells, Pt.slots] at X90 l90 y90 z90 st90 hQ90
                        replace l90 := l90.symm; replace y90 := y90.symm; replace z90 := z90.symm; subst l90 y90 z90
                        obtain ⟨rfl, N90q, K90, qE, qC, t90, kt90, qV, qK⟩ := hQ90
                        have sfa : ∀ x ∈ [b29], Safe Z consts_1 vmJ28 h29 x := (allS (own_safeN (EL := consts_1) hZ.alike E_b29 F_value_b29) all0)
                        have CR := CR.trans (CHr.keep K90 sfa CR.1)
                        have OL := OL.keep K90 (allS g_b29 all0)
                        have V_b1 := V_b1.keep K90 (ninS ne_b1_b29 nin0)
                        have V_b19 := V_b19.keep K90 (ninS ne_b19_b29 nin0)
                        have E_b29 := qE
                        have F_coder_b29 := qC
                        have F_value_b29 := qV
                        have V_t90 := qK
                        have Kp := Kp.trans K90 (allS (Or.inr sz_b29) all0)
                        have Zn := Nat.le_trans Zn K90.1
                        have hk := Nat.le_trans hk K90.1
                        have N90 := Fr.app Nl28 N90q
                        refine Run.st (S' := T90.setTop (mkF m 272 #[.val (.int p0), .val (.long q1), .second, .val (.long q2), .second, .val (.int p3), .val (.int p4), .val (.int nn), .val (.ref b1), .val (.ref b19), .unset, .unset, .unset, .unset, .unset, .unset, .unset, .unset, .unset, .unset] [(.ref b29)])) (fun _ k => st90.trans k) ?_
                        obtain ⟨_, _, ⟨T91, L91, k91, n91⟩, -, X91, ⟨Lc91, hQ91, l91, y91, z91⟩, st91⟩ := Jvm.LawKit.callS X90 hx (y := (⟨"org/succession/Names", "key", "(Ljava/lang/String;)J"⟩ : MethodName)) hown (mvT hZ (hwi hw 27 rfl)) (mvT hZ (hwi hw 28 rfl)) (mvT hZ (hwi hw 29 rfl)) (mvT hZ (hwi hw 30 rfl)) (by decide) (backOf (W := 0) (rmKeyL l Z aV hw [] b29 t90 kt90 c9 fm zc T90.heap n0 Zn OL hzc rfm hL1 E_b29 F_coder_b29 F_value_b29 V_t90 S_sf S_cs) hZ (hwi hw 30 rfl) (hwi hw 29 rfl) (by decide) (by decide)) (g := (mkF m 272 #[.val (.int p0), .val (.long q1), .second, .val (.long q2), .second, .val (.int p3), .val (.int p4), .val (.int nn), .val (.ref b1), .val (.ref b19), .unset, .unset, .unset, .unset, .unset, .unset, .unset, .unset, .unset, .unset] [(.ref b29)])) rfl (by rw [hml]; rfl) (argsL := [(.ref b29)]) (rest := []) (lenOf pd_19 rfl) rfl (by show 2 * 0 + _ ≤ _; exact Nat.le_of_eq rfl) (hb hby at_272) (fun _ _ => ⟨rfl, rfl, (by decide : 4 + 0 ≤ _), (by decide : 31 + 0 ≤ _)⟩)
                        dsimp only [Pt.U, Pt.locs, Pt.cells, Pt.slots] at X91 l91 y91 z91 st91 hQ91
                        replace l91 := l91.symm; replace y91 := y91.symm; replace z91 := z91.symm; subst l91 y91 z91
                        obtain ⟨rfl, N91q, K91⟩ := hQ91
                        have sfa : ∀ x ∈ [], Safe Z consts_1 vmJ28 T90.heap x := all0
                        have CR := CR.trans (CHr.keep K91 sfa CR.1)
                        have OL := OL.keep K91 all0
                        have V_b1 := V_b1.keep K91 nin0
                        have V_b19 := V_b19.keep K91 nin0
                        have E_b29 := E_b29.keep K91
                        have F_value_b29 := F_value_b29.keep K91 nin0
                        have F_coder_b29 := F_coder_b29.keep K91 nin0
                        have V_t90 := V_t90.keep K91 nin0
                        have Kp := Kp.trans K91 all0
                        have Zn := Nat.le_trans Zn K91.1
                        have hk := Nat.le_trans hk K91.1
                        have N91 := Fr.app N90 N91q
                        refine Run.st (S' := T91.setTop (mkF m 277 #[.val (.int p0), .val (.long q1), .second, .val (.long q2), .second, .val (.int p3), .val (.int p4), .val (.int nn), .val (.ref b1), .val (.ref b19), .val (.long (own_k c9 8)), .second, .unset, .unset, .unset, .unset, .unset, .unset, .unset, .unset] [])) (fun _ k => st91 _ (XS.lstore X91.here hx rfl (hb hby at_275) rfl (l' := #[.val (.int p0), .val (.long q1), .second, .val (.long q2), .second, .val (.int p3), .val (.int p4), .val (.int nn), .val (.ref b1), .val (.ref b19), .val (.long (own_k c9 8)), .second, .unset, .unset, .unset, .unset, .unset, .unset, .unset, .unset]) rfl k)) ?_
                        exact JH30 (own_k c9 8) _ _ ⟨_, _, _, X91.mono (by decide) (by decide), N91, rfl, hS, hk, hZ, hown, CR⟩ Zn Kp OL V_b1 rfl
                      · obtain ⟨kk, hk1, hk2, hk3⟩ := own_first hk269_89
                        obtain ⟨_, _, ⟨T92, L92, k92, n92⟩, -, X92, ⟨Lc92, hQ92, l92, y92, z92⟩, st92⟩ := X29.specialBack hx (y := (⟨"java/lang/String", "<init>", "([C)V"⟩ : MethodName)) rfl hown (mvT hZ (hwi hw 9 rfl)) (mvT hZ (hwi hw 10 rfl)) (mvT hZ (hwi hw 11 rfl)) (by decide) (backOf (W := 1) (rmU1 l Z aV hw [] b29 b19 k19 c9 nn zc kk h29 n0 Zn OL hzc (own_nn hnn.1) h9 hyC.2 hr hk269_86 g_b29 (Ne.symm ne_b19_b29) hk1 hk2 hk3 E_b29 F_value_b29 F_coder_b29 V_b19 S_as S_hi S_lo S_cs) hZ (hwi hw 11 rfl) (hwi hw 8 rfl) (by decide) (by decide)) (g := (mkF m 269 #[.val (.int p0), .val (.long q1), .second, .val (.long q2), .second, .val (.int p3), .val (.int p4), .val (.int nn), .val (.ref b1), .val (.ref b19), .unset, .unset, .unset, .unset, .unset, .unset, .unset, .unset, .unset, .unset] [(.ref b19), (.ref b29), (.ref b29)])) rfl (by rw [hml]; rfl) (Steps.refl _) (a := b29) (argsL := [(.ref b19)]) (rest := [(.ref b29)]) (lenOf pd_18 rfl) rfl (by show 2 * 0 + _ ≤ _; exact Nat.le_of_eq rfl) (hb hby at_269) (fun _ _ => ⟨rfl, e29, (by decide : 3 + 2 ≤ _), (by decide : 22 + 27 ≤ _)⟩)
                        dsimp only [Pt.U, Pt.locs, Pt.cells, Pt.slots] at X92 l92 y92 z92 st92 hQ92
                        replace l92 := l92.symm; replace y92 := y92.symm; replace z92 := z92.symm; subst l92 y92 z92
                        obtain ⟨rfl, N92q, K92, qE, qC, t92, kt92, bz92, qV, qK, hW⟩ := hQ92
                        have sfa : ∀ x ∈ [b29], Safe Z consts_1 vmJ28 h29 x := (allS (own_safeN (EL := consts_1) hZ.alike E_b29 F_value_b29) all0)
                        have CR := CR.trans (CHr.keep K92 sfa CR.1)
                        have OL := OL.keep K92 (allS g_b29 all0)
                        have V_b1 := V_b1.keep K92 (ninS ne_b1_b29 nin0)
                        have V_b19 := V_b19.keep K92 (ninS ne_b19_b29 nin0)
                        have E_b29 := qE
                        have F_coder_b29 := qC
                        have F_value_b29 := qV
                        have V_t92 := qK
                        have Kp := Kp.trans K92 (allS (Or.inr sz_b29) all0)
                        have Zn := Nat.le_trans Zn K92.1
                        have hk := Nat.le_trans hk K92.1
                        have N92 := Fr.app Nl28 N92q
                        refine Run.st (S' := T92.setTop (mkF m 272 #[.val (.int p0), .val (.long q1), .second, .val (.long q2), .second, .val (.int p3), .val (.int p4), .val (.int nn), .val (.ref b1), .val (.ref b19), .unset, .unset, .unset, .unset, .unset, .unset, .unset, .unset, .unset, .unset] [(.ref b29)])) (fun _ k => st92.trans k) ?_
                        obtain ⟨_, _, ⟨T93, L93, k93, n93⟩, -, X93, ⟨Lc93, hQ93, l93, y93, z93⟩, st93⟩ := Jvm.LawKit.callS X92 hx (y := (⟨"org/succession/Names", "key", "(Ljava/lang/String;)J"⟩ : MethodName)) hown (mvT hZ (hwi hw 27 rfl)) (mvT hZ (hwi hw 28 rfl)) (mvT hZ (hwi hw 29 rfl)) (mvT hZ (hwi hw 30 rfl)) (by decide) (backOf (W := 0) (rmKeyU l Z aV hw [] b29 t92 kt92 bz92 (nn <<< ((1 : Int32) &&& 31)) fm zc c9 T92.heap n0 Zn OL hzc rfm hW E_b29 F_coder_b29 F_value_b29 V_t92 S_as S_hi S_lo S_sf S_cs) hZ (hwi hw 30 rfl) (hwi hw 29 rfl) (by decide) (by decide)) (g := (mkF m 272 #[.val (.int p0), .val (.long q1), .second, .val (.long q2), .second, .val (.int p3), .val (.int p4), .val (.int nn), .val (.ref b1), .val (.ref b19), .unset, .unset, .unset, .unset, .unset, .unset, .unset, .unset, .unset, .unset] [(.ref b29)])) rfl (by rw [hml]; rfl) (argsL := [(.ref b29)]) (rest := []) (lenOf pd_19 rfl) rfl (by show 2 * 0 + _ ≤ _; exact Nat.le_of_eq rfl) (hb hby at_272) (fun _ _ => ⟨rfl, rfl, (by decide : 5 + 0 ≤ _), (by decide : 49 + 0 ≤ _)⟩)
                        dsimp only [Pt.U, Pt.locs, Pt.cells, Pt.slots] at X93 l93 y93 z93 st93 hQ93
                        replace l93 := l93.symm; replace y93 := y93.symm; replace z93 := z93.symm; subst l93 y93 z93
                        obtain ⟨rfl, N93q, K93⟩ := hQ93
                        have sfa : ∀ x ∈ [], Safe Z consts_1 vmJ28 T92.heap x := all0
                        have CR := CR.trans (CHr.keep K93 sfa CR.1)
                        have OL := OL.keep K93 all0
                        have V_b1 := V_b1.keep K93 nin0
                        have V_b19 := V_b19.keep K93 nin0
                        have E_b29 := E_b29.keep K93
                        have F_value_b29 := F_value_b29.keep K93 nin0
                        have F_coder_b29 := F_coder_b29.keep K93 nin0
                        have V_t92 := V_t92.keep K93 nin0
                        have Kp := Kp.trans K93 all0
                        have Zn := Nat.le_trans Zn K93.1
                        have hk := Nat.le_trans hk K93.1
                        have N93 := Fr.app N92 N93q
                        refine Run.st (S' := T93.setTop (mkF m 277 #[.val (.int p0), .val (.long q1), .second, .val (.long q2), .second, .val (.int p3), .val (.int p4), .val (.int nn), .val (.ref b1), .val (.ref b19), .val (.long (own_k c9 8)), .second, .unset, .unset, .unset, .unset, .unset, .unset, .unset, .unset] [])) (fun _ k => st93 _ (XS.lstore X93.here hx rfl (hb hby at_275) rfl (l' := #[.val (.int p0), .val (.long q1), .second, .val (.long q2), .second, .val (.int p3), .val (.int p4), .val (.int nn), .val (.ref b1), .val (.ref b19), .val (.long (own_k c9 8)), .second, .unset, .unset, .unset, .unset, .unset, .unset, .unset, .unset]) rfl k)) ?_
                        exact JH30 (own_k c9 8) _ _ ⟨_, _, _, X93.mono (by decide) (by decide), N93, rfl, hS, hk, hZ, hown, CR⟩ Zn Kp OL V_b1 rfl
                  refine Run.st (S' := Tl27.setTop (mkF m 250 #[.val (.int p0), .val (.long q1), .second, .val (.long q2), .second, .val (.int p3), .val (.int p4), .val (.int nn), .val (.ref b1), .val (.ref b19), .unset, .unset, .unset, .unset, .unset, .unset, .unset, .unset, .unset, .unset] [(.int (8 : Int32)), (.int nn)])) (fun _ k => XS.iload Xl27.here hx rfl (hb hby at_246) rfl (XS.bipush Xl27.here hx rfl (hb hby at_248) k)) ?_
                  by_cases hc250_94 : (8 : Int32) < nn
                  · refine Run.st (S' := Tl27.setTop (mkF m 261 #[.val (.int p0), .val (.long q1), .second, .val (.long q2), .second, .val (.int p3), .val (.int p4), .val (.int nn), .val (.ref b1), .val (.ref b19), .unset, .unset, .unset, .unset, .unset, .unset, .unset, .unset, .unset, .unset] [(.int (8 : Int32)), (.ref b1), (.int (8 : Int32)), (.ref b19)])) (fun _ k => XS.icmpNo Xl27.here hx rfl (hb hby at_250) rfl (tlt hc250_94).2.2.2 (XS.aload Xl27.here hx rfl (hb hby at_253) rfl rfl (XS.bipush Xl27.here hx rfl (hb hby at_255) (XS.aload Xl27.here hx rfl (hb hby at_257) rfl rfl (XS.bipush Xl27.here hx rfl (hb hby at_259) k))))) ?_
                    obtain ⟨cl95, Ar95, qa95, Sa95, Na95, Ha95, Ga95⟩ := id V_b1
                    have hin95 : ¬ ((8 : Int32) < 0 ∨ cl95.slots.size ≤ ((8 : Int32)).toNatClampNeg) := inb_of Sa95 ⟨by decide, by decide⟩
                    have hat95 : cl95.slots[((8 : Int32)).toNatClampNeg]? = some (.int x8) := Has.at Ha95 hin95 rfl
                    refine Run.st (S' := Tl27.setTop (mkF m 262 #[.val (.int p0), .val (.long q1), .second, .val (.long q2), .second, .val (.int p3), .val (.int p4), .val (.int nn), .val (.ref b1), .val (.ref b19), .unset, .unset, .unset, .unset, .unset, .unset, .unset, .unset, .unset, .unset] [(.int x8), (.int (8 : Int32)), (.ref b19)])) (fun _ k => Xl27.caload hx (j := (8 : Int32)) (v := (.int x8)) (by rw [El27]; exact Ar95.1) (State.isArrayOf_alike hZ.alike Ar95.2.1) Ar95.2.2 hin95 hat95 (g := (mkF m 261 #[.val (.int p0), .val (.long q1), .second, .val (.long q2), .second, .val (.int p3), .val (.int p4), .val (.int nn), .val (.ref b1), .val (.ref b19), .unset, .unset, .unset, .unset, .unset, .unset, .unset, .unset, .unset, .unset] [(.int (8 : Int32)), (.ref b1), (.int (8 : Int32)), (.ref b19)])) rfl rfl (hb hby at_261) _ k) ?_
                    have sfw := (own_safeA (EL := consts_1) hZ.alike V_b19 (by decide))
                    obtain ⟨cl96, Ar96, qa96, Sa96, Na96, Ha96, Ga96⟩ := V_b19
                    have hin96 : ¬ ((8 : Int32) < 0 ∨ cl96.slots.size ≤ ((8 : Int32)).toNatClampNeg) := inb_of Sa96 ⟨by decide, hc250_94⟩
                    obtain ⟨T96, h96, X96, e96, W96, st96⟩ := stC Xl27 hx hZ El27 Ar96 (j := (8 : Int32)) hin96 (g := (mkF m 262 #[.val (.int p0), .val (.long q1), .second, .val (.long q2), .second, .val (.int p3), .val (.int p4), .val (.int nn), .val (.ref b1), .val (.ref b19), .unset, .unset, .unset, .unset, .unset, .unset, .unset, .unset, .unset, .unset] [(.int x8), (.int (8 : Int32)), (.ref b19)])) rfl rfl (hb hby at_262)
                    have V_b19 := Arv.set Ar96 qa96 Sa96 Na96 Ha96 Ga96 (fits_nar_char _) W96 ((8 : Int32)).toNatClampNeg rfl (own_ltm (by rw [hyJ.2]; exact own_clt (by decide) hc250_94))
                    rw [own_set] at V_b19
                    have OL := OL.wr W96 g_b19
                    have CR := CR.trans (CHr.wr W96 sfw CR.1)
                    have V_b1 := V_b1.other W96 ne_b1_b19
                    have N96 := Fr.snoc X96 Nl27 g_b19
                    have Kp := Kp.wr W96 (Or.inr sz_b19)
                    have Zn := Nat.le_trans Zn (Nat.le_of_eq W96.size.symm)
                    have hk := Nat.le_trans hk (Nat.le_of_eq W96.size.symm)
                    refine Run.st (S' := T96.setTop (mkF m 263 #[.val (.int p0), .val (.long q1), .second, .val (.long q2), .second, .val (.int p3), .val (.int p4), .val (.int nn), .val (.ref b1), .val (.ref b19), .unset, .unset, .unset, .unset, .unset, .unset, .unset, .unset, .unset, .unset] [])) (fun _ k => st96 _ k) ?_
                    exact JH28 (c8.set ((8 : Int32)).toNatClampNeg (nar .char x8)) _ _ ⟨_, _, _, X96, N96, e96, hS, hk, hZ, hown, CR⟩ Zn Kp OL V_b1 V_b19 ⟨own_preT hyJ.1 (own_nar16 hx8), by rw [List.length_set]; exact hyJ.2⟩
                  · refine Run.st (S' := Tl27.setTop (mkF m 263 #[.val (.int p0), .val (.long q1), .second, .val (.long q2), .second, .val (.int p3), .val (.int p4), .val (.int nn), .val (.ref b1), .val (.ref b19), .unset, .unset, .unset, .unset, .unset, .unset, .unset, .unset, .unset, .unset] [])) (fun _ k => XS.icmpYes Xl27.here hx rfl (pc0 := 250) (pc' := 263) rfl (hb hby at_250) rfl (flt hc250_94).2.2.2 (by decide) (by decide) k) ?_
                    exact JH28 c8 _ _ ⟨_, _, _, Xl27, Nl27, El27, hS, hk, hZ, hown, CR⟩ Zn Kp OL V_b1 V_b19 ⟨own_preS hyJ.1 (by rw [hyJ.2]; exact own_nle (i := 8) (by decide) hc250_94), hyJ.2⟩
                refine Run.st (S' := Tl26.setTop (mkF m 233 #[.val (.int p0), .val (.long q1), .second, .val (.long q2), .second, .val (.int p3), .val (.int p4), .val (.int nn), .val (.ref b1), .val (.ref b19), .unset, .unset, .unset, .unset, .unset, .unset, .unset, .unset, .unset, .unset] [(.int (7 : Int32)), (.int nn)])) (fun _ k => XS.iload Xl26.here hx rfl (hb hby at_229) rfl (XS.bipush Xl26.here hx rfl (hb hby at_231) k)) ?_
                by_cases hc233_97 : (7 : Int32) < nn
                · refine Run.st (S' := Tl26.setTop (mkF m 244 #[.val (.int p0), .val (.long q1), .second, .val (.long q2), .second, .val (.int p3), .val (.int p4), .val (.int nn), .val (.ref b1), .val (.ref b19), .unset, .unset, .unset, .unset, .unset, .unset, .unset, .unset, .unset, .unset] [(.int (7 : Int32)), (.ref b1), (.int (7 : Int32)), (.ref b19)])) (fun _ k => XS.icmpNo Xl26.here hx rfl (hb hby at_233) rfl (tlt hc233_97).2.2.2 (XS.aload Xl26.here hx rfl (hb hby at_236) rfl rfl (XS.bipush Xl26.here hx rfl (hb hby at_238) (XS.aload Xl26.here hx rfl (hb hby at_240) rfl rfl (XS.bipush Xl26.here hx rfl (hb hby at_242) k))))) ?_
                  obtain ⟨cl98, Ar98, qa98, Sa98, Na98, Ha98, Ga98⟩ := id V_b1
                  have hin98 : ¬ ((7 : Int32) < 0 ∨ cl98.slots.size ≤ ((7 : Int32)).toNatClampNeg) := inb_of Sa98 ⟨by decide, by decide⟩
                  have hat98 : cl98.slots[((7 : Int32)).toNatClampNeg]? = some (.int x7) := Has.at Ha98 hin98 rfl
                  refine Run.st (S' := Tl26.setTop (mkF m 245 #[.val (.int p0), .val (.long q1), .second, .val (.long q2), .second, .val (.int p3), .val (.int p4), .val (.int nn), .val (.ref b1), .val (.ref b19), .unset, .unset, .unset, .unset, .unset, .unset, .unset, .unset, .unset, .unset] [(.int x7), (.int (7 : Int32)), (.ref b19)])) (fun _ k => Xl26.caload hx (j := (7 : Int32)) (v := (.int x7)) (by rw [El26]; exact Ar98.1) (State.isArrayOf_alike hZ.alike Ar98.2.1) Ar98.2.2 hin98 hat98 (g := (mkF m 244 #[.val (.int p0), .val (.long q1), .second, .val (.long q2), .second, .val (.int p3), .val (.int p4), .val (.int nn), .val (.ref b1), .val (.ref b19), .unset, .unset, .unset, .unset, .unset, .unset, .unset, .unset, .unset, .unset] [(.int (7 : Int32)), (.ref b1), (.int (7 : Int32)), (.ref b19)])) rfl rfl (hb hby at_244) _ k) ?_
                  have sfw := (own_safeA (EL := consts_1) hZ.alike V_b19 (by decide))
                  obtain ⟨cl99, Ar99, qa99, Sa99, Na99, Ha99, Ga99⟩ := V_b19
                  have hin99 : ¬ ((7 : Int32) < 0 ∨ cl99.slots.size ≤ ((7 : Int32)).toNatClampNeg) := inb_of Sa99 ⟨by decide, hc233_97⟩
                  obtain ⟨T99, h99, X99, e99, W99, st99⟩ := stC Xl26 hx hZ El26 Ar99 (j := (7 : Int32)) hin99 (g := (mkF m 245 #[.val (.int p0), .val (.long q1), .second, .val (.long q2), .second, .val (.int p3), .val (.int p4), .val (.int nn), .val (.ref b1), .val (.ref b19), .unset, .unset, .unset, .unset, .unset, .unset, .unset, .unset, .unset, .unset] [(.int x7), (.int (7 : Int32)), (.ref b19)])) rfl rfl (hb hby at_245)
                  have V_b19 := Arv.set Ar99 qa99 Sa99 Na99 Ha99 Ga99 (fits_nar_char _) W99 ((7 : Int32)).toNatClampNeg rfl (own_ltm (by rw [hyJ.2]; exact own_clt (by decide) hc233_97))
                  rw [own_set] at V_b19
                  have OL := OL.wr W99 g_b19
                  have CR := CR.trans (CHr.wr W99 sfw CR.1)
                  have V_b1 := V_b1.other W99 ne_b1_b19
                  have N99 := Fr.snoc X99 Nl26 g_b19
                  have Kp := Kp.wr W99 (Or.inr sz_b19)
                  have Zn := Nat.le_trans Zn (Nat.le_of_eq W99.size.symm)
                  have hk := Nat.le_trans hk (Nat.le_of_eq W99.size.symm)
                  refine Run.st (S' := T99.setTop (mkF m 246 #[.val (.int p0), .val (.long q1), .second, .val (.long q2), .second, .val (.int p3), .val (.int p4), .val (.int nn), .val (.ref b1), .val (.ref b19), .unset, .unset, .unset, .unset, .unset, .unset, .unset, .unset, .unset, .unset] [])) (fun _ k => st99 _ k) ?_
                  exact JH27 (c7.set ((7 : Int32)).toNatClampNeg (nar .char x7)) _ _ ⟨_, _, _, X99, N99, e99, hS, hk, hZ, hown, CR⟩ Zn Kp OL V_b1 V_b19 ⟨own_preT hyJ.1 (own_nar16 hx7), by rw [List.length_set]; exact hyJ.2⟩
                · refine Run.st (S' := Tl26.setTop (mkF m 246 #[.val (.int p0), .val (.long q1), .second, .val (.long q2), .second, .val (.int p3), .val (.int p4), .val (.int nn), .val (.ref b1), .val (.ref b19), .unset, .unset, .unset, .unset, .unset, .unset, .unset, .unset, .unset, .unset] [])) (fun _ k => XS.icmpYes Xl26.here hx rfl (pc0 := 233) (pc' := 246) rfl (hb hby at_233) rfl (flt hc233_97).2.2.2 (by decide) (by decide) k) ?_
                  exact JH27 c7 _ _ ⟨_, _, _, Xl26, Nl26, El26, hS, hk, hZ, hown, CR⟩ Zn Kp OL V_b1 V_b19 ⟨own_preS hyJ.1 (by rw [hyJ.2]; exact own_nle (i := 7) (by decide) hc233_97), hyJ.2⟩
              refine Run.st (S' := Tl25.setTop (mkF m 216 #[.val (.int p0), .val (.long q1), .second, .val (.long q2), .second, .val (.int p3), .val (.int p4), .val (.int nn), .val (.ref b1), .val (.ref b19), .unset, .unset, .unset, .unset, .unset, .unset, .unset, .unset, .unset, .unset] [(.int (6 : Int32)), (.int nn)])) (fun _ k => XS.iload Xl25.here hx rfl (hb hby at_212) rfl (XS.bipush Xl25.here hx rfl (hb hby at_214) k)) ?_
              by_cases hc216_100 : (6 : Int32) < nn
              · refine Run.st (S' := Tl25.setTop (mkF m 227 #[.val (.int p0), .val (.long q1), .second, .val (.long q2), .second, .val (.int p3), .val (.int p4), .val (.int nn), .val (.ref b1), .val (.ref b19), .unset, .unset, .unset, .unset, .unset, .unset, .unset, .unset, .unset, .unset] [(.int (6 : Int32)), (.ref b1), (.int (6 : Int32)), (.ref b19)])) (fun _ k => XS.icmpNo Xl25.here hx rfl (hb hby at_216) rfl (tlt hc216_100).2.2.2 (XS.aload Xl25.here hx rfl (hb hby at_219) rfl rfl (XS.bipush Xl25.here hx rfl (hb hby at_221) (XS.aload Xl25.here hx rfl (hb hby at_223) rfl rfl (XS.bipush Xl25.here hx rfl (hb hby at_225) k))))) ?_
                obtain ⟨cl101, Ar101, qa101, Sa101, Na101, Ha101, Ga101⟩ := id V_b1
                have hin101 : ¬ ((6 : Int32) < 0 ∨ cl101.slots.size ≤ ((6 : Int32)).toNatClampNeg) := inb_of Sa101 ⟨by decide, by decide⟩
                have hat101 : cl101.slots[((6 : Int32)).toNatClampNeg]? = some (.int x6) := Has.at Ha101 hin101 rfl
                refine Run.st (S' := Tl25.setTop (mkF m 228 #[.val (.int p0), .val (.long q1), .second, .val (.long q2), .second, .val (.int p3), .val (.int p4), .val (.int nn), .val (.ref b1), .val (.ref b19), .unset, .unset, .unset, .unset, .unset, .unset, .unset, .unset, .unset, .unset] [(.int x6), (.int (6 : Int32)), (.ref b19)])) (fun _ k => Xl25.caload hx (j := (6 : Int32)) (v := (.int x6)) (by rw [El25]; exact Ar101.1) (State.isArrayOf_alike hZ.alike Ar101.2.1) Ar101.2.2 hin101 hat101 (g := (mkF m 227 #[.val (.int p0), .val (.long q1), .second, .val (.long q2), .second, .val (.int p3), .val (.int p4), .val (.int nn), .val (.ref b1), .val (.ref b19), .unset, .unset, .unset, .unset, .unset, .unset, .unset, .unset, .unset, .unset] [(.int (6 : Int32)), (.ref b1), (.int (6 : Int32)), (.ref b19)])) rfl rfl (hb hby at_227) _ k) ?_
                have sfw := (own_safeA (EL := consts_1) hZ.alike V_b19 (by decide))
                obtain ⟨cl102, Ar102, qa102, Sa102, Na102, Ha102, Ga102⟩ := V_b19
                have hin102 : ¬ ((6 : Int32) < 0 ∨ cl102.slots.size ≤ ((6 : Int32)).toNatClampNeg) := inb_of Sa102 ⟨by decide, hc216_100⟩
                obtain ⟨T102, h102, X102, e102, W102, st102⟩ := stC Xl25 hx hZ El25 Ar102 (j := (6 : Int32)) hin102 (g := (mkF m 228 #[.val (.int p0), .val (.long q1), .second, .val (.long q2), .second, .val (.int p3), .val (.int p4), .val (.int nn), .val (.ref b1), .val (.ref b19), .unset, .unset, .unset, .unset, .unset, .unset, .unset, .unset, .unset, .unset] [(.int x6), (.int (6 : Int32)), (.ref b19)])) rfl rfl (hb hby at_228)
                have V_b19 := Arv.set Ar102 qa102 Sa102 Na102 Ha102 Ga102 (fits_nar_char _) W102 ((6 : Int32)).toNatClampNeg rfl (own_ltm (by rw [hyJ.2]; exact own_clt (by decide) hc216_100))
                rw [own_set] at V_b19
                have OL := OL.wr W102 g_b19
                have CR := CR.trans (CHr.wr W102 sfw CR.1)
                have V_b1 := V_b1.other W102 ne_b1_b19
                have N102 := Fr.snoc X102 Nl25 g_b19
                have Kp := Kp.wr W102 (Or.inr sz_b19)
                have Zn := Nat.le_trans Zn (Nat.le_of_eq W102.size.symm)
                have hk := Nat.le_trans hk (Nat.le_of_eq W102.size.symm)
                refine Run.st (S' := T102.setTop (mkF m 229 #[.val (.int p0), .val (.long q1), .second, .val (.long q2), .second, .val (.int p3), .val (.int p4), .val (.int nn), .val (.ref b1), .val (.ref b19), .unset, .unset, .unset, .unset, .unset, .unset, .unset, .unset, .unset, .unset] [])) (fun _ k => st102 _ k) ?_
                exact JH26 (c6.set ((6 : Int32)).toNatClampNeg (nar .char x6)) _ _ ⟨_, _, _, X102, N102, e102, hS, hk, hZ, hown, CR⟩ Zn Kp OL V_b1 V_b19 ⟨own_preT hyJ.1 (own_nar16 hx6), by rw [List.length_set]; exact hyJ.2⟩
              · refine Run.st (S' := Tl25.setTop (mkF m 229 #[.val (.int p0), .val (.long q1), .second, .val (.long q2), .second, .val (.int p3), .val (.int p4), .val (.int nn), .val (.ref b1), .val (.ref b19), .unset, .unset, .unset, .unset, .unset, .unset, .unset, .unset, .unset, .unset] [])) (fun _ k => XS.icmpYes Xl25.here hx rfl (pc0 := 216) (pc' := 229) rfl (hb hby at_216) rfl (flt hc216_100).2.2.2 (by decide) (by decide) k) ?_
                exact JH26 c6 _ _ ⟨_, _, _, Xl25, Nl25, El25, hS, hk, hZ, hown, CR⟩ Zn Kp OL V_b1 V_b19 ⟨own_preS hyJ.1 (by rw [hyJ.2]; exact own_nle (i := 6) (by decide) hc216_100), hyJ.2⟩
            refine Run.st (S' := Tl24.setTop (mkF m 201 #[.val (.int p0), .val (.long q1), .second, .val (.long q2), .second, .val (.int p3), .val (.int p4), .val (.int nn), .val (.ref b1), .val (.ref b19), .unset, .unset, .unset, .unset, .unset, .unset, .unset, .unset, .unset, .unset] [(.int (5 : Int32)), (.int nn)])) (fun _ k => XS.iload Xl24.here hx rfl (hb hby at_198) rfl (XS.iconst Xl24.here hx rfl (hb hby at_200) k)) ?_
            by_cases hc201_103 : (5 : Int32) < nn
            · refine Run.st (S' := Tl24.setTop (mkF m 210 #[.val (.int p0), .val (.long q1), .second, .val (.long q2), .second, .val (.int p3), .val (.int p4), .val (.int nn), .val (.ref b1), .val (.ref b19), .unset, .unset, .unset, .unset, .unset, .unset, .unset, .unset, .unset, .unset] [(.int (5 : Int32)), (.ref b1), (.int (5 : Int32)), (.ref b19)])) (fun _ k => XS.icmpNo Xl24.here hx rfl (hb hby at_201) rfl (tlt hc201_103).2.2.2 (XS.aload Xl24.here hx rfl (hb hby at_204) rfl rfl (XS.iconst Xl24.here hx rfl (hb hby at_206) (XS.aload Xl24.here hx rfl (hb hby at_207) rfl rfl (XS.iconst Xl24.here hx rfl (hb hby at_209) k))))) ?_
              obtain ⟨cl104, Ar104, qa104, Sa104, Na104, Ha104, Ga104⟩ := id V_b1
              have hin104 : ¬ ((5 : Int32) < 0 ∨ cl104.slots.size ≤ ((5 : Int32)).toNatClampNeg) := inb_of Sa104 ⟨by decide, by decide⟩
              have hat104 : cl104.slots[((5 : Int32)).toNatClampNeg]? = some (.int x5) := Has.at Ha104 hin104 rfl
              refine Run.st (S' := Tl24.setTop (mkF m 211 #[.val (.int p0), .val (.long q1), .second, .val (.long q2), .second, .val (.int p3), .val (.int p4), .val (.int nn), .val (.ref b1), .val (.ref b19), .unset, .unset, .unset, .unset, .unset, .unset, .unset, .unset, .unset, .unset] [(.int x5), (.int (5 : Int32)), (.ref b19)])) (fun _ k => Xl24.caload hx (j := (5 : Int32)) (v := (.int x5)) (by rw [El24]; exact Ar104.1) (State.isArrayOf_alike hZ.alike Ar104.2.1) Ar104.2.2 hin104 hat104 (g := (mkF m 210 #[.val (.int p0), .val (.long q1), .second, .val (.long q2), .second, .val (.int p3), .val (.int p4), .val (.int nn), .val (.ref b1), .val (.ref b19), .unset, .unset, .unset, .unset, .unset, .unset, .unset, .unset, .unset, .unset] [(.int (5 : Int32)), (.ref b1), (.int (5 : Int32)), (.ref b19)])) rfl rfl (hb hby at_210) _ k) ?_
              have sfw := (own_safeA (EL := consts_1) hZ.alike V_b19 (by decide))
              obtain ⟨cl105, Ar105, qa105, Sa105, Na105, Ha105, Ga105⟩ := V_b19
              have hin105 : ¬ ((5 : Int32) < 0 ∨ cl105.slots.size ≤ ((5 : Int32)).toNatClampNeg) := inb_of Sa105 ⟨by decide, hc201_103⟩
              obtain ⟨T105, h105, X105, e105, W105, st105⟩ := stC Xl24 hx hZ El24 Ar105 (j := (5 : Int32)) hin105 (g := (mkF m 211 #[.val (.int p0), .val (.long q1), .second, .val (.long q2), .second, .val (.int p3), .val (.int p4), .val (.int nn), .val (.ref b1), .val (.ref b19), .unset, .unset, .unset, .unset, .unset, .unset, .unset, .unset, .unset, .unset] [(.int x5), (.int (5 : Int32)), (.ref b19)])) rfl rfl (hb hby at_211)
              have V_b19 := Arv.set Ar105 qa105 Sa105 Na105 Ha105 Ga105 (fits_nar_char _) W105 ((5 : Int32)).toNatClampNeg rfl (own_ltm (by rw [hyJ.2]; exact own_clt (by decide) hc201_103))
              rw [own_set] at V_b19
              have OL := OL.wr W105 g_b19
              have CR := CR.trans (CHr.wr W105 sfw CR.1)
              have V_b1 := V_b1.other W105 ne_b1_b19
              have N105 := Fr.snoc X105 Nl24 g_b19
              have Kp := Kp.wr W105 (Or.inr sz_b19)
              have Zn := Nat.le_trans Zn (Nat.le_of_eq W105.size.symm)
              have hk := Nat.le_trans hk (Nat.le_of_eq W105.size.symm)
              refine Run.st (S' := T105.setTop (mkF m 212 #[.val (.int p0), .val (.long q1), .second, .val (.long q2), .second, .val (.int p3), .val (.int p4), .val (.int nn), .val (.ref b1), .val (.ref b19), .unset, .unset, .unset, .unset, .unset, .unset, .unset, .unset, .unset, .unset] [])) (fun _ k => st105 _ k) ?_
              exact JH25 (c5.set ((5 : Int32)).toNatClampNeg (nar .char x5)) _ _ ⟨_, _, _, X105, N105, e105, hS, hk, hZ, hown, CR⟩ Zn Kp OL V_b1 V_b19 ⟨own_preT hyJ.1 (own_nar16 hx5), by rw [List.length_set]; exact hyJ.2⟩
            · refine Run.st (S' := Tl24.setTop (mkF m 212 #[.val (.int p0), .val (.long q1), .second, .val (.long q2), .second, .val (.int p3), .val (.int p4), .val (.int nn), .val (.ref b1), .val (.ref b19), .unset, .unset, .unset, .unset, .unset, .unset, .unset, .unset, .unset, .unset] [])) (fun _ k => XS.icmpYes Xl24.here hx rfl (pc0 := 201) (pc' := 212) rfl (hb hby at_201) rfl (flt hc201_103).2.2.2 (by decide) (by decide) k) ?_
              exact JH25 c5 _ _ ⟨_, _, _, Xl24, Nl24, El24, hS, hk, hZ, hown, CR⟩ Zn Kp OL V_b1 V_b19 ⟨own_preS hyJ.1 (by rw [hyJ.2]; exact own_nle (i := 5) (by decide) hc201_103), hyJ.2⟩
          refine Run.st (S' := Tl23.setTop (mkF m 187 #[.val (.int p0), .val (.long q1), .second, .val (.long q2), .second, .val (.int p3), .val (.int p4), .val (.int nn), .val (.ref b1), .val (.ref b19), .unset, .unset, .unset, .unset, .unset, .unset, .unset, .unset, .unset, .unset] [(.int (4 : Int32)), (.int nn)])) (fun _ k => XS.iload Xl23.here hx rfl (hb hby at_184) rfl (XS.iconst Xl23.here hx rfl (hb hby at_186) k)) ?_
          by_cases hc187_106 : (4 : Int32) < nn
          · refine Run.st (S' := Tl23.setTop (mkF m 196 #[.val (.int p0), .val (.long q1), .second, .val (.long q2), .second, .val (.int p3), .val (.int p4), .val (.int nn), .val (.ref b1), .val (.ref b19), .unset, .unset, .unset, .unset, .unset, .unset, .unset, .unset, .unset, .unset] [(.int (4 : Int32)), (.ref b1), (.int (4 : Int32)), (.ref b19)])) (fun _ k => XS.icmpNo Xl23.here hx rfl (hb hby at_187) rfl (tlt hc187_106).2.2.2 (XS.aload Xl23.here hx rfl (hb hby at_190) rfl rfl (XS.iconst Xl23.here hx rfl (hb hby at_192) (XS.aload Xl23.here hx rfl (hb hby at_193) rfl rfl (XS.iconst Xl23.here hx rfl (hb hby at_195) k))))) ?_
            obtain ⟨cl107, Ar107, qa107, Sa107, Na107, Ha107, Ga107⟩ := id V_b1
            have hin107 : ¬ ((4 : Int32) < 0 ∨ cl107.slots.size ≤ ((4 : Int32)).toNatClampNeg) := inb_of Sa107 ⟨by decide, by decide⟩
            have hat107 : cl107.slots[((4 : Int32)).toNatClampNeg]? = some (.int x4) := Has.at Ha107 hin107 rfl
            refine Run.st (S' := Tl23.setTop (mkF m 197 #[.val (.int p0), .val (.long q1), .second, .val (.long q2), .second, .val (.int p3), .val (.int p4), .val (.int nn), .val (.ref b1), .val (.ref b19), .unset, .unset, .unset, .unset, .unset, .unset, .unset, .unset, .unset, .unset] [(.int x4), (.int (4 : Int32)), (.ref b19)])) (fun _ k => Xl23.caload hx (j := (4 : Int32)) (v := (.int x4)) (by rw [El23]; exact Ar107.1) (State.isArrayOf_alike hZ.alike Ar107.2.1) Ar107.2.2 hin107 hat107 (g := (mkF m 196 #[.val (.int p0), .val (.long q1), .second, .val (.long q2), .second, .val (.int p3), .val (.int p4), .val (.int nn), .val (.ref b1), .val (.ref b19), .unset, .unset, .unset, .unset, .unset, .unset, .unset, .unset, .unset, .unset] [(.int (4 : Int32)), (.ref b1), (.int (4 : Int32)), (.ref b19)])) rfl rfl (hb hby at_196) _ k) ?_
            have sfw := (own_safeA (EL := consts_1) hZ.alike V_b19 (by decide))
            obtain ⟨cl108, Ar108, qa108, Sa108, Na108, Ha108, Ga108⟩ := V_b19
            have hin108 : ¬ ((4 : Int32) < 0 ∨ cl108.slots.size ≤ ((4 : Int32)).toNatClampNeg) := inb_of Sa108 ⟨by decide, hc187_106⟩
            obtain ⟨T108, h108, X108, e108, W108, st108⟩ := stC Xl23 hx hZ El23 Ar108 (j := (4 : Int32)) hin108 (g := (mkF m 197 #[.val (.int p0), .val (.long q1), .second, .val (.long q2), .second, .val (.int p3), .val (.int p4), .val (.int nn), .val (.ref b1), .val (.ref b19), .unset, .unset, .unset, .unset, .unset, .unset, .unset, .unset, .unset, .unset] [(.int x4), (.int (4 : Int32)), (.ref b19)])) rfl rfl (hb hby at_197)
            have V_b19 := Arv.set Ar108 qa108 Sa108 Na108 Ha108 Ga108 (fits_nar_char _) W108 ((4 : Int32)).toNatClampNeg rfl (own_ltm (by rw [hyJ.2]; exact own_clt (by decide) hc187_106))
            rw [own_set] at V_b19
            have OL := OL.wr W108 g_b19
            have CR := CR.trans (CHr.wr W108 sfw CR.1)
            have V_b1 := V_b1.other W108 ne_b1_b19
            have N108 := Fr.snoc X108 Nl23 g_b19
            have Kp := Kp.wr W108 (Or.inr sz_b19)
            have Zn := Nat.le_trans Zn (Nat.le_of_eq W108.size.symm)
            have hk := Nat.le_trans hk (Nat.le_of_eq W108.size.symm)
            refine Run.st (S' := T108.setTop (mkF m 198 #[.val (.int p0), .val (.long q1), .second, .val (.long q2), .second, .val (.int p3), .val (.int p4), .val (.int nn), .val (.ref b1), .val (.ref b19), .unset, .unset, .unset, .unset, .unset, .unset, .unset, .unset, .unset, .unset] [])) (fun _ k => st108 _ k) ?_
            exact JH24 (c4.set ((4 : Int32)).toNatClampNeg (nar .char x4)) _ _ ⟨_, _, _, X108, N108, e108, hS, hk, hZ, hown, CR⟩ Zn Kp OL V_b1 V_b19 ⟨own_preT hyJ.1 (own_nar16 hx4), by rw [List.length_set]; exact hyJ.2⟩
          · refine Run.st (S' := Tl23.setTop (mkF m 198 #[.val (.int p0), .val (.long q1), .second, .val (.long q2), .second, .val (.int p3), .val (.int p4), .val (.int nn), .val (.ref b1), .val (.ref b19), .unset, .unset, .unset, .unset, .unset, .unset, .unset, .unset, .unset, .unset] [])) (fun _ k => XS.icmpYes Xl23.here hx rfl (pc0 := 187) (pc' := 198) rfl (hb hby at_187) rfl (flt hc187_106).2.2.2 (by decide) (by decide) k) ?_
            exact JH24 c4 _ _ ⟨_, _, _, Xl23, Nl23, El23, hS, hk, hZ, hown, CR⟩ Zn Kp OL V_b1 V_b19 ⟨own_preS hyJ.1 (by rw [hyJ.2]; exact own_nle (i := 4) (by decide) hc187_106), hyJ.2⟩
        refine Run.st (S' := Tl22.setTop (mkF m 173 #[.val (.int p0), .val (.long q1), .second, .val (.long q2), .second, .val (.int p3), .val (.int p4), .val (.int nn), .val (.ref b1), .val (.ref b19), .unset, .unset, .unset, .unset, .unset, .unset, .unset, .unset, .unset, .unset] [(.int (3 : Int32)), (.int nn)])) (fun _ k => XS.iload Xl22.here hx rfl (hb hby at_170) rfl (XS.iconst Xl22.here hx rfl (hb hby at_172) k)) ?_
        by_cases hc173_109 : (3 : Int32) < nn
        · refine Run.st (S' := Tl22.setTop (mkF m 182 #[.val (.int p0), .val (.long q1), .second, .val (.long q2), .second, .val (.int p3), .val (.int p4), .val (.int nn), .val (.ref b1), .val (.ref b19), .unset, .unset, .unset, .unset, .unset, .unset, .unset, .unset, .unset, .unset] [(.int (3 : Int32)), (.ref b1), (.int (3 : Int32)), (.ref b19)])) (fun _ k => XS.icmpNo Xl22.here hx rfl (hb hby at_173) rfl (tlt hc173_109).2.2.2 (XS.aload Xl22.here hx rfl (hb hby at_176) rfl rfl (XS.iconst Xl22.here hx rfl (hb hby at_178) (XS.aload Xl22.here hx rfl (hb hby at_179) rfl rfl (XS.iconst Xl22.here hx rfl (hb hby at_181) k))))) ?_
          obtain ⟨cl110, Ar110, qa110, Sa110, Na110, Ha110, Ga110⟩ := id V_b1
          have hin110 : ¬ ((3 : Int32) < 0 ∨ cl110.slots.size ≤ ((3 : Int32)).toNatClampNeg) := inb_of Sa110 ⟨by decide, by decide⟩
          have hat110 : cl110.slots[((3 : Int32)).toNatClampNeg]? = some (.int x3) := Has.at Ha110 hin110 rfl
          refine Run.st (S' := Tl22.setTop (mkF m 183 #[.val (.int p0), .val (.long q1), .second, .val (.long q2), .second, .val (.int p3), .val (.int p4), .val (.int nn), .val (.ref b1), .val (.ref b19), .unset, .unset, .unset, .unset, .unset, .unset, .unset, .unset, .unset, .unset] [(.int x3), (.int (3 : Int32)), (.ref b19)])) (fun _ k => Xl22.caload hx (j := (3 : Int32)) (v := (.int x3)) (by rw [El22]; exact Ar110.1) (State.isArrayOf_alike hZ.alike Ar110.2.1) Ar110.2.2 hin110 hat110 (g := (mkF m 182 #[.val (.int p0), .val (.long q1), .second, .val (.long q2), .second, .val (.int p3), .val (.int p4), .val (.int nn), .val (.ref b1), .val (.ref b19), .unset, .unset, .unset, .unset, .unset, .unset, .unset, .unset, .unset, .unset] [(.int (3 : Int32)), (.ref b1), (.int (3 : Int32)), (.ref b19)])) rfl rfl (hb hby at_182) _ k) ?_
          have sfw := (own_safeA (EL := consts_1) hZ.alike V_b19 (by decide))
          obtain ⟨cl111, Ar111, qa111, Sa111, Na111, Ha111, Ga111⟩ := V_b19
          have hin111 : ¬ ((3 : Int32) < 0 ∨ cl111.slots.size ≤ ((3 : Int32)).toNatClampNeg) := inb_of Sa111 ⟨by decide, hc173_109⟩
          obtain ⟨T111, h111, X111, e111, W111, st111⟩ := stC Xl22 hx hZ El22 Ar111 (j := (3 : Int32)) hin111 (g := (mkF m 183 #[.val (.int p0), .val (.long q1), .second, .val (.long q2), .second, .val (.int p3), .val (.int p4), .val (.int nn), .val (.ref b1), .val (.ref b19), .unset, .unset, .unset, .unset, .unset, .unset, .unset, .unset, .unset, .unset] [(.int x3), (.int (3 : Int32)), (.ref b19)])) rfl rfl (hb hby at_183)
          have V_b19 := Arv.set Ar111 qa111 Sa111 Na111 Ha111 Ga111 (fits_nar_char _) W111 ((3 : Int32)).toNatClampNeg rfl (own_ltm (by rw [hyJ.2]; exact own_clt (by decide) hc173_109))
          rw [own_set] at V_b19
          have OL := OL.wr W111 g_b19
          have CR := CR.trans (CHr.wr W111 sfw CR.1)
          have V_b1 := V_b1.other W111 ne_b1_b19
          have N111 := Fr.snoc X111 Nl22 g_b19
          have Kp := Kp.wr W111 (Or.inr sz_b19)
          have Zn := Nat.le_trans Zn (Nat.le_of_eq W111.size.symm)
          have hk := Nat.le_trans hk (Nat.le_of_eq W111.size.symm)
          refine Run.st (S' := T111.setTop (mkF m 184 #[.val (.int p0), .val (.long q1), .second, .val (.long q2), .second, .val (.int p3), .val (.int p4), .val (.int nn), .val (.ref b1), .val (.ref b19), .unset, .unset, .unset, .unset, .unset, .unset, .unset, .unset, .unset, .unset] [])) (fun _ k => st111 _ k) ?_
          exact JH23 (c3.set ((3 : Int32)).toNatClampNeg (nar .char x3)) _ _ ⟨_, _, _, X111, N111, e111, hS, hk, hZ, hown, CR⟩ Zn Kp OL V_b1 V_b19 ⟨own_preT hyJ.1 (own_nar16 hx3), by rw [List.length_set]; exact hyJ.2⟩
        · refine Run.st (S' := Tl22.setTop (mkF m 184 #[.val (.int p0), .val (.long q1), .second, .val (.long q2), .second, .val (.int p3), .val (.int p4), .val (.int nn), .val (.ref b1), .val (.ref b19), .unset, .unset, .unset, .unset, .unset, .unset, .unset, .unset, .unset, .unset] [])) (fun _ k => XS.icmpYes Xl22.here hx rfl (pc0 := 173) (pc' := 184) rfl (hb hby at_173) rfl (flt hc173_109).2.2.2 (by decide) (by decide) k) ?_
          exact JH23 c3 _ _ ⟨_, _, _, Xl22, Nl22, El22, hS, hk, hZ, hown, CR⟩ Zn Kp OL V_b1 V_b19 ⟨own_preS hyJ.1 (by rw [hyJ.2]; exact own_nle (i := 3) (by decide) hc173_109), hyJ.2⟩
      refine Run.st (S' := Tl21.setTop (mkF m 159 #[.val (.int p0), .val (.long q1), .second, .val (.long q2), .second, .val (.int p3), .val (.int p4), .val (.int nn), .val (.ref b1), .val (.ref b19), .unset, .unset, .unset, .unset, .unset, .unset, .unset, .unset, .unset, .unset] [(.int (2 : Int32)), (.int nn)])) (fun _ k => XS.iload Xl21.here hx rfl (hb hby at_156) rfl (XS.iconst Xl21.here hx rfl (hb hby at_158) k)) ?_
      by_cases hc159_112 : (2 : Int32) < nn
      · refine Run.st (S' := Tl21.setTop (mkF m 168 #[.val (.int p0), .val (.long q1), .second, .val (.long q2), .second, .val (.int p3), .val (.int p4), .val (.int nn), .val (.ref b1), .val (.ref b19), .unset, .unset, .unset, .unset, .unset, .unset, .unset, .unset, .unset, .unset] [(.int (2 : Int32)), (.ref b1), (.int (2 : Int32)), (.ref b19)])) (fun _ k => XS.icmpNo Xl21.here hx rfl (hb hby at_159) rfl (tlt hc159_112).2.2.2 (XS.aload Xl21.here hx rfl (hb hby at_162) rfl rfl (XS.iconst Xl21.here hx rfl (hb hby at_164) (XS.aload Xl21.here hx rfl (hb hby at_165) rfl rfl (XS.iconst Xl21.here hx rfl (hb hby at_167) k))))) ?_
        obtain ⟨cl113, Ar113, qa113, Sa113, Na113, Ha113, Ga113⟩ := id V_b1
        have hin113 : ¬ ((2 : Int32) < 0 ∨ cl113.slots.size ≤ ((2 : Int32)).toNatClampNeg) := inb_of Sa113 ⟨by decide, by decide⟩
        have hat113 : cl113.slots[((2 : Int32)).toNatClampNeg]? = some (.int x2) := Has.at Ha113 hin113 rfl
        refine Run.st (S' := Tl21.setTop (mkF m 169 #[.val (.int p0), .val (.long q1), .second, .val (.long q2), .second, .val (.int p3), .val (.int p4), .val (.int nn), .val (.ref b1), .val (.ref b19), .unset, .unset, .unset, .unset, .unset, .unset, .unset, .unset, .unset, .unset] [(.int x2), (.int (2 : Int32)), (.ref b19)])) (fun _ k => Xl21.caload hx (j := (2 : Int32)) (v := (.int x2)) (by rw [El21]; exact Ar113.1) (State.isArrayOf_alike hZ.alike Ar113.2.1) Ar113.2.2 hin113 hat113 (g := (mkF m 168 #[.val (.int p0), .val (.long q1), .second, .val (.long q2), .second, .val (.int p3), .val (.int p4), .val (.int nn), .val (.ref b1), .val (.ref b19), .unset, .unset, .unset, .unset, .unset, .unset, .unset, .unset, .unset, .unset] [(.int (2 : Int32)), (.ref b1), (.int (2 : Int32)), (.ref b19)])) rfl rfl (hb hby at_168) _ k) ?_
        have sfw := (own_safeA (EL := consts_1) hZ.alike V_b19 (by decide))
        obtain ⟨cl114, Ar114, qa114, Sa114, Na114, Ha114, Ga114⟩ := V_b19
        have hin114 : ¬ ((2 : Int32) < 0 ∨ cl114.slots.size ≤ ((2 : Int32)).toNatClampNeg) := inb_of Sa114 ⟨by decide, hc159_112⟩
        obtain ⟨T114, h114, X114, e114, W114, st114⟩ := stC Xl21 hx hZ El21 Ar114 (j := (2 : Int32)) hin114 (g := (mkF m 169 #[.val (.int p0), .val (.long q1), .second, .val (.long q2), .second, .val (.int p3), .val (.int p4), .val (.int nn), .val (.ref b1), .val (.ref b19), .unset, .unset, .unset, .unset, .unset, .unset, .unset, .unset, .unset, .unset] [(.int x2), (.int (2 : Int32)), (.ref b19)])) rfl rfl (hb hby at_169)
        have V_b19 := Arv.set Ar114 qa114 Sa114 Na114 Ha114 Ga114 (fits_nar_char _) W114 ((2 : Int32)).toNatClampNeg rfl (own_ltm (by rw [hyJ.2]; exact own_clt (by decide) hc159_112))
        rw [own_set] at V_b19
        have OL := OL.wr W114 g_b19
        have CR := CR.trans (CHr.wr W114 sfw CR.1)
        have V_b1 := V_b1.other W114 ne_b1_b19
        have N114 := Fr.snoc X114 Nl21 g_b19
        have Kp := Kp.wr W114 (Or.inr sz_b19)
        have Zn := Nat.le_trans Zn (Nat.le_of_eq W114.size.symm)
        have hk := Nat.le_trans hk (Nat.le_of_eq W114.size.symm)
        refine Run.st (S' := T114.setTop (mkF m 170 #[.val (.int p0), .val (.long q1), .second, .val (.long q2), .second, .val (.int p3), .val (.int p4), .val (.int nn), .val (.ref b1), .val (.ref b19), .unset, .unset, .unset, .unset, .unset, .unset, .unset, .unset, .unset, .unset] [])) (fun _ k => st114 _ k) ?_
        exact JH22 (c2.set ((2 : Int32)).toNatClampNeg (nar .char x2)) _ _ ⟨_, _, _, X114, N114, e114, hS, hk, hZ, hown, CR⟩ Zn Kp OL V_b1 V_b19 ⟨own_preT hyJ.1 (own_nar16 hx2), by rw [List.length_set]; exact hyJ.2⟩
      · refine Run.st (S' := Tl21.setTop (mkF m 170 #[.val (.int p0), .val (.long q1), .second, .val (.long q2), .second, .val (.int p3), .val (.int p4), .val (.int nn), .val (.ref b1), .val (.ref b19), .unset, .unset, .unset, .unset, .unset, .unset, .unset, .unset, .unset, .unset] [])) (fun _ k => XS.icmpYes Xl21.here hx rfl (pc0 := 159) (pc' := 170) rfl (hb hby at_159) rfl (flt hc159_112).2.2.2 (by decide) (by decide) k) ?_
        exact JH22 c2 _ _ ⟨_, _, _, Xl21, Nl21, El21, hS, hk, hZ, hown, CR⟩ Zn Kp OL V_b1 V_b19 ⟨own_preS hyJ.1 (by rw [hyJ.2]; exact own_nle (i := 2) (by decide) hc159_112), hyJ.2⟩
    refine Run.st (S' := Tl20.setTop (mkF m 145 #[.val (.int p0), .val (.long q1), .second, .val (.long q2), .second, .val (.int p3), .val (.int p4), .val (.int nn), .val (.ref b1), .val (.ref b19), .unset, .unset, .unset, .unset, .unset, .unset, .unset, .unset, .unset, .unset] [(.int (1 : Int32)), (.int nn)])) (fun _ k => XS.iload Xl20.here hx rfl (hb hby at_142) rfl (XS.iconst Xl20.here hx rfl (hb hby at_144) k)) ?_
    by_cases hc145_115 : (1 : Int32) < nn
    · refine Run.st (S' := Tl20.setTop (mkF m 154 #[.val (.int p0), .val (.long q1), .second, .val (.long q2), .second, .val (.int p3), .val (.int p4), .val (.int nn), .val (.ref b1), .val (.ref b19), .unset, .unset, .unset, .unset, .unset, .unset, .unset, .unset, .unset, .unset] [(.int (1 : Int32)), (.ref b1), (.int (1 : Int32)), (.ref b19)])) (fun _ k => XS.icmpNo Xl20.here hx rfl (hb hby at_145) rfl (tlt hc145_115).2.2.2 (XS.aload Xl20.here hx rfl (hb hby at_148) rfl rfl (XS.iconst Xl20.here hx rfl (hb hby at_150) (XS.aload Xl20.here hx rfl (hb hby at_151) rfl rfl (XS.iconst Xl20.here hx rfl (hb hby at_153) k))))) ?_
      obtain ⟨cl116, Ar116, qa116, Sa116, Na116, Ha116, Ga116⟩ := id V_b1
      have hin116 : ¬ ((1 : Int32) < 0 ∨ cl116.slots.size ≤ ((1 : Int32)).toNatClampNeg) := inb_of Sa116 ⟨by decide, by decide⟩
      have hat116 : cl116.slots[((1 : Int32)).toNatClampNeg]? = some (.int x1) := Has.at Ha116 hin116 rfl
      refine Run.st (S' := Tl20.setTop (mkF m 155 #[.val (.int p0), .val (.long q1), .second, .val (.long q2), .second, .val (.int p3), .val (.int p4), .val (.int nn), .val (.ref b1), .val (.ref b19), .unset, .unset, .unset, .unset, .unset, .unset, .unset, .unset, .unset, .unset] [(.int x1), (.int (1 : Int32)), (.ref b19)])) (fun _ k => Xl20.caload hx (j := (1 : Int32)) (v := (.int x1)) (by rw [El20]; exact Ar116.1) (State.isArrayOf_alike hZ.alike Ar116.2.1) Ar116.2.2 hin116 hat116 (g := (mkF m 154 #[.val (.int p0), .val (.long q1), .second, .val (.long q2), .second, .val (.int p3), .val (.int p4), .val (.int nn), .val (.ref b1), .val (.ref b19), .unset, .unset, .unset, .unset, .unset, .unset, .unset, .unset, .unset, .unset] [(.int (1 : Int32)), (.ref b1), (.int (1 : Int32)), (.ref b19)])) rfl rfl (hb hby at_154) _ k) ?_
      have sfw := (own_safeA (EL := consts_1) hZ.alike V_b19 (by decide))
      obtain ⟨cl117, Ar117, qa117, Sa117, Na117, Ha117, Ga117⟩ := V_b19
      have hin117 : ¬ ((1 : Int32) < 0 ∨ cl117.slots.size ≤ ((1 : Int32)).toNatClampNeg) := inb_of Sa117 ⟨by decide, hc145_115⟩
      obtain ⟨T117, h117, X117, e117, W117, st117⟩ := stC Xl20 hx hZ El20 Ar117 (j := (1 : Int32)) hin117 (g := (mkF m 155 #[.val (.int p0), .val (.long q1), .second, .val (.long q2), .second, .val (.int p3), .val (.int p4), .val (.int nn), .val (.ref b1), .val (.ref b19), .unset, .unset, .unset, .unset, .unset, .unset, .unset, .unset, .unset, .unset] [(.int x1), (.int (1 : Int32)), (.ref b19)])) rfl rfl (hb hby at_155)
      have V_b19 := Arv.set Ar117 qa117 Sa117 Na117 Ha117 Ga117 (fits_nar_char _) W117 ((1 : Int32)).toNatClampNeg rfl (own_ltm (by rw [hyJ.2]; exact own_clt (by decide) hc145_115))
      rw [own_set] at V_b19
      have OL := OL.wr W117 g_b19
      have CR := CR.trans (CHr.wr W117 sfw CR.1)
      have V_b1 := V_b1.other W117 ne_b1_b19
      have N117 := Fr.snoc X117 Nl20 g_b19
      have Kp := Kp.wr W117 (Or.inr sz_b19)
      have Zn := Nat.le_trans Zn (Nat.le_of_eq W117.size.symm)
      have hk := Nat.le_trans hk (Nat.le_of_eq W117.size.symm)
      refine Run.st (S' := T117.setTop (mkF m 156 #[.val (.int p0), .val (.long q1), .second, .val (.long q2), .second, .val (.int p3), .val (.int p4), .val (.int nn), .val (.ref b1), .val (.ref b19), .unset, .unset, .unset, .unset, .unset, .unset, .unset, .unset, .unset, .unset] [])) (fun _ k => st117 _ k) ?_
      exact JH21 (c1.set ((1 : Int32)).toNatClampNeg (nar .char x1)) _ _ ⟨_, _, _, X117, N117, e117, hS, hk, hZ, hown, CR⟩ Zn Kp OL V_b1 V_b19 ⟨own_preT hyJ.1 (own_nar16 hx1), by rw [List.length_set]; exact hyJ.2⟩
    · refine Run.st (S' := Tl20.setTop (mkF m 156 #[.val (.int p0), .val (.long q1), .second, .val (.long q2), .second, .val (.int p3), .val (.int p4), .val (.int nn), .val (.ref b1), .val (.ref b19), .unset, .unset, .unset, .unset, .unset, .unset, .unset, .unset, .unset, .unset] [])) (fun _ k => XS.icmpYes Xl20.here hx rfl (pc0 := 145) (pc' := 156) rfl (hb hby at_145) rfl (flt hc145_115).2.2.2 (by decide) (by decide) k) ?_
      exact JH21 c1 _ _ ⟨_, _, _, Xl20, Nl20, El20, hS, hk, hZ, hown, CR⟩ Zn Kp OL V_b1 V_b19 ⟨own_preS hyJ.1 (by rw [hyJ.2]; exact own_nle (i := 1) (by decide) hc145_115), hyJ.2⟩
  refine Run.st (S' := T19.setTop (mkF m 131 #[.val (.int p0), .val (.long q1), .second, .val (.long q2), .second, .val (.int p3), .val (.int p4), .val (.int nn), .val (.ref b1), .val (.ref b19), .unset, .unset, .unset, .unset, .unset, .unset, .unset, .unset, .unset, .unset] [(.int nn)])) (fun _ k => XS.iload X19.here hx rfl (hb hby at_129) rfl k) ?_
  by_cases hc131_118 : (0 : Int32) < nn
  · refine Run.st (S' := T19.setTop (mkF m 140 #[.val (.int p0), .val (.long q1), .second, .val (.long q2), .second, .val (.int p3), .val (.int p4), .val (.int nn), .val (.ref b1), .val (.ref b19), .unset, .unset, .unset, .unset, .unset, .unset, .unset, .unset, .unset, .unset] [(.int (0 : Int32)), (.ref b1), (.int (0 : Int32)), (.ref b19)])) (fun _ k => XS.ifNo X19.here hx rfl (hb hby at_131) rfl ((if0 _ _).trans (tlt hc131_118).2.2.2) (XS.aload X19.here hx rfl (hb hby at_134) rfl rfl (XS.iconst X19.here hx rfl (hb hby at_136) (XS.aload X19.here hx rfl (hb hby at_137) rfl rfl (XS.iconst X19.here hx rfl (hb hby at_139) k))))) ?_
    obtain ⟨cl119, Ar119, qa119, Sa119, Na119, Ha119, Ga119⟩ := id V_b1
    have hin119 : ¬ ((0 : Int32) < 0 ∨ cl119.slots.size ≤ ((0 : Int32)).toNatClampNeg) := inb_of Sa119 ⟨by decide, by decide⟩
    have hat119 : cl119.slots[((0 : Int32)).toNatClampNeg]? = some (.int x0) := Has.at Ha119 hin119 rfl
    refine Run.st (S' := T19.setTop (mkF m 141 #[.val (.int p0), .val (.long q1), .second, .val (.long q2), .second, .val (.int p3), .val (.int p4), .val (.int nn), .val (.ref b1), .val (.ref b19), .unset, .unset, .unset, .unset, .unset, .unset, .unset, .unset, .unset, .unset] [(.int x0), (.int (0 : Int32)), (.ref b19)])) (fun _ k => X19.caload hx (j := (0 : Int32)) (v := (.int x0)) (by rw [e19]; exact Ar119.1) (State.isArrayOf_alike hZ.alike Ar119.2.1) Ar119.2.2 hin119 hat119 (g := (mkF m 140 #[.val (.int p0), .val (.long q1), .second, .val (.long q2), .second, .val (.int p3), .val (.int p4), .val (.int nn), .val (.ref b1), .val (.ref b19), .unset, .unset, .unset, .unset, .unset, .unset, .unset, .unset, .unset, .unset] [(.int (0 : Int32)), (.ref b1), (.int (0 : Int32)), (.ref b19)])) rfl rfl (hb hby at_140) _ k) ?_
    have sfw := (own_safeA (EL := consts_1) hZ.alike V_b19 (by decide))
    obtain ⟨cl120, Ar120, qa120, Sa120, Na120, Ha120, Ga120⟩ := V_b19
    have hin120 : ¬ ((0 : Int32) < 0 ∨ cl120.slots.size ≤ ((0 : Int32)).toNatClampNeg) := inb_of Sa120 ⟨by decide, hc131_118⟩
    obtain ⟨T120, h120, X120, e120, W120, st120⟩ := stC X19 hx hZ e19 Ar120 (j := (0 : Int32)) hin120 (g := (mkF m 141 #[.val (.int p0), .val (.long q1), .second, .val (.long q2), .second, .val (.int p3), .val (.int p4), .val (.int nn), .val (.ref b1), .val (.ref b19), .unset, .unset, .unset, .unset, .unset, .unset, .unset, .unset, .unset, .unset] [(.int x0), (.int (0 : Int32)), (.ref b19)])) rfl rfl (hb hby at_141)
    have V_b19 := Arv.set Ar120 qa120 Sa120 Na120 Ha120 Ga120 (fits_nar_char _) W120 ((0 : Int32)).toNatClampNeg rfl (own_ltm (by rw [hyJ.2]; exact own_clt (by decide) hc131_118))
    rw [own_set] at V_b19
    have OL := OL.wr W120 g_b19
    have CR := CR.trans (CHr.wr W120 sfw CR.1)
    have V_b1 := V_b1.other W120 ne_b1_b19
    have N120 := Fr.snoc X120 N18 g_b19
    have Kp := Kp.wr W120 (Or.inr sz_b19)
    have Zn := Nat.le_trans Zn (Nat.le_of_eq W120.size.symm)
    have hk := Nat.le_trans hk (Nat.le_of_eq W120.size.symm)
    refine Run.st (S' := T120.setTop (mkF m 142 #[.val (.int p0), .val (.long q1), .second, .val (.long q2), .second, .val (.int p3), .val (.int p4), .val (.int nn), .val (.ref b1), .val (.ref b19), .unset, .unset, .unset, .unset, .unset, .unset, .unset, .unset, .unset, .unset] [])) (fun _ k => st120 _ k) ?_
    exact JH20 ((List.replicate nn.toNatClampNeg (0 : Int32)).set ((0 : Int32)).toNatClampNeg (nar .char x0)) _ _ ⟨_, _, _, X120, N120, e120, hS, hk, hZ, hown, CR⟩ Zn Kp OL V_b1 V_b19 ⟨own_preT hyJ.1 (own_nar16 hx0), by rw [List.length_set]; exact hyJ.2⟩
  · refine Run.st (S' := T19.setTop (mkF m 142 #[.val (.int p0), .val (.long q1), .second, .val (.long q2), .second, .val (.int p3), .val (.int p4), .val (.int nn), .val (.ref b1), .val (.ref b19), .unset, .unset, .unset, .unset, .unset, .unset, .unset, .unset, .unset, .unset] [])) (fun _ k => XS.ifYes X19.here hx rfl (pc0 := 131) (pc' := 142) rfl (hb hby at_131) rfl ((if0 _ _).trans (flt hc131_118).2.2.2) (by decide) (by decide) k) ?_
    exact JH20 (List.replicate nn.toNatClampNeg (0 : Int32)) _ _ ⟨_, _, _, X19, N18, e19, hS, hk, hZ, hown, CR⟩ Zn Kp OL V_b1 V_b19 ⟨own_preS hyJ.1 (by rw [hyJ.2]; exact own_nle (i := 0) (by decide) hc131_118), hyJ.2⟩
set_option maxRecDepth 65536 in
set_option maxHeartbeats 40000000 in
theorem comes_1 {Post : Tables → Env → Array Value → State → Outcome → State → Prop} (hpost : ∀ tb e args s v u, (limb_1_1.after args s (.returned v) u = true ∧ limb_1_2.after args s (.returned v) u = true ∧ True) → ReturnedEndW s (.returned v) u (Jvm.fieldLocs frame_1_writes args s ++ Jvm.arrayLocs frame_1_arrays args s ++ Jvm.staticLocs frame_1_statics s) 24 1216 → Post tb e args s (.returned v) u) :
    ArmFor flags0 classFile x code maxLocals ret World_1 tables_1 room_1 Calls_1 rest_1 Pre_1 Post := by
  intro l hfl _ _ p e ha hc hk s m args below hf hA hF happ hP
  obtain ⟨hcalls, hrest, hpre⟩ := hP
  obtain ⟨-, -, -, hnamed, -, -, -, hat⟩ := (Spec.applies_iff hf).mp happ
  obtain ⟨hg, hn⟩ := and_e (Cond.before_iff.mp (show (Jvm.Cond.and given_1 narrow_1).before args s = true from hpre))
  obtain ⟨gv1, gv2⟩ := and_e hg
  obtain ⟨gv3, gv4⟩ := and_e gv2
  obtain ⟨gv5, gv6⟩ := and_e gv4
  obtain ⟨gv7, gv8⟩ := and_e gv6
  obtain ⟨gv9, gv10⟩ := and_e gv8
  obtain ⟨w0, w1, w2, w3, w4, rfl⟩ : ∃ w0 w1 w2 w3 w4 : Value, args = #[w0, w1, w2, w3, w4] := by
    have hs : args.size = 5 := by simpa [Cond.value, given_1] using gv1
    obtain ⟨L⟩ := args
    match L, hs with
    | [w0, w1, w2, w3, w4], _ => exact ⟨w0, w1, w2, w3, w4, rfl⟩
  have hw := fun d (hd : d ∈ tables_1) => atoms_spec (ws := Jvm.Cond.code x code maxLocals ret :: tables_1) hat d (List.mem_cons_of_mem _ hd)
  have hfit : Fit s := fun {y c} hc i hi => by
    obtain ⟨ha, rfl⟩ := Array.getElem?_eq_some_iff.mp hc
    have q := List.all_eq_true.mp ((Array.all_eq_true_iff_forall_mem.mp hF) _ (Array.getElem_mem ha)) i (List.mem_range.mpr hi)
    simpa [Array.getElem?_eq_getElem hi] using q
  obtain ⟨hsets, hown0⟩ := atoms_of _ (rest_1_c_eq ▸ (show rest_1_c.before _ s = true from hrest))
  have hr0 := Cond.before_iff.mp hown0
  obtain ⟨i0, ei0⟩ := is_v gv3
  obtain rfl : w0 = (.int i0) := Option.some.inj ei0
  obtain ⟨i1, ei1⟩ := isL_v gv5
  obtain rfl : w1 = (.long i1) := Option.some.inj ei1
  obtain ⟨i2, ei2⟩ := isL_v gv7
  obtain rfl : w2 = (.long i2) := Option.some.inj ei2
  obtain ⟨i3, ei3⟩ := is_v gv9
  obtain rfl : w3 = (.int i3) := Option.some.inj ei3
  obtain ⟨i4, ei4⟩ := is_v gv10
  obtain rfl : w4 = (.int i4) := Option.some.inj ei4
  obtain ⟨s_String_COMPACT_STRINGS, ev_s_String_COMPACT_STRINGS⟩ := is_v (Cond.before_iff.mp (hsets _ (List.mem_of_getElem? (i := 1) rfl)))
  have S_s_String_COMPACT_STRINGS : Sta s s.heap "java/lang/String" "COMPACT_STRINGS" "Z" (.int s_String_COMPACT_STRINGS) := Sta.start ev_s_String_COMPACT_STRINGS (Or.inl (hsets _ (List.mem_of_getElem? (i := 0) rfl)))
  obtain ⟨s_Preconditions_SIOOBE_FORMATTER, ev_s_Preconditions_SIOOBE_FORMATTER, r_s_Preconditions_SIOOBE_FORMATTER⟩ := isR_v (Cond.before_iff.mp (hsets _ (List.mem_of_getElem? (i := 8) rfl)))
  have S_s_Preconditions_SIOOBE_FORMATTER : Sta s s.heap "jdk/internal/util/Preconditions" "SIOOBE_FORMATTER" "Ljava/util/function/BiFunction;" s_Preconditions_SIOOBE_FORMATTER := Sta.start ev_s_Preconditions_SIOOBE_FORMATTER (Or.inl (hsets _ (List.mem_of_getElem? (i := 7) rfl)))
  have ev_s_StringUTF16__assertionsDisabled := own_si (Cond.before_iff.mp (hsets _ (List.mem_of_getElem? (i := 12) rfl)))
  have S_s_StringUTF16__assertionsDisabled : Sta s s.heap "java/lang/StringUTF16" "$assertionsDisabled" "Z" (.int (1 : Int32)) := Sta.start ev_s_StringUTF16__assertionsDisabled (Or.inl (hsets _ (List.mem_of_getElem? (i := 11) rfl)))
  have ev_s_StringUTF16_HI_BYTE_SHIFT := own_si (Cond.before_iff.mp (hsets _ (List.mem_of_getElem? (i := 15) rfl)))
  have S_s_StringUTF16_HI_BYTE_SHIFT : Sta s s.heap "java/lang/StringUTF16" "HI_BYTE_SHIFT" "I" (.int (0 : Int32)) := Sta.start ev_s_StringUTF16_HI_BYTE_SHIFT (Or.inl (hsets _ (List.mem_of_getElem? (i := 14) rfl)))
  have ev_s_StringUTF16_LO_BYTE_SHIFT := own_si (Cond.before_iff.mp (hsets _ (List.mem_of_getElem? (i := 18) rfl)))
  have S_s_StringUTF16_LO_BYTE_SHIFT : Sta s s.heap "java/lang/StringUTF16" "LO_BYTE_SHIFT" "I" (.int (8 : Int32)) := Sta.start ev_s_StringUTF16_LO_BYTE_SHIFT (Or.inl (hsets _ (List.mem_of_getElem? (i := 17) rfl)))
  have hzc : ¬ (s_String_COMPACT_STRINGS = (0 : Int32)) := gotF (Cond.eq_ints ev_s_String_COMPACT_STRINGS (Term.int_eval (0))) (not_v (Cond.before_iff.mp (hsets _ (List.mem_of_getElem? (i := 2) rfl))))
  have hcw : Jvm.Lit.compactW.before _ s = true := (hsets _ (List.mem_of_getElem? (i := 2) rfl))
  obtain ⟨n, o, h1, h2, h3, _, L, rfl, ⟨rfl, N⟩, -, hq⟩ := rm0 l s _ hw tables_1 i0 i1 i2 i3 i4 s_String_COMPACT_STRINGS s_Preconditions_SIOOBE_FORMATTER s.heap s.heap.size (Nat.le_refl _) (Old.start s) hzc r_s_Preconditions_SIOOBE_FORMATTER S_s_String_COMPACT_STRINGS S_s_Preconditions_SIOOBE_FORMATTER S_s_StringUTF16__assertionsDisabled S_s_StringUTF16_HI_BYTE_SHIFT S_s_StringUTF16_LO_BYTE_SHIFT p e ha hc hk s m _ below hf ((Spec.applies_iff_loose hf).mp happ).1 ⟨rfl, State.Warmed39.refl s, rfl, CHv.start (own_EW hw) (fun q hq => hcalls.1 q hq) hcw ((own_wS hw) _ (by simp [Bundle.stringAtoms])) ((own_wS hw) _ (by simp [Bundle.stringAtoms, Bundle.sN]))⟩ trivial
  refine ⟨n, _, h1, h2, h3, hpost _ _ _ _ _ _ ⟨Cond.after_iff.mpr rfl, Cond.after_iff.mpr (eq_i res_at (Term.int_eval (1)) rfl), trivial⟩ ⟨hq.1, hq.2.1, hq.2.2.1, (hq.2.2.2.sift fun y hy => Or.inr (N y hy)).mono (by decide) (by decide)⟩⟩
theorem main_1_1 : Claimed_1_1 := comes_1 fun _ _ _ _ _ _ h hF => ⟨h.1, hF⟩
theorem main_1_2 : Claimed_1_2 := comes_1 fun _ _ _ _ _ _ h hF => ⟨h.2.1, hF⟩
end Jvm.Pilot.@@N@@
namespace Jvm.Pilot.@@N@@
open Jvm Jvm.ClassFile Sem Op Lib Jvm.Free Jvm.Stand Jvm.Pilot.@@N@@.Jvm.D
/-! MADE BY PROGRAM (witnessworld.py) out of the Statement's table words and the real class files: 20 classes; the members and pool entries that the words name. The judged class is class 1, her method 1. -/
namespace start1
open Jvm.ClassFile
def u (s : String) : CpInfo := .utf8 (stringToUtf16 s)
/-- a pool by its gaps: so many unusable entries, then the entry; so many at the end -/
def gap : Nat → List CpInfo → List CpInfo
  | 0, r => r
  | n + 1, r => .unusable :: gap n r
def poolList (es : List (Nat × CpInfo)) (last : Nat) : List CpInfo := es.foldr (fun e r => gap e.1 (e.2 :: r)) (gap last [])
def pool (es : List (Nat × CpInfo)) (last : Nat) : Array CpInfo := ⟨poolList es last⟩
def fileOf (pool : Array CpInfo) (this : Nat) (attrs : Array Attribute := #[]) (ms : Array MethodInfo := #[]) (fl : Nat := 33) (sup : Nat := 0) (ifs : Array Nat := #[]) (fds : Array FieldInfo := #[]) : ClassFile where
  minorVersion := 0
  majorVersion := 65
  constantPool := pool
  accessFlags := fl
  thisClass := this
  superClass := sup
  interfaces := ifs
  fields := fds
  methods := ms
  attributes := attrs
def plain (name : String) (sup : Option ClassId) : Class where
  name := name
  kind := .ordinary
  loader := none
  accessFlags := 33
  super := sup
  interfaces := #[]
  cf := none
  fields := #[]
  methods := #[]
  instanceTypes := #[]
  staticTypes := #[]
  resolved := #[]
  callSites := []
  init := .initialized
  statics := none
  mirror := none

def pool0 : Array CpInfo := pool [(5, u "<init>"), (0, u "()V"), (1, .class_ 10), (1, u "java/lang/Object")] 113

def k0c0 : Code := { maxStack := 0, maxLocals := 1, code := object_method_1_code, exceptionTable := #[], attributes := #[] }
def k0m0 : Method := { name := "<init>", desc := "()V", sig := { parameters := [], returnType := none }, accessFlags := 1, code := some k0c0 }
/-- java/lang/Object -/
def k0 : Class := { plain "java/lang/Object" none with
  accessFlags := 33
  interfaces := #[]
  cf := some (fileOf pool0 8 #[] #[{ accessFlags := 1, nameIndex := 5, descriptorIndex := 6, attributes := #[] }] 33 0 #[] #[])
  fields := #[]
  methods := #[k0m0]
  instanceTypes := #[]
  staticTypes := #[]
  resolved := Array.replicate 124 none
  statics := none }

def pool1 : Array CpInfo := pool [(2, .class_ 4), (1, u "java/lang/Object"), (0, u "<init>"), (0, u "()V"), (0, .methodref 8 9), (0, .class_ 10), (0, .nameAndType 11 12), (0, u "org/succession/NamesKeyPinLaw"), (0, u "ch"), (0, u "(JJII)C"), (0, .class_ 14), (0, u "java/lang/String"), (0, .methodref 13 16), (0, .nameAndType 5 17), (0, u "([C)V"), (0, .methodref 19 20), (0, .class_ 21), (0, .nameAndType 22 23), (0, u "org/succession/Names"), (0, u "key"), (0, u "(Ljava/lang/String;)J"), (0, .methodref 8 25), (0, .nameAndType 26 27), (0, u "at"), (0, u "(JIZCI)Z"), (0, .long 255), (3, u "law"), (0, u "(IJJII)Z")] 5

def k1m0 : Method := { name := "<init>", desc := "()V", sig := { parameters := [], returnType := none }, accessFlags := 1, code := none }
def k1c1 : Code := { maxStack := 8, maxLocals := 20, code := code, exceptionTable := #[], attributes := #[] }
def k1m1 : Method := { name := "law", desc := "(IJJII)Z", sig := { parameters := [.int, .long, .long, .int, .int], returnType := some .boolean }, accessFlags := 9, code := some k1c1 }
def k1c2 : Code := { maxStack := 4, maxLocals := 8, code := method_3_code, exceptionTable := #[], attributes := #[] }
def k1m2 : Method := { name := "ch", desc := "(JJII)C", sig := { parameters := [.long, .long, .int, .int], returnType := some .char }, accessFlags := 10, code := some k1c2 }
def k1c3 : Code := { maxStack := 5, maxLocals := 8, code := method_4_code, exceptionTable := #[], attributes := #[] }
def k1m3 : Method := { name := "at", desc := "(JIZCI)Z", sig := { parameters := [.long, .int, .boolean, .char, .int], returnType := some .boolean }, accessFlags := 10, code := some k1c3 }
/-- org/succession/NamesKeyPinLaw -/
def k1 : Class := { plain "org/succession/NamesKeyPinLaw" (some 0) with
  accessFlags := 49
  interfaces := #[]
  cf := some (fileOf pool1 8 #[] #[{ accessFlags := 1, nameIndex := 5, descriptorIndex := 6, attributes := #[] }, { accessFlags := 9, nameIndex := 32, descriptorIndex := 33, attributes := #[] }, { accessFlags := 10, nameIndex := 11, descriptorIndex := 12, attributes := #[] }, { accessFlags := 10, nameIndex := 26, descriptorIndex := 27, attributes := #[] }] 49 2 #[] #[])
  fields := #[]
  methods := #[k1m0, k1m1, k1m2, k1m3]
  instanceTypes := #[]
  staticTypes := #[]
  resolved := Array.replicate 39 none
  statics := none }

def pool2 : Array CpInfo := pool [(1, .class_ 2), (0, u "java/io/Serializable"), (0, .class_ 4), (0, u "java/lang/Object")] 2

/-- java/io/Serializable -/
def k2 : Class := { plain "java/io/Serializable" (some 0) with
  accessFlags := 1537
  interfaces := #[]
  cf := some (fileOf pool2 1 #[] #[] 1537 3 #[] #[])
  fields := #[]
  methods := #[]
  instanceTypes := #[]
  staticTypes := #[]
  resolved := Array.replicate 7 none
  statics := none }

def pool3 : Array CpInfo := pool [(1, .class_ 2), (0, u "java/lang/Comparable"), (0, .class_ 4), (0, u "java/lang/Object")] 7

/-- java/lang/Comparable -/
def k3 : Class := { plain "java/lang/Comparable" (some 0) with
  accessFlags := 1537
  interfaces := #[]
  cf := some (fileOf pool3 1 #[] #[] 1537 3 #[] #[])
  fields := #[]
  methods := #[]
  instanceTypes := #[]
  staticTypes := #[]
  resolved := Array.replicate 12 none
  statics := none }

def pool4 : Array CpInfo := pool [(2, .class_ 4), (1, u "java/lang/CharSequence"), (42, .class_ 48), (0, u "java/lang/CharSequence$1CodePointIterator"), (10, .class_ 60), (0, u "java/lang/CharSequence$1CharIterator"), (5, .class_ 67), (0, u "java/lang/Object")] 63

/-- java/lang/CharSequence -/
def k4 : Class := { plain "java/lang/CharSequence" (some 0) with
  accessFlags := 1537
  interfaces := #[]
  cf := some (fileOf pool4 2 #[.nestMembers #[47, 59]] #[] 1537 66 #[] #[])
  fields := #[]
  methods := #[]
  instanceTypes := #[]
  staticTypes := #[]
  resolved := Array.replicate 131 none
  statics := none }

def pool5 : Array CpInfo := pool [(1, .class_ 2), (0, u "java/lang/constant/Constable"), (0, .class_ 4), (0, u "java/lang/Object")] 6

/-- java/lang/constant/Constable -/
def k5 : Class := { plain "java/lang/constant/Constable" (some 0) with
  accessFlags := 1537
  interfaces := #[]
  cf := some (fileOf pool5 1 #[] #[] 1537 3 #[] #[])
  fields := #[]
  methods := #[]
  instanceTypes := #[]
  staticTypes := #[]
  resolved := Array.replicate 11 none
  statics := none }

def pool6 : Array CpInfo := pool [(1, .class_ 2), (0, u "java/lang/constant/ConstantDesc"), (0, .class_ 4), (0, u "java/lang/Object")] 32

/-- java/lang/constant/ConstantDesc -/
def k6 : Class := { plain "java/lang/constant/ConstantDesc" (some 0) with
  accessFlags := 1537
  interfaces := #[]
  cf := some (fileOf pool6 1 #[] #[] 1537 3 #[] #[])
  fields := #[]
  methods := #[]
  instanceTypes := #[]
  staticTypes := #[]
  resolved := Array.replicate 37 none
  statics := none }

def pool7 : Array CpInfo := pool [(1, .methodref 2 3), (0, .class_ 4), (0, .nameAndType 5 6), (0, u "java/lang/Object"), (0, u "<init>"), (0, u "()V"), (0, .string 8), (0, u ""), (0, .fieldref 10 11), (0, .class_ 12), (0, .nameAndType 13 14), (0, u "java/lang/String"), (0, u "value"), (0, u "[B"), (0, .fieldref 10 16), (0, .nameAndType 17 18), (0, u "coder"), (0, u "B"), (2, u "hash"), (0, u "I"), (2, u "hashIsZero"), (0, u "Z"), (0, .methodref 10 28), (0, .nameAndType 5 29), (0, u "([CIILjava/lang/Void;)V"), (8, .fieldref 10 39), (0, .nameAndType 40 26), (0, u "COMPACT_STRINGS"), (1, .class_ 44), (1, u "java/lang/StringUTF16"), (0, u "compress"), (1, .methodref 42 48), (0, .nameAndType 49 50), (0, u "coderFromArrayLen"), (0, u "([BI)B"), (56, .class_ 109), (1, u "java/lang/StringLatin1"), (32, u "()Z"), (34, .methodref 42 178), (0, .nameAndType 45 179), (0, u "([CII)[B"), (154, u "()I"), (0, .methodref 10 336), (0, .nameAndType 17 337), (0, u "()B"), (25, u "([BI)C"), (27, u "(II)V"), (35, u "(I)C"), (64, .methodref 10 493), (0, .nameAndType 494 142), (0, u "isLatin1"), (0, .methodref 107 496), (0, .nameAndType 497 363), (0, u "charAt"), (0, .methodref 42 496), (2, u "checkIndex"), (5, u "length"), (67, .class_ 576), (0, u "java/lang/CharSequence"), (22, u "CASE_INSENSITIVE_ORDER"), (0, u "Ljava/util/Comparator;"), (409, u "([C)V"), (42, .fieldref 1054 1055), (0, .class_ 1056), (0, .nameAndType 1057 1058), (0, u "jdk/internal/util/Preconditions"), (0, u "SIOOBE_FORMATTER"), (0, u "Ljava/util/function/BiFunction;"), (0, .methodref 1054 1060), (0, .nameAndType 501 1061), (0, u "(IILjava/util/function/BiFunction;)I"), (39, u "serialPersistentFields"), (0, u "[Ljava/io/ObjectStreamField;"), (0, .class_ 1104), (0, u "java/lang/String$CaseInsensitiveComparator"), (1, .class_ 1107), (0, u "java/io/Serializable"), (0, .class_ 1109), (0, u "java/lang/Comparable"), (0, .class_ 1111), (0, u "java/lang/constant/Constable"), (0, .class_ 1113), (0, u "java/lang/constant/ConstantDesc"), (2, u "serialVersionUID"), (0, u "J"), (3, u "REPL"), (0, u "C"), (2, u "LATIN1"), (1, u "UTF16")] 323

def k7m0 : Method := { name := "<init>", desc := "()V", sig := { parameters := [], returnType := none }, accessFlags := 1, code := none }
def k7c1 : Code := { maxStack := 5, maxLocals := 2, code := jdk_42_method_3_code, exceptionTable := #[], attributes := #[] }
def k7m1 : Method := { name := "<init>", desc := "([C)V", sig := { parameters := [(.array .char)], returnType := none }, accessFlags := 1, code := some k7c1 }
def k7c2 : Code := { maxStack := 2, maxLocals := 1, code := jdk_42_method_54_code, exceptionTable := #[], attributes := #[] }
def k7m2 : Method := { name := "length", desc := "()I", sig := { parameters := [], returnType := some .int }, accessFlags := 1, code := some k7c2 }
def k7c3 : Code := { maxStack := 2, maxLocals := 2, code := jdk_42_method_56_code, exceptionTable := #[], attributes := #[] }
def k7m3 : Method := { name := "charAt", desc := "(I)C", sig := { parameters := [.int], returnType := some .char }, accessFlags := 1, code := some k7c3 }
def k7c4 : Code := { maxStack := 4, maxLocals := 6, code := jdk_42_method_149_code, exceptionTable := #[], attributes := #[] }
def k7m4 : Method := { name := "<init>", desc := "([CIILjava/lang/Void;)V", sig := { parameters := [(.array .char), .int, .int, (.object "java/lang/Void")], returnType := none }, accessFlags := 2, code := some k7c4 }
def k7c5 : Code := { maxStack := 1, maxLocals := 1, code := jdk_42_method_152_code, exceptionTable := #[], attributes := #[] }
def k7m5 : Method := { name := "coder", desc := "()B", sig := { parameters := [], returnType := some .byte }, accessFlags := 0, code := some k7c5 }
def k7c6 : Code := { maxStack := 1, maxLocals := 1, code := jdk_42_method_154_code, exceptionTable := #[], attributes := #[] }
def k7m6 : Method := { name := "isLatin1", desc := "()Z", sig := { parameters := [], returnType := some .boolean }, accessFlags := 0, code := some k7c6 }
def k7c7 : Code := { maxStack := 3, maxLocals := 2, code := jdk_42_method_155_code, exceptionTable := #[], attributes := #[] }
def k7m7 : Method := { name := "checkIndex", desc := "(II)V", sig := { parameters := [.int, .int], returnType := none }, accessFlags := 8, code := some k7c7 }
/-- java/lang/String -/
def k7 : Class := { plain "java/lang/String" (some 0) with
  accessFlags := 49
  interfaces := #[2, 3, 4, 5, 6]
  cf := some (fileOf pool7 10 #[.nestMembers #[1103]] #[{ accessFlags := 1, nameIndex := 5, descriptorIndex := 6, attributes := #[] }, { accessFlags := 1, nameIndex := 5, descriptorIndex := 1010, attributes := #[] }, { accessFlags := 1, nameIndex := 507, descriptorIndex := 334, attributes := #[] }, { accessFlags := 1, nameIndex := 497, descriptorIndex := 427, attributes := #[] }, { accessFlags := 2, nameIndex := 5, descriptorIndex := 29, attributes := #[] }, { accessFlags := 0, nameIndex := 17, descriptorIndex := 337, attributes := #[] }, { accessFlags := 0, nameIndex := 494, descriptorIndex := 142, attributes := #[] }, { accessFlags := 8, nameIndex := 501, descriptorIndex := 391, attributes := #[] }] 49 2 #[1106, 1108, 575, 1110, 1112] #[{ accessFlags := 18, nameIndex := 13, descriptorIndex := 14, attributes := #[] }, { accessFlags := 18, nameIndex := 17, descriptorIndex := 18, attributes := #[] }, { accessFlags := 2, nameIndex := 21, descriptorIndex := 22, attributes := #[] }, { accessFlags := 2, nameIndex := 25, descriptorIndex := 26, attributes := #[] }, { accessFlags := 26, nameIndex := 1116, descriptorIndex := 1117, attributes := #[] }, { accessFlags := 24, nameIndex := 40, descriptorIndex := 26, attributes := #[] }, { accessFlags := 26, nameIndex := 1101, descriptorIndex := 1102, attributes := #[] }, { accessFlags := 26, nameIndex := 1121, descriptorIndex := 1122, attributes := #[] }, { accessFlags := 25, nameIndex := 599, descriptorIndex := 600, attributes := #[] }, { accessFlags := 24, nameIndex := 1125, descriptorIndex := 18, attributes := #[] }, { accessFlags := 24, nameIndex := 1127, descriptorIndex := 18, attributes := #[] }])
  fields := #[{ name := "value", type := (.array .byte), accessFlags := 18, slot := 0, constantValue := 0 }, { name := "coder", type := .byte, accessFlags := 18, slot := 1, constantValue := 0 }, { name := "hash", type := .int, accessFlags := 2, slot := 2, constantValue := 0 }, { name := "hashIsZero", type := .boolean, accessFlags := 2, slot := 3, constantValue := 0 }, { name := "serialVersionUID", type := .long, accessFlags := 26, slot := 0, constantValue := 0 }, { name := "COMPACT_STRINGS", type := .boolean, accessFlags := 24, slot := 1, constantValue := 0 }, { name := "serialPersistentFields", type := (.array (.object "java/io/ObjectStreamField")), accessFlags := 26, slot := 2, constantValue := 0 }, { name := "REPL", type := .char, accessFlags := 26, slot := 3, constantValue := 0 }, { name := "CASE_INSENSITIVE_ORDER", type := (.object "java/util/Comparator"), accessFlags := 25, slot := 4, constantValue := 0 }, { name := "LATIN1", type := .byte, accessFlags := 24, slot := 5, constantValue := 0 }, { name := "UTF16", type := .byte, accessFlags := 24, slot := 6, constantValue := 0 }]
  methods := #[k7m0, k7m1, k7m2, k7m3, k7m4, k7m5, k7m6, k7m7]
  instanceTypes := #[(.array .byte), .byte, .int, .boolean]
  staticTypes := #[.long, .boolean, (.array (.object "java/io/ObjectStreamField")), .char, (.object "java/util/Comparator"), .byte, .byte]
  resolved := Array.replicate 1451 none
  statics := some 0 }

def pool8 : Array CpInfo := pool [(2, .class_ 4), (1, u "java/lang/Object"), (0, u "<init>"), (0, u "()V"), (2, .methodref 10 11), (0, .class_ 12), (0, .nameAndType 13 14), (0, u "java/lang/String"), (0, u "length"), (0, u "()I"), (0, .methodref 10 16), (0, .nameAndType 17 18), (0, u "charAt"), (0, u "(I)C"), (28, .class_ 49), (1, u "org/succession/Names"), (15, u "ORDER"), (0, u "Ljava/util/Comparator;"), (4, u "key"), (0, u "(Ljava/lang/String;)J")] 26

def k8m0 : Method := { name := "<init>", desc := "()V", sig := { parameters := [], returnType := none }, accessFlags := 2, code := none }
def k8c1 : Code := { maxStack := 4, maxLocals := 6, code := prog_17_method_2_code, exceptionTable := #[], attributes := #[] }
def k8m1 : Method := { name := "key", desc := "(Ljava/lang/String;)J", sig := { parameters := [(.object "java/lang/String")], returnType := some .long }, accessFlags := 8, code := some k8c1 }
/-- org/succession/Names -/
def k8 : Class := { plain "org/succession/Names" (some 0) with
  accessFlags := 48
  interfaces := #[]
  cf := some (fileOf pool8 47 #[] #[{ accessFlags := 2, nameIndex := 5, descriptorIndex := 6, attributes := #[] }, { accessFlags := 8, nameIndex := 71, descriptorIndex := 72, attributes := #[] }] 48 2 #[] #[{ accessFlags := 24, nameIndex := 65, descriptorIndex := 66, attributes := #[] }])
  fields := #[{ name := "ORDER", type := (.object "java/util/Comparator"), accessFlags := 24, slot := 0, constantValue := 0 }]
  methods := #[k8m0, k8m1]
  instanceTypes := #[]
  staticTypes := #[(.object "java/util/Comparator")]
  resolved := Array.replicate 99 none
  statics := none }

def pool9 : Array CpInfo := pool [(3, .class_ 4), (0, u "java/lang/String"), (1, .class_ 8), (1, u "java/lang/Object"), (0, u "<init>"), (0, u "()V"), (0, .methodref 12 13), (0, .class_ 14), (0, .nameAndType 15 16), (0, u "java/lang/StringUTF16"), (0, u "newBytesLength"), (0, u "(I)I"), (3, .integer 1073741823), (23, .fieldref 12 45), (0, .nameAndType 46 47), (0, u "$assertionsDisabled"), (0, u "Z"), (0, .methodref 12 49), (0, .nameAndType 50 51), (0, u "length"), (0, u "([B)I"), (7, .fieldref 12 60), (0, .nameAndType 61 62), (0, u "HI_BYTE_SHIFT"), (0, u "I"), (0, .fieldref 12 64), (0, .nameAndType 65 62), (0, u "LO_BYTE_SHIFT"), (1, .methodref 12 68), (0, .nameAndType 69 70), (0, u "checkIndex"), (0, u "(I[B)V"), (0, .methodref 12 72), (0, .nameAndType 73 74), (0, u "getChar"), (0, u "([BI)C"), (32, .methodref 12 108), (0, .nameAndType 109 110), (0, u "newBytesFor"), (0, u "(I)[B"), (0, .methodref 12 112), (0, .nameAndType 113 114), (0, u "putChar"), (0, u "([BII)V"), (0, .methodref 12 116), (0, .nameAndType 117 118), (0, u "compress"), (0, u "([CI[BII)I"), (0, .methodref 12 120), (0, .nameAndType 121 122), (0, u "toBytes"), (0, u "([CII)[B"), (138, u "coderFromArrayLen"), (0, u "([BI)B"), (106, .class_ 371), (1, u "java/lang/StringUTF16$LinesSpliterator"), (20, u "charAt"), (21, .methodref 3 415), (0, .nameAndType 69 416), (0, u "(II)V"), (13, u "MAX_LENGTH"), (196, .class_ 628), (0, u "java/lang/StringUTF16$CodePointsSpliterator"), (0, .class_ 630), (0, u "java/lang/StringUTF16$CharsSpliterator")] 4

def k9m0 : Method := { name := "<init>", desc := "()V", sig := { parameters := [], returnType := none }, accessFlags := 0, code := none }
def k9c1 : Code := { maxStack := 1, maxLocals := 1, code := jdk_52_method_2_code, exceptionTable := #[], attributes := #[] }
def k9m1 : Method := { name := "newBytesFor", desc := "(I)[B", sig := { parameters := [.int], returnType := some (.array .byte) }, accessFlags := 9, code := some k9c1 }
def k9c2 : Code := { maxStack := 4, maxLocals := 1, code := jdk_52_method_3_code, exceptionTable := #[], attributes := #[] }
def k9m2 : Method := { name := "newBytesLength", desc := "(I)I", sig := { parameters := [.int], returnType := some .int }, accessFlags := 9, code := some k9c2 }
def k9c3 : Code := { maxStack := 4, maxLocals := 3, code := jdk_52_method_4_code, exceptionTable := #[], attributes := #[] }
def k9m3 : Method := { name := "putChar", desc := "([BII)V", sig := { parameters := [(.array .byte), .int, .int], returnType := none }, accessFlags := 8, code := some k9c3 }
def k9c4 : Code := { maxStack := 3, maxLocals := 2, code := jdk_52_method_5_code, exceptionTable := #[], attributes := #[] }
def k9m4 : Method := { name := "getChar", desc := "([BI)C", sig := { parameters := [(.array .byte), .int], returnType := some .char }, accessFlags := 8, code := some k9c4 }
def k9c5 : Code := { maxStack := 2, maxLocals := 1, code := jdk_52_method_6_code, exceptionTable := #[], attributes := #[] }
def k9m5 : Method := { name := "length", desc := "([B)I", sig := { parameters := [(.array .byte)], returnType := some .int }, accessFlags := 9, code := some k9c5 }
def k9c6 : Code := { maxStack := 4, maxLocals := 5, code := jdk_52_method_14_code, exceptionTable := #[], attributes := #[] }
def k9m6 : Method := { name := "toBytes", desc := "([CII)[B", sig := { parameters := [(.array .char), .int, .int], returnType := some (.array .byte) }, accessFlags := 9, code := some k9c6 }
def k9c7 : Code := { maxStack := 2, maxLocals := 2, code := jdk_52_method_15_code, exceptionTable := #[], attributes := #[] }
def k9m7 : Method := { name := "coderFromArrayLen", desc := "([BI)B", sig := { parameters := [(.array .byte), .int], returnType := some .byte }, accessFlags := 8, code := some k9c7 }
def k9c8 : Code := { maxStack := 5, maxLocals := 6, code := jdk_52_method_16_code, exceptionTable := #[], attributes := #[] }
def k9m8 : Method := { name := "compress", desc := "([CII)[B", sig := { parameters := [(.array .char), .int, .int], returnType := some (.array .byte) }, accessFlags := 9, code := some k9c8 }
def k9c9 : Code := { maxStack := 3, maxLocals := 7, code := jdk_52_method_21_code, exceptionTable := #[], attributes := #[] }
def k9m9 : Method := { name := "compress", desc := "([CI[BII)I", sig := { parameters := [(.array .char), .int, (.array .byte), .int, .int], returnType := some .int }, accessFlags := 9, code := some k9c9 }
def k9c10 : Code := { maxStack := 2, maxLocals := 2, code := jdk_52_method_83_code, exceptionTable := #[], attributes := #[] }
def k9m10 : Method := { name := "charAt", desc := "([BI)C", sig := { parameters := [(.array .byte), .int], returnType := some .char }, accessFlags := 9, code := some k9c10 }
def k9c11 : Code := { maxStack := 2, maxLocals := 2, code := jdk_52_method_91_code, exceptionTable := #[], attributes := #[] }
def k9m11 : Method := { name := "checkIndex", desc := "(I[B)V", sig := { parameters := [.int, (.array .byte)], returnType := none }, accessFlags := 9, code := some k9c11 }
/-- java/lang/StringUTF16 -/
def k9 : Class := { plain "java/lang/StringUTF16" (some 0) with
  accessFlags := 48
  interfaces := #[]
  cf := some (fileOf pool9 12 #[.nestMembers #[627, 629, 369]] #[{ accessFlags := 0, nameIndex := 9, descriptorIndex := 10, attributes := #[] }, { accessFlags := 9, nameIndex := 109, descriptorIndex := 110, attributes := #[] }, { accessFlags := 9, nameIndex := 15, descriptorIndex := 16, attributes := #[] }, { accessFlags := 8, nameIndex := 113, descriptorIndex := 114, attributes := #[] }, { accessFlags := 8, nameIndex := 73, descriptorIndex := 74, attributes := #[] }, { accessFlags := 9, nameIndex := 50, descriptorIndex := 51, attributes := #[] }, { accessFlags := 9, nameIndex := 121, descriptorIndex := 122, attributes := #[] }, { accessFlags := 8, nameIndex := 261, descriptorIndex := 262, attributes := #[] }, { accessFlags := 9, nameIndex := 117, descriptorIndex := 122, attributes := #[] }, { accessFlags := 9, nameIndex := 117, descriptorIndex := 118, attributes := #[] }, { accessFlags := 9, nameIndex := 392, descriptorIndex := 74, attributes := #[] }, { accessFlags := 9, nameIndex := 69, descriptorIndex := 70, attributes := #[] }] 48 6 #[] #[{ accessFlags := 26, nameIndex := 61, descriptorIndex := 62, attributes := #[] }, { accessFlags := 26, nameIndex := 65, descriptorIndex := 62, attributes := #[] }, { accessFlags := 24, nameIndex := 430, descriptorIndex := 62, attributes := #[] }, { accessFlags := 4120, nameIndex := 46, descriptorIndex := 47, attributes := #[] }])
  fields := #[{ name := "HI_BYTE_SHIFT", type := .int, accessFlags := 26, slot := 0, constantValue := 0 }, { name := "LO_BYTE_SHIFT", type := .int, accessFlags := 26, slot := 1, constantValue := 0 }, { name := "MAX_LENGTH", type := .int, accessFlags := 24, slot := 2, constantValue := 0 }, { name := "$assertionsDisabled", type := .boolean, accessFlags := 4120, slot := 3, constantValue := 0 }]
  methods := #[k9m0, k9m1, k9m2, k9m3, k9m4, k9m5, k9m6, k9m7, k9m8, k9m9, k9m10, k9m11]
  instanceTypes := #[]
  staticTypes := #[.int, .int, .int, .boolean]
  resolved := Array.replicate 635 none
  statics := some 1 }

def pool10 : Array CpInfo := pool [(2, .class_ 4), (1, u "java/lang/Object"), (0, u "<init>"), (0, u "()V"), (17, .class_ 26), (1, u "jdk/internal/util/Preconditions"), (6, u "checkIndex"), (21, .class_ 56), (0, u "jdk/internal/util/Preconditions$4"), (57, .class_ 115), (0, u "jdk/internal/util/Preconditions$1"), (7, u "SIOOBE_FORMATTER"), (0, u "Ljava/util/function/BiFunction;"), (0, .class_ 126), (0, u "jdk/internal/util/Preconditions$2"), (3, u "AIOOBE_FORMATTER"), (0, .class_ 132), (0, u "jdk/internal/util/Preconditions$3"), (3, u "IOOBE_FORMATTER"), (41, u "(IILjava/util/function/BiFunction;)I")] 15

def k10m0 : Method := { name := "<init>", desc := "()V", sig := { parameters := [], returnType := none }, accessFlags := 1, code := none }
def k10c1 : Code := { maxStack := 3, maxLocals := 3, code := jdk_41_method_11_code, exceptionTable := #[], attributes := #[] }
def k10m1 : Method := { name := "checkIndex", desc := "(IILjava/util/function/BiFunction;)I", sig := { parameters := [.int, .int, (.object "java/util/function/BiFunction")], returnType := some .int }, accessFlags := 9, code := some k10c1 }
/-- jdk/internal/util/Preconditions -/
def k10 : Class := { plain "jdk/internal/util/Preconditions" (some 0) with
  accessFlags := 33
  interfaces := #[]
  cf := some (fileOf pool10 24 #[.nestMembers #[55, 131, 125, 114]] #[{ accessFlags := 1, nameIndex := 5, descriptorIndex := 6, attributes := #[] }, { accessFlags := 9, nameIndex := 33, descriptorIndex := 178, attributes := #[] }] 33 2 #[] #[{ accessFlags := 25, nameIndex := 123, descriptorIndex := 124, attributes := #[] }, { accessFlags := 25, nameIndex := 130, descriptorIndex := 124, attributes := #[] }, { accessFlags := 25, nameIndex := 136, descriptorIndex := 124, attributes := #[] }])
  fields := #[{ name := "SIOOBE_FORMATTER", type := (.object "java/util/function/BiFunction"), accessFlags := 25, slot := 0, constantValue := 0 }, { name := "AIOOBE_FORMATTER", type := (.object "java/util/function/BiFunction"), accessFlags := 25, slot := 1, constantValue := 0 }, { name := "IOOBE_FORMATTER", type := (.object "java/util/function/BiFunction"), accessFlags := 25, slot := 2, constantValue := 0 }]
  methods := #[k10m0, k10m1]
  instanceTypes := #[]
  staticTypes := #[(.object "java/util/function/BiFunction"), (.object "java/util/function/BiFunction"), (.object "java/util/function/BiFunction")]
  resolved := Array.replicate 194 none
  statics := some 2 }

def pool11 : Array CpInfo := pool [(1, .class_ 2), (0, u "java/lang/String"), (1, .class_ 6), (1, u "java/lang/Object"), (0, u "<init>"), (0, u "()V"), (0, .methodref 1 10), (0, .nameAndType 11 12), (0, u "checkIndex"), (0, u "(II)V"), (1, .class_ 16), (1, u "java/lang/StringLatin1"), (36, u "([BI)C"), (67, u "$assertionsDisabled"), (0, u "Z"), (98, .class_ 223), (1, u "java/lang/StringLatin1$LinesSpliterator"), (28, u "charAt"), (137, .class_ 391), (0, u "java/lang/StringLatin1$CharsSpliterator")] 3

def k11m0 : Method := { name := "<init>", desc := "()V", sig := { parameters := [], returnType := none }, accessFlags := 0, code := none }
def k11c1 : Code := { maxStack := 2, maxLocals := 2, code := jdk_43_method_2_code, exceptionTable := #[], attributes := #[] }
def k11m1 : Method := { name := "charAt", desc := "([BI)C", sig := { parameters := [(.array .byte), .int], returnType := some .char }, accessFlags := 9, code := some k11c1 }
/-- java/lang/StringLatin1 -/
def k11 : Class := { plain "java/lang/StringLatin1" (some 0) with
  accessFlags := 48
  interfaces := #[]
  cf := some (fileOf pool11 14 #[.nestMembers #[390, 221]] #[{ accessFlags := 0, nameIndex := 7, descriptorIndex := 8, attributes := #[] }, { accessFlags := 9, nameIndex := 252, descriptorIndex := 53, attributes := #[] }] 48 4 #[] #[{ accessFlags := 4120, nameIndex := 121, descriptorIndex := 122, attributes := #[] }])
  fields := #[{ name := "$assertionsDisabled", type := .boolean, accessFlags := 4120, slot := 0, constantValue := 0 }]
  methods := #[k11m0, k11m1]
  instanceTypes := #[]
  staticTypes := #[.boolean]
  resolved := Array.replicate 395 none
  statics := none }

def pool12 : Array CpInfo := pool [(9, u "<init>"), (6, .class_ 18), (1, u "java/lang/Object"), (0, u "()V"), (1, .class_ 23), (1, u "jdk/internal/util/ArraysSupport"), (0, u "LOG2_ARRAY_LONG_INDEX_SCALE"), (0, u "I"), (2, u "U"), (0, u "Ljdk/internal/misc/Unsafe;"), (8, u "BIG_ENDIAN"), (0, u "Z"), (8, u "LOG2_BYTE_BIT_SIZE"), (4, u "LOG2_ARRAY_INT_INDEX_SCALE"), (54, u "JLA"), (0, u "Ljdk/internal/access/JavaLangAccess;"), (11, u "LOG2_ARRAY_BOOLEAN_INDEX_SCALE"), (9, u "LOG2_ARRAY_BYTE_INDEX_SCALE"), (5, u "LOG2_ARRAY_CHAR_INDEX_SCALE"), (5, u "LOG2_ARRAY_SHORT_INDEX_SCALE"), (18, u "LOG2_ARRAY_FLOAT_INDEX_SCALE"), (24, u "LOG2_ARRAY_DOUBLE_INDEX_SCALE"), (89, u "T_BOOLEAN"), (2, u "T_CHAR"), (1, u "T_FLOAT"), (1, u "T_DOUBLE"), (1, u "T_BYTE"), (1, u "T_SHORT"), (1, u "T_INT"), (1, u "T_LONG"), (1, u "SOFT_MAX_ARRAY_LENGTH")] 83

def k12m0 : Method := { name := "<init>", desc := "()V", sig := { parameters := [], returnType := none }, accessFlags := 2, code := none }
/-- jdk/internal/util/ArraysSupport -/
def k12 : Class := { plain "jdk/internal/util/ArraysSupport" (some 0) with
  accessFlags := 33
  interfaces := #[]
  cf := some (fileOf pool12 21 #[] #[{ accessFlags := 2, nameIndex := 9, descriptorIndex := 19, attributes := #[] }] 33 16 #[] #[{ accessFlags := 24, nameIndex := 28, descriptorIndex := 29, attributes := #[] }, { accessFlags := 26, nameIndex := 38, descriptorIndex := 39, attributes := #[] }, { accessFlags := 25, nameIndex := 121, descriptorIndex := 25, attributes := #[] }, { accessFlags := 25, nameIndex := 131, descriptorIndex := 25, attributes := #[] }, { accessFlags := 25, nameIndex := 137, descriptorIndex := 25, attributes := #[] }, { accessFlags := 25, nameIndex := 143, descriptorIndex := 25, attributes := #[] }, { accessFlags := 25, nameIndex := 53, descriptorIndex := 25, attributes := #[] }, { accessFlags := 25, nameIndex := 24, descriptorIndex := 25, attributes := #[] }, { accessFlags := 25, nameIndex := 162, descriptorIndex := 25, attributes := #[] }, { accessFlags := 25, nameIndex := 187, descriptorIndex := 25, attributes := #[] }, { accessFlags := 26, nameIndex := 48, descriptorIndex := 25, attributes := #[] }, { accessFlags := 25, nameIndex := 277, descriptorIndex := 25, attributes := #[] }, { accessFlags := 25, nameIndex := 280, descriptorIndex := 25, attributes := #[] }, { accessFlags := 25, nameIndex := 282, descriptorIndex := 25, attributes := #[] }, { accessFlags := 25, nameIndex := 284, descriptorIndex := 25, attributes := #[] }, { accessFlags := 25, nameIndex := 286, descriptorIndex := 25, attributes := #[] }, { accessFlags := 25, nameIndex := 288, descriptorIndex := 25, attributes := #[] }, { accessFlags := 25, nameIndex := 290, descriptorIndex := 25, attributes := #[] }, { accessFlags := 25, nameIndex := 292, descriptorIndex := 25, attributes := #[] }, { accessFlags := 26, nameIndex := 108, descriptorIndex := 109, attributes := #[] }, { accessFlags := 25, nameIndex := 294, descriptorIndex := 25, attributes := #[] }])
  fields := #[{ name := "U", type := (.object "jdk/internal/misc/Unsafe"), accessFlags := 24, slot := 0, constantValue := 0 }, { name := "BIG_ENDIAN", type := .boolean, accessFlags := 26, slot := 1, constantValue := 0 }, { name := "LOG2_ARRAY_BOOLEAN_INDEX_SCALE", type := .int, accessFlags := 25, slot := 2, constantValue := 0 }, { name := "LOG2_ARRAY_BYTE_INDEX_SCALE", type := .int, accessFlags := 25, slot := 3, constantValue := 0 }, { name := "LOG2_ARRAY_CHAR_INDEX_SCALE", type := .int, accessFlags := 25, slot := 4, constantValue := 0 }, { name := "LOG2_ARRAY_SHORT_INDEX_SCALE", type := .int, accessFlags := 25, slot := 5, constantValue := 0 }, { name := "LOG2_ARRAY_INT_INDEX_SCALE", type := .int, accessFlags := 25, slot := 6, constantValue := 0 }, { name := "LOG2_ARRAY_LONG_INDEX_SCALE", type := .int, accessFlags := 25, slot := 7, constantValue := 0 }, { name := "LOG2_ARRAY_FLOAT_INDEX_SCALE", type := .int, accessFlags := 25, slot := 8, constantValue := 0 }, { name := "LOG2_ARRAY_DOUBLE_INDEX_SCALE", type := .int, accessFlags := 25, slot := 9, constantValue := 0 }, { name := "LOG2_BYTE_BIT_SIZE", type := .int, accessFlags := 26, slot := 10, constantValue := 0 }, { name := "T_BOOLEAN", type := .int, accessFlags := 25, slot := 11, constantValue := 0 }, { name := "T_CHAR", type := .int, accessFlags := 25, slot := 12, constantValue := 0 }, { name := "T_FLOAT", type := .int, accessFlags := 25, slot := 13, constantValue := 0 }, { name := "T_DOUBLE", type := .int, accessFlags := 25, slot := 14, constantValue := 0 }, { name := "T_BYTE", type := .int, accessFlags := 25, slot := 15, constantValue := 0 }, { name := "T_SHORT", type := .int, accessFlags := 25, slot := 16, constantValue := 0 }, { name := "T_INT", type := .int, accessFlags := 25, slot := 17, constantValue := 0 }, { name := "T_LONG", type := .int, accessFlags := 25, slot := 18, constantValue := 0 }, { name := "JLA", type := (.object "jdk/internal/access/JavaLangAccess"), accessFlags := 26, slot := 19, constantValue := 0 }, { name := "SOFT_MAX_ARRAY_LENGTH", type := .int, accessFlags := 25, slot := 20, constantValue := 0 }]
  methods := #[k12m0]
  instanceTypes := #[]
  staticTypes := #[(.object "jdk/internal/misc/Unsafe"), .boolean, .int, .int, .int, .int, .int, .int, .int, .int, .int, .int, .int, .int, .int, .int, .int, .int, .int, (.object "jdk/internal/access/JavaLangAccess"), .int]
  resolved := Array.replicate 378 none
  statics := none }

def pool13 : Array CpInfo := pool [(1, u "java/lang/Cloneable"), (0, .class_ 1), (0, u "java/lang/Object"), (0, .class_ 3)] 3

/-- java/lang/Cloneable -/
def k13 : Class := { plain "java/lang/Cloneable" (some 0) with
  accessFlags := 1537
  interfaces := #[]
  cf := some (fileOf pool13 2 #[] #[] 1537 4 #[] #[])
  fields := #[]
  methods := #[]
  instanceTypes := #[]
  staticTypes := #[]
  resolved := Array.replicate 8 none
  statics := none }

/-- the primitive byte -/
def k14 : Class := { plain "byte" none with kind := .primitive 'B', accessFlags := 0x411 }
/-- [B -/
def k15 : Class := { plain "[B" (some 0) with kind := .array 14 .byte, interfaces := #[13, 2], accessFlags := 1041 }

/-- the primitive char -/
def k16 : Class := { plain "char" none with kind := .primitive 'C', accessFlags := 0x411 }
/-- [C -/
def k17 : Class := { plain "[C" (some 0) with kind := .array 16 .char, interfaces := #[13, 2], accessFlags := 1041 }

/-- the primitive int -/
def k18 : Class := { plain "int" none with kind := .primitive 'I', accessFlags := 0x411 }
/-- [I -/
def k19 : Class := { plain "[I" (some 0) with kind := .array 18 .int, interfaces := #[13, 2], accessFlags := 1041 }

def heap : Heap := #[{ cls := 7, slots := #[.long 0, .int 1, .null, .int 0, .null, .int 0, .int 0], vm := .statics 7 },
  { cls := 9, slots := #[.int 0, .int 8, .int 0, .int 1], vm := .statics 9 },
  { cls := 10, slots := #[.null, .null, .null], vm := .statics 10 }]
def classes : Array Class := #[k0, k1, k2, k3, k4, k5, k6, k7, k8, k9, k10, k11, k12, k13, k14, k15, k16, k17, k18, k19]
def interned : List (Array UInt16 × Addr) := []
def slotsUsed : Nat := 14
def theMethod : MethodId := ⟨1, 1⟩
def args0 : Array Value := #[.int 0, .long 0, .long 0, .int 0, .int 0]
def aboutOver (below : List Frame) : State where
  vm := { classes := classes, interned := interned.toArray }
  heap := heap
  slotsUsed := slotsUsed
  threads := #[{ frames := .invoking theMethod args0 :: below }]
def below0 : List Frame := [.native { method := ⟨0, 0⟩, args := #[] }]
def about1 : State := aboutOver below0
def p0 : Program := .bare "" "" ""
def e0 : Env := launch0.env 0 0 0
theorem w_frames : about1.frames = Frame.invoking theMethod args0 :: below0 := rfl
set_option maxRecDepth 65536 in
theorem w_args : argsFit about1.vm theMethod args0 = true := by decide +kernel
set_option maxRecDepth 65536 in
theorem w_heap : heapFits about1 = true := by decide +kernel
set_option maxRecDepth 65536 in
theorem w_runnable : about1.curStatus? = some .runnable := by decide +kernel
set_option maxRecDepth 65536 in
theorem w_alone : about1.alone = true := by decide +kernel
set_option maxRecDepth 65536 in
theorem w_named : about1.methodNamed? x = some theMethod := by decide +kernel
set_option maxRecDepth 65536 in
theorem w_hears : about1.hears theMethod below0 = true := by decide +kernel
set_option maxRecDepth 65536 in
theorem w_ripe : about1.ripe theMethod args0 below0 = true := by decide +kernel
theorem w_running : about1.status = .running := rfl
set_option maxRecDepth 65536 in
theorem w_room : about1.hasRoom e0.platform room_1 = true :=
  launch0.hasRoom_least _ room_1 (by decide +kernel) (by decide +kernel) (by decide +kernel) (by decide +kernel) (by decide +kernel) (by decide +kernel)
theorem allAtoms_all (ts : List Jvm.Cond) (a : Array Jvm.Value) (st : Jvm.State) : (allAtoms ts).before a st = ts.all (fun c => c.before a st) := by
  induction ts with
  | nil => rfl
  | cons c t ih =>
    show (Jvm.Cond.and c (allAtoms t)).before a st = _
    rw [Jvm.Cond.before_and, ih, List.all_cons]
def words1 : List Jvm.Cond := Jvm.Cond.code x code maxLocals ret :: tables_1
/-- a 'code' word, met by the world's own term for the bytes: nothing is compared byte by byte -/
theorem code_word {y : MethodName} {bytes : ByteArray} {mx : Nat} {rt : Option FieldType} {a : Array Value} {s : State} {m : MethodId} {meth : Method} {c : Code} (h1 : s.methodNamed? y = some m) (h2 : s.vm.method? m = some meth) (h3 : meth.code = some c) (h4 : c.code = bytes)
    (h5 : (c.maxLocals == mx && c.exceptionTable.isEmpty && decide (c.maxStack ≤ mostOperands) && decide (meth.sig.returnType = rt) && !meth.locks && decide (parseMethodDescriptor y.desc = some meth.sig)) = true) : (Jvm.Cond.code y bytes mx rt).before a s = true := by
  simp only [Bool.and_eq_true, beq_iff_eq, Bool.not_eq_true', decide_eq_true_eq] at h5
  obtain ⟨⟨⟨⟨⟨g1, g2⟩, g3⟩, g4⟩, g5⟩, g6⟩ := h5
  simp [Cond.before, Cond.holds, Cond.value, h1, h2, h3, h4, g1, g2, g3, g4, g5, g6]
def isCode : Jvm.Cond → Bool
  | .code _ _ _ _ => true
  | _ => false
theorem all_split {L : List Jvm.Cond} {P : Jvm.Cond → Bool} (h1 : L.all (fun c => isCode c || P c) = true) (h2 : ∀ c ∈ L.filter isCode, P c = true) : L.all P = true := by
  refine List.all_eq_true.mpr fun c hc => ?_
  have h := List.all_eq_true.mp h1 c hc
  rcases Bool.eq_false_or_eq_true (isCode c) with hi | hi
  · exact h2 c (List.mem_filter.mpr ⟨hc, hi⟩)
  · simpa [hi] using h
set_option maxRecDepth 65536 in
theorem w_c0 : (Jvm.Cond.code x code maxLocals ret).before args0 about1 = true := code_word (m := ⟨1, 1⟩) (meth := k1m1) (c := k1c1) (by decide +kernel) rfl rfl rfl (by decide +kernel)
set_option maxRecDepth 65536 in
theorem w_c1 : (Jvm.Cond.code ({ cls := "org/succession/NamesKeyPinLaw", name := "ch", desc := "(JJII)C" } : Jvm.MethodName) method_3_code (8 : Nat) (Option.some Jvm.ClassFile.FieldType.char)).before args0 about1 = true := code_word (m := ⟨1, 2⟩) (meth := k1m2) (c := k1c2) (by decide +kernel) rfl rfl rfl (by decide +kernel)
set_option maxRecDepth 65536 in
theorem w_c2 : (Jvm.Cond.code ({ cls := "java/lang/String", name := "<init>", desc := "([C)V" } : Jvm.MethodName) jdk_42_method_3_code (2 : Nat) (Option.none : Option Jvm.ClassFile.FieldType)).before args0 about1 = true := code_word (m := ⟨7, 1⟩) (meth := k7m1) (c := k7c1) (by decide +kernel) rfl rfl rfl (by decide +kernel)
set_option maxRecDepth 65536 in
theorem w_c3 : (Jvm.Cond.code ({ cls := "java/lang/String", name := "<init>", desc := "([CIILjava/lang/Void;)V" } : Jvm.MethodName) jdk_42_method_149_code (6 : Nat) (Option.none : Option Jvm.ClassFile.FieldType)).before args0 about1 = true := code_word (m := ⟨7, 4⟩) (meth := k7m4) (c := k7c4) (by decide +kernel) rfl rfl rfl (by decide +kernel)
set_option maxRecDepth 65536 in
theorem w_c4 : (Jvm.Cond.code ({ cls := "java/lang/Object", name := "<init>", desc := "()V" } : Jvm.MethodName) object_method_1_code (1 : Nat) (Option.none : Option Jvm.ClassFile.FieldType)).before args0 about1 = true := code_word (m := ⟨0, 0⟩) (meth := k0m0) (c := k0c0) (by decide +kernel) rfl rfl rfl (by decide +kernel)
set_option maxRecDepth 65536 in
theorem w_c5 : (Jvm.Cond.code ({ cls := "org/succession/Names", name := "key", desc := "(Ljava/lang/String;)J" } : Jvm.MethodName) prog_17_method_2_code (6 : Nat) (Option.some Jvm.ClassFile.FieldType.long)).before args0 about1 = true := code_word (m := ⟨8, 1⟩) (meth := k8m1) (c := k8c1) (by decide +kernel) rfl rfl rfl (by decide +kernel)
set_option maxRecDepth 65536 in
theorem w_c6 : (Jvm.Cond.code ({ cls := "java/lang/String", name := "length", desc := "()I" } : Jvm.MethodName) jdk_42_method_54_code (1 : Nat) (Option.some Jvm.ClassFile.FieldType.int)).before args0 about1 = true := code_word (m := ⟨7, 2⟩) (meth := k7m2) (c := k7c2) (by decide +kernel) rfl rfl rfl (by decide +kernel)
set_option maxRecDepth 65536 in
theorem w_c7 : (Jvm.Cond.code ({ cls := "java/lang/String", name := "coder", desc := "()B" } : Jvm.MethodName) jdk_42_method_152_code (1 : Nat) (Option.some Jvm.ClassFile.FieldType.byte)).before args0 about1 = true := code_word (m := ⟨7, 5⟩) (meth := k7m5) (c := k7c5) (by decide +kernel) rfl rfl rfl (by decide +kernel)
set_option maxRecDepth 65536 in
theorem w_c8 : (Jvm.Cond.code ({ cls := "org/succession/NamesKeyPinLaw", name := "at", desc := "(JIZCI)Z" } : Jvm.MethodName) method_4_code (8 : Nat) (Option.some Jvm.ClassFile.FieldType.boolean)).before args0 about1 = true := code_word (m := ⟨1, 3⟩) (meth := k1m3) (c := k1c3) (by decide +kernel) rfl rfl rfl (by decide +kernel)
set_option maxRecDepth 65536 in
theorem w_c9 : (Jvm.Cond.code ({ cls := "java/lang/StringUTF16", name := "compress", desc := "([CII)[B" } : Jvm.MethodName) jdk_52_method_16_code (6 : Nat) (Option.some (Jvm.ClassFile.FieldType.array Jvm.ClassFile.FieldType.byte))).before args0 about1 = true := code_word (m := ⟨9, 8⟩) (meth := k9m8) (c := k9c8) (by decide +kernel) rfl rfl rfl (by decide +kernel)
set_option maxRecDepth 65536 in
theorem w_c10 : (Jvm.Cond.code ({ cls := "java/lang/StringUTF16", name := "compress", desc := "([CI[BII)I" } : Jvm.MethodName) jdk_52_method_21_code (7 : Nat) (Option.some Jvm.ClassFile.FieldType.int)).before args0 about1 = true := code_word (m := ⟨9, 9⟩) (meth := k9m9) (c := k9c9) (by decide +kernel) rfl rfl rfl (by decide +kernel)
set_option maxRecDepth 65536 in
theorem w_c11 : (Jvm.Cond.code ({ cls := "java/lang/StringUTF16", name := "toBytes", desc := "([CII)[B" } : Jvm.MethodName) jdk_52_method_14_code (5 : Nat) (Option.some (Jvm.ClassFile.FieldType.array Jvm.ClassFile.FieldType.byte))).before args0 about1 = true := code_word (m := ⟨9, 6⟩) (meth := k9m6) (c := k9c6) (by decide +kernel) rfl rfl rfl (by decide +kernel)
set_option maxRecDepth 65536 in
theorem w_c12 : (Jvm.Cond.code ({ cls := "java/lang/StringUTF16", name := "newBytesFor", desc := "(I)[B" } : Jvm.MethodName) jdk_52_method_2_code (1 : Nat) (Option.some (Jvm.ClassFile.FieldType.array Jvm.ClassFile.FieldType.byte))).before args0 about1 = true := code_word (m := ⟨9, 1⟩) (meth := k9m1) (c := k9c1) (by decide +kernel) rfl rfl rfl (by decide +kernel)
set_option maxRecDepth 65536 in
theorem w_c13 : (Jvm.Cond.code ({ cls := "java/lang/StringUTF16", name := "newBytesLength", desc := "(I)I" } : Jvm.MethodName) jdk_52_method_3_code (1 : Nat) (Option.some Jvm.ClassFile.FieldType.int)).before args0 about1 = true := code_word (m := ⟨9, 2⟩) (meth := k9m2) (c := k9c2) (by decide +kernel) rfl rfl rfl (by decide +kernel)
set_option maxRecDepth 65536 in
theorem w_c14 : (Jvm.Cond.code ({ cls := "java/lang/StringUTF16", name := "putChar", desc := "([BII)V" } : Jvm.MethodName) jdk_52_method_4_code (3 : Nat) (Option.none : Option Jvm.ClassFile.FieldType)).before args0 about1 = true := code_word (m := ⟨9, 3⟩) (meth := k9m3) (c := k9c3) (by decide +kernel) rfl rfl rfl (by decide +kernel)
set_option maxRecDepth 65536 in
theorem w_c15 : (Jvm.Cond.code ({ cls := "java/lang/StringUTF16", name := "getChar", desc := "([BI)C" } : Jvm.MethodName) jdk_52_method_5_code (2 : Nat) (Option.some Jvm.ClassFile.FieldType.char)).before args0 about1 = true := code_word (m := ⟨9, 4⟩) (meth := k9m4) (c := k9c4) (by decide +kernel) rfl rfl rfl (by decide +kernel)
set_option maxRecDepth 65536 in
theorem w_c16 : (Jvm.Cond.code ({ cls := "java/lang/StringUTF16", name := "coderFromArrayLen", desc := "([BI)B" } : Jvm.MethodName) jdk_52_method_15_code (2 : Nat) (Option.some Jvm.ClassFile.FieldType.byte)).before args0 about1 = true := code_word (m := ⟨9, 7⟩) (meth := k9m7) (c := k9c7) (by decide +kernel) rfl rfl rfl (by decide +kernel)
set_option maxRecDepth 65536 in
theorem w_c17 : (Jvm.Cond.code ({ cls := "java/lang/String", name := "charAt", desc := "(I)C" } : Jvm.MethodName) jdk_42_method_56_code (2 : Nat) (Option.some Jvm.ClassFile.FieldType.char)).before args0 about1 = true := code_word (m := ⟨7, 3⟩) (meth := k7m3) (c := k7c3) (by decide +kernel) rfl rfl rfl (by decide +kernel)
set_option maxRecDepth 65536 in
theorem w_c18 : (Jvm.Cond.code ({ cls := "java/lang/String", name := "isLatin1", desc := "()Z" } : Jvm.MethodName) jdk_42_method_154_code (1 : Nat) (Option.some Jvm.ClassFile.FieldType.boolean)).before args0 about1 = true := code_word (m := ⟨7, 6⟩) (meth := k7m6) (c := k7c6) (by decide +kernel) rfl rfl rfl (by decide +kernel)
set_option maxRecDepth 65536 in
theorem w_c19 : (Jvm.Cond.code ({ cls := "java/lang/StringUTF16", name := "charAt", desc := "([BI)C" } : Jvm.MethodName) jdk_52_method_83_code (2 : Nat) (Option.some Jvm.ClassFile.FieldType.char)).before args0 about1 = true := code_word (m := ⟨9, 10⟩) (meth := k9m10) (c := k9c10) (by decide +kernel) rfl rfl rfl (by decide +kernel)
set_option maxRecDepth 65536 in
theorem w_c20 : (Jvm.Cond.code ({ cls := "java/lang/StringUTF16", name := "checkIndex", desc := "(I[B)V" } : Jvm.MethodName) jdk_52_method_91_code (2 : Nat) (Option.none : Option Jvm.ClassFile.FieldType)).before args0 about1 = true := code_word (m := ⟨9, 11⟩) (meth := k9m11) (c := k9c11) (by decide +kernel) rfl rfl rfl (by decide +kernel)
set_option maxRecDepth 65536 in
theorem w_c21 : (Jvm.Cond.code ({ cls := "java/lang/StringUTF16", name := "length", desc := "([B)I" } : Jvm.MethodName) jdk_52_method_6_code (1 : Nat) (Option.some Jvm.ClassFile.FieldType.int)).before args0 about1 = true := code_word (m := ⟨9, 5⟩) (meth := k9m5) (c := k9c5) (by decide +kernel) rfl rfl rfl (by decide +kernel)
set_option maxRecDepth 65536 in
theorem w_c22 : (Jvm.Cond.code ({ cls := "java/lang/String", name := "checkIndex", desc := "(II)V" } : Jvm.MethodName) jdk_42_method_155_code (2 : Nat) (Option.none : Option Jvm.ClassFile.FieldType)).before args0 about1 = true := code_word (m := ⟨7, 7⟩) (meth := k7m7) (c := k7c7) (by decide +kernel) rfl rfl rfl (by decide +kernel)
set_option maxRecDepth 65536 in
theorem w_c23 : (Jvm.Cond.code ({ cls := "jdk/internal/util/Preconditions", name := "checkIndex", desc := "(IILjava/util/function/BiFunction;)I" } : Jvm.MethodName) jdk_41_method_11_code (3 : Nat) (Option.some Jvm.ClassFile.FieldType.int)).before args0 about1 = true := code_word (m := ⟨10, 1⟩) (meth := k10m1) (c := k10c1) (by decide +kernel) rfl rfl rfl (by decide +kernel)
set_option maxRecDepth 65536 in
theorem w_c24 : (Jvm.Cond.code ({ cls := "java/lang/StringLatin1", name := "charAt", desc := "([BI)C" } : Jvm.MethodName) jdk_43_method_2_code (2 : Nat) (Option.some Jvm.ClassFile.FieldType.char)).before args0 about1 = true := code_word (m := ⟨11, 1⟩) (meth := k11m1) (c := k11c1) (by decide +kernel) rfl rfl rfl (by decide +kernel)
def codes1 : List Jvm.Cond := [Jvm.Cond.code x code maxLocals ret, Jvm.Cond.code ({ cls := "org/succession/NamesKeyPinLaw", name := "ch", desc := "(JJII)C" } : Jvm.MethodName) method_3_code (8 : Nat) (Option.some Jvm.ClassFile.FieldType.char), Jvm.Cond.code ({ cls := "java/lang/String", name := "<init>", desc := "([C)V" } : Jvm.MethodName) jdk_42_method_3_code (2 : Nat) (Option.none : Option Jvm.ClassFile.FieldType), Jvm.Cond.code ({ cls := "java/lang/String", name := "<init>", desc := "([CIILjava/lang/Void;)V" } : Jvm.MethodName) jdk_42_method_149_code (6 : Nat) (Option.none : Option Jvm.ClassFile.FieldType), Jvm.Cond.code ({ cls := "java/lang/Object", name := "<init>", desc := "()V" } : Jvm.MethodName) object_method_1_code (1 : Nat) (Option.none : Option Jvm.ClassFile.FieldType), Jvm.Cond.code ({ cls := "org/succession/Names", name := "key", desc := "(Ljava/lang/String;)J" } : Jvm.MethodName) prog_17_method_2_code (6 : Nat) (Option.some Jvm.ClassFile.FieldType.long), Jvm.Cond.code ({ cls := "java/lang/String", name := "length", desc := "()I" } : Jvm.MethodName) jdk_42_method_54_code (1 : Nat) (Option.some Jvm.ClassFile.FieldType.int), Jvm.Cond.code ({ cls := "java/lang/String", name := "coder", desc := "()B" } : Jvm.MethodName) jdk_42_method_152_code (1 : Nat) (Option.some Jvm.ClassFile.FieldType.byte), Jvm.Cond.code ({ cls := "org/succession/NamesKeyPinLaw", name := "at", desc := "(JIZCI)Z" } : Jvm.MethodName) method_4_code (8 : Nat) (Option.some Jvm.ClassFile.FieldType.boolean), Jvm.Cond.code ({ cls := "java/lang/StringUTF16", name := "compress", desc := "([CII)[B" } : Jvm.MethodName) jdk_52_method_16_code (6 : Nat) (Option.some (Jvm.ClassFile.FieldType.array Jvm.ClassFile.FieldType.byte)), Jvm.Cond.code ({ cls := "java/lang/StringUTF16", name := "compress", desc := "([CI[BII)I" } : Jvm.MethodName) jdk_52_method_21_code (7 : Nat) (Option.some Jvm.ClassFile.FieldType.int), Jvm.Cond.code ({ cls := "java/lang/StringUTF16", name := "toBytes", desc := "([CII)[B" } : Jvm.MethodName) jdk_52_method_14_code (5 : Nat) (Option.some (Jvm.ClassFile.FieldType.array Jvm.ClassFile.FieldType.byte)), Jvm.Cond.code ({ cls := "java/lang/StringUTF16", name := "newBytesFor", desc := "(I)[B" } : Jvm.MethodName) jdk_52_method_2_code (1 : Nat) (Option.some (Jvm.ClassFile.FieldType.array Jvm.ClassFile.FieldType.byte)), Jvm.Cond.code ({ cls := "java/lang/StringUTF16", name := "newBytesLength", desc := "(I)I" } : Jvm.MethodName) jdk_52_method_3_code (1 : Nat) (Option.some Jvm.ClassFile.FieldType.int), Jvm.Cond.code ({ cls := "java/lang/StringUTF16", name := "putChar", desc := "([BII)V" } : Jvm.MethodName) jdk_52_method_4_code (3 : Nat) (Option.none : Option Jvm.ClassFile.FieldType), Jvm.Cond.code ({ cls := "java/lang/StringUTF16", name := "getChar", desc := "([BI)C" } : Jvm.MethodName) jdk_52_method_5_code (2 : Nat) (Option.some Jvm.ClassFile.FieldType.char), Jvm.Cond.code ({ cls := "java/lang/StringUTF16", name := "coderFromArrayLen", desc := "([BI)B" } : Jvm.MethodName) jdk_52_method_15_code (2 : Nat) (Option.some Jvm.ClassFile.FieldType.byte), Jvm.Cond.code ({ cls := "java/lang/String", name := "charAt", desc := "(I)C" } : Jvm.MethodName) jdk_42_method_56_code (2 : Nat) (Option.some Jvm.ClassFile.FieldType.char), Jvm.Cond.code ({ cls := "java/lang/String", name := "isLatin1", desc := "()Z" } : Jvm.MethodName) jdk_42_method_154_code (1 : Nat) (Option.some Jvm.ClassFile.FieldType.boolean), Jvm.Cond.code ({ cls := "java/lang/StringUTF16", name := "charAt", desc := "([BI)C" } : Jvm.MethodName) jdk_52_method_83_code (2 : Nat) (Option.some Jvm.ClassFile.FieldType.char), Jvm.Cond.code ({ cls := "java/lang/StringUTF16", name := "checkIndex", desc := "(I[B)V" } : Jvm.MethodName) jdk_52_method_91_code (2 : Nat) (Option.none : Option Jvm.ClassFile.FieldType), Jvm.Cond.code ({ cls := "java/lang/StringUTF16", name := "length", desc := "([B)I" } : Jvm.MethodName) jdk_52_method_6_code (1 : Nat) (Option.some Jvm.ClassFile.FieldType.int), Jvm.Cond.code ({ cls := "java/lang/String", name := "checkIndex", desc := "(II)V" } : Jvm.MethodName) jdk_42_method_155_code (2 : Nat) (Option.none : Option Jvm.ClassFile.FieldType), Jvm.Cond.code ({ cls := "jdk/internal/util/Preconditions", name := "checkIndex", desc := "(IILjava/util/function/BiFunction;)I" } : Jvm.MethodName) jdk_41_method_11_code (3 : Nat) (Option.some Jvm.ClassFile.FieldType.int), Jvm.Cond.code ({ cls := "java/lang/StringLatin1", name := "charAt", desc := "([BI)C" } : Jvm.MethodName) jdk_43_method_2_code (2 : Nat) (Option.some Jvm.ClassFile.FieldType.char)]
set_option maxRecDepth 65536 in
theorem codes_eq : words1.filter isCode = codes1 := rfl
theorem w_codes : ∀ c ∈ words1.filter isCode, c.before args0 about1 = true := by
  rw [codes_eq]
  intro c hc
  simp only [codes1, List.mem_cons, List.not_mem_nil, or_false] at hc
  rcases hc with rfl | rfl | rfl | rfl | rfl | rfl | rfl | rfl | rfl | rfl | rfl | rfl | rfl | rfl | rfl | rfl | rfl | rfl | rfl | rfl | rfl | rfl | rfl | rfl | rfl
  · exact w_c0
  · exact w_c1
  · exact w_c2
  · exact w_c3
  · exact w_c4
  · exact w_c5
  · exact w_c6
  · exact w_c7
  · exact w_c8
  · exact w_c9
  · exact w_c10
  · exact w_c11
  · exact w_c12
  · exact w_c13
  · exact w_c14
  · exact w_c15
  · exact w_c16
  · exact w_c17
  · exact w_c18
  · exact w_c19
  · exact w_c20
  · exact w_c21
  · exact w_c22
  · exact w_c23
  · exact w_c24
set_option maxRecDepth 65536 in
theorem w_t1 : (words1.take 24).all (fun c => isCode c || c.before args0 about1) = true := by decide +kernel
set_option maxRecDepth 65536 in
theorem w_t2 : ((words1.drop 24).take 24).all (fun c => isCode c || c.before args0 about1) = true := by decide +kernel
set_option maxRecDepth 65536 in
theorem w_t3 : (((words1.drop 24).drop 24).take 24).all (fun c => isCode c || c.before args0 about1) = true := by decide +kernel
set_option maxRecDepth 65536 in
theorem w_t4 : ((((words1.drop 24).drop 24).drop 24).take 24).all (fun c => isCode c || c.before args0 about1) = true := by decide +kernel
set_option maxRecDepth 65536 in
theorem w_t5 : ((((words1.drop 24).drop 24).drop 24).drop 24).all (fun c => isCode c || c.before args0 about1) = true := by decide +kernel
theorem w_tables : (allAtoms (Jvm.Cond.code x code maxLocals ret :: tables_1)).before args0 about1 = true := by
  rw [allAtoms_all]
  show words1.all (fun c => c.before args0 about1) = true
  refine all_split ?_ w_codes
  rw [← List.take_append_drop 24 words1, List.all_append, w_t1, ← List.take_append_drop 24 (words1.drop 24), List.all_append, w_t2, ← List.take_append_drop 24 ((words1.drop 24).drop 24), List.all_append, w_t3, ← List.take_append_drop 24 (((words1.drop 24).drop 24).drop 24), List.all_append, w_t4, w_t5]
  rfl
set_option maxRecDepth 65536 in
theorem w_rest : rest_1_c.before args0 about1 = true := by decide +kernel
set_option maxRecDepth 65536 in
theorem w_case : (Jvm.Cond.and given_1 narrow_1).before args0 about1 = true := by decide +kernel
set_option maxRecDepth 65536 in
theorem w_consts : constsHeld consts_1 about1 := Jvm.Lit.constsHeldB_iff.mp (by decide +kernel)
theorem w_applies : (headSpec (Jvm.Cond.code x code maxLocals ret :: tables_1) room_1).applies x e0.platform about1 = true :=
  (Spec.applies_iff w_frames).mpr ⟨w_running, w_runnable, w_alone, w_named, w_hears, w_ripe, w_room, w_tables⟩
theorem atStart : AtStart classFile x code maxLocals ret World_1 tables_1 room_1 Calls_1 rest_1 Pre_1 launch0 p0 e0 about1 theMethod args0 below0 :=
  ⟨lists_1, trivial, launch0.admits_env _ _ _, launch0.least_env, fairChoices_fair.cas, fairChoices_fair.clock, w_frames, w_args, w_heap, w_applies, ⟨w_consts, trivial⟩, w_rest, w_case⟩
end start1
theorem witness_1 : WitnessClaimed_1 := ⟨start1.p0, start1.e0, start1.about1, start1.theMethod, start1.args0, start1.below0, start1.atStart⟩
end Jvm.Pilot.@@N@@
