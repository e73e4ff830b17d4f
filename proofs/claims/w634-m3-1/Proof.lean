import JvmDerived
import JvmDerived.Pilot.@@N@@Statement
import JvmDerived.Pilot.@@N@@Code
set_option linter.unusedVariables false
set_option linter.unusedSimpArgs false
/- laws to paste: Road.backV, Road.chN, Road.eqW (cut by pick.py; bodies as the Statement names them) -/
namespace Jvm.Pilot.@@N@@
namespace StrChars
open Jvm Sem ClassFile Op Lib Jvm.Stand Jvm.Free.XT Jvm.Free.ALB Jvm.Free.JM Jvm.Free
open Jvm.Lib.Cold (StaticIs)
/-- a char array whose places are chars -/
def Ch (a : Addr) (A : Cell) (U : State) : Prop := Arr .char a A U ∧ Typed .char A
theorem Ch.mv {a : Addr} {A : Cell} {U U' : State} (h : Ch a A U) (hal : U.vm.Alike U'.vm) (hh : U'.heap = U.heap) : Ch a A U' := ⟨h.1.mv hal hh, h.2⟩
theorem Ch.keep {a : Addr} {A : Cell} {U U' : State} (h : Ch a A U) (hal : U.vm.Alike U'.vm) (hk : U'.heap[a]? = some A) : Ch a A U' := ⟨h.1.keep hal hk, h.2⟩
/-- what place i of a char[]'s cell holds -/
def cv (A : Cell) (i : Nat) : Int32 := match A.slots[i]? with | some (.int x) => x | _ => 0
theorem Ch.get {a : Addr} {A : Cell} {U : State} (h : Ch a A U) {i : Nat} (hi : i < A.slots.size) : A.slots[i]? = some (.int (cv A i)) := by
  have e := Array.getElem?_eq_getElem hi
  have f := h.2 i _ e
  unfold cv; rw [e]
  generalize A.slots[i] = v at f
  cases v <;> simp [fits] at f ⊢
/-- the byte that i2b leaves of a char -/
def lo8 (x : Int32) : Int32 := x.toInt8.toInt32
theorem fits_lo8 (y : Int32) : fits .byte (.int (lo8 y)) = true := by
  have h1 := y.toInt8.le_toInt
  have h2 := y.toInt8.toInt_lt
  simp only [lo8, fits, Bool.and_eq_true, decide_eq_true_eq, Int32.le_iff_toInt_le, Int8.toInt_toInt32, show (-128 : Int32).toInt = -128 from by decide, show (127 : Int32).toInt = 127 from by decide]
  omega
/-- A' is A but that each place j of lo .. hi - 1 holds f j -/
def Laid (A A' : Cell) (lo hi : Nat) (f : Nat → Value) : Prop := A'.cls = A.cls ∧ A'.vm = A.vm ∧ A'.slots.size = A.slots.size ∧ ∀ i, A'.slots[i]? = if lo ≤ i ∧ i < hi then some (f i) else A.slots[i]?
theorem Laid.zero (A : Cell) (lo : Nat) (f : Nat → Value) : Laid A A lo (lo + 0) f := ⟨rfl, rfl, rfl, fun i => by rw [if_neg (by omega)]⟩
theorem Laid.step {A Ak : Cell} {lo k : Nat} {f : Nat → Value} {v : Value} (h : Laid A Ak lo k f) (hlo : lo ≤ k) (hk : k < Ak.slots.size) (hv : v = f k) : Laid A (Ak.setSlot k v) lo (k + 1) f := by
  refine ⟨h.1, h.2.1, by simpa [Cell.setSlot] using h.2.2.1, fun i => ?_⟩
  by_cases e : k = i
  · subst e; rw [Cell.slots_setSlot_self v hk, if_pos (by omega), hv]
  · rw [Cell.slots_setSlot_ne v e, h.2.2.2 i]
    by_cases q : lo ≤ i ∧ i < k
    · rw [if_pos q, if_pos (by omega)]
    · rw [if_neg q, if_neg (by omega)]
def U16 : String := "java/lang/StringUTF16"
namespace Cmp5
def yN : MethodName := ⟨"java/lang/StringUTF16", "compress", "([CI[BII)I"⟩
abbrev yB : ByteArray := jdk_52_method_21_code
theorem d0 : decode yB 0 = .ok (.iconst 0, 1) := by decide +kernel
theorem d1 : decode yB 1 = .ok (.istore 5, 2) := by decide +kernel
theorem d3 : decode yB 3 = .ok (.iload 5, 2) := by decide +kernel
theorem d5 : decode yB 5 = .ok (.iload 4, 2) := by decide +kernel
theorem d7 : decode yB 7 = .ok (.if_icmp (.ge) 37, 3) := by decide +kernel
theorem d10 : decode yB 10 = .ok (.aload_n 0, 1) := by decide +kernel
theorem d11 : decode yB 11 = .ok (.iload_n 1, 1) := by decide +kernel
theorem d12 : decode yB 12 = .ok (.caload, 1) := by decide +kernel
theorem d13 : decode yB 13 = .ok (.istore 6, 2) := by decide +kernel
theorem d15 : decode yB 15 = .ok (.iload 6, 2) := by decide +kernel
theorem d17 : decode yB 17 = .ok (.sipush 255, 3) := by decide +kernel
theorem d20 : decode yB 20 = .ok (.if_icmp (.le) 6, 3) := by decide +kernel
theorem d26 : decode yB 26 = .ok (.aload_n 2, 1) := by decide +kernel
theorem d27 : decode yB 27 = .ok (.iload_n 3, 1) := by decide +kernel
theorem d28 : decode yB 28 = .ok (.iload 6, 2) := by decide +kernel
theorem d30 : decode yB 30 = .ok (.i2b, 1) := by decide +kernel
theorem d31 : decode yB 31 = .ok (.bastore, 1) := by decide +kernel
theorem d32 : decode yB 32 = .ok (.iinc 1 1, 3) := by decide +kernel
theorem d35 : decode yB 35 = .ok (.iinc 3 1, 3) := by decide +kernel
theorem d38 : decode yB 38 = .ok (.iinc 5 1, 3) := by decide +kernel
theorem d41 : decode yB 41 = .ok (.goto (-38), 3) := by decide +kernel
theorem d44 : decode yB 44 = .ok (.iload 4, 2) := by decide +kernel
theorem d46 : decode yB 46 = .ok (.ireturn, 1) := by decide +kernel
def site : List Cond := []
def tab : Cond := tabOf yN yB 7 (some .int) site
def P (b : Addr) (A : Cell) (d : Addr) (B : Cell) (o q len : Nat) (args : Array Value) (s : State) : Prop := args = #[.ref b, .int (Int32.ofNat o), .ref d, .int (Int32.ofNat q), .int (Int32.ofNat len)] ∧ Ch b A s ∧ Arr .byte d B s ∧ b ≠ d ∧ o + len ≤ A.slots.size ∧ q + len ≤ B.slots.size ∧ ∀ i, i < len → ¬ 255 < cv A (o + i)
def E (b : Addr) (A : Cell) (d : Addr) (B : Cell) (o q len : Nat) (r : Option Value) (s u : State) : Prop := r = some (.int (Int32.ofNat len)) ∧ ∃ B', Put d B' s u ∧ Laid B B' q (q + len) (fun j => Value.int (lo8 (cv A (o + (j - q)))))
/-- no char of the range above 255: len; the places written hold each char's low byte -/
theorem law (l : Launch) (b : Addr) (A : Cell) (d : Addr) (B : Cell) (o q len : Nat) : Law l yN 5 5 0 0 yB 7 (some .int) site (P b A d B o q len) (E b A d B o q len) (copyLocs d q len) 0 0 := by
  refine Law.of_walk (plainFor_of_name (by decide +kernel)) (by decide +kernel) (by decide +kernel) (by decide) (fun _ _ h => by rw [h.1]; rfl) (fun _ U U' hal hh h => ⟨h.1, h.2.1.mv hal hh, h.2.2.1.mv hal hh, h.2.2.2⟩) (fun r U U' V V' h1 hal h2 h => ⟨h.1, h.2.elim fun B' q => ⟨B', q.1.mv h1 h2, q.2⟩⟩) ?_
  intro p e s m args below meth c s₁ X0 hexec hbytes hml hret hlk hnm hown hh0 W hP
  obtain ⟨rfl, hA, hB, hne, l1, l2, hp⟩ := hP
  have c1 : Steps p.tables e below (s₁.setTop (entryFrame m #[.ref b, .int (Int32.ofNat o), .ref d, .int (Int32.ofNat q), .int (Int32.ofNat len)] 7)) (s₁.setTop (mkF m 0 #[.val (.ref b), .val (.int (Int32.ofNat o)), .val (.ref d), .val (.int (Int32.ofNat q)), .val (.int (Int32.ofNat len)), .unset, .unset] [])) := entry rfl
  have hA0 := hA.1.mv X0.warmed.alike hh0
  have hB0 := hB.mv X0.warmed.alike hh0
  have a31 := hA.1.2.2.2
  have c2 : Steps p.tables e below (s₁.setTop (entryFrame m #[.ref b, .int (Int32.ofNat o), .ref d, .int (Int32.ofNat q), .int (Int32.ofNat len)] 7)) (s₁.setTop (mkF m 3 #[.val (.ref b), .val (.int (Int32.ofNat o)), .val (.ref d), .val (.int (Int32.ofNat q)), .val (.int (Int32.ofNat len)), .val (.int 0), .unset] [])) := c1.trans (by
    refine iconstV X0.here hexec rfl 0 (hb hbytes d0) (by decide) ?_
    refine XS.istore X0.here hexec rfl (hb hbytes d1) rfl rfl ?_
    exact Steps.refl _)
  have loop : ∀ (r i : Nat), i + r = len → ∀ (z : Slot), (z = .unset ∨ ∃ w, z = .val w ∧ w.category = 1) → ∀ (Tl : State) (Bk : Cell), Stand p l e { frames := 0, locals := 0, cells := 0, slots := 0 } s m #[.ref b, .int (Int32.ofNat o), .ref d, .int (Int32.ofNat q), .int (Int32.ofNat len)] below meth c Tl ([] ++ copyLocs d q i) 0 0 → Put d Bk s₁ Tl → Laid B Bk q (q + i) (fun j => Value.int (lo8 (cv A (o + (j - q))))) →
      Steps p.tables e below (s₁.setTop (entryFrame m #[.ref b, .int (Int32.ofNat o), .ref d, .int (Int32.ofNat q), .int (Int32.ofNat len)] 7)) (Tl.setTop (mkF m 3 #[.val (.ref b), .val (.int (Int32.ofNat (o + i))), .val (.ref d), .val (.int (Int32.ofNat (q + i))), .val (.int (Int32.ofNat len)), .val (.int (Int32.ofNat i)), z] [])) → ∃ (T' : State) (B' : Cell) (z' : Slot), Stand p l e { frames := 0, locals := 0, cells := 0, slots := 0 } s m #[.ref b, .int (Int32.ofNat o), .ref d, .int (Int32.ofNat q), .int (Int32.ofNat len)] below meth c T' ([] ++ copyLocs d q len) 0 0 ∧ Put d B' s₁ T' ∧ Laid B B' q (q + len) (fun j => Value.int (lo8 (cv A (o + (j - q))))) ∧
      Steps p.tables e below (s₁.setTop (entryFrame m #[.ref b, .int (Int32.ofNat o), .ref d, .int (Int32.ofNat q), .int (Int32.ofNat len)] 7)) (T'.setTop (mkF m 3 #[.val (.ref b), .val (.int (Int32.ofNat (o + len))), .val (.ref d), .val (.int (Int32.ofNat (q + len))), .val (.int (Int32.ofNat len)), .val (.int (Int32.ofNat len)), z'] [])) := by
    intro r
    induction r with
    | zero =>
      intro i hi z hz Tl Bk Xl pl fl cl
      have hil : i = len := by omega
      rw [hil] at Xl fl cl
      exact ⟨Tl, Bk, z, Xl, pl, fl, cl⟩
    | succ r ih =>
      intro i hi z hz Tl Bk Xl pl fl cl
      have all := X0.warmed.alike.symm.trans Xl.warmed.alike
      have hAl := hA0.keep all (pl.other hne hA0.1)
      have hBk := hB0.like all pl.1 fl.1 fl.2.1 fl.2.2.1
      have hlt : q + i < Bk.slots.size := by rw [fl.2.2.1]; omega
      have c3 : Steps p.tables e below (s₁.setTop (entryFrame m #[.ref b, .int (Int32.ofNat o), .ref d, .int (Int32.ofNat q), .int (Int32.ofNat len)] 7)) (Tl.setTop (mkF m 12 #[.val (.ref b), .val (.int (Int32.ofNat (o + i))), .val (.ref d), .val (.int (Int32.ofNat (q + i))), .val (.int (Int32.ofNat len)), .val (.int (Int32.ofNat i)), z] [.int (Int32.ofNat (o + i)), .ref b])) := cl.trans (by
        refine XS.iload Xl.here hexec rfl (hb hbytes d3) rfl ?_
        refine XS.iload Xl.here hexec rfl (hb hbytes d5) rfl ?_
        refine XS.icmpNo Xl.here hexec rfl (hb hbytes d7) rfl (ii_ge_f (lt32 (by omega) (by omega))) ?_
        refine XS.aloadN Xl.here hexec rfl (hb hbytes d10) rfl rfl ?_
        refine XS.iloadN Xl.here hexec rfl (hb hbytes d11) rfl ?_
        exact Steps.refl _)
      have c4 : Steps p.tables e below (s₁.setTop (entryFrame m #[.ref b, .int (Int32.ofNat o), .ref d, .int (Int32.ofNat q), .int (Int32.ofNat len)] 7)) (Tl.setTop (mkF m 13 #[.val (.ref b), .val (.int (Int32.ofNat (o + i))), .val (.ref d), .val (.int (Int32.ofNat (q + i))), .val (.int (Int32.ofNat len)), .val (.int (Int32.ofNat i)), z] [.int (cv A (o + i))])) := c3.trans (by
        refine Xl.aget hexec hAl rfl (hA.get (i := o + i) (by omega)) rfl rfl (hb hbytes d12) ?_
        exact Steps.refl _)
      have c5 : Steps p.tables e below (s₁.setTop (entryFrame m #[.ref b, .int (Int32.ofNat o), .ref d, .int (Int32.ofNat q), .int (Int32.ofNat len)] 7)) (Tl.setTop (mkF m 15 #[.val (.ref b), .val (.int (Int32.ofNat (o + i))), .val (.ref d), .val (.int (Int32.ofNat (q + i))), .val (.int (Int32.ofNat len)), .val (.int (Int32.ofNat i)), .val (.int (cv A (o + i)))] [])) := c4.trans (by
        refine XS.istoreS Xl.here hexec rfl (hb hbytes d13) rfl rfl hz ?_
        exact Steps.refl _)
      have c6 : Steps p.tables e below (s₁.setTop (entryFrame m #[.ref b, .int (Int32.ofNat o), .ref d, .int (Int32.ofNat q), .int (Int32.ofNat len)] 7)) (Tl.setTop (mkF m 31 #[.val (.ref b), .val (.int (Int32.ofNat (o + i))), .val (.ref d), .val (.int (Int32.ofNat (q + i))), .val (.int (Int32.ofNat len)), .val (.int (Int32.ofNat i)), .val (.int (cv A (o + i)))] [.int (lo8 (cv A (o + i))), .int (Int32.ofNat (q + i)), .ref d])) := c5.trans (by
        refine XS.iload Xl.here hexec rfl (hb hbytes d15) rfl ?_
        refine sipushV Xl.here hexec rfl 255 (hb hbytes d17) (by decide) ?_
        refine XS.icmpYes Xl.here hexec rfl (pc0 := 20) rfl (hb hbytes d20) rfl (ii_le_t (hp i (by omega))) (by decide) rfl ?_
        refine XS.aloadN Xl.here hexec rfl (hb hbytes d26) rfl rfl ?_
        refine XS.iloadN Xl.here hexec rfl (hb hbytes d27) rfl ?_
        refine XS.iload Xl.here hexec rfl (hb hbytes d28) rfl ?_
        refine i2b Xl.here hexec rfl (hb hbytes d30) rfl ?_
        exact Steps.refl _)
      obtain ⟨T7, X7, p7, st7⟩ := Xl.aput hexec hBk rfl hlt rfl (fits_lo8 (cv A (o + i))) (g := (mkF m 31 #[.val (.ref b), .val (.int (Int32.ofNat (o + i))), .val (.ref d), .val (.int (Int32.ofNat (q + i))), .val (.int (Int32.ofNat len)), .val (.int (Int32.ofNat i)), .val (.int (cv A (o + i)))] [.int (lo8 (cv A (o + i))), .int (Int32.ofNat (q + i)), .ref d])) rfl (rest := []) rfl (hb hbytes d31)
      have c8 : Steps p.tables e below (s₁.setTop (entryFrame m #[.ref b, .int (Int32.ofNat o), .ref d, .int (Int32.ofNat q), .int (Int32.ofNat len)] 7)) (T7.setTop (mkF m 32 #[.val (.ref b), .val (.int (Int32.ofNat (o + i))), .val (.ref d), .val (.int (Int32.ofNat (q + i))), .val (.int (Int32.ofNat len)), .val (.int (Int32.ofNat i)), .val (.int (cv A (o + i)))] [])) := c6.trans (st7 _ (Steps.refl _))
      have c9 : Steps p.tables e below (s₁.setTop (entryFrame m #[.ref b, .int (Int32.ofNat o), .ref d, .int (Int32.ofNat q), .int (Int32.ofNat len)] 7)) (T7.setTop (mkF m 3 #[.val (.ref b), .val (.int (Int32.ofNat (o + i) + 1)), .val (.ref d), .val (.int (Int32.ofNat (q + i) + 1)), .val (.int (Int32.ofNat len)), .val (.int (Int32.ofNat i + 1)), .val (.int (cv A (o + i)))] [])) := c8.trans (by
        refine iincV X7.here hexec rfl 1 (hb hbytes d32) (by decide) rfl rfl ?_
        refine iincV X7.here hexec rfl 1 (hb hbytes d35) (by decide) rfl rfl ?_
        refine iincV X7.here hexec rfl 1 (hb hbytes d38) (by decide) rfl rfl ?_
        refine XS.goto X7.here hexec rfl (pc0 := 41) rfl (hb hbytes d41) (by decide) rfl ?_
        exact Steps.refl _)
      have c10 : Steps p.tables e below (s₁.setTop (entryFrame m #[.ref b, .int (Int32.ofNat o), .ref d, .int (Int32.ofNat q), .int (Int32.ofNat len)] 7)) (T7.setTop (mkF m 3 #[.val (.ref b), .val (.int (Int32.ofNat (o + (i + 1)))), .val (.ref d), .val (.int (Int32.ofNat (q + (i + 1)))), .val (.int (Int32.ofNat len)), .val (.int (Int32.ofNat (i + 1))), .val (.int (cv A (o + i)))] [])) := by
        have := c9
        rw [succ32, succ32, succ32] at this
        exact this
      exact ih (i + 1) (by omega) _ (Or.inr ⟨_, rfl, rfl⟩) T7 _ (by rw [copyLocs_step, ← List.append_assoc]; exact X7) (pl.trans p7) (fl.step (by omega) hlt (by simp)) c10
  obtain ⟨T9, B9, z9, X9, p9, f9, g9⟩ := loop len 0 (by omega) .unset (Or.inl rfl) s₁ B (by simpa [copyLocs] using X0) ⟨hB0.1, fun _ _ => rfl, rfl⟩ (Laid.zero _ _ _) c2
  have c11 : Steps p.tables e below (s₁.setTop (entryFrame m #[.ref b, .int (Int32.ofNat o), .ref d, .int (Int32.ofNat q), .int (Int32.ofNat len)] 7)) (T9.setTop (mkF m 46 #[.val (.ref b), .val (.int (Int32.ofNat (o + len))), .val (.ref d), .val (.int (Int32.ofNat (q + len))), .val (.int (Int32.ofNat len)), .val (.int (Int32.ofNat len)), z9] [.int (Int32.ofNat len)])) := g9.trans (by
    refine XS.iload X9.here hexec rfl (hb hbytes d3) rfl ?_
    refine XS.iload X9.here hexec rfl (hb hbytes d5) rfl ?_
    refine XS.icmpYes X9.here hexec rfl (pc0 := 7) rfl (hb hbytes d7) rfl (ii_ge_t (nlt32 (by omega) (Nat.le_refl _))) (by decide) rfl ?_
    refine XS.iload X9.here hexec rfl (hb hbytes d44) rfl ?_
    exact Steps.refl _)
  exact ⟨T9, some (.int (Int32.ofNat len)), _, _, _, X9, by simp, rfl, rfl, (fun h => by cases h), ⟨rfl, B9, p9.from hh0, f9⟩, fun fs hl => c11.trans (X9.ireturnOut hexec hret rfl (Or.inl rfl) (hb hbytes d46) hl)⟩
end Cmp5
namespace Cmp3
def yN : MethodName := ⟨"java/lang/StringUTF16", "compress", "([CII)[B"⟩
abbrev yB : ByteArray := jdk_52_method_16_code
theorem d0 : decode yB 0 = .ok (.iload_n 2, 1) := by decide +kernel
theorem d1 : decode yB 1 = .ok (.newarray .byte, 2) := by decide +kernel
theorem d3 : decode yB 3 = .ok (.astore_n 3, 1) := by decide +kernel
theorem d4 : decode yB 4 = .ok (.aload_n 0, 1) := by decide +kernel
theorem d5 : decode yB 5 = .ok (.iload_n 1, 1) := by decide +kernel
theorem d6 : decode yB 6 = .ok (.aload_n 3, 1) := by decide +kernel
theorem d7 : decode yB 7 = .ok (.iconst 0, 1) := by decide +kernel
theorem d8 : decode yB 8 = .ok (.iload_n 2, 1) := by decide +kernel
theorem d9 : decode yB 9 = .ok (.invokestatic 115, 3) := by decide +kernel
theorem d12 : decode yB 12 = .ok (.istore 4, 2) := by decide +kernel
theorem d14 : decode yB 14 = .ok (.iload 4, 2) := by decide +kernel
theorem d16 : decode yB 16 = .ok (.iload_n 2, 1) := by decide +kernel
theorem d17 : decode yB 17 = .ok (.if_icmp (.eq) 40, 3) := by decide +kernel
theorem d57 : decode yB 57 = .ok (.aload_n 3, 1) := by decide +kernel
theorem d58 : decode yB 58 = .ok (.areturn, 1) := by decide +kernel
def site : List Cond := [.arrayClass .byte, Cmp5.tab] ++ staticW U16 115 Cmp5.yN
def tab : Cond := tabOf yN yB 6 (some (.array .byte)) site
def P (b : Addr) (A : Cell) (o len : Nat) (args : Array Value) (s : State) : Prop := args = #[.ref b, .int (Int32.ofNat o), .int (Int32.ofNat len)] ∧ Ch b A s ∧ o + len ≤ A.slots.size ∧ len ≤ 536870912 ∧ ∀ i, i < len → ¬ 255 < cv A (o + i)
def E (b : Addr) (A : Cell) (o len : Nat) (r : Option Value) (s u : State) : Prop := NewArr .byte "[B" len (fun j => .int (lo8 (cv A (o + j)))) r s u ∧ u.heap.size = s.heap.size + 1
/-- no char of the range above 255: a new byte[] of their low bytes -/
theorem law (l : Launch) (b : Addr) (A : Cell) (o len : Nat) : Law l yN 3 3 1 18 yB 6 (some (.array .byte)) site (P b A o len) (E b A o len) [] 1 len := by
  refine Law.of_walk (plainFor_of_name (by decide +kernel)) (by decide +kernel) (by decide +kernel) (by decide) (fun _ _ h => by rw [h.1]; rfl) (fun _ U U' hal hh h => ⟨h.1, h.2.1.mv hal hh, h.2.2⟩) (fun r U U' V V' h1 hal h2 h => ⟨NewArr.mv r U U' V V' h1 hal h2 h.1, by rw [h1, h2]; exact h.2⟩) ?_
  intro p e s m args below meth c s₁ X0 hexec hbytes hml hret hlk hnm hown hh0 W hP
  obtain ⟨rfl, hA, l1, l2, hp⟩ := hP
  have a31 := hA.1.2.2.2
  have c1 : Steps p.tables e below (s₁.setTop (entryFrame m #[.ref b, .int (Int32.ofNat o), .int (Int32.ofNat len)] 6)) (s₁.setTop (mkF m 0 #[.val (.ref b), .val (.int (Int32.ofNat o)), .val (.int (Int32.ofNat len)), .unset, .unset, .unset] [])) := entry rfl
  have c2 : Steps p.tables e below (s₁.setTop (entryFrame m #[.ref b, .int (Int32.ofNat o), .int (Int32.ofNat len)] 6)) (s₁.setTop (mkF m 1 #[.val (.ref b), .val (.int (Int32.ofNat o)), .val (.int (Int32.ofNat len)), .unset, .unset, .unset] [.int (Int32.ofNat len)])) := c1.trans (by
    refine XS.iloadN X0.here hexec rfl (hb hbytes d0) rfl ?_
    exact Steps.refl _)
  obtain ⟨T3, B3, X3, ba3, bs3, bv3, bh3, bf3, st3⟩ := X0.anew hexec (atype := .byte) (wk W (.arrayClass .byte)) rfl (by show len * 1 ≤ _; omega) (by omega) (g := (mkF m 1 #[.val (.ref b), .val (.int (Int32.ofNat o)), .val (.int (Int32.ofNat len)), .unset, .unset, .unset] [.int (Int32.ofNat len)])) rfl (hb hbytes d1) (rest := []) rfl (Nat.le_refl _) (by show 0 + len ≤ len; omega)
  rw [hh0] at ba3 st3
  have kp3 : XT.Kept s T3 := (XT.Kept.of_eq hh0).push bh3
  have hA3 := hA.keep X3.warmed.alike (kp3 _ _ hA.1.1)
  have hne : b ≠ s.heap.size := hA.1.ne
  have c4 : Steps p.tables e below (s₁.setTop (entryFrame m #[.ref b, .int (Int32.ofNat o), .int (Int32.ofNat len)] 6)) (T3.setTop (mkF m 3 #[.val (.ref b), .val (.int (Int32.ofNat o)), .val (.int (Int32.ofNat len)), .unset, .unset, .unset] [.ref s.heap.size])) := c2.trans (st3 _ (Steps.refl _))
  have c5 : Steps p.tables e below (s₁.setTop (entryFrame m #[.ref b, .int (Int32.ofNat o), .int (Int32.ofNat len)] 6)) (T3.setTop (mkF m 9 #[.val (.ref b), .val (.int (Int32.ofNat o)), .val (.int (Int32.ofNat len)), .val (.ref s.heap.size), .unset, .unset] [.int (Int32.ofNat len), .int 0, .ref s.heap.size, .int (Int32.ofNat o), .ref b])) := c4.trans (by
    refine XS.astoreN X3.here hexec rfl (hb hbytes d3) rfl rfl rfl ?_
    refine XS.aloadN X3.here hexec rfl (hb hbytes d4) rfl rfl ?_
    refine XS.iloadN X3.here hexec rfl (hb hbytes d5) rfl ?_
    refine XS.aloadN X3.here hexec rfl (hb hbytes d6) rfl rfl ?_
    refine iconstV X3.here hexec rfl 0 (hb hbytes d7) (by decide) ?_
    refine XS.iloadN X3.here hexec rfl (hb hbytes d8) rfl ?_
    exact Steps.refl _)
  obtain ⟨v6, T6, X6, E6, g6⟩ := X3.callS hexec (Cmp5.law l b A s.heap.size B3 o 0 len) hown (wks W (staticW U16 115 Cmp5.yN)) (wk W Cmp5.tab) (W := 0) (Nat.le_of_ble_eq_true rfl) (Nat.le_of_ble_eq_true rfl) (Nat.le_refl _) (by show 0 + len + 0 ≤ len; omega) (g := (mkF m 9 #[.val (.ref b), .val (.int (Int32.ofNat o)), .val (.int (Int32.ofNat len)), .val (.ref s.heap.size), .unset, .unset] [.int (Int32.ofNat len), .int (Int32.ofNat 0), .ref s.heap.size, .int (Int32.ofNat o), .ref b])) rfl (by rw [hml]; rfl) c5 (argsL := [.ref b, .int (Int32.ofNat o), .ref s.heap.size, .int (Int32.ofNat 0), .int (Int32.ofNat len)]) (rest := []) rfl rfl (by show 2 * 0 + 0 ≤ _; decide) (hb hbytes d9) (⟨rfl, hA3, ba3, hne, l1, by rw [bs3]; simp, hp⟩)
  obtain ⟨rfl, B6, p6, f6⟩ := E6
  have c7 : Steps p.tables e below (s₁.setTop (entryFrame m #[.ref b, .int (Int32.ofNat o), .int (Int32.ofNat len)] 6)) (T6.setTop (mkF m 12 #[.val (.ref b), .val (.int (Int32.ofNat o)), .val (.int (Int32.ofNat len)), .val (.ref s.heap.size), .unset, .unset] [.int (Int32.ofNat len)])) := g6
  have c8 : Steps p.tables e below (s₁.setTop (entryFrame m #[.ref b, .int (Int32.ofNat o), .int (Int32.ofNat len)] 6)) (T6.setTop (mkF m 58 #[.val (.ref b), .val (.int (Int32.ofNat o)), .val (.int (Int32.ofNat len)), .val (.ref s.heap.size), .val (.int (Int32.ofNat len)), .unset] [.ref s.heap.size])) := c7.trans (by
    refine XS.istore X6.here hexec rfl (hb hbytes d12) rfl rfl ?_
    refine XS.iload X6.here hexec rfl (hb hbytes d14) rfl ?_
    refine XS.iloadN X6.here hexec rfl (hb hbytes d16) rfl ?_
    refine XS.icmpYes X6.here hexec rfl (pc0 := 17) rfl (hb hbytes d17) rfl (ii_eq_t rfl) (by decide) rfl ?_
    refine XS.aloadN X6.here hexec rfl (hb hbytes d57) rfl rfl ?_
    exact Steps.refl _)
  have X8 := X6.wide (L' := []) (cells' := 1) (slots' := len) (fun x hx hlt => by
    simp only [List.nil_append, copyLocs, List.mem_map, List.mem_range] at hx
    obtain ⟨i, -, rfl⟩ := hx
    exact absurd hlt (Nat.lt_irrefl _)) (Nat.le_refl _) (by omega)
  exact ⟨T6, some (.ref s.heap.size), _, _, _, X8, rfl, rfl, rfl, (fun h => by cases h), ⟨⟨rfl, B6, ba3.like (X3.warmed.alike.symm.trans X6.warmed.alike) p6.1 f6.1 f6.2.1 f6.2.2.1, f6.2.1.trans bv3, by rw [X6.warmed.alike.findClass, f6.1]; exact bf3, by rw [f6.2.2.1, bs3]; simp, fun j hj => by rw [f6.2.2.2 j, if_pos (by omega)]; rfl, kp3.put p6 (Nat.le_refl _)⟩, by rw [p6.2.2, bh3, hh0]; simp⟩, fun fs hl => c8.trans (X8.areturnOut hexec rfl hret rfl (hb hbytes d58) hl)⟩
end Cmp3
namespace CodL
def yN : MethodName := ⟨"java/lang/StringUTF16", "coderFromArrayLen", "([BI)B"⟩
abbrev yB : ByteArray := jdk_52_method_15_code
theorem d0 : decode yB 0 = .ok (.iload_n 1, 1) := by decide +kernel
theorem d1 : decode yB 1 = .ok (.aload_n 0, 1) := by decide +kernel
theorem d2 : decode yB 2 = .ok (.arraylength, 1) := by decide +kernel
theorem d3 : decode yB 3 = .ok (.isub, 1) := by decide +kernel
theorem d4 : decode yB 4 = .ok (.bipush 31, 2) := by decide +kernel
theorem d6 : decode yB 6 = .ok (.iushr, 1) := by decide +kernel
theorem d7 : decode yB 7 = .ok (.i2b, 1) := by decide +kernel
theorem d8 : decode yB 8 = .ok (.ireturn, 1) := by decide +kernel
def site : List Cond := []
def tab : Cond := tabOf yN yB 2 (some .byte) site
def P (d : Addr) (B : Cell) (args : Array Value) (s : State) : Prop := args = #[.ref d, .int (Int32.ofNat B.slots.size)] ∧ Arr .byte d B s
def E (r : Option Value) (s u : State) : Prop := XT.PureE (some (.int 0)) r s u
/-- an array as long as the number of chars: LATIN1 -/
theorem law (l : Launch) (d : Addr) (B : Cell) : Law l yN 2 2 0 0 yB 2 (some .byte) site (P d B) E [] 0 0 := by
  refine Law.of_walk (plainFor_of_name (by decide +kernel)) (by decide +kernel) (by decide +kernel) (by decide) (fun _ _ h => by rw [h.1]; rfl) (fun _ U U' hal hh h => ⟨h.1, h.2.mv hal hh⟩) (fun r U U' V V' h1 hal h2 h => XT.PureE.mv r U U' V V' h1 hal h2 h) ?_
  intro p e s m args below meth c s₁ X0 hexec hbytes hml hret hlk hnm hown hh0 W hP
  obtain ⟨rfl, hB⟩ := hP
  have hB0 := hB.mv X0.warmed.alike hh0
  have c1 : Steps p.tables e below (s₁.setTop (entryFrame m #[.ref d, .int (Int32.ofNat B.slots.size)] 2)) (s₁.setTop (mkF m 0 #[.val (.ref d), .val (.int (Int32.ofNat B.slots.size))] [])) := entry rfl
  have c2 : Steps p.tables e below (s₁.setTop (entryFrame m #[.ref d, .int (Int32.ofNat B.slots.size)] 2)) (s₁.setTop (mkF m 2 #[.val (.ref d), .val (.int (Int32.ofNat B.slots.size))] [.ref d, .int (Int32.ofNat B.slots.size)])) := c1.trans (by
    refine XS.iloadN X0.here hexec rfl (hb hbytes d0) rfl ?_
    refine XS.aloadN X0.here hexec rfl (hb hbytes d1) rfl rfl ?_
    exact Steps.refl _)
  have c3 : Steps p.tables e below (s₁.setTop (entryFrame m #[.ref d, .int (Int32.ofNat B.slots.size)] 2)) (s₁.setTop (mkF m 8 #[.val (.ref d), .val (.int (Int32.ofNat B.slots.size))] [.int (lo8 (ushr (Int32.ofNat B.slots.size - Int32.ofNat B.slots.size) 31))])) := c2.trans (by
    refine X0.alen hexec hB0 rfl rfl (hb hbytes d2) ?_
    refine XS.isub X0.here hexec rfl (hb hbytes d3) rfl ?_
    refine bipushV X0.here hexec rfl 31 (hb hbytes d4) (by decide) ?_
    refine iushr X0.here hexec rfl (hb hbytes d6) rfl ?_
    refine i2b X0.here hexec rfl (hb hbytes d7) rfl ?_
    exact Steps.refl _)
  have e0 : lo8 (ushr (Int32.ofNat B.slots.size - Int32.ofNat B.slots.size) 31) = 0 := by rw [Int32.sub_self]; decide
  rw [e0] at c3
  exact ⟨s₁, some (.int 0), _, _, _, X0, rfl, rfl, rfl, (fun h => by cases h), ⟨rfl, hh0⟩, fun fs hl => c3.trans (X0.ireturnOut hexec hret rfl (Or.inr (Or.inr (Or.inl rfl))) (hb hbytes d8) hl)⟩
end CodL
/-- the String at a is Latin-1 over a new byte[] (the heap's one new cell): the low bytes of the len chars of A from o on; every cell but a is kept -/
def Got (a : Addr) (D : Cell) (fV fC : Field) (A : Cell) (o len : Nat) (r : Option Value) (s u : State) : Prop := r = none ∧ ∃ D' V : Cell, Blank "java/lang/String" a D' u ∧ Same D D' [fV.slot, fC.slot] ∧ D'.slots[fV.slot]? = some (.ref s.heap.size) ∧ D'.slots[fC.slot]? = some (.int 0) ∧ Arr .byte s.heap.size V u ∧ V.vm = .none ∧ u.vm.findClass "[B" = some V.cls ∧ V.slots.size = len ∧ (∀ j, j < len → V.slots[j]? = some (.int (lo8 (cv A (o + j))))) ∧ (∀ (y : Addr) (c : Cell), y ≠ a → s.heap[y]? = some c → u.heap[y]? = some c) ∧ u.heap.size = s.heap.size + 1
theorem Got.mv {a : Addr} {D A : Cell} {fV fC : Field} {o len : Nat} : ∀ r (U U' V V' : State), U'.heap = U.heap → V.vm.Alike V'.vm → V'.heap = V.heap → Got a D fV fC A o len r U V → Got a D fV fC A o len r U' V' :=
  fun r U U' V V' h1 hal h2 ⟨e0, D', X, a1, a2, a3, a4, a5, a6, a7, a8, a9, a10, a11⟩ => ⟨e0, D', X, a1.mv hal h2, a2, by rw [h1]; exact a3, a4, by rw [h1]; exact a5.mv hal h2, a6, by rw [hal.findClass]; exact a7, a8, a9, by rw [h1, h2]; exact a10, by rw [h1, h2]; exact a11⟩
namespace New4
def yN : MethodName := ⟨"java/lang/String", "<init>", "([CIILjava/lang/Void;)V"⟩
abbrev yB : ByteArray := jdk_42_method_149_code
theorem d0 : decode yB 0 = .ok (.aload_n 0, 1) := by decide +kernel
theorem d1 : decode yB 1 = .ok (.invokespecial 1, 3) := by decide +kernel
theorem d4 : decode yB 4 = .ok (.iload_n 3, 1) := by decide +kernel
theorem d5 : decode yB 5 = .ok (.ifCond (.ne) 22, 3) := by decide +kernel
theorem d27 : decode yB 27 = .ok (.getstatic 38, 3) := by decide +kernel
theorem d30 : decode yB 30 = .ok (.ifCond (.eq) 28, 3) := by decide +kernel
theorem d33 : decode yB 33 = .ok (.aload_n 1, 1) := by decide +kernel
theorem d34 : decode yB 34 = .ok (.iload_n 2, 1) := by decide +kernel
theorem d35 : decode yB 35 = .ok (.iload_n 3, 1) := by decide +kernel
theorem d36 : decode yB 36 = .ok (.invokestatic 177, 3) := by decide +kernel
theorem d39 : decode yB 39 = .ok (.astore 5, 2) := by decide +kernel
theorem d41 : decode yB 41 = .ok (.aload_n 0, 1) := by decide +kernel
theorem d42 : decode yB 42 = .ok (.aload 5, 2) := by decide +kernel
theorem d44 : decode yB 44 = .ok (.iload_n 3, 1) := by decide +kernel
theorem d45 : decode yB 45 = .ok (.invokestatic 47, 3) := by decide +kernel
theorem d48 : decode yB 48 = .ok (.putfield 15, 3) := by decide +kernel
theorem d51 : decode yB 51 = .ok (.aload_n 0, 1) := by decide +kernel
theorem d52 : decode yB 52 = .ok (.aload 5, 2) := by decide +kernel
theorem d54 : decode yB 54 = .ok (.putfield 9, 3) := by decide +kernel
theorem d57 : decode yB 57 = .ok (.return_, 1) := by decide +kernel
def site : List Cond := [.fieldLink "java/lang/String" 38 "java/lang/String" "COMPACT_STRINGS" "Z", Cmp3.tab, CodL.tab, .laysFinal "java/lang/String" "java/lang/String" "value" "[B", .fieldLink "java/lang/String" 9 "java/lang/String" "value" "[B", .laysFinal "java/lang/String" "java/lang/String" "coder" "B", .fieldLink "java/lang/String" 15 "java/lang/String" "coder" "B"] ++ objW "java/lang/String" 1 ++ staticW "java/lang/String" 177 Cmp3.yN ++ staticW "java/lang/String" 47 CodL.yN
def tab : Cond := tabOf yN yB 6 none site
def P (a : Addr) (D : Cell) (fV fC : Field) (b : Addr) (A : Cell) (z : Int32) (o len : Nat) (args : Array Value) (s : State) : Prop := args = #[.ref a, .ref b, .int (Int32.ofNat o), .int (Int32.ofNat len), .null] ∧ Blank "java/lang/String" a D s ∧ Found "java/lang/String" "value" "[B" fV s ∧ Found "java/lang/String" "coder" "B" fC s ∧ Ch b A s ∧ StaticIs s "java/lang/String" "COMPACT_STRINGS" "Z" (.int z) ∧ ¬ z = 0 ∧ 0 < len ∧ o + len ≤ A.slots.size ∧ len ≤ 536870912 ∧ ∀ i, i < len → ¬ 255 < cv A (o + i)
def E (a : Addr) (D : Cell) (fV fC : Field) (A : Cell) (o len : Nat) (r : Option Value) (s u : State) : Prop := Got a D fV fC A o len r s u
/-- len > 0, no char of the range above 255: a Latin-1 String of their low bytes -/
theorem law (l : Launch) (a : Addr) (D : Cell) (fV fC : Field) (b : Addr) (A : Cell) (z : Int32) (o len : Nat) : Law l yN 5 4 2 35 yB 6 none site (P a D fV fC b A z o len) (E a D fV fC A o len) [⟨a, fC.slot⟩, ⟨a, fV.slot⟩] 1 len := by
  refine Law.of_walk (plainFor_of_name (by decide +kernel)) (by decide +kernel) (by decide +kernel) (by decide) (fun _ _ h => by rw [h.1]; rfl) (fun _ U U' hal hh h => ⟨h.1, h.2.1.mv hal hh, h.2.2.1.al hal, h.2.2.2.1.al hal, h.2.2.2.2.1.mv hal hh, h.2.2.2.2.2.1.there hal hh, h.2.2.2.2.2.2⟩) (fun r U U' V V' h1 hal h2 h => Got.mv r U U' V V' h1 hal h2 h) ?_
  intro p e s m args below meth c s₁ X0 hexec hbytes hml hret hlk hnm hown hh0 W hP
  obtain ⟨rfl, hB, f1, f2, hA, s1, hz, l0, l1, l2, hp⟩ := hP
  have a31 := hA.1.2.2.2
  have c1 : Steps p.tables e below (s₁.setTop (entryFrame m #[.ref a, .ref b, .int (Int32.ofNat o), .int (Int32.ofNat len), .null] 6)) (s₁.setTop (mkF m 0 #[.val (.ref a), .val (.ref b), .val (.int (Int32.ofNat o)), .val (.int (Int32.ofNat len)), .val .null, .unset] [])) := entry rfl
  have c2 : Steps p.tables e below (s₁.setTop (entryFrame m #[.ref a, .ref b, .int (Int32.ofNat o), .int (Int32.ofNat len), .null] 6)) (s₁.setTop (mkF m 1 #[.val (.ref a), .val (.ref b), .val (.int (Int32.ofNat o)), .val (.int (Int32.ofNat len)), .val .null, .unset] [.ref a])) := c1.trans (by
    refine XS.aloadN X0.here hexec rfl (hb hbytes d0) rfl rfl ?_
    exact Steps.refl _)
  obtain ⟨T3, X3, q3, st3⟩ := X0.oinit hexec hown (wks W (objW "java/lang/String" 1)) (g := (mkF m 1 #[.val (.ref a), .val (.ref b), .val (.int (Int32.ofNat o)), .val (.int (Int32.ofNat len)), .val .null, .unset] [.ref a])) rfl (by rw [hml]; rfl) (rest := []) rfl (hb hbytes d1) (W := 0) (by show 2 * 0 + 0 ≤ _; decide) (Nat.le_of_ble_eq_true rfl) (Nat.le_of_ble_eq_true rfl)
  have hh3 := q3.trans hh0
  have c4 : Steps p.tables e below (s₁.setTop (entryFrame m #[.ref a, .ref b, .int (Int32.ofNat o), .int (Int32.ofNat len), .null] 6)) (T3.setTop (mkF m 27 #[.val (.ref a), .val (.ref b), .val (.int (Int32.ofNat o)), .val (.int (Int32.ofNat len)), .val .null, .unset] [])) := (c2.trans (st3 _ (Steps.refl _))).trans (by
    refine XS.iloadN X3.here hexec rfl (hb hbytes d4) rfl ?_
    refine XS.ifYes X3.here hexec rfl (pc0 := 5) rfl (hb hbytes d5) rfl (i0_ne_t (nz32 (by omega) l0)) (by decide) rfl ?_
    exact Steps.refl _)
  obtain ⟨T5, X5, q5, st5⟩ := X3.sget hexec hown (wk W (.fieldLink "java/lang/String" 38 "java/lang/String" "COMPACT_STRINGS" "Z")) s1 (fun _ _ h => by rw [hh3]; exact h) (g := (mkF m 27 #[.val (.ref a), .val (.ref b), .val (.int (Int32.ofNat o)), .val (.int (Int32.ofNat len)), .val .null, .unset] [])) rfl (hb hbytes d27)
  have hh5 := q5.trans hh3
  have c6 : Steps p.tables e below (s₁.setTop (entryFrame m #[.ref a, .ref b, .int (Int32.ofNat o), .int (Int32.ofNat len), .null] 6)) (T5.setTop (mkF m 30 #[.val (.ref a), .val (.ref b), .val (.int (Int32.ofNat o)), .val (.int (Int32.ofNat len)), .val .null, .unset] [.int z])) := c4.trans (st5 _ (Steps.refl _))
  have c7 : Steps p.tables e below (s₁.setTop (entryFrame m #[.ref a, .ref b, .int (Int32.ofNat o), .int (Int32.ofNat len), .null] 6)) (T5.setTop (mkF m 36 #[.val (.ref a), .val (.ref b), .val (.int (Int32.ofNat o)), .val (.int (Int32.ofNat len)), .val .null, .unset] [.int (Int32.ofNat len), .int (Int32.ofNat o), .ref b])) := c6.trans (by
    refine XS.ifNo X5.here hexec rfl (hb hbytes d30) rfl (i0_eq_f hz) ?_
    refine XS.aloadN X5.here hexec rfl (hb hbytes d33) rfl rfl ?_
    refine XS.iloadN X5.here hexec rfl (hb hbytes d34) rfl ?_
    refine XS.iloadN X5.here hexec rfl (hb hbytes d35) rfl ?_
    exact Steps.refl _)
  obtain ⟨v8, T8, X8, E8, g8⟩ := X5.callS hexec (Cmp3.law l b A o len) hown (wks W (staticW "java/lang/String" 177 Cmp3.yN)) (wk W Cmp3.tab) (W := 0) (Nat.le_of_ble_eq_true rfl) (Nat.le_of_ble_eq_true rfl) (Nat.le_refl _) (by show 0 + len ≤ len; omega) (g := (mkF m 36 #[.val (.ref a), .val (.ref b), .val (.int (Int32.ofNat o)), .val (.int (Int32.ofNat len)), .val .null, .unset] [.int (Int32.ofNat len), .int (Int32.ofNat o), .ref b])) rfl (by rw [hml]; rfl) c7 (argsL := [.ref b, .int (Int32.ofNat o), .int (Int32.ofNat len)]) (rest := []) rfl rfl (by show 2 * 0 + 0 ≤ _; decide) (hb hbytes d36) (⟨rfl, hA.mv X5.warmed.alike hh5, l1, l2, hp⟩)
  obtain ⟨e8, z8⟩ := E8
  obtain ⟨rfl, N, n1, n2, n3, n4, n5, n6⟩ := NewArr.mv _ T5 s _ _ hh5.symm (Vm.Alike.refl _) rfl e8
  rw [hh5] at z8
  have hB1 := hB.keep X8.warmed.alike (n6 _ _ hB.1)
  have hne : s.heap.size ≠ a := (Nat.ne_of_lt (Array.getElem?_eq_some_iff.mp hB.1).1).symm
  have c9 : Steps p.tables e below (s₁.setTop (entryFrame m #[.ref a, .ref b, .int (Int32.ofNat o), .int (Int32.ofNat len), .null] 6)) (T8.setTop (mkF m 39 #[.val (.ref a), .val (.ref b), .val (.int (Int32.ofNat o)), .val (.int (Int32.ofNat len)), .val .null, .unset] [.ref s.heap.size])) := g8
  have c10 : Steps p.tables e below (s₁.setTop (entryFrame m #[.ref a, .ref b, .int (Int32.ofNat o), .int (Int32.ofNat len), .null] 6)) (T8.setTop (mkF m 45 #[.val (.ref a), .val (.ref b), .val (.int (Int32.ofNat o)), .val (.int (Int32.ofNat len)), .val .null, .val (.ref s.heap.size)] [.int (Int32.ofNat N.slots.size), .ref s.heap.size, .ref a])) := by
    have hc : Steps p.tables e below (s₁.setTop (entryFrame m #[.ref a, .ref b, .int (Int32.ofNat o), .int (Int32.ofNat len), .null] 6)) (T8.setTop (mkF m 45 #[.val (.ref a), .val (.ref b), .val (.int (Int32.ofNat o)), .val (.int (Int32.ofNat len)), .val .null, .val (.ref s.heap.size)] [.int (Int32.ofNat len), .ref s.heap.size, .ref a])) := c9.trans (by
      refine XS.astore X8.here hexec rfl (hb hbytes d39) rfl rfl rfl ?_
      refine XS.aloadN X8.here hexec rfl (hb hbytes d41) rfl rfl ?_
      refine XS.aload X8.here hexec rfl (hb hbytes d42) rfl rfl ?_
      refine XS.iloadN X8.here hexec rfl (hb hbytes d44) rfl ?_
      exact Steps.refl _)
    rw [n4]; exact hc
  obtain ⟨v11, T11, X11, E11, g11⟩ := X8.callS hexec (CodL.law l s.heap.size N) hown (wks W (staticW "java/lang/String" 47 CodL.yN)) (wk W CodL.tab) (W := 1) (Nat.le_of_ble_eq_true rfl) (Nat.le_of_ble_eq_true rfl) (Nat.le_refl _) (by show 0 + len + 0 ≤ len; omega) (g := (mkF m 45 #[.val (.ref a), .val (.ref b), .val (.int (Int32.ofNat o)), .val (.int (Int32.ofNat len)), .val .null, .val (.ref s.heap.size)] [.int (Int32.ofNat N.slots.size), .ref s.heap.size, .ref a])) rfl (by rw [hml]; rfl) c10 (argsL := [.ref s.heap.size, .int (Int32.ofNat N.slots.size)]) (rest := [.ref a]) rfl rfl (by show 2 * 0 + (1 + 0) ≤ _; decide) (hb hbytes d45) (⟨rfl, n1⟩)
  obtain ⟨rfl, q11⟩ := E11
  have hB11 := hB1.mv (X8.warmed.alike.symm.trans X11.warmed.alike) q11
  have c12 : Steps p.tables e below (s₁.setTop (entryFrame m #[.ref a, .ref b, .int (Int32.ofNat o), .int (Int32.ofNat len), .null] 6)) (T11.setTop (mkF m 48 #[.val (.ref a), .val (.ref b), .val (.int (Int32.ofNat o)), .val (.int (Int32.ofNat len)), .val .null, .val (.ref s.heap.size)] [.int 0, .ref a])) := g11
  obtain ⟨T13, X13, p13, bl13, sl13, st13⟩ := X11.finit hexec hown (wk W (.fieldLink "java/lang/String" 15 "java/lang/String" "coder" "B")) (Or.inr ⟨_, (wk W (.laysFinal "java/lang/String" "java/lang/String" "coder" "B"))⟩) (Or.inl ⟨rfl, hnm⟩) f2 (Or.inl rfl) hB11 (t := .byte) (by decide +kernel) rfl (g := (mkF m 48 #[.val (.ref a), .val (.ref b), .val (.int (Int32.ofNat o)), .val (.int (Int32.ofNat len)), .val .null, .val (.ref s.heap.size)] [.int 0, .ref a])) rfl (rest := []) rfl (hb hbytes d48)
  have c14 : Steps p.tables e below (s₁.setTop (entryFrame m #[.ref a, .ref b, .int (Int32.ofNat o), .int (Int32.ofNat len), .null] 6)) (T13.setTop (mkF m 54 #[.val (.ref a), .val (.ref b), .val (.int (Int32.ofNat o)), .val (.int (Int32.ofNat len)), .val .null, .val (.ref s.heap.size)] [.ref s.heap.size, .ref a])) := (c12.trans (st13 _ (Steps.refl _))).trans (by
    refine XS.aloadN X13.here hexec rfl (hb hbytes d51) rfl rfl ?_
    refine XS.aload X13.here hexec rfl (hb hbytes d52) rfl rfl ?_
    exact Steps.refl _)
  obtain ⟨T15, X15, p15, bl15, sl15, st15⟩ := X13.finit hexec hown (wk W (.fieldLink "java/lang/String" 9 "java/lang/String" "value" "[B")) (Or.inr ⟨_, (wk W (.laysFinal "java/lang/String" "java/lang/String" "value" "[B"))⟩) (Or.inl ⟨rfl, hnm⟩) f1 (Or.inl rfl) bl13 (t := (.array .byte)) (by decide +kernel) rfl (g := (mkF m 54 #[.val (.ref a), .val (.ref b), .val (.int (Int32.ofNat o)), .val (.int (Int32.ofNat len)), .val .null, .val (.ref s.heap.size)] [.ref s.heap.size, .ref a])) rfl (rest := []) rfl (hb hbytes d54)
  have c16 : Steps p.tables e below (s₁.setTop (entryFrame m #[.ref a, .ref b, .int (Int32.ofNat o), .int (Int32.ofNat len), .null] 6)) (T15.setTop (mkF m 57 #[.val (.ref a), .val (.ref b), .val (.int (Int32.ofNat o)), .val (.int (Int32.ofNat len)), .val .null, .val (.ref s.heap.size)] [])) := c14.trans (st15 _ (Steps.refl _))
  have ap := apart (Or.inr ⟨_, (wk W (.laysFinal "java/lang/String" "java/lang/String" "value" "[B"))⟩) (Or.inr ⟨_, (wk W (.laysFinal "java/lang/String" "java/lang/String" "coder" "B"))⟩) f1 f2 (t₁ := .array .byte) (t₂ := .byte) (by decide +kernel) (by decide +kernel) (by decide)
  have al := X8.warmed.alike.symm.trans X15.warmed.alike
  have n7 : T11.heap[s.heap.size]? = some N := by rw [q11]; exact n1.1
  exact ⟨T15, none, _, _, _, X15, by simp, rfl, by omega, (fun _ => rfl), ⟨rfl, _, N, bl15, ((Same.refl D _).set _ (by simp)).set _ (by simp), sl15, (Cell.slots_setSlot_ne _ ap).trans sl13, n1.keep al (p15.other hne (p13.other hne n7)), n2, by rw [al.findClass]; exact n3, n4, n5, fun y c h1 h2 => p15.other h1 (p13.other h1 (by rw [q11]; exact n6 y c h2)), by rw [p15.2.2, p13.2.2, q11]; exact z8⟩, fun fs hl => c16.trans (X15.returnOut hexec hret (hb hbytes d57) hl)⟩
end New4
namespace New1
def yN : MethodName := ⟨"java/lang/String", "<init>", "([C)V"⟩
abbrev yB : ByteArray := jdk_42_method_3_code
theorem d0 : decode yB 0 = .ok (.aload_n 0, 1) := by decide +kernel
theorem d1 : decode yB 1 = .ok (.aload_n 1, 1) := by decide +kernel
theorem d2 : decode yB 2 = .ok (.iconst 0, 1) := by decide +kernel
theorem d3 : decode yB 3 = .ok (.aload_n 1, 1) := by decide +kernel
theorem d4 : decode yB 4 = .ok (.arraylength, 1) := by decide +kernel
theorem d5 : decode yB 5 = .ok (.aconst_null, 1) := by decide +kernel
theorem d6 : decode yB 6 = .ok (.invokespecial 27, 3) := by decide +kernel
theorem d9 : decode yB 9 = .ok (.return_, 1) := by decide +kernel
def site : List Cond := [New4.tab] ++ initW "java/lang/String" 27 New4.yN
def tab : Cond := tabOf yN yB 2 none site
def P (a : Addr) (D : Cell) (fV fC : Field) (b : Addr) (A : Cell) (z : Int32) (args : Array Value) (s : State) : Prop := args = #[.ref a, .ref b] ∧ Blank "java/lang/String" a D s ∧ Found "java/lang/String" "value" "[B" fV s ∧ Found "java/lang/String" "coder" "B" fC s ∧ Ch b A s ∧ StaticIs s "java/lang/String" "COMPACT_STRINGS" "Z" (.int z) ∧ ¬ z = 0 ∧ 0 < A.slots.size ∧ A.slots.size ≤ 536870912 ∧ ∀ i, i < A.slots.size → ¬ 255 < cv A i
def E (a : Addr) (D : Cell) (fV fC : Field) (A : Cell) (r : Option Value) (s u : State) : Prop := Got a D fV fC A 0 A.slots.size r s u
/-- new String(chars), not empty, no char above 255: a Latin-1 String of their low bytes -/
theorem law (l : Launch) (a : Addr) (D : Cell) (fV fC : Field) (b : Addr) (A : Cell) (z : Int32) : Law l yN 2 1 3 52 yB 2 none site (P a D fV fC b A z) (E a D fV fC A) [⟨a, fC.slot⟩, ⟨a, fV.slot⟩] 1 A.slots.size := by
  refine Law.of_walk (plainFor_of_name (by decide +kernel)) (by decide +kernel) (by decide +kernel) (by decide) (fun _ _ h => by rw [h.1]; rfl) (fun _ U U' hal hh h => ⟨h.1, h.2.1.mv hal hh, h.2.2.1.al hal, h.2.2.2.1.al hal, h.2.2.2.2.1.mv hal hh, h.2.2.2.2.2.1.there hal hh, h.2.2.2.2.2.2⟩) (fun r U U' V V' h1 hal h2 h => Got.mv r U U' V V' h1 hal h2 h) ?_
  intro p e s m args below meth c s₁ X0 hexec hbytes hml hret hlk hnm hown hh0 W hP
  obtain ⟨rfl, hB, f1, f2, hA, s1, hz, l0, l2, hp⟩ := hP
  have c1 : Steps p.tables e below (s₁.setTop (entryFrame m #[.ref a, .ref b] 2)) (s₁.setTop (mkF m 0 #[.val (.ref a), .val (.ref b)] [])) := entry rfl
  have c2 : Steps p.tables e below (s₁.setTop (entryFrame m #[.ref a, .ref b] 2)) (s₁.setTop (mkF m 6 #[.val (.ref a), .val (.ref b)] [.null, .int (Int32.ofNat A.slots.size), .int 0, .ref b, .ref a])) := c1.trans (by
    refine XS.aloadN X0.here hexec rfl (hb hbytes d0) rfl rfl ?_
    refine XS.aloadN X0.here hexec rfl (hb hbytes d1) rfl rfl ?_
    refine iconstV X0.here hexec rfl 0 (hb hbytes d2) (by decide) ?_
    refine XS.aloadN X0.here hexec rfl (hb hbytes d3) rfl rfl ?_
    refine X0.alen hexec (hA.1.mv X0.warmed.alike hh0) rfl rfl (hb hbytes d4) ?_
    refine XS.aconstNull X0.here hexec rfl (hb hbytes d5) ?_
    exact Steps.refl _)
  obtain ⟨v3, T3, X3, E3, g3⟩ := X0.callN hexec (New4.law l a D fV fC b A z 0 A.slots.size) rfl hown (wks W (initW "java/lang/String" 27 New4.yN)) (W New4.tab (by simp only [site, List.mem_cons, List.mem_append, true_or, or_true])) (W := 0) (Nat.le_of_ble_eq_true rfl) (Nat.le_of_ble_eq_true rfl) (Nat.le_refl _) (by show 0 + A.slots.size ≤ A.slots.size; omega) (g := (mkF m 6 #[.val (.ref a), .val (.ref b)] [.null, .int (Int32.ofNat A.slots.size), .int (Int32.ofNat 0), .ref b, .ref a])) rfl (by rw [hml]; rfl) c2 (argsL := [.ref b, .int (Int32.ofNat 0), .int (Int32.ofNat A.slots.size), .null]) (rest := []) rfl rfl (by show 2 * 0 + 0 ≤ _; decide) (hb hbytes d6) (⟨rfl, hB.mv X0.warmed.alike hh0, f1.al X0.warmed.alike, f2.al X0.warmed.alike, hA.mv X0.warmed.alike hh0, s1.there X0.warmed.alike hh0, hz, l0, by omega, l2, fun i hi => by rw [Nat.zero_add]; exact hp i hi⟩)
  have e0 := Got.mv _ s₁ s _ _ hh0.symm (Vm.Alike.refl _) rfl E3
  obtain rfl := e0.1
  have c4 : Steps p.tables e below (s₁.setTop (entryFrame m #[.ref a, .ref b] 2)) (T3.setTop (mkF m 9 #[.val (.ref a), .val (.ref b)] [])) := g3
  exact ⟨T3, none, _, _, _, X3, by simp, rfl, by omega, (fun _ => rfl), e0, fun fs hl => c4.trans (X3.returnOut hexec hret (hb hbytes d9) hl)⟩
theorem pays {l : Launch} {R : Room} {p : Program} {e : Env} {below : List Frame} {s : State} {sargs : Array Value} {len W : Nat} (a : Addr) (D : Cell) (fV fC : Field) (b : Addr) (A : Cell) (z : Int32) (htab : tab.before sargs s = true) (hfr : 4 ≤ R.frames) (hlo : W + 65 ≤ R.locals) :
    Back l R p e below s sargs yN len W (fun A₁ a₁ => A₁.cells + 1 ≤ R.cells ∧ A₁.slots + A.slots.size ≤ R.slots ∧ P a D fV fC b A z a₁ A₁.U) (fun A₁ _ v₁ B₁ => E a D fV fC A v₁ A₁.U B₁.U ∧ B₁.locs = A₁.locs ++ [⟨a, fC.slot⟩, ⟨a, fV.slot⟩] ∧ B₁.cells = A₁.cells + 1 ∧ B₁.slots = A₁.slots + A.slots.size) :=
  (law l a D fV fC b A z).pays htab hfr (by omega)
end New1
/-- the byte, read back as charAt reads it, is the char -/
theorem lo8_mask {x : Int32} (h0 : ¬ x < 0) (h1 : ¬ 255 < x) : lo8 x &&& 255 = x := by
  have t : ∀ k : Fin 256, lo8 (Int32.ofNat k.val) &&& 255 = Int32.ofNat k.val := by decide +kernel
  rw [Int32.lt_iff_toInt_lt] at h0 h1
  have e0 : (0 : Int32).toInt = 0 := rfl
  have e1 : (255 : Int32).toInt = 255 := rfl
  obtain ⟨k, hk⟩ : ∃ k : Nat, x.toInt = k := ⟨x.toInt.toNat, by omega⟩
  have hx : x = Int32.ofNat k := Int32.toInt_inj.mp (by rw [hk, Int32.toInt_ofNat_small (by omega)])
  rw [hx]
  exact t ⟨k, by omega⟩
end StrChars
namespace StrChars.Road
open Jvm Sem ClassFile Op Lib Jvm.Stand Jvm.Free Jvm.Free.XT
open Jvm.Lib.Cold (StaticIs)
abbrev ST : String := "java/lang/String"
/-- every table word that New1's law asks, flat -/
abbrev words : List Jvm.Cond := [.code New1.yN New1.yB 2 none, .initialized ST, .methodLink ST 27 New4.yN, .instanceMethod New4.yN,
  .code New4.yN New4.yB 6 none, .fieldLink ST 38 ST "COMPACT_STRINGS" "Z", .laysFinal ST ST "value" "[B", .fieldLink ST 9 ST "value" "[B", .laysFinal ST ST "coder" "B", .fieldLink ST 15 ST "coder" "B",
  .methodLink ST 1 Lib.objectInit, .instanceMethod Lib.objectInit, .code Lib.objectInit ⟨#[0xb1]⟩ 1 none, .methodLink ST 177 Cmp3.yN, .static Cmp3.yN, .methodLink ST 47 CodL.yN, .static CodL.yN,
  .code Cmp3.yN Cmp3.yB 6 (some (.array .byte)), .initialized U16, .arrayClass .byte, .methodLink U16 115 Cmp5.yN, .static Cmp5.yN, .code Cmp5.yN Cmp5.yB 7 (some .int), .code CodL.yN CodL.yB 2 (some .byte)]
theorem tab_of {a : Array Value} {s : State} (h : ∀ w ∈ words, w.before a s = true) : New1.tab.before a s = true := by
  have h5 : Cmp5.tab.before a s = true := unparts (wk h (.code Cmp5.yN Cmp5.yB 7 (some .int))) (wks h (.initialized Cmp5.yN.cls :: Cmp5.site))
  have hc : CodL.tab.before a s = true := unparts (wk h (.code CodL.yN CodL.yB 2 (some .byte))) (wks h (.initialized CodL.yN.cls :: CodL.site))
  have q5 : ∀ w ∈ Cmp5.tab :: words, w.before a s = true := fun w hw => (List.mem_cons.mp hw).elim (fun e => e ▸ h5) (h w)
  have h3 : Cmp3.tab.before a s = true := unparts (wk q5 (.code Cmp3.yN Cmp3.yB 6 (some (.array .byte)))) (wks q5 (.initialized Cmp3.yN.cls :: Cmp3.site))
  have q3 : ∀ w ∈ Cmp3.tab :: CodL.tab :: words, w.before a s = true := fun w hw => (List.mem_cons.mp hw).elim (fun e => e ▸ h3) fun hw => (List.mem_cons.mp hw).elim (fun e => e ▸ hc) (h w)
  have h4 : New4.tab.before a s = true := unparts (wk q3 (.code New4.yN New4.yB 6 none)) (wks q3 (.initialized New4.yN.cls :: New4.site))
  have q4 : ∀ w ∈ New4.tab :: words, w.before a s = true := fun w hw => (List.mem_cons.mp hw).elim (fun e => e ▸ h4) (h w)
  exact unparts (wk q4 (.code New1.yN New1.yB 2 none)) (wks q4 (.initialized New1.yN.cls :: New1.site))
/-- the words ride from the start Z to the walk's own state -/
theorem moved {Z s : State} {a0 args : Array Value} (hZ : Z.Warmed39 s.vm) (hw : ∀ d ∈ words, d.before a0 Z = true) : ∀ d ∈ words, d.before args s = true := fun d hd => by
  have q := hw d hd
  have t : ∀ d ∈ words, d = .arrayClass .byte ∨ (d.onTables && d.keepsFace) = true := by decide +kernel
  rcases t d hd with rfl | t
  · exact RoadKit.mvA hZ q
  · exact RoadKit.mv hZ q t
/-- WHAT COMES BACK, over the tables of the start Z: h the heap at the call, h' behind it -/
def Q (Z : State) (x : Addr) (A : Cell) (h : Heap) (v : Option Value) (h' : Heap) (L : List Loc) : Prop := v = none ∧ (∀ y ∈ L, y.base = x) ∧ RoadKit.Keep h h' [x] ∧ h'.size = h.size + 1 ∧ RoadKit.Exa Z h' x ST ∧ RoadKit.Fld Z h' x ST "value" "[B" (.ref h.size) ∧ RoadKit.Fld Z h' x ST "coder" "B" (.int 0) ∧
  (∃ V : Cell, RoadKit.Arr Z h' h.size V .byte ∧ V.vm = .none ∧ Z.vm.findClass "[B" = some V.cls ∧ V.slots.size = A.slots.size ∧ ∀ j, j < A.slots.size → V.slots[j]? = some (.int (lo8 (cv A j)))) ∧
  ∀ (O n d : String) (w : Value), RoadKit.Fld Z h x O n d w → RoadKit.slotOf Z O n d ≠ RoadKit.slotOf Z ST "value" "[B" → RoadKit.slotOf Z O n d ≠ RoadKit.slotOf Z ST "coder" "B" → RoadKit.Fld Z h' x O n d w
/-- **new String(chars) AT A CALL, IN THE ROAD'S FORM**: for specialBack behind newO: x the fresh String, b the char[] with the cell A -/
theorem back {p : Program} {l : Launch} {e : Env} {R : Room} {s : State} {args : Array Value} {below : List Frame} {len W : Nat} {Z : State} {a0 : Array Value} {h : Heap} (hZ : Z.Warmed39 s.vm) (hw : ∀ d ∈ words, d.before a0 Z = true) {kI : Nat} (wi : (Jvm.Cond.instantiable ST kI).before a0 Z = true)
    {x b : Addr} {A : Cell} {z : Int32} {v0 c0 : Value} (E : RoadKit.Exa Z h x ST) (V : RoadKit.Fld Z h x ST "value" "[B" v0) (C : RoadKit.Fld Z h x ST "coder" "B" c0) (K : RoadKit.Arr Z h b A .char) (hty : Typed .char A) (S : RoadKit.Sta Z h ST "COMPACT_STRINGS" "Z" (.int z)) (hz : ¬ z = 0)
    (l0 : 0 < A.slots.size) (l2 : A.slots.size ≤ 536870912) (hp : ∀ i, i < A.slots.size → ¬ 255 < cv A i) (hfr : 4 ≤ R.frames) (hlo : W + 65 ≤ R.locals) :
    Back l R p e below s args New1.yN len W (fun P a => a = #[.ref x, .ref b] ∧ P.U.heap = h ∧ P.cells + 1 ≤ R.cells ∧ P.slots + A.slots.size ≤ R.slots)
      (fun P _ v B => ∃ L, Q Z x A h v B.U.heap L ∧ B.locs = P.locs ++ L ∧ B.cells = P.cells + 1 ∧ B.slots = P.slots + A.slots.size) := by
  intro m meth c P g ig mk a X hg hsize hdg hW hn hp'
  obtain ⟨rfl, rfl, r1, r2⟩ := hp'
  have al : Z.vm.Alike P.U.vm := hZ.alike.trans X.warmed.alike
  obtain ⟨D, cfV, kV, iV, fV, hD, gV, stV, knV, obV, asV, slV⟩ := id V
  obtain ⟨D', cfC, kC, iC, fC, hD', gC, stC, -, -, asC, slC⟩ := id C
  cases hD.symm.trans hD'
  obtain ⟨D2, kD, e1, e2, e3, e4, e5⟩ := id E
  cases hD.symm.trans e1
  obtain ⟨c2, k2, i1, i2, i3, -⟩ := Cond.instantiable_spec wi
  cases e2.symm.trans i1
  cases e3.symm.trans i2
  obtain ⟨kU, u1, u2⟩ := al.2.2 _ _ e3
  have hB : Blank ST x D P.U := ⟨hD, ⟨knV, fun q hq => by rw [hq] at obV; cases obV⟩, by rw [al.findClass]; exact e2, kU, u1, by rw [u2]; exact i3, by rw [u2]; exact e5 i3⟩
  have F1 : Found ST "value" "[B" fV P.U := ⟨SBG.found_only al ⟨cfV, kV, iV, gV⟩, stV⟩
  have F2 : Found ST "coder" "B" fC P.U := ⟨SBG.found_only al ⟨cfC, kC, iC, gC⟩, stC⟩
  have hA : Ch b A P.U := ⟨⟨K.1, State.isArrayOf_alike al K.2.1, K.2.2, by omega⟩, hty⟩
  have hS : StaticIs P.U ST "COMPACT_STRINGS" "Z" (.int z) := by
    obtain ⟨cfS, iS, kS, fS, st, cS, t1, t2, t3, t4, t5, t6, t7⟩ := S
    exact StaticIs.there (s := { Z with heap := P.U.heap }) ⟨cfS, iS, kS, fS, st, cS, t1, t2, t3, t4, t5, (fun q => by rw [q] at t6; cases t6), t7⟩ al rfl
  obtain ⟨v, B, X', ⟨⟨hv, E', V', q1, q2, q3, q4, q5, q6, q7, q8, q9, q10, q11⟩, hl, hc, hs⟩, st⟩ := New1.pays x D fV fC b A z (tab_of (moved hZ hw)) hfr hlo m meth c P g ig mk _ X hg hsize hdg hW hn ⟨r1, r2, rfl, hB, F1, F2, hA, hS, hz, l0, l2, hp⟩
  have al' : Z.vm.Alike B.U.vm := hZ.alike.trans X'.warmed.alike
  have hsz : E'.slots.size = D.slots.size := by
    obtain ⟨-, -, -, kB, w1, w2, w3⟩ := q1
    obtain ⟨kB', y1, y2⟩ := al'.2.2 _ _ e3
    rw [q2.2.1] at w1
    cases w1.symm.trans y1
    rw [w3, e5 i3, y2]
  refine ⟨v, B, X', ⟨_, ⟨hv, ?_, ⟨by omega, fun y cy hy hn' => q10 y cy (by simpa using hn') hy, fun y cy hy => ?_⟩, q11, ⟨E', _, q1.1, by rw [q2.2.1]; exact e2, by rw [q2.2.1]; exact e3, by rw [q2.1]; exact obV, fun _ => by rw [hsz]; exact e5 i3⟩,
    ⟨E', cfV, kV, iV, fV, q1.1, gV, stV, by rw [q2.1]; exact knV, by rw [q2.1]; exact obV, by rw [q2.2.1]; exact asV, q3⟩, ⟨E', cfC, kC, iC, fC, q1.1, gC, stC, by rw [q2.1]; exact knV, by rw [q2.1]; exact obV, by rw [q2.2.1]; exact asC, q4⟩,
    ⟨V', ⟨q5.1, State.isArrayOf_alike al'.symm q5.2.1, q5.2.2.1⟩, q6, by rw [← al'.findClass]; exact q7, q8, fun j hj => by have := q9 j hj; rwa [Nat.zero_add] at this⟩, fun O n d w F n1 n2 => ?_⟩, hl, hc, hs⟩, st⟩
  · intro y hy
    simp only [List.mem_cons, List.not_mem_nil, or_false] at hy
    rcases hy with rfl | rfl <;> rfl
  · by_cases q : y = x
    · subst q
      cases hD.symm.trans hy
      exact ⟨E', q1.1, q2.2.1, q2.1, hsz⟩
    · exact ⟨cy, q10 y cy q hy, rfl, rfl, rfl⟩
  · obtain ⟨D3, cf, k, i, f, g1, g2, g3, g4, g5, g6, g7⟩ := F
    cases hD.symm.trans g1
    simp only [RoadKit.slotOf, g2, gV, gC, Option.map_some, Option.getD_some] at n1 n2
    exact ⟨E', cf, k, i, f, q1.1, g2, g3, by rw [q2.1]; exact g4, by rw [q2.1]; exact g5, by rw [q2.2.1]; exact g6, by rw [q2.2.2 f.slot (by simp [n1, n2])]; exact g7⟩
end StrChars.Road
namespace StrChars.Road
open Jvm Sem ClassFile Op Lib Jvm.Stand Jvm.Free Jvm.Free.XT
/-- WHAT COMES BACK, the byte[] as a list of values -/
def QA (Z : State) (x : Addr) (zn : Int32) (cs : List Int32) (h : Heap) (v : Option Value) (h' : Heap) (L : List Loc) : Prop := v = none ∧ (∀ y ∈ L, y.base = x) ∧ RoadKit.Keep h h' [x] ∧ h'.size = h.size + 1 ∧ RoadKit.Exa Z h' x ST ∧ RoadKit.Fld Z h' x ST "value" "[B" (.ref h.size) ∧ RoadKit.Fld Z h' x ST "coder" "B" (.int 0) ∧
  (∃ kb, Z.vm.findClass "[B" = some kb ∧ RoadKit.Arv Z h' h.size kb .byte zn (cs.map fun c => .int (lo8 c)) (.int 0)) ∧
  ∀ (O n d : String) (w : Value), RoadKit.Fld Z h x O n d w → RoadKit.slotOf Z O n d ≠ RoadKit.slotOf Z ST "value" "[B" → RoadKit.slotOf Z O n d ≠ RoadKit.slotOf Z ST "coder" "B" → RoadKit.Fld Z h' x O n d w
/-- **new String(chars) AT A CALL, THE ARRAYS AS LISTS**: the char[] at b holds cs, not empty, no char above 255 -/
theorem backArv {p : Program} {l : Launch} {e : Env} {R : Room} {s : State} {args : Array Value} {below : List Frame} {len W : Nat} {Z : State} {a0 : Array Value} {h : Heap} (hZ : Z.Warmed39 s.vm) (hw : ∀ d ∈ words, d.before a0 Z = true) {kI : Nat} (wi : (Jvm.Cond.instantiable ST kI).before a0 Z = true)
    {x b : Addr} {k : ClassId} {zn z : Int32} {cs : List Int32} {dv v0 c0 : Value} (E : RoadKit.Exa Z h x ST) (V : RoadKit.Fld Z h x ST "value" "[B" v0) (C : RoadKit.Fld Z h x ST "coder" "B" c0) (K : RoadKit.Arv Z h b k .char zn (cs.map Value.int) dv) (S : RoadKit.Sta Z h ST "COMPACT_STRINGS" "Z" (.int z)) (hz : ¬ z = 0)
    (hlen : zn.toNatClampNeg = cs.length) (h0 : 0 < cs.length) (hbig : cs.length ≤ 536870912) (hall : ∀ c ∈ cs, ¬ 255 < c) (hfr : 4 ≤ R.frames) (hlo : W + 65 ≤ R.locals) :
    Back l R p e below s args New1.yN len W (fun P a => a = #[.ref x, .ref b] ∧ P.U.heap = h ∧ P.cells + 1 ≤ R.cells ∧ P.slots + cs.length ≤ R.slots)
      (fun P _ v B => ∃ L, QA Z x zn cs h v B.U.heap L ∧ B.locs = P.locs ++ L ∧ B.cells = P.cells + 1 ∧ B.slots = P.slots + cs.length) := by
  obtain ⟨A, K1, K2, K3, K4, K5, K6⟩ := K
  have e : A.slots.size = cs.length := K3.trans hlen
  have hat : ∀ (i : Nat) (hi : i < cs.length), A.slots[i]? = some (.int cs[i]) := fun i hi => by rw [K5 i (by omega)]; simp [List.getD_eq_getElem?_getD, hi]
  have hcv : ∀ (i : Nat) (hi : i < cs.length), cv A i = cs[i] := fun i hi => by unfold cv; rw [hat i hi]
  have hty : Typed .char A := fun i v hv => by
    have hi : i < A.slots.size := (Array.getElem?_eq_some_iff.mp hv).1
    have q := K5 i hi
    rw [hv] at q
    rw [Option.some.inj q]
    exact K6 i hi
  refine Back.mono (back hZ hw wi E V C K1 hty S hz (by omega) (by omega) (fun i hi => by rw [hcv i (by omega)]; exact hall _ (List.getElem_mem _)) hfr hlo) (fun P a hp => ⟨hp.1, hp.2.1, hp.2.2.1, by rw [e]; exact hp.2.2.2⟩) (fun P a v B hp hq => ?_)
  obtain ⟨L, ⟨q1, q2, q3, q4, q5, q6, q7, ⟨V', v1, v2, v3, v4, v5⟩, q9⟩, hl, hc, hs⟩ := hq
  refine ⟨L, ⟨q1, q2, q3, q4, q5, q6, q7, ⟨V'.cls, v3, V', v1, rfl, by rw [v4, e, hlen], K4, fun i hi => ?_, fun i hi => ?_⟩, q9⟩, hl, hc, by rw [hs, e]⟩
  · have hi' : i < cs.length := by omega
    rw [v5 i (by omega), hcv i hi']; simp [List.getD_eq_getElem?_getD, hi']
  · have hi' : i < cs.length := by omega
    simp only [List.getD_eq_getElem?_getD, List.getElem?_map, List.getElem?_eq_getElem hi', Option.map_some, Option.getD_some]
    exact fits_lo8 _
end StrChars.Road
namespace StrChars.Road
open Jvm Sem ClassFile Op Lib Jvm.Stand Jvm.Free Jvm.Free.XT
/-- WHAT COMES BACK, in the writer's own shape -/
def QV (Z : State) (x : Addr) (N : Int32) (bs : List Int32) (h : Heap) (n0 : Nat) (v : Option Value) (h' : Heap) (L : List Loc) : Prop := v = none ∧ RoadKit.Fr n0 L ∧ RoadKit.Keep h h' [x] ∧ RoadKit.Exa Z h' x ST ∧ RoadKit.Fld Z h' x ST "coder" "B" (.int 0) ∧
  ∃ (t : Addr) (kb : ClassId), n0 ≤ t ∧ h.size ≤ t ∧ ¬ t = x ∧ RoadKit.Fld Z h' x ST "value" "[B" (.ref t) ∧ RoadKit.Arv Z h' t kb .byte N (bs.map Value.int) (.int 0)
/-- **new String(chars) AT A CALL, FOR THE WRITER**: a char[] of n known ints, each 0 to 255 -/
theorem backV {p : Program} {l : Launch} {e : Env} {R : Room} {s : State} {args : Array Value} {below : List Frame} {len W : Nat} {Z : State} {a0 : Array Value} {h : Heap} (hZ : Z.Warmed39 s.vm) (hw : ∀ d ∈ words, d.before a0 Z = true) {kI : Nat} (wi : (Jvm.Cond.instantiable ST kI).before a0 Z = true)
    {x b : Addr} {kC : ClassId} {cs bs : List Int32} {d v0 c0 : Value} {z N : Int32} {n n0 : Nat} (hx0 : n0 ≤ x) (hh0 : n0 ≤ h.size) (E : RoadKit.Exa Z h x ST) (V : RoadKit.Fld Z h x ST "value" "[B" v0) (C : RoadKit.Fld Z h x ST "coder" "B" c0) (K : RoadKit.Arv Z h b kC .char N (cs.map Value.int) d) (S : RoadKit.Sta Z h ST "COMPACT_STRINGS" "Z" (.int z)) (hz : ¬ z = 0)
    (hn : cs.length = n) (hN : N = Int32.ofNat n) (l0 : 0 < n) (l2 : n ≤ 4000) (hp : ∀ c ∈ cs, ¬ c < 0 ∧ ¬ (255 : Int32) < c) (hb : bs = cs.map (fun c => c.toInt8.toInt32)) (hfr : 4 ≤ R.frames) (hlo : W + 65 ≤ R.locals) :
    Back l R p e below s args (⟨"java/lang/String", "<init>", "([C)V"⟩ : MethodName) len W (fun P a => a = #[.ref x, .ref b] ∧ P.U.heap = h ∧ P.cells + 1 ≤ R.cells ∧ P.slots + n ≤ R.slots)
      (fun P _ v B => ∃ L, QV Z x N bs h n0 v B.U.heap L ∧ B.locs = P.locs ++ L ∧ B.cells = P.cells + 1 ∧ B.slots = P.slots + n) := by
  subst hn hN hb
  refine Back.mono (backArv hZ hw wi E V C K S hz (n32 (by omega)) l0 (by omega) (fun c hc => (hp c hc).2) hfr hlo) (fun P a hp => hp) (fun P a v B hp hq => ?_)
  obtain ⟨L, ⟨q1, q2, q3, q4, q5, q6, q7, ⟨kb, v1, v2⟩, q9⟩, hl, hc, hs⟩ := hq
  exact ⟨L, ⟨q1, fun y hy => by rw [q2 y hy]; exact hx0, q3, q5, q7, h.size, kb, hh0, Nat.le_refl _, Nat.ne_of_gt E.lt, q6, by rw [List.map_map]; exact v2⟩, hl, hc, hs⟩
end StrChars.Road
namespace StrChars
open Jvm Sem ClassFile Op Lib Jvm.Stand Jvm.Free.XT Jvm.Free.ALB Jvm.Free.JM Jvm.Free
open Jvm.Lib.Cold (StaticIs)
def hi8 (x : Int32) : Int32 := lo8 (x >>> ((8 : Int32) &&& 31))
/-- what StringUTF16.getChar makes of two bytes -/
def pairCh (u v : Int32) : Int32 := (((u &&& 255) <<< ((0 : Int32) &&& 31)) ||| ((v &&& 255) <<< ((8 : Int32) &&& 31))).toUInt32.toUInt16.toUInt32.toInt32
theorem lo8_and (x : Int32) : (lo8 x &&& 255).toBitVec.toNat = x.toBitVec.toNat % 256 := by
  have h : (lo8 x).toBitVec = (x.toBitVec.signExtend 8).signExtend 32 := by rw [lo8, Int8.toBitVec_toInt32, Int32.toBitVec_toInt8]
  rw [Int32.toBitVec_and, BitVec.toNat_and, h]
  have e : ((x.toBitVec.signExtend 8).signExtend 32).toNat % 256 = x.toBitVec.toNat % 256 := by
    rw [BitVec.toNat_signExtend]
    have hlt := x.toBitVec.isLt
    simp only [BitVec.toNat_setWidth, BitVec.toNat_signExtend]
    split <;> split <;> omega
  rw [← e]
  exact Nat.and_two_pow_sub_one_eq_mod _ 8
theorem pair_says {c : Int32} (h0 : ¬ c < 0) (h1 : ¬ 65535 < c) : pairCh (lo8 c) (hi8 c) = c := by
  rw [Int32.lt_iff_toInt_lt] at h0 h1
  have e0 : (0 : Int32).toInt = 0 := rfl
  have e1 : (65535 : Int32).toInt = 65535 := rfl
  have hc : c.toInt = c.toBitVec.toNat := by
    have := c.toBitVec.isLt
    have e : c.toInt = c.toBitVec.toInt := rfl
    rw [e] at h0 h1
    rw [e]
    rw [BitVec.toInt_eq_toNat_cond] at h0 h1 ⊢
    split at h0 <;> split <;> omega
  have hn : c.toBitVec.toNat < 65536 := by omega
  have a1 := lo8_and c
  have a2 : (hi8 c &&& 255).toBitVec.toNat = c.toBitVec.toNat / 256 := by
    rw [hi8, lo8_and]
    have e : ((8 : Int32) &&& 31) = 8 := by decide
    rw [e, Int32.toBitVec_shiftRight]
    have e2 : ((8 : Int32).toBitVec.smod 32) = 8#32 := by decide
    rw [e2, BitVec.sshiftRight_eq', BitVec.toNat_sshiftRight_of_msb_false (by rw [BitVec.msb_eq_false_iff_two_mul_lt]; omega)]
    show c.toBitVec.toNat >>> 8 % 256 = _
    rw [Nat.shiftRight_eq_div_pow]
    omega
  unfold pairCh
  apply Int32.toBitVec_inj.mp
  apply BitVec.eq_of_toNat_eq
  have f0 : ((0 : Int32) &&& 31) = 0 := by decide
  have f8 : ((8 : Int32) &&& 31) = 8 := by decide
  rw [f0, f8]
  have g : (((lo8 c &&& 255) <<< (0 : Int32)) ||| ((hi8 c &&& 255) <<< (8 : Int32))).toBitVec.toNat = c.toBitVec.toNat := by
    rw [Int32.toBitVec_or, Int32.toBitVec_shiftLeft, Int32.toBitVec_shiftLeft]
    have s0 : ((0 : Int32).toBitVec.smod 32) = 0#32 := by decide
    have s8 : ((8 : Int32).toBitVec.smod 32) = 8#32 := by decide
    rw [s0, s8, BitVec.toNat_or]
    simp only [BitVec.shiftLeft_eq', BitVec.toNat_shiftLeft, a1, a2]
    show (c.toBitVec.toNat % 256) <<< 0 % 2 ^ 32 ||| (c.toBitVec.toNat / 256) <<< 8 % 2 ^ 32 = _
    rw [Nat.shiftLeft_zero, Nat.mod_eq_of_lt (show c.toBitVec.toNat % 256 < 2 ^ 32 by omega), Nat.mod_eq_of_lt (show (c.toBitVec.toNat / 256) <<< 8 < 2 ^ 32 by rw [Nat.shiftLeft_eq]; omega), Nat.or_comm, ← Nat.shiftLeft_add_eq_or_of_lt (by omega), Nat.shiftLeft_eq]
    omega
  show BitVec.toNat (((((lo8 c &&& 255) <<< (0 : Int32)) ||| ((hi8 c &&& 255) <<< (8 : Int32))).toBitVec.setWidth 16).setWidth 32) = _
  rw [BitVec.toNat_setWidth, BitVec.toNat_setWidth, g]
  omega
end StrChars
namespace StrChars
open Jvm Sem ClassFile Op Lib Jvm.Stand Jvm.Free.XT Jvm.Free.ALB Jvm.Free.JM Jvm.Free
open Jvm.Lib.Cold (StaticIs)
/-- charAt's cast of a byte read back -/
def chr8 (u : Int32) : Int32 := (u &&& 255).toUInt32.toUInt16.toUInt32.toInt32
theorem chr8_lo8 {c : Int32} (h0 : ¬ c < 0) (h1 : ¬ 255 < c) : chr8 (lo8 c) = c := by
  have t : ∀ k : Fin 256, (Int32.ofNat k.val).toUInt32.toUInt16.toUInt32.toInt32 = Int32.ofNat k.val := by decide +kernel
  unfold chr8
  rw [lo8_mask h0 h1]
  rw [Int32.lt_iff_toInt_lt] at h0 h1
  have e0 : (0 : Int32).toInt = 0 := rfl
  have e1 : (255 : Int32).toInt = 255 := rfl
  obtain ⟨k, hk⟩ : ∃ k : Nat, c.toInt = k := ⟨c.toInt.toNat, by omega⟩
  have hx : c = Int32.ofNat k := Int32.toInt_inj.mp (by rw [hk, Int32.toInt_ofNat_small (by omega)])
  rw [hx]
  exact t ⟨k, by omega⟩
theorem narrow_ch {c : Int32} (h0 : ¬ c < 0) (h1 : ¬ 65535 < c) : narrow .char (.int c) = .int c := by
  have q : narrow .char (.int (pairCh (lo8 c) (hi8 c))) = .int (pairCh (lo8 c) (hi8 c)) := narrow_c _
  rwa [pair_says h0 h1] at q
/-- the array's cell V codes the n chars f 0 .. f (n - 1) by the coder cd, as the JDK does: coder 1 just where some char is above 255 -/
def Cod (cd : Int32) (n : Nat) (f : Nat → Int32) (V : Cell) : Prop := (cd = 0 ∧ V.slots.size = n ∧ ∀ j, j < n → V.slots[j]? = some (.int (lo8 (f j))) ∧ ¬ 255 < f j) ∨ (cd = 1 ∧ V.slots.size = 2 * n ∧ (∀ j, j < n → V.slots[2 * j]? = some (.int (lo8 (f j))) ∧ V.slots[2 * j + 1]? = some (.int (hi8 (f j)))) ∧ ∃ j, j < n ∧ 255 < f j)
theorem Cod.cd {cd : Int32} {n : Nat} {f : Nat → Int32} {V : Cell} (h : Cod cd n f V) : cd = 0 ∨ cd = 1 := h.imp (fun q => q.1) fun q => q.1
/-- **x is a String of the n chars f 0 .. f (n - 1)**, Latin-1 or UTF-16; its array at t has the cell V -/
def Txt (x t : Addr) (V : Cell) (cd : Int32) (n : Nat) (f : Nat → Int32) (U : State) : Prop := Exact "java/lang/String" x U ∧ Has x "java/lang/String" "value" "[B" (.ref t) U ∧ Has x "java/lang/String" "coder" "B" (.int cd) U ∧ XT.Arr .byte t V U ∧ Cod cd n f V ∧ ∀ j, j < n → ¬ f j < 0 ∧ ¬ 65535 < f j
theorem Txt.mv {x t : Addr} {V : Cell} {cd : Int32} {n : Nat} {f : Nat → Int32} {U U' : State} (h : Txt x t V cd n f U) (hal : U.vm.Alike U'.vm) (hh : U'.heap = U.heap) : Txt x t V cd n f U' := ⟨h.1.mv hal hh, h.2.1.mv hal hh, h.2.2.1.mv hal hh, h.2.2.2.1.mv hal hh, h.2.2.2.2⟩
namespace IsL
def yN : MethodName := ⟨"java/lang/String", "isLatin1", "()Z"⟩
abbrev yB : ByteArray := jdk_42_method_154_code
theorem d0 : decode yB 0 = .ok (.getstatic 38, 3) := by decide +kernel
theorem d3 : decode yB 3 = .ok (.ifCond (.eq) 14, 3) := by decide +kernel
theorem d6 : decode yB 6 = .ok (.aload_n 0, 1) := by decide +kernel
theorem d7 : decode yB 7 = .ok (.getfield 15, 3) := by decide +kernel
theorem d10 : decode yB 10 = .ok (.ifCond (.ne) 7, 3) := by decide +kernel
theorem d13 : decode yB 13 = .ok (.iconst 1, 1) := by decide +kernel
theorem d14 : decode yB 14 = .ok (.goto 4, 3) := by decide +kernel
theorem d17 : decode yB 17 = .ok (.iconst 0, 1) := by decide +kernel
theorem d18 : decode yB 18 = .ok (.ireturn, 1) := by decide +kernel
def site : List Cond := [.fieldLink "java/lang/String" 38 "java/lang/String" "COMPACT_STRINGS" "Z", .fieldLink "java/lang/String" 15 "java/lang/String" "coder" "B"]
def tab : Cond := tabOf yN yB 1 (some .boolean) site
def P (x : Addr) (cd z : Int32) (args : Array Value) (s : State) : Prop := args = #[.ref x] ∧ Has x "java/lang/String" "coder" "B" (.int cd) s ∧ (cd = 0 ∨ cd = 1) ∧ StaticIs s "java/lang/String" "COMPACT_STRINGS" "Z" (.int z) ∧ ¬ z = 0
def E (cd : Int32) (r : Option Value) (s u : State) : Prop := XT.PureE (some (.int (1 - cd))) r s u
theorem law (l : Launch) (x : Addr) (cd z : Int32) : Law l yN 1 0 0 0 yB 1 (some .boolean) site (P x cd z) (E cd) [] 0 0 := by
  refine Law.of_walk (plainFor_of_name (by decide +kernel)) (by decide +kernel) (by decide +kernel) (by decide) (fun _ _ h => by rw [h.1]; rfl) (fun _ U U' hal hh h => ⟨h.1, h.2.1.mv hal hh, h.2.2.1, h.2.2.2.1.there hal hh, h.2.2.2.2⟩) (fun r U U' V V' h1 hal h2 h => XT.PureE.mv r U U' V V' h1 hal h2 h) ?_
  intro p e s m args below meth c s₁ X0 hexec hbytes hml hret hlk hnm hown hh0 W hP
  obtain ⟨rfl, hx, hc, s1, hz⟩ := hP
  have c1 : Steps p.tables e below (s₁.setTop (entryFrame m #[.ref x] 1)) (s₁.setTop (mkF m 0 #[.val (.ref x)] [])) := entry rfl
  obtain ⟨T2, X2, q2, st2⟩ := X0.sget hexec hown (wk W (.fieldLink "java/lang/String" 38 "java/lang/String" "COMPACT_STRINGS" "Z")) s1 (fun _ _ h => by rw [hh0]; exact h) (g := (mkF m 0 #[.val (.ref x)] [])) rfl (hb hbytes d0)
  have hh2 := q2.trans hh0
  have c3 : Steps p.tables e below (s₁.setTop (entryFrame m #[.ref x] 1)) (T2.setTop (mkF m 7 #[.val (.ref x)] [.ref x])) := (c1.trans (st2 _ (Steps.refl _))).trans (by
    refine XS.ifNo X2.here hexec rfl (hb hbytes d3) rfl (i0_eq_f hz) ?_
    refine XS.aloadN X2.here hexec rfl (hb hbytes d6) rfl rfl ?_
    exact Steps.refl _)
  obtain ⟨T4, X4, q4, st4⟩ := X2.hget hexec hown (wk W (.fieldLink "java/lang/String" 15 "java/lang/String" "coder" "B")) (hx.mv X2.warmed.alike hh2) (g := (mkF m 7 #[.val (.ref x)] [.ref x])) rfl (rest := []) rfl (hb hbytes d7)
  have c5 : Steps p.tables e below (s₁.setTop (entryFrame m #[.ref x] 1)) (T4.setTop (mkF m 10 #[.val (.ref x)] [.int cd])) := c3.trans (st4 _ (Steps.refl _))
  have c6 : Steps p.tables e below (s₁.setTop (entryFrame m #[.ref x] 1)) (T4.setTop (mkF m 18 #[.val (.ref x)] [.int (1 - cd)])) := by
    rcases hc with rfl | rfl
    · exact c5.trans (by
        refine XS.ifNo X4.here hexec rfl (hb hbytes d10) rfl (i0_ne_f rfl) ?_
        refine iconstV X4.here hexec rfl 1 (hb hbytes d13) (by decide) ?_
        refine XS.goto X4.here hexec rfl (pc0 := 14) rfl (hb hbytes d14) (by decide) rfl ?_
        exact Steps.refl _)
    · exact c5.trans (by
        refine XS.ifYes X4.here hexec rfl (pc0 := 10) rfl (hb hbytes d10) rfl (i0_ne_t (by decide)) (by decide) rfl ?_
        refine iconstV X4.here hexec rfl 0 (hb hbytes d17) (by decide) ?_
        exact Steps.refl _)
  exact ⟨T4, some (.int (1 - cd)), _, _, _, X4, rfl, rfl, rfl, (fun h => by cases h), ⟨rfl, q4.trans hh2⟩, fun fs hl => c6.trans (X4.ireturnOut hexec hret (by rcases hc with rfl | rfl <;> rfl) (Or.inr (Or.inl rfl)) (hb hbytes d18) hl)⟩
end IsL
namespace LChA
def yN : MethodName := ⟨"java/lang/StringLatin1", "charAt", "([BI)C"⟩
abbrev yB : ByteArray := jdk_43_method_2_code
theorem d0 : decode yB 0 = .ok (.iload_n 1, 1) := by decide +kernel
theorem d1 : decode yB 1 = .ok (.aload_n 0, 1) := by decide +kernel
theorem d2 : decode yB 2 = .ok (.arraylength, 1) := by decide +kernel
theorem d3 : decode yB 3 = .ok (.invokestatic 9, 3) := by decide +kernel
theorem d6 : decode yB 6 = .ok (.aload_n 0, 1) := by decide +kernel
theorem d7 : decode yB 7 = .ok (.iload_n 1, 1) := by decide +kernel
theorem d8 : decode yB 8 = .ok (.baload, 1) := by decide +kernel
theorem d9 : decode yB 9 = .ok (.sipush 255, 3) := by decide +kernel
theorem d12 : decode yB 12 = .ok (.iand, 1) := by decide +kernel
theorem d13 : decode yB 13 = .ok (.i2c, 1) := by decide +kernel
theorem d14 : decode yB 14 = .ok (.ireturn, 1) := by decide +kernel
def site : List Cond := [JO.Str_checkIndex.tab] ++ staticW "java/lang/StringLatin1" 9 JO.Str_checkIndex.yN
def tab : Cond := tabOf yN yB 2 (some .char) site
def P (t : Addr) (V : Cell) (i : Nat) (u : Int32) (fm : Value) (args : Array Value) (s : State) : Prop := args = #[.ref t, .int (Int32.ofNat i)] ∧ XT.Arr .byte t V s ∧ V.slots[i]? = some (.int u) ∧ (StaticIs s "jdk/internal/util/Preconditions" "SIOOBE_FORMATTER" "Ljava/util/function/BiFunction;" fm ∧ fm.isRef = true)
def E (u : Int32) (r : Option Value) (s w : State) : Prop := XT.PureE (some (.int (chr8 u))) r s w
theorem law (l : Launch) (t : Addr) (V : Cell) (i : Nat) (u : Int32) (fm : Value) : Law l yN 2 2 2 27 yB 2 (some .char) site (P t V i u fm) (E u) [] 0 0 := by
  refine Law.of_walk (plainFor_of_name (by decide +kernel)) (by decide +kernel) (by decide +kernel) (by decide) (fun _ _ h => by rw [h.1]; rfl) (fun _ U U' hal hh h => ⟨h.1, h.2.1.mv hal hh, h.2.2.1, h.2.2.2.1.there hal hh, h.2.2.2.2⟩) (fun r U U' V V' h1 hal h2 h => XT.PureE.mv r U U' V V' h1 hal h2 h) ?_
  intro p e s m args below meth c s₁ X0 hexec hbytes hml hret hlk hnm hown hh0 W hP
  obtain ⟨rfl, hV, hu, s1, rf⟩ := hP
  have v31 := hV.2.2.2
  have hi : i < V.slots.size := (Array.getElem?_eq_some_iff.mp hu).1
  have c1 : Steps p.tables e below (s₁.setTop (entryFrame m #[.ref t, .int (Int32.ofNat i)] 2)) (s₁.setTop (mkF m 0 #[.val (.ref t), .val (.int (Int32.ofNat i))] [])) := entry rfl
  have c2 : Steps p.tables e below (s₁.setTop (entryFrame m #[.ref t, .int (Int32.ofNat i)] 2)) (s₁.setTop (mkF m 3 #[.val (.ref t), .val (.int (Int32.ofNat i))] [.int (Int32.ofNat V.slots.size), .int (Int32.ofNat i)])) := c1.trans (by
    refine XS.iloadN X0.here hexec rfl (hb hbytes d0) rfl ?_
    refine XS.aloadN X0.here hexec rfl (hb hbytes d1) rfl rfl ?_
    refine X0.alen hexec (hV.mv X0.warmed.alike hh0) rfl rfl (hb hbytes d2) ?_
    exact Steps.refl _)
  obtain ⟨v3, T3, X3, E3, g3⟩ := X0.callS hexec (JO.Str_checkIndex.law l (Int32.ofNat i) (Int32.ofNat V.slots.size) fm) hown (wks W (staticW "java/lang/StringLatin1" 9 JO.Str_checkIndex.yN)) (wk W JO.Str_checkIndex.tab) (W := 0) (Nat.le_of_ble_eq_true rfl) (Nat.le_of_ble_eq_true rfl) (Nat.le_refl _) (Nat.le_refl _) (g := (mkF m 3 #[.val (.ref t), .val (.int (Int32.ofNat i))] [.int (Int32.ofNat V.slots.size), .int (Int32.ofNat i)])) rfl (by rw [hml]; rfl) c2 (argsL := [.int (Int32.ofNat i), .int (Int32.ofNat V.slots.size)]) (rest := []) rfl rfl (by show 2 * 0 + 0 ≤ _; decide) (hb hbytes d3) (⟨rfl, rf, s1.there X0.warmed.alike hh0, Int32.ofNat_not_neg (by omega), lt32 v31 hi⟩)
  obtain ⟨rfl, q3⟩ := E3
  have hh3 := q3.trans hh0
  have c4 : Steps p.tables e below (s₁.setTop (entryFrame m #[.ref t, .int (Int32.ofNat i)] 2)) (T3.setTop (mkF m 14 #[.val (.ref t), .val (.int (Int32.ofNat i))] [.int (chr8 u)])) := Steps.trans g3 (by
    refine XS.aloadN X3.here hexec rfl (hb hbytes d6) rfl rfl ?_
    refine XS.iloadN X3.here hexec rfl (hb hbytes d7) rfl ?_
    refine X3.aget hexec (hV.mv X3.warmed.alike hh3) rfl hu rfl rfl (hb hbytes d8) ?_
    refine sipushV X3.here hexec rfl 255 (hb hbytes d9) (by decide) ?_
    refine XS.iand X3.here hexec rfl (hb hbytes d12) rfl ?_
    refine i2c X3.here hexec rfl (hb hbytes d13) rfl ?_
    exact Steps.refl _)
  exact ⟨T3, some (.int (chr8 u)), _, _, _, X3, rfl, rfl, rfl, (fun h => by cases h), ⟨rfl, hh3⟩, fun fs hl => c4.trans (X3.ireturnOut hexec hret (narrow_c _) (Or.inr (Or.inr (Or.inr (Or.inl rfl)))) (hb hbytes d14) hl)⟩
end LChA
end StrChars
namespace StrChars.Road
open Jvm Sem ClassFile Op Lib Jvm.Stand Jvm.Free Jvm.Free.XT
open Jvm.Lib.Cold (StaticIs)
theorem consq {a : Array Value} {s : State} {c : Jvm.Cond} {L : List Jvm.Cond} (h0 : c.before a s = true) (h : ∀ w ∈ L, w.before a s = true) : ∀ w ∈ c :: L, w.before a s = true := fun w hw => (List.mem_cons.mp hw).elim (fun e => e ▸ h0) (h w)
/-- the bytes of the chars cs, low before high -/
def wideBytes : List Int32 → List Value
  | [] => []
  | c :: cs => .int (lo8 c) :: .int (hi8 c) :: wideBytes cs
theorem wide_lo (d : Value) : ∀ (cs : List Int32) (j : Nat), j < cs.length → (wideBytes cs).getD (2 * j) d = .int (lo8 (cs.getD j 0))
  | [], j, h => absurd h (Nat.not_lt_zero j)
  | c :: cs, 0, _ => rfl
  | c :: cs, j + 1, h => by
    have q := wide_lo d cs j (by simpa using h)
    rw [show 2 * (j + 1) = 2 * j + 1 + 1 from by omega]
    simpa [wideBytes] using q
theorem wide_hi (d : Value) : ∀ (cs : List Int32) (j : Nat), j < cs.length → (wideBytes cs).getD (2 * j + 1) d = .int (hi8 (cs.getD j 0))
  | [], j, h => absurd h (Nat.not_lt_zero j)
  | c :: cs, 0, _ => rfl
  | c :: cs, j + 1, h => by
    have q := wide_hi d cs j (by simpa using h)
    rw [show 2 * (j + 1) + 1 = 2 * j + 1 + 1 + 1 from by omega]
    simpa [wideBytes] using q
theorem low_at (d : Value) (cs : List Int32) (j : Nat) (h : j < cs.length) : (cs.map fun c => Value.int (lo8 c)).getD j d = .int (lo8 (cs.getD j 0)) := by
  simp [List.getD_eq_getElem?_getD, h]
/-- an array of N2 bytes vs codes the chars cs by the coder cd -/
def CodA (cs : List Int32) (cd N2 : Int32) (vs : List Value) : Prop := (cd = 0 ∧ N2 = Int32.ofNat cs.length ∧ vs = (cs.map fun c => Value.int (lo8 c)) ∧ ∀ c ∈ cs, ¬ 255 < c) ∨ (cd = 1 ∧ N2 = Int32.ofNat (2 * cs.length) ∧ vs = wideBytes cs ∧ ∃ c ∈ cs, 255 < c)
theorem CodA.cod {cs : List Int32} {cd N2 : Int32} {vs : List Value} {V : Cell} (h : CodA cs cd N2 vs) (hn : 2 * cs.length < 2 ^ 31) (hs : V.slots.size = N2.toNatClampNeg) (hv : RoadKit.Has V vs (.int 0)) : Cod cd cs.length (fun j => cs.getD j 0) V := by
  rcases h with ⟨rfl, rfl, rfl, h⟩ | ⟨rfl, rfl, rfl, c, hc, hw⟩
  · rw [n32 (by omega)] at hs
    exact Or.inl ⟨rfl, hs, fun j hj => ⟨by rw [hv j (by omega), low_at _ _ _ hj], by
      have e : cs.getD j 0 = cs[j] := by simp [List.getD_eq_getElem?_getD, hj]
      show ¬ 255 < cs.getD j 0
      rw [e]; exact h _ (List.getElem_mem _)⟩⟩
  · rw [n32 (by omega)] at hs
    obtain ⟨j, hj, rfl⟩ := List.getElem_of_mem hc
    exact Or.inr ⟨rfl, hs, fun j hj => ⟨by rw [hv _ (by omega), wide_lo _ _ _ hj], by rw [hv _ (by omega), wide_hi _ _ _ hj]⟩, j, hj, by
      have e : cs.getD j 0 = cs[j] := by simp [List.getD_eq_getElem?_getD, hj]
      show 255 < cs.getD j 0
      rw [e]; exact hw⟩
/-- an object of exactly java/lang/String, its two fields found: as the laws ask it -/
theorem strObj {Z U : State} {a0 : Array Value} {kI : Nat} (wi : (Jvm.Cond.instantiable ST kI).before a0 Z = true) (al : Z.vm.Alike U.vm) {x : Addr} {v0 c0 : Value} (E : RoadKit.Exa Z U.heap x ST) (V : RoadKit.Fld Z U.heap x ST "value" "[B" v0) (C : RoadKit.Fld Z U.heap x ST "coder" "B" c0) :
    ∃ (D : Cell) (fV fC : Field), Blank ST x D U ∧ Found ST "value" "[B" fV U ∧ Found ST "coder" "B" fC U ∧ D.slots[fV.slot]? = some v0 ∧ D.slots[fC.slot]? = some c0 ∧ RoadKit.slotOf Z ST "value" "[B" = fV.slot ∧ RoadKit.slotOf Z ST "coder" "B" = fC.slot := by
  obtain ⟨D, cfV, kV, iV, fV, hD, gV, stV, knV, obV, asV, slV⟩ := V
  obtain ⟨D', cfC, kC, iC, fC, hD', gC, stC, -, -, asC, slC⟩ := C
  cases hD.symm.trans hD'
  obtain ⟨D2, kD, e1, e2, e3, e4, e5⟩ := E
  cases hD.symm.trans e1
  obtain ⟨c2, k2, i1, i2, i3, -⟩ := Cond.instantiable_spec wi
  cases e2.symm.trans i1
  cases e3.symm.trans i2
  obtain ⟨kU, u1, u2⟩ := al.2.2 _ _ e3
  exact ⟨D, fV, fC, ⟨hD, ⟨knV, fun q hq => by rw [hq] at obV; cases obV⟩, by rw [al.findClass]; exact e2, kU, u1, by rw [u2]; exact i3, by rw [u2]; exact e5 i3⟩, ⟨SBG.found_only al ⟨cfV, kV, iV, gV⟩, stV⟩, ⟨SBG.found_only al ⟨cfC, kC, iC, gC⟩, stC⟩, slV, slC, by simp [RoadKit.slotOf, gV], by simp [RoadKit.slotOf, gC]⟩
theorem sta_is {Z U : State} (al : Z.vm.Alike U.vm) {C n d : String} {v : Value} (S : RoadKit.Sta Z U.heap C n d v) : StaticIs U C n d v := by
  obtain ⟨cfS, iS, kS, fS, st, cS, t1, t2, t3, t4, t5, t6, t7⟩ := S
  exact StaticIs.there (s := { Z with heap := U.heap }) ⟨cfS, iS, kS, fS, st, cS, t1, t2, t3, t4, t5, (fun q => by rw [q] at t6; cases t6), t7⟩ al rfl
end StrChars.Road
namespace StrChars
open Jvm Sem ClassFile Op Lib Jvm.Stand Jvm.Free.XT Jvm.Free.ALB Jvm.Free.JM Jvm.Free
open Jvm.Lib.Cold (StaticIs)
/-- what place i of a byte[]'s cell holds -/
def yv (A : Cell) (i : Nat) : Int32 := match A.slots[i]? with | some (.int x) => x | _ => 0
theorem yv_get {a : Addr} {A : Cell} {U : State} (h : XT.Arr .byte a A U) (ht : Typed .byte A) {i : Nat} (hi : i < A.slots.size) : A.slots[i]? = some (.int (yv A i)) := by
  have e := Array.getElem?_eq_getElem hi
  have f := ht i _ e
  unfold yv; rw [e]
  generalize A.slots[i] = v at f
  cases v <;> simp [fits] at f ⊢
/-- the two arrays are equal, place for place -/
def EqC (A B : Cell) : Prop := A.slots.size = B.slots.size ∧ ∀ i, i < A.slots.size → yv A i = yv B i
/-- a boolean that says whether p -/
def Says01 (q : Prop) (r : Option Value) (s u : State) : Prop := ∃ v : Int32, r = some (.int v) ∧ u.heap = s.heap ∧ ((v = 1 ∧ q) ∨ (v = 0 ∧ ¬ q))
theorem Says01.mv {q : Prop} : ∀ r (U U' V V' : State), U'.heap = U.heap → V.vm.Alike V'.vm → V'.heap = V.heap → Says01 q r U V → Says01 q r U' V' :=
  fun r U U' V V' h1 _ h2 ⟨v, a, b, c⟩ => ⟨v, a, by rw [h1, h2]; exact b, c⟩
namespace LEq
def yN : MethodName := ⟨"java/lang/StringLatin1", "equals", "([B[B)Z"⟩
abbrev yB : ByteArray := jdk_43_method_13_code
theorem d0 : decode yB 0 = .ok (.aload_n 0, 1) := by decide +kernel
theorem d1 : decode yB 1 = .ok (.arraylength, 1) := by decide +kernel
theorem d2 : decode yB 2 = .ok (.aload_n 1, 1) := by decide +kernel
theorem d3 : decode yB 3 = .ok (.arraylength, 1) := by decide +kernel
theorem d4 : decode yB 4 = .ok (.if_icmp (.ne) 30, 3) := by decide +kernel
theorem d7 : decode yB 7 = .ok (.iconst 0, 1) := by decide +kernel
theorem d8 : decode yB 8 = .ok (.istore_n 2, 1) := by decide +kernel
theorem d9 : decode yB 9 = .ok (.iload_n 2, 1) := by decide +kernel
theorem d10 : decode yB 10 = .ok (.aload_n 0, 1) := by decide +kernel
theorem d11 : decode yB 11 = .ok (.arraylength, 1) := by decide +kernel
theorem d12 : decode yB 12 = .ok (.if_icmp (.ge) 20, 3) := by decide +kernel
theorem d15 : decode yB 15 = .ok (.aload_n 0, 1) := by decide +kernel
theorem d16 : decode yB 16 = .ok (.iload_n 2, 1) := by decide +kernel
theorem d17 : decode yB 17 = .ok (.baload, 1) := by decide +kernel
theorem d18 : decode yB 18 = .ok (.aload_n 1, 1) := by decide +kernel
theorem d19 : decode yB 19 = .ok (.iload_n 2, 1) := by decide +kernel
theorem d20 : decode yB 20 = .ok (.baload, 1) := by decide +kernel
theorem d21 : decode yB 21 = .ok (.if_icmp (.eq) 5, 3) := by decide +kernel
theorem d24 : decode yB 24 = .ok (.iconst 0, 1) := by decide +kernel
theorem d25 : decode yB 25 = .ok (.ireturn, 1) := by decide +kernel
theorem d26 : decode yB 26 = .ok (.iinc 2 1, 3) := by decide +kernel
theorem d29 : decode yB 29 = .ok (.goto (-20), 3) := by decide +kernel
theorem d32 : decode yB 32 = .ok (.iconst 1, 1) := by decide +kernel
theorem d33 : decode yB 33 = .ok (.ireturn, 1) := by decide +kernel
theorem d34 : decode yB 34 = .ok (.iconst 0, 1) := by decide +kernel
theorem d35 : decode yB 35 = .ok (.ireturn, 1) := by decide +kernel
def site : List Cond := []
def tab : Cond := tabOf yN yB 3 (some .boolean) site
def P (a : Addr) (A : Cell) (b : Addr) (B : Cell) (args : Array Value) (s : State) : Prop := args = #[.ref a, .ref b] ∧ XT.Arr .byte a A s ∧ Typed .byte A ∧ XT.Arr .byte b B s ∧ Typed .byte B
/-- whether two byte[] are equal, place for place -/
theorem law (l : Launch) (a : Addr) (A : Cell) (b : Addr) (B : Cell) : Law l yN 2 2 0 0 yB 3 (some .boolean) site (P a A b B) (Says01 (EqC A B)) [] 0 0 := by
  refine Law.of_walk (plainFor_of_name (by decide +kernel)) (by decide +kernel) (by decide +kernel) (by decide) (fun _ _ h => by rw [h.1]; rfl) (fun _ U U' hal hh h => ⟨h.1, h.2.1.mv hal hh, h.2.2.1, h.2.2.2.1.mv hal hh, h.2.2.2.2⟩) (fun r U U' V V' h1 hal h2 h => Says01.mv r U U' V V' h1 hal h2 h) ?_
  intro p e s m args below meth c s₁ X0 hexec hbytes hml hret hlk hnm hown hh0 W hP
  obtain ⟨rfl, hA, tA, hB, tB⟩ := hP
  have a31 := hA.2.2.2
  have b31 := hB.2.2.2
  have hA0 := hA.mv X0.warmed.alike hh0
  have hB0 := hB.mv X0.warmed.alike hh0
  have c1 : Steps p.tables e below (s₁.setTop (entryFrame m #[.ref a, .ref b] 3)) (s₁.setTop (mkF m 0 #[.val (.ref a), .val (.ref b), .unset] [])) := entry rfl
  have c2 : Steps p.tables e below (s₁.setTop (entryFrame m #[.ref a, .ref b] 3)) (s₁.setTop (mkF m 4 #[.val (.ref a), .val (.ref b), .unset] [.int (Int32.ofNat B.slots.size), .int (Int32.ofNat A.slots.size)])) := c1.trans (by
    refine XS.aloadN X0.here hexec rfl (hb hbytes d0) rfl rfl ?_
    refine X0.alen hexec hA0 rfl rfl (hb hbytes d1) ?_
    refine XS.aloadN X0.here hexec rfl (hb hbytes d2) rfl rfl ?_
    refine X0.alen hexec hB0 rfl rfl (hb hbytes d3) ?_
    exact Steps.refl _)
  by_cases hs : A.slots.size = B.slots.size
  · have c3 : Steps p.tables e below (s₁.setTop (entryFrame m #[.ref a, .ref b] 3)) (s₁.setTop (mkF m 9 #[.val (.ref a), .val (.ref b), .val (.int 0)] [])) := c2.trans (by
      refine XS.icmpNo X0.here hexec rfl (hb hbytes d4) rfl (ii_ne_f (by rw [hs])) ?_
      refine iconstV X0.here hexec rfl 0 (hb hbytes d7) (by decide) ?_
      refine XS.istoreN X0.here hexec rfl (hb hbytes d8) rfl rfl ?_
      exact Steps.refl _)
    have loop : ∀ (r i : Nat), i + r = A.slots.size → (∀ j, j < i → yv A j = yv B j) → Steps p.tables e below (s₁.setTop (entryFrame m #[.ref a, .ref b] 3)) (s₁.setTop (mkF m 9 #[.val (.ref a), .val (.ref b), .val (.int (Int32.ofNat i))] [])) → ∃ (pc : Nat) (Ls : Array Slot) (v : Int32), (pc = 25 ∨ pc = 33) ∧ ((v = 1 ∧ EqC A B) ∨ (v = 0 ∧ ¬ EqC A B)) ∧ Steps p.tables e below (s₁.setTop (entryFrame m #[.ref a, .ref b] 3)) (s₁.setTop (mkF m pc Ls [.int v])) := by
      intro r
      induction r with
      | zero =>
        intro i hi he cl
        exact ⟨33, _, 1, Or.inr rfl, Or.inl ⟨rfl, hs, fun j hj => he j (by omega)⟩, cl.trans (by
          refine XS.iloadN X0.here hexec rfl (hb hbytes d9) rfl ?_
          refine XS.aloadN X0.here hexec rfl (hb hbytes d10) rfl rfl ?_
          refine X0.alen hexec hA0 rfl rfl (hb hbytes d11) ?_
          refine XS.icmpYes X0.here hexec rfl (pc0 := 12) rfl (hb hbytes d12) rfl (ii_ge_t (nlt32 (by omega) (by omega))) (by decide) rfl ?_
          refine iconstV X0.here hexec rfl 1 (hb hbytes d32) (by decide) ?_
          exact Steps.refl _)⟩
      | succ r ih =>
        intro i hi he cl
        have c4 : Steps p.tables e below (s₁.setTop (entryFrame m #[.ref a, .ref b] 3)) (s₁.setTop (mkF m 21 #[.val (.ref a), .val (.ref b), .val (.int (Int32.ofNat i))] [.int (yv B i), .int (yv A i)])) := cl.trans (by
          refine XS.iloadN X0.here hexec rfl (hb hbytes d9) rfl ?_
          refine XS.aloadN X0.here hexec rfl (hb hbytes d10) rfl rfl ?_
          refine X0.alen hexec hA0 rfl rfl (hb hbytes d11) ?_
          refine XS.icmpNo X0.here hexec rfl (hb hbytes d12) rfl (ii_ge_f (lt32 (by omega) (by omega))) ?_
          refine XS.aloadN X0.here hexec rfl (hb hbytes d15) rfl rfl ?_
          refine XS.iloadN X0.here hexec rfl (hb hbytes d16) rfl ?_
          refine X0.aget hexec hA0 rfl (yv_get hA tA (i := i) (by omega)) rfl rfl (hb hbytes d17) ?_
          refine XS.aloadN X0.here hexec rfl (hb hbytes d18) rfl rfl ?_
          refine XS.iloadN X0.here hexec rfl (hb hbytes d19) rfl ?_
          refine X0.aget hexec hB0 rfl (yv_get hB tB (i := i) (by omega)) rfl rfl (hb hbytes d20) ?_
          exact Steps.refl _)
        by_cases hv : yv A i = yv B i
        · have c5 : Steps p.tables e below (s₁.setTop (entryFrame m #[.ref a, .ref b] 3)) (s₁.setTop (mkF m 9 #[.val (.ref a), .val (.ref b), .val (.int (Int32.ofNat i + 1))] [])) := c4.trans (by
            refine XS.icmpYes X0.here hexec rfl (pc0 := 21) rfl (hb hbytes d21) rfl (ii_eq_t hv) (by decide) rfl ?_
            refine iincV X0.here hexec rfl 1 (hb hbytes d26) (by decide) rfl rfl ?_
            refine XS.goto X0.here hexec rfl (pc0 := 29) rfl (hb hbytes d29) (by decide) rfl ?_
            exact Steps.refl _)
          rw [succ32] at c5
          exact ih (i + 1) (by omega) (fun j hj => by
            by_cases e : j = i
            · rw [e]; exact hv
            · exact he j (by omega)) c5
        · exact ⟨25, _, 0, Or.inl rfl, Or.inr ⟨rfl, fun q => hv (q.2 i (by omega))⟩, c4.trans (by
            refine XS.icmpNo X0.here hexec rfl (hb hbytes d21) rfl (ii_eq_f hv) ?_
            refine iconstV X0.here hexec rfl 0 (hb hbytes d24) (by decide) ?_
            exact Steps.refl _)⟩
    obtain ⟨pc, Ls, v, hpc, hv, cz⟩ := loop A.slots.size 0 (by omega) (fun j hj => absurd hj (Nat.not_lt_zero j)) c3
    have nv : narrow .boolean (.int v) = .int v := by rcases hv with ⟨rfl, -⟩ | ⟨rfl, -⟩ <;> rfl
    rcases hpc with rfl | rfl
    · exact ⟨s₁, some (.int v), _, _, _, X0, rfl, rfl, rfl, (fun h => by cases h), ⟨v, rfl, hh0, hv⟩, fun fs hl => cz.trans (X0.ireturnOut hexec hret nv (Or.inr (Or.inl rfl)) (hb hbytes d25) hl)⟩
    · exact ⟨s₁, some (.int v), _, _, _, X0, rfl, rfl, rfl, (fun h => by cases h), ⟨v, rfl, hh0, hv⟩, fun fs hl => cz.trans (X0.ireturnOut hexec hret nv (Or.inr (Or.inl rfl)) (hb hbytes d33) hl)⟩
  · have c3 : Steps p.tables e below (s₁.setTop (entryFrame m #[.ref a, .ref b] 3)) (s₁.setTop (mkF m 35 #[.val (.ref a), .val (.ref b), .unset] [.int 0])) := c2.trans (by
      refine XS.icmpYes X0.here hexec rfl (pc0 := 4) rfl (hb hbytes d4) rfl (ii_ne_t (ne32 a31 b31 hs)) (by decide) rfl ?_
      refine iconstV X0.here hexec rfl 0 (hb hbytes d34) (by decide) ?_
      exact Steps.refl _)
    exact ⟨s₁, some (.int 0), _, _, _, X0, rfl, rfl, rfl, (fun h => by cases h), ⟨0, rfl, hh0, Or.inr ⟨rfl, fun q => hs q.1⟩⟩, fun fs hl => c3.trans (X0.ireturnOut hexec hret rfl (Or.inr (Or.inl rfl)) (hb hbytes d35) hl)⟩
end LEq
theorem Cod.ty {cd : Int32} {n : Nat} {f : Nat → Int32} {V : Cell} (h : Cod cd n f V) : Typed .byte V := fun i v hv => by
  have hi : i < V.slots.size := (Array.getElem?_eq_some_iff.mp hv).1
  rcases h with ⟨-, k1, k2⟩ | ⟨-, k1, k2, -⟩
  · rw [(k2 i (by omega)).1] at hv; cases hv; exact fits_lo8 _
  · rcases Nat.mod_two_eq_zero_or_one i with e | e
    · obtain ⟨j, rfl⟩ : ∃ j, i = 2 * j := ⟨i / 2, by omega⟩
      rw [(k2 j (by omega)).1] at hv; cases hv; exact fits_lo8 _
    · obtain ⟨j, rfl⟩ : ∃ j, i = 2 * j + 1 := ⟨i / 2, by omega⟩
      rw [(k2 j (by omega)).2] at hv; cases hv; exact fits_lo8 _
/-- the same text -/
def SameT (n : Nat) (f : Nat → Int32) (k : Nat) (g : Nat → Int32) : Prop := n = k ∧ ∀ j, j < n → f j = g j
theorem lo8_inj {x y : Int32} (h0 : ¬ x < 0) (h1 : ¬ 255 < x) (k0 : ¬ y < 0) (k1 : ¬ 255 < y) (h : lo8 x = lo8 y) : x = y := by
  rw [← lo8_mask h0 h1, ← lo8_mask k0 k1, h]
/-- arrays coded by one coder are equal just where the texts are -/
theorem Cod.eqv {cd : Int32} {n k : Nat} {f g : Nat → Int32} {V V' : Cell} (h : Cod cd n f V) (h' : Cod cd k g V') (hf : ∀ j, j < n → ¬ f j < 0 ∧ ¬ 65535 < f j) (hg : ∀ j, j < k → ¬ g j < 0 ∧ ¬ 65535 < g j) : EqC V V' ↔ SameT n f k g := by
  have yvv : ∀ {W : Cell} {i : Nat} {x : Int32}, W.slots[i]? = some (.int x) → yv W i = x := fun q => by unfold yv; rw [q]
  rcases h with ⟨rfl, k1, k2⟩ | ⟨rfl, k1, k2, -⟩
  · rcases h' with ⟨-, m1, m2⟩ | ⟨e, -⟩
    · constructor
      · rintro ⟨e1, e2⟩
        refine ⟨by omega, fun j hj => ?_⟩
        have q := e2 j (by omega)
        rw [yvv (k2 j hj).1, yvv (m2 j (by omega)).1] at q
        exact lo8_inj (hf j hj).1 (k2 j hj).2 (hg j (by omega)).1 (m2 j (by omega)).2 q
      · rintro ⟨rfl, e2⟩
        refine ⟨by omega, fun j hj => ?_⟩
        rw [yvv (k2 j (by omega)).1, yvv (m2 j (by omega)).1, e2 j (by omega)]
    · exact absurd e (by decide)
  · rcases h' with ⟨e, -⟩ | ⟨-, m1, m2, -⟩
    · exact absurd e (by decide)
    · constructor
      · rintro ⟨e1, e2⟩
        refine ⟨by omega, fun j hj => ?_⟩
        have q1 := e2 (2 * j) (by omega)
        have q2 := e2 (2 * j + 1) (by omega)
        rw [yvv (k2 j hj).1, yvv (m2 j (by omega)).1] at q1
        rw [yvv (k2 j hj).2, yvv (m2 j (by omega)).2] at q2
        rw [← pair_says (hf j hj).1 (hf j hj).2, ← pair_says (hg j (by omega)).1 (hg j (by omega)).2, q1, q2]
      · rintro ⟨rfl, e2⟩
        refine ⟨by omega, fun i hi => ?_⟩
        rcases Nat.mod_two_eq_zero_or_one i with e | e
        · obtain ⟨j, rfl⟩ : ∃ j, i = 2 * j := ⟨i / 2, by omega⟩
          rw [yvv (k2 j (by omega)).1, yvv (m2 j (by omega)).1, e2 j (by omega)]
        · obtain ⟨j, rfl⟩ : ∃ j, i = 2 * j + 1 := ⟨i / 2, by omega⟩
          rw [yvv (k2 j (by omega)).2, yvv (m2 j (by omega)).2, e2 j (by omega)]
/-- two codings differ: so do the texts -/
theorem Cod.dif {cd cd' : Int32} {n k : Nat} {f g : Nat → Int32} {V V' : Cell} (h : Cod cd n f V) (h' : Cod cd' k g V') (hne : ¬ cd = cd') : ¬ SameT n f k g := by
  rintro ⟨rfl, e⟩
  rcases h with ⟨rfl, -, k2⟩ | ⟨rfl, -, -, j, hj, hw⟩
  · rcases h' with ⟨rfl, -⟩ | ⟨-, -, -, j, hj, hw⟩
    · exact hne rfl
    · exact (k2 j hj).2 (by rw [e j hj]; exact hw)
  · rcases h' with ⟨-, -, m2⟩ | ⟨rfl, -⟩
    · exact (m2 j hj).2 (by rw [← e j hj]; exact hw)
    · exact hne rfl
/-- an object of exactly C is an instance of C -/
theorem cinst {p : Program} {l : Launch} {e : Env} {R : Room} {s : State} {m : MethodId} {args : Array Value} {below : List Frame} {meth : Method} {c : Code} {T : State} {locs : List Loc} {cells slots : Nat} (X : Stand p l e R s m args below meth c T locs cells slots) (hexec : p.tables.exec = Jvm.exec) {own C : String} {index : Nat} (hown : s.vm.findClass own = some m.cls) (hlink : (Cond.classLink own index C).before args s = true) {a : Addr} (hE : Exact C a T)
    {g : JFrame} (hg : g.method = m) {rest : List Value} (hstack : g.stack = .ref a :: rest) (hdg : decode c.code g.pc = .ok (.instanceof index, 3)) :
    ∃ T', Stand p l e R s m args below meth c T' locs cells slots ∧ T'.heap = T.heap ∧ ∀ target, Steps p.tables e below (T'.setTop { g with pc := g.pc + 3, stack := .int 1 :: rest }) target → Steps p.tables e below (T.setTop g) target := by
  obtain ⟨cB, h1, D, h2, h3, h4⟩ := hE
  have h1' : s.vm.findClass C = some cB := by rw [← X.warmed.alike.findClass]; exact h1
  obtain ⟨vm', X', st⟩ := X.instanceofYes hexec hown hlink h2 h4 h1' (by rw [h3]; exact Jvm.Free.SB.assignable_self _ _) hg hstack hdg
  exact ⟨_, X', rfl, st⟩
theorem cself {p : Program} {l : Launch} {e : Env} {R : Room} {s : State} {m : MethodId} {args : Array Value} {below : List Frame} {meth : Method} {c : Code} {T : State} {locs : List Loc} {cells slots : Nat} (X : Stand p l e R s m args below meth c T locs cells slots) (hexec : p.tables.exec = Jvm.exec) {own C : String} {index : Nat} (hown : s.vm.findClass own = some m.cls) (hlink : (Cond.classLink own index C).before args s = true) {a : Addr} (hE : Exact C a T)
    {g : JFrame} (hg : g.method = m) {rest : List Value} (hstack : g.stack = .ref a :: rest) (hdg : decode c.code g.pc = .ok (.checkcast index, 3)) :
    ∃ T', Stand p l e R s m args below meth c T' locs cells slots ∧ T'.heap = T.heap ∧ ∀ target, Steps p.tables e below (T'.setTop { g with pc := g.pc + 3, stack := .ref a :: rest }) target → Steps p.tables e below (T.setTop g) target := by
  obtain ⟨cB, h1, D, h2, h3, h4⟩ := hE
  have h1' : s.vm.findClass C = some cB := by rw [← X.warmed.alike.findClass]; exact h1
  obtain ⟨vm', X', st⟩ := X.checkcastYes hexec hown hlink h2 h4 h1' (by rw [h3]; exact Jvm.Free.SB.assignable_self _ _) hg hstack hdg
  exact ⟨_, X', rfl, fun t h => st t (by rw [← hstack] at h; exact h)⟩
namespace SEq
def yN : MethodName := ⟨"java/lang/String", "equals", "(Ljava/lang/Object;)Z"⟩
abbrev yB : ByteArray := jdk_42_method_66_code
theorem d0 : decode yB 0 = .ok (.aload_n 0, 1) := by decide +kernel
theorem d1 : decode yB 1 = .ok (.aload_n 1, 1) := by decide +kernel
theorem d2 : decode yB 2 = .ok (.if_acmp (.ne) 5, 3) := by decide +kernel
theorem d5 : decode yB 5 = .ok (.iconst 1, 1) := by decide +kernel
theorem d6 : decode yB 6 = .ok (.ireturn, 1) := by decide +kernel
theorem d7 : decode yB 7 = .ok (.aload_n 1, 1) := by decide +kernel
theorem d8 : decode yB 8 = .ok (.instanceof 10, 3) := by decide +kernel
theorem d11 : decode yB 11 = .ok (.ifCond (.eq) 43, 3) := by decide +kernel
theorem d14 : decode yB 14 = .ok (.aload_n 1, 1) := by decide +kernel
theorem d15 : decode yB 15 = .ok (.checkcast 10, 3) := by decide +kernel
theorem d18 : decode yB 18 = .ok (.astore_n 2, 1) := by decide +kernel
theorem d19 : decode yB 19 = .ok (.getstatic 38, 3) := by decide +kernel
theorem d22 : decode yB 22 = .ok (.ifCond (.eq) 14, 3) := by decide +kernel
theorem d25 : decode yB 25 = .ok (.aload_n 0, 1) := by decide +kernel
theorem d26 : decode yB 26 = .ok (.getfield 15, 3) := by decide +kernel
theorem d29 : decode yB 29 = .ok (.aload_n 2, 1) := by decide +kernel
theorem d30 : decode yB 30 = .ok (.getfield 15, 3) := by decide +kernel
theorem d33 : decode yB 33 = .ok (.if_icmp (.ne) 21, 3) := by decide +kernel
theorem d36 : decode yB 36 = .ok (.aload_n 0, 1) := by decide +kernel
theorem d37 : decode yB 37 = .ok (.getfield 9, 3) := by decide +kernel
theorem d40 : decode yB 40 = .ok (.aload_n 2, 1) := by decide +kernel
theorem d41 : decode yB 41 = .ok (.getfield 9, 3) := by decide +kernel
theorem d44 : decode yB 44 = .ok (.invokestatic 541, 3) := by decide +kernel
theorem d47 : decode yB 47 = .ok (.ifCond (.eq) 7, 3) := by decide +kernel
theorem d50 : decode yB 50 = .ok (.iconst 1, 1) := by decide +kernel
theorem d51 : decode yB 51 = .ok (.goto 4, 3) := by decide +kernel
theorem d54 : decode yB 54 = .ok (.iconst 0, 1) := by decide +kernel
theorem d55 : decode yB 55 = .ok (.ireturn, 1) := by decide +kernel
def site : List Cond := [.classLink "java/lang/String" 10 "java/lang/String", .fieldLink "java/lang/String" 38 "java/lang/String" "COMPACT_STRINGS" "Z", .fieldLink "java/lang/String" 15 "java/lang/String" "coder" "B", .fieldLink "java/lang/String" 9 "java/lang/String" "value" "[B", LEq.tab] ++ staticW "java/lang/String" 541 LEq.yN
def tab : Cond := tabOf yN yB 3 (some .boolean) site
def P (x t : Addr) (V : Cell) (cd : Int32) (n : Nat) (f : Nat → Int32) (y t' : Addr) (V' : Cell) (cd' : Int32) (k : Nat) (g : Nat → Int32) (z : Int32) (args : Array Value) (s : State) : Prop := args = #[.ref x, .ref y] ∧ Txt x t V cd n f s ∧ Txt y t' V' cd' k g s ∧ StaticIs s "java/lang/String" "COMPACT_STRINGS" "Z" (.int z) ∧ ¬ z = 0
/-- equals(Object) of two Strings: whether the texts are the same -/
theorem law (l : Launch) (x t : Addr) (V : Cell) (cd : Int32) (n : Nat) (f : Nat → Int32) (y t' : Addr) (V' : Cell) (cd' : Int32) (k : Nat) (g : Nat → Int32) (z : Int32) : Law l yN 2 1 1 14 yB 3 (some .boolean) site (P x t V cd n f y t' V' cd' k g z) (Says01 (SameT n f k g)) [] 0 0 := by
  refine Law.of_walk (plainFor_of_name (by decide +kernel)) (by decide +kernel) (by decide +kernel) (by decide) (fun _ _ h => by rw [h.1]; rfl) (fun _ U U' hal hh h => ⟨h.1, h.2.1.mv hal hh, h.2.2.1.mv hal hh, h.2.2.2.1.there hal hh, h.2.2.2.2⟩) (fun r U U' V V' h1 hal h2 h => Says01.mv r U U' V V' h1 hal h2 h) ?_
  intro p e s m args below meth c s₁ X0 hexec hbytes hml hret hlk hnm hown hh0 W hP
  obtain ⟨rfl, hx, hy, s1, hz⟩ := hP
  have c1 : Steps p.tables e below (s₁.setTop (entryFrame m #[.ref x, .ref y] 3)) (s₁.setTop (mkF m 2 #[.val (.ref x), .val (.ref y), .unset] [.ref y, .ref x])) := Steps.trans (entry rfl) (by
    show Steps p.tables e below (s₁.setTop (mkF m 0 #[.val (.ref x), .val (.ref y), .unset] [])) _
    refine XS.aloadN X0.here hexec rfl (hb hbytes d0) rfl rfl ?_
    refine XS.aloadN X0.here hexec rfl (hb hbytes d1) rfl rfl ?_
    exact Steps.refl _)
  by_cases hxy : x = y
  · have c2 : Steps p.tables e below (s₁.setTop (entryFrame m #[.ref x, .ref y] 3)) (s₁.setTop (mkF m 6 #[.val (.ref x), .val (.ref y), .unset] [.int 1])) := c1.trans (by
      refine acmpNo X0.here hexec rfl (hb hbytes d2) rfl rfl rfl (by simp [acmp, hxy]) ?_
      refine iconstV X0.here hexec rfl 1 (hb hbytes d5) (by decide) ?_
      exact Steps.refl _)
    subst hxy
    have ec : cd = cd' := by
      obtain ⟨D, fd, a1, a2, a3⟩ := hx.2.2.1
      obtain ⟨D', fd', b1, b2, b3⟩ := hy.2.2.1
      cases a1.symm.trans b1
      obtain ⟨q1, q2, q3, q4⟩ := a2.1
      obtain ⟨r1, r2, r3, r4⟩ := b2.1
      cases q4.symm.trans r4
      cases a3.symm.trans b3; rfl
    have et : t = t' := by
      obtain ⟨D, fd, a1, a2, a3⟩ := hx.2.1
      obtain ⟨D', fd', b1, b2, b3⟩ := hy.2.1
      cases a1.symm.trans b1
      obtain ⟨q1, q2, q3, q4⟩ := a2.1
      obtain ⟨r1, r2, r3, r4⟩ := b2.1
      cases q4.symm.trans r4
      cases a3.symm.trans b3; rfl
    subst ec et
    have ev : V = V' := by cases hx.2.2.2.1.1.symm.trans hy.2.2.2.1.1; rfl
    subst ev
    have hs : SameT n f k g := (Cod.eqv hx.2.2.2.2.1 hy.2.2.2.2.1 hx.2.2.2.2.2 hy.2.2.2.2.2).mp ⟨rfl, fun _ _ => rfl⟩
    exact ⟨s₁, some (.int 1), _, _, _, X0, rfl, rfl, rfl, (fun h => by cases h), ⟨1, rfl, hh0, Or.inl ⟨rfl, hs⟩⟩, fun fs hl => c2.trans (X0.ireturnOut hexec hret rfl (Or.inr (Or.inl rfl)) (hb hbytes d6) hl)⟩
  · have c2 : Steps p.tables e below (s₁.setTop (entryFrame m #[.ref x, .ref y] 3)) (s₁.setTop (mkF m 8 #[.val (.ref x), .val (.ref y), .unset] [.ref y])) := c1.trans (by
      refine acmpYes X0.here hexec rfl (pc0 := 2) rfl (hb hbytes d2) rfl rfl rfl (by simp [acmp, hxy]) (by decide) rfl ?_
      refine XS.aloadN X0.here hexec rfl (hb hbytes d7) rfl rfl ?_
      exact Steps.refl _)
    obtain ⟨T3, X3, q3, st3⟩ := cinst X0 hexec hown (wk W (.classLink "java/lang/String" 10 "java/lang/String")) (hy.mv X0.warmed.alike hh0).1 (g := (mkF m 8 #[.val (.ref x), .val (.ref y), .unset] [.ref y])) rfl (rest := []) rfl (hb hbytes d8)
    have hh3 := q3.trans hh0
    have c4 : Steps p.tables e below (s₁.setTop (entryFrame m #[.ref x, .ref y] 3)) (T3.setTop (mkF m 15 #[.val (.ref x), .val (.ref y), .unset] [.ref y])) := (c2.trans (st3 _ (Steps.refl _))).trans (by
      refine XS.ifNo X3.here hexec rfl (hb hbytes d11) rfl (i0_eq_f (by decide)) ?_
      refine XS.aloadN X3.here hexec rfl (hb hbytes d14) rfl rfl ?_
      exact Steps.refl _)
    obtain ⟨T5, X5, q5, st5⟩ := cself X3 hexec hown (wk W (.classLink "java/lang/String" 10 "java/lang/String")) (hy.mv X3.warmed.alike hh3).1 (g := (mkF m 15 #[.val (.ref x), .val (.ref y), .unset] [.ref y])) rfl (rest := []) rfl (hb hbytes d15)
    have hh5 := q5.trans hh3
    have c6 : Steps p.tables e below (s₁.setTop (entryFrame m #[.ref x, .ref y] 3)) (T5.setTop (mkF m 19 #[.val (.ref x), .val (.ref y), .val (.ref y)] [])) := (c4.trans (st5 _ (Steps.refl _))).trans (by
      refine XS.astoreN X5.here hexec rfl (hb hbytes d18) rfl rfl rfl ?_
      exact Steps.refl _)
    obtain ⟨T7, X7, q7, st7⟩ := X5.sget hexec hown (wk W (.fieldLink "java/lang/String" 38 "java/lang/String" "COMPACT_STRINGS" "Z")) s1 (fun _ _ h => by rw [hh5]; exact h) (g := (mkF m 19 #[.val (.ref x), .val (.ref y), .val (.ref y)] [])) rfl (hb hbytes d19)
    have hh7 := q7.trans hh5
    have c8 : Steps p.tables e below (s₁.setTop (entryFrame m #[.ref x, .ref y] 3)) (T7.setTop (mkF m 26 #[.val (.ref x), .val (.ref y), .val (.ref y)] [.ref x])) := (c6.trans (st7 _ (Steps.refl _))).trans (by
      refine XS.ifNo X7.here hexec rfl (hb hbytes d22) rfl (i0_eq_f hz) ?_
      refine XS.aloadN X7.here hexec rfl (hb hbytes d25) rfl rfl ?_
      exact Steps.refl _)
    obtain ⟨T9, X9, q9, st9⟩ := X7.hget hexec hown (wk W (.fieldLink "java/lang/String" 15 "java/lang/String" "coder" "B")) (hx.mv X7.warmed.alike hh7).2.2.1 (g := (mkF m 26 #[.val (.ref x), .val (.ref y), .val (.ref y)] [.ref x])) rfl (rest := []) rfl (hb hbytes d26)
    have hh9 := q9.trans hh7
    have c10 : Steps p.tables e below (s₁.setTop (entryFrame m #[.ref x, .ref y] 3)) (T9.setTop (mkF m 30 #[.val (.ref x), .val (.ref y), .val (.ref y)] [.ref y, .int cd])) := (c8.trans (st9 _ (Steps.refl _))).trans (by
      refine XS.aloadN X9.here hexec rfl (hb hbytes d29) rfl rfl ?_
      exact Steps.refl _)
    obtain ⟨T11, X11, q11, st11⟩ := X9.hget hexec hown (wk W (.fieldLink "java/lang/String" 15 "java/lang/String" "coder" "B")) (hy.mv X9.warmed.alike hh9).2.2.1 (g := (mkF m 30 #[.val (.ref x), .val (.ref y), .val (.ref y)] [.ref y, .int cd])) rfl (rest := [.int cd]) rfl (hb hbytes d30)
    have hh11 := q11.trans hh9
    have c12 : Steps p.tables e below (s₁.setTop (entryFrame m #[.ref x, .ref y] 3)) (T11.setTop (mkF m 33 #[.val (.ref x), .val (.ref y), .val (.ref y)] [.int cd', .int cd])) := c10.trans (st11 _ (Steps.refl _))
    by_cases hcd : cd = cd'
    · subst hcd
      have c13 : Steps p.tables e below (s₁.setTop (entryFrame m #[.ref x, .ref y] 3)) (T11.setTop (mkF m 37 #[.val (.ref x), .val (.ref y), .val (.ref y)] [.ref x])) := c12.trans (by
        refine XS.icmpNo X11.here hexec rfl (hb hbytes d33) rfl (ii_ne_f rfl) ?_
        refine XS.aloadN X11.here hexec rfl (hb hbytes d36) rfl rfl ?_
        exact Steps.refl _)
      obtain ⟨T14, X14, q14, st14⟩ := X11.hget hexec hown (wk W (.fieldLink "java/lang/String" 9 "java/lang/String" "value" "[B")) (hx.mv X11.warmed.alike hh11).2.1 (g := (mkF m 37 #[.val (.ref x), .val (.ref y), .val (.ref y)] [.ref x])) rfl (rest := []) rfl (hb hbytes d37)
      have hh14 := q14.trans hh11
      have c15 : Steps p.tables e below (s₁.setTop (entryFrame m #[.ref x, .ref y] 3)) (T14.setTop (mkF m 41 #[.val (.ref x), .val (.ref y), .val (.ref y)] [.ref y, .ref t])) := (c13.trans (st14 _ (Steps.refl _))).trans (by
        refine XS.aloadN X14.here hexec rfl (hb hbytes d40) rfl rfl ?_
        exact Steps.refl _)
      obtain ⟨T16, X16, q16, st16⟩ := X14.hget hexec hown (wk W (.fieldLink "java/lang/String" 9 "java/lang/String" "value" "[B")) (hy.mv X14.warmed.alike hh14).2.1 (g := (mkF m 41 #[.val (.ref x), .val (.ref y), .val (.ref y)] [.ref y, .ref t])) rfl (rest := [.ref t]) rfl (hb hbytes d41)
      have hh16 := q16.trans hh14
      have c17 : Steps p.tables e below (s₁.setTop (entryFrame m #[.ref x, .ref y] 3)) (T16.setTop (mkF m 44 #[.val (.ref x), .val (.ref y), .val (.ref y)] [.ref t', .ref t])) := c15.trans (st16 _ (Steps.refl _))
      obtain ⟨v18, T18, X18, E18, g18⟩ := X16.callS hexec (LEq.law l t V t' V') hown (wks W (staticW "java/lang/String" 541 LEq.yN)) (wk W LEq.tab) (W := 0) (Nat.le_of_ble_eq_true rfl) (Nat.le_of_ble_eq_true rfl) (Nat.le_refl _) (Nat.le_refl _) (g := (mkF m 44 #[.val (.ref x), .val (.ref y), .val (.ref y)] [.ref t', .ref t])) rfl (by rw [hml]; rfl) c17 (argsL := [.ref t, .ref t']) (rest := []) rfl rfl (by show 2 * 0 + 0 ≤ _; decide) (hb hbytes d44) (⟨rfl, hx.2.2.2.1.mv X16.warmed.alike hh16, hx.2.2.2.2.1.ty, hy.2.2.2.1.mv X16.warmed.alike hh16, hy.2.2.2.2.1.ty⟩)
      obtain ⟨v, rfl, q18, hv⟩ := E18
      have iff := Cod.eqv hx.2.2.2.2.1 hy.2.2.2.2.1 hx.2.2.2.2.2 hy.2.2.2.2.2
      rcases hv with ⟨rfl, he⟩ | ⟨rfl, he⟩
      · have c19 : Steps p.tables e below (s₁.setTop (entryFrame m #[.ref x, .ref y] 3)) (T18.setTop (mkF m 55 #[.val (.ref x), .val (.ref y), .val (.ref y)] [.int 1])) := Steps.trans g18 (by
          refine XS.ifNo X18.here hexec rfl (hb hbytes d47) rfl (i0_eq_f (by decide)) ?_
          refine iconstV X18.here hexec rfl 1 (hb hbytes d50) (by decide) ?_
          refine XS.goto X18.here hexec rfl (pc0 := 51) rfl (hb hbytes d51) (by decide) rfl ?_
          exact Steps.refl _)
        exact ⟨T18, some (.int 1), _, _, _, X18, rfl, rfl, rfl, (fun h => by cases h), ⟨1, rfl, q18.trans hh16, Or.inl ⟨rfl, iff.mp he⟩⟩, fun fs hl => c19.trans (X18.ireturnOut hexec hret rfl (Or.inr (Or.inl rfl)) (hb hbytes d55) hl)⟩
      · have c19 : Steps p.tables e below (s₁.setTop (entryFrame m #[.ref x, .ref y] 3)) (T18.setTop (mkF m 55 #[.val (.ref x), .val (.ref y), .val (.ref y)] [.int 0])) := Steps.trans g18 (by
          refine XS.ifYes X18.here hexec rfl (pc0 := 47) rfl (hb hbytes d47) rfl (i0_eq_t rfl) (by decide) rfl ?_
          refine iconstV X18.here hexec rfl 0 (hb hbytes d54) (by decide) ?_
          exact Steps.refl _)
        exact ⟨T18, some (.int 0), _, _, _, X18, rfl, rfl, rfl, (fun h => by cases h), ⟨0, rfl, q18.trans hh16, Or.inr ⟨rfl, fun q => he (iff.mpr q)⟩⟩, fun fs hl => c19.trans (X18.ireturnOut hexec hret rfl (Or.inr (Or.inl rfl)) (hb hbytes d55) hl)⟩
    · have c13 : Steps p.tables e below (s₁.setTop (entryFrame m #[.ref x, .ref y] 3)) (T11.setTop (mkF m 55 #[.val (.ref x), .val (.ref y), .val (.ref y)] [.int 0])) := c12.trans (by
        refine XS.icmpYes X11.here hexec rfl (pc0 := 33) rfl (hb hbytes d33) rfl (ii_ne_t hcd) (by decide) rfl ?_
        refine iconstV X11.here hexec rfl 0 (hb hbytes d54) (by decide) ?_
        exact Steps.refl _)
      exact ⟨T11, some (.int 0), _, _, _, X11, rfl, rfl, rfl, (fun h => by cases h), ⟨0, rfl, hh11, Or.inr ⟨rfl, Cod.dif hx.2.2.2.2.1 hy.2.2.2.2.1 hcd⟩⟩, fun fs hl => c13.trans (X11.ireturnOut hexec hret rfl (Or.inr (Or.inl rfl)) (hb hbytes d55) hl)⟩
theorem pays {l : Launch} {R : Room} {p : Program} {e : Env} {below : List Frame} {s : State} {sargs : Array Value} {len W : Nat} (x t : Addr) (V : Cell) (cd : Int32) (n : Nat) (f : Nat → Int32) (y t' : Addr) (V' : Cell) (cd' : Int32) (k : Nat) (g : Nat → Int32) (z : Int32) (htab : tab.before sargs s = true) (hfr : 2 ≤ R.frames) (hlo : W + 28 ≤ R.locals) :
    Back l R p e below s sargs yN len W (fun A₁ a₁ => A₁.cells + 0 ≤ R.cells ∧ A₁.slots + 0 ≤ R.slots ∧ P x t V cd n f y t' V' cd' k g z a₁ A₁.U) (fun A₁ _ v₁ B₁ => Says01 (SameT n f k g) v₁ A₁.U B₁.U ∧ B₁.locs = A₁.locs ++ [] ∧ B₁.cells = A₁.cells + 0 ∧ B₁.slots = A₁.slots + 0) :=
  (law l x t V cd n f y t' V' cd' k g z).pays htab hfr (by omega)
end SEq
end StrChars
namespace StrChars.Road
open Jvm Sem ClassFile Op Lib Jvm.Stand Jvm.Free Jvm.Free.XT
open Jvm.Lib.Cold (StaticIs)
/-- the words of String.equals(Object) -/
abbrev wordsEq : List Jvm.Cond := [.code SEq.yN SEq.yB 3 (some .boolean), .initialized ST, .classLink ST 10 ST, .fieldLink ST 38 ST "COMPACT_STRINGS" "Z", .fieldLink ST 15 ST "coder" "B", .fieldLink ST 9 ST "value" "[B", .methodLink ST 541 LEq.yN, .static LEq.yN, .code LEq.yN LEq.yB 3 (some .boolean), .initialized "java/lang/StringLatin1"]
theorem tabEq_of {a : Array Value} {s : State} (h : ∀ w ∈ wordsEq, w.before a s = true) : SEq.tab.before a s = true := by
  have hl : LEq.tab.before a s = true := unparts (wk h (.code LEq.yN LEq.yB 3 (some .boolean))) (wks h (.initialized LEq.yN.cls :: LEq.site))
  have q := consq hl h
  exact unparts (wk q (.code SEq.yN SEq.yB 3 (some .boolean))) (wks q (.initialized SEq.yN.cls :: SEq.site))
theorem movedEq {Z s : State} {a0 args : Array Value} (hZ : Z.Warmed39 s.vm) (hw : ∀ d ∈ wordsEq, d.before a0 Z = true) : ∀ d ∈ wordsEq, d.before args s = true := fun d hd => by
  have t : ∀ d ∈ wordsEq, (d.onTables && d.keepsFace) = true := by decide +kernel
  exact RoadKit.mv hZ (hw d hd) (t d hd)
/-- the road's facts of a String, as the laws ask it -/
theorem txt_of {Z U : State} {a0 : Array Value} {kI : Nat} (wi : (Jvm.Cond.instantiable ST kI).before a0 Z = true) (al : Z.vm.Alike U.vm) {x t : Addr} {kb : ClassId} {cs : List Int32} {cd N2 : Int32} {vs : List Value} (E : RoadKit.Exa Z U.heap x ST) (V : RoadKit.Fld Z U.heap x ST "value" "[B" (.ref t)) (C : RoadKit.Fld Z U.heap x ST "coder" "B" (.int cd)) (K : RoadKit.Arv Z U.heap t kb .byte N2 vs (.int 0)) (hc : CodA cs cd N2 vs) (hb : ∀ c ∈ cs, ¬ c < 0 ∧ ¬ (65535 : Int32) < c) (l2 : cs.length ≤ 4000) :
    ∃ A, Txt x t A cd cs.length (fun j => cs.getD j 0) U := by
  obtain ⟨A, K1, K2, K3, K4, K5, K6⟩ := K
  have hcod := hc.cod (by omega) K3 K5
  obtain ⟨D, fV, fC, hB, F1, F2, g1, g2, -, -⟩ := strObj wi al E V C
  exact ⟨A, ⟨_, hB.2.2.1, D, hB.1, rfl, by cases q : D.vm <;> first | rfl | exact absurd q (hB.2.1.2 _)⟩, Has.of hB F1 g1, Has.of hB F2 g2, ⟨K1.1, State.isArrayOf_alike al K1.2.1, K1.2.2, by rcases hcod with ⟨-, q, -⟩ | ⟨-, q, -⟩ <;> omega⟩, hcod, fun j hj => by
    have e : cs.getD j 0 = cs[j] := by simp [List.getD_eq_getElem?_getD, hj]
    show ¬ cs.getD j 0 < 0 ∧ ¬ 65535 < cs.getD j 0
    rw [e]; exact hb _ (List.getElem_mem _)⟩
theorem same_list (cs ds : List Int32) : SameT cs.length (fun j => cs.getD j 0) ds.length (fun j => ds.getD j 0) ↔ cs = ds := by
  constructor
  · rintro ⟨e, q⟩
    refine List.ext_getElem e fun j h1 h2 => ?_
    have := q j h1
    simpa [List.getD_eq_getElem?_getD, h1, h2] using this
  · rintro rfl
    exact ⟨rfl, fun _ _ => rfl⟩
/-- **equals(Object) OF TWO SUCH STRINGS**: 1 just where the chars are the same -/
theorem eqW {p : Program} {l : Launch} {e : Env} {R : Room} {s : State} {args : Array Value} {below : List Frame} {len W : Nat} {Z : State} {a0 : Array Value} {h : Heap} (hZ : Z.Warmed39 s.vm) (hw : ∀ d ∈ wordsEq, d.before a0 Z = true) {kI : Nat} (wi : (Jvm.Cond.instantiable ST kI).before a0 Z = true)
    {x t : Addr} {kb : ClassId} {cs : List Int32} {cd N2 : Int32} {vs : List Value} (E : RoadKit.Exa Z h x ST) (V : RoadKit.Fld Z h x ST "value" "[B" (.ref t)) (C : RoadKit.Fld Z h x ST "coder" "B" (.int cd)) (K : RoadKit.Arv Z h t kb .byte N2 vs (.int 0)) (hc : CodA cs cd N2 vs) (hb : ∀ c ∈ cs, ¬ c < 0 ∧ ¬ (65535 : Int32) < c) (l2 : cs.length ≤ 4000)
    {y t' : Addr} {kb' : ClassId} {ds : List Int32} {cd' N2' : Int32} {vs' : List Value} (E' : RoadKit.Exa Z h y ST) (V' : RoadKit.Fld Z h y ST "value" "[B" (.ref t')) (C' : RoadKit.Fld Z h y ST "coder" "B" (.int cd')) (K' : RoadKit.Arv Z h t' kb' .byte N2' vs' (.int 0)) (hc' : CodA ds cd' N2' vs') (hb' : ∀ c ∈ ds, ¬ c < 0 ∧ ¬ (65535 : Int32) < c) (l2' : ds.length ≤ 4000)
    {z : Int32} (S : RoadKit.Sta Z h ST "COMPACT_STRINGS" "Z" (.int z)) (hz : ¬ z = 0) (hfr : 2 ≤ R.frames) (hlo : W + 28 ≤ R.locals) :
    Back l R p e below s args (⟨"java/lang/String", "equals", "(Ljava/lang/Object;)Z"⟩ : MethodName) len W (fun P a => a = #[.ref x, .ref y] ∧ P.U.heap = h ∧ P.cells + 0 ≤ R.cells ∧ P.slots + 0 ≤ R.slots)
      (fun P _ v B => ∃ L, (((v = some (.int 1) ∧ cs = ds) ∨ (v = some (.int 0) ∧ ¬ cs = ds)) ∧ L = [] ∧ B.U.heap = h) ∧ B.locs = P.locs ++ L ∧ B.cells = P.cells + 0 ∧ B.slots = P.slots + 0) := by
  intro m meth c P g ig mk a X hg hsize hdg hW hn hp'
  obtain ⟨rfl, rfl, r1, r2⟩ := hp'
  have al : Z.vm.Alike P.U.vm := hZ.alike.trans X.warmed.alike
  obtain ⟨A, hx⟩ := txt_of wi al E V C K hc hb l2
  obtain ⟨A', hy⟩ := txt_of wi al E' V' C' K' hc' hb' l2'
  obtain ⟨v, B, X', ⟨⟨w, hv, hh, hq⟩, hl, hk, hs⟩, st⟩ := SEq.pays x t A cd cs.length (fun j => cs.getD j 0) y t' A' cd' ds.length (fun j => ds.getD j 0) z (tabEq_of (movedEq hZ hw)) hfr hlo m meth c P g ig mk _ X hg hsize hdg hW hn ⟨r1, r2, rfl, hx, hy, sta_is al S, hz⟩
  refine ⟨v, B, X', ⟨[], ⟨?_, rfl, hh⟩, hl, hk, hs⟩, st⟩
  rcases hq with ⟨rfl, q⟩ | ⟨rfl, q⟩
  · exact Or.inl ⟨hv, (same_list cs ds).mp q⟩
  · exact Or.inr ⟨hv, fun e => q ((same_list cs ds).mpr e)⟩
end StrChars.Road
namespace StrChars
open Jvm Sem ClassFile Op Lib Jvm.Stand Jvm.Free.XT Jvm.Free.ALB Jvm.Free.JM Jvm.Free
open Jvm.Lib.Cold (StaticIs)
namespace ChN
def yN : MethodName := ⟨"java/lang/String", "charAt", "(I)C"⟩
abbrev yB : ByteArray := jdk_42_method_56_code
theorem d0 : decode yB 0 = .ok (.aload_n 0, 1) := by decide +kernel
theorem d1 : decode yB 1 = .ok (.invokevirtual 492, 3) := by decide +kernel
theorem d4 : decode yB 4 = .ok (.ifCond (.eq) 12, 3) := by decide +kernel
theorem d7 : decode yB 7 = .ok (.aload_n 0, 1) := by decide +kernel
theorem d8 : decode yB 8 = .ok (.getfield 9, 3) := by decide +kernel
theorem d11 : decode yB 11 = .ok (.iload_n 1, 1) := by decide +kernel
theorem d12 : decode yB 12 = .ok (.invokestatic 495, 3) := by decide +kernel
theorem d15 : decode yB 15 = .ok (.ireturn, 1) := by decide +kernel
def site : List Cond := [.fieldLink "java/lang/String" 9 "java/lang/String" "value" "[B", IsL.tab, LChA.tab] ++ virtW "java/lang/String" 492 "java/lang/String" IsL.yN IsL.yN ++ staticW "java/lang/String" 495 LChA.yN
def tab : Cond := tabOf yN yB 2 (some .char) site
def P (x t : Addr) (V : Cell) (n : Nat) (f : Nat → Int32) (z : Int32) (fm : Value) (i : Nat) (args : Array Value) (s : State) : Prop := args = #[.ref x, .int (Int32.ofNat i)] ∧ Txt x t V 0 n f s ∧ i < n ∧ StaticIs s "java/lang/String" "COMPACT_STRINGS" "Z" (.int z) ∧ ¬ z = 0 ∧ StaticIs s "jdk/internal/util/Preconditions" "SIOOBE_FORMATTER" "Ljava/util/function/BiFunction;" fm ∧ fm.isRef = true
def E (f : Nat → Int32) (i : Nat) (r : Option Value) (s u : State) : Prop := XT.PureE (some (.int (f i))) r s u
/-- charAt(i) of a Latin-1 String of n chars, i < n: f i -/
theorem law (l : Launch) (x t : Addr) (V : Cell) (n : Nat) (f : Nat → Int32) (z : Int32) (fm : Value) (i : Nat) : Law l yN 2 1 3 40 yB 2 (some .char) site (P x t V n f z fm i) (E f i) [] 0 0 := by
  refine Law.of_walk (plainFor_of_name (by decide +kernel)) (by decide +kernel) (by decide +kernel) (by decide) (fun _ _ h => by rw [h.1]; rfl) (fun _ U U' hal hh h => ⟨h.1, h.2.1.mv hal hh, h.2.2.1, h.2.2.2.1.there hal hh, h.2.2.2.2.1, h.2.2.2.2.2.1.there hal hh, h.2.2.2.2.2.2⟩) (fun r U U' V V' h1 hal h2 h => XT.PureE.mv r U U' V V' h1 hal h2 h) ?_
  intro p e s m args below meth c s₁ X0 hexec hbytes hml hret hlk hnm hown hh0 W hP
  obtain ⟨rfl, hx, hi, s1, hz, s3, rf⟩ := hP
  have v31 := hx.2.2.2.1.2.2.2
  have hr := hx.2.2.2.2.2 i hi
  have hx0 := hx.mv X0.warmed.alike hh0
  have c1 : Steps p.tables e below (s₁.setTop (entryFrame m #[.ref x, .int (Int32.ofNat i)] 2)) (s₁.setTop (mkF m 1 #[.val (.ref x), .val (.int (Int32.ofNat i))] [.ref x])) := Steps.trans (entry rfl) (by
    show Steps p.tables e below (s₁.setTop (mkF m 0 #[.val (.ref x), .val (.int (Int32.ofNat i))] [])) _
    refine XS.aloadN X0.here hexec rfl (hb hbytes d0) rfl rfl ?_
    exact Steps.refl _)
  obtain ⟨v2, T2, X2, E2, g2⟩ := X0.callV hexec (IsL.law l x 0 z) hown (wks W (virtW "java/lang/String" 492 "java/lang/String" IsL.yN IsL.yN)) rfl (by decide) (wk W IsL.tab) (W := 0) (Nat.le_of_ble_eq_true rfl) (Nat.le_of_ble_eq_true rfl) (Nat.le_refl _) (Nat.le_refl _) (hx0.1.fc X0.warmed.alike) hx0.1.is (g := (mkF m 1 #[.val (.ref x), .val (.int (Int32.ofNat i))] [.ref x])) rfl (by rw [hml]; rfl) c1 (argsL := []) (rest := []) rfl rfl (by show 2 * 0 + 0 ≤ _; decide) (hb hbytes d1) (⟨rfl, hx0.2.2.1, hx.2.2.2.2.1.cd, s1.there X0.warmed.alike hh0, hz⟩)
  obtain ⟨rfl, q2⟩ := E2
  have hh2 := q2.trans hh0
  have hx2 := hx.mv X2.warmed.alike hh2
  obtain ⟨-, k1, k2⟩ | ⟨k0, -⟩ := hx.2.2.2.2.1
  · have c3 : Steps p.tables e below (s₁.setTop (entryFrame m #[.ref x, .int (Int32.ofNat i)] 2)) (T2.setTop (mkF m 8 #[.val (.ref x), .val (.int (Int32.ofNat i))] [.ref x])) := Steps.trans g2 (by
      refine XS.ifNo X2.here hexec rfl (hb hbytes d4) rfl (i0_eq_f (by decide)) ?_
      refine XS.aloadN X2.here hexec rfl (hb hbytes d7) rfl rfl ?_
      exact Steps.refl _)
    obtain ⟨T4, X4, q4, st4⟩ := X2.hget hexec hown (wk W (.fieldLink "java/lang/String" 9 "java/lang/String" "value" "[B")) hx2.2.1 (g := (mkF m 8 #[.val (.ref x), .val (.int (Int32.ofNat i))] [.ref x])) rfl (rest := []) rfl (hb hbytes d8)
    have hh4 := q4.trans hh2
    have c5 : Steps p.tables e below (s₁.setTop (entryFrame m #[.ref x, .int (Int32.ofNat i)] 2)) (T4.setTop (mkF m 12 #[.val (.ref x), .val (.int (Int32.ofNat i))] [.int (Int32.ofNat i), .ref t])) := (c3.trans (st4 _ (Steps.refl _))).trans (by
      refine XS.iloadN X4.here hexec rfl (hb hbytes d11) rfl ?_
      exact Steps.refl _)
    obtain ⟨v6, T6, X6, E6, g6⟩ := X4.callS hexec (LChA.law l t V i (lo8 (f i)) fm) hown (wks W (staticW "java/lang/String" 495 LChA.yN)) (wk W LChA.tab) (W := 0) (Nat.le_of_ble_eq_true rfl) (Nat.le_of_ble_eq_true rfl) (Nat.le_refl _) (Nat.le_refl _) (g := (mkF m 12 #[.val (.ref x), .val (.int (Int32.ofNat i))] [.int (Int32.ofNat i), .ref t])) rfl (by rw [hml]; rfl) c5 (argsL := [.ref t, .int (Int32.ofNat i)]) (rest := []) rfl rfl (by show 2 * 0 + 0 ≤ _; decide) (hb hbytes d12) (⟨rfl, hx.2.2.2.1.mv X4.warmed.alike hh4, (k2 i hi).1, s3.there X4.warmed.alike hh4, rf⟩)
    obtain ⟨rfl, q6⟩ := E6
    rw [chr8_lo8 hr.1 (k2 i hi).2] at g6
    exact ⟨T6, some (.int (f i)), _, _, _, X6, rfl, rfl, rfl, (fun h => by cases h), ⟨rfl, q6.trans hh4⟩, fun fs hl => Steps.trans g6 (X6.ireturnOut hexec hret (narrow_ch hr.1 hr.2) (Or.inr (Or.inr (Or.inr (Or.inl rfl)))) (hb hbytes d15) hl)⟩
  · exact absurd k0 (by decide)
theorem pays {l : Launch} {R : Room} {p : Program} {e : Env} {below : List Frame} {s : State} {sargs : Array Value} {len W : Nat} (x t : Addr) (V : Cell) (n : Nat) (f : Nat → Int32) (z : Int32) (fm : Value) (i : Nat) (htab : tab.before sargs s = true) (hfr : 4 ≤ R.frames) (hlo : W + 53 ≤ R.locals) :
    Back l R p e below s sargs yN len W (fun A₁ a₁ => A₁.cells + 0 ≤ R.cells ∧ A₁.slots + 0 ≤ R.slots ∧ P x t V n f z fm i a₁ A₁.U) (fun A₁ _ v₁ B₁ => E f i v₁ A₁.U B₁.U ∧ B₁.locs = A₁.locs ++ [] ∧ B₁.cells = A₁.cells + 0 ∧ B₁.slots = A₁.slots + 0) :=
  (law l x t V n f z fm i).pays htab hfr (by omega)
end ChN
end StrChars
namespace StrChars.Road
open Jvm Sem ClassFile Op Lib Jvm.Stand Jvm.Free Jvm.Free.XT
open Jvm.Lib.Cold (StaticIs)
/-- the words of String.charAt(int), the Latin-1 road alone -/
abbrev wordsChN : List Jvm.Cond := [.code ChN.yN ChN.yB 2 (some .char), .initialized ST, .fieldLink ST 9 ST "value" "[B", .fieldLink ST 38 ST "COMPACT_STRINGS" "Z", .fieldLink ST 15 ST "coder" "B", .code IsL.yN IsL.yB 1 (some .boolean), .methodLink ST 492 IsL.yN, .declares IsL.yN, .selects ST IsL.yN IsL.yN, .instanceMethod IsL.yN,
  .methodLink ST 495 LChA.yN, .static LChA.yN, .code LChA.yN LChA.yB 2 (some .char), .initialized "java/lang/StringLatin1", .methodLink "java/lang/StringLatin1" 9 JO.Str_checkIndex.yN, .static JO.Str_checkIndex.yN, .code JO.Str_checkIndex.yN JO.Str_checkIndex.yB 2 none,
  .fieldLink ST 1053 "jdk/internal/util/Preconditions" "SIOOBE_FORMATTER" "Ljava/util/function/BiFunction;", .methodLink ST 1059 JC.PreCheck.yN, .static JC.PreCheck.yN, .code JC.PreCheck.yN JC.PreCheck.yB 3 (some .int), .initialized "jdk/internal/util/Preconditions"]
theorem tabChN_of {a : Array Value} {s : State} (h : ∀ w ∈ wordsChN, w.before a s = true) : ChN.tab.before a s = true := by
  have hp : JC.PreCheck.tab.before a s = true := unparts (wk h (.code JC.PreCheck.yN JC.PreCheck.yB 3 (some .int))) (wks h (.initialized JC.PreCheck.yN.cls :: JC.PreCheck.site))
  have qk := consq hp h
  have hk : JO.Str_checkIndex.tab.before a s = true := unparts (wk qk (.code JO.Str_checkIndex.yN JO.Str_checkIndex.yB 2 none)) (wks qk (.initialized JO.Str_checkIndex.yN.cls :: JO.Str_checkIndex.site))
  have ql := consq hk h
  have hl : LChA.tab.before a s = true := unparts (wk ql (.code LChA.yN LChA.yB 2 (some .char))) (wks ql (.initialized LChA.yN.cls :: LChA.site))
  have hi : IsL.tab.before a s = true := unparts (wk h (.code IsL.yN IsL.yB 1 (some .boolean))) (wks h (.initialized IsL.yN.cls :: IsL.site))
  have q := consq hi (consq hl h)
  exact unparts (wk q (.code ChN.yN ChN.yB 2 (some .char))) (wks q (.initialized ChN.yN.cls :: ChN.site))
theorem movedChN {Z s : State} {a0 args : Array Value} (hZ : Z.Warmed39 s.vm) (hw : ∀ d ∈ wordsChN, d.before a0 Z = true) : ∀ d ∈ wordsChN, d.before args s = true := fun d hd => by
  have t : ∀ d ∈ wordsChN, (d.onTables && d.keepsFace) = true := by decide +kernel
  exact RoadKit.mv hZ (hw d hd) (t d hd)
/-- **charAt(i) OF A LATIN-1 STRING**, i < n: the char -/
theorem chN {p : Program} {l : Launch} {e : Env} {R : Room} {s : State} {args : Array Value} {below : List Frame} {len W : Nat} {Z : State} {a0 : Array Value} {h : Heap} (hZ : Z.Warmed39 s.vm) (hw : ∀ d ∈ wordsChN, d.before a0 Z = true) {kI : Nat} (wi : (Jvm.Cond.instantiable ST kI).before a0 Z = true)
    {x t : Addr} {kb : ClassId} {cs : List Int32} {N2 z : Int32} {vs : List Value} {fm : Value} {i : Nat} {j : Int32} (E : RoadKit.Exa Z h x ST) (V : RoadKit.Fld Z h x ST "value" "[B" (.ref t)) (C : RoadKit.Fld Z h x ST "coder" "B" (.int 0)) (K : RoadKit.Arv Z h t kb .byte N2 vs (.int 0)) (hc : CodA cs 0 N2 vs) (hb : ∀ c ∈ cs, ¬ c < 0 ∧ ¬ (65535 : Int32) < c)
    (S : RoadKit.Sta Z h ST "COMPACT_STRINGS" "Z" (.int z)) (hz : ¬ z = 0) (F : RoadKit.Sta Z h "jdk/internal/util/Preconditions" "SIOOBE_FORMATTER" "Ljava/util/function/BiFunction;" fm) (rf : fm.isRef = true) (l2 : cs.length ≤ 4000) (hi : i < cs.length) (hj : j = Int32.ofNat i) (hfr : 4 ≤ R.frames) (hlo : W + 53 ≤ R.locals) :
    Back l R p e below s args (⟨"java/lang/String", "charAt", "(I)C"⟩ : MethodName) len W (fun P a => a = #[.ref x, .int j] ∧ P.U.heap = h ∧ P.cells + 0 ≤ R.cells ∧ P.slots + 0 ≤ R.slots)
      (fun P _ v B => ∃ L, (v = some (.int (cs.getD i 0)) ∧ L = [] ∧ B.U.heap = h) ∧ B.locs = P.locs ++ L ∧ B.cells = P.cells + 0 ∧ B.slots = P.slots + 0) := by
  subst hj
  intro m meth c P g ig mk a X hg hsize hdg hW hn hp'
  obtain ⟨rfl, rfl, r1, r2⟩ := hp'
  have al : Z.vm.Alike P.U.vm := hZ.alike.trans X.warmed.alike
  obtain ⟨A, hx⟩ := txt_of wi al E V C K hc hb l2
  obtain ⟨v, B, X', ⟨⟨hv, hh⟩, hl, hk, hs⟩, st⟩ := ChN.pays x t A cs.length (fun j => cs.getD j 0) z fm i (tabChN_of (movedChN hZ hw)) hfr hlo m meth c P g ig mk _ X hg hsize hdg hW hn ⟨r1, r2, rfl, hx, hi, sta_is al S, hz, sta_is al F, rf⟩
  exact ⟨v, B, X', ⟨[], ⟨hv, rfl, hh⟩, hl, hk, hs⟩, st⟩
end StrChars.Road
end Jvm.Pilot.@@N@@
namespace Jvm.Pilot.@@N@@
open Jvm Jvm.ClassFile Sem Op Lib Jvm.Free Jvm.Stand Jvm.LawKit Jvm.RoadKit Bundle Jvm.Pilot.@@N@@.Jvm.D
section OwnRun
variable {p : Program} {l : Launch} {e : Env} {R : Room} {s : State} {m : MethodId} {args : Array Value} {below : List Frame} {meth : Method} {c : Code} {T : State} {locs : List Loc} {cells slots : Nat}
/-- from S the run comes to its end, and there Q holds -/
def Run (p : Program) (e : Env) (below : List Frame) (Q : State → Outcome → Prop) (S : State) : Prop := ∃ s₂ o, Steps p.tables e below S s₂ ∧ s₂.status = .running ∧ Ended s₂ below o ∧ Q s₂ o
def Ends (s : State) (Qb : Option Value → Heap → List Loc → Prop) (C S : Nat) : State → Outcome → Prop := fun s₂ o => ∃ v L, o = .returned v ∧ Qb v s₂.heap L ∧ FrameEnd s o s₂ L C S
theorem Run.st {Q : State → Outcome → Prop} {S S' : State} (h : ∀ t, Steps p.tables e below S' t → Steps p.tables e below S t) (r : Run p e below Q S') : Run p e below Q S := by
  obtain ⟨a, b, c, d⟩ := r
  exact ⟨a, b, h _ c, d⟩
theorem Run.out (X : Stand p l e R s m args below meth c T locs cells slots) (hx : p.tables.exec = Jvm.exec) {Qb : Option Value → Heap → List Loc → Prop} {C S : Nat} {pc : Nat} {Ls : Array Slot} {w : Value} {t : FieldType} {i : Instr} {rest : List Value} (hlocks : meth.locks = false) (hret : meth.sig.returnType = some t) (hn : narrow t w = w)
    (hi : (i = .ireturn ∧ (t = .int ∨ t = .boolean ∨ t = .byte ∨ t = .char ∨ t = .short) ∧ ∃ z, w = .int z) ∨ (i = .lreturn ∧ t = .long ∧ ∃ z, w = .long z) ∨ (i = .dreturn ∧ t = .double ∧ ∃ z, w = .double z) ∨ (i = .freturn ∧ t = .float ∧ ∃ z, w = .float z) ∨ (i = .areturn ∧ t.isReference = true ∧ w.isRef = true))
    (hd : decode c.code pc = .ok (i, 1)) (hC : cells ≤ C) (hS : slots ≤ S) (hq : Qb (some w) T.heap locs) : Run p e below (Ends s Qb C S) (T.setTop (mkF m pc Ls (w :: rest))) := by
  obtain ⟨fs, hr, hrun, hended, hW, hsame⟩ := X.leave (v := some w) (fun h => by rw [hret] at h; cases h) hlocks
  exact ⟨_, _, retOut X hx hret hn hi hd hr, hrun, hended, _, _, rfl, hq, ⟨_, rfl⟩, hW, hsame.mono hC hS⟩
theorem Run.outV (X : Stand p l e R s m args below meth c T locs cells slots) (hx : p.tables.exec = Jvm.exec) {Qb : Option Value → Heap → List Loc → Prop} {C S : Nat} {pc : Nat} {Ls : Array Slot} (hlocks : meth.locks = false) (hret : meth.sig.returnType = none)
    (hd : decode c.code pc = .ok (.return_, 1)) (hC : cells ≤ C) (hS : slots ≤ S) (hq : Qb none T.heap locs) : Run p e below (Ends s Qb C S) (T.setTop (mkF m pc Ls [])) := by
  obtain ⟨fs, hr, hrun, hended, hW, hsame⟩ := X.leave (v := none) (fun _ => rfl) hlocks
  exact ⟨_, _, X.returnOut hx hret hd hr, hrun, hended, _, _, rfl, hq, ⟨_, rfl⟩, hW, hsame.mono hC hS⟩
theorem lcYes {cd : ClassFile.Cond} {x y : Int64} {b : Bool} (h : ifCond.holds cd (Jvm.Free.XT.cmpL x y) = b) : ifCond.holds cd (lcmpW x y) = b := h
theorem nb01 {P : Prop} [Decidable P] : narrow .boolean (.int (if P then (1 : Int32) else (0 : Int32))) = .int (if P then (1 : Int32) else (0 : Int32)) := by split <;> rfl
theorem staK {Z : State} {h h' : Heap} {C n d : String} {v : Value} {ws : List Addr} (F : Sta Z h C n d v) (K : Keep h h' ws) (q : ∀ x ∈ ws, ∀ c : Cell, h[x]? = some c → c.vm.isStatics = false) : Sta Z h' C n d v := by
  obtain ⟨cf, i, k, f, st, cell, h1, h2, h3, h4, h5, h6, h7⟩ := F
  refine ⟨cf, i, k, f, st, cell, h1, h2, h3, h4, K.2.1 st cell h5 (fun m => ?_), h6, h7⟩
  have := q st m cell h5
  rw [h6] at this
  cases this
theorem exaP {Z : State} {h : Heap} {a : Addr} {C : String} (E : Exa Z h a C) : ∀ c : Cell, h[a]? = some c → c.vm.isStatics = false := fun c hc => by
  obtain ⟨cell, k, h1, -, -, h4, -⟩ := E
  cases h1.symm.trans hc
  exact h4
theorem arvP {Z : State} {h : Heap} {a : Addr} {k : ClassId} {ty : FieldType} {n : Int32} {vs : List Value} {d : Value} (E : Arv Z h a k ty n vs d) : ∀ c : Cell, h[a]? = some c → c.vm.isStatics = false := fun c hc => by
  obtain ⟨cell, A, -⟩ := E
  cases A.1.symm.trans hc
  exact A.plain
theorem selSelf {s : State} {args : Array Value} {y : MethodName} {n : Nat} (wi : (Jvm.Cond.instantiable y.cls n).before args s = true) (hp : s.PrivateAt y) (hi : (Jvm.Cond.instanceMethod y).before args s = true) (hy : y.cls ≠ "java/lang/invoke/MethodHandle" ∧ y.cls ≠ "java/lang/invoke/VarHandle") : (Jvm.Cond.selects y.cls y y).before args s = true := by
  obtain ⟨c, k, h1, h2, -, h4, -⟩ := Cond.instantiable_spec wi
  rw [Bool.or_eq_false_iff] at h4
  exact selects_self_of_private h1 h2 h4.1 hp hi hy
theorem own_lsw {tb : Tables} [Ours tb] {e : Env} {below : List Frame} {T target : State} {m : MethodId} {c : Code} {g : JFrame} (h : At T m c below) (hx : tb.exec = Jvm.exec) (hg : g.method = m) {dflt : Int} {ps : Array (Int × Int)} {len : Nat} {o : Int} {pc0 pc' : Nat} (hpc : g.pc = pc0) (hd : decode c.code g.pc = .ok (.lookupswitch dflt ps, len)) {i : Int32} {rest : List Value} (hs : g.stack = .int i :: rest)
    (hsort : ∀ q ∈ ps.toList.zip ps.toList.tail, q.1.1 < q.2.1) (hoff : lookupswitch.offset ps.toList dflt i.toInt = o) (ho : 0 ≤ (pc0 : Int) + o) (hp : ((pc0 : Int) + o).toNat = pc')
    (hr : Steps tb e below (T.setTop { g with pc := pc', stack := rest }) target) : Steps tb e below (T.setTop g) target := by
  subst hg hpc hp
  jvm_step h [h.top, hx, hd, hs, hoff, ho, lookupswitch.wp_chain]
  exact ⟨fun a b a1 b1 q => hsort _ q, hr⟩
theorem own_dupX2 {tb : Tables} [Ours tb] {e : Env} {below : List Frame} {T target : State} {m : MethodId} {c : Code} {g : JFrame} (h : At T m c below) (hx : tb.exec = Jvm.exec) (hg : g.method = m) {x y z : Value} {rest : List Value} (hd : decode c.code g.pc = .ok (.dup_x2, 1)) (hs : g.stack = x :: y :: z :: rest) (hc : x.category = 1) (hc' : y.category = 1) (hc'' : z.category = 1)
    (hr : Steps tb e below (T.setTop { g with pc := g.pc + 1, stack := x :: y :: z :: x :: rest }) target) : Steps tb e below (T.setTop g) target := by
  subst hg
  jvm_step h [h.top, hx, hd, hs, hc, hc', hc'']
  exact hr
theorem ord_v {args : Array Value} {s : State} {t : Term} {C n d : String} {k : Int32} {a : Addr} (ht : t.eval args s none [] s = some (.ref a)) (h : (Jvm.Cond.eq (.field t C n d) (.int k)).value args s none s [] = some true) : Fld s s.heap a C n d (.int k) := by
  refine Fld.start ?_
  rw [← fld_at (C := C) (n := n) (dd := d) ht]
  simp only [Cond.value] at h
  cases hv : (Term.field t C n d).eval args s none [] s with
  | none => simp [hv] at h
  | some v => cases v <;> simp_all [Term.eval]
theorem arr_len {args : Array Value} {s : State} {t : Term} {a : Addr} {cl : Cell} {ty : FieldType} {n : Int32} (ht : t.eval args s none [] s = some (.ref a)) (A : Arr s s.heap a cl ty) (h : (Jvm.Cond.eq (.length t) (.int n)).value args s none s [] = some true) : cl.slots.size < 2 ^ 31 ∧ cl.slots.size.toInt32 = n := by
  have ha := A.fin (Vm.Alike.refl s.vm)
  by_cases q : cl.slots.size < 2 ^ 31
  · refine ⟨q, ?_⟩
    have e := len_f ht ha q
    have e2 : (Term.int n).eval args s none [] s = some (.int n) := rfl
    simp only [Cond.value, e, e2] at h
    simpa using h
  · simp [Cond.value, Term.eval, ht, ha, q] at h
theorem arr_elR {args : Array Value} {s : State} {t u : Term} {a b : Addr} {cl : Cell} {ty : FieldType} {j : Int32} (ht : t.eval args s none [] s = some (.ref a)) (A : Arr s s.heap a cl ty) (h : (Jvm.Cond.eq (.elem t (.int j)) u).value args s none s [] = some true) (hu : u.eval args s none [] s = some (.ref b)) (hj : ¬ j < 0) : cl.slots[j.toNatClampNeg]? = some (.ref b) := by
  have ha := A.fin (Vm.Alike.refl s.vm)
  have e : (Term.elem t (.int j)).eval args s none [] s = cl.slots[j.toNatClampNeg]? := elem_f ht rfl ha hj
  simp only [Cond.value, hu, e] at h
  cases hv : cl.slots[j.toNatClampNeg]? with
  | none => simp [hv] at h
  | some v => cases v <;> simp_all
theorem arr_elI {args : Array Value} {s : State} {t : Term} {a : Addr} {cl : Cell} {ty : FieldType} {j k : Int32} (ht : t.eval args s none [] s = some (.ref a)) (A : Arr s s.heap a cl ty) (h : (Jvm.Cond.eq (.elem t (.int j)) (.int k)).value args s none s [] = some true) (hj : ¬ j < 0) : cl.slots[j.toNatClampNeg]? = some (.int k) := by
  have ha := A.fin (Vm.Alike.refl s.vm)
  have e : (Term.elem t (.int j)).eval args s none [] s = cl.slots[j.toNatClampNeg]? := elem_f ht rfl ha hj
  have e2 : (Term.int k).eval args s none [] s = some (.int k) := rfl
  simp only [Cond.value, e, e2] at h
  cases hv : cl.slots[j.toNatClampNeg]? with
  | none => simp [hv] at h
  | some v => cases v <;> simp_all
theorem own_get (vs : List Int32) (j : Nat) : (vs.map Value.int).getD j (.int (0 : Int32)) = .int (vs.getD j 0) := by
  simp only [List.getD_eq_getElem?_getD, List.getElem?_map]
  cases vs[j]? <;> rfl
theorem own_set (vs : List Int32) (j : Nat) (x : Int32) : (vs.map Value.int).set j (.int x) = (vs.set j x).map Value.int := by
  rw [List.map_set]
theorem own_ltm {vs : List Int32} {j : Nat} (h : j < vs.length) : j < (vs.map Value.int).length := by rw [List.length_map]; exact h
/-- where a run stands with this heap, whatever it has written among the new cells -/
def Good (p : Program) (l : Launch) (e : Env) (R : Room) (s : State) (m : MethodId) (args : Array Value) (below : List Frame) (meth : Method) (c : Code) (n0 cells slots : Nat) (H : Heap) (T : State) : Prop := ∃ locs, Stand p l e R s m args below meth c T locs cells slots ∧ Fr n0 locs ∧ T.heap = H
theorem inb32 {j z : Int32} {n : Int} (hz : z.toInt = n) (h0 : 0 ≤ j.toInt) (h1 : j.toInt < n) : ¬ j < 0 ∧ j < z := by
  rw [Int32.lt_iff_toInt_lt, Int32.lt_iff_toInt_lt, hz]
  have : (0 : Int32).toInt = 0 := by decide
  omega
theorem own_nn {n : Int32} (h : 0 ≤ n.toInt) : ¬ n < 0 := by
  rw [Int32.lt_iff_toInt_lt]
  have : (0 : Int32).toInt = 0 := by decide
  omega
theorem own_cap {n : Int32} {c : Nat} (h : n.toInt < (c : Int) + 1) : n.toNatClampNeg ≤ c := by
  simp only [Int32.toNatClampNeg]
  omega
theorem own_fin (x : Int32) (n : Nat) (hn : n < 2147483648) (h0 : 0 ≤ x.toInt) (h1 : x.toInt < n) : ∃ i : Fin n, x = Int32.ofNat i.1 := by
  refine ⟨⟨x.toInt.toNat, by omega⟩, Int32.toInt_inj.mp ?_⟩
  show x.toInt = (Int32.ofNat x.toInt.toNat).toInt
  rw [Int32.toInt_ofNat_small (by omega)]
  omega
def own_pl (x : Slot) : Prop := match x with | .second => False | .val y => y.category = 1 | .unset => True
theorem own_stl {ls ls' : Array Slot} {i : Nat} {x : Slot} {v : Value} (hx : ls[i]? = some x) (hv : v.category = 1) (h : own_pl x) (e : ls.setIfInBounds i (.val v) = ls' := by rfl) : storeLocals ls i v = some ls' := by
  subst e; refine storeLocals_cat1 hx hv ?_
  cases x with
  | second => exact h
  | unset => trivial
  | val y => exact h
theorem own_cat {v : Value} (h : v.isRef = true) : v.category = 1 := by
  rcases ref_cases h with rfl | ⟨_, rfl⟩ <;> rfl
end OwnRun
theorem hwi {aV : Array Value} {Z : State} (hw : ∀ d ∈ tables_1, d.before aV Z = true) (i : Nat) {d : Jvm.Cond} (e : tables_1[i]? = some d) : d.before aV Z = true := hw _ (List.mem_of_getElem? e)
abbrev own_bs (cs : List Int32) : List Int32 := cs.map (fun c => c.toInt8.toInt32)
def own_L1 (cs : List Int32) : Prop := (∀ c ∈ cs, ¬ c < 0 ∧ ¬ (255 : Int32) < c) ∧ cs.length ≤ 4000
section OwnWide
variable {p : Program} {l : Launch} {e : Env} {R : Room} {s : State} {m : MethodId} {args : Array Value} {below : List Frame} {meth : Method} {c : Code} {T : State} {locs : List Loc} {cells slots : Nat} {Z : State}
def EndsW (Z s : State) (Qb : Option Value → Heap → List Loc → Prop) (C S : Nat) : State → Outcome → Prop := fun s₂ o => ∃ v L, o = .returned v ∧ Qb v s₂.heap L ∧ CHr Z consts_1 s.vm s.heap s₂.vm s₂.heap ∧ ReturnedEndW s o s₂ L C S
theorem Run.outW {vm₁ : Vm} (X : Stand p l e R (s.setVm vm₁) m args below meth c T locs cells slots) (hx : p.tables.exec = Jvm.exec) {n : Nat} (hSn : s.Since vm₁ n) (hnn : n ≤ T.heap.size) (CR : CHr Z consts_1 s.vm s.heap T.vm T.heap) {Qb : Option Value → Heap → List Loc → Prop} {C S : Nat} {pc : Nat} {Ls : Array Slot} {w : Value} {t : FieldType} {i : Instr} {rest : List Value} (hlocks : meth.locks = false) (hret : meth.sig.returnType = some t) (hn : narrow t w = w)
    (hi : (i = .ireturn ∧ (t = .int ∨ t = .boolean ∨ t = .byte ∨ t = .char ∨ t = .short) ∧ ∃ z, w = .int z) ∨ (i = .lreturn ∧ t = .long ∧ ∃ z, w = .long z) ∨ (i = .dreturn ∧ t = .double ∧ ∃ z, w = .double z) ∨ (i = .freturn ∧ t = .float ∧ ∃ z, w = .float z) ∨ (i = .areturn ∧ t.isReference = true ∧ w.isRef = true))
    (hd : decode c.code pc = .ok (i, 1)) (hC : cells ≤ C) (hS : slots ≤ S) (hq : Qb (some w) T.heap locs) : Run p e below (EndsW Z s Qb C S) (T.setTop (mkF m pc Ls (w :: rest))) := by
  obtain ⟨fs, hr, hrun, hended, r1, r2, r3, r4⟩ := X.leaveW hSn hnn (v := some w) (fun h => by rw [hret] at h; cases h) hlocks
  exact ⟨_, _, retOut X hx hret hn hi hd hr, hrun, hended, _, _, rfl, hq, CR, r1, r2, r3, r4.mono hC hS⟩
theorem Run.outVW {vm₁ : Vm} (X : Stand p l e R (s.setVm vm₁) m args below meth c T locs cells slots) (hx : p.tables.exec = Jvm.exec) {n : Nat} (hSn : s.Since vm₁ n) (hnn : n ≤ T.heap.size) (CR : CHr Z consts_1 s.vm s.heap T.vm T.heap) {Qb : Option Value → Heap → List Loc → Prop} {C S : Nat} {pc : Nat} {Ls : Array Slot} (hlocks : meth.locks = false) (hret : meth.sig.returnType = none)
    (hd : decode c.code pc = .ok (.return_, 1)) (hC : cells ≤ C) (hS : slots ≤ S) (hq : Qb none T.heap locs) : Run p e below (EndsW Z s Qb C S) (T.setTop (mkF m pc Ls [])) := by
  obtain ⟨fs, hr, hrun, hended, r1, r2, r3, r4⟩ := X.leaveW hSn hnn (v := none) (fun _ => rfl) hlocks
  exact ⟨_, _, X.returnOut hx hret hd hr, hrun, hended, _, _, rfl, hq, CR, r1, r2, r3, r4.mono hC hS⟩
/-- 'Good' for a walk that may load constants -/
def GoodW (p : Program) (l : Launch) (e : Env) (R : Room) (s : State) (m : MethodId) (args : Array Value) (below : List Frame) (meth : Method) (c : Code) (n0 cells slots : Nat) (own : String) (Z : State) (h0 H : Heap) (T : State) : Prop :=
  ∃ (vm₁ : Vm) (k : Nat) (locs : List Loc), Stand p l e R (s.setVm vm₁) m args below meth c T locs cells slots ∧ Fr n0 locs ∧ T.heap = H ∧ s.Since vm₁ k ∧ k ≤ H.size ∧ Z.Warmed39 (s.setVm vm₁).vm ∧ (s.setVm vm₁).vm.findClass own = some m.cls ∧ CHr Z consts_1 s.vm h0 vm₁ H
/-- a String whose value is still null is no booked one -/
theorem own_safeN {EL : List (String × Nat)} {vm : Vm} {h : Heap} {x : Addr} (hal : Z.vm.Alike vm) (E : Exa Z h x "java/lang/String") (F : Fld Z h x "java/lang/String" "value" "[B" .null) : Safe Z EL vm h x := fun B => by
  obtain ⟨pp, -, u, a, -, q, -, G, hor⟩ := B
  rcases hor with rfl | rfl
  · have G1 := G.ha
    obtain ⟨cS, ⟨⟨-, -, -, ⟨cv, kv, iv, g4, -⟩, -, -, -, g8, -⟩, -⟩, -⟩ := G
    obtain ⟨cell, cf, k, i, f, f1, f2, f3, f4, f5, f6, f7⟩ := F
    cases (show h[q.sa]? = some q.sC from G1).symm.trans f1
    obtain ⟨k2, e1, -⟩ := State.fieldFound?_setVm (s := { Z with heap := h }) hal (show ({ Z with heap := h } : State).fieldFound? _ _ _ = _ from f2)
    have e2 := (show (Wst Z vm h).fieldFound? _ _ _ = _ from e1).symm.trans g4
    simp only [Option.some.injEq, Prod.mk.injEq] at e2
    rw [← e2.2.2.2, f7] at g8
    simp at g8
  · obtain ⟨cell, k, e1, e2, e3, -, -⟩ := E
    cases (show h[q.sd]? = some q.SA from G.hd).symm.trans e1
    obtain ⟨cS, -, -, f, -⟩ := G
    have f : vm.findClass "[B" = some q.SA.cls := f
    rw [hal.findClass] at f
    obtain ⟨k1, q1, q2⟩ := Vm.findClass_spec f
    obtain ⟨k2, q3, q4⟩ := Vm.findClass_spec e2
    cases q1.symm.trans q3
    exact absurd (q2.symm.trans q4) (by decide)
theorem own_safeA {EL : List (String × Nat)} {vm : Vm} {h : Heap} {x : Addr} {k : ClassId} {ty : FieldType} {n : Int32} {vs : List Value} {d : Value} (hal : Z.vm.Alike vm) (A : Arv Z h x k ty n vs d) (ht : ty ≠ .byte) : Safe Z EL vm h x := by
  obtain ⟨cl, A, -⟩ := A
  exact Safe.arr hal A ht
end OwnWide
def own_lit0 : List Int32 := []
theorem own_lit0_t : (∀ c ∈ ("" : String).toList, c.toNat < 256) ∧ ("" : String).toList.map (fun c => Value.int (Jvm.Lit.byteI c.toNat.toUInt16)) = (own_bs own_lit0).map Value.int := ⟨by decide, by first | rfl | decide +kernel⟩
theorem own_lit0_L1 : own_L1 own_lit0 := ⟨by decide, by decide⟩
def own_lit1 : List Int32 := [109, 97, 114, 99, 120, 109, 108]
theorem own_lit1_t : (∀ c ∈ ("marcxml" : String).toList, c.toNat < 256) ∧ ("marcxml" : String).toList.map (fun c => Value.int (Jvm.Lit.byteI c.toNat.toUInt16)) = (own_bs own_lit1).map Value.int := ⟨by decide, by first | rfl | decide +kernel⟩
theorem own_lit1_L1 : own_L1 own_lit1 := ⟨by decide, by decide⟩
def own_lit2 : List Int32 := [105, 115, 111, 50, 55, 48, 57]
theorem own_lit2_t : (∀ c ∈ ("iso2709" : String).toList, c.toNat < 256) ∧ ("iso2709" : String).toList.map (fun c => Value.int (Jvm.Lit.byteI c.toNat.toUInt16)) = (own_bs own_lit2).map Value.int := ⟨by decide, by first | rfl | decide +kernel⟩
theorem own_lit2_L1 : own_L1 own_lit2 := ⟨by decide, by decide⟩
theorem own_EW {aV : Array Value} {Z : State} (hw : ∀ d ∈ tables_1, d.before aV Z = true) : EW Z aV consts_1 := (EW.cons (own := "com/example/heading_kin/headingkin/io/RecordFormatLabelledPinLaw") (index := 7) (text := "iso2709") (hwi hw 0 rfl) (by decide) (EW.cons (own := "com/example/heading_kin/headingkin/io/RecordFormatLabelledPinLaw") (index := 9) (text := "marcxml") (hwi hw 108 rfl) (by decide) (EW.cons (own := "java/lang/String") (index := 7) (text := "") (hwi hw 109 rfl) (by decide) EW.nil)))
theorem own_wS {aV : Array Value} {Z : State} (hw : ∀ d ∈ tables_1, d.before aV Z = true) : ∀ a ∈ Bundle.stringAtoms, a.before aV Z = true := fun d hd => hw d ((by decide +kernel : ∀ d ∈ Bundle.stringAtoms, d ∈ tables_1) d hd)
section OwnStr
open Jvm.Pilot.@@N@@.StrChars.Road
theorem own_cod {cs : List Int32} (h : own_L1 cs) : CodA cs 0 (Int32.ofNat cs.length) ((own_bs cs).map Value.int) := Or.inl ⟨rfl, rfl, by rw [own_bs, List.map_map]; rfl, fun c hc => (h.1 c hc).2⟩
theorem own_b16 {cs : List Int32} (h : own_L1 cs) : ∀ c ∈ cs, ¬ c < 0 ∧ ¬ (65535 : Int32) < c := fun c hc => ⟨(h.1 c hc).1, fun q => (h.1 c hc).2 (by
  rw [Int32.lt_iff_toInt_lt] at q ⊢
  have e1 : (65535 : Int32).toInt = 65535 := by decide
  have e2 : (255 : Int32).toInt = 255 := by decide
  omega)⟩
theorem own_ofN {j : Int32} (h0 : ¬ j < 0) : j = Int32.ofNat j.toNatClampNeg := by
  apply Int32.toInt_inj.mp
  rw [Int32.lt_iff_toInt_lt] at h0
  have e0 : (0 : Int32).toInt = 0 := by decide
  have := j.toInt_lt
  simp only [Int32.toNatClampNeg]
  rw [Int32.toInt_ofNat_small (by omega)]
  omega
theorem own_eqM {P A : Prop} [Decidable P] {v : Option Value} (hP : P ↔ A) (h : (v = some (.int 1) ∧ A) ∨ (v = some (.int 0) ∧ ¬ A)) : v = some (.int (if P then (1 : Int32) else (0 : Int32))) := by
  rcases h with ⟨e, q⟩ | ⟨e, q⟩
  · rw [if_pos (hP.mpr q)]; exact e
  · rw [if_neg (fun z => q (hP.mp z))]; exact e
theorem own_eqB {p : Program} {l : Launch} {e : Env} {R : Room} {s : State} {args : Array Value} {below : List Frame} {len W n0 : Nat} {Z : State} {a0 : Array Value} {h : Heap} (hw : ∀ d ∈ tables_1, d.before a0 Z = true) (hZ : Z.Warmed39 s.vm)
    {x t : Addr} {kb : ClassId} {cs : List Int32} (E : Exa Z h x ST) (V : Fld Z h x ST "value" "[B" (.ref t)) (C : Fld Z h x ST "coder" "B" (.int 0)) (K : Arv Z h t kb .byte (Int32.ofNat cs.length) ((own_bs cs).map Value.int) (.int 0)) (hL : own_L1 cs)
    {y t' : Addr} {kb' : ClassId} {ds : List Int32} (E' : Exa Z h y ST) (V' : Fld Z h y ST "value" "[B" (.ref t')) (C' : Fld Z h y ST "coder" "B" (.int 0)) (K' : Arv Z h t' kb' .byte (Int32.ofNat ds.length) ((own_bs ds).map Value.int) (.int 0)) (hL' : own_L1 ds)
    {z : Int32} (S : Sta Z h ST "COMPACT_STRINGS" "Z" (.int z)) (hz : ¬ z = 0) (hfr : 2 ≤ R.frames) (hlo : W + 28 ≤ R.locals) {P : Prop} [Decidable P] (hP : P ↔ cs = ds) :
    Back l R p e below s args (⟨"java/lang/String", "equals", "(Ljava/lang/Object;)Z"⟩ : MethodName) len W (fun A a => a = #[.ref x, .ref y] ∧ A.U.heap = h ∧ A.cells + 0 ≤ R.cells ∧ A.slots + 0 ≤ R.slots)
      (fun A _ v B => ∃ L, (v = some (.int (if P then (1 : Int32) else (0 : Int32))) ∧ Fr n0 L ∧ B.U.heap = h) ∧ B.locs = A.locs ++ L ∧ B.cells = A.cells + 0 ∧ B.slots = A.slots + 0) :=
  Back.mono (eqW (W := W) hZ (fun d hd => hw d ((by decide +kernel : ∀ d ∈ wordsEq, d ∈ tables_1) d hd)) (kI := 4) (own_wS hw _ (by simp [Bundle.stringAtoms, Bundle.sN])) E V C K (own_cod hL) (own_b16 hL) hL.2 E' V' C' K' (own_cod hL') (own_b16 hL') hL'.2 S hz hfr hlo) (fun _ _ q => q)
    (fun A a v B _ q => by
      obtain ⟨L, ⟨q1, q2, q3⟩, r⟩ := q
      exact ⟨L, ⟨own_eqM hP q1, by subst q2; exact Fr.nil n0, q3⟩, r⟩)
theorem own_chB {p : Program} {l : Launch} {e : Env} {R : Room} {s : State} {args : Array Value} {below : List Frame} {len W n0 : Nat} {Z : State} {a0 : Array Value} {h : Heap} (hw : ∀ d ∈ tables_1, d.before a0 Z = true) (hZ : Z.Warmed39 s.vm)
    {x t : Addr} {kb : ClassId} {cs : List Int32} (E : Exa Z h x ST) (V : Fld Z h x ST "value" "[B" (.ref t)) (C : Fld Z h x ST "coder" "B" (.int 0)) (K : Arv Z h t kb .byte (Int32.ofNat cs.length) ((own_bs cs).map Value.int) (.int 0)) (hL : own_L1 cs)
    {z : Int32} (S : Sta Z h ST "COMPACT_STRINGS" "Z" (.int z)) (hz : ¬ z = 0) {fm : Value} (F : Sta Z h "jdk/internal/util/Preconditions" "SIOOBE_FORMATTER" "Ljava/util/function/BiFunction;" fm) (rf : fm.isRef = true) {j : Int32} (h0 : ¬ j < 0) (hj : j.toNatClampNeg < cs.length) (hfr : 4 ≤ R.frames) (hlo : W + 53 ≤ R.locals) :
    Back l R p e below s args (⟨"java/lang/String", "charAt", "(I)C"⟩ : MethodName) len W (fun A a => a = #[.ref x, .int j] ∧ A.U.heap = h ∧ A.cells + 0 ≤ R.cells ∧ A.slots + 0 ≤ R.slots)
      (fun A _ v B => ∃ L, (v = some (.int (cs.getD j.toNatClampNeg 0)) ∧ Fr n0 L ∧ B.U.heap = h) ∧ B.locs = A.locs ++ L ∧ B.cells = A.cells + 0 ∧ B.slots = A.slots + 0) :=
  Back.mono (chN (W := W) hZ (fun d hd => hw d ((by decide +kernel : ∀ d ∈ wordsChN, d ∈ tables_1) d hd)) (kI := 4) (own_wS hw _ (by simp [Bundle.stringAtoms, Bundle.sN])) E V C K (own_cod hL) (own_b16 hL) S hz F rf hL.2 hj (own_ofN h0) hfr hlo) (fun _ _ q => q)
    (fun A a v B _ q => by
      obtain ⟨L, ⟨q1, q2, q3⟩, r⟩ := q
      exact ⟨L, ⟨q1, by subst q2; exact Fr.nil n0, q3⟩, r⟩)
def own_QS (Z : State) (x : Addr) (cs : List Int32) (h : Heap) (n0 : Nat) (v : Option Value) (h' : Heap) (L : List Loc) : Prop := v = none ∧ Fr n0 L ∧ Keep h h' [x] ∧ Exa Z h' x "java/lang/String" ∧ Fld Z h' x "java/lang/String" "coder" "B" (.int (0 : Int32)) ∧ ∃ (t : Addr) (kb : ClassId), Fld Z h' x "java/lang/String" "value" "[B" (.ref t) ∧ Arv Z h' t kb .byte (Int32.ofNat cs.length) ((own_bs cs).map Value.int) (.int (0 : Int32))
theorem own_bV {p : Program} {l : Launch} {e : Env} {R : Room} {s : State} {args : Array Value} {below : List Frame} {len W n0 : Nat} {Z : State} {a0 : Array Value} {h : Heap} (hw : ∀ d ∈ tables_1, d.before a0 Z = true) (hZ : Z.Warmed39 s.vm)
    {x b : Addr} {kC : ClassId} {cs : List Int32} {v0 c0 : Value} {z N : Int32} (cap : Nat) (hx0 : n0 ≤ x) (hh0 : n0 ≤ h.size) (E : Exa Z h x ST) (V : Fld Z h x ST "value" "[B" v0) (C : Fld Z h x ST "coder" "B" c0) (K : Arv Z h b kC .char N (cs.map Value.int) (.int (0 : Int32))) (S : Sta Z h ST "COMPACT_STRINGS" "Z" (.int z)) (hz : ¬ z = 0)
    (hN : cs.length = N.toNatClampNeg) (h0 : ¬ N < 0) (hne : ¬ N = 0) (hcap : N.toNatClampNeg ≤ cap) (hL : own_L1 cs) (hfr : 4 ≤ R.frames) (hlo : W + 65 ≤ R.locals) :
    Back l R p e below s args (⟨"java/lang/String", "<init>", "([C)V"⟩ : MethodName) len W (fun A a => a = #[.ref x, .ref b] ∧ A.U.heap = h ∧ A.cells + 1 ≤ R.cells ∧ A.slots + cap ≤ R.slots)
      (fun A _ v B => ∃ L, own_QS Z x cs h n0 v B.U.heap L ∧ B.locs = A.locs ++ L ∧ B.cells = A.cells + 1 ∧ B.slots = A.slots + cap) := by
  have eN : N = Int32.ofNat cs.length := by
    rw [hN]
    apply Int32.toInt_inj.mp
    rw [Int32.lt_iff_toInt_lt] at h0
    have e0 : (0 : Int32).toInt = 0 := by decide
    have := N.toInt_lt
    simp only [Int32.toNatClampNeg]
    rw [Int32.toInt_ofNat_small (by omega)]
    omega
  have l0 : 0 < cs.length := by
    rcases Nat.eq_zero_or_pos cs.length with q | q
    · exact absurd (by rw [eN, q]; rfl) hne
    · exact q
  have B := backV (p := p) (l := l) (e := e) (R := R) (s := s) (args := args) (below := below) (len := len) (W := W) hZ (fun d hd => hw d ((by decide +kernel : ∀ d ∈ words, d ∈ tables_1) d hd)) (kI := 4) (own_wS hw _ (by simp [Bundle.stringAtoms, Bundle.sN])) hx0 hh0 E V C K S hz rfl eN l0 hL.2 hL.1 rfl hfr hlo
  intro m meth c A g ig mk a X hg hsize hdg hW hn hp
  obtain ⟨hp1, hp2, hp3, hp4⟩ := hp
  obtain ⟨v, ⟨BU, Bl, Bc, Bs⟩, X', ⟨L, ⟨q1, q2, q3, q4, q5, t, kb, -, -, -, q9, q10⟩, hl, hc, hs⟩, st⟩ := B m meth c A g ig mk a X hg hsize hdg hW hn ⟨hp1, hp2, hp3, by omega⟩
  dsimp only [Pt.U, Pt.locs, Pt.cells, Pt.slots] at X' q3 q4 q5 q9 q10 hl hc hs st
  exact ⟨v, ⟨BU, Bl, A.cells + 1, A.slots + cap⟩, X'.mono (Nat.le_of_eq hc) (Nat.le_trans (Nat.le_of_eq hs) (Nat.add_le_add_left (by rw [hN]; exact hcap) _)), ⟨L, ⟨q1, q2, q3, q4, q5, t, kb, q9, eN ▸ q10⟩, hl, rfl, rfl⟩, st⟩
theorem own_rep {Z : State} {h : Heap} {a : Addr} {k : ClassId} {n : Int32} (F : Arv Z h a k .char n [] (.int (0 : Int32))) : Arv Z h a k .char n ((List.replicate n.toNatClampNeg (0 : Int32)).map Value.int) (.int (0 : Int32)) := by
  rw [List.map_replicate]
  exact F.pad (by simpa using pad_rep [] (.int (0 : Int32)) n.toNatClampNeg)
theorem own_repL (n : Nat) : ∀ c ∈ List.replicate n (0 : Int32), ¬ c < 0 ∧ ¬ (255 : Int32) < c := fun c hc => by
  rw [List.eq_of_mem_replicate hc]; decide
theorem own_narc {z : Int32} (h : ¬ z < 0 ∧ ¬ (255 : Int32) < z) : nar .char z = z := by
  obtain ⟨h0, h1⟩ := h
  have q : Value.int z.toUInt32.toUInt16.toUInt32.toInt32 = .int z := StrChars.narrow_ch h0 (fun q => h1 (by
    rw [Int32.lt_iff_toInt_lt] at q ⊢
    have e1 : (65535 : Int32).toInt = 65535 := by decide
    have e2 : (255 : Int32).toInt = 255 := by decide
    omega))
  exact Value.int.inj q
theorem own_setR {cs : List Int32} {j : Nat} {z : Int32} (h : ∀ c ∈ cs, ¬ c < 0 ∧ ¬ (255 : Int32) < c) (hz : ¬ z < 0 ∧ ¬ (255 : Int32) < z) : ∀ c ∈ cs.set j (nar .char z), ¬ c < 0 ∧ ¬ (255 : Int32) < c := fun c hc => by
  rw [own_narc hz] at hc
  rcases List.mem_or_eq_of_mem_set hc with q | rfl
  · exact h c q
  · exact hz
theorem own_r255 {z : Int32} (h : 0 ≤ z.toInt ∧ z.toInt < 256) : ¬ z < 0 ∧ ¬ (255 : Int32) < z := by
  rw [Int32.lt_iff_toInt_lt, Int32.lt_iff_toInt_lt]
  have e1 : (0 : Int32).toInt = 0 := by decide
  have e2 : (255 : Int32).toInt = 255 := by decide
  omega
theorem own_nc {z : Int32} (h : ¬ z < 0 ∧ ¬ (255 : Int32) < z) : narrow .char (.int z) = .int z := by
  have q := own_narc h
  exact congrArg Value.int q
theorem own_clt {j n : Int32} (h0 : ¬ j < 0) (h : j < n) : j.toNatClampNeg < n.toNatClampNeg := by
  rw [Int32.lt_iff_toInt_lt] at h0 h
  have e1 : (0 : Int32).toInt = 0 := by decide
  simp only [Int32.toNatClampNeg]
  omega
theorem own_getR {cs : List Int32} (h : own_L1 cs) {j : Nat} (hj : j < cs.length) : ¬ cs.getD j 0 < 0 ∧ ¬ (255 : Int32) < cs.getD j 0 := by
  have e : cs.getD j 0 = cs[j] := by simp [List.getD_eq_getElem?_getD, hj]
  rw [e]; exact h.1 _ (List.getElem_mem _)
theorem own_si {args : Array Value} {s : State} {C n d : String} {k : Int32} (h : (Jvm.Cond.eq (.static C n d) (.int k)).value args s none s [] = some true) : (Term.static C n d).eval args s none [] s = some (.int k) := by
  simp only [Cond.value] at h
  cases hv : (Term.static C n d).eval args s none [] s with
  | none => simp [hv] at h
  | some v => cases v <;> simp_all [Term.eval]
end OwnStr
def own_FL (cs : List Int32) (i m : Addr) : Value := if own_lit2 = cs then .ref i else if own_lit1 = cs then .ref m else .null
theorem own_FL_ref (cs : List Int32) (i m : Addr) : (own_FL cs i m).isRef = true := by unfold own_FL; (repeat' split) <;> rfl
theorem own_at7 {j : Int32} {cs : List Int32} (h0 : ¬ j < 0) (hl : cs.length = 7) (h : j < (7 : Int32)) : j.toNatClampNeg < cs.length := by
  rw [hl]
  exact own_clt h0 h
theorem pd_0 : parseMethodDescriptor "(I)C" = some ⟨[.int], some .char⟩ := by decide +kernel
theorem d1_0 : decode method_3_code 0 = .ok (.iload_n 1, 1) := by decide +kernel
theorem d1_1 : decode method_3_code 1 = .ok (.iload_n 2, 1) := by decide +kernel
theorem d1_2 : decode method_3_code 2 = .ok (.if_icmp .ne 5, 3) := by decide +kernel
theorem d1_5 : decode method_3_code 5 = .ok (.iload_n 3, 1) := by decide +kernel
theorem d1_6 : decode method_3_code 6 = .ok (.ireturn, 1) := by decide +kernel
theorem d1_7 : decode method_3_code 7 = .ok (.iload_n 1, 1) := by decide +kernel
theorem d1_8 : decode method_3_code 8 = .ok (.bipush 7, 2) := by decide +kernel
theorem d1_10 : decode method_3_code 10 = .ok (.if_icmp .ge 9, 3) := by decide +kernel
theorem d1_13 : decode method_3_code 13 = .ok (.aload_n 0, 1) := by decide +kernel
theorem d1_14 : decode method_3_code 14 = .ok (.iload_n 1, 1) := by decide +kernel
theorem d1_15 : decode method_3_code 15 = .ok (.invokevirtual 39, 3) := by decide +kernel
theorem d1_18 : decode method_3_code 18 = .ok (.ireturn, 1) := by decide +kernel
theorem d1_19 : decode method_3_code 19 = .ok (.iload 4, 2) := by decide +kernel
theorem d1_21 : decode method_3_code 21 = .ok (.ireturn, 1) := by decide +kernel
theorem pn_0 : plainName "com/example/heading_kin/headingkin/io/RecordFormatLabelledPinLaw" = true := by first | (simp [plainName, overriddenIn]; done) | decide +kernel
theorem ef_At (m : MethodId) (a0 : Addr) (p1 : Int32) (p2 : Int32) (p3 : Int32) (p4 : Int32) : entryFrame m #[(.ref a0), (.int p1), (.int p2), (.int p3), (.int p4)] 5 = mkF m 0 #[.val (.ref a0), .val (.int p1), .val (.int p2), .val (.int p3), .val (.int p4)] [] := by first | (simp [entryFrame, mkF, argsToLocals, Value.category]; done) | rfl
def QAt (Z : State) (a0 : Addr) (p1 : Int32) (p2 : Int32) (p3 : Int32) (p4 : Int32) (t0 : Addr) (k0 : ClassId) (cb : List Int32) (zc : Int32) (fm : Value) (h0 : Heap) (n0 : Nat) (v : Option Value) (h : Heap) (L : List Loc) : Prop := ∃ z : Int32, v = some (.int z) ∧ (¬ z < 0 ∧ ¬ (255 : Int32) < z) ∧ Fr n0 L ∧ h = h0
set_option maxRecDepth 65536 in
set_option maxHeartbeats 40000000 in
theorem rmAt (l : Launch) (Z : State) (aV : Array Value) (hw : ∀ d ∈ tables_1, d.before aV Z = true) (ws : List Jvm.Cond) (a0 : Addr) (p1 : Int32) (p2 : Int32) (p3 : Int32) (p4 : Int32) (t0 : Addr) (k0 : ClassId) (cb : List Int32) (zc : Int32) (fm : Value) (h0 : Heap) (n0 : Nat) (Zn : n0 ≤ h0.size) (OL : Old Z n0 h0) (hzc : ¬ zc = 0) (rfm : fm.isRef = true) (hL : own_L1 cb) (hl7 : cb.length = 7) (hp1 : ¬ p1 < 0) (hp3 : ¬ p3 < 0 ∧ ¬ (255 : Int32) < p3) (hp4 : ¬ p4 < 0 ∧ ¬ (255 : Int32) < p4) (E_a0 : Exa Z h0 a0 "java/lang/String") (F_coder_a0 : Fld Z h0 a0 "java/lang/String" "coder" "B" (.int (0 : Int32))) (F_value_a0 : Fld Z h0 a0 "java/lang/String" "value" "[B" (.ref t0)) (V_t0 : Arv Z h0 t0 k0 .byte (Int32.ofNat cb.length) ((own_bs cb).map Value.int) (.int (0 : Int32))) (S_cs : Sta Z Z.heap "java/lang/String" "COMPACT_STRINGS" "Z" (.int zc)) (S_sf : Sta Z Z.heap "jdk/internal/util/Preconditions" "SIOOBE_FORMATTER" "Ljava/util/function/BiFunction;" fm) :
    MetFree l (⟨"com/example/heading_kin/headingkin/io/RecordFormatLabelledPinLaw", "at", "(Ljava/lang/String;IICC)C"⟩ : MethodName) (head1 (Jvm.Cond.code (⟨"com/example/heading_kin/headingkin/io/RecordFormatLabelledPinLaw", "at", "(Ljava/lang/String;IICC)C"⟩ : MethodName) method_3_code 5 (some .char) :: ws) ({ frames := 4, cells := 0, slots := 0, locals := 53 } : Room)) (fun a U => a = #[(.ref a0), (.int p1), (.int p2), (.int p3), (.int p4)] ∧ Z.Warmed39 U.vm ∧ U.heap = h0) (fun _ _ _ _ _ => True) (fun _ U o U' => ∃ v L, o = .returned v ∧ QAt Z a0 p1 p2 p3 p4 t0 k0 cb zc fm h0 n0 v U'.heap L ∧ FrameEnd U o U' L ({ frames := 4, cells := 0, slots := 0, locals := 53 } : Room).cells ({ frames := 4, cells := 0, slots := 0, locals := 53 } : Room).slots) := by
  refine MetFree.of_bodySF (plainFor_of_name pn_0) hisR ?_
  intro p e s m args below meth c s₁ Bd hml0 hP hK
  obtain ⟨rfl, hZ, hh⟩ := hP
  have hx := Bd.exec
  have hby := Bd.bytes
  have hml : c.maxLocals = 5 := hml0
  have hown : s.vm.findClass "com/example/heading_kin/headingkin/io/RecordFormatLabelledPinLaw" = some m.cls := findClass_of_methodNamed Bd.named
  have hnm := (name_of_methodNamed Bd.named Bd.method).1
  have X0 : Stand p l e ({ frames := 4, cells := 0, slots := 0, locals := 53 } : Room) s m #[(.ref a0), (.int p1), (.int p2), (.int p3), (.int p4)] below meth c s₁ [] 0 0 := Stand.of_body Bd
  have e0 : s₁.heap = h0 := by rw [← hh, Bd.state]; rfl
  have N0 := Fr.nil n0
  have Kp := Keep.refl h0 []
  show Run p e below (Ends s (QAt Z a0 p1 p2 p3 p4 t0 k0 cb zc fm h0 n0) ({ frames := 4, cells := 0, slots := 0, locals := 53 } : Room).cells ({ frames := 4, cells := 0, slots := 0, locals := 53 } : Room).slots) _
  refine Run.st (S' := s₁.setTop (mkF m 0 #[.val (.ref a0), .val (.int p1), .val (.int p2), .val (.int p3), .val (.int p4)] [])) (fun t k => castTop (ef_At m a0 p1 p2 p3 p4) k) ?_
  refine Run.st (S' := s₁.setTop (mkF m 2 #[.val (.ref a0), .val (.int p1), .val (.int p2), .val (.int p3), .val (.int p4)] [(.int p2), (.int p1)])) (fun _ k => XS.iloadN X0.here hx rfl (hb hby d1_0) rfl (XS.iloadN X0.here hx rfl (hb hby d1_1) rfl k)) ?_
  by_cases hc2_1 : p1 = p2
  · refine Run.st (S' := s₁.setTop (mkF m 6 #[.val (.ref a0), .val (.int p1), .val (.int p2), .val (.int p3), .val (.int p4)] [(.int p3)])) (fun _ k => XS.icmpNo X0.here hx rfl (hb hby d1_2) rfl (teq hc2_1).2 (XS.iloadN X0.here hx rfl (hb hby d1_5) rfl k)) ?_
    refine Run.out X0 hx Bd.notSynchronized Bd.returns (own_nc hp3) (Or.inl ⟨rfl, by simp, _, rfl⟩) (hb hby d1_6) (by decide) (by decide) ?_
    rw [e0]
    exact ⟨_, rfl, hp3, N0, rfl⟩
  · refine Run.st (S' := s₁.setTop (mkF m 10 #[.val (.ref a0), .val (.int p1), .val (.int p2), .val (.int p3), .val (.int p4)] [(.int (7 : Int32)), (.int p1)])) (fun _ k => XS.icmpYes X0.here hx rfl (pc0 := 2) (pc' := 7) rfl (hb hby d1_2) rfl (feq hc2_1).2 (by decide) (by decide) (XS.iloadN X0.here hx rfl (hb hby d1_7) rfl (XS.bipush X0.here hx rfl (hb hby d1_8) k))) ?_
    by_cases hc10_2 : p1 < (7 : Int32)
    · refine Run.st (S' := s₁.setTop (mkF m 15 #[.val (.ref a0), .val (.int p1), .val (.int p2), .val (.int p3), .val (.int p4)] [(.int p1), (.ref a0)])) (fun _ k => XS.icmpNo X0.here hx rfl (hb hby d1_10) rfl (tlt hc10_2).2.1 (XS.aloadN X0.here hx rfl (hb hby d1_13) rfl rfl (XS.iloadN X0.here hx rfl (hb hby d1_14) rfl k))) ?_
      have u_S_cs := S_cs.ext OL.2
      have u_S_sf := S_sf.ext OL.2
      obtain ⟨cq3, kq3, q3a, q3b, q3c⟩ := isOf hZ e0 E_a0
      obtain ⟨_, _, ⟨T3, L3, k3, n3⟩, -, X3, ⟨Lc3, hQ3, l3, y3, z3⟩, st3⟩ := X0.virtualBack hx (y := (⟨"java/lang/String", "charAt", "(I)C"⟩ : MethodName)) (z := (⟨"java/lang/String", "charAt", "(I)C"⟩ : MethodName)) hown (mvT hZ (hwi hw 14 rfl)) (mvT hZ (hwi hw 15 rfl)) (notFace_of_selects (args := #[]) (mvT hZ (hwi hw 17 rfl))) (mvT hZ (hwi hw 17 rfl)) (mvT hZ (hwi hw 16 rfl)) (by decide) (own_chB (n0 := n0) (W := 0) hw hZ E_a0 F_value_a0 F_coder_a0 V_t0 hL u_S_cs hzc u_S_sf rfm hp1 (own_at7 hp1 hl7 hc10_2) (by decide) (by decide)) q3a q3c (g := (mkF m 15 #[.val (.ref a0), .val (.int p1), .val (.int p2), .val (.int p3), .val (.int p4)] [(.int p1), (.ref a0)])) rfl (by rw [hml]; rfl) (Steps.refl _) (argsL := [(.int p1)]) (rest := []) (lenOf pd_0 rfl) rfl (by show 2 * 0 + _ ≤ _; exact Nat.le_of_eq rfl) (hb hby d1_15) (fun _ _ => ⟨rfl, e0, (by decide : 0 + 0 ≤ _), (by decide : 0 + 0 ≤ _)⟩)
      dsimp only [Pt.U, Pt.locs, Pt.cells, Pt.slots] at X3 l3 y3 z3 st3 hQ3
      replace l3 := l3.symm; replace y3 := y3.symm; replace z3 := z3.symm; subst l3 y3 z3
      obtain ⟨rfl, N3q, e3⟩ := hQ3
      have N3 := Fr.app N0 N3q
      refine Run.st (S' := T3.setTop (mkF m 18 #[.val (.ref a0), .val (.int p1), .val (.int p2), .val (.int p3), .val (.int p4)] [(.int (cb.getD (p1).toNatClampNeg 0))])) (fun _ k => st3.trans k) ?_
      refine Run.out X3 hx Bd.notSynchronized Bd.returns (own_nc (own_getR hL (own_at7 hp1 hl7 hc10_2))) (Or.inl ⟨rfl, by simp, _, rfl⟩) (hb hby d1_18) (by decide) (by decide) ?_
      rw [e3]
      exact ⟨_, rfl, (own_getR hL (own_at7 hp1 hl7 hc10_2)), N3, rfl⟩
    · refine Run.st (S' := s₁.setTop (mkF m 21 #[.val (.ref a0), .val (.int p1), .val (.int p2), .val (.int p3), .val (.int p4)] [(.int p4)])) (fun _ k => XS.icmpYes X0.here hx rfl (pc0 := 10) (pc' := 19) rfl (hb hby d1_10) rfl (flt hc10_2).2.1 (by decide) (by decide) (XS.iload X0.here hx rfl (hb hby d1_19) rfl k)) ?_
      refine Run.out X0 hx Bd.notSynchronized Bd.returns (own_nc hp4) (Or.inl ⟨rfl, by simp, _, rfl⟩) (hb hby d1_21) (by decide) (by decide) ?_
      rw [e0]
      exact ⟨_, rfl, hp4, N0, rfl⟩
theorem d21_0 : decode jdk_31_method_10_code 0 = .ok (.aload_n 0, 1) := by decide +kernel
theorem d21_1 : decode jdk_31_method_10_code 1 = .ok (.ifnonnull 11, 3) := by decide +kernel
theorem d21_12 : decode jdk_31_method_10_code 12 = .ok (.aload_n 0, 1) := by decide +kernel
theorem d21_13 : decode jdk_31_method_10_code 13 = .ok (.areturn, 1) := by decide +kernel
theorem pn_1 : plainName "java/util/Objects" = true := by first | (simp [plainName, overriddenIn]; done) | decide +kernel
theorem ef_Rnn (m : MethodId) (a0 : Addr) : entryFrame m #[(.ref a0)] 1 = mkF m 0 #[.val (.ref a0)] [] := by first | (simp [entryFrame, mkF, argsToLocals, Value.category]; done) | rfl
def QRnn (Z : State) (a0 : Addr) (h0 : Heap) (n0 : Nat) (v : Option Value) (h : Heap) (L : List Loc) : Prop := v = some (.ref a0) ∧ Fr n0 L ∧ h = h0
set_option maxRecDepth 65536 in
set_option maxHeartbeats 40000000 in
theorem rmRnn (l : Launch) (Z : State) (aV : Array Value) (hw : ∀ d ∈ tables_1, d.before aV Z = true) (ws : List Jvm.Cond) (a0 : Addr) (h0 : Heap) (n0 : Nat) (Zn : n0 ≤ h0.size) :
    MetFree l (⟨"java/util/Objects", "requireNonNull", "(Ljava/lang/Object;)Ljava/lang/Object;"⟩ : MethodName) (head1 (Jvm.Cond.code (⟨"java/util/Objects", "requireNonNull", "(Ljava/lang/Object;)Ljava/lang/Object;"⟩ : MethodName) jdk_31_method_10_code 1 (some (.object "java/lang/Object")) :: ws) ({ frames := 0, cells := 0, slots := 0, locals := 0 } : Room)) (fun a U => a = #[(.ref a0)] ∧ Z.Warmed39 U.vm ∧ U.heap = h0) (fun _ _ _ _ _ => True) (fun _ U o U' => ∃ v L, o = .returned v ∧ QRnn Z a0 h0 n0 v U'.heap L ∧ FrameEnd U o U' L ({ frames := 0, cells := 0, slots := 0, locals := 0 } : Room).cells ({ frames := 0, cells := 0, slots := 0, locals := 0 } : Room).slots) := by
  refine MetFree.of_bodySF (plainFor_of_name pn_1) hisR ?_
  intro p e s m args below meth c s₁ Bd hml0 hP hK
  obtain ⟨rfl, hZ, hh⟩ := hP
  have hx := Bd.exec
  have hby := Bd.bytes
  have hml : c.maxLocals = 1 := hml0
  have hown : s.vm.findClass "java/util/Objects" = some m.cls := findClass_of_methodNamed Bd.named
  have hnm := (name_of_methodNamed Bd.named Bd.method).1
  have X0 : Stand p l e ({ frames := 0, cells := 0, slots := 0, locals := 0 } : Room) s m #[(.ref a0)] below meth c s₁ [] 0 0 := Stand.of_body Bd
  have e0 : s₁.heap = h0 := by rw [← hh, Bd.state]; rfl
  have N0 := Fr.nil n0
  have Kp := Keep.refl h0 []
  show Run p e below (Ends s (QRnn Z a0 h0 n0) ({ frames := 0, cells := 0, slots := 0, locals := 0 } : Room).cells ({ frames := 0, cells := 0, slots := 0, locals := 0 } : Room).slots) _
  refine Run.st (S' := s₁.setTop (mkF m 0 #[.val (.ref a0)] [])) (fun t k => castTop (ef_Rnn m a0) k) ?_
  refine Run.st (S' := s₁.setTop (mkF m 13 #[.val (.ref a0)] [(.ref a0)])) (fun _ k => XS.aloadN X0.here hx rfl (hb hby d21_0) rfl rfl (XS.ifnonnullYes X0.here hx rfl (pc0 := 1) (pc' := 12) rfl (hb hby d21_1) rfl (by decide) (by decide) (XS.aloadN X0.here hx rfl (hb hby d21_12) rfl rfl k))) ?_
  refine Run.out X0 hx Bd.notSynchronized Bd.returns rfl (Or.inr (Or.inr (Or.inr (Or.inr ⟨rfl, rfl, rfl⟩)))) (hb hby d21_13) (by decide) (by decide) ?_
  rw [e0]
  exact ⟨rfl, N0, rfl⟩
theorem d22_0 : decode jdk_32_method_2_code 0 = .ok (.aload_n 0, 1) := by decide +kernel
theorem d22_1 : decode jdk_32_method_2_code 1 = .ok (.invokespecial 7, 3) := by decide +kernel
theorem d22_4 : decode jdk_32_method_2_code 4 = .ok (.aload_n 0, 1) := by decide +kernel
theorem d22_5 : decode jdk_32_method_2_code 5 = .ok (.aload_n 1, 1) := by decide +kernel
theorem d22_6 : decode jdk_32_method_2_code 6 = .ok (.putfield 13, 3) := by decide +kernel
theorem d22_9 : decode jdk_32_method_2_code 9 = .ok (.return_, 1) := by decide +kernel
theorem pn_2 : plainName "java/util/Optional" = true := by first | (simp [plainName, overriddenIn]; done) | decide +kernel
theorem ef_OIni (m : MethodId) (a0 : Addr) (a1 : Addr) : entryFrame m #[(.ref a0), (.ref a1)] 2 = mkF m 0 #[.val (.ref a0), .val (.ref a1)] [] := by first | (simp [entryFrame, mkF, argsToLocals, Value.category]; done) | rfl
def QOIni (Z : State) (a0 : Addr) (a1 : Addr) (h0 : Heap) (n0 : Nat) (v : Option Value) (h : Heap) (L : List Loc) : Prop := v = none ∧ Fr n0 L ∧ Keep h0 h [a0] ∧ Exa Z h a0 "java/util/Optional" ∧ Fld Z h a0 "java/util/Optional" "value" "Ljava/lang/Object;" (.ref a1)
set_option maxRecDepth 65536 in
set_option maxHeartbeats 40000000 in
theorem rmOIni (l : Launch) (Z : State) (aV : Array Value) (hw : ∀ d ∈ tables_1, d.before aV Z = true) (ws : List Jvm.Cond) (a0 : Addr) (a1 : Addr) (h0 : Heap) (n0 : Nat) (Zn : n0 ≤ h0.size) (OL : Old Z n0 h0) (g_a0 : n0 ≤ a0) (E_a0 : Exa Z h0 a0 "java/util/Optional") (F_value_a0 : Fld Z h0 a0 "java/util/Optional" "value" "Ljava/lang/Object;" .null) :
    MetFree l (⟨"java/util/Optional", "<init>", "(Ljava/lang/Object;)V"⟩ : MethodName) (head1 (Jvm.Cond.code (⟨"java/util/Optional", "<init>", "(Ljava/lang/Object;)V"⟩ : MethodName) jdk_32_method_2_code 2 none :: ws) ({ frames := 1, cells := 0, slots := 0, locals := 12 } : Room)) (fun a U => a = #[(.ref a0), (.ref a1)] ∧ Z.Warmed39 U.vm ∧ U.heap = h0) (fun _ _ _ _ _ => True) (fun _ U o U' => ∃ v L, o = .returned v ∧ QOIni Z a0 a1 h0 n0 v U'.heap L ∧ FrameEnd U o U' L ({ frames := 1, cells := 0, slots := 0, locals := 12 } : Room).cells ({ frames := 1, cells := 0, slots := 0, locals := 12 } : Room).slots) := by
  refine MetFree.of_bodySF (plainFor_of_name pn_2) hisR ?_
  intro p e s m args below meth c s₁ Bd hml0 hP hK
  obtain ⟨rfl, hZ, hh⟩ := hP
  have hx := Bd.exec
  have hby := Bd.bytes
  have hml : c.maxLocals = 2 := hml0
  have hown : s.vm.findClass "java/util/Optional" = some m.cls := findClass_of_methodNamed Bd.named
  have hnm := (name_of_methodNamed Bd.named Bd.method).1
  have X0 : Stand p l e ({ frames := 1, cells := 0, slots := 0, locals := 12 } : Room) s m #[(.ref a0), (.ref a1)] below meth c s₁ [] 0 0 := Stand.of_body Bd
  have e0 : s₁.heap = h0 := by rw [← hh, Bd.state]; rfl
  have N0 := Fr.nil n0
  have Kp := Keep.refl h0 [a0]
  show Run p e below (Ends s (QOIni Z a0 a1 h0 n0) ({ frames := 1, cells := 0, slots := 0, locals := 12 } : Room).cells ({ frames := 1, cells := 0, slots := 0, locals := 12 } : Room).slots) _
  refine Run.st (S' := s₁.setTop (mkF m 0 #[.val (.ref a0), .val (.ref a1)] [])) (fun t k => castTop (ef_OIni m a0 a1) k) ?_
  refine Run.st (S' := s₁.setTop (mkF m 1 #[.val (.ref a0), .val (.ref a1)] [(.ref a0)])) (fun _ k => XS.aloadN X0.here hx rfl (hb hby d22_0) rfl rfl k) ?_
  obtain ⟨T1, X1, e1, st1⟩ := initO X0 hx hZ hown (hwi hw 123 rfl) (hwi hw 48 rfl) (hwi hw 49 rfl) e0 (g := (mkF m 1 #[.val (.ref a0), .val (.ref a1)] [(.ref a0)])) rfl (by rw [hml]; rfl) rfl (hb hby d22_1) (by decide) (W := 0) (by show 2 * 0 + _ ≤ _; exact Nat.le_of_eq rfl) (by decide)
  refine Run.st (S' := T1.setTop (mkF m 6 #[.val (.ref a0), .val (.ref a1)] [(.ref a1), (.ref a0)])) (fun _ k => st1 _ (XS.aloadN X1.here hx rfl (hb hby d22_4) rfl rfl (XS.aloadN X1.here hx rfl (hb hby d22_5) rfl rfl k))) ?_
  obtain ⟨T2, h2, X2, e2, W2, st2⟩ := putF X1 hx hZ hown (host := "") (Or.inl (hwi hw 102 rfl)) Via.refl e1 F_value_a0 E_a0 (Or.inr ⟨(hwi hw 103 rfl), rfl, hnm⟩) (hwi hw 114 rfl) (ty := (.object "java/lang/Object")) (by decide) rfl rfl (g := (mkF m 6 #[.val (.ref a0), .val (.ref a1)] [(.ref a1), (.ref a0)])) rfl rfl (hb hby d22_6)
  have F_value_a0 := F_value_a0.same W2
  have OL := OL.wr W2 g_a0
  have E_a0 := E_a0.wr W2
  have N2 := Fr.snoc X2 N0 g_a0
  have Kp := Kp.wr W2 (Or.inl (by simp))
  have Zn := Nat.le_trans Zn (Nat.le_of_eq W2.size.symm)
  refine Run.st (S' := T2.setTop (mkF m 9 #[.val (.ref a0), .val (.ref a1)] [])) (fun _ k => st2 _ k) ?_
  refine Run.outV X2 hx Bd.notSynchronized Bd.returns (hb hby d22_9) (by decide) (by decide) ?_
  rw [e2]
  exact ⟨rfl, N2, Kp, E_a0, F_value_a0⟩
theorem pd_1 : parseMethodDescriptor "(Ljava/lang/Object;)Ljava/lang/Object;" = some ⟨[(.object "java/lang/Object")], some (.object "java/lang/Object")⟩ := by decide +kernel
theorem pd_2 : parseMethodDescriptor "(Ljava/lang/Object;)V" = some ⟨[(.object "java/lang/Object")], none⟩ := by decide +kernel
theorem d20_0 : decode jdk_32_method_3_code 0 = .ok (.new 2, 3) := by decide +kernel
theorem d20_3 : decode jdk_32_method_3_code 3 = .ok (.dup, 1) := by decide +kernel
theorem d20_4 : decode jdk_32_method_3_code 4 = .ok (.aload_n 0, 1) := by decide +kernel
theorem d20_5 : decode jdk_32_method_3_code 5 = .ok (.invokestatic 17, 3) := by decide +kernel
theorem d20_8 : decode jdk_32_method_3_code 8 = .ok (.invokespecial 23, 3) := by decide +kernel
theorem d20_11 : decode jdk_32_method_3_code 11 = .ok (.areturn, 1) := by decide +kernel
theorem ef_Of (m : MethodId) (a0 : Addr) : entryFrame m #[(.ref a0)] 1 = mkF m 0 #[.val (.ref a0)] [] := by first | (simp [entryFrame, mkF, argsToLocals, Value.category]; done) | rfl
def QOf (Z : State) (a0 : Addr) (h0 : Heap) (n0 : Nat) (v : Option Value) (h : Heap) (L : List Loc) : Prop := ∃ (y0 : Addr), v = some (.ref y0) ∧ Fr n0 L ∧ Keep h0 h [] ∧ n0 ≤ y0 ∧ h0.size ≤ y0 ∧ Exa Z h y0 "java/util/Optional" ∧ Fld Z h y0 "java/util/Optional" "value" "Ljava/lang/Object;" (.ref a0)
set_option maxRecDepth 65536 in
set_option maxHeartbeats 40000000 in
theorem rmOf (l : Launch) (Z : State) (aV : Array Value) (hw : ∀ d ∈ tables_1, d.before aV Z = true) (ws : List Jvm.Cond) (a0 : Addr) (h0 : Heap) (n0 : Nat) (Zn : n0 ≤ h0.size) (OL : Old Z n0 h0) :
    MetFree l (⟨"java/util/Optional", "of", "(Ljava/lang/Object;)Ljava/util/Optional;"⟩ : MethodName) (head1 (Jvm.Cond.code (⟨"java/util/Optional", "of", "(Ljava/lang/Object;)Ljava/util/Optional;"⟩ : MethodName) jdk_32_method_3_code 1 (some (.object "java/util/Optional")) :: ws) ({ frames := 2, cells := 1, slots := 1, locals := 26 } : Room)) (fun a U => a = #[(.ref a0)] ∧ Z.Warmed39 U.vm ∧ U.heap = h0) (fun _ _ _ _ _ => True) (fun _ U o U' => ∃ v L, o = .returned v ∧ QOf Z a0 h0 n0 v U'.heap L ∧ FrameEnd U o U' L ({ frames := 2, cells := 1, slots := 1, locals := 26 } : Room).cells ({ frames := 2, cells := 1, slots := 1, locals := 26 } : Room).slots) := by
  refine MetFree.of_bodySF (plainFor_of_name pn_2) hisR ?_
  intro p e s m args below meth c s₁ Bd hml0 hP hK
  obtain ⟨rfl, hZ, hh⟩ := hP
  have hx := Bd.exec
  have hby := Bd.bytes
  have hml : c.maxLocals = 1 := hml0
  have hown : s.vm.findClass "java/util/Optional" = some m.cls := findClass_of_methodNamed Bd.named
  have hnm := (name_of_methodNamed Bd.named Bd.method).1
  have X0 : Stand p l e ({ frames := 2, cells := 1, slots := 1, locals := 26 } : Room) s m #[(.ref a0)] below meth c s₁ [] 0 0 := Stand.of_body Bd
  have e0 : s₁.heap = h0 := by rw [← hh, Bd.state]; rfl
  have N0 := Fr.nil n0
  have Kp := Keep.refl h0 []
  show Run p e below (Ends s (QOf Z a0 h0 n0) ({ frames := 2, cells := 1, slots := 1, locals := 26 } : Room).cells ({ frames := 2, cells := 1, slots := 1, locals := 26 } : Room).slots) _
  refine Run.st (S' := s₁.setTop (mkF m 0 #[.val (.ref a0)] [])) (fun t k => castTop (ef_Of m a0) k) ?_
  obtain ⟨T1, h1, X1, e1, E1, A1, D1, -, st1⟩ := newO X0 hx hZ hown (hwi hw 113 rfl) (hwi hw 114 rfl) (hwi hw 94 rfl) e0 (g := (mkF m 0 #[.val (.ref a0)] [])) rfl (hb hby d20_0) (by decide) (by decide)
  obtain ⟨b1, g1⟩ : ∃ z, z = h0.size := ⟨_, rfl⟩
  rw [← g1] at A1 D1 st1
  have OL := OL.ext E1
  have g_b1 : n0 ≤ b1 := Nat.le_trans Zn (Nat.le_of_eq g1.symm)
  have Zn := Nat.le_trans Zn E1.1
  have sz_b1 : h0.size ≤ b1 := Nat.le_trans Kp.1 (Nat.le_of_eq g1.symm)
  have Kp := Kp.ext E1
  have E_b1 := A1
  have F_value_b1 : Fld Z h1 b1 "java/util/Optional" "value" "Ljava/lang/Object;" .null := D1 (Or.inr (hwi hw 103 rfl)) (ty := (.object "java/lang/Object")) (by decide)
  refine Run.st (S' := T1.setTop (mkF m 5 #[.val (.ref a0)] [(.ref a0), (.ref b1), (.ref b1)])) (fun _ k => st1 _ (XS.dup X1.here hx rfl (hb hby d20_3) rfl rfl (XS.aloadN X1.here hx rfl (hb hby d20_4) rfl rfl k))) ?_
  obtain ⟨_, _, ⟨T2, L2, k2, n2⟩, -, X2, ⟨Lc2, hQ2, l2, y2, z2⟩, st2⟩ := Jvm.LawKit.callS X1 hx (y := (⟨"java/util/Objects", "requireNonNull", "(Ljava/lang/Object;)Ljava/lang/Object;"⟩ : MethodName)) hown (mvT hZ (hwi hw 115 rfl)) (mvT hZ (hwi hw 116 rfl)) (mvT hZ (hwi hw 117 rfl)) (mvT hZ (hwi hw 118 rfl)) (by decide) (backOf (W := 2) (rmRnn l Z aV hw [] a0 h1 n0 Zn ) hZ (hwi hw 118 rfl) (hwi hw 117 rfl) (by decide) (by decide)) (g := (mkF m 5 #[.val (.ref a0)] [(.ref a0), (.ref b1), (.ref b1)])) rfl (by rw [hml]; rfl) (argsL := [(.ref a0)]) (rest := [(.ref b1), (.ref b1)]) (lenOf pd_1 rfl) rfl (by show 2 * 0 + _ ≤ _; exact Nat.le_of_eq rfl) (hb hby d20_5) (fun _ _ => ⟨rfl, e1, (by decide : 1 + 0 ≤ _), (by decide : 1 + 0 ≤ _)⟩)
  dsimp only [Pt.U, Pt.locs, Pt.cells, Pt.slots] at X2 l2 y2 z2 st2 hQ2
  replace l2 := l2.symm; replace y2 := y2.symm; replace z2 := z2.symm; subst l2 y2 z2
  obtain ⟨rfl, N2q, e2⟩ := hQ2
  have N2 := Fr.app N0 N2q
  refine Run.st (S' := T2.setTop (mkF m 8 #[.val (.ref a0)] [(.ref a0), (.ref b1), (.ref b1)])) (fun _ k => st2 _ k) ?_
  obtain ⟨_, _, ⟨T3, L3, k3, n3⟩, -, X3, ⟨Lc3, hQ3, l3, y3, z3⟩, st3⟩ := X2.specialBack hx (y := (⟨"java/util/Optional", "<init>", "(Ljava/lang/Object;)V"⟩ : MethodName)) rfl hown (mvT hZ (hwi hw 119 rfl)) (mvT hZ (hwi hw 120 rfl)) (mvT hZ (hwi hw 122 rfl)) (by decide) (backOf (W := 1) (rmOIni l Z aV hw [] b1 a0 h1 n0 Zn OL g_b1 E_b1 F_value_b1) hZ (hwi hw 122 rfl) (hwi hw 94 rfl) (by decide) (by decide)) (g := (mkF m 8 #[.val (.ref a0)] [(.ref a0), (.ref b1), (.ref b1)])) rfl (by rw [hml]; rfl) (Steps.refl _) (a := b1) (argsL := [(.ref a0)]) (rest := [(.ref b1)]) (lenOf pd_2 rfl) rfl (by show 2 * 0 + _ ≤ _; exact Nat.le_of_eq rfl) (hb hby d20_8) (fun _ _ => ⟨rfl, e2, (by decide : 1 + 0 ≤ _), (by decide : 1 + 0 ≤ _)⟩)
  dsimp only [Pt.U, Pt.locs, Pt.cells, Pt.slots] at X3 l3 y3 z3 st3 hQ3
  replace l3 := l3.symm; replace y3 := y3.symm; replace z3 := z3.symm; subst l3 y3 z3
  obtain ⟨rfl, N3q, K3, q3_0, q3_1⟩ := hQ3
  have OL := OL.keep K3 (allS g_b1 all0)
  have E_b1 := q3_0
  have F_value_b1 := q3_1
  have Kp := Kp.trans K3 (allS (Or.inr sz_b1) all0)
  have Zn := Nat.le_trans Zn K3.1
  have N3 := Fr.app N2 N3q
  refine Run.st (S' := T3.setTop (mkF m 11 #[.val (.ref a0)] [(.ref b1)])) (fun _ k => st3.trans k) ?_
  refine Run.out X3 hx Bd.notSynchronized Bd.returns rfl (Or.inr (Or.inr (Or.inr (Or.inr ⟨rfl, rfl, rfl⟩)))) (hb hby d20_11) (by decide) (by decide) ?_
  exact ⟨b1, rfl, N3, Kp, g_b1, sz_b1, E_b1, F_value_b1⟩
theorem d17_0 : decode jdk_32_method_1_code 0 = .ok (.getstatic 1, 3) := by decide +kernel
theorem d17_3 : decode jdk_32_method_1_code 3 = .ok (.astore_n 0, 1) := by decide +kernel
theorem d17_4 : decode jdk_32_method_1_code 4 = .ok (.aload_n 0, 1) := by decide +kernel
theorem d17_5 : decode jdk_32_method_1_code 5 = .ok (.areturn, 1) := by decide +kernel
theorem ef_Emp (m : MethodId)  : entryFrame m #[] 1 = mkF m 0 #[.unset] [] := by first | (simp [entryFrame, mkF, argsToLocals, Value.category]; done) | rfl
def QEmp (Z : State) (em : Addr) (h0 : Heap) (n0 : Nat) (v : Option Value) (h : Heap) (L : List Loc) : Prop := v = some (.ref em) ∧ Fr n0 L ∧ h = h0
set_option maxRecDepth 65536 in
set_option maxHeartbeats 40000000 in
theorem rmEmp (l : Launch) (Z : State) (aV : Array Value) (hw : ∀ d ∈ tables_1, d.before aV Z = true) (ws : List Jvm.Cond) (em : Addr) (h0 : Heap) (n0 : Nat) (Zn : n0 ≤ h0.size) (OL : Old Z n0 h0) (S_em : Sta Z Z.heap "java/util/Optional" "EMPTY" "Ljava/util/Optional;" (.ref em)) (E_em : Exa Z Z.heap em "java/util/Optional") (F_value_em : Fld Z Z.heap em "java/util/Optional" "value" "Ljava/lang/Object;" .null) :
    MetFree l (⟨"java/util/Optional", "empty", "()Ljava/util/Optional;"⟩ : MethodName) (head1 (Jvm.Cond.code (⟨"java/util/Optional", "empty", "()Ljava/util/Optional;"⟩ : MethodName) jdk_32_method_1_code 1 (some (.object "java/util/Optional")) :: ws) ({ frames := 0, cells := 0, slots := 0, locals := 0 } : Room)) (fun a U => a = #[] ∧ Z.Warmed39 U.vm ∧ U.heap = h0) (fun _ _ _ _ _ => True) (fun _ U o U' => ∃ v L, o = .returned v ∧ QEmp Z em h0 n0 v U'.heap L ∧ FrameEnd U o U' L ({ frames := 0, cells := 0, slots := 0, locals := 0 } : Room).cells ({ frames := 0, cells := 0, slots := 0, locals := 0 } : Room).slots) := by
  refine MetFree.of_bodySF (plainFor_of_name pn_2) hisR ?_
  intro p e s m args below meth c s₁ Bd hml0 hP hK
  obtain ⟨rfl, hZ, hh⟩ := hP
  have hx := Bd.exec
  have hby := Bd.bytes
  have hml : c.maxLocals = 1 := hml0
  have hown : s.vm.findClass "java/util/Optional" = some m.cls := findClass_of_methodNamed Bd.named
  have hnm := (name_of_methodNamed Bd.named Bd.method).1
  have X0 : Stand p l e ({ frames := 0, cells := 0, slots := 0, locals := 0 } : Room) s m #[] below meth c s₁ [] 0 0 := Stand.of_body Bd
  have e0 : s₁.heap = h0 := by rw [← hh, Bd.state]; rfl
  have N0 := Fr.nil n0
  have Kp := Keep.refl h0 []
  show Run p e below (Ends s (QEmp Z em h0 n0) ({ frames := 0, cells := 0, slots := 0, locals := 0 } : Room).cells ({ frames := 0, cells := 0, slots := 0, locals := 0 } : Room).slots) _
  refine Run.st (S' := s₁.setTop (mkF m 0 #[.unset] [])) (fun t k => castTop (ef_Emp m ) k) ?_
  have u_S_em := S_em.ext OL.2
  obtain ⟨T1, X1, e1, st1⟩ := getS2 X0 hx hZ hown (host := "") (Or.inl (hwi hw 96 rfl)) Via.refl e0 u_S_em (g := (mkF m 0 #[.unset] [])) rfl (hb hby d17_0)
  refine Run.st (S' := T1.setTop (mkF m 5 #[.val (.ref em)] [(.ref em)])) (fun _ k => st1 _ (XS.astoreN X1.here hx rfl (hb hby d17_3) rfl rfl (l' := #[.val (.ref em)]) rfl (XS.aloadN X1.here hx rfl (hb hby d17_4) rfl rfl k))) ?_
  refine Run.out X1 hx Bd.notSynchronized Bd.returns rfl (Or.inr (Or.inr (Or.inr (Or.inr ⟨rfl, rfl, rfl⟩)))) (hb hby d17_5) (by decide) (by decide) ?_
  rw [e1]
  exact ⟨rfl, N0, rfl⟩
theorem d18_0 : decode jdk_32_method_15_code 0 = .ok (.aload_n 0, 1) := by decide +kernel
theorem d18_1 : decode jdk_32_method_15_code 1 = .ok (.getfield 13, 3) := by decide +kernel
theorem d18_4 : decode jdk_32_method_15_code 4 = .ok (.ifnull 10, 3) := by decide +kernel
theorem d18_7 : decode jdk_32_method_15_code 7 = .ok (.aload_n 0, 1) := by decide +kernel
theorem d18_8 : decode jdk_32_method_15_code 8 = .ok (.getfield 13, 3) := by decide +kernel
theorem d18_11 : decode jdk_32_method_15_code 11 = .ok (.goto 4, 3) := by decide +kernel
theorem d18_14 : decode jdk_32_method_15_code 14 = .ok (.aload_n 1, 1) := by decide +kernel
theorem d18_15 : decode jdk_32_method_15_code 15 = .ok (.areturn, 1) := by decide +kernel
theorem ef_OrE (m : MethodId) (a0 : Addr) : entryFrame m #[(.ref a0), .null] 2 = mkF m 0 #[.val (.ref a0), .val .null] [] := by first | (simp [entryFrame, mkF, argsToLocals, Value.category]; done) | rfl
def QOrE (Z : State) (a0 : Addr) (wv : Value) (h0 : Heap) (n0 : Nat) (v : Option Value) (h : Heap) (L : List Loc) : Prop := v = some wv ∧ Fr n0 L ∧ h = h0
set_option maxRecDepth 65536 in
set_option maxHeartbeats 40000000 in
theorem rmOrE (l : Launch) (Z : State) (aV : Array Value) (hw : ∀ d ∈ tables_1, d.before aV Z = true) (ws : List Jvm.Cond) (a0 : Addr) (wv : Value) (h0 : Heap) (n0 : Nat) (Zn : n0 ≤ h0.size) (OL : Old Z n0 h0) (hwv : wv.isRef = true) (F_value_a0 : Fld Z h0 a0 "java/util/Optional" "value" "Ljava/lang/Object;" wv) :
    MetFree l (⟨"java/util/Optional", "orElse", "(Ljava/lang/Object;)Ljava/lang/Object;"⟩ : MethodName) (head1 (Jvm.Cond.code (⟨"java/util/Optional", "orElse", "(Ljava/lang/Object;)Ljava/lang/Object;"⟩ : MethodName) jdk_32_method_15_code 2 (some (.object "java/lang/Object")) :: ws) ({ frames := 0, cells := 0, slots := 0, locals := 0 } : Room)) (fun a U => a = #[(.ref a0), .null] ∧ Z.Warmed39 U.vm ∧ U.heap = h0) (fun _ _ _ _ _ => True) (fun _ U o U' => ∃ v L, o = .returned v ∧ QOrE Z a0 wv h0 n0 v U'.heap L ∧ FrameEnd U o U' L ({ frames := 0, cells := 0, slots := 0, locals := 0 } : Room).cells ({ frames := 0, cells := 0, slots := 0, locals := 0 } : Room).slots) := by
  refine MetFree.of_bodySF (plainFor_of_name pn_2) hisR ?_
  intro p e s m args below meth c s₁ Bd hml0 hP hK
  obtain ⟨rfl, hZ, hh⟩ := hP
  have hx := Bd.exec
  have hby := Bd.bytes
  have hml : c.maxLocals = 2 := hml0
  have hown : s.vm.findClass "java/util/Optional" = some m.cls := findClass_of_methodNamed Bd.named
  have hnm := (name_of_methodNamed Bd.named Bd.method).1
  have X0 : Stand p l e ({ frames := 0, cells := 0, slots := 0, locals := 0 } : Room) s m #[(.ref a0), .null] below meth c s₁ [] 0 0 := Stand.of_body Bd
  have e0 : s₁.heap = h0 := by rw [← hh, Bd.state]; rfl
  have N0 := Fr.nil n0
  have Kp := Keep.refl h0 []
  show Run p e below (Ends s (QOrE Z a0 wv h0 n0) ({ frames := 0, cells := 0, slots := 0, locals := 0 } : Room).cells ({ frames := 0, cells := 0, slots := 0, locals := 0 } : Room).slots) _
  refine Run.st (S' := s₁.setTop (mkF m 0 #[.val (.ref a0), .val .null] [])) (fun t k => castTop (ef_OrE m a0) k) ?_
  refine Run.st (S' := s₁.setTop (mkF m 1 #[.val (.ref a0), .val .null] [(.ref a0)])) (fun _ k => XS.aloadN X0.here hx rfl (hb hby d18_0) rfl rfl k) ?_
  obtain ⟨T1, X1, e1, st1⟩ := getF X0 hx hZ hown (host := "") (Or.inl (hwi hw 102 rfl)) Via.refl e0 F_value_a0 (g := (mkF m 1 #[.val (.ref a0), .val .null] [(.ref a0)])) rfl rfl (hb hby d18_1)
  refine Run.st (S' := T1.setTop (mkF m 4 #[.val (.ref a0), .val .null] [wv])) (fun _ k => st1 _ k) ?_
  by_cases hc4_2 : wv = .null
  · refine Run.st (S' := T1.setTop (mkF m 15 #[.val (.ref a0), .val .null] [.null])) (fun _ k => Jvm.Free.XT.nullYes X1.here hx rfl (pc0 := 4) (pc' := 14) rfl (hb hby d18_4) rfl hc4_2 (by decide) (by decide) (XS.aloadN X1.here hx rfl (hb hby d18_14) rfl rfl k)) ?_
    refine Run.out X1 hx Bd.notSynchronized Bd.returns rfl (Or.inr (Or.inr (Or.inr (Or.inr ⟨rfl, rfl, rfl⟩)))) (hb hby d18_15) (by decide) (by decide) ?_
    rw [e1]
    exact ⟨by rw [hc4_2], N0, rfl⟩
  · refine Run.st (S' := T1.setTop (mkF m 8 #[.val (.ref a0), .val .null] [(.ref a0)])) (fun _ k => Jvm.Free.XT.nullNo X1.here hx rfl (hb hby d18_4) rfl hwv hc4_2 (XS.aloadN X1.here hx rfl (hb hby d18_7) rfl rfl k)) ?_
    obtain ⟨T3, X3, e3, st3⟩ := getF X1 hx hZ hown (host := "") (Or.inl (hwi hw 102 rfl)) Via.refl e1 F_value_a0 (g := (mkF m 8 #[.val (.ref a0), .val .null] [(.ref a0)])) rfl rfl (hb hby d18_8)
    refine Run.st (S' := T3.setTop (mkF m 15 #[.val (.ref a0), .val .null] [wv])) (fun _ k => st3 _ (XS.goto X3.here hx rfl (pc0 := 11) (pc' := 15) rfl (hb hby d18_11) (by decide) (by decide) k)) ?_
    refine Run.out X3 hx Bd.notSynchronized Bd.returns rfl (Or.inr (Or.inr (Or.inr (Or.inr ⟨rfl, rfl, hwv⟩)))) (hb hby d18_15) (by decide) (by decide) ?_
    rw [e3]
    exact ⟨rfl, N0, rfl⟩
theorem d14_0 : decode prog_18_method_1_code 0 = .ok (.getstatic 10, 3) := by decide +kernel
theorem d14_3 : decode prog_18_method_1_code 3 = .ok (.invokevirtual 14, 3) := by decide +kernel
theorem d14_6 : decode prog_18_method_1_code 6 = .ok (.checkcast 15, 3) := by decide +kernel
theorem d14_9 : decode prog_18_method_1_code 9 = .ok (.areturn, 1) := by decide +kernel
theorem pn_3 : plainName "com/example/heading_kin/headingkin/io/RecordFormat" = true := by first | (simp [plainName, overriddenIn]; done) | decide +kernel
theorem ef_Vals (m : MethodId)  : entryFrame m #[] 0 = mkF m 0 #[] [] := by first | (simp [entryFrame, mkF, argsToLocals, Value.category]; done) | rfl
def QVals (Z : State) (vv : Addr) (kV : ClassId) (ri : Addr) (rm : Addr) (h0 : Heap) (n0 : Nat) (v : Option Value) (h : Heap) (L : List Loc) : Prop := ∃ (y0 : Addr) (ky0 : ClassId), v = some (.ref y0) ∧ Fr n0 L ∧ Keep h0 h [] ∧ n0 ≤ y0 ∧ h0.size ≤ y0 ∧ Arv Z h y0 ky0 (.object "com/example/heading_kin/headingkin/io/RecordFormat") (2 : Int32) [(.ref ri), (.ref rm)] .null ∧ Exa Z h y0 "[Lcom/example/heading_kin/headingkin/io/RecordFormat;"
set_option maxRecDepth 65536 in
set_option maxHeartbeats 40000000 in
theorem rmVals (l : Launch) (Z : State) (aV : Array Value) (hw : ∀ d ∈ tables_1, d.before aV Z = true) (ws : List Jvm.Cond) (vv : Addr) (kV : ClassId) (ri : Addr) (rm : Addr) (h0 : Heap) (n0 : Nat) (Zn : n0 ≤ h0.size) (OL : Old Z n0 h0) (S_vals : Sta Z Z.heap "com/example/heading_kin/headingkin/io/RecordFormat" "$VALUES" "[Lcom/example/heading_kin/headingkin/io/RecordFormat;" (.ref vv)) (V_vv : Arv Z Z.heap vv kV (.object "com/example/heading_kin/headingkin/io/RecordFormat") (2 : Int32) [(.ref ri), (.ref rm)] .null) (E_vv : Exa Z Z.heap vv "[Lcom/example/heading_kin/headingkin/io/RecordFormat;") :
    MetFree l (⟨"com/example/heading_kin/headingkin/io/RecordFormat", "values", "()[Lcom/example/heading_kin/headingkin/io/RecordFormat;"⟩ : MethodName) (head1 (Jvm.Cond.code (⟨"com/example/heading_kin/headingkin/io/RecordFormat", "values", "()[Lcom/example/heading_kin/headingkin/io/RecordFormat;"⟩ : MethodName) prog_18_method_1_code 0 (some (.array (.object "com/example/heading_kin/headingkin/io/RecordFormat"))) :: ws) ({ frames := 1, cells := 1, slots := 2, locals := 14 } : Room)) (fun a U => a = #[] ∧ Z.Warmed39 U.vm ∧ U.heap = h0) (fun _ _ _ _ _ => True) (fun _ U o U' => ∃ v L, o = .returned v ∧ QVals Z vv kV ri rm h0 n0 v U'.heap L ∧ FrameEnd U o U' L ({ frames := 1, cells := 1, slots := 2, locals := 14 } : Room).cells ({ frames := 1, cells := 1, slots := 2, locals := 14 } : Room).slots) := by
  refine MetFree.of_bodySF (plainFor_of_name pn_3) hisR ?_
  intro p e s m args below meth c s₁ Bd hml0 hP hK
  obtain ⟨rfl, hZ, hh⟩ := hP
  have hx := Bd.exec
  have hby := Bd.bytes
  have hml : c.maxLocals = 0 := hml0
  have hown : s.vm.findClass "com/example/heading_kin/headingkin/io/RecordFormat" = some m.cls := findClass_of_methodNamed Bd.named
  have hnm := (name_of_methodNamed Bd.named Bd.method).1
  have X0 : Stand p l e ({ frames := 1, cells := 1, slots := 2, locals := 14 } : Room) s m #[] below meth c s₁ [] 0 0 := Stand.of_body Bd
  have e0 : s₁.heap = h0 := by rw [← hh, Bd.state]; rfl
  have N0 := Fr.nil n0
  have Kp := Keep.refl h0 []
  show Run p e below (Ends s (QVals Z vv kV ri rm h0 n0) ({ frames := 1, cells := 1, slots := 2, locals := 14 } : Room).cells ({ frames := 1, cells := 1, slots := 2, locals := 14 } : Room).slots) _
  refine Run.st (S' := s₁.setTop (mkF m 0 #[] [])) (fun t k => castTop (ef_Vals m ) k) ?_
  have u_S_vals := S_vals.ext OL.2
  obtain ⟨T1, X1, e1, st1⟩ := getS2 X0 hx hZ hown (host := "") (Or.inl (hwi hw 67 rfl)) Via.refl e0 u_S_vals (g := (mkF m 0 #[] [])) rfl (hb hby d14_0)
  refine Run.st (S' := T1.setTop (mkF m 3 #[] [(.ref vv)])) (fun _ k => st1 _ k) ?_
  have u_V_vv := V_vv.ext OL.2
  have u_E_vv := E_vv.ext OL.2
  obtain ⟨T2, h2, X2, e2, E2, V2, A2, st2⟩ := cloneH X1 hx hZ hown (ad := "[Lcom/example/heading_kin/headingkin/io/RecordFormat;") (hwi hw 69 rfl) (hwi hw 70 rfl) (hwi hw 74 rfl) (hwi hw 72 rfl) (hwi hw 73 rfl) (hwi hw 75 rfl) e1 (Arv.arh u_V_vv) u_E_vv (g := (mkF m 3 #[] [(.ref vv)])) rfl (by rw [hml]; rfl) rfl (hb hby d14_3) (by decide) (W := 0) (by show 2 * 0 + _ ≤ _; exact Nat.le_of_eq rfl) (by decide) (cap := 2) (by decide) (by decide) (by decide)
  obtain ⟨b2, g2⟩ : ∃ z, z = h0.size := ⟨_, rfl⟩
  rw [← g2] at V2 A2 st2
  have OL := OL.ext E2
  have g_b2 : n0 ≤ b2 := Nat.le_trans Zn (Nat.le_of_eq g2.symm)
  have Zn := Nat.le_trans Zn E2.1
  have sz_b2 : h0.size ≤ b2 := Nat.le_trans Kp.1 (Nat.le_of_eq g2.symm)
  have Kp := Kp.ext E2
  have V_b2 : Arv Z h2 b2 kV (.object "com/example/heading_kin/headingkin/io/RecordFormat") (2 : Int32) [(.ref ri), (.ref rm)] .null := V2
  have E_b2 := A2
  refine Run.st (S' := T2.setTop (mkF m 6 #[] [(.ref b2)])) (fun _ k => st2 _ k) ?_
  obtain ⟨T3, X3, e3, st3⟩ := castY X2 hx hZ hown (hwi hw 79 rfl) e2 (Ins.self E_b2) (g := (mkF m 6 #[] [(.ref b2)])) rfl rfl (hb hby d14_6)
  refine Run.st (S' := T3.setTop (mkF m 9 #[] [(.ref b2)])) (fun _ k => st3 _ k) ?_
  refine Run.out X3 hx Bd.notSynchronized Bd.returns rfl (Or.inr (Or.inr (Or.inr (Or.inr ⟨rfl, rfl, rfl⟩)))) (hb hby d14_9) (by decide) (by decide) ?_
  rw [e3]
  exact ⟨b2, kV, rfl, N0, Kp, g_b2, sz_b2, V_b2, E_b2⟩
theorem pd_3 : parseMethodDescriptor "()[Lcom/example/heading_kin/headingkin/io/RecordFormat;" = some ⟨[], some (.array (.object "com/example/heading_kin/headingkin/io/RecordFormat"))⟩ := by decide +kernel
theorem pd_4 : parseMethodDescriptor "(Ljava/lang/Object;)Z" = some ⟨[(.object "java/lang/Object")], some .boolean⟩ := by decide +kernel
theorem pd_5 : parseMethodDescriptor "(Ljava/lang/Object;)Ljava/util/Optional;" = some ⟨[(.object "java/lang/Object")], some (.object "java/util/Optional")⟩ := by decide +kernel
theorem pd_6 : parseMethodDescriptor "()Ljava/util/Optional;" = some ⟨[], some (.object "java/util/Optional")⟩ := by decide +kernel
theorem d13_0 : decode prog_18_method_6_code 0 = .ok (.invokestatic 45, 3) := by decide +kernel
theorem d13_3 : decode prog_18_method_6_code 3 = .ok (.astore_n 1, 1) := by decide +kernel
theorem d13_4 : decode prog_18_method_6_code 4 = .ok (.aload_n 1, 1) := by decide +kernel
theorem d13_5 : decode prog_18_method_6_code 5 = .ok (.arraylength, 1) := by decide +kernel
theorem d13_6 : decode prog_18_method_6_code 6 = .ok (.istore_n 2, 1) := by decide +kernel
theorem d13_7 : decode prog_18_method_6_code 7 = .ok (.iconst 0, 1) := by decide +kernel
theorem d13_8 : decode prog_18_method_6_code 8 = .ok (.istore_n 3, 1) := by decide +kernel
theorem d13_9 : decode prog_18_method_6_code 9 = .ok (.iload_n 3, 1) := by decide +kernel
theorem d13_10 : decode prog_18_method_6_code 10 = .ok (.iload_n 2, 1) := by decide +kernel
theorem d13_11 : decode prog_18_method_6_code 11 = .ok (.if_icmp .ge 32, 3) := by decide +kernel
theorem d13_14 : decode prog_18_method_6_code 14 = .ok (.aload_n 1, 1) := by decide +kernel
theorem d13_15 : decode prog_18_method_6_code 15 = .ok (.iload_n 3, 1) := by decide +kernel
theorem d13_16 : decode prog_18_method_6_code 16 = .ok (.aaload, 1) := by decide +kernel
theorem d13_17 : decode prog_18_method_6_code 17 = .ok (.astore 4, 2) := by decide +kernel
theorem d13_19 : decode prog_18_method_6_code 19 = .ok (.aload 4, 2) := by decide +kernel
theorem d13_21 : decode prog_18_method_6_code 21 = .ok (.getfield 29, 3) := by decide +kernel
theorem d13_24 : decode prog_18_method_6_code 24 = .ok (.aload_n 0, 1) := by decide +kernel
theorem d13_25 : decode prog_18_method_6_code 25 = .ok (.invokevirtual 49, 3) := by decide +kernel
theorem d13_28 : decode prog_18_method_6_code 28 = .ok (.ifCond .eq 9, 3) := by decide +kernel
theorem d13_31 : decode prog_18_method_6_code 31 = .ok (.aload 4, 2) := by decide +kernel
theorem d13_33 : decode prog_18_method_6_code 33 = .ok (.invokestatic 55, 3) := by decide +kernel
theorem d13_36 : decode prog_18_method_6_code 36 = .ok (.areturn, 1) := by decide +kernel
theorem d13_37 : decode prog_18_method_6_code 37 = .ok (.iinc 3 1, 3) := by decide +kernel
theorem d13_40 : decode prog_18_method_6_code 40 = .ok (.goto (-31), 3) := by decide +kernel
theorem d13_43 : decode prog_18_method_6_code 43 = .ok (.invokestatic 61, 3) := by decide +kernel
theorem d13_46 : decode prog_18_method_6_code 46 = .ok (.areturn, 1) := by decide +kernel
theorem ef_Lab (m : MethodId) (a0 : Addr) : entryFrame m #[(.ref a0)] 5 = mkF m 0 #[.val (.ref a0), .unset, .unset, .unset, .unset] [] := by first | (simp [entryFrame, mkF, argsToLocals, Value.category]; done) | rfl
def QLab (Z : State) (a0 : Addr) (zc : Int32) (vv : Addr) (kV : ClassId) (ri : Addr) (rm : Addr) (li : Addr) (tli : Addr) (kli : ClassId) (lm : Addr) (tlm : Addr) (klm : ClassId) (em : Addr) (t0 : Addr) (k0 : ClassId) (cs : List Int32) (h0 : Heap) (n0 : Nat) (v : Option Value) (h : Heap) (L : List Loc) : Prop := ∃ o : Addr, v = some (.ref o) ∧ Fr n0 L ∧ Keep h0 h [] ∧ Exa Z h o "java/util/Optional" ∧ Fld Z h o "java/util/Optional" "value" "Ljava/lang/Object;" (own_FL cs ri rm)
set_option maxRecDepth 65536 in
set_option maxHeartbeats 40000000 in
theorem rmLab (l : Launch) (Z : State) (aV : Array Value) (hw : ∀ d ∈ tables_1, d.before aV Z = true) (ws : List Jvm.Cond) (a0 : Addr) (zc : Int32) (vv : Addr) (kV : ClassId) (ri : Addr) (rm : Addr) (li : Addr) (tli : Addr) (kli : ClassId) (lm : Addr) (tlm : Addr) (klm : ClassId) (em : Addr) (t0 : Addr) (k0 : ClassId) (cs : List Int32) (h0 : Heap) (n0 : Nat) (Zn : n0 ≤ h0.size) (OL : Old Z n0 h0) (hzc : ¬ zc = 0) (hL : own_L1 cs) (S_cs : Sta Z Z.heap "java/lang/String" "COMPACT_STRINGS" "Z" (.int zc)) (S_vals : Sta Z Z.heap "com/example/heading_kin/headingkin/io/RecordFormat" "$VALUES" "[Lcom/example/heading_kin/headingkin/io/RecordFormat;" (.ref vv)) (V_vv : Arv Z Z.heap vv kV (.object "com/example/heading_kin/headingkin/io/RecordFormat") (2 : Int32) [(.ref ri), (.ref rm)] .null) (E_vv : Exa Z Z.heap vv "[Lcom/example/heading_kin/headingkin/io/RecordFormat;") (E_ri : Exa Z Z.heap ri "com/example/heading_kin/headingkin/io/RecordFormat") (E_rm : Exa Z Z.heap rm "com/example/heading_kin/headingkin/io/RecordFormat") (F_label_ri : Fld Z Z.heap ri "com/example/heading_kin/headingkin/io/RecordFormat" "label" "Ljava/lang/String;" (.ref li)) (E_li : Exa Z Z.heap li "java/lang/String") (F_coder_li : Fld Z Z.heap li "java/lang/String" "coder" "B" (.int (0 : Int32))) (F_value_li : Fld Z Z.heap li "java/lang/String" "value" "[B" (.ref tli)) (V_tli : Arv Z Z.heap tli kli .byte (Int32.ofNat own_lit2.length) ((own_bs own_lit2).map Value.int) (.int (0 : Int32))) (F_label_rm : Fld Z Z.heap rm "com/example/heading_kin/headingkin/io/RecordFormat" "label" "Ljava/lang/String;" (.ref lm)) (E_lm : Exa Z Z.heap lm "java/lang/String") (F_coder_lm : Fld Z Z.heap lm "java/lang/String" "coder" "B" (.int (0 : Int32))) (F_value_lm : Fld Z Z.heap lm "java/lang/String" "value" "[B" (.ref tlm)) (V_tlm : Arv Z Z.heap tlm klm .byte (Int32.ofNat own_lit1.length) ((own_bs own_lit1).map Value.int) (.int (0 : Int32))) (S_em : Sta Z Z.heap "java/util/Optional" "EMPTY" "Ljava/util/Optional;" (.ref em)) (E_em : Exa Z Z.heap em "java/util/Optional") (F_value_em : Fld Z Z.heap em "java/util/Optional" "value" "Ljava/lang/Object;" .null) (E_a0 : Exa Z h0 a0 "java/lang/String") (F_coder_a0 : Fld Z h0 a0 "java/lang/String" "coder" "B" (.int (0 : Int32))) (F_value_a0 : Fld Z h0 a0 "java/lang/String" "value" "[B" (.ref t0)) (V_t0 : Arv Z h0 t0 k0 .byte (Int32.ofNat cs.length) ((own_bs cs).map Value.int) (.int (0 : Int32))) :
    MetFree l (⟨"com/example/heading_kin/headingkin/io/RecordFormat", "labelled", "(Ljava/lang/String;)Ljava/util/Optional;"⟩ : MethodName) (head1 (Jvm.Cond.code (⟨"com/example/heading_kin/headingkin/io/RecordFormat", "labelled", "(Ljava/lang/String;)Ljava/util/Optional;"⟩ : MethodName) prog_18_method_6_code 5 (some (.object "java/util/Optional")) :: ws) ({ frames := 3, cells := 2, slots := 3, locals := 38 } : Room)) (fun a U => a = #[(.ref a0)] ∧ Z.Warmed39 U.vm ∧ U.heap = h0) (fun _ _ _ _ _ => True) (fun _ U o U' => ∃ v L, o = .returned v ∧ QLab Z a0 zc vv kV ri rm li tli kli lm tlm klm em t0 k0 cs h0 n0 v U'.heap L ∧ FrameEnd U o U' L ({ frames := 3, cells := 2, slots := 3, locals := 38 } : Room).cells ({ frames := 3, cells := 2, slots := 3, locals := 38 } : Room).slots) := by
  refine MetFree.of_bodySF (plainFor_of_name pn_3) hisR ?_
  intro p e s m args below meth c s₁ Bd hml0 hP hK
  obtain ⟨rfl, hZ, hh⟩ := hP
  have hx := Bd.exec
  have hby := Bd.bytes
  have hml : c.maxLocals = 5 := hml0
  have hown : s.vm.findClass "com/example/heading_kin/headingkin/io/RecordFormat" = some m.cls := findClass_of_methodNamed Bd.named
  have hnm := (name_of_methodNamed Bd.named Bd.method).1
  have X0 : Stand p l e ({ frames := 3, cells := 2, slots := 3, locals := 38 } : Room) s m #[(.ref a0)] below meth c s₁ [] 0 0 := Stand.of_body Bd
  have e0 : s₁.heap = h0 := by rw [← hh, Bd.state]; rfl
  have N0 := Fr.nil n0
  have Kp := Keep.refl h0 []
  show Run p e below (Ends s (QLab Z a0 zc vv kV ri rm li tli kli lm tlm klm em t0 k0 cs h0 n0) ({ frames := 3, cells := 2, slots := 3, locals := 38 } : Room).cells ({ frames := 3, cells := 2, slots := 3, locals := 38 } : Room).slots) _
  refine Run.st (S' := s₁.setTop (mkF m 0 #[.val (.ref a0), .unset, .unset, .unset, .unset] [])) (fun t k => castTop (ef_Lab m a0) k) ?_
  obtain ⟨_, _, ⟨T1, L1, k1, n1⟩, -, X1, ⟨Lc1, hQ1, l1, y1, z1⟩, st1⟩ := Jvm.LawKit.callS X0 hx (y := (⟨"com/example/heading_kin/headingkin/io/RecordFormat", "values", "()[Lcom/example/heading_kin/headingkin/io/RecordFormat;"⟩ : MethodName)) hown (mvT hZ (hwi hw 64 rfl)) (mvT hZ (hwi hw 65 rfl)) (mvT hZ (hwi hw 62 rfl)) (mvT hZ (hwi hw 66 rfl)) (by decide) (backOf (W := 0) (rmVals l Z aV hw [] vv kV ri rm h0 n0 Zn OL S_vals V_vv E_vv) hZ (hwi hw 66 rfl) (hwi hw 62 rfl) (by decide) (by decide)) (g := (mkF m 0 #[.val (.ref a0), .unset, .unset, .unset, .unset] [])) rfl (by rw [hml]; rfl) (argsL := []) (rest := []) (lenOf pd_3 rfl) rfl (by show 2 * 0 + _ ≤ _; exact Nat.le_of_eq rfl) (hb hby d13_0) (fun _ _ => ⟨rfl, e0, (by decide : 0 + 1 ≤ _), (by decide : 0 + 2 ≤ _)⟩)
  dsimp only [Pt.U, Pt.locs, Pt.cells, Pt.slots] at X1 l1 y1 z1 st1 hQ1
  replace l1 := l1.symm; replace y1 := y1.symm; replace z1 := z1.symm; subst l1 y1 z1
  obtain ⟨b1, kb1, rfl, N1q, K1, g_b1, z_b1, q1_0, q1_1⟩ := hQ1
  have ne_a0_b1 : a0 ≠ b1 := Nat.ne_of_lt (Nat.lt_of_lt_of_le E_a0.lt z_b1)
  have ne_t0_b1 : t0 ≠ b1 := Nat.ne_of_lt (Nat.lt_of_lt_of_le V_t0.lt z_b1)
  have sz_b1 : h0.size ≤ b1 := Nat.le_trans Kp.1 z_b1
  have OL := OL.keep K1 all0
  have E_a0 := E_a0.keep K1
  have F_coder_a0 := F_coder_a0.keep K1 nin0
  have F_value_a0 := F_value_a0.keep K1 nin0
  have V_t0 := V_t0.keep K1 nin0
  have V_b1 := q1_0
  have E_b1 := q1_1
  have Kp := Kp.trans K1 all0
  have Zn := Nat.le_trans Zn K1.1
  have N1 := Fr.app N0 N1q
  refine Run.st (S' := T1.setTop (mkF m 5 #[.val (.ref a0), .val (.ref b1), .unset, .unset, .unset] [(.ref b1)])) (fun _ k => st1 _ (XS.astoreN X1.here hx rfl (hb hby d13_3) rfl rfl (l' := #[.val (.ref a0), .val (.ref b1), .unset, .unset, .unset]) rfl (XS.aloadN X1.here hx rfl (hb hby d13_4) rfl rfl k))) ?_
  obtain ⟨cl2, Ar2, -, Sa2, Na2, -, -⟩ := id V_b1
  refine Run.st (S' := T1.setTop (mkF m 6 #[.val (.ref a0), .val (.ref b1), .unset, .unset, .unset] [(.int (2 : Int32))])) (fun _ k => X1.arraylength hx Ar2.1 (State.isArrayOf_alike hZ.alike Ar2.2.1) (g := (mkF m 5 #[.val (.ref a0), .val (.ref b1), .unset, .unset, .unset] [(.ref b1)])) rfl rfl (hb hby d13_5) _ (by rw [len_of Sa2 Na2]; exact k)) ?_
  refine Run.st (S' := T1.setTop (mkF m 16 #[.val (.ref a0), .val (.ref b1), .val (.int (2 : Int32)), .val (.int (0 : Int32)), .unset] [(.int (0 : Int32)), (.ref b1)])) (fun _ k => XS.istoreN X1.here hx rfl (hb hby d13_6) rfl (l' := #[.val (.ref a0), .val (.ref b1), .val (.int (2 : Int32)), .unset, .unset]) rfl (XS.iconst X1.here hx rfl (hb hby d13_7) (XS.istoreN X1.here hx rfl (hb hby d13_8) rfl (l' := #[.val (.ref a0), .val (.ref b1), .val (.int (2 : Int32)), .val (.int (0 : Int32)), .unset]) rfl (XS.iloadN X1.here hx rfl (hb hby d13_9) rfl (XS.iloadN X1.here hx rfl (hb hby d13_10) rfl (XS.icmpNo X1.here hx rfl (hb hby d13_11) rfl (tlt (show (0 : Int32) < (2 : Int32) from (by decide))).2.1 (XS.aloadN X1.here hx rfl (hb hby d13_14) rfl rfl (XS.iloadN X1.here hx rfl (hb hby d13_15) rfl k)))))))) ?_
  obtain ⟨cl3, Ar3, qa3, Sa3, Na3, Ha3, Ga3⟩ := id V_b1
  have hin3 : ¬ ((0 : Int32) < 0 ∨ cl3.slots.size ≤ ((0 : Int32)).toNatClampNeg) := inb_of Sa3 ⟨by decide, by decide⟩
  have hat3 : cl3.slots[((0 : Int32)).toNatClampNeg]? = some (.ref ri) := Has.at Ha3 hin3 rfl
  refine Run.st (S' := T1.setTop (mkF m 21 #[.val (.ref a0), .val (.ref b1), .val (.int (2 : Int32)), .val (.int (0 : Int32)), .val (.ref ri)] [(.ref ri)])) (fun _ k => X1.aaload hx (j := (0 : Int32)) (v := (.ref ri)) Ar3.1 (State.isArrayOf_alike hZ.alike Ar3.2.1) rfl Ar3.2.2 hin3 hat3 (g := (mkF m 16 #[.val (.ref a0), .val (.ref b1), .val (.int (2 : Int32)), .val (.int (0 : Int32)), .unset] [(.int (0 : Int32)), (.ref b1)])) rfl rfl (hb hby d13_16) _ (XS.astore X1.here hx rfl (hb hby d13_17) rfl rfl (l' := #[.val (.ref a0), .val (.ref b1), .val (.int (2 : Int32)), .val (.int (0 : Int32)), .val (.ref ri)]) rfl (XS.aload X1.here hx rfl (hb hby d13_19) rfl rfl k))) ?_
  have u_F_label_ri := F_label_ri.ext OL.2
  obtain ⟨T4, X4, e4, st4⟩ := getF X1 hx hZ hown (host := "") (Or.inl (hwi hw 81 rfl)) Via.refl rfl u_F_label_ri (g := (mkF m 21 #[.val (.ref a0), .val (.ref b1), .val (.int (2 : Int32)), .val (.int (0 : Int32)), .val (.ref ri)] [(.ref ri)])) rfl rfl (hb hby d13_21)
  refine Run.st (S' := T4.setTop (mkF m 25 #[.val (.ref a0), .val (.ref b1), .val (.int (2 : Int32)), .val (.int (0 : Int32)), .val (.ref ri)] [(.ref a0), (.ref li)])) (fun _ k => st4 _ (XS.aloadN X4.here hx rfl (hb hby d13_24) rfl rfl k)) ?_
  have u_E_li := E_li.ext OL.2
  have u_E_li := E_li.ext OL.2
  have u_F_coder_li := F_coder_li.ext OL.2
  have u_F_value_li := F_value_li.ext OL.2
  have u_V_tli := V_tli.ext OL.2
  have u_S_cs := S_cs.ext OL.2
  obtain ⟨cq5, kq5, q5a, q5b, q5c⟩ := isOf hZ e4 u_E_li
  obtain ⟨_, _, ⟨T5, L5, k5, n5⟩, -, X5, ⟨Lc5, hQ5, l5, y5, z5⟩, st5⟩ := X4.virtualBack hx (y := (⟨"java/lang/String", "equals", "(Ljava/lang/Object;)Z"⟩ : MethodName)) (z := (⟨"java/lang/String", "equals", "(Ljava/lang/Object;)Z"⟩ : MethodName)) hown (mvT hZ (hwi hw 83 rfl)) (mvT hZ (hwi hw 84 rfl)) (notFace_of_selects (args := #[]) (mvT hZ (hwi hw 86 rfl))) (mvT hZ (hwi hw 86 rfl)) (mvT hZ (hwi hw 85 rfl)) (by decide) (own_eqB (n0 := n0) (W := 0) hw hZ u_E_li u_F_value_li u_F_coder_li u_V_tli own_lit2_L1 E_a0 F_value_a0 F_coder_a0 V_t0 hL u_S_cs hzc (by decide) (by decide) (P := own_lit2 = cs) Iff.rfl) q5a q5c (g := (mkF m 25 #[.val (.ref a0), .val (.ref b1), .val (.int (2 : Int32)), .val (.int (0 : Int32)), .val (.ref ri)] [(.ref a0), (.ref li)])) rfl (by rw [hml]; rfl) (Steps.refl _) (argsL := [(.ref a0)]) (rest := []) (lenOf pd_4 rfl) rfl (by show 2 * 0 + _ ≤ _; exact Nat.le_of_eq rfl) (hb hby d13_25) (fun _ _ => ⟨rfl, e4, (by decide : 1 + 0 ≤ _), (by decide : 2 + 0 ≤ _)⟩)
  dsimp only [Pt.U, Pt.locs, Pt.cells, Pt.slots] at X5 l5 y5 z5 st5 hQ5
  replace l5 := l5.symm; replace y5 := y5.symm; replace z5 := z5.symm; subst l5 y5 z5
  obtain ⟨rfl, N5q, e5⟩ := hQ5
  have N5 := Fr.app N1 N5q
  refine Run.st (S' := T5.setTop (mkF m 28 #[.val (.ref a0), .val (.ref b1), .val (.int (2 : Int32)), .val (.int (0 : Int32)), .val (.ref ri)] [(.int (if own_lit2 = cs then (1 : Int32) else (0 : Int32)))])) (fun _ k => st5.trans k) ?_
  by_cases hk28_6 : own_lit2 = cs
  · refine Run.st (S' := T5.setTop (mkF m 33 #[.val (.ref a0), .val (.ref b1), .val (.int (2 : Int32)), .val (.int (0 : Int32)), .val (.ref ri)] [(.ref ri)])) (fun _ k => XS.ifNo X5.here hx rfl (hb hby d13_28) rfl ((if0 _ _).trans (feq (show ¬ ((if own_lit2 = cs then (1 : Int32) else (0 : Int32)) = (0 : Int32)) from (by rw [if_pos hk28_6]; decide))).1) (XS.aload X5.here hx rfl (hb hby d13_31) rfl rfl k)) ?_
    obtain ⟨_, _, ⟨T7, L7, k7, n7⟩, -, X7, ⟨Lc7, hQ7, l7, y7, z7⟩, st7⟩ := Jvm.LawKit.callS X5 hx (y := (⟨"java/util/Optional", "of", "(Ljava/lang/Object;)Ljava/util/Optional;"⟩ : MethodName)) hown (mvT hZ (hwi hw 110 rfl)) (mvT hZ (hwi hw 111 rfl)) (mvT hZ (hwi hw 94 rfl)) (mvT hZ (hwi hw 112 rfl)) (by decide) (backOf (W := 0) (rmOf l Z aV hw [] ri T1.heap n0 Zn OL) hZ (hwi hw 112 rfl) (hwi hw 94 rfl) (by decide) (by decide)) (g := (mkF m 33 #[.val (.ref a0), .val (.ref b1), .val (.int (2 : Int32)), .val (.int (0 : Int32)), .val (.ref ri)] [(.ref ri)])) rfl (by rw [hml]; rfl) (argsL := [(.ref ri)]) (rest := []) (lenOf pd_5 rfl) rfl (by show 2 * 0 + _ ≤ _; exact Nat.le_of_eq rfl) (hb hby d13_33) (fun _ _ => ⟨rfl, e5, (by decide : 1 + 1 ≤ _), (by decide : 2 + 1 ≤ _)⟩)
    dsimp only [Pt.U, Pt.locs, Pt.cells, Pt.slots] at X7 l7 y7 z7 st7 hQ7
    replace l7 := l7.symm; replace y7 := y7.symm; replace z7 := z7.symm; subst l7 y7 z7
    obtain ⟨b7, rfl, N7q, K7, g_b7, z_b7, q7_0, q7_1⟩ := hQ7
    have ne_a0_b7 : a0 ≠ b7 := Nat.ne_of_lt (Nat.lt_of_lt_of_le E_a0.lt z_b7)
    have ne_t0_b7 : t0 ≠ b7 := Nat.ne_of_lt (Nat.lt_of_lt_of_le V_t0.lt z_b7)
    have ne_b1_b7 : b1 ≠ b7 := Nat.ne_of_lt (Nat.lt_of_lt_of_le V_b1.lt z_b7)
    have sz_b7 : h0.size ≤ b7 := Nat.le_trans Kp.1 z_b7
    have OL := OL.keep K7 all0
    have E_a0 := E_a0.keep K7
    have F_coder_a0 := F_coder_a0.keep K7 nin0
    have F_value_a0 := F_value_a0.keep K7 nin0
    have V_t0 := V_t0.keep K7 nin0
    have V_b1 := V_b1.keep K7 nin0
    have E_b1 := E_b1.keep K7
    have E_b7 := q7_0
    have F_value_b7 := q7_1
    have Kp := Kp.trans K7 all0
    have Zn := Nat.le_trans Zn K7.1
    have N7 := Fr.app N5 N7q
    refine Run.st (S' := T7.setTop (mkF m 36 #[.val (.ref a0), .val (.ref b1), .val (.int (2 : Int32)), .val (.int (0 : Int32)), .val (.ref ri)] [(.ref b7)])) (fun _ k => st7 _ k) ?_
    have FL_b7 := F_value_b7
    refine Run.out X7 hx Bd.notSynchronized Bd.returns rfl (Or.inr (Or.inr (Or.inr (Or.inr ⟨rfl, rfl, rfl⟩)))) (hb hby d13_36) (by decide) (by decide) ?_
    exact ⟨b7, rfl, N7, Kp, E_b7, by rw [own_FL, if_pos hk28_6]; exact F_value_b7⟩
  · refine Run.st (S' := T5.setTop (mkF m 16 #[.val (.ref a0), .val (.ref b1), .val (.int (2 : Int32)), .val (.int (1 : Int32)), .val (.ref ri)] [(.int (1 : Int32)), (.ref b1)])) (fun _ k => XS.ifYes X5.here hx rfl (pc0 := 28) (pc' := 37) rfl (hb hby d13_28) rfl ((if0 _ _).trans (teq (show (if own_lit2 = cs then (1 : Int32) else (0 : Int32)) = (0 : Int32) from (by rw [if_neg hk28_6]))).1) (by decide) (by decide) (XS.iinc X5.here hx rfl (hb hby d13_37) rfl (l' := #[.val (.ref a0), .val (.ref b1), .val (.int (2 : Int32)), .val (.int (1 : Int32)), .val (.ref ri)]) rfl (XS.goto X5.here hx rfl (pc0 := 40) (pc' := 9) rfl (hb hby d13_40) (by decide) (by decide) (XS.iloadN X5.here hx rfl (hb hby d13_9) rfl (XS.iloadN X5.here hx rfl (hb hby d13_10) rfl (XS.icmpNo X5.here hx rfl (hb hby d13_11) rfl (tlt (show (1 : Int32) < (2 : Int32) from (by decide))).2.1 (XS.aloadN X5.here hx rfl (hb hby d13_14) rfl rfl (XS.iloadN X5.here hx rfl (hb hby d13_15) rfl k)))))))) ?_
    obtain ⟨cl8, Ar8, qa8, Sa8, Na8, Ha8, Ga8⟩ := id V_b1
    have hin8 : ¬ ((1 : Int32) < 0 ∨ cl8.slots.size ≤ ((1 : Int32)).toNatClampNeg) := inb_of Sa8 ⟨by decide, by decide⟩
    have hat8 : cl8.slots[((1 : Int32)).toNatClampNeg]? = some (.ref rm) := Has.at Ha8 hin8 rfl
    refine Run.st (S' := T5.setTop (mkF m 21 #[.val (.ref a0), .val (.ref b1), .val (.int (2 : Int32)), .val (.int (1 : Int32)), .val (.ref rm)] [(.ref rm)])) (fun _ k => X5.aaload hx (j := (1 : Int32)) (v := (.ref rm)) (by rw [e5]; exact Ar8.1) (State.isArrayOf_alike hZ.alike Ar8.2.1) rfl Ar8.2.2 hin8 hat8 (g := (mkF m 16 #[.val (.ref a0), .val (.ref b1), .val (.int (2 : Int32)), .val (.int (1 : Int32)), .val (.ref ri)] [(.int (1 : Int32)), (.ref b1)])) rfl rfl (hb hby d13_16) _ (XS.astore X5.here hx rfl (hb hby d13_17) rfl rfl (l' := #[.val (.ref a0), .val (.ref b1), .val (.int (2 : Int32)), .val (.int (1 : Int32)), .val (.ref rm)]) rfl (XS.aload X5.here hx rfl (hb hby d13_19) rfl rfl k))) ?_
    have u_F_label_rm := F_label_rm.ext OL.2
    obtain ⟨T9, X9, e9, st9⟩ := getF X5 hx hZ hown (host := "") (Or.inl (hwi hw 81 rfl)) Via.refl e5 u_F_label_rm (g := (mkF m 21 #[.val (.ref a0), .val (.ref b1), .val (.int (2 : Int32)), .val (.int (1 : Int32)), .val (.ref rm)] [(.ref rm)])) rfl rfl (hb hby d13_21)
    refine Run.st (S' := T9.setTop (mkF m 25 #[.val (.ref a0), .val (.ref b1), .val (.int (2 : Int32)), .val (.int (1 : Int32)), .val (.ref rm)] [(.ref a0), (.ref lm)])) (fun _ k => st9 _ (XS.aloadN X9.here hx rfl (hb hby d13_24) rfl rfl k)) ?_
    have u_E_lm := E_lm.ext OL.2
    have u_E_lm := E_lm.ext OL.2
    have u_F_coder_lm := F_coder_lm.ext OL.2
    have u_F_value_lm := F_value_lm.ext OL.2
    have u_V_tlm := V_tlm.ext OL.2
    have u_S_cs := S_cs.ext OL.2
    obtain ⟨cq10, kq10, q10a, q10b, q10c⟩ := isOf hZ e9 u_E_lm
    obtain ⟨_, _, ⟨T10, L10, k10, n10⟩, -, X10, ⟨Lc10, hQ10, l10, y10, z10⟩, st10⟩ := X9.virtualBack hx (y := (⟨"java/lang/String", "equals", "(Ljava/lang/Object;)Z"⟩ : MethodName)) (z := (⟨"java/lang/String", "equals", "(Ljava/lang/Object;)Z"⟩ : MethodName)) hown (mvT hZ (hwi hw 83 rfl)) (mvT hZ (hwi hw 84 rfl)) (notFace_of_selects (args := #[]) (mvT hZ (hwi hw 86 rfl))) (mvT hZ (hwi hw 86 rfl)) (mvT hZ (hwi hw 85 rfl)) (by decide) (own_eqB (n0 := n0) (W := 0) hw hZ u_E_lm u_F_value_lm u_F_coder_lm u_V_tlm own_lit1_L1 E_a0 F_value_a0 F_coder_a0 V_t0 hL u_S_cs hzc (by decide) (by decide) (P := own_lit1 = cs) Iff.rfl) q10a q10c (g := (mkF m 25 #[.val (.ref a0), .val (.ref b1), .val (.int (2 : Int32)), .val (.int (1 : Int32)), .val (.ref rm)] [(.ref a0), (.ref lm)])) rfl (by rw [hml]; rfl) (Steps.refl _) (argsL := [(.ref a0)]) (rest := []) (lenOf pd_4 rfl) rfl (by show 2 * 0 + _ ≤ _; exact Nat.le_of_eq rfl) (hb hby d13_25) (fun _ _ => ⟨rfl, e9, (by decide : 1 + 0 ≤ _), (by decide : 2 + 0 ≤ _)⟩)
    dsimp only [Pt.U, Pt.locs, Pt.cells, Pt.slots] at X10 l10 y10 z10 st10 hQ10
    replace l10 := l10.symm; replace y10 := y10.symm; replace z10 := z10.symm; subst l10 y10 z10
    obtain ⟨rfl, N10q, e10⟩ := hQ10
    have N10 := Fr.app N5 N10q
    refine Run.st (S' := T10.setTop (mkF m 28 #[.val (.ref a0), .val (.ref b1), .val (.int (2 : Int32)), .val (.int (1 : Int32)), .val (.ref rm)] [(.int (if own_lit1 = cs then (1 : Int32) else (0 : Int32)))])) (fun _ k => st10.trans k) ?_
    by_cases hk28_11 : own_lit1 = cs
    · refine Run.st (S' := T10.setTop (mkF m 33 #[.val (.ref a0), .val (.ref b1), .val (.int (2 : Int32)), .val (.int (1 : Int32)), .val (.ref rm)] [(.ref rm)])) (fun _ k => XS.ifNo X10.here hx rfl (hb hby d13_28) rfl ((if0 _ _).trans (feq (show ¬ ((if own_lit1 = cs then (1 : Int32) else (0 : Int32)) = (0 : Int32)) from (by rw [if_pos hk28_11]; decide))).1) (XS.aload X10.here hx rfl (hb hby d13_31) rfl rfl k)) ?_
      obtain ⟨_, _, ⟨T12, L12, k12, n12⟩, -, X12, ⟨Lc12, hQ12, l12, y12, z12⟩, st12⟩ := Jvm.LawKit.callS X10 hx (y := (⟨"java/util/Optional", "of", "(Ljava/lang/Object;)Ljava/util/Optional;"⟩ : MethodName)) hown (mvT hZ (hwi hw 110 rfl)) (mvT hZ (hwi hw 111 rfl)) (mvT hZ (hwi hw 94 rfl)) (mvT hZ (hwi hw 112 rfl)) (by decide) (backOf (W := 0) (rmOf l Z aV hw [] rm T1.heap n0 Zn OL) hZ (hwi hw 112 rfl) (hwi hw 94 rfl) (by decide) (by decide)) (g := (mkF m 33 #[.val (.ref a0), .val (.ref b1), .val (.int (2 : Int32)), .val (.int (1 : Int32)), .val (.ref rm)] [(.ref rm)])) rfl (by rw [hml]; rfl) (argsL := [(.ref rm)]) (rest := []) (lenOf pd_5 rfl) rfl (by show 2 * 0 + _ ≤ _; exact Nat.le_of_eq rfl) (hb hby d13_33) (fun _ _ => ⟨rfl, e10, (by decide : 1 + 1 ≤ _), (by decide : 2 + 1 ≤ _)⟩)
      dsimp only [Pt.U, Pt.locs, Pt.cells, Pt.slots] at X12 l12 y12 z12 st12 hQ12
      replace l12 := l12.symm; replace y12 := y12.symm; replace z12 := z12.symm; subst l12 y12 z12
      obtain ⟨b12, rfl, N12q, K12, g_b12, z_b12, q12_0, q12_1⟩ := hQ12
      have ne_a0_b12 : a0 ≠ b12 := Nat.ne_of_lt (Nat.lt_of_lt_of_le E_a0.lt z_b12)
      have ne_t0_b12 : t0 ≠ b12 := Nat.ne_of_lt (Nat.lt_of_lt_of_le V_t0.lt z_b12)
      have ne_b1_b12 : b1 ≠ b12 := Nat.ne_of_lt (Nat.lt_of_lt_of_le V_b1.lt z_b12)
      have sz_b12 : h0.size ≤ b12 := Nat.le_trans Kp.1 z_b12
      have OL := OL.keep K12 all0
      have E_a0 := E_a0.keep K12
      have F_coder_a0 := F_coder_a0.keep K12 nin0
      have F_value_a0 := F_value_a0.keep K12 nin0
      have V_t0 := V_t0.keep K12 nin0
      have V_b1 := V_b1.keep K12 nin0
      have E_b1 := E_b1.keep K12
      have E_b12 := q12_0
      have F_value_b12 := q12_1
      have Kp := Kp.trans K12 all0
      have Zn := Nat.le_trans Zn K12.1
      have N12 := Fr.app N10 N12q
      refine Run.st (S' := T12.setTop (mkF m 36 #[.val (.ref a0), .val (.ref b1), .val (.int (2 : Int32)), .val (.int (1 : Int32)), .val (.ref rm)] [(.ref b12)])) (fun _ k => st12 _ k) ?_
      have FL_b12 := F_value_b12
      refine Run.out X12 hx Bd.notSynchronized Bd.returns rfl (Or.inr (Or.inr (Or.inr (Or.inr ⟨rfl, rfl, rfl⟩)))) (hb hby d13_36) (by decide) (by decide) ?_
      exact ⟨b12, rfl, N12, Kp, E_b12, by rw [own_FL, if_neg hk28_6, if_pos hk28_11]; exact F_value_b12⟩
    · refine Run.st (S' := T10.setTop (mkF m 43 #[.val (.ref a0), .val (.ref b1), .val (.int (2 : Int32)), .val (.int (2 : Int32)), .val (.ref rm)] [])) (fun _ k => XS.ifYes X10.here hx rfl (pc0 := 28) (pc' := 37) rfl (hb hby d13_28) rfl ((if0 _ _).trans (teq (show (if own_lit1 = cs then (1 : Int32) else (0 : Int32)) = (0 : Int32) from (by rw [if_neg hk28_11]))).1) (by decide) (by decide) (XS.iinc X10.here hx rfl (hb hby d13_37) rfl (l' := #[.val (.ref a0), .val (.ref b1), .val (.int (2 : Int32)), .val (.int (2 : Int32)), .val (.ref rm)]) rfl (XS.goto X10.here hx rfl (pc0 := 40) (pc' := 9) rfl (hb hby d13_40) (by decide) (by decide) (XS.iloadN X10.here hx rfl (hb hby d13_9) rfl (XS.iloadN X10.here hx rfl (hb hby d13_10) rfl (XS.icmpYes X10.here hx rfl (pc0 := 11) (pc' := 43) rfl (hb hby d13_11) rfl (flt (show ¬ ((2 : Int32) < (2 : Int32)) from (by decide))).2.1 (by decide) (by decide) k)))))) ?_
      obtain ⟨_, _, ⟨T13, L13, k13, n13⟩, -, X13, ⟨Lc13, hQ13, l13, y13, z13⟩, st13⟩ := Jvm.LawKit.callS X10 hx (y := (⟨"java/util/Optional", "empty", "()Ljava/util/Optional;"⟩ : MethodName)) hown (mvT hZ (hwi hw 92 rfl)) (mvT hZ (hwi hw 93 rfl)) (mvT hZ (hwi hw 94 rfl)) (mvT hZ (hwi hw 95 rfl)) (by decide) (backOf (W := 0) (rmEmp l Z aV hw [] em T1.heap n0 Zn OL S_em E_em F_value_em) hZ (hwi hw 95 rfl) (hwi hw 94 rfl) (by decide) (by decide)) (g := (mkF m 43 #[.val (.ref a0), .val (.ref b1), .val (.int (2 : Int32)), .val (.int (2 : Int32)), .val (.ref rm)] [])) rfl (by rw [hml]; rfl) (argsL := []) (rest := []) (lenOf pd_6 rfl) rfl (by show 2 * 0 + _ ≤ _; exact Nat.le_of_eq rfl) (hb hby d13_43) (fun _ _ => ⟨rfl, e10, (by decide : 1 + 0 ≤ _), (by decide : 2 + 0 ≤ _)⟩)
      dsimp only [Pt.U, Pt.locs, Pt.cells, Pt.slots] at X13 l13 y13 z13 st13 hQ13
      replace l13 := l13.symm; replace y13 := y13.symm; replace z13 := z13.symm; subst l13 y13 z13
      obtain ⟨rfl, N13q, e13⟩ := hQ13
      have N13 := Fr.app N10 N13q
      refine Run.st (S' := T13.setTop (mkF m 46 #[.val (.ref a0), .val (.ref b1), .val (.int (2 : Int32)), .val (.int (2 : Int32)), .val (.ref rm)] [(.ref em)])) (fun _ k => st13 _ k) ?_
      have u_E_em := E_em.ext OL.2
      have u_F_value_em := F_value_em.ext OL.2
      have FL_em := u_F_value_em
      refine Run.out X13 hx Bd.notSynchronized Bd.returns rfl (Or.inr (Or.inr (Or.inr (Or.inr ⟨rfl, rfl, rfl⟩)))) (hb hby d13_46) (by decide) (by decide) ?_
      rw [e13]
      exact ⟨em, rfl, N13, Kp, u_E_em, by rw [own_FL, if_neg hk28_6, if_neg hk28_11]; exact u_F_value_em⟩
theorem d15_0 : decode jdk_42_method_66_code 0 = .ok (.aload_n 0, 1) := by decide +kernel
theorem d15_1 : decode jdk_42_method_66_code 1 = .ok (.aload_n 1, 1) := by decide +kernel
theorem d15_2 : decode jdk_42_method_66_code 2 = .ok (.if_acmp .ne 5, 3) := by decide +kernel
theorem d15_7 : decode jdk_42_method_66_code 7 = .ok (.aload_n 1, 1) := by decide +kernel
theorem d15_8 : decode jdk_42_method_66_code 8 = .ok (.instanceof 10, 3) := by decide +kernel
theorem d15_11 : decode jdk_42_method_66_code 11 = .ok (.ifCond .eq 43, 3) := by decide +kernel
theorem d15_54 : decode jdk_42_method_66_code 54 = .ok (.iconst 0, 1) := by decide +kernel
theorem d15_55 : decode jdk_42_method_66_code 55 = .ok (.ireturn, 1) := by decide +kernel
theorem pn_4 : plainName "java/lang/String" = true := by first | (simp [plainName, overriddenIn]; done) | decide +kernel
theorem ef_EqN (m : MethodId) (a0 : Addr) : entryFrame m #[(.ref a0), .null] 3 = mkF m 0 #[.val (.ref a0), .val .null, .unset] [] := by first | (simp [entryFrame, mkF, argsToLocals, Value.category]; done) | rfl
def QEqN (Z : State) (a0 : Addr) (h0 : Heap) (n0 : Nat) (v : Option Value) (h : Heap) (L : List Loc) : Prop := v = some (.int (0 : Int32)) ∧ Fr n0 L ∧ h = h0
set_option maxRecDepth 65536 in
set_option maxHeartbeats 40000000 in
theorem rmEqN (l : Launch) (Z : State) (aV : Array Value) (hw : ∀ d ∈ tables_1, d.before aV Z = true) (ws : List Jvm.Cond) (a0 : Addr) (h0 : Heap) (n0 : Nat) (Zn : n0 ≤ h0.size) (OL : Old Z n0 h0) :
    MetFree l (⟨"java/lang/String", "equals", "(Ljava/lang/Object;)Z"⟩ : MethodName) (head1 (Jvm.Cond.code (⟨"java/lang/String", "equals", "(Ljava/lang/Object;)Z"⟩ : MethodName) jdk_42_method_66_code 3 (some .boolean) :: ws) ({ frames := 0, cells := 0, slots := 0, locals := 0 } : Room)) (fun a U => a = #[(.ref a0), .null] ∧ Z.Warmed39 U.vm ∧ U.heap = h0) (fun _ _ _ _ _ => True) (fun _ U o U' => ∃ v L, o = .returned v ∧ QEqN Z a0 h0 n0 v U'.heap L ∧ FrameEnd U o U' L ({ frames := 0, cells := 0, slots := 0, locals := 0 } : Room).cells ({ frames := 0, cells := 0, slots := 0, locals := 0 } : Room).slots) := by
  refine MetFree.of_bodySF (plainFor_of_name pn_4) hisR ?_
  intro p e s m args below meth c s₁ Bd hml0 hP hK
  obtain ⟨rfl, hZ, hh⟩ := hP
  have hx := Bd.exec
  have hby := Bd.bytes
  have hml : c.maxLocals = 3 := hml0
  have hown : s.vm.findClass "java/lang/String" = some m.cls := findClass_of_methodNamed Bd.named
  have hnm := (name_of_methodNamed Bd.named Bd.method).1
  have X0 : Stand p l e ({ frames := 0, cells := 0, slots := 0, locals := 0 } : Room) s m #[(.ref a0), .null] below meth c s₁ [] 0 0 := Stand.of_body Bd
  have e0 : s₁.heap = h0 := by rw [← hh, Bd.state]; rfl
  have N0 := Fr.nil n0
  have Kp := Keep.refl h0 []
  show Run p e below (Ends s (QEqN Z a0 h0 n0) ({ frames := 0, cells := 0, slots := 0, locals := 0 } : Room).cells ({ frames := 0, cells := 0, slots := 0, locals := 0 } : Room).slots) _
  refine Run.st (S' := s₁.setTop (mkF m 0 #[.val (.ref a0), .val .null, .unset] [])) (fun t k => castTop (ef_EqN m a0) k) ?_
  refine Run.st (S' := s₁.setTop (mkF m 55 #[.val (.ref a0), .val .null, .unset] [(.int (0 : Int32))])) (fun _ k => XS.aloadN X0.here hx rfl (hb hby d15_0) rfl rfl (XS.aloadN X0.here hx rfl (hb hby d15_1) rfl rfl (Jvm.RoadKit.acmp (g := (mkF m 2 #[.val (.ref a0), .val .null, .unset] [.null, (.ref a0)])) X0 hx rfl rfl rfl (pc0 := 2) (pc' := 7) (same := false) rfl (hb hby d15_2) rfl (decide_eq_false nofun) (by decide) (by decide) (XS.aloadN X0.here hx rfl (hb hby d15_7) rfl rfl (X0.instanceofNull hx (g := (mkF m 8 #[.val (.ref a0), .val .null, .unset] [.null])) rfl rfl (hb hby d15_8) _ (XS.ifYes X0.here hx rfl (pc0 := 11) (pc' := 54) rfl (hb hby d15_11) rfl ((if0 _ _).trans (teq (show (0 : Int32) = (0 : Int32) from (by decide))).1) (by decide) (by decide) (XS.iconst X0.here hx rfl (hb hby d15_54) k))))))) ?_
  refine Run.out X0 hx Bd.notSynchronized Bd.returns rfl (Or.inl ⟨rfl, by simp, _, rfl⟩) (hb hby d15_55) (by decide) (by decide) ?_
  rw [e0]
  exact ⟨rfl, N0, rfl⟩
theorem ef_LabN (m : MethodId)  : entryFrame m #[.null] 5 = mkF m 0 #[.val .null, .unset, .unset, .unset, .unset] [] := by first | (simp [entryFrame, mkF, argsToLocals, Value.category]; done) | rfl
def QLabN (Z : State) (vv : Addr) (kV : ClassId) (ri : Addr) (rm : Addr) (li : Addr) (tli : Addr) (kli : ClassId) (lm : Addr) (tlm : Addr) (klm : ClassId) (em : Addr) (h0 : Heap) (n0 : Nat) (v : Option Value) (h : Heap) (L : List Loc) : Prop := ∃ o : Addr, v = some (.ref o) ∧ Fr n0 L ∧ Keep h0 h [] ∧ Exa Z h o "java/util/Optional" ∧ Fld Z h o "java/util/Optional" "value" "Ljava/lang/Object;" .null
set_option maxRecDepth 65536 in
set_option maxHeartbeats 40000000 in
theorem rmLabN (l : Launch) (Z : State) (aV : Array Value) (hw : ∀ d ∈ tables_1, d.before aV Z = true) (ws : List Jvm.Cond) (vv : Addr) (kV : ClassId) (ri : Addr) (rm : Addr) (li : Addr) (tli : Addr) (kli : ClassId) (lm : Addr) (tlm : Addr) (klm : ClassId) (em : Addr) (h0 : Heap) (n0 : Nat) (Zn : n0 ≤ h0.size) (OL : Old Z n0 h0) (S_vals : Sta Z Z.heap "com/example/heading_kin/headingkin/io/RecordFormat" "$VALUES" "[Lcom/example/heading_kin/headingkin/io/RecordFormat;" (.ref vv)) (V_vv : Arv Z Z.heap vv kV (.object "com/example/heading_kin/headingkin/io/RecordFormat") (2 : Int32) [(.ref ri), (.ref rm)] .null) (E_vv : Exa Z Z.heap vv "[Lcom/example/heading_kin/headingkin/io/RecordFormat;") (E_ri : Exa Z Z.heap ri "com/example/heading_kin/headingkin/io/RecordFormat") (E_rm : Exa Z Z.heap rm "com/example/heading_kin/headingkin/io/RecordFormat") (F_label_ri : Fld Z Z.heap ri "com/example/heading_kin/headingkin/io/RecordFormat" "label" "Ljava/lang/String;" (.ref li)) (E_li : Exa Z Z.heap li "java/lang/String") (F_coder_li : Fld Z Z.heap li "java/lang/String" "coder" "B" (.int (0 : Int32))) (F_value_li : Fld Z Z.heap li "java/lang/String" "value" "[B" (.ref tli)) (V_tli : Arv Z Z.heap tli kli .byte (Int32.ofNat own_lit2.length) ((own_bs own_lit2).map Value.int) (.int (0 : Int32))) (F_label_rm : Fld Z Z.heap rm "com/example/heading_kin/headingkin/io/RecordFormat" "label" "Ljava/lang/String;" (.ref lm)) (E_lm : Exa Z Z.heap lm "java/lang/String") (F_coder_lm : Fld Z Z.heap lm "java/lang/String" "coder" "B" (.int (0 : Int32))) (F_value_lm : Fld Z Z.heap lm "java/lang/String" "value" "[B" (.ref tlm)) (V_tlm : Arv Z Z.heap tlm klm .byte (Int32.ofNat own_lit1.length) ((own_bs own_lit1).map Value.int) (.int (0 : Int32))) (S_em : Sta Z Z.heap "java/util/Optional" "EMPTY" "Ljava/util/Optional;" (.ref em)) (E_em : Exa Z Z.heap em "java/util/Optional") (F_value_em : Fld Z Z.heap em "java/util/Optional" "value" "Ljava/lang/Object;" .null) :
    MetFree l (⟨"com/example/heading_kin/headingkin/io/RecordFormat", "labelled", "(Ljava/lang/String;)Ljava/util/Optional;"⟩ : MethodName) (head1 (Jvm.Cond.code (⟨"com/example/heading_kin/headingkin/io/RecordFormat", "labelled", "(Ljava/lang/String;)Ljava/util/Optional;"⟩ : MethodName) prog_18_method_6_code 5 (some (.object "java/util/Optional")) :: ws) ({ frames := 2, cells := 1, slots := 2, locals := 25 } : Room)) (fun a U => a = #[.null] ∧ Z.Warmed39 U.vm ∧ U.heap = h0) (fun _ _ _ _ _ => True) (fun _ U o U' => ∃ v L, o = .returned v ∧ QLabN Z vv kV ri rm li tli kli lm tlm klm em h0 n0 v U'.heap L ∧ FrameEnd U o U' L ({ frames := 2, cells := 1, slots := 2, locals := 25 } : Room).cells ({ frames := 2, cells := 1, slots := 2, locals := 25 } : Room).slots) := by
  refine MetFree.of_bodySF (plainFor_of_name pn_3) hisR ?_
  intro p e s m args below meth c s₁ Bd hml0 hP hK
  obtain ⟨rfl, hZ, hh⟩ := hP
  have hx := Bd.exec
  have hby := Bd.bytes
  have hml : c.maxLocals = 5 := hml0
  have hown : s.vm.findClass "com/example/heading_kin/headingkin/io/RecordFormat" = some m.cls := findClass_of_methodNamed Bd.named
  have hnm := (name_of_methodNamed Bd.named Bd.method).1
  have X0 : Stand p l e ({ frames := 2, cells := 1, slots := 2, locals := 25 } : Room) s m #[.null] below meth c s₁ [] 0 0 := Stand.of_body Bd
  have e0 : s₁.heap = h0 := by rw [← hh, Bd.state]; rfl
  have N0 := Fr.nil n0
  have Kp := Keep.refl h0 []
  show Run p e below (Ends s (QLabN Z vv kV ri rm li tli kli lm tlm klm em h0 n0) ({ frames := 2, cells := 1, slots := 2, locals := 25 } : Room).cells ({ frames := 2, cells := 1, slots := 2, locals := 25 } : Room).slots) _
  refine Run.st (S' := s₁.setTop (mkF m 0 #[.val .null, .unset, .unset, .unset, .unset] [])) (fun t k => castTop (ef_LabN m ) k) ?_
  obtain ⟨_, _, ⟨T1, L1, k1, n1⟩, -, X1, ⟨Lc1, hQ1, l1, y1, z1⟩, st1⟩ := Jvm.LawKit.callS X0 hx (y := (⟨"com/example/heading_kin/headingkin/io/RecordFormat", "values", "()[Lcom/example/heading_kin/headingkin/io/RecordFormat;"⟩ : MethodName)) hown (mvT hZ (hwi hw 64 rfl)) (mvT hZ (hwi hw 65 rfl)) (mvT hZ (hwi hw 62 rfl)) (mvT hZ (hwi hw 66 rfl)) (by decide) (backOf (W := 0) (rmVals l Z aV hw [] vv kV ri rm h0 n0 Zn OL S_vals V_vv E_vv) hZ (hwi hw 66 rfl) (hwi hw 62 rfl) (by decide) (by decide)) (g := (mkF m 0 #[.val .null, .unset, .unset, .unset, .unset] [])) rfl (by rw [hml]; rfl) (argsL := []) (rest := []) (lenOf pd_3 rfl) rfl (by show 2 * 0 + _ ≤ _; exact Nat.le_of_eq rfl) (hb hby d13_0) (fun _ _ => ⟨rfl, e0, (by decide : 0 + 1 ≤ _), (by decide : 0 + 2 ≤ _)⟩)
  dsimp only [Pt.U, Pt.locs, Pt.cells, Pt.slots] at X1 l1 y1 z1 st1 hQ1
  replace l1 := l1.symm; replace y1 := y1.symm; replace z1 := z1.symm; subst l1 y1 z1
  obtain ⟨b1, kb1, rfl, N1q, K1, g_b1, z_b1, q1_0, q1_1⟩ := hQ1
  have sz_b1 : h0.size ≤ b1 := Nat.le_trans Kp.1 z_b1
  have OL := OL.keep K1 all0
  have V_b1 := q1_0
  have E_b1 := q1_1
  have Kp := Kp.trans K1 all0
  have Zn := Nat.le_trans Zn K1.1
  have N1 := Fr.app N0 N1q
  refine Run.st (S' := T1.setTop (mkF m 5 #[.val .null, .val (.ref b1), .unset, .unset, .unset] [(.ref b1)])) (fun _ k => st1 _ (XS.astoreN X1.here hx rfl (hb hby d13_3) rfl rfl (l' := #[.val .null, .val (.ref b1), .unset, .unset, .unset]) rfl (XS.aloadN X1.here hx rfl (hb hby d13_4) rfl rfl k))) ?_
  obtain ⟨cl2, Ar2, -, Sa2, Na2, -, -⟩ := id V_b1
  refine Run.st (S' := T1.setTop (mkF m 6 #[.val .null, .val (.ref b1), .unset, .unset, .unset] [(.int (2 : Int32))])) (fun _ k => X1.arraylength hx Ar2.1 (State.isArrayOf_alike hZ.alike Ar2.2.1) (g := (mkF m 5 #[.val .null, .val (.ref b1), .unset, .unset, .unset] [(.ref b1)])) rfl rfl (hb hby d13_5) _ (by rw [len_of Sa2 Na2]; exact k)) ?_
  refine Run.st (S' := T1.setTop (mkF m 16 #[.val .null, .val (.ref b1), .val (.int (2 : Int32)), .val (.int (0 : Int32)), .unset] [(.int (0 : Int32)), (.ref b1)])) (fun _ k => XS.istoreN X1.here hx rfl (hb hby d13_6) rfl (l' := #[.val .null, .val (.ref b1), .val (.int (2 : Int32)), .unset, .unset]) rfl (XS.iconst X1.here hx rfl (hb hby d13_7) (XS.istoreN X1.here hx rfl (hb hby d13_8) rfl (l' := #[.val .null, .val (.ref b1), .val (.int (2 : Int32)), .val (.int (0 : Int32)), .unset]) rfl (XS.iloadN X1.here hx rfl (hb hby d13_9) rfl (XS.iloadN X1.here hx rfl (hb hby d13_10) rfl (XS.icmpNo X1.here hx rfl (hb hby d13_11) rfl (tlt (show (0 : Int32) < (2 : Int32) from (by decide))).2.1 (XS.aloadN X1.here hx rfl (hb hby d13_14) rfl rfl (XS.iloadN X1.here hx rfl (hb hby d13_15) rfl k)))))))) ?_
  obtain ⟨cl3, Ar3, qa3, Sa3, Na3, Ha3, Ga3⟩ := id V_b1
  have hin3 : ¬ ((0 : Int32) < 0 ∨ cl3.slots.size ≤ ((0 : Int32)).toNatClampNeg) := inb_of Sa3 ⟨by decide, by decide⟩
  have hat3 : cl3.slots[((0 : Int32)).toNatClampNeg]? = some (.ref ri) := Has.at Ha3 hin3 rfl
  refine Run.st (S' := T1.setTop (mkF m 21 #[.val .null, .val (.ref b1), .val (.int (2 : Int32)), .val (.int (0 : Int32)), .val (.ref ri)] [(.ref ri)])) (fun _ k => X1.aaload hx (j := (0 : Int32)) (v := (.ref ri)) Ar3.1 (State.isArrayOf_alike hZ.alike Ar3.2.1) rfl Ar3.2.2 hin3 hat3 (g := (mkF m 16 #[.val .null, .val (.ref b1), .val (.int (2 : Int32)), .val (.int (0 : Int32)), .unset] [(.int (0 : Int32)), (.ref b1)])) rfl rfl (hb hby d13_16) _ (XS.astore X1.here hx rfl (hb hby d13_17) rfl rfl (l' := #[.val .null, .val (.ref b1), .val (.int (2 : Int32)), .val (.int (0 : Int32)), .val (.ref ri)]) rfl (XS.aload X1.here hx rfl (hb hby d13_19) rfl rfl k))) ?_
  have u_F_label_ri := F_label_ri.ext OL.2
  obtain ⟨T4, X4, e4, st4⟩ := getF X1 hx hZ hown (host := "") (Or.inl (hwi hw 81 rfl)) Via.refl rfl u_F_label_ri (g := (mkF m 21 #[.val .null, .val (.ref b1), .val (.int (2 : Int32)), .val (.int (0 : Int32)), .val (.ref ri)] [(.ref ri)])) rfl rfl (hb hby d13_21)
  refine Run.st (S' := T4.setTop (mkF m 25 #[.val .null, .val (.ref b1), .val (.int (2 : Int32)), .val (.int (0 : Int32)), .val (.ref ri)] [.null, (.ref li)])) (fun _ k => st4 _ (XS.aloadN X4.here hx rfl (hb hby d13_24) rfl rfl k)) ?_
  have u_E_li := E_li.ext OL.2
  obtain ⟨cq5, kq5, q5a, q5b, q5c⟩ := isOf hZ e4 u_E_li
  obtain ⟨_, _, ⟨T5, L5, k5, n5⟩, -, X5, ⟨Lc5, hQ5, l5, y5, z5⟩, st5⟩ := X4.virtualBack hx (y := (⟨"java/lang/String", "equals", "(Ljava/lang/Object;)Z"⟩ : MethodName)) (z := (⟨"java/lang/String", "equals", "(Ljava/lang/Object;)Z"⟩ : MethodName)) hown (mvT hZ (hwi hw 83 rfl)) (mvT hZ (hwi hw 84 rfl)) (notFace_of_selects (args := #[]) (mvT hZ (hwi hw 86 rfl))) (mvT hZ (hwi hw 86 rfl)) (mvT hZ (hwi hw 85 rfl)) (by decide) (backOf (W := 0) (rmEqN l Z aV hw [] li T1.heap n0 Zn OL) hZ (hwi hw 87 rfl) (hwi hw 1 rfl) (by decide) (by decide)) q5a q5c (g := (mkF m 25 #[.val .null, .val (.ref b1), .val (.int (2 : Int32)), .val (.int (0 : Int32)), .val (.ref ri)] [.null, (.ref li)])) rfl (by rw [hml]; rfl) (Steps.refl _) (argsL := [.null]) (rest := []) (lenOf pd_4 rfl) rfl (by show 2 * 0 + _ ≤ _; exact Nat.le_of_eq rfl) (hb hby d13_25) (fun _ _ => ⟨rfl, e4, (by decide : 1 + 0 ≤ _), (by decide : 2 + 0 ≤ _)⟩)
  dsimp only [Pt.U, Pt.locs, Pt.cells, Pt.slots] at X5 l5 y5 z5 st5 hQ5
  replace l5 := l5.symm; replace y5 := y5.symm; replace z5 := z5.symm; subst l5 y5 z5
  obtain ⟨rfl, N5q, e5⟩ := hQ5
  have N5 := Fr.app N1 N5q
  refine Run.st (S' := T5.setTop (mkF m 15 #[.val .null, .val (.ref b1), .val (.int (2 : Int32)), .val (.int (1 : Int32)), .val (.ref ri)] [(.ref b1)])) (fun _ k => st5.trans (XS.ifYes X5.here hx rfl (pc0 := 28) (pc' := 37) rfl (hb hby d13_28) rfl ((if0 _ _).trans (teq (show (0 : Int32) = (0 : Int32) from (by decide))).1) (by decide) (by decide) (XS.iinc X5.here hx rfl (hb hby d13_37) rfl (l' := #[.val .null, .val (.ref b1), .val (.int (2 : Int32)), .val (.int (1 : Int32)), .val (.ref ri)]) rfl (XS.goto X5.here hx rfl (pc0 := 40) (pc' := 9) rfl (hb hby d13_40) (by decide) (by decide) (XS.iloadN X5.here hx rfl (hb hby d13_9) rfl (XS.iloadN X5.here hx rfl (hb hby d13_10) rfl (XS.icmpNo X5.here hx rfl (hb hby d13_11) rfl (tlt (show (1 : Int32) < (2 : Int32) from (by decide))).2.1 (XS.aloadN X5.here hx rfl (hb hby d13_14) rfl rfl k)))))))) ?_
  refine Run.st (S' := T5.setTop (mkF m 16 #[.val .null, .val (.ref b1), .val (.int (2 : Int32)), .val (.int (1 : Int32)), .val (.ref ri)] [(.int (1 : Int32)), (.ref b1)])) (fun _ k => XS.iloadN X5.here hx rfl (hb hby d13_15) rfl k) ?_
  obtain ⟨cl6, Ar6, qa6, Sa6, Na6, Ha6, Ga6⟩ := id V_b1
  have hin6 : ¬ ((1 : Int32) < 0 ∨ cl6.slots.size ≤ ((1 : Int32)).toNatClampNeg) := inb_of Sa6 ⟨by decide, by decide⟩
  have hat6 : cl6.slots[((1 : Int32)).toNatClampNeg]? = some (.ref rm) := Has.at Ha6 hin6 rfl
  refine Run.st (S' := T5.setTop (mkF m 21 #[.val .null, .val (.ref b1), .val (.int (2 : Int32)), .val (.int (1 : Int32)), .val (.ref rm)] [(.ref rm)])) (fun _ k => X5.aaload hx (j := (1 : Int32)) (v := (.ref rm)) (by rw [e5]; exact Ar6.1) (State.isArrayOf_alike hZ.alike Ar6.2.1) rfl Ar6.2.2 hin6 hat6 (g := (mkF m 16 #[.val .null, .val (.ref b1), .val (.int (2 : Int32)), .val (.int (1 : Int32)), .val (.ref ri)] [(.int (1 : Int32)), (.ref b1)])) rfl rfl (hb hby d13_16) _ (XS.astore X5.here hx rfl (hb hby d13_17) rfl rfl (l' := #[.val .null, .val (.ref b1), .val (.int (2 : Int32)), .val (.int (1 : Int32)), .val (.ref rm)]) rfl (XS.aload X5.here hx rfl (hb hby d13_19) rfl rfl k))) ?_
  have u_F_label_rm := F_label_rm.ext OL.2
  obtain ⟨T7, X7, e7, st7⟩ := getF X5 hx hZ hown (host := "") (Or.inl (hwi hw 81 rfl)) Via.refl e5 u_F_label_rm (g := (mkF m 21 #[.val .null, .val (.ref b1), .val (.int (2 : Int32)), .val (.int (1 : Int32)), .val (.ref rm)] [(.ref rm)])) rfl rfl (hb hby d13_21)
  refine Run.st (S' := T7.setTop (mkF m 25 #[.val .null, .val (.ref b1), .val (.int (2 : Int32)), .val (.int (1 : Int32)), .val (.ref rm)] [.null, (.ref lm)])) (fun _ k => st7 _ (XS.aloadN X7.here hx rfl (hb hby d13_24) rfl rfl k)) ?_
  have u_E_lm := E_lm.ext OL.2
  obtain ⟨cq8, kq8, q8a, q8b, q8c⟩ := isOf hZ e7 u_E_lm
  obtain ⟨_, _, ⟨T8, L8, k8, n8⟩, -, X8, ⟨Lc8, hQ8, l8, y8, z8⟩, st8⟩ := X7.virtualBack hx (y := (⟨"java/lang/String", "equals", "(Ljava/lang/Object;)Z"⟩ : MethodName)) (z := (⟨"java/lang/String", "equals", "(Ljava/lang/Object;)Z"⟩ : MethodName)) hown (mvT hZ (hwi hw 83 rfl)) (mvT hZ (hwi hw 84 rfl)) (notFace_of_selects (args := #[]) (mvT hZ (hwi hw 86 rfl))) (mvT hZ (hwi hw 86 rfl)) (mvT hZ (hwi hw 85 rfl)) (by decide) (backOf (W := 0) (rmEqN l Z aV hw [] lm T1.heap n0 Zn OL) hZ (hwi hw 87 rfl) (hwi hw 1 rfl) (by decide) (by decide)) q8a q8c (g := (mkF m 25 #[.val .null, .val (.ref b1), .val (.int (2 : Int32)), .val (.int (1 : Int32)), .val (.ref rm)] [.null, (.ref lm)])) rfl (by rw [hml]; rfl) (Steps.refl _) (argsL := [.null]) (rest := []) (lenOf pd_4 rfl) rfl (by show 2 * 0 + _ ≤ _; exact Nat.le_of_eq rfl) (hb hby d13_25) (fun _ _ => ⟨rfl, e7, (by decide : 1 + 0 ≤ _), (by decide : 2 + 0 ≤ _)⟩)
  dsimp only [Pt.U, Pt.locs, Pt.cells, Pt.slots] at X8 l8 y8 z8 st8 hQ8
  replace l8 := l8.symm; replace y8 := y8.symm; replace z8 := z8.symm; subst l8 y8 z8
  obtain ⟨rfl, N8q, e8⟩ := hQ8
  have N8 := Fr.app N5 N8q
  refine Run.st (S' := T8.setTop (mkF m 43 #[.val .null, .val (.ref b1), .val (.int (2 : Int32)), .val (.int (2 : Int32)), .val (.ref rm)] [])) (fun _ k => st8.trans (XS.ifYes X8.here hx rfl (pc0 := 28) (pc' := 37) rfl (hb hby d13_28) rfl ((if0 _ _).trans (teq (show (0 : Int32) = (0 : Int32) from (by decide))).1) (by decide) (by decide) (XS.iinc X8.here hx rfl (hb hby d13_37) rfl (l' := #[.val .null, .val (.ref b1), .val (.int (2 : Int32)), .val (.int (2 : Int32)), .val (.ref rm)]) rfl (XS.goto X8.here hx rfl (pc0 := 40) (pc' := 9) rfl (hb hby d13_40) (by decide) (by decide) (XS.iloadN X8.here hx rfl (hb hby d13_9) rfl (XS.iloadN X8.here hx rfl (hb hby d13_10) rfl (XS.icmpYes X8.here hx rfl (pc0 := 11) (pc' := 43) rfl (hb hby d13_11) rfl (flt (show ¬ ((2 : Int32) < (2 : Int32)) from (by decide))).2.1 (by decide) (by decide) k))))))) ?_
  obtain ⟨_, _, ⟨T9, L9, k9, n9⟩, -, X9, ⟨Lc9, hQ9, l9, y9, z9⟩, st9⟩ := Jvm.LawKit.callS X8 hx (y := (⟨"java/util/Optional", "empty", "()Ljava/util/Optional;"⟩ : MethodName)) hown (mvT hZ (hwi hw 92 rfl)) (mvT hZ (hwi hw 93 rfl)) (mvT hZ (hwi hw 94 rfl)) (mvT hZ (hwi hw 95 rfl)) (by decide) (backOf (W := 0) (rmEmp l Z aV hw [] em T1.heap n0 Zn OL S_em E_em F_value_em) hZ (hwi hw 95 rfl) (hwi hw 94 rfl) (by decide) (by decide)) (g := (mkF m 43 #[.val .null, .val (.ref b1), .val (.int (2 : Int32)), .val (.int (2 : Int32)), .val (.ref rm)] [])) rfl (by rw [hml]; rfl) (argsL := []) (rest := []) (lenOf pd_6 rfl) rfl (by show 2 * 0 + _ ≤ _; exact Nat.le_of_eq rfl) (hb hby d13_43) (fun _ _ => ⟨rfl, e8, (by decide : 1 + 0 ≤ _), (by decide : 2 + 0 ≤ _)⟩)
  dsimp only [Pt.U, Pt.locs, Pt.cells, Pt.slots] at X9 l9 y9 z9 st9 hQ9
  replace l9 := l9.symm; replace y9 := y9.symm; replace z9 := z9.symm; subst l9 y9 z9
  obtain ⟨rfl, N9q, e9⟩ := hQ9
  have N9 := Fr.app N8 N9q
  refine Run.st (S' := T9.setTop (mkF m 46 #[.val .null, .val (.ref b1), .val (.int (2 : Int32)), .val (.int (2 : Int32)), .val (.ref rm)] [(.ref em)])) (fun _ k => st9 _ k) ?_
  have u_E_em := E_em.ext OL.2
  have u_F_value_em := F_value_em.ext OL.2
  refine Run.out X9 hx Bd.notSynchronized Bd.returns rfl (Or.inr (Or.inr (Or.inr (Or.inr ⟨rfl, rfl, rfl⟩)))) (hb hby d13_46) (by decide) (by decide) ?_
  rw [e9]
  exact ⟨em, rfl, N9, Kp, u_E_em, u_F_value_em⟩
theorem d19_0 : decode method_4_code 0 = .ok (.aload_n 0, 1) := by decide +kernel
theorem d19_1 : decode method_4_code 1 = .ok (.ifnonnull 5, 3) := by decide +kernel
theorem d19_6 : decode method_4_code 6 = .ok (.aload_n 0, 1) := by decide +kernel
theorem d19_7 : decode method_4_code 7 = .ok (.ldc 7, 2) := by decide +kernel
theorem d19_9 : decode method_4_code 9 = .ok (.invokevirtual 43, 3) := by decide +kernel
theorem d19_12 : decode method_4_code 12 = .ok (.ifCond .eq 7, 3) := by decide +kernel
theorem d19_15 : decode method_4_code 15 = .ok (.getstatic 47, 3) := by decide +kernel
theorem d19_18 : decode method_4_code 18 = .ok (.areturn, 1) := by decide +kernel
theorem d19_19 : decode method_4_code 19 = .ok (.aload_n 0, 1) := by decide +kernel
theorem d19_20 : decode method_4_code 20 = .ok (.ldc 9, 2) := by decide +kernel
theorem d19_22 : decode method_4_code 22 = .ok (.invokevirtual 43, 3) := by decide +kernel
theorem d19_25 : decode method_4_code 25 = .ok (.ifCond .eq 7, 3) := by decide +kernel
theorem d19_28 : decode method_4_code 28 = .ok (.getstatic 51, 3) := by decide +kernel
theorem d19_31 : decode method_4_code 31 = .ok (.areturn, 1) := by decide +kernel
theorem d19_32 : decode method_4_code 32 = .ok (.aconst_null, 1) := by decide +kernel
theorem d19_33 : decode method_4_code 33 = .ok (.areturn, 1) := by decide +kernel
theorem ef_Exp (m : MethodId) (a0 : Addr) : entryFrame m #[(.ref a0)] 1 = mkF m 0 #[.val (.ref a0)] [] := by first | (simp [entryFrame, mkF, argsToLocals, Value.category]; done) | rfl
def QExp (Z : State) (a0 : Addr) (zc : Int32) (ri : Addr) (rm : Addr) (t0 : Addr) (k0 : ClassId) (cs : List Int32) (h0 : Heap) (n0 : Nat) (v : Option Value) (h : Heap) (L : List Loc) : Prop := v = some (own_FL cs ri rm) ∧ Fr n0 L ∧ Keep h0 h []
set_option maxRecDepth 65536 in
set_option maxHeartbeats 40000000 in
theorem rmExp (l : Launch) (Z : State) (aV : Array Value) (hw : ∀ d ∈ tables_1, d.before aV Z = true) (ws : List Jvm.Cond) (a0 : Addr) (zc : Int32) (ri : Addr) (rm : Addr) (t0 : Addr) (k0 : ClassId) (cs : List Int32) (h0 : Heap) (n0 : Nat) (Zn : n0 ≤ h0.size) (OL : Old Z n0 h0) (hzc : ¬ zc = 0) (hL : own_L1 cs) (S_cs : Sta Z Z.heap "java/lang/String" "COMPACT_STRINGS" "Z" (.int zc)) (S_ri : Sta Z Z.heap "com/example/heading_kin/headingkin/io/RecordFormat" "ISO2709" "Lcom/example/heading_kin/headingkin/io/RecordFormat;" (.ref ri)) (S_rm : Sta Z Z.heap "com/example/heading_kin/headingkin/io/RecordFormat" "MARCXML" "Lcom/example/heading_kin/headingkin/io/RecordFormat;" (.ref rm)) (E_a0 : Exa Z h0 a0 "java/lang/String") (F_coder_a0 : Fld Z h0 a0 "java/lang/String" "coder" "B" (.int (0 : Int32))) (F_value_a0 : Fld Z h0 a0 "java/lang/String" "value" "[B" (.ref t0)) (V_t0 : Arv Z h0 t0 k0 .byte (Int32.ofNat cs.length) ((own_bs cs).map Value.int) (.int (0 : Int32))) :
    MetFree l (⟨"com/example/heading_kin/headingkin/io/RecordFormatLabelledPinLaw", "expectedFor", "(Ljava/lang/String;)Lcom/example/heading_kin/headingkin/io/RecordFormat;"⟩ : MethodName) (head1 (Jvm.Cond.code (⟨"com/example/heading_kin/headingkin/io/RecordFormatLabelledPinLaw", "expectedFor", "(Ljava/lang/String;)Lcom/example/heading_kin/headingkin/io/RecordFormat;"⟩ : MethodName) method_4_code 1 (some (.object "com/example/heading_kin/headingkin/io/RecordFormat")) :: ws) ({ frames := 2, cells := 4, slots := 64, locals := 28 } : Room)) (fun a U => a = #[(.ref a0)] ∧ Z.Warmed39 U.vm ∧ U.heap = h0 ∧ CHv Z consts_1 U.vm h0) (fun _ _ _ _ _ => True) (fun _ U o U' => ∃ v L, o = .returned v ∧ QExp Z a0 zc ri rm t0 k0 cs h0 n0 v U'.heap L ∧ CHr Z consts_1 U.vm U.heap U'.vm U'.heap ∧ ReturnedEndW U o U' L ({ frames := 2, cells := 4, slots := 64, locals := 28 } : Room).cells ({ frames := 2, cells := 4, slots := 64, locals := 28 } : Room).slots) := by
  refine MetFree.of_bodySF (plainFor_of_name pn_0) hisR ?_
  intro p e s m args below meth c s₁ Bd hml0 hP hK
  obtain ⟨rfl, hZ, hh, CH0⟩ := hP
  have hx := Bd.exec
  have hby := Bd.bytes
  have hml : c.maxLocals = 1 := hml0
  have hown : s.vm.findClass "com/example/heading_kin/headingkin/io/RecordFormatLabelledPinLaw" = some m.cls := findClass_of_methodNamed Bd.named
  have hnm := (name_of_methodNamed Bd.named Bd.method).1
  have X0 : Stand p l e ({ frames := 2, cells := 4, slots := 64, locals := 28 } : Room) s m #[(.ref a0)] below meth c s₁ [] 0 0 := Stand.of_body Bd
  have e0 : s₁.heap = h0 := by rw [← hh, Bd.state]; rfl
  have N0 := Fr.nil n0
  have Kp := Keep.refl h0 []
  have X0 : Stand p l e ({ frames := 2, cells := 4, slots := 64, locals := 28 } : Room) (s.setVm s.vm) m #[(.ref a0)] below meth c s₁ [] 0 0 := X0
  have hS : s.Since s.vm 0 := (State.WarmedH.refl s).since 0
  have hk : 0 ≤ h0.size := Nat.zero_le _
  have CR := CHr.refl CH0
  have hZ : Z.Warmed39 (s.setVm s.vm).vm := hZ
  have hown : (s.setVm s.vm).vm.findClass "com/example/heading_kin/headingkin/io/RecordFormatLabelledPinLaw" = some m.cls := hown
  show Run p e below (EndsW Z s (QExp Z a0 zc ri rm t0 k0 cs h0 n0) ({ frames := 2, cells := 4, slots := 64, locals := 28 } : Room).cells ({ frames := 2, cells := 4, slots := 64, locals := 28 } : Room).slots) _
  refine Run.st (S' := s₁.setTop (mkF m 0 #[.val (.ref a0)] [])) (fun t k => castTop (ef_Exp m a0) k) ?_
  refine Run.st (S' := s₁.setTop (mkF m 7 #[.val (.ref a0)] [(.ref a0)])) (fun _ k => XS.aloadN X0.here hx rfl (hb hby d19_0) rfl rfl (XS.ifnonnullYes X0.here hx rfl (pc0 := 1) (pc' := 6) rfl (hb hby d19_1) rfl (by decide) (by decide) (XS.aloadN X0.here hx rfl (hb hby d19_6) rfl rfl k))) ?_
  obtain ⟨sl1, T1, h1, kk1, sb1, kb1, X1, e1, E1, hS, hk, hZ, hown, E_sl1, F_coder_sl1, F_value_sl1, V_sb1, -, -, hC, -, hne1, st1⟩ := ldcCH X0 hx hZ hown (hwi hw 0 rfl) (own_wS hw) e0 hS hk (own_EW hw) (by decide) CR.1 (z := (Int32.ofNat own_lit2.length)) own_lit2_t (by decide) (by decide) (g := (mkF m 7 #[.val (.ref a0)] [(.ref a0)])) rfl (hb hby d19_7) (n := 28) (by decide) (by decide) (by decide) (by decide)
  have CR := CR.trans hC
  have E_a0 := E_a0.ext E1
  have F_coder_a0 := F_coder_a0.ext E1
  have F_value_a0 := F_value_a0.ext E1
  have V_t0 := V_t0.ext E1
  have OL := OL.ext E1
  have Zn := Nat.le_trans Zn E1.1
  have Kp := Kp.ext E1
  refine Run.st (S' := T1.setTop (mkF m 9 #[.val (.ref a0)] [(.ref sl1), (.ref a0)])) (fun _ k => st1 _ k) ?_
  have u_S_cs := S_cs.ext OL.2
  obtain ⟨cq2, kq2, q2a, q2b, q2c⟩ := isOf hZ e1 E_a0
  obtain ⟨_, _, ⟨T2, L2, k2, n2⟩, -, X2, ⟨Lc2, hQ2, l2, y2, z2⟩, st2⟩ := X1.virtualBack hx (y := (⟨"java/lang/String", "equals", "(Ljava/lang/Object;)Z"⟩ : MethodName)) (z := (⟨"java/lang/String", "equals", "(Ljava/lang/Object;)Z"⟩ : MethodName)) hown (mvT hZ (hwi hw 107 rfl)) (mvT hZ (hwi hw 84 rfl)) (notFace_of_selects (args := #[]) (mvT hZ (hwi hw 86 rfl))) (mvT hZ (hwi hw 86 rfl)) (mvT hZ (hwi hw 85 rfl)) (by decide) (own_eqB (n0 := n0) (W := 0) hw hZ E_a0 F_value_a0 F_coder_a0 V_t0 hL E_sl1 F_value_sl1 F_coder_sl1 V_sb1 own_lit2_L1 u_S_cs hzc (by decide) (by decide) (P := own_lit2 = cs) ⟨Eq.symm, Eq.symm⟩) q2a q2c (g := (mkF m 9 #[.val (.ref a0)] [(.ref sl1), (.ref a0)])) rfl (by rw [hml]; rfl) (Steps.refl _) (argsL := [(.ref sl1)]) (rest := []) (lenOf pd_4 rfl) rfl (by show 2 * 0 + _ ≤ _; exact Nat.le_of_eq rfl) (hb hby d19_9) (fun _ _ => ⟨rfl, e1, (by decide : 2 + 0 ≤ _), (by decide : 32 + 0 ≤ _)⟩)
  dsimp only [Pt.U, Pt.locs, Pt.cells, Pt.slots] at X2 l2 y2 z2 st2 hQ2
  replace l2 := l2.symm; replace y2 := y2.symm; replace z2 := z2.symm; subst l2 y2 z2
  obtain ⟨rfl, N2q, e2⟩ := hQ2
  have N2 := Fr.app N0 N2q
  refine Run.st (S' := T2.setTop (mkF m 12 #[.val (.ref a0)] [(.int (if own_lit2 = cs then (1 : Int32) else (0 : Int32)))])) (fun _ k => st2.trans k) ?_
  by_cases hk12_3 : own_lit2 = cs
  · refine Run.st (S' := T2.setTop (mkF m 15 #[.val (.ref a0)] [])) (fun _ k => XS.ifNo X2.here hx rfl (hb hby d19_12) rfl ((if0 _ _).trans (feq (show ¬ ((if own_lit2 = cs then (1 : Int32) else (0 : Int32)) = (0 : Int32)) from (by rw [if_pos hk12_3]; decide))).1) k) ?_
    have u_S_ri := S_ri.ext OL.2
    obtain ⟨T4, X4, e4, st4⟩ := getS2 X2 hx hZ hown (host := "") (Or.inl (hwi hw 127 rfl)) Via.refl e2 u_S_ri (g := (mkF m 15 #[.val (.ref a0)] [])) rfl (hb hby d19_15)
    refine Run.st (S' := T4.setTop (mkF m 18 #[.val (.ref a0)] [(.ref ri)])) (fun _ k => st4 _ k) ?_
    refine Run.outW X4 hx hS (by rw [e4]; exact hk) (by rw [hh, e4]; exact CR.trans (CHv.at X4 hZ (own_EW hw) CR.1)) Bd.notSynchronized Bd.returns rfl (Or.inr (Or.inr (Or.inr (Or.inr ⟨rfl, rfl, rfl⟩)))) (hb hby d19_18) (by decide) (by decide) ?_
    rw [e4]
    exact ⟨by rw [own_FL, if_pos hk12_3], N2, Kp⟩
  · refine Run.st (S' := T2.setTop (mkF m 20 #[.val (.ref a0)] [(.ref a0)])) (fun _ k => XS.ifYes X2.here hx rfl (pc0 := 12) (pc' := 19) rfl (hb hby d19_12) rfl ((if0 _ _).trans (teq (show (if own_lit2 = cs then (1 : Int32) else (0 : Int32)) = (0 : Int32) from (by rw [if_neg hk12_3]))).1) (by decide) (by decide) (XS.aloadN X2.here hx rfl (hb hby d19_19) rfl rfl k)) ?_
    obtain ⟨sl5, T5, h5, kk5, sb5, kb5, X5, e5, E5, hS, hk, hZ, hown, E_sl5, F_coder_sl5, F_value_sl5, V_sb5, -, -, hC, -, hne5, st5⟩ := ldcCH X2 hx hZ hown (hwi hw 108 rfl) (own_wS hw) e2 hS hk (own_EW hw) (by decide) CR.1 (z := (Int32.ofNat own_lit1.length)) own_lit1_t (by decide) (by decide) (g := (mkF m 20 #[.val (.ref a0)] [(.ref a0)])) rfl (hb hby d19_20) (n := 28) (by decide) (by decide) (by decide) (by decide)
    have CR := CR.trans hC
    have E_a0 := E_a0.ext E5
    have F_coder_a0 := F_coder_a0.ext E5
    have F_value_a0 := F_value_a0.ext E5
    have V_t0 := V_t0.ext E5
    have E_sl1 := E_sl1.ext E5
    have F_coder_sl1 := F_coder_sl1.ext E5
    have F_value_sl1 := F_value_sl1.ext E5
    have V_sb1 := V_sb1.ext E5
    have OL := OL.ext E5
    have Zn := Nat.le_trans Zn E5.1
    have Kp := Kp.ext E5
    refine Run.st (S' := T5.setTop (mkF m 22 #[.val (.ref a0)] [(.ref sl5), (.ref a0)])) (fun _ k => st5 _ k) ?_
    have u_S_cs := S_cs.ext OL.2
    obtain ⟨cq6, kq6, q6a, q6b, q6c⟩ := isOf hZ e5 E_a0
    obtain ⟨_, _, ⟨T6, L6, k6, n6⟩, -, X6, ⟨Lc6, hQ6, l6, y6, z6⟩, st6⟩ := X5.virtualBack hx (y := (⟨"java/lang/String", "equals", "(Ljava/lang/Object;)Z"⟩ : MethodName)) (z := (⟨"java/lang/String", "equals", "(Ljava/lang/Object;)Z"⟩ : MethodName)) hown (mvT hZ (hwi hw 107 rfl)) (mvT hZ (hwi hw 84 rfl)) (notFace_of_selects (args := #[]) (mvT hZ (hwi hw 86 rfl))) (mvT hZ (hwi hw 86 rfl)) (mvT hZ (hwi hw 85 rfl)) (by decide) (own_eqB (n0 := n0) (W := 0) hw hZ E_a0 F_value_a0 F_coder_a0 V_t0 hL E_sl5 F_value_sl5 F_coder_sl5 V_sb5 own_lit1_L1 u_S_cs hzc (by decide) (by decide) (P := own_lit1 = cs) ⟨Eq.symm, Eq.symm⟩) q6a q6c (g := (mkF m 22 #[.val (.ref a0)] [(.ref sl5), (.ref a0)])) rfl (by rw [hml]; rfl) (Steps.refl _) (argsL := [(.ref sl5)]) (rest := []) (lenOf pd_4 rfl) rfl (by show 2 * 0 + _ ≤ _; exact Nat.le_of_eq rfl) (hb hby d19_22) (fun _ _ => ⟨rfl, e5, (by decide : 4 + 0 ≤ _), (by decide : 64 + 0 ≤ _)⟩)
    dsimp only [Pt.U, Pt.locs, Pt.cells, Pt.slots] at X6 l6 y6 z6 st6 hQ6
    replace l6 := l6.symm; replace y6 := y6.symm; replace z6 := z6.symm; subst l6 y6 z6
    obtain ⟨rfl, N6q, e6⟩ := hQ6
    have N6 := Fr.app N2 N6q
    refine Run.st (S' := T6.setTop (mkF m 25 #[.val (.ref a0)] [(.int (if own_lit1 = cs then (1 : Int32) else (0 : Int32)))])) (fun _ k => st6.trans k) ?_
    by_cases hk25_7 : own_lit1 = cs
    · refine Run.st (S' := T6.setTop (mkF m 28 #[.val (.ref a0)] [])) (fun _ k => XS.ifNo X6.here hx rfl (hb hby d19_25) rfl ((if0 _ _).trans (feq (show ¬ ((if own_lit1 = cs then (1 : Int32) else (0 : Int32)) = (0 : Int32)) from (by rw [if_pos hk25_7]; decide))).1) k) ?_
      have u_S_rm := S_rm.ext OL.2
      obtain ⟨T8, X8, e8, st8⟩ := getS2 X6 hx hZ hown (host := "") (Or.inl (hwi hw 126 rfl)) Via.refl e6 u_S_rm (g := (mkF m 28 #[.val (.ref a0)] [])) rfl (hb hby d19_28)
      refine Run.st (S' := T8.setTop (mkF m 31 #[.val (.ref a0)] [(.ref rm)])) (fun _ k => st8 _ k) ?_
      refine Run.outW X8 hx hS (by rw [e8]; exact hk) (by rw [hh, e8]; exact CR.trans (CHv.at X8 hZ (own_EW hw) CR.1)) Bd.notSynchronized Bd.returns rfl (Or.inr (Or.inr (Or.inr (Or.inr ⟨rfl, rfl, rfl⟩)))) (hb hby d19_31) (by decide) (by decide) ?_
      rw [e8]
      exact ⟨by rw [own_FL, if_neg hk12_3, if_pos hk25_7], N6, Kp⟩
    · refine Run.st (S' := T6.setTop (mkF m 33 #[.val (.ref a0)] [.null])) (fun _ k => XS.ifYes X6.here hx rfl (pc0 := 25) (pc' := 32) rfl (hb hby d19_25) rfl ((if0 _ _).trans (teq (show (if own_lit1 = cs then (1 : Int32) else (0 : Int32)) = (0 : Int32) from (by rw [if_neg hk25_7]))).1) (by decide) (by decide) (XS.aconstNull X6.here hx rfl (hb hby d19_32) k)) ?_
      refine Run.outW X6 hx hS (by rw [e6]; exact hk) (by rw [hh, e6]; exact CR.trans (CHv.at X6 hZ (own_EW hw) CR.1)) Bd.notSynchronized Bd.returns rfl (Or.inr (Or.inr (Or.inr (Or.inr ⟨rfl, rfl, rfl⟩)))) (hb hby d19_33) (by decide) (by decide) ?_
      rw [e6]
      exact ⟨by rw [own_FL, if_neg hk12_3, if_neg hk25_7], N6, Kp⟩
theorem d19_4 : decode method_4_code 4 = .ok (.aconst_null, 1) := by decide +kernel
theorem d19_5 : decode method_4_code 5 = .ok (.areturn, 1) := by decide +kernel
theorem ef_ExpN (m : MethodId)  : entryFrame m #[.null] 1 = mkF m 0 #[.val .null] [] := by first | (simp [entryFrame, mkF, argsToLocals, Value.category]; done) | rfl
def QExpN (Z : State)  (h0 : Heap) (n0 : Nat) (v : Option Value) (h : Heap) (L : List Loc) : Prop := v = some .null ∧ Fr n0 L ∧ h = h0
set_option maxRecDepth 65536 in
set_option maxHeartbeats 40000000 in
theorem rmExpN (l : Launch) (Z : State) (aV : Array Value) (hw : ∀ d ∈ tables_1, d.before aV Z = true) (ws : List Jvm.Cond)  (h0 : Heap) (n0 : Nat) (Zn : n0 ≤ h0.size) :
    MetFree l (⟨"com/example/heading_kin/headingkin/io/RecordFormatLabelledPinLaw", "expectedFor", "(Ljava/lang/String;)Lcom/example/heading_kin/headingkin/io/RecordFormat;"⟩ : MethodName) (head1 (Jvm.Cond.code (⟨"com/example/heading_kin/headingkin/io/RecordFormatLabelledPinLaw", "expectedFor", "(Ljava/lang/String;)Lcom/example/heading_kin/headingkin/io/RecordFormat;"⟩ : MethodName) method_4_code 1 (some (.object "com/example/heading_kin/headingkin/io/RecordFormat")) :: ws) ({ frames := 0, cells := 0, slots := 0, locals := 0 } : Room)) (fun a U => a = #[.null] ∧ Z.Warmed39 U.vm ∧ U.heap = h0) (fun _ _ _ _ _ => True) (fun _ U o U' => ∃ v L, o = .returned v ∧ QExpN Z  h0 n0 v U'.heap L ∧ FrameEnd U o U' L ({ frames := 0, cells := 0, slots := 0, locals := 0 } : Room).cells ({ frames := 0, cells := 0, slots := 0, locals := 0 } : Room).slots) := by
  refine MetFree.of_bodySF (plainFor_of_name pn_0) hisR ?_
  intro p e s m args below meth c s₁ Bd hml0 hP hK
  obtain ⟨rfl, hZ, hh⟩ := hP
  have hx := Bd.exec
  have hby := Bd.bytes
  have hml : c.maxLocals = 1 := hml0
  have hown : s.vm.findClass "com/example/heading_kin/headingkin/io/RecordFormatLabelledPinLaw" = some m.cls := findClass_of_methodNamed Bd.named
  have hnm := (name_of_methodNamed Bd.named Bd.method).1
  have X0 : Stand p l e ({ frames := 0, cells := 0, slots := 0, locals := 0 } : Room) s m #[.null] below meth c s₁ [] 0 0 := Stand.of_body Bd
  have e0 : s₁.heap = h0 := by rw [← hh, Bd.state]; rfl
  have N0 := Fr.nil n0
  have Kp := Keep.refl h0 []
  show Run p e below (Ends s (QExpN Z  h0 n0) ({ frames := 0, cells := 0, slots := 0, locals := 0 } : Room).cells ({ frames := 0, cells := 0, slots := 0, locals := 0 } : Room).slots) _
  refine Run.st (S' := s₁.setTop (mkF m 0 #[.val .null] [])) (fun t k => castTop (ef_ExpN m ) k) ?_
  refine Run.st (S' := s₁.setTop (mkF m 5 #[.val .null] [.null])) (fun _ k => XS.aloadN X0.here hx rfl (hb hby d19_0) rfl rfl (XS.ifnonnullNo X0.here hx rfl (hb hby d19_1) rfl (XS.aconstNull X0.here hx rfl (hb hby d19_4) k))) ?_
  refine Run.out X0 hx Bd.notSynchronized Bd.returns rfl (Or.inr (Or.inr (Or.inr (Or.inr ⟨rfl, rfl, rfl⟩)))) (hb hby d19_5) (by decide) (by decide) ?_
  rw [e0]
  exact ⟨rfl, N0, rfl⟩
theorem d8_0 : decode jdk_42_method_149_code 0 = .ok (.aload_n 0, 1) := by decide +kernel
theorem d8_1 : decode jdk_42_method_149_code 1 = .ok (.invokespecial 1, 3) := by decide +kernel
theorem d8_4 : decode jdk_42_method_149_code 4 = .ok (.iload_n 3, 1) := by decide +kernel
theorem d8_5 : decode jdk_42_method_149_code 5 = .ok (.ifCond .ne 22, 3) := by decide +kernel
theorem d8_8 : decode jdk_42_method_149_code 8 = .ok (.aload_n 0, 1) := by decide +kernel
theorem d8_9 : decode jdk_42_method_149_code 9 = .ok (.ldc 7, 2) := by decide +kernel
theorem d8_11 : decode jdk_42_method_149_code 11 = .ok (.getfield 9, 3) := by decide +kernel
theorem d8_14 : decode jdk_42_method_149_code 14 = .ok (.putfield 9, 3) := by decide +kernel
theorem d8_17 : decode jdk_42_method_149_code 17 = .ok (.aload_n 0, 1) := by decide +kernel
theorem d8_18 : decode jdk_42_method_149_code 18 = .ok (.ldc 7, 2) := by decide +kernel
theorem d8_20 : decode jdk_42_method_149_code 20 = .ok (.getfield 15, 3) := by decide +kernel
theorem d8_23 : decode jdk_42_method_149_code 23 = .ok (.putfield 15, 3) := by decide +kernel
theorem d8_26 : decode jdk_42_method_149_code 26 = .ok (.return_, 1) := by decide +kernel
theorem ef_Ini4 (m : MethodId) (a0 : Addr) (a1 : Addr) (p2 : Int32) (p3 : Int32) : entryFrame m #[(.ref a0), (.ref a1), (.int p2), (.int p3), .null] 6 = mkF m 0 #[.val (.ref a0), .val (.ref a1), .val (.int p2), .val (.int p3), .val .null, .unset] [] := by first | (simp [entryFrame, mkF, argsToLocals, Value.category]; done) | rfl
def QIni4 (Z : State) (a0 : Addr) (a1 : Addr) (p2 : Int32) (p3 : Int32) (h0 : Heap) (n0 : Nat) (v : Option Value) (h : Heap) (L : List Loc) : Prop := own_QS Z a0 [] h0 n0 v h L
set_option maxRecDepth 65536 in
set_option maxHeartbeats 40000000 in
theorem rmIni4 (l : Launch) (Z : State) (aV : Array Value) (hw : ∀ d ∈ tables_1, d.before aV Z = true) (ws : List Jvm.Cond) (a0 : Addr) (a1 : Addr) (p2 : Int32) (p3 : Int32) (h0 : Heap) (n0 : Nat) (Zn : n0 ≤ h0.size) (OL : Old Z n0 h0) (g_a0 : n0 ≤ a0) (hp3 : p3 = (0 : Int32)) (E_a0 : Exa Z h0 a0 "java/lang/String") (F_value_a0 : Fld Z h0 a0 "java/lang/String" "value" "[B" .null) (F_coder_a0 : Fld Z h0 a0 "java/lang/String" "coder" "B" (.int (0 : Int32))) :
    MetFree l (⟨"java/lang/String", "<init>", "([CIILjava/lang/Void;)V"⟩ : MethodName) (head1 (Jvm.Cond.code (⟨"java/lang/String", "<init>", "([CIILjava/lang/Void;)V"⟩ : MethodName) jdk_42_method_149_code 6 none :: ws) ({ frames := 1, cells := 4, slots := 8, locals := 12 } : Room)) (fun a U => a = #[(.ref a0), (.ref a1), (.int p2), (.int p3), .null] ∧ Z.Warmed39 U.vm ∧ U.heap = h0 ∧ CHv Z consts_1 U.vm h0) (fun _ _ _ _ _ => True) (fun _ U o U' => ∃ v L, o = .returned v ∧ QIni4 Z a0 a1 p2 p3 h0 n0 v U'.heap L ∧ CHr Z consts_1 U.vm U.heap U'.vm U'.heap ∧ ReturnedEndW U o U' L ({ frames := 1, cells := 4, slots := 8, locals := 12 } : Room).cells ({ frames := 1, cells := 4, slots := 8, locals := 12 } : Room).slots) := by
  refine MetFree.of_bodySF (plainFor_of_name pn_4) hisR ?_
  intro p e s m args below meth c s₁ Bd hml0 hP hK
  obtain ⟨rfl, hZ, hh, CH0⟩ := hP
  have hx := Bd.exec
  have hby := Bd.bytes
  have hml : c.maxLocals = 6 := hml0
  have hown : s.vm.findClass "java/lang/String" = some m.cls := findClass_of_methodNamed Bd.named
  have hnm := (name_of_methodNamed Bd.named Bd.method).1
  have X0 : Stand p l e ({ frames := 1, cells := 4, slots := 8, locals := 12 } : Room) s m #[(.ref a0), (.ref a1), (.int p2), (.int p3), .null] below meth c s₁ [] 0 0 := Stand.of_body Bd
  have e0 : s₁.heap = h0 := by rw [← hh, Bd.state]; rfl
  have N0 := Fr.nil n0
  have Kp := Keep.refl h0 [a0]
  have X0 : Stand p l e ({ frames := 1, cells := 4, slots := 8, locals := 12 } : Room) (s.setVm s.vm) m #[(.ref a0), (.ref a1), (.int p2), (.int p3), .null] below meth c s₁ [] 0 0 := X0
  have hS : s.Since s.vm 0 := (State.WarmedH.refl s).since 0
  have hk : 0 ≤ h0.size := Nat.zero_le _
  have CR := CHr.refl CH0
  have hZ : Z.Warmed39 (s.setVm s.vm).vm := hZ
  have hown : (s.setVm s.vm).vm.findClass "java/lang/String" = some m.cls := hown
  have sf_a0 := own_safeN (EL := consts_1) hZ.alike E_a0 F_value_a0
  show Run p e below (EndsW Z s (QIni4 Z a0 a1 p2 p3 h0 n0) ({ frames := 1, cells := 4, slots := 8, locals := 12 } : Room).cells ({ frames := 1, cells := 4, slots := 8, locals := 12 } : Room).slots) _
  refine Run.st (S' := s₁.setTop (mkF m 0 #[.val (.ref a0), .val (.ref a1), .val (.int p2), .val (.int p3), .val .null, .unset] [])) (fun t k => castTop (ef_Ini4 m a0 a1 p2 p3) k) ?_
  refine Run.st (S' := s₁.setTop (mkF m 1 #[.val (.ref a0), .val (.ref a1), .val (.int p2), .val (.int p3), .val .null, .unset] [(.ref a0)])) (fun _ k => XS.aloadN X0.here hx rfl (hb hby d8_0) rfl rfl k) ?_
  obtain ⟨T1, X1, e1, st1⟩ := initO X0 hx hZ hown (hwi hw 47 rfl) (hwi hw 48 rfl) (hwi hw 49 rfl) e0 (g := (mkF m 1 #[.val (.ref a0), .val (.ref a1), .val (.int p2), .val (.int p3), .val .null, .unset] [(.ref a0)])) rfl (by rw [hml]; rfl) rfl (hb hby d8_1) (by decide) (W := 0) (by show 2 * 0 + _ ≤ _; exact Nat.le_of_eq rfl) (by decide)
  refine Run.st (S' := T1.setTop (mkF m 9 #[.val (.ref a0), .val (.ref a1), .val (.int p2), .val (.int p3), .val .null, .unset] [(.ref a0)])) (fun _ k => st1 _ (XS.iloadN X1.here hx rfl (hb hby d8_4) rfl (XS.ifNo X1.here hx rfl (hb hby d8_5) rfl ((if0 _ _).trans (teq (show p3 = (0 : Int32) from hp3)).2) (XS.aloadN X1.here hx rfl (hb hby d8_8) rfl rfl k)))) ?_
  obtain ⟨sl2, T2, h2, kk2, sb2, kb2, X2, e2, E2, hS, hk, hZ, hown, E_sl2, F_coder_sl2, F_value_sl2, V_sb2, -, -, hC, -, hne2, st2⟩ := ldcCH X1 hx hZ hown (hwi hw 109 rfl) (own_wS hw) e1 hS hk (own_EW hw) (by decide) CR.1 (z := (Int32.ofNat own_lit0.length)) own_lit0_t (by decide) (by decide) (g := (mkF m 9 #[.val (.ref a0), .val (.ref a1), .val (.int p2), .val (.int p3), .val .null, .unset] [(.ref a0)])) rfl (hb hby d8_9) (n := 0) (by decide) (by decide) (by decide) (by decide)
  have sf_a0 := hC.safe E_a0.lt sf_a0
  have ne_a0_sl2 := (hne2 _ sf_a0).1
  have ne_a0_sb2 := (hne2 _ sf_a0).2
  have CR := CR.trans hC
  have E_a0 := E_a0.ext E2
  have F_value_a0 := F_value_a0.ext E2
  have F_coder_a0 := F_coder_a0.ext E2
  have OL := OL.ext E2
  have Zn := Nat.le_trans Zn E2.1
  have Kp := Kp.ext E2
  refine Run.st (S' := T2.setTop (mkF m 11 #[.val (.ref a0), .val (.ref a1), .val (.int p2), .val (.int p3), .val .null, .unset] [(.ref sl2), (.ref a0)])) (fun _ k => st2 _ k) ?_
  obtain ⟨T3, X3, e3, st3⟩ := getF X2 hx hZ hown (host := "") (Or.inl (hwi hw 26 rfl)) Via.refl e2 F_value_sl2 (g := (mkF m 11 #[.val (.ref a0), .val (.ref a1), .val (.int p2), .val (.int p3), .val .null, .unset] [(.ref sl2), (.ref a0)])) rfl rfl (hb hby d8_11)
  refine Run.st (S' := T3.setTop (mkF m 14 #[.val (.ref a0), .val (.ref a1), .val (.int p2), .val (.int p3), .val .null, .unset] [(.ref sb2), (.ref a0)])) (fun _ k => st3 _ k) ?_
  have sfw := sf_a0
  obtain ⟨T4, h4, X4, e4, W4, st4⟩ := putF X3 hx hZ hown (host := "") (Or.inl (hwi hw 26 rfl)) Via.refl e3 F_value_a0 E_a0 (Or.inr ⟨(hwi hw 4 rfl), rfl, hnm⟩) (hwi hw 2 rfl) (ty := (.array .byte)) (by decide) rfl rfl (g := (mkF m 14 #[.val (.ref a0), .val (.ref a1), .val (.int p2), .val (.int p3), .val .null, .unset] [(.ref sb2), (.ref a0)])) rfl rfl (hb hby d8_14)
  have F_value_a0 := F_value_a0.same W4
  have OL := OL.wr W4 g_a0
  have sf_a0 := Safe.wr W4 sfw CR.1 sf_a0
  have CR := CR.trans (CHr.wr W4 sfw CR.1)
  have E_a0 := E_a0.wr W4
  have F_coder_a0 := F_coder_a0.other W4 (Or.inr (slot_ne (Or.inr (hwi hw 5 rfl)) (Or.inr (hwi hw 4 rfl)) (by decide) (t := .byte) (t' := (.array .byte)) (by decide) (by decide)))
  have E_sl2 := E_sl2.wr W4
  have F_coder_sl2 := F_coder_sl2.other W4 (Or.inl (Ne.symm ne_a0_sl2))
  have F_value_sl2 := F_value_sl2.other W4 (Or.inl (Ne.symm ne_a0_sl2))
  have V_sb2 := V_sb2.other W4 (Ne.symm ne_a0_sb2)
  have N4 := Fr.snoc X4 N0 g_a0
  have Kp := Kp.wr W4 (Or.inl (by simp))
  have Zn := Nat.le_trans Zn (Nat.le_of_eq W4.size.symm)
  have hk := Nat.le_trans hk (Nat.le_of_eq W4.size.symm)
  refine Run.st (S' := T4.setTop (mkF m 18 #[.val (.ref a0), .val (.ref a1), .val (.int p2), .val (.int p3), .val .null, .unset] [(.ref a0)])) (fun _ k => st4 _ (XS.aloadN X4.here hx rfl (hb hby d8_17) rfl rfl k)) ?_
  obtain ⟨sl5, T5, h5, kk5, sb5, kb5, X5, e5, E5, hS, hk, hZ, hown, E_sl5, F_coder_sl5, F_value_sl5, V_sb5, -, -, hC, -, hne5, st5⟩ := ldcCH X4 hx hZ hown (hwi hw 109 rfl) (own_wS hw) e4 hS hk (own_EW hw) (by decide) CR.1 (z := (Int32.ofNat own_lit0.length)) own_lit0_t (by decide) (by decide) (g := (mkF m 18 #[.val (.ref a0), .val (.ref a1), .val (.int p2), .val (.int p3), .val .null, .unset] [(.ref a0)])) rfl (hb hby d8_18) (n := 0) (by decide) (by decide) (by decide) (by decide)
  have sf_a0 := hC.safe E_a0.lt sf_a0
  have ne_a0_sl5 := (hne5 _ sf_a0).1
  have ne_a0_sb5 := (hne5 _ sf_a0).2
  have CR := CR.trans hC
  have E_a0 := E_a0.ext E5
  have F_value_a0 := F_value_a0.ext E5
  have F_coder_a0 := F_coder_a0.ext E5
  have E_sl2 := E_sl2.ext E5
  have F_coder_sl2 := F_coder_sl2.ext E5
  have F_value_sl2 := F_value_sl2.ext E5
  have V_sb2 := V_sb2.ext E5
  have OL := OL.ext E5
  have Zn := Nat.le_trans Zn E5.1
  have Kp := Kp.ext E5
  refine Run.st (S' := T5.setTop (mkF m 20 #[.val (.ref a0), .val (.ref a1), .val (.int p2), .val (.int p3), .val .null, .unset] [(.ref sl5), (.ref a0)])) (fun _ k => st5 _ k) ?_
  obtain ⟨T6, X6, e6, st6⟩ := getF X5 hx hZ hown (host := "") (Or.inl (hwi hw 25 rfl)) Via.refl e5 F_coder_sl5 (g := (mkF m 20 #[.val (.ref a0), .val (.ref a1), .val (.int p2), .val (.int p3), .val .null, .unset] [(.ref sl5), (.ref a0)])) rfl rfl (hb hby d8_20)
  refine Run.st (S' := T6.setTop (mkF m 23 #[.val (.ref a0), .val (.ref a1), .val (.int p2), .val (.int p3), .val .null, .unset] [(.int (0 : Int32)), (.ref a0)])) (fun _ k => st6 _ k) ?_
  have sfw := sf_a0
  obtain ⟨T7, h7, X7, e7, W7, st7⟩ := putFN X6 hx hZ hown (hwi hw 25 rfl) Via.refl e6 F_coder_a0 E_a0 (Or.inr ⟨(hwi hw 5 rfl), rfl, hnm⟩) (hwi hw 2 rfl) (ty := .byte) (v' := (.int (0 : Int32))) (by decide) (by rfl) (by rfl) (g := (mkF m 23 #[.val (.ref a0), .val (.ref a1), .val (.int p2), .val (.int p3), .val .null, .unset] [(.int (0 : Int32)), (.ref a0)])) rfl rfl (hb hby d8_23)
  have F_coder_a0 := F_coder_a0.same W7
  have OL := OL.wr W7 g_a0
  have sf_a0 := Safe.wr W7 sfw CR.1 sf_a0
  have CR := CR.trans (CHr.wr W7 sfw CR.1)
  have E_a0 := E_a0.wr W7
  have F_value_a0 := F_value_a0.other W7 (Or.inr (slot_ne (Or.inr (hwi hw 4 rfl)) (Or.inr (hwi hw 5 rfl)) (by decide) (t := (.array .byte)) (t' := .byte) (by decide) (by decide)))
  have E_sl2 := E_sl2.wr W7
  have F_coder_sl2 := F_coder_sl2.other W7 (Or.inl (Ne.symm ne_a0_sl2))
  have F_value_sl2 := F_value_sl2.other W7 (Or.inl (Ne.symm ne_a0_sl2))
  have V_sb2 := V_sb2.other W7 (Ne.symm ne_a0_sb2)
  have E_sl5 := E_sl5.wr W7
  have F_coder_sl5 := F_coder_sl5.other W7 (Or.inl (Ne.symm ne_a0_sl5))
  have F_value_sl5 := F_value_sl5.other W7 (Or.inl (Ne.symm ne_a0_sl5))
  have V_sb5 := V_sb5.other W7 (Ne.symm ne_a0_sb5)
  have N7 := Fr.snoc X7 N4 g_a0
  have Kp := Kp.wr W7 (Or.inl (by simp))
  have Zn := Nat.le_trans Zn (Nat.le_of_eq W7.size.symm)
  have hk := Nat.le_trans hk (Nat.le_of_eq W7.size.symm)
  refine Run.st (S' := T7.setTop (mkF m 26 #[.val (.ref a0), .val (.ref a1), .val (.int p2), .val (.int p3), .val .null, .unset] [])) (fun _ k => st7 _ k) ?_
  refine Run.outVW X7 hx hS (by rw [e7]; exact hk) (by rw [hh, e7]; exact CR.trans (CHv.at X7 hZ (own_EW hw) CR.1)) Bd.notSynchronized Bd.returns (hb hby d8_26) (by decide) (by decide) ?_
  rw [e7]
  exact ⟨rfl, N7, Kp, E_a0, F_coder_a0, sb2, kb2, F_value_a0, V_sb2⟩
theorem pd_7 : parseMethodDescriptor "([CIILjava/lang/Void;)V" = some ⟨[(.array .char), .int, .int, (.object "java/lang/Void")], none⟩ := by decide +kernel
theorem d7_0 : decode jdk_42_method_3_code 0 = .ok (.aload_n 0, 1) := by decide +kernel
theorem d7_1 : decode jdk_42_method_3_code 1 = .ok (.aload_n 1, 1) := by decide +kernel
theorem d7_2 : decode jdk_42_method_3_code 2 = .ok (.iconst 0, 1) := by decide +kernel
theorem d7_3 : decode jdk_42_method_3_code 3 = .ok (.aload_n 1, 1) := by decide +kernel
theorem d7_4 : decode jdk_42_method_3_code 4 = .ok (.arraylength, 1) := by decide +kernel
theorem d7_5 : decode jdk_42_method_3_code 5 = .ok (.aconst_null, 1) := by decide +kernel
theorem d7_6 : decode jdk_42_method_3_code 6 = .ok (.invokespecial 27, 3) := by decide +kernel
theorem d7_9 : decode jdk_42_method_3_code 9 = .ok (.return_, 1) := by decide +kernel
theorem ef_Ini1 (m : MethodId) (a0 : Addr) (a1 : Addr) : entryFrame m #[(.ref a0), (.ref a1)] 2 = mkF m 0 #[.val (.ref a0), .val (.ref a1)] [] := by first | (simp [entryFrame, mkF, argsToLocals, Value.category]; done) | rfl
def QIni1 (Z : State) (a0 : Addr) (a1 : Addr) (kc : ClassId) (cc : List Int32) (lc : Int32) (h0 : Heap) (n0 : Nat) (v : Option Value) (h : Heap) (L : List Loc) : Prop := own_QS Z a0 [] h0 n0 v h L
set_option maxRecDepth 65536 in
set_option maxHeartbeats 40000000 in
theorem rmIni1 (l : Launch) (Z : State) (aV : Array Value) (hw : ∀ d ∈ tables_1, d.before aV Z = true) (ws : List Jvm.Cond) (a0 : Addr) (a1 : Addr) (kc : ClassId) (cc : List Int32) (lc : Int32) (h0 : Heap) (n0 : Nat) (Zn : n0 ≤ h0.size) (OL : Old Z n0 h0) (g_a0 : n0 ≤ a0) (hlc : lc = (0 : Int32)) (ne_a0__a1 : a0 ≠ a1) (E_a0 : Exa Z h0 a0 "java/lang/String") (F_value_a0 : Fld Z h0 a0 "java/lang/String" "value" "[B" .null) (F_coder_a0 : Fld Z h0 a0 "java/lang/String" "coder" "B" (.int (0 : Int32))) (V_a1 : Arv Z h0 a1 kc .char lc (cc.map Value.int) (.int (0 : Int32))) :
    MetFree l (⟨"java/lang/String", "<init>", "([C)V"⟩ : MethodName) (head1 (Jvm.Cond.code (⟨"java/lang/String", "<init>", "([C)V"⟩ : MethodName) jdk_42_method_3_code 2 none :: ws) ({ frames := 2, cells := 4, slots := 8, locals := 29 } : Room)) (fun a U => a = #[(.ref a0), (.ref a1)] ∧ Z.Warmed39 U.vm ∧ U.heap = h0 ∧ CHv Z consts_1 U.vm h0) (fun _ _ _ _ _ => True) (fun _ U o U' => ∃ v L, o = .returned v ∧ QIni1 Z a0 a1 kc cc lc h0 n0 v U'.heap L ∧ CHr Z consts_1 U.vm U.heap U'.vm U'.heap ∧ ReturnedEndW U o U' L ({ frames := 2, cells := 4, slots := 8, locals := 29 } : Room).cells ({ frames := 2, cells := 4, slots := 8, locals := 29 } : Room).slots) := by
  refine MetFree.of_bodySF (plainFor_of_name pn_4) hisR ?_
  intro p e s m args below meth c s₁ Bd hml0 hP hK
  obtain ⟨rfl, hZ, hh, CH0⟩ := hP
  have hx := Bd.exec
  have hby := Bd.bytes
  have hml : c.maxLocals = 2 := hml0
  have hown : s.vm.findClass "java/lang/String" = some m.cls := findClass_of_methodNamed Bd.named
  have hnm := (name_of_methodNamed Bd.named Bd.method).1
  have X0 : Stand p l e ({ frames := 2, cells := 4, slots := 8, locals := 29 } : Room) s m #[(.ref a0), (.ref a1)] below meth c s₁ [] 0 0 := Stand.of_body Bd
  have e0 : s₁.heap = h0 := by rw [← hh, Bd.state]; rfl
  have N0 := Fr.nil n0
  have Kp := Keep.refl h0 [a0]
  have X0 : Stand p l e ({ frames := 2, cells := 4, slots := 8, locals := 29 } : Room) (s.setVm s.vm) m #[(.ref a0), (.ref a1)] below meth c s₁ [] 0 0 := X0
  have hS : s.Since s.vm 0 := (State.WarmedH.refl s).since 0
  have hk : 0 ≤ h0.size := Nat.zero_le _
  have CR := CHr.refl CH0
  have hZ : Z.Warmed39 (s.setVm s.vm).vm := hZ
  have hown : (s.setVm s.vm).vm.findClass "java/lang/String" = some m.cls := hown
  show Run p e below (EndsW Z s (QIni1 Z a0 a1 kc cc lc h0 n0) ({ frames := 2, cells := 4, slots := 8, locals := 29 } : Room).cells ({ frames := 2, cells := 4, slots := 8, locals := 29 } : Room).slots) _
  refine Run.st (S' := s₁.setTop (mkF m 0 #[.val (.ref a0), .val (.ref a1)] [])) (fun t k => castTop (ef_Ini1 m a0 a1) k) ?_
  refine Run.st (S' := s₁.setTop (mkF m 4 #[.val (.ref a0), .val (.ref a1)] [(.ref a1), (.int (0 : Int32)), (.ref a1), (.ref a0)])) (fun _ k => XS.aloadN X0.here hx rfl (hb hby d7_0) rfl rfl (XS.aloadN X0.here hx rfl (hb hby d7_1) rfl rfl (XS.iconst X0.here hx rfl (hb hby d7_2) (XS.aloadN X0.here hx rfl (hb hby d7_3) rfl rfl k)))) ?_
  obtain ⟨cl1, Ar1, -, Sa1, Na1, -, -⟩ := id V_a1
  refine Run.st (S' := s₁.setTop (mkF m 5 #[.val (.ref a0), .val (.ref a1)] [(.int lc), (.int (0 : Int32)), (.ref a1), (.ref a0)])) (fun _ k => X0.arraylength hx (by rw [e0]; exact Ar1.1) (State.isArrayOf_alike hZ.alike Ar1.2.1) (g := (mkF m 4 #[.val (.ref a0), .val (.ref a1)] [(.ref a1), (.int (0 : Int32)), (.ref a1), (.ref a0)])) rfl rfl (hb hby d7_4) _ (by rw [len_of Sa1 Na1]; exact k)) ?_
  refine Run.st (S' := s₁.setTop (mkF m 6 #[.val (.ref a0), .val (.ref a1)] [.null, (.int lc), (.int (0 : Int32)), (.ref a1), (.ref a0)])) (fun _ k => XS.aconstNull X0.here hx rfl (hb hby d7_5) k) ?_
  obtain ⟨_, _, ⟨T2, L2, k2, n2⟩, -, X2, S2, gr2, ⟨Lc2, hQ2, l2, y2, z2, hC⟩, st2⟩ := X0.specialBackS hx (y := (⟨"java/lang/String", "<init>", "([CIILjava/lang/Void;)V"⟩ : MethodName)) rfl hown (mvT hZ (hwi hw 43 rfl)) (mvT hZ (hwi hw 44 rfl)) (mvT hZ (hwi hw 46 rfl)) (by decide) (backOfSH (s := s) (vm0 := s.vm) (W := 0) (rmIni4 l Z aV hw [] a0 a1 (0 : Int32) lc h0 n0 Zn OL g_a0 hlc E_a0 F_value_a0 F_coder_a0) hZ (hwi hw 46 rfl) (hwi hw 1 rfl) (by decide) (by decide) (own_EW hw) CR.1) (g := (mkF m 6 #[.val (.ref a0), .val (.ref a1)] [.null, (.int lc), (.int (0 : Int32)), (.ref a1), (.ref a0)])) rfl (by rw [hml]; rfl) (Steps.refl _) (a := a0) (argsL := [(.ref a1), (.int (0 : Int32)), (.int lc), .null]) (rest := []) (lenOf pd_7 rfl) rfl (by show 2 * 0 + _ ≤ _; exact Nat.le_of_eq rfl) (hb hby d7_6) (fun _ _ => ⟨rfl, e0, (by decide : 0 + 4 ≤ _), (by decide : 0 + 8 ≤ _)⟩)
  dsimp only [Pt.U, Pt.locs, Pt.cells, Pt.slots] at X2 l2 y2 z2 st2 hQ2 S2 gr2 hC
  have hZ := State.Warmed39.trans hZ S2.1
  have hown : (s.setVm T2.vm).vm.findClass "java/lang/String" = some m.cls := by rw [show (s.setVm T2.vm).vm = T2.vm from rfl, S2.1.alike.findClass]; exact hown
  have hS := foldS hS (by rw [e0]; exact hk) S2 gr2
  have hk : T2.heap.size ≤ T2.heap.size := Nat.le_refl _
  have X2 : Stand p l e _ (s.setVm T2.vm) m _ below meth c T2 _ _ _ := X2
  have CR := CR.trans hC
  replace l2 := l2.symm; replace y2 := y2.symm; replace z2 := z2.symm; subst l2 y2 z2
  obtain ⟨rfl, N2q, K2, qE, qC, t2, kt2, qV, qK⟩ := hQ2
  have OL := OL.keep K2 (allS g_a0 all0)
  have V_a1 := V_a1.keep K2 (ninS (Ne.symm ne_a0__a1) nin0)
  have E_a0 := qE
  have F_coder_a0 := qC
  have F_value_a0 := qV
  have V_t2 := qK
  have Kp := Kp.trans K2 (allS (Or.inl (by simp)) all0)
  have Zn := Nat.le_trans Zn K2.1
  have N2 := Fr.app N0 N2q
  refine Run.st (S' := T2.setTop (mkF m 9 #[.val (.ref a0), .val (.ref a1)] [])) (fun _ k => st2.trans k) ?_
  refine Run.outVW X2 hx hS hk (by rw [hh]; exact CR.trans (CHv.at X2 hZ (own_EW hw) CR.1)) Bd.notSynchronized Bd.returns (hb hby d7_9) (by decide) (by decide) ?_
  exact ⟨rfl, N2, Kp, E_a0, F_coder_a0, t2, kt2, F_value_a0, V_t2⟩
theorem own_L1_nil : own_L1 ([] : List Int32) := ⟨by decide, by decide⟩
theorem pd_8 : parseMethodDescriptor "(Ljava/lang/String;)Ljava/util/Optional;" = some ⟨[(.object "java/lang/String")], some (.object "java/util/Optional")⟩ := by decide +kernel
theorem pd_9 : parseMethodDescriptor "(Ljava/lang/String;)Lcom/example/heading_kin/headingkin/io/RecordFormat;" = some ⟨[(.object "java/lang/String")], some (.object "com/example/heading_kin/headingkin/io/RecordFormat")⟩ := by decide +kernel
theorem pd_10 : parseMethodDescriptor "([C)V" = some ⟨[(.array .char)], none⟩ := by decide +kernel
theorem pd_11 : parseMethodDescriptor "(Ljava/lang/String;IICC)C" = some ⟨[(.object "java/lang/String"), .int, .int, .char, .char], some .char⟩ := by decide +kernel
theorem ef_0 (m : MethodId) (p0 : Int32) (p1 : Int32) (p2 : Int32) (p3 : Int32) : entryFrame m #[(.int p0), (.int p1), (.int p2), (.int p3)] maxLocals = mkF m 0 #[.val (.int p0), .val (.int p1), .val (.int p2), .val (.int p3), .unset, .unset, .unset, .unset, .unset, .unset, .unset] [] := by first | (simp [entryFrame, mkF, argsToLocals, Value.category, maxLocals]; done) | rfl
def Q0 (Z : State) (p0 : Int32) (p1 : Int32) (p2 : Int32) (p3 : Int32) (zc : Int32) (fm : Value) (vv : Addr) (kV : ClassId) (ri : Addr) (rm : Addr) (li : Addr) (tli : Addr) (kli : ClassId) (lm : Addr) (tlm : Addr) (klm : ClassId) (em : Addr) (h0 : Heap) (n0 : Nat) (v : Option Value) (h : Heap) (L : List Loc) : Prop := v = some (.int 1) ∧ Fr n0 L
set_option maxRecDepth 65536 in
set_option maxHeartbeats 40000000 in
theorem rm0 (l : Launch) (Z : State) (aV : Array Value) (hw : ∀ d ∈ tables_1, d.before aV Z = true) (ws : List Jvm.Cond) (p0 : Int32) (p1 : Int32) (p2 : Int32) (p3 : Int32) (zc : Int32) (fm : Value) (vv : Addr) (kV : ClassId) (ri : Addr) (rm : Addr) (li : Addr) (tli : Addr) (kli : ClassId) (lm : Addr) (tlm : Addr) (klm : ClassId) (em : Addr) (h0 : Heap) (n0 : Nat) (Zn : n0 ≤ h0.size) (OL : Old Z n0 h0) (hzc : ¬ zc = 0) (rfm : fm.isRef = true) (S_cs : Sta Z Z.heap "java/lang/String" "COMPACT_STRINGS" "Z" (.int zc)) (S_sf : Sta Z Z.heap "jdk/internal/util/Preconditions" "SIOOBE_FORMATTER" "Ljava/util/function/BiFunction;" fm) (S_vals : Sta Z Z.heap "com/example/heading_kin/headingkin/io/RecordFormat" "$VALUES" "[Lcom/example/heading_kin/headingkin/io/RecordFormat;" (.ref vv)) (V_vv : Arv Z Z.heap vv kV (.object "com/example/heading_kin/headingkin/io/RecordFormat") (2 : Int32) [(.ref ri), (.ref rm)] .null) (E_vv : Exa Z Z.heap vv "[Lcom/example/heading_kin/headingkin/io/RecordFormat;") (S_ri : Sta Z Z.heap "com/example/heading_kin/headingkin/io/RecordFormat" "ISO2709" "Lcom/example/heading_kin/headingkin/io/RecordFormat;" (.ref ri)) (S_rm : Sta Z Z.heap "com/example/heading_kin/headingkin/io/RecordFormat" "MARCXML" "Lcom/example/heading_kin/headingkin/io/RecordFormat;" (.ref rm)) (E_ri : Exa Z Z.heap ri "com/example/heading_kin/headingkin/io/RecordFormat") (E_rm : Exa Z Z.heap rm "com/example/heading_kin/headingkin/io/RecordFormat") (F_label_ri : Fld Z Z.heap ri "com/example/heading_kin/headingkin/io/RecordFormat" "label" "Ljava/lang/String;" (.ref li)) (E_li : Exa Z Z.heap li "java/lang/String") (F_coder_li : Fld Z Z.heap li "java/lang/String" "coder" "B" (.int (0 : Int32))) (F_value_li : Fld Z Z.heap li "java/lang/String" "value" "[B" (.ref tli)) (V_tli : Arv Z Z.heap tli kli .byte (Int32.ofNat own_lit2.length) ((own_bs own_lit2).map Value.int) (.int (0 : Int32))) (F_label_rm : Fld Z Z.heap rm "com/example/heading_kin/headingkin/io/RecordFormat" "label" "Ljava/lang/String;" (.ref lm)) (E_lm : Exa Z Z.heap lm "java/lang/String") (F_coder_lm : Fld Z Z.heap lm "java/lang/String" "coder" "B" (.int (0 : Int32))) (F_value_lm : Fld Z Z.heap lm "java/lang/String" "value" "[B" (.ref tlm)) (V_tlm : Arv Z Z.heap tlm klm .byte (Int32.ofNat own_lit1.length) ((own_bs own_lit1).map Value.int) (.int (0 : Int32))) (S_em : Sta Z Z.heap "java/util/Optional" "EMPTY" "Ljava/util/Optional;" (.ref em)) (E_em : Exa Z Z.heap em "java/util/Optional") (F_value_em : Fld Z Z.heap em "java/util/Optional" "value" "Ljava/lang/Object;" .null) :
    MetFree l x (head1 (Jvm.Cond.code x code maxLocals ret :: ws) room_1) (fun a U => a = #[(.int p0), (.int p1), (.int p2), (.int p3)] ∧ Z.Warmed39 U.vm ∧ U.heap = h0 ∧ CHv Z consts_1 U.vm h0) (fun _ _ _ _ _ => True) (fun _ U o U' => ∃ v L, o = .returned v ∧ Q0 Z p0 p1 p2 p3 zc fm vv kV ri rm li tli kli lm tlm klm em h0 n0 v U'.heap L ∧ CHr Z consts_1 U.vm U.heap U'.vm U'.heap ∧ ReturnedEndW U o U' L room_1.cells room_1.slots) := by
  refine MetFree.of_bodySF (plainFor_of_name pn_0) hisR ?_
  intro p e s m args below meth c s₁ Bd hml0 hP hK
  obtain ⟨rfl, hZ, hh, CH0⟩ := hP
  have hx := Bd.exec
  have hby := Bd.bytes
  have hml : c.maxLocals = 11 := hml0
  have hown : s.vm.findClass "com/example/heading_kin/headingkin/io/RecordFormatLabelledPinLaw" = some m.cls := findClass_of_methodNamed Bd.named
  have hnm := (name_of_methodNamed Bd.named Bd.method).1
  have X0 : Stand p l e room_1 s m #[(.int p0), (.int p1), (.int p2), (.int p3)] below meth c s₁ [] 0 0 := Stand.of_body Bd
  have e0 : s₁.heap = h0 := by rw [← hh, Bd.state]; rfl
  have N0 := Fr.nil n0
  have Kp := Keep.refl h0 []
  have X0 : Stand p l e room_1 (s.setVm s.vm) m #[(.int p0), (.int p1), (.int p2), (.int p3)] below meth c s₁ [] 0 0 := X0
  have hS : s.Since s.vm 0 := (State.WarmedH.refl s).since 0
  have hk : 0 ≤ h0.size := Nat.zero_le _
  have CR := CHr.refl CH0
  have hZ : Z.Warmed39 (s.setVm s.vm).vm := hZ
  have hown : (s.setVm s.vm).vm.findClass "com/example/heading_kin/headingkin/io/RecordFormatLabelledPinLaw" = some m.cls := hown
  show Run p e below (EndsW Z s (Q0 Z p0 p1 p2 p3 zc fm vv kV ri rm li tli kli lm tlm klm em h0 n0) room_1.cells room_1.slots) _
  refine Run.st (S' := s₁.setTop (mkF m 0 #[.val (.int p0), .val (.int p1), .val (.int p2), .val (.int p3), .unset, .unset, .unset, .unset, .unset, .unset, .unset] [])) (fun t k => castTop (ef_0 m p0 p1 p2 p3) k) ?_
  refine Run.st (S' := s₁.setTop (mkF m 4 #[.val (.int p0), .val (.int p1), .val (.int p2), .val (.int p3), .unset, .unset, .unset, .unset, .unset, .unset, .unset] [(.int (3 : Int32)), (.int (p0 &&& (3 : Int32)))])) (fun _ k => XS.iloadN X0.here hx rfl (hb hby at_0) rfl (XS.iconst X0.here hx rfl (hb hby at_1) (XS.iand X0.here hx rfl (hb hby at_2) rfl (XS.iconst X0.here hx rfl (hb hby at_3) k)))) ?_
  by_cases hc4_1 : (p0 &&& (3 : Int32)) = (3 : Int32)
  · refine Run.st (S' := s₁.setTop (mkF m 300 #[.val (.int p0), .val (.int p1), .val (.int p2), .val (.int p3), .val .null, .unset, .unset, .unset, .unset, .unset, .unset] [.null])) (fun _ k => XS.icmpNo X0.here hx rfl (hb hby at_4) rfl (teq hc4_1).2 (XS.aconstNull X0.here hx rfl (hb hby at_7) (XS.astore X0.here hx rfl (hb hby at_8) rfl rfl (l' := #[.val (.int p0), .val (.int p1), .val (.int p2), .val (.int p3), .val .null, .unset, .unset, .unset, .unset, .unset, .unset]) rfl (XS.goto X0.here hx rfl (pc0 := 10) (pc' := 298) rfl (hb hby at_10) (by decide) (by decide) (XS.aload X0.here hx rfl (hb hby at_298) rfl rfl k))))) ?_
    obtain ⟨_, _, ⟨T2, L2, k2, n2⟩, -, X2, ⟨Lc2, hQ2, l2, y2, z2⟩, st2⟩ := Jvm.LawKit.callS X0 hx (y := (⟨"com/example/heading_kin/headingkin/io/RecordFormat", "labelled", "(Ljava/lang/String;)Ljava/util/Optional;"⟩ : MethodName)) hown (mvT hZ (hwi hw 60 rfl)) (mvT hZ (hwi hw 61 rfl)) (mvT hZ (hwi hw 62 rfl)) (mvT hZ (hwi hw 63 rfl)) (by decide) (backOf (W := 0) (rmLabN l Z aV hw [] vv kV ri rm li tli kli lm tlm klm em h0 n0 Zn OL S_vals V_vv E_vv E_ri E_rm F_label_ri E_li F_coder_li F_value_li V_tli F_label_rm E_lm F_coder_lm F_value_lm V_tlm S_em E_em F_value_em) hZ (hwi hw 63 rfl) (hwi hw 62 rfl) (by decide) (by decide)) (g := (mkF m 300 #[.val (.int p0), .val (.int p1), .val (.int p2), .val (.int p3), .val .null, .unset, .unset, .unset, .unset, .unset, .unset] [.null])) rfl (by rw [hml]; rfl) (argsL := [.null]) (rest := []) (lenOf pd_8 rfl) rfl (by show 2 * 0 + _ ≤ _; exact Nat.le_of_eq rfl) (hb hby at_300) (fun _ _ => ⟨rfl, e0, (by decide : 0 + 1 ≤ _), (by decide : 0 + 2 ≤ _)⟩)
    dsimp only [Pt.U, Pt.locs, Pt.cells, Pt.slots] at X2 l2 y2 z2 st2 hQ2
    replace l2 := l2.symm; replace y2 := y2.symm; replace z2 := z2.symm; subst l2 y2 z2
    obtain ⟨o2, rfl, N2q, K2, qE2, qV2⟩ := hQ2
    have sfa : ∀ x ∈ [], Safe Z consts_1 s.vm h0 x := all0
    have CR := CR.trans (CHr.keep K2 sfa CR.1)
    have OL := OL.keep K2 all0
    have E_o2 := qE2
    have F_value_o2 := qV2
    have Kp := Kp.trans K2 all0
    have Zn := Nat.le_trans Zn K2.1
    have hk := Nat.le_trans hk K2.1
    have N2 := Fr.app N0 N2q
    refine Run.st (S' := T2.setTop (mkF m 308 #[.val (.int p0), .val (.int p1), .val (.int p2), .val (.int p3), .val .null, .val (.ref o2), .unset, .unset, .unset, .unset, .unset] [.null, (.ref o2)])) (fun _ k => st2 _ (XS.astore X2.here hx rfl (hb hby at_303) rfl rfl (l' := #[.val (.int p0), .val (.int p1), .val (.int p2), .val (.int p3), .val .null, .val (.ref o2), .unset, .unset, .unset, .unset, .unset]) rfl (XS.aload X2.here hx rfl (hb hby at_305) rfl rfl (XS.aconstNull X2.here hx rfl (hb hby at_307) k)))) ?_
    obtain ⟨cq3, kq3, q3a, q3b, q3c⟩ := isOf hZ rfl E_o2
    obtain ⟨_, _, ⟨T3, L3, k3, n3⟩, -, X3, ⟨Lc3, hQ3, l3, y3, z3⟩, st3⟩ := X2.virtualBack hx (y := (⟨"java/util/Optional", "orElse", "(Ljava/lang/Object;)Ljava/lang/Object;"⟩ : MethodName)) (z := (⟨"java/util/Optional", "orElse", "(Ljava/lang/Object;)Ljava/lang/Object;"⟩ : MethodName)) hown (mvT hZ (hwi hw 97 rfl)) (mvT hZ (hwi hw 98 rfl)) (notFace_of_selects (args := #[]) (mvT hZ (hwi hw 100 rfl))) (mvT hZ (hwi hw 100 rfl)) (mvT hZ (hwi hw 99 rfl)) (by decide) (backOf (W := 0) (rmOrE l Z aV hw [] o2 .null T2.heap n0 Zn OL rfl F_value_o2) hZ (hwi hw 101 rfl) (hwi hw 94 rfl) (by decide) (by decide)) q3a q3c (g := (mkF m 308 #[.val (.int p0), .val (.int p1), .val (.int p2), .val (.int p3), .val .null, .val (.ref o2), .unset, .unset, .unset, .unset, .unset] [.null, (.ref o2)])) rfl (by rw [hml]; rfl) (Steps.refl _) (argsL := [.null]) (rest := []) (lenOf pd_1 rfl) rfl (by show 2 * 0 + _ ≤ _; exact Nat.le_of_eq rfl) (hb hby at_308) (fun _ _ => ⟨rfl, rfl, (by decide : 1 + 0 ≤ _), (by decide : 2 + 0 ≤ _)⟩)
    dsimp only [Pt.U, Pt.locs, Pt.cells, Pt.slots] at X3 l3 y3 z3 st3 hQ3
    replace l3 := l3.symm; replace y3 := y3.symm; replace z3 := z3.symm; subst l3 y3 z3
    obtain ⟨rfl, N3q, e3⟩ := hQ3
    have N3 := Fr.app N2 N3q
    refine Run.st (S' := T3.setTop (mkF m 320 #[.val (.int p0), .val (.int p1), .val (.int p2), .val (.int p3), .val .null, .val (.ref o2), .val .null, .unset, .unset, .unset, .unset] [.null, .null])) (fun _ k => st3.trans (X3.checkcastNull hx (g := (mkF m 311 #[.val (.int p0), .val (.int p1), .val (.int p2), .val (.int p3), .val .null, .val (.ref o2), .unset, .unset, .unset, .unset, .unset] [.null])) rfl rfl (hb hby at_311) _ (XS.astore X3.here hx rfl (hb hby at_314) rfl rfl (l' := #[.val (.int p0), .val (.int p1), .val (.int p2), .val (.int p3), .val .null, .val (.ref o2), .val .null, .unset, .unset, .unset, .unset]) rfl (XS.aload X3.here hx rfl (hb hby at_316) rfl rfl (XS.aload X3.here hx rfl (hb hby at_318) rfl rfl k))))) ?_
    obtain ⟨_, _, ⟨T5, L5, k5, n5⟩, -, X5, ⟨Lc5, hQ5, l5, y5, z5⟩, st5⟩ := Jvm.LawKit.callS X3 hx (y := (⟨"com/example/heading_kin/headingkin/io/RecordFormatLabelledPinLaw", "expectedFor", "(Ljava/lang/String;)Lcom/example/heading_kin/headingkin/io/RecordFormat;"⟩ : MethodName)) hown (mvT hZ (hwi hw 104 rfl)) (mvT hZ (hwi hw 105 rfl)) (mvT hZ (hwi hw 12 rfl)) (mvT hZ (hwi hw 106 rfl)) (by decide) (backOf (W := 1) (rmExpN l Z aV hw []  T2.heap n0 Zn ) hZ (hwi hw 106 rfl) (hwi hw 12 rfl) (by decide) (by decide)) (g := (mkF m 320 #[.val (.int p0), .val (.int p1), .val (.int p2), .val (.int p3), .val .null, .val (.ref o2), .val .null, .unset, .unset, .unset, .unset] [.null, .null])) rfl (by rw [hml]; rfl) (argsL := [.null]) (rest := [.null]) (lenOf pd_9 rfl) rfl (by show 2 * 0 + _ ≤ _; exact Nat.le_of_eq rfl) (hb hby at_320) (fun _ _ => ⟨rfl, e3, (by decide : 1 + 0 ≤ _), (by decide : 2 + 0 ≤ _)⟩)
    dsimp only [Pt.U, Pt.locs, Pt.cells, Pt.slots] at X5 l5 y5 z5 st5 hQ5
    replace l5 := l5.symm; replace y5 := y5.symm; replace z5 := z5.symm; subst l5 y5 z5
    obtain ⟨rfl, N5q, e5⟩ := hQ5
    have N5 := Fr.app N3 N5q
    refine Run.st (S' := T5.setTop (mkF m 331 #[.val (.int p0), .val (.int p1), .val (.int p2), .val (.int p3), .val .null, .val (.ref o2), .val .null, .unset, .unset, .unset, .unset] [(.int (1 : Int32))])) (fun _ k => st5 _ (Jvm.RoadKit.acmp (g := (mkF m 323 #[.val (.int p0), .val (.int p1), .val (.int p2), .val (.int p3), .val .null, .val (.ref o2), .val .null, .unset, .unset, .unset, .unset] [.null, .null])) X5 hx rfl rfl rfl (pc0 := 323) (pc' := 326) (same := true) rfl (hb hby at_323) rfl (decide_eq_true rfl) (by decide) (by decide) (XS.iconst X5.here hx rfl (hb hby at_326) (XS.goto X5.here hx rfl (pc0 := 327) (pc' := 331) rfl (hb hby at_327) (by decide) (by decide) k)))) ?_
    refine Run.outW X5 hx hS (by rw [e5]; exact hk) (by rw [hh, e5]; exact CR.trans (CHv.at X5 hZ (own_EW hw) CR.1)) Bd.notSynchronized Bd.returns rfl (Or.inl ⟨rfl, by simp, _, rfl⟩) (hb hby at_331) (by decide) (by decide) ?_
    rw [e5]
    exact ⟨rfl, N5⟩
  · refine Run.st (S' := s₁.setTop (mkF m 13 #[.val (.int p0), .val (.int p1), .val (.int p2), .val (.int p3), .unset, .unset, .unset, .unset, .unset, .unset, .unset] [])) (fun _ k => XS.icmpYes X0.here hx rfl (pc0 := 4) (pc' := 13) rfl (hb hby at_4) rfl (feq hc4_1).2 (by decide) (by decide) k) ?_
    have JH6 : ∀ (bb : Addr) (tb : Addr) (kb : ClassId) (cb : List Int32) (Tl6 : State) (Hl6 : Heap) (gl : GoodW p l e room_1 s m #[(.int p0), (.int p1), (.int p2), (.int p3)] below meth c n0 2 32 "com/example/heading_kin/headingkin/io/RecordFormatLabelledPinLaw" Z h0 Hl6 Tl6) (Zn : n0 ≤ Hl6.size) (Kp : Keep h0 Hl6 []) (OL : Old Z n0 Hl6) (E_bb : Exa Z Hl6 bb "java/lang/String") (F_coder_bb : Fld Z Hl6 bb "java/lang/String" "coder" "B" (.int (0 : Int32))) (F_value_bb : Fld Z Hl6 bb "java/lang/String" "value" "[B" (.ref tb)) (V_tb : Arv Z Hl6 tb kb .byte (Int32.ofNat cb.length) ((own_bs cb).map Value.int) (.int (0 : Int32))), own_L1 cb ∧ cb.length = 7 → Run p e below (EndsW Z s (Q0 Z p0 p1 p2 p3 zc fm vv kV ri rm li tli kli lm tlm klm em h0 n0) room_1.cells room_1.slots) (Tl6.setTop (mkF m 28 #[.val (.int p0), .val (.int p1), .val (.int p2), .val (.int p3), .unset, .val (.ref bb), .unset, .unset, .unset, .unset, .unset] [])) := by
      intro bb tb kb cb Tl6 Hl6 gl Zn Kp OL E_bb F_coder_bb F_value_bb V_tb hyJ
      obtain ⟨vmJ6, kJ6, lcs6, Xl6, Nl6, El6, hS, hk, hZ, hown, CR⟩ := gl
      have hyB := hyJ
      refine Run.st (S' := Tl6.setTop (mkF m 37 #[.val (.int p0), .val (.int p1), .val (.int p2), .val (.int p3), .unset, .val (.ref bb), .val (.int ((p3 &&& (2147483647 : Int32)) % (10 : Int32))), .unset, .unset, .unset, .unset] [])) (fun _ k => XS.iloadN Xl6.here hx rfl (hb hby at_28) rfl (Xl6.ldcInt hx hown (mvT hZ (hwi hw 8 rfl)) (g := (mkF m 29 #[.val (.int p0), .val (.int p1), .val (.int p2), .val (.int p3), .unset, .val (.ref bb), .unset, .unset, .unset, .unset, .unset] [(.int p3)])) rfl (hb hby at_29) _ (XS.iand Xl6.here hx rfl (hb hby at_31) rfl (XS.bipush Xl6.here hx rfl (hb hby at_32) (iremM Xl6 hx rfl (hb hby at_34) rfl (by decide) (XS.istore Xl6.here hx rfl (hb hby at_35) rfl (l' := #[.val (.int p0), .val (.int p1), .val (.int p2), .val (.int p3), .unset, .val (.ref bb), .val (.int ((p3 &&& (2147483647 : Int32)) % (10 : Int32))), .unset, .unset, .unset, .unset]) rfl k)))))) ?_
      have hnn : 0 ≤ (((p3 &&& (2147483647 : Int32)) % (10 : Int32))).toInt ∧ (((p3 &&& (2147483647 : Int32)) % (10 : Int32))).toInt < 10 := (by have := rng32 ((p3 &&& (2147483647 : Int32)) % (10 : Int32)); have := c_irem (p3 &&& (2147483647 : Int32)) (10 : Int32) 10 (by decide); have := rng32 (p3 &&& (2147483647 : Int32)); have := c_mask p3 (2147483647 : Int32) 31 (by decide) (by decide); have := rng32 p3; (try simp only [Int32.lt_iff_toInt_lt, Int64.lt_iff_toInt_lt, Int32.le_iff_toInt_le, Int64.le_iff_toInt_le, ← Int32.toInt_inj, ← Int64.toInt_inj] at  ⊢); omega)
      generalize enn : ((p3 &&& (2147483647 : Int32)) % (10 : Int32)) = nn at hnn ⊢
      have J56_7 : ∀ (pp : Int32), True → Run p e below (EndsW Z s (Q0 Z p0 p1 p2 p3 zc fm vv kV ri rm li tli kli lm tlm klm em h0 n0) room_1.cells room_1.slots) (Tl6.setTop (mkF m 56 #[.val (.int p0), .val (.int p1), .val (.int p2), .val (.int p3), .unset, .val (.ref bb), .val (.int nn), .val (.int pp), .unset, .unset, .unset] [])) := by
        intro pp h_pp
        refine Run.st (S' := Tl6.setTop (mkF m 64 #[.val (.int p0), .val (.int p1), .val (.int p2), .val (.int p3), .unset, .val (.ref bb), .val (.int nn), .val (.int pp), .val (.int ((p2 &&& (255 : Int32)).toUInt32.toUInt16.toUInt32.toInt32)), .unset, .unset] [])) (fun _ k => XS.iloadN Xl6.here hx rfl (hb hby at_56) rfl (XS.sipush Xl6.here hx rfl (hb hby at_57) (XS.iand Xl6.here hx rfl (hb hby at_60) rfl (XS.i2c Xl6.here hx rfl (hb hby at_61) rfl (XS.istore Xl6.here hx rfl (hb hby at_62) rfl (l' := #[.val (.int p0), .val (.int p1), .val (.int p2), .val (.int p3), .unset, .val (.ref bb), .val (.int nn), .val (.int pp), .val (.int ((p2 &&& (255 : Int32)).toUInt32.toUInt16.toUInt32.toInt32)), .unset, .unset]) rfl k))))) ?_
        have hcc : 0 ≤ (((p2 &&& (255 : Int32)).toUInt32.toUInt16.toUInt32.toInt32)).toInt ∧ (((p2 &&& (255 : Int32)).toUInt32.toUInt16.toUInt32.toInt32)).toInt < 256 := (by have := rng32 ((p2 &&& (255 : Int32)).toUInt32.toUInt16.toUInt32.toInt32); have := c_i2c (p2 &&& (255 : Int32)); have := rng32 (p2 &&& (255 : Int32)); have := c_mask p2 (255 : Int32) 8 (by decide) (by decide); have := rng32 p2; (try simp only [Int32.lt_iff_toInt_lt, Int64.lt_iff_toInt_lt, Int32.le_iff_toInt_le, Int64.le_iff_toInt_le, ← Int32.toInt_inj, ← Int64.toInt_inj] at  ⊢); omega)
        generalize ecc : ((p2 &&& (255 : Int32)).toUInt32.toUInt16.toUInt32.toInt32) = cc at hcc ⊢
        refine Run.st (S' := Tl6.setTop (mkF m 75 #[.val (.int p0), .val (.int p1), .val (.int p2), .val (.int p3), .unset, .val (.ref bb), .val (.int nn), .val (.int pp), .val (.int cc), .val (.int ((((p2.toUInt32 >>> ((8 : Int32) &&& 31).toUInt32).toInt32) &&& (255 : Int32)).toUInt32.toUInt16.toUInt32.toInt32)), .unset] [])) (fun _ k => XS.iloadN Xl6.here hx rfl (hb hby at_64) rfl (XS.bipush Xl6.here hx rfl (hb hby at_65) (XS.iushr Xl6.here hx rfl (hb hby at_67) rfl (XS.sipush Xl6.here hx rfl (hb hby at_68) (XS.iand Xl6.here hx rfl (hb hby at_71) rfl (XS.i2c Xl6.here hx rfl (hb hby at_72) rfl (XS.istore Xl6.here hx rfl (hb hby at_73) rfl (l' := #[.val (.int p0), .val (.int p1), .val (.int p2), .val (.int p3), .unset, .val (.ref bb), .val (.int nn), .val (.int pp), .val (.int cc), .val (.int ((((p2.toUInt32 >>> ((8 : Int32) &&& 31).toUInt32).toInt32) &&& (255 : Int32)).toUInt32.toUInt16.toUInt32.toInt32)), .unset]) rfl k))))))) ?_
        have hxx : 0 ≤ (((((p2.toUInt32 >>> ((8 : Int32) &&& 31).toUInt32).toInt32) &&& (255 : Int32)).toUInt32.toUInt16.toUInt32.toInt32)).toInt ∧ (((((p2.toUInt32 >>> ((8 : Int32) &&& 31).toUInt32).toInt32) &&& (255 : Int32)).toUInt32.toUInt16.toUInt32.toInt32)).toInt < 256 := (by have := rng32 ((((p2.toUInt32 >>> ((8 : Int32) &&& 31).toUInt32).toInt32) &&& (255 : Int32)).toUInt32.toUInt16.toUInt32.toInt32); have := c_i2c (((p2.toUInt32 >>> ((8 : Int32) &&& 31).toUInt32).toInt32) &&& (255 : Int32)); have := rng32 (((p2.toUInt32 >>> ((8 : Int32) &&& 31).toUInt32).toInt32) &&& (255 : Int32)); have := c_mask ((p2.toUInt32 >>> ((8 : Int32) &&& 31).toUInt32).toInt32) (255 : Int32) 8 (by decide) (by decide); have := rng32 ((p2.toUInt32 >>> ((8 : Int32) &&& 31).toUInt32).toInt32); have := c_iushr p2 (8 : Int32) 8 (by decide) (by decide); have := rng32 p2; (try simp only [Int32.lt_iff_toInt_lt, Int64.lt_iff_toInt_lt, Int32.le_iff_toInt_le, Int64.le_iff_toInt_le, ← Int32.toInt_inj, ← Int64.toInt_inj] at  ⊢); omega)
        generalize exx : ((((p2.toUInt32 >>> ((8 : Int32) &&& 31).toUInt32).toInt32) &&& (255 : Int32)).toUInt32.toUInt16.toUInt32.toInt32) = xx at hxx ⊢
        refine Run.st (S' := Tl6.setTop (mkF m 77 #[.val (.int p0), .val (.int p1), .val (.int p2), .val (.int p3), .unset, .val (.ref bb), .val (.int nn), .val (.int pp), .val (.int cc), .val (.int xx), .unset] [(.int nn)])) (fun _ k => XS.iload Xl6.here hx rfl (hb hby at_75) rfl k) ?_
        obtain ⟨T8, h8, k8, X8, e8, E8, A8, st8⟩ := newP Xl6 hx hZ (hwi hw 9 rfl) El6 (g := (mkF m 77 #[.val (.int p0), .val (.int p1), .val (.int p2), .val (.int p3), .unset, .val (.ref bb), .val (.int nn), .val (.int pp), .val (.int cc), .val (.int xx), .unset] [(.int nn)])) rfl (hb hby at_77) rfl (own_nn hnn.1) (cap := 9) (own_cap (c := 9) (by have := hnn; omega)) (by decide) (by decide) (by decide)
        obtain ⟨b8, g8⟩ : ∃ z, z = Hl6.size := ⟨_, rfl⟩
        rw [← g8] at A8 st8
        have ne_bb_b8 : bb ≠ b8 := Nat.ne_of_lt (Nat.lt_of_lt_of_le E_bb.lt (Nat.le_of_eq g8.symm))
        have ne_tb_b8 : tb ≠ b8 := Nat.ne_of_lt (Nat.lt_of_lt_of_le V_tb.lt (Nat.le_of_eq g8.symm))
        have CR := CR.trans (CHr.ext E8 CR.1)
        have E_bb := E_bb.ext E8
        have F_coder_bb := F_coder_bb.ext E8
        have F_value_bb := F_value_bb.ext E8
        have V_tb := V_tb.ext E8
        have OL := OL.ext E8
        have g_b8 : n0 ≤ b8 := Nat.le_trans Zn (Nat.le_of_eq g8.symm)
        have Zn := Nat.le_trans Zn E8.1
        have hk := Nat.le_trans hk E8.1
        have sz_b8 : h0.size ≤ b8 := Nat.le_trans Kp.1 (Nat.le_of_eq g8.symm)
        have Kp := Kp.ext E8
        have V_b8 : Arv Z h8 b8 k8 .char nn [] (.int (0 : Int32)) := Arv.new A8 (own_nn hnn.1)
        refine Run.st (S' := T8.setTop (mkF m 79 #[.val (.int p0), .val (.int p1), .val (.int p2), .val (.int p3), .unset, .val (.ref bb), .val (.int nn), .val (.int pp), .val (.int cc), .val (.int xx), .unset] [(.ref b8)])) (fun _ k => st8 _ k) ?_
        have V_b8 := own_rep V_b8
        refine Run.st (S' := T8.setTop (mkF m 81 #[.val (.int p0), .val (.int p1), .val (.int p2), .val (.int p3), .unset, .val (.ref bb), .val (.int nn), .val (.int pp), .val (.int cc), .val (.int xx), .val (.ref b8)] [])) (fun _ k => XS.astore X8.here hx rfl (hb hby at_79) rfl rfl (l' := #[.val (.int p0), .val (.int p1), .val (.int p2), .val (.int p3), .unset, .val (.ref bb), .val (.int nn), .val (.int pp), .val (.int cc), .val (.int xx), .val (.ref b8)]) rfl k) ?_
        have hyJ : (∀ c ∈ (List.replicate nn.toNatClampNeg (0 : Int32)), ¬ c < 0 ∧ ¬ (255 : Int32) < c) ∧ (List.replicate nn.toNatClampNeg (0 : Int32)).length = nn.toNatClampNeg := ⟨own_repL _, List.length_replicate⟩
        have JH9 : ∀ (c1 : List Int32) (Tl9 : State) (Hl9 : Heap) (gl : GoodW p l e room_1 s m #[(.int p0), (.int p1), (.int p2), (.int p3)] below meth c n0 3 41 "com/example/heading_kin/headingkin/io/RecordFormatLabelledPinLaw" Z h0 Hl9 Tl9) (Zn : n0 ≤ Hl9.size) (Kp : Keep h0 Hl9 []) (OL : Old Z n0 Hl9) (E_bb : Exa Z Hl9 bb "java/lang/String") (F_coder_bb : Fld Z Hl9 bb "java/lang/String" "coder" "B" (.int (0 : Int32))) (F_value_bb : Fld Z Hl9 bb "java/lang/String" "value" "[B" (.ref tb)) (V_tb : Arv Z Hl9 tb kb .byte (Int32.ofNat cb.length) ((own_bs cb).map Value.int) (.int (0 : Int32))) (V_b8 : Arv Z Hl9 b8 k8 .char nn (c1.map Value.int) (.int (0 : Int32))), (∀ c ∈ c1, ¬ c < 0 ∧ ¬ (255 : Int32) < c) ∧ c1.length = nn.toNatClampNeg → Run p e below (EndsW Z s (Q0 Z p0 p1 p2 p3 zc fm vv kV ri rm li tli kli lm tlm klm em h0 n0) room_1.cells room_1.slots) (Tl9.setTop (mkF m 102 #[.val (.int p0), .val (.int p1), .val (.int p2), .val (.int p3), .unset, .val (.ref bb), .val (.int nn), .val (.int pp), .val (.int cc), .val (.int xx), .val (.ref b8)] [])) := by
          intro c1 Tl9 Hl9 gl Zn Kp OL E_bb F_coder_bb F_value_bb V_tb V_b8 hyJ
          obtain ⟨vmJ9, kJ9, lcs9, Xl9, Nl9, El9, hS, hk, hZ, hown, CR⟩ := gl
          have JH10 : ∀ (c2 : List Int32) (Tl10 : State) (Hl10 : Heap) (gl : GoodW p l e room_1 s m #[(.int p0), (.int p1), (.int p2), (.int p3)] below meth c n0 3 41 "com/example/heading_kin/headingkin/io/RecordFormatLabelledPinLaw" Z h0 Hl10 Tl10) (Zn : n0 ≤ Hl10.size) (Kp : Keep h0 Hl10 []) (OL : Old Z n0 Hl10) (E_bb : Exa Z Hl10 bb "java/lang/String") (F_coder_bb : Fld Z Hl10 bb "java/lang/String" "coder" "B" (.int (0 : Int32))) (F_value_bb : Fld Z Hl10 bb "java/lang/String" "value" "[B" (.ref tb)) (V_tb : Arv Z Hl10 tb kb .byte (Int32.ofNat cb.length) ((own_bs cb).map Value.int) (.int (0 : Int32))) (V_b8 : Arv Z Hl10 b8 k8 .char nn (c2.map Value.int) (.int (0 : Int32))), (∀ c ∈ c2, ¬ c < 0 ∧ ¬ (255 : Int32) < c) ∧ c2.length = nn.toNatClampNeg → Run p e below (EndsW Z s (Q0 Z p0 p1 p2 p3 zc fm vv kV ri rm li tli kli lm tlm klm em h0 n0) room_1.cells room_1.slots) (Tl10.setTop (mkF m 124 #[.val (.int p0), .val (.int p1), .val (.int p2), .val (.int p3), .unset, .val (.ref bb), .val (.int nn), .val (.int pp), .val (.int cc), .val (.int xx), .val (.ref b8)] [])) := by
            intro c2 Tl10 Hl10 gl Zn Kp OL E_bb F_coder_bb F_value_bb V_tb V_b8 hyJ
            obtain ⟨vmJ10, kJ10, lcs10, Xl10, Nl10, El10, hS, hk, hZ, hown, CR⟩ := gl
            have JH11 : ∀ (c3 : List Int32) (Tl11 : State) (Hl11 : Heap) (gl : GoodW p l e room_1 s m #[(.int p0), (.int p1), (.int p2), (.int p3)] below meth c n0 3 41 "com/example/heading_kin/headingkin/io/RecordFormatLabelledPinLaw" Z h0 Hl11 Tl11) (Zn : n0 ≤ Hl11.size) (Kp : Keep h0 Hl11 []) (OL : Old Z n0 Hl11) (E_bb : Exa Z Hl11 bb "java/lang/String") (F_coder_bb : Fld Z Hl11 bb "java/lang/String" "coder" "B" (.int (0 : Int32))) (F_value_bb : Fld Z Hl11 bb "java/lang/String" "value" "[B" (.ref tb)) (V_tb : Arv Z Hl11 tb kb .byte (Int32.ofNat cb.length) ((own_bs cb).map Value.int) (.int (0 : Int32))) (V_b8 : Arv Z Hl11 b8 k8 .char nn (c3.map Value.int) (.int (0 : Int32))), (∀ c ∈ c3, ¬ c < 0 ∧ ¬ (255 : Int32) < c) ∧ c3.length = nn.toNatClampNeg → Run p e below (EndsW Z s (Q0 Z p0 p1 p2 p3 zc fm vv kV ri rm li tli kli lm tlm klm em h0 n0) room_1.cells room_1.slots) (Tl11.setTop (mkF m 146 #[.val (.int p0), .val (.int p1), .val (.int p2), .val (.int p3), .unset, .val (.ref bb), .val (.int nn), .val (.int pp), .val (.int cc), .val (.int xx), .val (.ref b8)] [])) := by
              intro c3 Tl11 Hl11 gl Zn Kp OL E_bb F_coder_bb F_value_bb V_tb V_b8 hyJ
              obtain ⟨vmJ11, kJ11, lcs11, Xl11, Nl11, El11, hS, hk, hZ, hown, CR⟩ := gl
              have JH12 : ∀ (c4 : List Int32) (Tl12 : State) (Hl12 : Heap) (gl : GoodW p l e room_1 s m #[(.int p0), (.int p1), (.int p2), (.int p3)] below meth c n0 3 41 "com/example/heading_kin/headingkin/io/RecordFormatLabelledPinLaw" Z h0 Hl12 Tl12) (Zn : n0 ≤ Hl12.size) (Kp : Keep h0 Hl12 []) (OL : Old Z n0 Hl12) (E_bb : Exa Z Hl12 bb "java/lang/String") (F_coder_bb : Fld Z Hl12 bb "java/lang/String" "coder" "B" (.int (0 : Int32))) (F_value_bb : Fld Z Hl12 bb "java/lang/String" "value" "[B" (.ref tb)) (V_tb : Arv Z Hl12 tb kb .byte (Int32.ofNat cb.length) ((own_bs cb).map Value.int) (.int (0 : Int32))) (V_b8 : Arv Z Hl12 b8 k8 .char nn (c4.map Value.int) (.int (0 : Int32))), (∀ c ∈ c4, ¬ c < 0 ∧ ¬ (255 : Int32) < c) ∧ c4.length = nn.toNatClampNeg → Run p e below (EndsW Z s (Q0 Z p0 p1 p2 p3 zc fm vv kV ri rm li tli kli lm tlm klm em h0 n0) room_1.cells room_1.slots) (Tl12.setTop (mkF m 168 #[.val (.int p0), .val (.int p1), .val (.int p2), .val (.int p3), .unset, .val (.ref bb), .val (.int nn), .val (.int pp), .val (.int cc), .val (.int xx), .val (.ref b8)] [])) := by
                intro c4 Tl12 Hl12 gl Zn Kp OL E_bb F_coder_bb F_value_bb V_tb V_b8 hyJ
                obtain ⟨vmJ12, kJ12, lcs12, Xl12, Nl12, El12, hS, hk, hZ, hown, CR⟩ := gl
                have JH13 : ∀ (c5 : List Int32) (Tl13 : State) (Hl13 : Heap) (gl : GoodW p l e room_1 s m #[(.int p0), (.int p1), (.int p2), (.int p3)] below meth c n0 3 41 "com/example/heading_kin/headingkin/io/RecordFormatLabelledPinLaw" Z h0 Hl13 Tl13) (Zn : n0 ≤ Hl13.size) (Kp : Keep h0 Hl13 []) (OL : Old Z n0 Hl13) (E_bb : Exa Z Hl13 bb "java/lang/String") (F_coder_bb : Fld Z Hl13 bb "java/lang/String" "coder" "B" (.int (0 : Int32))) (F_value_bb : Fld Z Hl13 bb "java/lang/String" "value" "[B" (.ref tb)) (V_tb : Arv Z Hl13 tb kb .byte (Int32.ofNat cb.length) ((own_bs cb).map Value.int) (.int (0 : Int32))) (V_b8 : Arv Z Hl13 b8 k8 .char nn (c5.map Value.int) (.int (0 : Int32))), (∀ c ∈ c5, ¬ c < 0 ∧ ¬ (255 : Int32) < c) ∧ c5.length = nn.toNatClampNeg → Run p e below (EndsW Z s (Q0 Z p0 p1 p2 p3 zc fm vv kV ri rm li tli kli lm tlm klm em h0 n0) room_1.cells room_1.slots) (Tl13.setTop (mkF m 190 #[.val (.int p0), .val (.int p1), .val (.int p2), .val (.int p3), .unset, .val (.ref bb), .val (.int nn), .val (.int pp), .val (.int cc), .val (.int xx), .val (.ref b8)] [])) := by
                  intro c5 Tl13 Hl13 gl Zn Kp OL E_bb F_coder_bb F_value_bb V_tb V_b8 hyJ
                  obtain ⟨vmJ13, kJ13, lcs13, Xl13, Nl13, El13, hS, hk, hZ, hown, CR⟩ := gl
                  have JH14 : ∀ (c6 : List Int32) (Tl14 : State) (Hl14 : Heap) (gl : GoodW p l e room_1 s m #[(.int p0), (.int p1), (.int p2), (.int p3)] below meth c n0 3 41 "com/example/heading_kin/headingkin/io/RecordFormatLabelledPinLaw" Z h0 Hl14 Tl14) (Zn : n0 ≤ Hl14.size) (Kp : Keep h0 Hl14 []) (OL : Old Z n0 Hl14) (E_bb : Exa Z Hl14 bb "java/lang/String") (F_coder_bb : Fld Z Hl14 bb "java/lang/String" "coder" "B" (.int (0 : Int32))) (F_value_bb : Fld Z Hl14 bb "java/lang/String" "value" "[B" (.ref tb)) (V_tb : Arv Z Hl14 tb kb .byte (Int32.ofNat cb.length) ((own_bs cb).map Value.int) (.int (0 : Int32))) (V_b8 : Arv Z Hl14 b8 k8 .char nn (c6.map Value.int) (.int (0 : Int32))), (∀ c ∈ c6, ¬ c < 0 ∧ ¬ (255 : Int32) < c) ∧ c6.length = nn.toNatClampNeg → Run p e below (EndsW Z s (Q0 Z p0 p1 p2 p3 zc fm vv kV ri rm li tli kli lm tlm klm em h0 n0) room_1.cells room_1.slots) (Tl14.setTop (mkF m 212 #[.val (.int p0), .val (.int p1), .val (.int p2), .val (.int p3), .unset, .val (.ref bb), .val (.int nn), .val (.int pp), .val (.int cc), .val (.int xx), .val (.ref b8)] [])) := by
                    intro c6 Tl14 Hl14 gl Zn Kp OL E_bb F_coder_bb F_value_bb V_tb V_b8 hyJ
                    obtain ⟨vmJ14, kJ14, lcs14, Xl14, Nl14, El14, hS, hk, hZ, hown, CR⟩ := gl
                    have JH15 : ∀ (c7 : List Int32) (Tl15 : State) (Hl15 : Heap) (gl : GoodW p l e room_1 s m #[(.int p0), (.int p1), (.int p2), (.int p3)] below meth c n0 3 41 "com/example/heading_kin/headingkin/io/RecordFormatLabelledPinLaw" Z h0 Hl15 Tl15) (Zn : n0 ≤ Hl15.size) (Kp : Keep h0 Hl15 []) (OL : Old Z n0 Hl15) (E_bb : Exa Z Hl15 bb "java/lang/String") (F_coder_bb : Fld Z Hl15 bb "java/lang/String" "coder" "B" (.int (0 : Int32))) (F_value_bb : Fld Z Hl15 bb "java/lang/String" "value" "[B" (.ref tb)) (V_tb : Arv Z Hl15 tb kb .byte (Int32.ofNat cb.length) ((own_bs cb).map Value.int) (.int (0 : Int32))) (V_b8 : Arv Z Hl15 b8 k8 .char nn (c7.map Value.int) (.int (0 : Int32))), (∀ c ∈ c7, ¬ c < 0 ∧ ¬ (255 : Int32) < c) ∧ c7.length = nn.toNatClampNeg → Run p e below (EndsW Z s (Q0 Z p0 p1 p2 p3 zc fm vv kV ri rm li tli kli lm tlm klm em h0 n0) room_1.cells room_1.slots) (Tl15.setTop (mkF m 237 #[.val (.int p0), .val (.int p1), .val (.int p2), .val (.int p3), .unset, .val (.ref bb), .val (.int nn), .val (.int pp), .val (.int cc), .val (.int xx), .val (.ref b8)] [])) := by
                      intro c7 Tl15 Hl15 gl Zn Kp OL E_bb F_coder_bb F_value_bb V_tb V_b8 hyJ
                      obtain ⟨vmJ15, kJ15, lcs15, Xl15, Nl15, El15, hS, hk, hZ, hown, CR⟩ := gl
                      have JH16 : ∀ (c8 : List Int32) (Tl16 : State) (Hl16 : Heap) (gl : GoodW p l e room_1 s m #[(.int p0), (.int p1), (.int p2), (.int p3)] below meth c n0 3 41 "com/example/heading_kin/headingkin/io/RecordFormatLabelledPinLaw" Z h0 Hl16 Tl16) (Zn : n0 ≤ Hl16.size) (Kp : Keep h0 Hl16 []) (OL : Old Z n0 Hl16) (E_bb : Exa Z Hl16 bb "java/lang/String") (F_coder_bb : Fld Z Hl16 bb "java/lang/String" "coder" "B" (.int (0 : Int32))) (F_value_bb : Fld Z Hl16 bb "java/lang/String" "value" "[B" (.ref tb)) (V_tb : Arv Z Hl16 tb kb .byte (Int32.ofNat cb.length) ((own_bs cb).map Value.int) (.int (0 : Int32))) (V_b8 : Arv Z Hl16 b8 k8 .char nn (c8.map Value.int) (.int (0 : Int32))), (∀ c ∈ c8, ¬ c < 0 ∧ ¬ (255 : Int32) < c) ∧ c8.length = nn.toNatClampNeg → Run p e below (EndsW Z s (Q0 Z p0 p1 p2 p3 zc fm vv kV ri rm li tli kli lm tlm klm em h0 n0) room_1.cells room_1.slots) (Tl16.setTop (mkF m 262 #[.val (.int p0), .val (.int p1), .val (.int p2), .val (.int p3), .unset, .val (.ref bb), .val (.int nn), .val (.int pp), .val (.int cc), .val (.int xx), .val (.ref b8)] [])) := by
                        intro c8 Tl16 Hl16 gl Zn Kp OL E_bb F_coder_bb F_value_bb V_tb V_b8 hyJ
                        obtain ⟨vmJ16, kJ16, lcs16, Xl16, Nl16, El16, hS, hk, hZ, hown, CR⟩ := gl
                        have JH17 : ∀ (c9 : List Int32) (Tl17 : State) (Hl17 : Heap) (gl : GoodW p l e room_1 s m #[(.int p0), (.int p1), (.int p2), (.int p3)] below meth c n0 3 41 "com/example/heading_kin/headingkin/io/RecordFormatLabelledPinLaw" Z h0 Hl17 Tl17) (Zn : n0 ≤ Hl17.size) (Kp : Keep h0 Hl17 []) (OL : Old Z n0 Hl17) (E_bb : Exa Z Hl17 bb "java/lang/String") (F_coder_bb : Fld Z Hl17 bb "java/lang/String" "coder" "B" (.int (0 : Int32))) (F_value_bb : Fld Z Hl17 bb "java/lang/String" "value" "[B" (.ref tb)) (V_tb : Arv Z Hl17 tb kb .byte (Int32.ofNat cb.length) ((own_bs cb).map Value.int) (.int (0 : Int32))) (V_b8 : Arv Z Hl17 b8 k8 .char nn (c9.map Value.int) (.int (0 : Int32))), (∀ c ∈ c9, ¬ c < 0 ∧ ¬ (255 : Int32) < c) ∧ c9.length = nn.toNatClampNeg → Run p e below (EndsW Z s (Q0 Z p0 p1 p2 p3 zc fm vv kV ri rm li tli kli lm tlm klm em h0 n0) room_1.cells room_1.slots) (Tl17.setTop (mkF m 287 #[.val (.int p0), .val (.int p1), .val (.int p2), .val (.int p3), .unset, .val (.ref bb), .val (.int nn), .val (.int pp), .val (.int cc), .val (.int xx), .val (.ref b8)] [])) := by
                          intro c9 Tl17 Hl17 gl Zn Kp OL E_bb F_coder_bb F_value_bb V_tb V_b8 hyJ
                          obtain ⟨vmJ17, kJ17, lcs17, Xl17, Nl17, El17, hS, hk, hZ, hown, CR⟩ := gl
                          obtain ⟨T18, h18, X18, e18, E18, A18, D18, -, st18⟩ := newO Xl17 hx hZ hown (hwi hw 39 rfl) (hwi hw 2 rfl) (hwi hw 1 rfl) El17 (g := (mkF m 287 #[.val (.int p0), .val (.int p1), .val (.int p2), .val (.int p3), .unset, .val (.ref bb), .val (.int nn), .val (.int pp), .val (.int cc), .val (.int xx), .val (.ref b8)] [])) rfl (hb hby at_287) (by decide) (by decide)
                          obtain ⟨b18, g18⟩ : ∃ z, z = Hl17.size := ⟨_, rfl⟩
                          rw [← g18] at A18 D18 st18
                          have ne_bb_b18 : bb ≠ b18 := Nat.ne_of_lt (Nat.lt_of_lt_of_le E_bb.lt (Nat.le_of_eq g18.symm))
                          have ne_tb_b18 : tb ≠ b18 := Nat.ne_of_lt (Nat.lt_of_lt_of_le V_tb.lt (Nat.le_of_eq g18.symm))
                          have ne_b8_b18 : b8 ≠ b18 := Nat.ne_of_lt (Nat.lt_of_lt_of_le V_b8.lt (Nat.le_of_eq g18.symm))
                          have CR := CR.trans (CHr.ext E18 CR.1)
                          have E_bb := E_bb.ext E18
                          have F_coder_bb := F_coder_bb.ext E18
                          have F_value_bb := F_value_bb.ext E18
                          have V_tb := V_tb.ext E18
                          have V_b8 := V_b8.ext E18
                          have OL := OL.ext E18
                          have g_b18 : n0 ≤ b18 := Nat.le_trans Zn (Nat.le_of_eq g18.symm)
                          have Zn := Nat.le_trans Zn E18.1
                          have hk := Nat.le_trans hk E18.1
                          have sz_b18 : h0.size ≤ b18 := Nat.le_trans Kp.1 (Nat.le_of_eq g18.symm)
                          have Kp := Kp.ext E18
                          have E_b18 := A18
                          have F_value_b18 : Fld Z h18 b18 "java/lang/String" "value" "[B" .null := D18 (Or.inr (hwi hw 4 rfl)) (ty := (.array .byte)) (by decide)
                          have F_coder_b18 : Fld Z h18 b18 "java/lang/String" "coder" "B" (.int (0 : Int32)) := D18 (Or.inr (hwi hw 5 rfl)) (ty := .byte) (by decide)
                          refine Run.st (S' := T18.setTop (mkF m 293 #[.val (.int p0), .val (.int p1), .val (.int p2), .val (.int p3), .unset, .val (.ref bb), .val (.int nn), .val (.int pp), .val (.int cc), .val (.int xx), .val (.ref b8)] [(.ref b8), (.ref b18), (.ref b18)])) (fun _ k => st18 _ (XS.dup X18.here hx rfl (hb hby at_290) rfl rfl (XS.aload X18.here hx rfl (hb hby at_291) rfl rfl k))) ?_
                          have JH19 : ∀ (ts : Addr) (ks : ClassId) (css : List Int32) (Tl19 : State) (Hl19 : Heap) (gl : GoodW p l e room_1 s m #[(.int p0), (.int p1), (.int p2), (.int p3)] below meth c n0 8 54 "com/example/heading_kin/headingkin/io/RecordFormatLabelledPinLaw" Z h0 Hl19 Tl19) (Zn : n0 ≤ Hl19.size) (Kp : Keep h0 Hl19 []) (OL : Old Z n0 Hl19) (E_b18 : Exa Z Hl19 b18 "java/lang/String") (F_value_b18 : Fld Z Hl19 b18 "java/lang/String" "value" "[B" (.ref ts)) (F_coder_b18 : Fld Z Hl19 b18 "java/lang/String" "coder" "B" (.int (0 : Int32))) (V_ts : Arv Z Hl19 ts ks .byte (Int32.ofNat css.length) ((own_bs css).map Value.int) (.int (0 : Int32))), own_L1 css → Run p e below (EndsW Z s (Q0 Z p0 p1 p2 p3 zc fm vv kV ri rm li tli kli lm tlm klm em h0 n0) room_1.cells room_1.slots) (Tl19.setTop (mkF m 298 #[.val (.int p0), .val (.int p1), .val (.int p2), .val (.int p3), .val (.ref b18), .val (.ref bb), .val (.int nn), .val (.int pp), .val (.int cc), .val (.int xx), .val (.ref b8)] [])) := by
                            intro ts ks css Tl19 Hl19 gl Zn Kp OL E_b18 F_value_b18 F_coder_b18 V_ts hyJ
                            obtain ⟨vmJ19, kJ19, lcs19, Xl19, Nl19, El19, hS, hk, hZ, hown, CR⟩ := gl
                            have hyS := hyJ
                            refine Run.st (S' := Tl19.setTop (mkF m 300 #[.val (.int p0), .val (.int p1), .val (.int p2), .val (.int p3), .val (.ref b18), .val (.ref bb), .val (.int nn), .val (.int pp), .val (.int cc), .val (.int xx), .val (.ref b8)] [(.ref b18)])) (fun _ k => XS.aload Xl19.here hx rfl (hb hby at_298) rfl rfl k) ?_
                            obtain ⟨_, _, ⟨T20, L20, k20, n20⟩, -, X20, ⟨Lc20, hQ20, l20, y20, z20⟩, st20⟩ := Jvm.LawKit.callS Xl19 hx (y := (⟨"com/example/heading_kin/headingkin/io/RecordFormat", "labelled", "(Ljava/lang/String;)Ljava/util/Optional;"⟩ : MethodName)) hown (mvT hZ (hwi hw 60 rfl)) (mvT hZ (hwi hw 61 rfl)) (mvT hZ (hwi hw 62 rfl)) (mvT hZ (hwi hw 63 rfl)) (by decide) (backOf (W := 0) (rmLab l Z aV hw [] b18 zc vv kV ri rm li tli kli lm tlm klm em ts ks css Hl19 n0 Zn OL hzc hyS S_cs S_vals V_vv E_vv E_ri E_rm F_label_ri E_li F_coder_li F_value_li V_tli F_label_rm E_lm F_coder_lm F_value_lm V_tlm S_em E_em F_value_em E_b18 F_coder_b18 F_value_b18 V_ts) hZ (hwi hw 63 rfl) (hwi hw 62 rfl) (by decide) (by decide)) (g := (mkF m 300 #[.val (.int p0), .val (.int p1), .val (.int p2), .val (.int p3), .val (.ref b18), .val (.ref bb), .val (.int nn), .val (.int pp), .val (.int cc), .val (.int xx), .val (.ref b8)] [(.ref b18)])) rfl (by rw [hml]; rfl) (argsL := [(.ref b18)]) (rest := []) (lenOf pd_8 rfl) rfl (by show 2 * 0 + _ ≤ _; exact Nat.le_of_eq rfl) (hb hby at_300) (fun _ _ => ⟨rfl, El19, (by decide : 8 + 2 ≤ _), (by decide : 54 + 3 ≤ _)⟩)
                            dsimp only [Pt.U, Pt.locs, Pt.cells, Pt.slots] at X20 l20 y20 z20 st20 hQ20
                            replace l20 := l20.symm; replace y20 := y20.symm; replace z20 := z20.symm; subst l20 y20 z20
                            obtain ⟨o20, rfl, N20q, K20, qE20, qV20⟩ := hQ20
                            have sfa : ∀ x ∈ [], Safe Z consts_1 vmJ19 Hl19 x := all0
                            have CR := CR.trans (CHr.keep K20 sfa CR.1)
                            have OL := OL.keep K20 all0
                            have E_b18 := E_b18.keep K20
                            have F_value_b18 := F_value_b18.keep K20 nin0
                            have F_coder_b18 := F_coder_b18.keep K20 nin0
                            have V_ts := V_ts.keep K20 nin0
                            have E_o20 := qE20
                            have F_value_o20 := qV20
                            have Kp := Kp.trans K20 all0
                            have Zn := Nat.le_trans Zn K20.1
                            have hk := Nat.le_trans hk K20.1
                            have N20 := Fr.app Nl19 N20q
                            refine Run.st (S' := T20.setTop (mkF m 303 #[.val (.int p0), .val (.int p1), .val (.int p2), .val (.int p3), .val (.ref b18), .val (.ref bb), .val (.int nn), .val (.int pp), .val (.int cc), .val (.int xx), .val (.ref b8)] [(.ref o20)])) (fun _ k => st20 _ k) ?_
                            by_cases hk303_21 : own_lit2 = css
                            · rw [own_FL, if_pos hk303_21] at F_value_o20
                              refine Run.st (S' := T20.setTop (mkF m 308 #[.val (.int p0), .val (.int p1), .val (.int p2), .val (.int p3), .val (.ref b18), .val (.ref o20), .val (.int nn), .val (.int pp), .val (.int cc), .val (.int xx), .val (.ref b8)] [.null, (.ref o20)])) (fun _ k => XS.astore X20.here hx rfl (hb hby at_303) rfl rfl (l' := #[.val (.int p0), .val (.int p1), .val (.int p2), .val (.int p3), .val (.ref b18), .val (.ref o20), .val (.int nn), .val (.int pp), .val (.int cc), .val (.int xx), .val (.ref b8)]) rfl (XS.aload X20.here hx rfl (hb hby at_305) rfl rfl (XS.aconstNull X20.here hx rfl (hb hby at_307) k))) ?_
                              obtain ⟨cq22, kq22, q22a, q22b, q22c⟩ := isOf hZ rfl E_o20
                              obtain ⟨_, _, ⟨T22, L22, k22, n22⟩, -, X22, ⟨Lc22, hQ22, l22, y22, z22⟩, st22⟩ := X20.virtualBack hx (y := (⟨"java/util/Optional", "orElse", "(Ljava/lang/Object;)Ljava/lang/Object;"⟩ : MethodName)) (z := (⟨"java/util/Optional", "orElse", "(Ljava/lang/Object;)Ljava/lang/Object;"⟩ : MethodName)) hown (mvT hZ (hwi hw 97 rfl)) (mvT hZ (hwi hw 98 rfl)) (notFace_of_selects (args := #[]) (mvT hZ (hwi hw 100 rfl))) (mvT hZ (hwi hw 100 rfl)) (mvT hZ (hwi hw 99 rfl)) (by decide) (backOf (W := 0) (rmOrE l Z aV hw [] o20 (.ref ri) T20.heap n0 Zn OL rfl F_value_o20) hZ (hwi hw 101 rfl) (hwi hw 94 rfl) (by decide) (by decide)) q22a q22c (g := (mkF m 308 #[.val (.int p0), .val (.int p1), .val (.int p2), .val (.int p3), .val (.ref b18), .val (.ref o20), .val (.int nn), .val (.int pp), .val (.int cc), .val (.int xx), .val (.ref b8)] [.null, (.ref o20)])) rfl (by rw [hml]; rfl) (Steps.refl _) (argsL := [.null]) (rest := []) (lenOf pd_1 rfl) rfl (by show 2 * 0 + _ ≤ _; exact Nat.le_of_eq rfl) (hb hby at_308) (fun _ _ => ⟨rfl, rfl, (by decide : 10 + 0 ≤ _), (by decide : 57 + 0 ≤ _)⟩)
                              dsimp only [Pt.U, Pt.locs, Pt.cells, Pt.slots] at X22 l22 y22 z22 st22 hQ22
                              replace l22 := l22.symm; replace y22 := y22.symm; replace z22 := z22.symm; subst l22 y22 z22
                              obtain ⟨rfl, N22q, e22⟩ := hQ22
                              have N22 := Fr.app N20 N22q
                              refine Run.st (S' := T22.setTop (mkF m 311 #[.val (.int p0), .val (.int p1), .val (.int p2), .val (.int p3), .val (.ref b18), .val (.ref o20), .val (.int nn), .val (.int pp), .val (.int cc), .val (.int xx), .val (.ref b8)] [(.ref ri)])) (fun _ k => st22.trans k) ?_
                              have u_E_ri := E_ri.ext OL.2
                              obtain ⟨T23, X23, e23, st23⟩ := castY X22 hx hZ hown (hwi hw 124 rfl) e22 (Ins.self u_E_ri) (g := (mkF m 311 #[.val (.int p0), .val (.int p1), .val (.int p2), .val (.int p3), .val (.ref b18), .val (.ref o20), .val (.int nn), .val (.int pp), .val (.int cc), .val (.int xx), .val (.ref b8)] [(.ref ri)])) rfl rfl (hb hby at_311)
                              refine Run.st (S' := T23.setTop (mkF m 320 #[.val (.int p0), .val (.int p1), .val (.int p2), .val (.int p3), .val (.ref b18), .val (.ref o20), .val (.ref ri), .val (.int pp), .val (.int cc), .val (.int xx), .val (.ref b8)] [(.ref b18), (.ref ri)])) (fun _ k => st23 _ (XS.astore X23.here hx rfl (hb hby at_314) rfl rfl (l' := #[.val (.int p0), .val (.int p1), .val (.int p2), .val (.int p3), .val (.ref b18), .val (.ref o20), .val (.ref ri), .val (.int pp), .val (.int cc), .val (.int xx), .val (.ref b8)]) rfl (XS.aload X23.here hx rfl (hb hby at_316) rfl rfl (XS.aload X23.here hx rfl (hb hby at_318) rfl rfl k)))) ?_
                              obtain ⟨_, _, ⟨T24, L24, k24, n24⟩, -, X24, S24, gr24, ⟨Lc24, hQ24, l24, y24, z24, hC⟩, st24⟩ := Jvm.RoadKit.callSS X23 hx (y := (⟨"com/example/heading_kin/headingkin/io/RecordFormatLabelledPinLaw", "expectedFor", "(Ljava/lang/String;)Lcom/example/heading_kin/headingkin/io/RecordFormat;"⟩ : MethodName)) hown (mvT hZ (hwi hw 104 rfl)) (mvT hZ (hwi hw 105 rfl)) (mvT hZ (hwi hw 12 rfl)) (mvT hZ (hwi hw 106 rfl)) (by decide) (backOfSH (s := s) (vm0 := vmJ19) (W := 1) (rmExp l Z aV hw [] b18 zc ri rm ts ks css T20.heap n0 Zn OL hzc hyS S_cs S_ri S_rm E_b18 F_coder_b18 F_value_b18 V_ts) hZ (hwi hw 106 rfl) (hwi hw 12 rfl) (by decide) (by decide) (own_EW hw) CR.1) (g := (mkF m 320 #[.val (.int p0), .val (.int p1), .val (.int p2), .val (.int p3), .val (.ref b18), .val (.ref o20), .val (.ref ri), .val (.int pp), .val (.int cc), .val (.int xx), .val (.ref b8)] [(.ref b18), (.ref ri)])) rfl (by rw [hml]; rfl) (argsL := [(.ref b18)]) (rest := [(.ref ri)]) (lenOf pd_9 rfl) rfl (by show 2 * 0 + _ ≤ _; exact Nat.le_of_eq rfl) (hb hby at_320) (fun _ _ => ⟨rfl, e23, (by decide : 10 + 4 ≤ _), (by decide : 57 + 64 ≤ _)⟩)
                              dsimp only [Pt.U, Pt.locs, Pt.cells, Pt.slots] at X24 l24 y24 z24 st24 hQ24 S24 gr24 hC
                              have hZ := State.Warmed39.trans hZ S24.1
                              have hown : (s.setVm T24.vm).vm.findClass "com/example/heading_kin/headingkin/io/RecordFormatLabelledPinLaw" = some m.cls := by rw [show (s.setVm T24.vm).vm = T24.vm from rfl, S24.1.alike.findClass]; exact hown
                              have hS := foldS hS (by rw [e23]; exact hk) S24 gr24
                              have hk : T24.heap.size ≤ T24.heap.size := Nat.le_refl _
                              have X24 : Stand p l e _ (s.setVm T24.vm) m _ below meth c T24 _ _ _ := X24
                              have CR := CR.trans hC
                              replace l24 := l24.symm; replace y24 := y24.symm; replace z24 := z24.symm; subst l24 y24 z24
                              obtain ⟨rfl, N24q, K24⟩ := hQ24
                              have OL := OL.keep K24 all0
                              have E_b18 := E_b18.keep K24
                              have F_value_b18 := F_value_b18.keep K24 nin0
                              have F_coder_b18 := F_coder_b18.keep K24 nin0
                              have V_ts := V_ts.keep K24 nin0
                              have E_o20 := E_o20.keep K24
                              have F_value_o20 := F_value_o20.keep K24 nin0
                              have Kp := Kp.trans K24 all0
                              have Zn := Nat.le_trans Zn K24.1
                              have N24 := Fr.app N22 N24q
                              refine Run.st (S' := T24.setTop (mkF m 331 #[.val (.int p0), .val (.int p1), .val (.int p2), .val (.int p3), .val (.ref b18), .val (.ref o20), .val (.ref ri), .val (.int pp), .val (.int cc), .val (.int xx), .val (.ref b8)] [(.int (1 : Int32))])) (fun _ k => st24.trans (Jvm.RoadKit.acmp (g := (mkF m 323 #[.val (.int p0), .val (.int p1), .val (.int p2), .val (.int p3), .val (.ref b18), .val (.ref o20), .val (.ref ri), .val (.int pp), .val (.int cc), .val (.int xx), .val (.ref b8)] [(own_FL css ri rm), (.ref ri)])) X24 hx rfl rfl (own_FL_ref _ _ _) (pc0 := 323) (pc' := 326) (same := true) rfl (hb hby at_323) rfl (decide_eq_true (show (.ref ri) = (own_FL css ri rm) from (by rw [own_FL, if_pos hk303_21]))) (by decide) (by decide) (XS.iconst X24.here hx rfl (hb hby at_326) (XS.goto X24.here hx rfl (pc0 := 327) (pc' := 331) rfl (hb hby at_327) (by decide) (by decide) k)))) ?_
                              refine Run.outW X24 hx hS hk (by rw [hh]; exact CR.trans (CHv.at X24 hZ (own_EW hw) CR.1)) Bd.notSynchronized Bd.returns rfl (Or.inl ⟨rfl, by simp, _, rfl⟩) (hb hby at_331) (by decide) (by decide) ?_
                              exact ⟨rfl, N24⟩
                            · by_cases hk303_25 : own_lit1 = css
                              · rw [own_FL, if_neg hk303_21, if_pos hk303_25] at F_value_o20
                                refine Run.st (S' := T20.setTop (mkF m 308 #[.val (.int p0), .val (.int p1), .val (.int p2), .val (.int p3), .val (.ref b18), .val (.ref o20), .val (.int nn), .val (.int pp), .val (.int cc), .val (.int xx), .val (.ref b8)] [.null, (.ref o20)])) (fun _ k => XS.astore X20.here hx rfl (hb hby at_303) rfl rfl (l' := #[.val (.int p0), .val (.int p1), .val (.int p2), .val (.int p3), .val (.ref b18), .val (.ref o20), .val (.int nn), .val (.int pp), .val (.int cc), .val (.int xx), .val (.ref b8)]) rfl (XS.aload X20.here hx rfl (hb hby at_305) rfl rfl (XS.aconstNull X20.here hx rfl (hb hby at_307) k))) ?_
                                obtain ⟨cq26, kq26, q26a, q26b, q26c⟩ := isOf hZ rfl E_o20
                                obtain ⟨_, _, ⟨T26, L26, k26, n26⟩, -, X26, ⟨Lc26, hQ26, l26, y26, z26⟩, st26⟩ := X20.virtualBack hx (y := (⟨"java/util/Optional", "orElse", "(Ljava/lang/Object;)Ljava/lang/Object;"⟩ : MethodName)) (z := (⟨"java/util/Optional", "orElse", "(Ljava/lang/Object;)Ljava/lang/Object;"⟩ : MethodName)) hown (mvT hZ (hwi hw 97 rfl)) (mvT hZ (hwi hw 98 rfl)) (notFace_of_selects (args := #[]) (mvT hZ (hwi hw 100 rfl))) (mvT hZ (hwi hw 100 rfl)) (mvT hZ (hwi hw 99 rfl)) (by decide) (backOf (W := 0) (rmOrE l Z aV hw [] o20 (.ref rm) T20.heap n0 Zn OL rfl F_value_o20) hZ (hwi hw 101 rfl) (hwi hw 94 rfl) (by decide) (by decide)) q26a q26c (g := (mkF m 308 #[.val (.int p0), .val (.int p1), .val (.int p2), .val (.int p3), .val (.ref b18), .val (.ref o20), .val (.int nn), .val (.int pp), .val (.int cc), .val (.int xx), .val (.ref b8)] [.null, (.ref o20)])) rfl (by rw [hml]; rfl) (Steps.refl _) (argsL := [.null]) (rest := []) (lenOf pd_1 rfl) rfl (by show 2 * 0 + _ ≤ _; exact Nat.le_of_eq rfl) (hb hby at_308) (fun _ _ => ⟨rfl, rfl, (by decide : 10 + 0 ≤ _), (by decide : 57 + 0 ≤ _)⟩)
                                dsimp only [Pt.U, Pt.locs, Pt.cells, Pt.slots] at X26 l26 y26 z26 st26 hQ26
                                replace l26 := l26.symm; replace y26 := y26.symm; replace z26 := z26.symm; subst l26 y26 z26
                                obtain ⟨rfl, N26q, e26⟩ := hQ26
                                have N26 := Fr.app N20 N26q
                                refine Run.st (S' := T26.setTop (mkF m 311 #[.val (.int p0), .val (.int p1), .val (.int p2), .val (.int p3), .val (.ref b18), .val (.ref o20), .val (.int nn), .val (.int pp), .val (.int cc), .val (.int xx), .val (.ref b8)] [(.ref rm)])) (fun _ k => st26.trans k) ?_
                                have u_E_rm := E_rm.ext OL.2
                                obtain ⟨T27, X27, e27, st27⟩ := castY X26 hx hZ hown (hwi hw 124 rfl) e26 (Ins.self u_E_rm) (g := (mkF m 311 #[.val (.int p0), .val (.int p1), .val (.int p2), .val (.int p3), .val (.ref b18), .val (.ref o20), .val (.int nn), .val (.int pp), .val (.int cc), .val (.int xx), .val (.ref b8)] [(.ref rm)])) rfl rfl (hb hby at_311)
                                refine Run.st (S' := T27.setTop (mkF m 320 #[.val (.int p0), .val (.int p1), .val (.int p2), .val (.int p3), .val (.ref b18), .val (.ref o20), .val (.ref rm), .val (.int pp), .val (.int cc), .val (.int xx), .val (.ref b8)] [(.ref b18), (.ref rm)])) (fun _ k => st27 _ (XS.astore X27.here hx rfl (hb hby at_314) rfl rfl (l' := #[.val (.int p0), .val (.int p1), .val (.int p2), .val (.int p3), .val (.ref b18), .val (.ref o20), .val (.ref rm), .val (.int pp), .val (.int cc), .val (.int xx), .val (.ref b8)]) rfl (XS.aload X27.here hx rfl (hb hby at_316) rfl rfl (XS.aload X27.here hx rfl (hb hby at_318) rfl rfl k)))) ?_
                                obtain ⟨_, _, ⟨T28, L28, k28, n28⟩, -, X28, S28, gr28, ⟨Lc28, hQ28, l28, y28, z28, hC⟩, st28⟩ := Jvm.RoadKit.callSS X27 hx (y := (⟨"com/example/heading_kin/headingkin/io/RecordFormatLabelledPinLaw", "expectedFor", "(Ljava/lang/String;)Lcom/example/heading_kin/headingkin/io/RecordFormat;"⟩ : MethodName)) hown (mvT hZ (hwi hw 104 rfl)) (mvT hZ (hwi hw 105 rfl)) (mvT hZ (hwi hw 12 rfl)) (mvT hZ (hwi hw 106 rfl)) (by decide) (backOfSH (s := s) (vm0 := vmJ19) (W := 1) (rmExp l Z aV hw [] b18 zc ri rm ts ks css T20.heap n0 Zn OL hzc hyS S_cs S_ri S_rm E_b18 F_coder_b18 F_value_b18 V_ts) hZ (hwi hw 106 rfl) (hwi hw 12 rfl) (by decide) (by decide) (own_EW hw) CR.1) (g := (mkF m 320 #[.val (.int p0), .val (.int p1), .val (.int p2), .val (.int p3), .val (.ref b18), .val (.ref o20), .val (.ref rm), .val (.int pp), .val (.int cc), .val (.int xx), .val (.ref b8)] [(.ref b18), (.ref rm)])) rfl (by rw [hml]; rfl) (argsL := [(.ref b18)]) (rest := [(.ref rm)]) (lenOf pd_9 rfl) rfl (by show 2 * 0 + _ ≤ _; exact Nat.le_of_eq rfl) (hb hby at_320) (fun _ _ => ⟨rfl, e27, (by decide : 10 + 4 ≤ _), (by decide : 57 + 64 ≤ _)⟩)
                                dsimp only [Pt.U, Pt.locs, Pt.cells, Pt.slots] at X28 l28 y28 z28 st28 hQ28 S28 gr28 hC
                                have hZ := State.Warmed39.trans hZ S28.1
                                have hown : (s.setVm T28.vm).vm.findClass "com/example/heading_kin/headingkin/io/RecordFormatLabelledPinLaw" = some m.cls := by rw [show (s.setVm T28.vm).vm = T28.vm from rfl, S28.1.alike.findClass]; exact hown
                                have hS := foldS hS (by rw [e27]; exact hk) S28 gr28
                                have hk : T28.heap.size ≤ T28.heap.size := Nat.le_refl _
                                have X28 : Stand p l e _ (s.setVm T28.vm) m _ below meth c T28 _ _ _ := X28
                                have CR := CR.trans hC
                                replace l28 := l28.symm; replace y28 := y28.symm; replace z28 := z28.symm; subst l28 y28 z28
                                obtain ⟨rfl, N28q, K28⟩ := hQ28
                                have OL := OL.keep K28 all0
                                have E_b18 := E_b18.keep K28
                                have F_value_b18 := F_value_b18.keep K28 nin0
                                have F_coder_b18 := F_coder_b18.keep K28 nin0
                                have V_ts := V_ts.keep K28 nin0
                                have E_o20 := E_o20.keep K28
                                have F_value_o20 := F_value_o20.keep K28 nin0
                                have Kp := Kp.trans K28 all0
                                have Zn := Nat.le_trans Zn K28.1
                                have N28 := Fr.app N26 N28q
                                refine Run.st (S' := T28.setTop (mkF m 331 #[.val (.int p0), .val (.int p1), .val (.int p2), .val (.int p3), .val (.ref b18), .val (.ref o20), .val (.ref rm), .val (.int pp), .val (.int cc), .val (.int xx), .val (.ref b8)] [(.int (1 : Int32))])) (fun _ k => st28.trans (Jvm.RoadKit.acmp (g := (mkF m 323 #[.val (.int p0), .val (.int p1), .val (.int p2), .val (.int p3), .val (.ref b18), .val (.ref o20), .val (.ref rm), .val (.int pp), .val (.int cc), .val (.int xx), .val (.ref b8)] [(own_FL css ri rm), (.ref rm)])) X28 hx rfl rfl (own_FL_ref _ _ _) (pc0 := 323) (pc' := 326) (same := true) rfl (hb hby at_323) rfl (decide_eq_true (show (.ref rm) = (own_FL css ri rm) from (by rw [own_FL, if_neg hk303_21, if_pos hk303_25]))) (by decide) (by decide) (XS.iconst X28.here hx rfl (hb hby at_326) (XS.goto X28.here hx rfl (pc0 := 327) (pc' := 331) rfl (hb hby at_327) (by decide) (by decide) k)))) ?_
                                refine Run.outW X28 hx hS hk (by rw [hh]; exact CR.trans (CHv.at X28 hZ (own_EW hw) CR.1)) Bd.notSynchronized Bd.returns rfl (Or.inl ⟨rfl, by simp, _, rfl⟩) (hb hby at_331) (by decide) (by decide) ?_
                                exact ⟨rfl, N28⟩
                              · rw [own_FL, if_neg hk303_21, if_neg hk303_25] at F_value_o20
                                refine Run.st (S' := T20.setTop (mkF m 308 #[.val (.int p0), .val (.int p1), .val (.int p2), .val (.int p3), .val (.ref b18), .val (.ref o20), .val (.int nn), .val (.int pp), .val (.int cc), .val (.int xx), .val (.ref b8)] [.null, (.ref o20)])) (fun _ k => XS.astore X20.here hx rfl (hb hby at_303) rfl rfl (l' := #[.val (.int p0), .val (.int p1), .val (.int p2), .val (.int p3), .val (.ref b18), .val (.ref o20), .val (.int nn), .val (.int pp), .val (.int cc), .val (.int xx), .val (.ref b8)]) rfl (XS.aload X20.here hx rfl (hb hby at_305) rfl rfl (XS.aconstNull X20.here hx rfl (hb hby at_307) k))) ?_
                                obtain ⟨cq29, kq29, q29a, q29b, q29c⟩ := isOf hZ rfl E_o20
                                obtain ⟨_, _, ⟨T29, L29, k29, n29⟩, -, X29, ⟨Lc29, hQ29, l29, y29, z29⟩, st29⟩ := X20.virtualBack hx (y := (⟨"java/util/Optional", "orElse", "(Ljava/lang/Object;)Ljava/lang/Object;"⟩ : MethodName)) (z := (⟨"java/util/Optional", "orElse", "(Ljava/lang/Object;)Ljava/lang/Object;"⟩ : MethodName)) hown (mvT hZ (hwi hw 97 rfl)) (mvT hZ (hwi hw 98 rfl)) (notFace_of_selects (args := #[]) (mvT hZ (hwi hw 100 rfl))) (mvT hZ (hwi hw 100 rfl)) (mvT hZ (hwi hw 99 rfl)) (by decide) (backOf (W := 0) (rmOrE l Z aV hw [] o20 .null T20.heap n0 Zn OL rfl F_value_o20) hZ (hwi hw 101 rfl) (hwi hw 94 rfl) (by decide) (by decide)) q29a q29c (g := (mkF m 308 #[.val (.int p0), .val (.int p1), .val (.int p2), .val (.int p3), .val (.ref b18), .val (.ref o20), .val (.int nn), .val (.int pp), .val (.int cc), .val (.int xx), .val (.ref b8)] [.null, (.ref o20)])) rfl (by rw [hml]; rfl) (Steps.refl _) (argsL := [.null]) (rest := []) (lenOf pd_1 rfl) rfl (by show 2 * 0 + _ ≤ _; exact Nat.le_of_eq rfl) (hb hby at_308) (fun _ _ => ⟨rfl, rfl, (by decide : 10 + 0 ≤ _), (by decide : 57 + 0 ≤ _)⟩)
                                dsimp only [Pt.U, Pt.locs, Pt.cells, Pt.slots] at X29 l29 y29 z29 st29 hQ29
                                replace l29 := l29.symm; replace y29 := y29.symm; replace z29 := z29.symm; subst l29 y29 z29
                                obtain ⟨rfl, N29q, e29⟩ := hQ29
                                have N29 := Fr.app N20 N29q
                                refine Run.st (S' := T29.setTop (mkF m 320 #[.val (.int p0), .val (.int p1), .val (.int p2), .val (.int p3), .val (.ref b18), .val (.ref o20), .val .null, .val (.int pp), .val (.int cc), .val (.int xx), .val (.ref b8)] [(.ref b18), .null])) (fun _ k => st29.trans (X29.checkcastNull hx (g := (mkF m 311 #[.val (.int p0), .val (.int p1), .val (.int p2), .val (.int p3), .val (.ref b18), .val (.ref o20), .val (.int nn), .val (.int pp), .val (.int cc), .val (.int xx), .val (.ref b8)] [.null])) rfl rfl (hb hby at_311) _ (XS.astore X29.here hx rfl (hb hby at_314) rfl rfl (l' := #[.val (.int p0), .val (.int p1), .val (.int p2), .val (.int p3), .val (.ref b18), .val (.ref o20), .val .null, .val (.int pp), .val (.int cc), .val (.int xx), .val (.ref b8)]) rfl (XS.aload X29.here hx rfl (hb hby at_316) rfl rfl (XS.aload X29.here hx rfl (hb hby at_318) rfl rfl k))))) ?_
                                obtain ⟨_, _, ⟨T31, L31, k31, n31⟩, -, X31, S31, gr31, ⟨Lc31, hQ31, l31, y31, z31, hC⟩, st31⟩ := Jvm.RoadKit.callSS X29 hx (y := (⟨"com/example/heading_kin/headingkin/io/RecordFormatLabelledPinLaw", "expectedFor", "(Ljava/lang/String;)Lcom/example/heading_kin/headingkin/io/RecordFormat;"⟩ : MethodName)) hown (mvT hZ (hwi hw 104 rfl)) (mvT hZ (hwi hw 105 rfl)) (mvT hZ (hwi hw 12 rfl)) (mvT hZ (hwi hw 106 rfl)) (by decide) (backOfSH (s := s) (vm0 := vmJ19) (W := 1) (rmExp l Z aV hw [] b18 zc ri rm ts ks css T20.heap n0 Zn OL hzc hyS S_cs S_ri S_rm E_b18 F_coder_b18 F_value_b18 V_ts) hZ (hwi hw 106 rfl) (hwi hw 12 rfl) (by decide) (by decide) (own_EW hw) CR.1) (g := (mkF m 320 #[.val (.int p0), .val (.int p1), .val (.int p2), .val (.int p3), .val (.ref b18), .val (.ref o20), .val .null, .val (.int pp), .val (.int cc), .val (.int xx), .val (.ref b8)] [(.ref b18), .null])) rfl (by rw [hml]; rfl) (argsL := [(.ref b18)]) (rest := [.null]) (lenOf pd_9 rfl) rfl (by show 2 * 0 + _ ≤ _; exact Nat.le_of_eq rfl) (hb hby at_320) (fun _ _ => ⟨rfl, e29, (by decide : 10 + 4 ≤ _), (by decide : 57 + 64 ≤ _)⟩)
                                dsimp only [Pt.U, Pt.locs, Pt.cells, Pt.slots] at X31 l31 y31 z31 st31 hQ31 S31 gr31 hC
                                have hZ := State.Warmed39.trans hZ S31.1
                                have hown : (s.setVm T31.vm).vm.findClass "com/example/heading_kin/headingkin/io/RecordFormatLabelledPinLaw" = some m.cls := by rw [show (s.setVm T31.vm).vm = T31.vm from rfl, S31.1.alike.findClass]; exact hown
                                have hS := foldS hS (by rw [e29]; exact hk) S31 gr31
                                have hk : T31.heap.size ≤ T31.heap.size := Nat.le_refl _
                                have X31 : Stand p l e _ (s.setVm T31.vm) m _ below meth c T31 _ _ _ := X31
                                have CR := CR.trans hC
                                replace l31 := l31.symm; replace y31 := y31.symm; replace z31 := z31.symm; subst l31 y31 z31
                                obtain ⟨rfl, N31q, K31⟩ := hQ31
                                have OL := OL.keep K31 all0
                                have E_b18 := E_b18.keep K31
                                have F_value_b18 := F_value_b18.keep K31 nin0
                                have F_coder_b18 := F_coder_b18.keep K31 nin0
                                have V_ts := V_ts.keep K31 nin0
                                have E_o20 := E_o20.keep K31
                                have F_value_o20 := F_value_o20.keep K31 nin0
                                have Kp := Kp.trans K31 all0
                                have Zn := Nat.le_trans Zn K31.1
                                have N31 := Fr.app N29 N31q
                                refine Run.st (S' := T31.setTop (mkF m 331 #[.val (.int p0), .val (.int p1), .val (.int p2), .val (.int p3), .val (.ref b18), .val (.ref o20), .val .null, .val (.int pp), .val (.int cc), .val (.int xx), .val (.ref b8)] [(.int (1 : Int32))])) (fun _ k => st31.trans (Jvm.RoadKit.acmp (g := (mkF m 323 #[.val (.int p0), .val (.int p1), .val (.int p2), .val (.int p3), .val (.ref b18), .val (.ref o20), .val .null, .val (.int pp), .val (.int cc), .val (.int xx), .val (.ref b8)] [(own_FL css ri rm), .null])) X31 hx rfl rfl (own_FL_ref _ _ _) (pc0 := 323) (pc' := 326) (same := true) rfl (hb hby at_323) rfl (decide_eq_true (show .null = (own_FL css ri rm) from (by rw [own_FL, if_neg hk303_21, if_neg hk303_25]))) (by decide) (by decide) (XS.iconst X31.here hx rfl (hb hby at_326) (XS.goto X31.here hx rfl (pc0 := 327) (pc' := 331) rfl (hb hby at_327) (by decide) (by decide) k)))) ?_
                                refine Run.outW X31 hx hS hk (by rw [hh]; exact CR.trans (CHv.at X31 hZ (own_EW hw) CR.1)) Bd.notSynchronized Bd.returns rfl (Or.inl ⟨rfl, by simp, _, rfl⟩) (hb hby at_331) (by decide) (by decide) ?_
                                exact ⟨rfl, N31⟩
                          by_cases hk293_32 : nn = (0 : Int32)
                          · obtain ⟨_, _, ⟨T33, L33, k33, n33⟩, -, X33, S33, gr33, ⟨Lc33, hQ33, l33, y33, z33, hC⟩, st33⟩ := X18.specialBackS hx (y := (⟨"java/lang/String", "<init>", "([C)V"⟩ : MethodName)) rfl hown (mvT hZ (hwi hw 40 rfl)) (mvT hZ (hwi hw 41 rfl)) (mvT hZ (hwi hw 42 rfl)) (by decide) (backOfSH (s := s) (vm0 := vmJ17) (W := 1) (rmIni1 l Z aV hw [] b18 b8 k8 c9 nn h18 n0 Zn OL g_b18 hk293_32 (Ne.symm ne_b8_b18) E_b18 F_value_b18 F_coder_b18 V_b8) hZ (hwi hw 42 rfl) (hwi hw 1 rfl) (by decide) (by decide) (own_EW hw) CR.1) (g := (mkF m 293 #[.val (.int p0), .val (.int p1), .val (.int p2), .val (.int p3), .unset, .val (.ref bb), .val (.int nn), .val (.int pp), .val (.int cc), .val (.int xx), .val (.ref b8)] [(.ref b8), (.ref b18), (.ref b18)])) rfl (by rw [hml]; rfl) (Steps.refl _) (a := b18) (argsL := [(.ref b8)]) (rest := [(.ref b18)]) (lenOf pd_10 rfl) rfl (by show 2 * 0 + _ ≤ _; exact Nat.le_of_eq rfl) (hb hby at_293) (fun _ _ => ⟨rfl, e18, (by decide : 4 + 4 ≤ _), (by decide : 45 + 8 ≤ _)⟩)
                            dsimp only [Pt.U, Pt.locs, Pt.cells, Pt.slots] at X33 l33 y33 z33 st33 hQ33 S33 gr33 hC
                            have hZ := State.Warmed39.trans hZ S33.1
                            have hown : (s.setVm T33.vm).vm.findClass "com/example/heading_kin/headingkin/io/RecordFormatLabelledPinLaw" = some m.cls := by rw [show (s.setVm T33.vm).vm = T33.vm from rfl, S33.1.alike.findClass]; exact hown
                            have hS := foldS hS (by rw [e18]; exact hk) S33 gr33
                            have hk : T33.heap.size ≤ T33.heap.size := Nat.le_refl _
                            have X33 : Stand p l e _ (s.setVm T33.vm) m _ below meth c T33 _ _ _ := X33
                            have CR := CR.trans hC
                            replace l33 := l33.symm; replace y33 := y33.symm; replace z33 := z33.symm; subst l33 y33 z33
                            obtain ⟨rfl, N33q, K33, qE, qC, t33, kt33, qV, qK⟩ := hQ33
                            have OL := OL.keep K33 (allS g_b18 all0)
                            have E_bb := E_bb.keep K33
                            have F_coder_bb := F_coder_bb.keep K33 (ninS ne_bb_b18 nin0)
                            have F_value_bb := F_value_bb.keep K33 (ninS ne_bb_b18 nin0)
                            have V_tb := V_tb.keep K33 (ninS ne_tb_b18 nin0)
                            have V_b8 := V_b8.keep K33 (ninS ne_b8_b18 nin0)
                            have E_b18 := qE
                            have F_coder_b18 := qC
                            have F_value_b18 := qV
                            have V_t33 := qK
                            have Kp := Kp.trans K33 (allS (Or.inr sz_b18) all0)
                            have Zn := Nat.le_trans Zn K33.1
                            have N33 := Fr.app Nl17 N33q
                            refine Run.st (S' := T33.setTop (mkF m 298 #[.val (.int p0), .val (.int p1), .val (.int p2), .val (.int p3), .val (.ref b18), .val (.ref bb), .val (.int nn), .val (.int pp), .val (.int cc), .val (.int xx), .val (.ref b8)] [])) (fun _ k => st33.trans (XS.astore X33.here hx rfl (hb hby at_296) rfl rfl (l' := #[.val (.int p0), .val (.int p1), .val (.int p2), .val (.int p3), .val (.ref b18), .val (.ref bb), .val (.int nn), .val (.int pp), .val (.int cc), .val (.int xx), .val (.ref b8)]) rfl k)) ?_
                            have V_ts := V_t33
                            exact JH19 t33 kt33 ([] : List Int32) _ _ ⟨_, _, _, X33.mono (by decide) (by decide), N33, rfl, hS, hk, hZ, hown, CR⟩ Zn Kp OL E_b18 F_value_b18 F_coder_b18 V_ts (own_L1_nil)
                          · have u_S_cs := S_cs.ext OL.2
                            obtain ⟨_, _, ⟨T34, L34, k34, n34⟩, -, X34, ⟨Lc34, hQ34, l34, y34, z34⟩, st34⟩ := X18.specialBack hx (y := (⟨"java/lang/String", "<init>", "([C)V"⟩ : MethodName)) rfl hown (mvT hZ (hwi hw 40 rfl)) (mvT hZ (hwi hw 41 rfl)) (mvT hZ (hwi hw 42 rfl)) (by decide) (own_bV (W := 1) hw hZ 9 g_b18 Zn E_b18 F_value_b18 F_coder_b18 V_b8 u_S_cs hzc hyJ.2 (own_nn hnn.1) hk293_32 (own_cap (c := 9) (by have := hnn; omega)) ⟨hyJ.1, by rw [hyJ.2]; exact own_cap (c := 4000) (by have := hnn; omega)⟩ (by decide) (by decide)) (g := (mkF m 293 #[.val (.int p0), .val (.int p1), .val (.int p2), .val (.int p3), .unset, .val (.ref bb), .val (.int nn), .val (.int pp), .val (.int cc), .val (.int xx), .val (.ref b8)] [(.ref b8), (.ref b18), (.ref b18)])) rfl (by rw [hml]; rfl) (Steps.refl _) (a := b18) (argsL := [(.ref b8)]) (rest := [(.ref b18)]) (lenOf pd_10 rfl) rfl (by show 2 * 0 + _ ≤ _; exact Nat.le_of_eq rfl) (hb hby at_293) (fun _ _ => ⟨rfl, e18, (by decide : 4 + 1 ≤ _), (by decide : 45 + 9 ≤ _)⟩)
                            dsimp only [Pt.U, Pt.locs, Pt.cells, Pt.slots] at X34 l34 y34 z34 st34 hQ34
                            replace l34 := l34.symm; replace y34 := y34.symm; replace z34 := z34.symm; subst l34 y34 z34
                            obtain ⟨rfl, N34q, K34, qE, qC, t34, kt34, qV, qK⟩ := hQ34
                            have sfa : ∀ x ∈ [b18], Safe Z consts_1 vmJ17 h18 x := (allS (own_safeN (EL := consts_1) hZ.alike E_b18 F_value_b18) all0)
                            have CR := CR.trans (CHr.keep K34 sfa CR.1)
                            have OL := OL.keep K34 (allS g_b18 all0)
                            have E_bb := E_bb.keep K34
                            have F_coder_bb := F_coder_bb.keep K34 (ninS ne_bb_b18 nin0)
                            have F_value_bb := F_value_bb.keep K34 (ninS ne_bb_b18 nin0)
                            have V_tb := V_tb.keep K34 (ninS ne_tb_b18 nin0)
                            have V_b8 := V_b8.keep K34 (ninS ne_b8_b18 nin0)
                            have E_b18 := qE
                            have F_coder_b18 := qC
                            have F_value_b18 := qV
                            have V_t34 := qK
                            have Kp := Kp.trans K34 (allS (Or.inr sz_b18) all0)
                            have Zn := Nat.le_trans Zn K34.1
                            have hk := Nat.le_trans hk K34.1
                            have N34 := Fr.app Nl17 N34q
                            refine Run.st (S' := T34.setTop (mkF m 298 #[.val (.int p0), .val (.int p1), .val (.int p2), .val (.int p3), .val (.ref b18), .val (.ref bb), .val (.int nn), .val (.int pp), .val (.int cc), .val (.int xx), .val (.ref b8)] [])) (fun _ k => st34.trans (XS.astore X34.here hx rfl (hb hby at_296) rfl rfl (l' := #[.val (.int p0), .val (.int p1), .val (.int p2), .val (.int p3), .val (.ref b18), .val (.ref bb), .val (.int nn), .val (.int pp), .val (.int cc), .val (.int xx), .val (.ref b8)]) rfl k)) ?_
                            have V_ts := V_t34
                            exact JH19 t34 kt34 c9 _ _ ⟨_, _, _, X34.mono (by decide) (by decide), N34, rfl, hS, hk, hZ, hown, CR⟩ Zn Kp OL E_b18 F_value_b18 F_coder_b18 V_ts ⟨hyJ.1, by rw [hyJ.2]; exact own_cap (c := 4000) (by have := hnn; omega)⟩
                        refine Run.st (S' := Tl16.setTop (mkF m 266 #[.val (.int p0), .val (.int p1), .val (.int p2), .val (.int p3), .unset, .val (.ref bb), .val (.int nn), .val (.int pp), .val (.int cc), .val (.int xx), .val (.ref b8)] [(.int (8 : Int32)), (.int nn)])) (fun _ k => XS.iload Xl16.here hx rfl (hb hby at_262) rfl (XS.bipush Xl16.here hx rfl (hb hby at_264) k)) ?_
                        by_cases hc266_35 : (8 : Int32) < nn
                        · refine Run.st (S' := Tl16.setTop (mkF m 283 #[.val (.int p0), .val (.int p1), .val (.int p2), .val (.int p3), .unset, .val (.ref bb), .val (.int nn), .val (.int pp), .val (.int cc), .val (.int xx), .val (.ref b8)] [(.int xx), (.int cc), (.int pp), (.int (8 : Int32)), (.ref bb), (.int (8 : Int32)), (.ref b8)])) (fun _ k => XS.icmpNo Xl16.here hx rfl (hb hby at_266) rfl (tlt hc266_35).2.2.2 (XS.aload Xl16.here hx rfl (hb hby at_269) rfl rfl (XS.bipush Xl16.here hx rfl (hb hby at_271) (XS.aload Xl16.here hx rfl (hb hby at_273) rfl rfl (XS.bipush Xl16.here hx rfl (hb hby at_275) (XS.iload Xl16.here hx rfl (hb hby at_277) rfl (XS.iload Xl16.here hx rfl (hb hby at_279) rfl (XS.iload Xl16.here hx rfl (hb hby at_281) rfl k)))))))) ?_
                          obtain ⟨_, _, ⟨T36, L36, k36, n36⟩, -, X36, ⟨Lc36, hQ36, l36, y36, z36⟩, st36⟩ := Jvm.LawKit.callS Xl16 hx (y := (⟨"com/example/heading_kin/headingkin/io/RecordFormatLabelledPinLaw", "at", "(Ljava/lang/String;IICC)C"⟩ : MethodName)) hown (mvT hZ (hwi hw 10 rfl)) (mvT hZ (hwi hw 11 rfl)) (mvT hZ (hwi hw 12 rfl)) (mvT hZ (hwi hw 13 rfl)) (by decide) (backOf (W := 2) (rmAt l Z aV hw [] bb (8 : Int32) pp cc xx tb kb cb zc fm Hl16 n0 Zn OL hzc rfm hyB.1 hyB.2 (by decide) (own_r255 hcc) (own_r255 hxx) E_bb F_coder_bb F_value_bb V_tb S_cs S_sf) hZ (hwi hw 13 rfl) (hwi hw 12 rfl) (by decide) (by decide)) (g := (mkF m 283 #[.val (.int p0), .val (.int p1), .val (.int p2), .val (.int p3), .unset, .val (.ref bb), .val (.int nn), .val (.int pp), .val (.int cc), .val (.int xx), .val (.ref b8)] [(.int xx), (.int cc), (.int pp), (.int (8 : Int32)), (.ref bb), (.int (8 : Int32)), (.ref b8)])) rfl (by rw [hml]; rfl) (argsL := [(.ref bb), (.int (8 : Int32)), (.int pp), (.int cc), (.int xx)]) (rest := [(.int (8 : Int32)), (.ref b8)]) (lenOf pd_11 rfl) rfl (by show 2 * 0 + _ ≤ _; exact Nat.le_of_eq rfl) (hb hby at_283) (fun _ _ => ⟨rfl, El16, (by decide : 3 + 0 ≤ _), (by decide : 41 + 0 ≤ _)⟩)
                          dsimp only [Pt.U, Pt.locs, Pt.cells, Pt.slots] at X36 l36 y36 z36 st36 hQ36
                          replace l36 := l36.symm; replace y36 := y36.symm; replace z36 := z36.symm; subst l36 y36 z36
                          obtain ⟨az36, rfl, haz36, N36q, e36⟩ := hQ36
                          have N36 := Fr.app Nl16 N36q
                          refine Run.st (S' := T36.setTop (mkF m 286 #[.val (.int p0), .val (.int p1), .val (.int p2), .val (.int p3), .unset, .val (.ref bb), .val (.int nn), .val (.int pp), .val (.int cc), .val (.int xx), .val (.ref b8)] [(.int az36), (.int (8 : Int32)), (.ref b8)])) (fun _ k => st36 _ k) ?_
                          have sfw := (own_safeA (EL := consts_1) hZ.alike V_b8 (by decide))
                          obtain ⟨cl37, Ar37, qa37, Sa37, Na37, Ha37, Ga37⟩ := V_b8
                          have hin37 : ¬ ((8 : Int32) < 0 ∨ cl37.slots.size ≤ ((8 : Int32)).toNatClampNeg) := inb_of Sa37 ⟨by decide, hc266_35⟩
                          obtain ⟨T37, h37, X37, e37, W37, st37⟩ := stC X36 hx hZ e36 Ar37 (j := (8 : Int32)) hin37 (g := (mkF m 286 #[.val (.int p0), .val (.int p1), .val (.int p2), .val (.int p3), .unset, .val (.ref bb), .val (.int nn), .val (.int pp), .val (.int cc), .val (.int xx), .val (.ref b8)] [(.int az36), (.int (8 : Int32)), (.ref b8)])) rfl rfl (hb hby at_286)
                          have V_b8 := Arv.set Ar37 qa37 Sa37 Na37 Ha37 Ga37 (fits_nar_char _) W37 ((8 : Int32)).toNatClampNeg rfl (own_ltm (by rw [hyJ.2]; exact own_clt (by decide) hc266_35))
                          rw [own_set] at V_b8
                          have OL := OL.wr W37 g_b8
                          have CR := CR.trans (CHr.wr W37 sfw CR.1)
                          have E_bb := E_bb.wr W37
                          have F_coder_bb := F_coder_bb.other W37 (Or.inl ne_bb_b8)
                          have F_value_bb := F_value_bb.other W37 (Or.inl ne_bb_b8)
                          have V_tb := V_tb.other W37 ne_tb_b8
                          have N37 := Fr.snoc X37 N36 g_b8
                          have Kp := Kp.wr W37 (Or.inr sz_b8)
                          have Zn := Nat.le_trans Zn (Nat.le_of_eq W37.size.symm)
                          have hk := Nat.le_trans hk (Nat.le_of_eq W37.size.symm)
                          refine Run.st (S' := T37.setTop (mkF m 287 #[.val (.int p0), .val (.int p1), .val (.int p2), .val (.int p3), .unset, .val (.ref bb), .val (.int nn), .val (.int pp), .val (.int cc), .val (.int xx), .val (.ref b8)] [])) (fun _ k => st37 _ k) ?_
                          exact JH17 (c8.set ((8 : Int32)).toNatClampNeg (nar .char az36)) _ _ ⟨_, _, _, X37, N37, e37, hS, hk, hZ, hown, CR⟩ Zn Kp OL E_bb F_coder_bb F_value_bb V_tb V_b8 ⟨own_setR hyJ.1 haz36, by rw [List.length_set]; exact hyJ.2⟩
                        · refine Run.st (S' := Tl16.setTop (mkF m 287 #[.val (.int p0), .val (.int p1), .val (.int p2), .val (.int p3), .unset, .val (.ref bb), .val (.int nn), .val (.int pp), .val (.int cc), .val (.int xx), .val (.ref b8)] [])) (fun _ k => XS.icmpYes Xl16.here hx rfl (pc0 := 266) (pc' := 287) rfl (hb hby at_266) rfl (flt hc266_35).2.2.2 (by decide) (by decide) k) ?_
                          exact JH17 c8 _ _ ⟨_, _, _, Xl16, Nl16, El16, hS, hk, hZ, hown, CR⟩ Zn Kp OL E_bb F_coder_bb F_value_bb V_tb V_b8 hyJ
                      refine Run.st (S' := Tl15.setTop (mkF m 241 #[.val (.int p0), .val (.int p1), .val (.int p2), .val (.int p3), .unset, .val (.ref bb), .val (.int nn), .val (.int pp), .val (.int cc), .val (.int xx), .val (.ref b8)] [(.int (7 : Int32)), (.int nn)])) (fun _ k => XS.iload Xl15.here hx rfl (hb hby at_237) rfl (XS.bipush Xl15.here hx rfl (hb hby at_239) k)) ?_
                      by_cases hc241_38 : (7 : Int32) < nn
                      · refine Run.st (S' := Tl15.setTop (mkF m 258 #[.val (.int p0), .val (.int p1), .val (.int p2), .val (.int p3), .unset, .val (.ref bb), .val (.int nn), .val (.int pp), .val (.int cc), .val (.int xx), .val (.ref b8)] [(.int xx), (.int cc), (.int pp), (.int (7 : Int32)), (.ref bb), (.int (7 : Int32)), (.ref b8)])) (fun _ k => XS.icmpNo Xl15.here hx rfl (hb hby at_241) rfl (tlt hc241_38).2.2.2 (XS.aload Xl15.here hx rfl (hb hby at_244) rfl rfl (XS.bipush Xl15.here hx rfl (hb hby at_246) (XS.aload Xl15.here hx rfl (hb hby at_248) rfl rfl (XS.bipush Xl15.here hx rfl (hb hby at_250) (XS.iload Xl15.here hx rfl (hb hby at_252) rfl (XS.iload Xl15.here hx rfl (hb hby at_254) rfl (XS.iload Xl15.here hx rfl (hb hby at_256) rfl k)))))))) ?_
                        obtain ⟨_, _, ⟨T39, L39, k39, n39⟩, -, X39, ⟨Lc39, hQ39, l39, y39, z39⟩, st39⟩ := Jvm.LawKit.callS Xl15 hx (y := (⟨"com/example/heading_kin/headingkin/io/RecordFormatLabelledPinLaw", "at", "(Ljava/lang/String;IICC)C"⟩ : MethodName)) hown (mvT hZ (hwi hw 10 rfl)) (mvT hZ (hwi hw 11 rfl)) (mvT hZ (hwi hw 12 rfl)) (mvT hZ (hwi hw 13 rfl)) (by decide) (backOf (W := 2) (rmAt l Z aV hw [] bb (7 : Int32) pp cc xx tb kb cb zc fm Hl15 n0 Zn OL hzc rfm hyB.1 hyB.2 (by decide) (own_r255 hcc) (own_r255 hxx) E_bb F_coder_bb F_value_bb V_tb S_cs S_sf) hZ (hwi hw 13 rfl) (hwi hw 12 rfl) (by decide) (by decide)) (g := (mkF m 258 #[.val (.int p0), .val (.int p1), .val (.int p2), .val (.int p3), .unset, .val (.ref bb), .val (.int nn), .val (.int pp), .val (.int cc), .val (.int xx), .val (.ref b8)] [(.int xx), (.int cc), (.int pp), (.int (7 : Int32)), (.ref bb), (.int (7 : Int32)), (.ref b8)])) rfl (by rw [hml]; rfl) (argsL := [(.ref bb), (.int (7 : Int32)), (.int pp), (.int cc), (.int xx)]) (rest := [(.int (7 : Int32)), (.ref b8)]) (lenOf pd_11 rfl) rfl (by show 2 * 0 + _ ≤ _; exact Nat.le_of_eq rfl) (hb hby at_258) (fun _ _ => ⟨rfl, El15, (by decide : 3 + 0 ≤ _), (by decide : 41 + 0 ≤ _)⟩)
                        dsimp only [Pt.U, Pt.locs, Pt.cells, Pt.slots] at X39 l39 y39 z39 st39 hQ39
                        replace l39 := l39.symm; replace y39 := y39.symm; replace z39 := z39.symm; subst l39 y39 z39
                        obtain ⟨az39, rfl, haz39, N39q, e39⟩ := hQ39
                        have N39 := Fr.app Nl15 N39q
                        refine Run.st (S' := T39.setTop (mkF m 261 #[.val (.int p0), .val (.int p1), .val (.int p2), .val (.int p3), .unset, .val (.ref bb), .val (.int nn), .val (.int pp), .val (.int cc), .val (.int xx), .val (.ref b8)] [(.int az39), (.int (7 : Int32)), (.ref b8)])) (fun _ k => st39 _ k) ?_
                        have sfw := (own_safeA (EL := consts_1) hZ.alike V_b8 (by decide))
                        obtain ⟨cl40, Ar40, qa40, Sa40, Na40, Ha40, Ga40⟩ := V_b8
                        have hin40 : ¬ ((7 : Int32) < 0 ∨ cl40.slots.size ≤ ((7 : Int32)).toNatClampNeg) := inb_of Sa40 ⟨by decide, hc241_38⟩
                        obtain ⟨T40, h40, X40, e40, W40, st40⟩ := stC X39 hx hZ e39 Ar40 (j := (7 : Int32)) hin40 (g := (mkF m 261 #[.val (.int p0), .val (.int p1), .val (.int p2), .val (.int p3), .unset, .val (.ref bb), .val (.int nn), .val (.int pp), .val (.int cc), .val (.int xx), .val (.ref b8)] [(.int az39), (.int (7 : Int32)), (.ref b8)])) rfl rfl (hb hby at_261)
                        have V_b8 := Arv.set Ar40 qa40 Sa40 Na40 Ha40 Ga40 (fits_nar_char _) W40 ((7 : Int32)).toNatClampNeg rfl (own_ltm (by rw [hyJ.2]; exact own_clt (by decide) hc241_38))
                        rw [own_set] at V_b8
                        have OL := OL.wr W40 g_b8
                        have CR := CR.trans (CHr.wr W40 sfw CR.1)
                        have E_bb := E_bb.wr W40
                        have F_coder_bb := F_coder_bb.other W40 (Or.inl ne_bb_b8)
                        have F_value_bb := F_value_bb.other W40 (Or.inl ne_bb_b8)
                        have V_tb := V_tb.other W40 ne_tb_b8
                        have N40 := Fr.snoc X40 N39 g_b8
                        have Kp := Kp.wr W40 (Or.inr sz_b8)
                        have Zn := Nat.le_trans Zn (Nat.le_of_eq W40.size.symm)
                        have hk := Nat.le_trans hk (Nat.le_of_eq W40.size.symm)
                        refine Run.st (S' := T40.setTop (mkF m 262 #[.val (.int p0), .val (.int p1), .val (.int p2), .val (.int p3), .unset, .val (.ref bb), .val (.int nn), .val (.int pp), .val (.int cc), .val (.int xx), .val (.ref b8)] [])) (fun _ k => st40 _ k) ?_
                        exact JH16 (c7.set ((7 : Int32)).toNatClampNeg (nar .char az39)) _ _ ⟨_, _, _, X40, N40, e40, hS, hk, hZ, hown, CR⟩ Zn Kp OL E_bb F_coder_bb F_value_bb V_tb V_b8 ⟨own_setR hyJ.1 haz39, by rw [List.length_set]; exact hyJ.2⟩
                      · refine Run.st (S' := Tl15.setTop (mkF m 262 #[.val (.int p0), .val (.int p1), .val (.int p2), .val (.int p3), .unset, .val (.ref bb), .val (.int nn), .val (.int pp), .val (.int cc), .val (.int xx), .val (.ref b8)] [])) (fun _ k => XS.icmpYes Xl15.here hx rfl (pc0 := 241) (pc' := 262) rfl (hb hby at_241) rfl (flt hc241_38).2.2.2 (by decide) (by decide) k) ?_
                        exact JH16 c7 _ _ ⟨_, _, _, Xl15, Nl15, El15, hS, hk, hZ, hown, CR⟩ Zn Kp OL E_bb F_coder_bb F_value_bb V_tb V_b8 hyJ
                    refine Run.st (S' := Tl14.setTop (mkF m 216 #[.val (.int p0), .val (.int p1), .val (.int p2), .val (.int p3), .unset, .val (.ref bb), .val (.int nn), .val (.int pp), .val (.int cc), .val (.int xx), .val (.ref b8)] [(.int (6 : Int32)), (.int nn)])) (fun _ k => XS.iload Xl14.here hx rfl (hb hby at_212) rfl (XS.bipush Xl14.here hx rfl (hb hby at_214) k)) ?_
                    by_cases hc216_41 : (6 : Int32) < nn
                    · refine Run.st (S' := Tl14.setTop (mkF m 233 #[.val (.int p0), .val (.int p1), .val (.int p2), .val (.int p3), .unset, .val (.ref bb), .val (.int nn), .val (.int pp), .val (.int cc), .val (.int xx), .val (.ref b8)] [(.int xx), (.int cc), (.int pp), (.int (6 : Int32)), (.ref bb), (.int (6 : Int32)), (.ref b8)])) (fun _ k => XS.icmpNo Xl14.here hx rfl (hb hby at_216) rfl (tlt hc216_41).2.2.2 (XS.aload Xl14.here hx rfl (hb hby at_219) rfl rfl (XS.bipush Xl14.here hx rfl (hb hby at_221) (XS.aload Xl14.here hx rfl (hb hby at_223) rfl rfl (XS.bipush Xl14.here hx rfl (hb hby at_225) (XS.iload Xl14.here hx rfl (hb hby at_227) rfl (XS.iload Xl14.here hx rfl (hb hby at_229) rfl (XS.iload Xl14.here hx rfl (hb hby at_231) rfl k)))))))) ?_
                      obtain ⟨_, _, ⟨T42, L42, k42, n42⟩, -, X42, ⟨Lc42, hQ42, l42, y42, z42⟩, st42⟩ := Jvm.LawKit.callS Xl14 hx (y := (⟨"com/example/heading_kin/headingkin/io/RecordFormatLabelledPinLaw", "at", "(Ljava/lang/String;IICC)C"⟩ : MethodName)) hown (mvT hZ (hwi hw 10 rfl)) (mvT hZ (hwi hw 11 rfl)) (mvT hZ (hwi hw 12 rfl)) (mvT hZ (hwi hw 13 rfl)) (by decide) (backOf (W := 2) (rmAt l Z aV hw [] bb (6 : Int32) pp cc xx tb kb cb zc fm Hl14 n0 Zn OL hzc rfm hyB.1 hyB.2 (by decide) (own_r255 hcc) (own_r255 hxx) E_bb F_coder_bb F_value_bb V_tb S_cs S_sf) hZ (hwi hw 13 rfl) (hwi hw 12 rfl) (by decide) (by decide)) (g := (mkF m 233 #[.val (.int p0), .val (.int p1), .val (.int p2), .val (.int p3), .unset, .val (.ref bb), .val (.int nn), .val (.int pp), .val (.int cc), .val (.int xx), .val (.ref b8)] [(.int xx), (.int cc), (.int pp), (.int (6 : Int32)), (.ref bb), (.int (6 : Int32)), (.ref b8)])) rfl (by rw [hml]; rfl) (argsL := [(.ref bb), (.int (6 : Int32)), (.int pp), (.int cc), (.int xx)]) (rest := [(.int (6 : Int32)), (.ref b8)]) (lenOf pd_11 rfl) rfl (by show 2 * 0 + _ ≤ _; exact Nat.le_of_eq rfl) (hb hby at_233) (fun _ _ => ⟨rfl, El14, (by decide : 3 + 0 ≤ _), (by decide : 41 + 0 ≤ _)⟩)
                      dsimp only [Pt.U, Pt.locs, Pt.cells, Pt.slots] at X42 l42 y42 z42 st42 hQ42
                      replace l42 := l42.symm; replace y42 := y42.symm; replace z42 := z42.symm; subst l42 y42 z42
                      obtain ⟨az42, rfl, haz42, N42q, e42⟩ := hQ42
                      have N42 := Fr.app Nl14 N42q
                      refine Run.st (S' := T42.setTop (mkF m 236 #[.val (.int p0), .val (.int p1), .val (.int p2), .val (.int p3), .unset, .val (.ref bb), .val (.int nn), .val (.int pp), .val (.int cc), .val (.int xx), .val (.ref b8)] [(.int az42), (.int (6 : Int32)), (.ref b8)])) (fun _ k => st42 _ k) ?_
                      have sfw := (own_safeA (EL := consts_1) hZ.alike V_b8 (by decide))
                      obtain ⟨cl43, Ar43, qa43, Sa43, Na43, Ha43, Ga43⟩ := V_b8
                      have hin43 : ¬ ((6 : Int32) < 0 ∨ cl43.slots.size ≤ ((6 : Int32)).toNatClampNeg) := inb_of Sa43 ⟨by decide, hc216_41⟩
                      obtain ⟨T43, h43, X43, e43, W43, st43⟩ := stC X42 hx hZ e42 Ar43 (j := (6 : Int32)) hin43 (g := (mkF m 236 #[.val (.int p0), .val (.int p1), .val (.int p2), .val (.int p3), .unset, .val (.ref bb), .val (.int nn), .val (.int pp), .val (.int cc), .val (.int xx), .val (.ref b8)] [(.int az42), (.int (6 : Int32)), (.ref b8)])) rfl rfl (hb hby at_236)
                      have V_b8 := Arv.set Ar43 qa43 Sa43 Na43 Ha43 Ga43 (fits_nar_char _) W43 ((6 : Int32)).toNatClampNeg rfl (own_ltm (by rw [hyJ.2]; exact own_clt (by decide) hc216_41))
                      rw [own_set] at V_b8
                      have OL := OL.wr W43 g_b8
                      have CR := CR.trans (CHr.wr W43 sfw CR.1)
                      have E_bb := E_bb.wr W43
                      have F_coder_bb := F_coder_bb.other W43 (Or.inl ne_bb_b8)
                      have F_value_bb := F_value_bb.other W43 (Or.inl ne_bb_b8)
                      have V_tb := V_tb.other W43 ne_tb_b8
                      have N43 := Fr.snoc X43 N42 g_b8
                      have Kp := Kp.wr W43 (Or.inr sz_b8)
                      have Zn := Nat.le_trans Zn (Nat.le_of_eq W43.size.symm)
                      have hk := Nat.le_trans hk (Nat.le_of_eq W43.size.symm)
                      refine Run.st (S' := T43.setTop (mkF m 237 #[.val (.int p0), .val (.int p1), .val (.int p2), .val (.int p3), .unset, .val (.ref bb), .val (.int nn), .val (.int pp), .val (.int cc), .val (.int xx), .val (.ref b8)] [])) (fun _ k => st43 _ k) ?_
                      exact JH15 (c6.set ((6 : Int32)).toNatClampNeg (nar .char az42)) _ _ ⟨_, _, _, X43, N43, e43, hS, hk, hZ, hown, CR⟩ Zn Kp OL E_bb F_coder_bb F_value_bb V_tb V_b8 ⟨own_setR hyJ.1 haz42, by rw [List.length_set]; exact hyJ.2⟩
                    · refine Run.st (S' := Tl14.setTop (mkF m 237 #[.val (.int p0), .val (.int p1), .val (.int p2), .val (.int p3), .unset, .val (.ref bb), .val (.int nn), .val (.int pp), .val (.int cc), .val (.int xx), .val (.ref b8)] [])) (fun _ k => XS.icmpYes Xl14.here hx rfl (pc0 := 216) (pc' := 237) rfl (hb hby at_216) rfl (flt hc216_41).2.2.2 (by decide) (by decide) k) ?_
                      exact JH15 c6 _ _ ⟨_, _, _, Xl14, Nl14, El14, hS, hk, hZ, hown, CR⟩ Zn Kp OL E_bb F_coder_bb F_value_bb V_tb V_b8 hyJ
                  refine Run.st (S' := Tl13.setTop (mkF m 193 #[.val (.int p0), .val (.int p1), .val (.int p2), .val (.int p3), .unset, .val (.ref bb), .val (.int nn), .val (.int pp), .val (.int cc), .val (.int xx), .val (.ref b8)] [(.int (5 : Int32)), (.int nn)])) (fun _ k => XS.iload Xl13.here hx rfl (hb hby at_190) rfl (XS.iconst Xl13.here hx rfl (hb hby at_192) k)) ?_
                  by_cases hc193_44 : (5 : Int32) < nn
                  · refine Run.st (S' := Tl13.setTop (mkF m 208 #[.val (.int p0), .val (.int p1), .val (.int p2), .val (.int p3), .unset, .val (.ref bb), .val (.int nn), .val (.int pp), .val (.int cc), .val (.int xx), .val (.ref b8)] [(.int xx), (.int cc), (.int pp), (.int (5 : Int32)), (.ref bb), (.int (5 : Int32)), (.ref b8)])) (fun _ k => XS.icmpNo Xl13.here hx rfl (hb hby at_193) rfl (tlt hc193_44).2.2.2 (XS.aload Xl13.here hx rfl (hb hby at_196) rfl rfl (XS.iconst Xl13.here hx rfl (hb hby at_198) (XS.aload Xl13.here hx rfl (hb hby at_199) rfl rfl (XS.iconst Xl13.here hx rfl (hb hby at_201) (XS.iload Xl13.here hx rfl (hb hby at_202) rfl (XS.iload Xl13.here hx rfl (hb hby at_204) rfl (XS.iload Xl13.here hx rfl (hb hby at_206) rfl k)))))))) ?_
                    obtain ⟨_, _, ⟨T45, L45, k45, n45⟩, -, X45, ⟨Lc45, hQ45, l45, y45, z45⟩, st45⟩ := Jvm.LawKit.callS Xl13 hx (y := (⟨"com/example/heading_kin/headingkin/io/RecordFormatLabelledPinLaw", "at", "(Ljava/lang/String;IICC)C"⟩ : MethodName)) hown (mvT hZ (hwi hw 10 rfl)) (mvT hZ (hwi hw 11 rfl)) (mvT hZ (hwi hw 12 rfl)) (mvT hZ (hwi hw 13 rfl)) (by decide) (backOf (W := 2) (rmAt l Z aV hw [] bb (5 : Int32) pp cc xx tb kb cb zc fm Hl13 n0 Zn OL hzc rfm hyB.1 hyB.2 (by decide) (own_r255 hcc) (own_r255 hxx) E_bb F_coder_bb F_value_bb V_tb S_cs S_sf) hZ (hwi hw 13 rfl) (hwi hw 12 rfl) (by decide) (by decide)) (g := (mkF m 208 #[.val (.int p0), .val (.int p1), .val (.int p2), .val (.int p3), .unset, .val (.ref bb), .val (.int nn), .val (.int pp), .val (.int cc), .val (.int xx), .val (.ref b8)] [(.int xx), (.int cc), (.int pp), (.int (5 : Int32)), (.ref bb), (.int (5 : Int32)), (.ref b8)])) rfl (by rw [hml]; rfl) (argsL := [(.ref bb), (.int (5 : Int32)), (.int pp), (.int cc), (.int xx)]) (rest := [(.int (5 : Int32)), (.ref b8)]) (lenOf pd_11 rfl) rfl (by show 2 * 0 + _ ≤ _; exact Nat.le_of_eq rfl) (hb hby at_208) (fun _ _ => ⟨rfl, El13, (by decide : 3 + 0 ≤ _), (by decide : 41 + 0 ≤ _)⟩)
                    dsimp only [Pt.U, Pt.locs, Pt.cells, Pt.slots] at X45 l45 y45 z45 st45 hQ45
                    replace l45 := l45.symm; replace y45 := y45.symm; replace z45 := z45.symm; subst l45 y45 z45
                    obtain ⟨az45, rfl, haz45, N45q, e45⟩ := hQ45
                    have N45 := Fr.app Nl13 N45q
                    refine Run.st (S' := T45.setTop (mkF m 211 #[.val (.int p0), .val (.int p1), .val (.int p2), .val (.int p3), .unset, .val (.ref bb), .val (.int nn), .val (.int pp), .val (.int cc), .val (.int xx), .val (.ref b8)] [(.int az45), (.int (5 : Int32)), (.ref b8)])) (fun _ k => st45 _ k) ?_
                    have sfw := (own_safeA (EL := consts_1) hZ.alike V_b8 (by decide))
                    obtain ⟨cl46, Ar46, qa46, Sa46, Na46, Ha46, Ga46⟩ := V_b8
                    have hin46 : ¬ ((5 : Int32) < 0 ∨ cl46.slots.size ≤ ((5 : Int32)).toNatClampNeg) := inb_of Sa46 ⟨by decide, hc193_44⟩
                    obtain ⟨T46, h46, X46, e46, W46, st46⟩ := stC X45 hx hZ e45 Ar46 (j := (5 : Int32)) hin46 (g := (mkF m 211 #[.val (.int p0), .val (.int p1), .val (.int p2), .val (.int p3), .unset, .val (.ref bb), .val (.int nn), .val (.int pp), .val (.int cc), .val (.int xx), .val (.ref b8)] [(.int az45), (.int (5 : Int32)), (.ref b8)])) rfl rfl (hb hby at_211)
                    have V_b8 := Arv.set Ar46 qa46 Sa46 Na46 Ha46 Ga46 (fits_nar_char _) W46 ((5 : Int32)).toNatClampNeg rfl (own_ltm (by rw [hyJ.2]; exact own_clt (by decide) hc193_44))
                    rw [own_set] at V_b8
                    have OL := OL.wr W46 g_b8
                    have CR := CR.trans (CHr.wr W46 sfw CR.1)
                    have E_bb := E_bb.wr W46
                    have F_coder_bb := F_coder_bb.other W46 (Or.inl ne_bb_b8)
                    have F_value_bb := F_value_bb.other W46 (Or.inl ne_bb_b8)
                    have V_tb := V_tb.other W46 ne_tb_b8
                    have N46 := Fr.snoc X46 N45 g_b8
                    have Kp := Kp.wr W46 (Or.inr sz_b8)
                    have Zn := Nat.le_trans Zn (Nat.le_of_eq W46.size.symm)
                    have hk := Nat.le_trans hk (Nat.le_of_eq W46.size.symm)
                    refine Run.st (S' := T46.setTop (mkF m 212 #[.val (.int p0), .val (.int p1), .val (.int p2), .val (.int p3), .unset, .val (.ref bb), .val (.int nn), .val (.int pp), .val (.int cc), .val (.int xx), .val (.ref b8)] [])) (fun _ k => st46 _ k) ?_
                    exact JH14 (c5.set ((5 : Int32)).toNatClampNeg (nar .char az45)) _ _ ⟨_, _, _, X46, N46, e46, hS, hk, hZ, hown, CR⟩ Zn Kp OL E_bb F_coder_bb F_value_bb V_tb V_b8 ⟨own_setR hyJ.1 haz45, by rw [List.length_set]; exact hyJ.2⟩
                  · refine Run.st (S' := Tl13.setTop (mkF m 212 #[.val (.int p0), .val (.int p1), .val (.int p2), .val (.int p3), .unset, .val (.ref bb), .val (.int nn), .val (.int pp), .val (.int cc), .val (.int xx), .val (.ref b8)] [])) (fun _ k => XS.icmpYes Xl13.here hx rfl (pc0 := 193) (pc' := 212) rfl (hb hby at_193) rfl (flt hc193_44).2.2.2 (by decide) (by decide) k) ?_
                    exact JH14 c5 _ _ ⟨_, _, _, Xl13, Nl13, El13, hS, hk, hZ, hown, CR⟩ Zn Kp OL E_bb F_coder_bb F_value_bb V_tb V_b8 hyJ
                refine Run.st (S' := Tl12.setTop (mkF m 171 #[.val (.int p0), .val (.int p1), .val (.int p2), .val (.int p3), .unset, .val (.ref bb), .val (.int nn), .val (.int pp), .val (.int cc), .val (.int xx), .val (.ref b8)] [(.int (4 : Int32)), (.int nn)])) (fun _ k => XS.iload Xl12.here hx rfl (hb hby at_168) rfl (XS.iconst Xl12.here hx rfl (hb hby at_170) k)) ?_
                by_cases hc171_47 : (4 : Int32) < nn
                · refine Run.st (S' := Tl12.setTop (mkF m 186 #[.val (.int p0), .val (.int p1), .val (.int p2), .val (.int p3), .unset, .val (.ref bb), .val (.int nn), .val (.int pp), .val (.int cc), .val (.int xx), .val (.ref b8)] [(.int xx), (.int cc), (.int pp), (.int (4 : Int32)), (.ref bb), (.int (4 : Int32)), (.ref b8)])) (fun _ k => XS.icmpNo Xl12.here hx rfl (hb hby at_171) rfl (tlt hc171_47).2.2.2 (XS.aload Xl12.here hx rfl (hb hby at_174) rfl rfl (XS.iconst Xl12.here hx rfl (hb hby at_176) (XS.aload Xl12.here hx rfl (hb hby at_177) rfl rfl (XS.iconst Xl12.here hx rfl (hb hby at_179) (XS.iload Xl12.here hx rfl (hb hby at_180) rfl (XS.iload Xl12.here hx rfl (hb hby at_182) rfl (XS.iload Xl12.here hx rfl (hb hby at_184) rfl k)))))))) ?_
                  obtain ⟨_, _, ⟨T48, L48, k48, n48⟩, -, X48, ⟨Lc48, hQ48, l48, y48, z48⟩, st48⟩ := Jvm.LawKit.callS Xl12 hx (y := (⟨"com/example/heading_kin/headingkin/io/RecordFormatLabelledPinLaw", "at", "(Ljava/lang/String;IICC)C"⟩ : MethodName)) hown (mvT hZ (hwi hw 10 rfl)) (mvT hZ (hwi hw 11 rfl)) (mvT hZ (hwi hw 12 rfl)) (mvT hZ (hwi hw 13 rfl)) (by decide) (backOf (W := 2) (rmAt l Z aV hw [] bb (4 : Int32) pp cc xx tb kb cb zc fm Hl12 n0 Zn OL hzc rfm hyB.1 hyB.2 (by decide) (own_r255 hcc) (own_r255 hxx) E_bb F_coder_bb F_value_bb V_tb S_cs S_sf) hZ (hwi hw 13 rfl) (hwi hw 12 rfl) (by decide) (by decide)) (g := (mkF m 186 #[.val (.int p0), .val (.int p1), .val (.int p2), .val (.int p3), .unset, .val (.ref bb), .val (.int nn), .val (.int pp), .val (.int cc), .val (.int xx), .val (.ref b8)] [(.int xx), (.int cc), (.int pp), (.int (4 : Int32)), (.ref bb), (.int (4 : Int32)), (.ref b8)])) rfl (by rw [hml]; rfl) (argsL := [(.ref bb), (.int (4 : Int32)), (.int pp), (.int cc), (.int xx)]) (rest := [(.int (4 : Int32)), (.ref b8)]) (lenOf pd_11 rfl) rfl (by show 2 * 0 + _ ≤ _; exact Nat.le_of_eq rfl) (hb hby at_186) (fun _ _ => ⟨rfl, El12, (by decide : 3 + 0 ≤ _), (by decide : 41 + 0 ≤ _)⟩)
                  dsimp only [Pt.U, Pt.locs, Pt.cells, Pt.slots] at X48 l48 y48 z48 st48 hQ48
                  replace l48 := l48.symm; replace y48 := y48.symm; replace z48 := z48.symm; subst l48 y48 z48
                  obtain ⟨az48, rfl, haz48, N48q, e48⟩ := hQ48
                  have N48 := Fr.app Nl12 N48q
                  refine Run.st (S' := T48.setTop (mkF m 189 #[.val (.int p0), .val (.int p1), .val (.int p2), .val (.int p3), .unset, .val (.ref bb), .val (.int nn), .val (.int pp), .val (.int cc), .val (.int xx), .val (.ref b8)] [(.int az48), (.int (4 : Int32)), (.ref b8)])) (fun _ k => st48 _ k) ?_
                  have sfw := (own_safeA (EL := consts_1) hZ.alike V_b8 (by decide))
                  obtain ⟨cl49, Ar49, qa49, Sa49, Na49, Ha49, Ga49⟩ := V_b8
                  have hin49 : ¬ ((4 : Int32) < 0 ∨ cl49.slots.size ≤ ((4 : Int32)).toNatClampNeg) := inb_of Sa49 ⟨by decide, hc171_47⟩
                  obtain ⟨T49, h49, X49, e49, W49, st49⟩ := stC X48 hx hZ e48 Ar49 (j := (4 : Int32)) hin49 (g := (mkF m 189 #[.val (.int p0), .val (.int p1), .val (.int p2), .val (.int p3), .unset, .val (.ref bb), .val (.int nn), .val (.int pp), .val (.int cc), .val (.int xx), .val (.ref b8)] [(.int az48), (.int (4 : Int32)), (.ref b8)])) rfl rfl (hb hby at_189)
                  have V_b8 := Arv.set Ar49 qa49 Sa49 Na49 Ha49 Ga49 (fits_nar_char _) W49 ((4 : Int32)).toNatClampNeg rfl (own_ltm (by rw [hyJ.2]; exact own_clt (by decide) hc171_47))
                  rw [own_set] at V_b8
                  have OL := OL.wr W49 g_b8
                  have CR := CR.trans (CHr.wr W49 sfw CR.1)
                  have E_bb := E_bb.wr W49
                  have F_coder_bb := F_coder_bb.other W49 (Or.inl ne_bb_b8)
                  have F_value_bb := F_value_bb.other W49 (Or.inl ne_bb_b8)
                  have V_tb := V_tb.other W49 ne_tb_b8
                  have N49 := Fr.snoc X49 N48 g_b8
                  have Kp := Kp.wr W49 (Or.inr sz_b8)
                  have Zn := Nat.le_trans Zn (Nat.le_of_eq W49.size.symm)
                  have hk := Nat.le_trans hk (Nat.le_of_eq W49.size.symm)
                  refine Run.st (S' := T49.setTop (mkF m 190 #[.val (.int p0), .val (.int p1), .val (.int p2), .val (.int p3), .unset, .val (.ref bb), .val (.int nn), .val (.int pp), .val (.int cc), .val (.int xx), .val (.ref b8)] [])) (fun _ k => st49 _ k) ?_
                  exact JH13 (c4.set ((4 : Int32)).toNatClampNeg (nar .char az48)) _ _ ⟨_, _, _, X49, N49, e49, hS, hk, hZ, hown, CR⟩ Zn Kp OL E_bb F_coder_bb F_value_bb V_tb V_b8 ⟨own_setR hyJ.1 haz48, by rw [List.length_set]; exact hyJ.2⟩
                · refine Run.st (S' := Tl12.setTop (mkF m 190 #[.val (.int p0), .val (.int p1), .val (.int p2), .val (.int p3), .unset, .val (.ref bb), .val (.int nn), .val (.int pp), .val (.int cc), .val (.int xx), .val (.ref b8)] [])) (fun _ k => XS.icmpYes Xl12.here hx rfl (pc0 := 171) (pc' := 190) rfl (hb hby at_171) rfl (flt hc171_47).2.2.2 (by decide) (by decide) k) ?_
                  exact JH13 c4 _ _ ⟨_, _, _, Xl12, Nl12, El12, hS, hk, hZ, hown, CR⟩ Zn Kp OL E_bb F_coder_bb F_value_bb V_tb V_b8 hyJ
              refine Run.st (S' := Tl11.setTop (mkF m 149 #[.val (.int p0), .val (.int p1), .val (.int p2), .val (.int p3), .unset, .val (.ref bb), .val (.int nn), .val (.int pp), .val (.int cc), .val (.int xx), .val (.ref b8)] [(.int (3 : Int32)), (.int nn)])) (fun _ k => XS.iload Xl11.here hx rfl (hb hby at_146) rfl (XS.iconst Xl11.here hx rfl (hb hby at_148) k)) ?_
              by_cases hc149_50 : (3 : Int32) < nn
              · refine Run.st (S' := Tl11.setTop (mkF m 164 #[.val (.int p0), .val (.int p1), .val (.int p2), .val (.int p3), .unset, .val (.ref bb), .val (.int nn), .val (.int pp), .val (.int cc), .val (.int xx), .val (.ref b8)] [(.int xx), (.int cc), (.int pp), (.int (3 : Int32)), (.ref bb), (.int (3 : Int32)), (.ref b8)])) (fun _ k => XS.icmpNo Xl11.here hx rfl (hb hby at_149) rfl (tlt hc149_50).2.2.2 (XS.aload Xl11.here hx rfl (hb hby at_152) rfl rfl (XS.iconst Xl11.here hx rfl (hb hby at_154) (XS.aload Xl11.here hx rfl (hb hby at_155) rfl rfl (XS.iconst Xl11.here hx rfl (hb hby at_157) (XS.iload Xl11.here hx rfl (hb hby at_158) rfl (XS.iload Xl11.here hx rfl (hb hby at_160) rfl (XS.iload Xl11.here hx rfl (hb hby at_162) rfl k)))))))) ?_
                obtain ⟨_, _, ⟨T51, L51, k51, n51⟩, -, X51, ⟨Lc51, hQ51, l51, y51, z51⟩, st51⟩ := Jvm.LawKit.callS Xl11 hx (y := (⟨"com/example/heading_kin/headingkin/io/RecordFormatLabelledPinLaw", "at", "(Ljava/lang/String;IICC)C"⟩ : MethodName)) hown (mvT hZ (hwi hw 10 rfl)) (mvT hZ (hwi hw 11 rfl)) (mvT hZ (hwi hw 12 rfl)) (mvT hZ (hwi hw 13 rfl)) (by decide) (backOf (W := 2) (rmAt l Z aV hw [] bb (3 : Int32) pp cc xx tb kb cb zc fm Hl11 n0 Zn OL hzc rfm hyB.1 hyB.2 (by decide) (own_r255 hcc) (own_r255 hxx) E_bb F_coder_bb F_value_bb V_tb S_cs S_sf) hZ (hwi hw 13 rfl) (hwi hw 12 rfl) (by decide) (by decide)) (g := (mkF m 164 #[.val (.int p0), .val (.int p1), .val (.int p2), .val (.int p3), .unset, .val (.ref bb), .val (.int nn), .val (.int pp), .val (.int cc), .val (.int xx), .val (.ref b8)] [(.int xx), (.int cc), (.int pp), (.int (3 : Int32)), (.ref bb), (.int (3 : Int32)), (.ref b8)])) rfl (by rw [hml]; rfl) (argsL := [(.ref bb), (.int (3 : Int32)), (.int pp), (.int cc), (.int xx)]) (rest := [(.int (3 : Int32)), (.ref b8)]) (lenOf pd_11 rfl) rfl (by show 2 * 0 + _ ≤ _; exact Nat.le_of_eq rfl) (hb hby at_164) (fun _ _ => ⟨rfl, El11, (by decide : 3 + 0 ≤ _), (by decide : 41 + 0 ≤ _)⟩)
                dsimp only [Pt.U, Pt.locs, Pt.cells, Pt.slots] at X51 l51 y51 z51 st51 hQ51
                replace l51 := l51.symm; replace y51 := y51.symm; replace z51 := z51.symm; subst l51 y51 z51
                obtain ⟨az51, rfl, haz51, N51q, e51⟩ := hQ51
                have N51 := Fr.app Nl11 N51q
                refine Run.st (S' := T51.setTop (mkF m 167 #[.val (.int p0), .val (.int p1), .val (.int p2), .val (.int p3), .unset, .val (.ref bb), .val (.int nn), .val (.int pp), .val (.int cc), .val (.int xx), .val (.ref b8)] [(.int az51), (.int (3 : Int32)), (.ref b8)])) (fun _ k => st51 _ k) ?_
                have sfw := (own_safeA (EL := consts_1) hZ.alike V_b8 (by decide))
                obtain ⟨cl52, Ar52, qa52, Sa52, Na52, Ha52, Ga52⟩ := V_b8
                have hin52 : ¬ ((3 : Int32) < 0 ∨ cl52.slots.size ≤ ((3 : Int32)).toNatClampNeg) := inb_of Sa52 ⟨by decide, hc149_50⟩
                obtain ⟨T52, h52, X52, e52, W52, st52⟩ := stC X51 hx hZ e51 Ar52 (j := (3 : Int32)) hin52 (g := (mkF m 167 #[.val (.int p0), .val (.int p1), .val (.int p2), .val (.int p3), .unset, .val (.ref bb), .val (.int nn), .val (.int pp), .val (.int cc), .val (.int xx), .val (.ref b8)] [(.int az51), (.int (3 : Int32)), (.ref b8)])) rfl rfl (hb hby at_167)
                have V_b8 := Arv.set Ar52 qa52 Sa52 Na52 Ha52 Ga52 (fits_nar_char _) W52 ((3 : Int32)).toNatClampNeg rfl (own_ltm (by rw [hyJ.2]; exact own_clt (by decide) hc149_50))
                rw [own_set] at V_b8
                have OL := OL.wr W52 g_b8
                have CR := CR.trans (CHr.wr W52 sfw CR.1)
                have E_bb := E_bb.wr W52
                have F_coder_bb := F_coder_bb.other W52 (Or.inl ne_bb_b8)
                have F_value_bb := F_value_bb.other W52 (Or.inl ne_bb_b8)
                have V_tb := V_tb.other W52 ne_tb_b8
                have N52 := Fr.snoc X52 N51 g_b8
                have Kp := Kp.wr W52 (Or.inr sz_b8)
                have Zn := Nat.le_trans Zn (Nat.le_of_eq W52.size.symm)
                have hk := Nat.le_trans hk (Nat.le_of_eq W52.size.symm)
                refine Run.st (S' := T52.setTop (mkF m 168 #[.val (.int p0), .val (.int p1), .val (.int p2), .val (.int p3), .unset, .val (.ref bb), .val (.int nn), .val (.int pp), .val (.int cc), .val (.int xx), .val (.ref b8)] [])) (fun _ k => st52 _ k) ?_
                exact JH12 (c3.set ((3 : Int32)).toNatClampNeg (nar .char az51)) _ _ ⟨_, _, _, X52, N52, e52, hS, hk, hZ, hown, CR⟩ Zn Kp OL E_bb F_coder_bb F_value_bb V_tb V_b8 ⟨own_setR hyJ.1 haz51, by rw [List.length_set]; exact hyJ.2⟩
              · refine Run.st (S' := Tl11.setTop (mkF m 168 #[.val (.int p0), .val (.int p1), .val (.int p2), .val (.int p3), .unset, .val (.ref bb), .val (.int nn), .val (.int pp), .val (.int cc), .val (.int xx), .val (.ref b8)] [])) (fun _ k => XS.icmpYes Xl11.here hx rfl (pc0 := 149) (pc' := 168) rfl (hb hby at_149) rfl (flt hc149_50).2.2.2 (by decide) (by decide) k) ?_
                exact JH12 c3 _ _ ⟨_, _, _, Xl11, Nl11, El11, hS, hk, hZ, hown, CR⟩ Zn Kp OL E_bb F_coder_bb F_value_bb V_tb V_b8 hyJ
            refine Run.st (S' := Tl10.setTop (mkF m 127 #[.val (.int p0), .val (.int p1), .val (.int p2), .val (.int p3), .unset, .val (.ref bb), .val (.int nn), .val (.int pp), .val (.int cc), .val (.int xx), .val (.ref b8)] [(.int (2 : Int32)), (.int nn)])) (fun _ k => XS.iload Xl10.here hx rfl (hb hby at_124) rfl (XS.iconst Xl10.here hx rfl (hb hby at_126) k)) ?_
            by_cases hc127_53 : (2 : Int32) < nn
            · refine Run.st (S' := Tl10.setTop (mkF m 142 #[.val (.int p0), .val (.int p1), .val (.int p2), .val (.int p3), .unset, .val (.ref bb), .val (.int nn), .val (.int pp), .val (.int cc), .val (.int xx), .val (.ref b8)] [(.int xx), (.int cc), (.int pp), (.int (2 : Int32)), (.ref bb), (.int (2 : Int32)), (.ref b8)])) (fun _ k => XS.icmpNo Xl10.here hx rfl (hb hby at_127) rfl (tlt hc127_53).2.2.2 (XS.aload Xl10.here hx rfl (hb hby at_130) rfl rfl (XS.iconst Xl10.here hx rfl (hb hby at_132) (XS.aload Xl10.here hx rfl (hb hby at_133) rfl rfl (XS.iconst Xl10.here hx rfl (hb hby at_135) (XS.iload Xl10.here hx rfl (hb hby at_136) rfl (XS.iload Xl10.here hx rfl (hb hby at_138) rfl (XS.iload Xl10.here hx rfl (hb hby at_140) rfl k)))))))) ?_
              obtain ⟨_, _, ⟨T54, L54, k54, n54⟩, -, X54, ⟨Lc54, hQ54, l54, y54, z54⟩, st54⟩ := Jvm.LawKit.callS Xl10 hx (y := (⟨"com/example/heading_kin/headingkin/io/RecordFormatLabelledPinLaw", "at", "(Ljava/lang/String;IICC)C"⟩ : MethodName)) hown (mvT hZ (hwi hw 10 rfl)) (mvT hZ (hwi hw 11 rfl)) (mvT hZ (hwi hw 12 rfl)) (mvT hZ (hwi hw 13 rfl)) (by decide) (backOf (W := 2) (rmAt l Z aV hw [] bb (2 : Int32) pp cc xx tb kb cb zc fm Hl10 n0 Zn OL hzc rfm hyB.1 hyB.2 (by decide) (own_r255 hcc) (own_r255 hxx) E_bb F_coder_bb F_value_bb V_tb S_cs S_sf) hZ (hwi hw 13 rfl) (hwi hw 12 rfl) (by decide) (by decide)) (g := (mkF m 142 #[.val (.int p0), .val (.int p1), .val (.int p2), .val (.int p3), .unset, .val (.ref bb), .val (.int nn), .val (.int pp), .val (.int cc), .val (.int xx), .val (.ref b8)] [(.int xx), (.int cc), (.int pp), (.int (2 : Int32)), (.ref bb), (.int (2 : Int32)), (.ref b8)])) rfl (by rw [hml]; rfl) (argsL := [(.ref bb), (.int (2 : Int32)), (.int pp), (.int cc), (.int xx)]) (rest := [(.int (2 : Int32)), (.ref b8)]) (lenOf pd_11 rfl) rfl (by show 2 * 0 + _ ≤ _; exact Nat.le_of_eq rfl) (hb hby at_142) (fun _ _ => ⟨rfl, El10, (by decide : 3 + 0 ≤ _), (by decide : 41 + 0 ≤ _)⟩)
              dsimp only [Pt.U, Pt.locs, Pt.cells, Pt.slots] at X54 l54 y54 z54 st54 hQ54
              replace l54 := l54.symm; replace y54 := y54.symm; replace z54 := z54.symm; subst l54 y54 z54
              obtain ⟨az54, rfl, haz54, N54q, e54⟩ := hQ54
              have N54 := Fr.app Nl10 N54q
              refine Run.st (S' := T54.setTop (mkF m 145 #[.val (.int p0), .val (.int p1), .val (.int p2), .val (.int p3), .unset, .val (.ref bb), .val (.int nn), .val (.int pp), .val (.int cc), .val (.int xx), .val (.ref b8)] [(.int az54), (.int (2 : Int32)), (.ref b8)])) (fun _ k => st54 _ k) ?_
              have sfw := (own_safeA (EL := consts_1) hZ.alike V_b8 (by decide))
              obtain ⟨cl55, Ar55, qa55, Sa55, Na55, Ha55, Ga55⟩ := V_b8
              have hin55 : ¬ ((2 : Int32) < 0 ∨ cl55.slots.size ≤ ((2 : Int32)).toNatClampNeg) := inb_of Sa55 ⟨by decide, hc127_53⟩
              obtain ⟨T55, h55, X55, e55, W55, st55⟩ := stC X54 hx hZ e54 Ar55 (j := (2 : Int32)) hin55 (g := (mkF m 145 #[.val (.int p0), .val (.int p1), .val (.int p2), .val (.int p3), .unset, .val (.ref bb), .val (.int nn), .val (.int pp), .val (.int cc), .val (.int xx), .val (.ref b8)] [(.int az54), (.int (2 : Int32)), (.ref b8)])) rfl rfl (hb hby at_145)
              have V_b8 := Arv.set Ar55 qa55 Sa55 Na55 Ha55 Ga55 (fits_nar_char _) W55 ((2 : Int32)).toNatClampNeg rfl (own_ltm (by rw [hyJ.2]; exact own_clt (by decide) hc127_53))
              rw [own_set] at V_b8
              have OL := OL.wr W55 g_b8
              have CR := CR.trans (CHr.wr W55 sfw CR.1)
              have E_bb := E_bb.wr W55
              have F_coder_bb := F_coder_bb.other W55 (Or.inl ne_bb_b8)
              have F_value_bb := F_value_bb.other W55 (Or.inl ne_bb_b8)
              have V_tb := V_tb.other W55 ne_tb_b8
              have N55 := Fr.snoc X55 N54 g_b8
              have Kp := Kp.wr W55 (Or.inr sz_b8)
              have Zn := Nat.le_trans Zn (Nat.le_of_eq W55.size.symm)
              have hk := Nat.le_trans hk (Nat.le_of_eq W55.size.symm)
              refine Run.st (S' := T55.setTop (mkF m 146 #[.val (.int p0), .val (.int p1), .val (.int p2), .val (.int p3), .unset, .val (.ref bb), .val (.int nn), .val (.int pp), .val (.int cc), .val (.int xx), .val (.ref b8)] [])) (fun _ k => st55 _ k) ?_
              exact JH11 (c2.set ((2 : Int32)).toNatClampNeg (nar .char az54)) _ _ ⟨_, _, _, X55, N55, e55, hS, hk, hZ, hown, CR⟩ Zn Kp OL E_bb F_coder_bb F_value_bb V_tb V_b8 ⟨own_setR hyJ.1 haz54, by rw [List.length_set]; exact hyJ.2⟩
            · refine Run.st (S' := Tl10.setTop (mkF m 146 #[.val (.int p0), .val (.int p1), .val (.int p2), .val (.int p3), .unset, .val (.ref bb), .val (.int nn), .val (.int pp), .val (.int cc), .val (.int xx), .val (.ref b8)] [])) (fun _ k => XS.icmpYes Xl10.here hx rfl (pc0 := 127) (pc' := 146) rfl (hb hby at_127) rfl (flt hc127_53).2.2.2 (by decide) (by decide) k) ?_
              exact JH11 c2 _ _ ⟨_, _, _, Xl10, Nl10, El10, hS, hk, hZ, hown, CR⟩ Zn Kp OL E_bb F_coder_bb F_value_bb V_tb V_b8 hyJ
          refine Run.st (S' := Tl9.setTop (mkF m 105 #[.val (.int p0), .val (.int p1), .val (.int p2), .val (.int p3), .unset, .val (.ref bb), .val (.int nn), .val (.int pp), .val (.int cc), .val (.int xx), .val (.ref b8)] [(.int (1 : Int32)), (.int nn)])) (fun _ k => XS.iload Xl9.here hx rfl (hb hby at_102) rfl (XS.iconst Xl9.here hx rfl (hb hby at_104) k)) ?_
          by_cases hc105_56 : (1 : Int32) < nn
          · refine Run.st (S' := Tl9.setTop (mkF m 120 #[.val (.int p0), .val (.int p1), .val (.int p2), .val (.int p3), .unset, .val (.ref bb), .val (.int nn), .val (.int pp), .val (.int cc), .val (.int xx), .val (.ref b8)] [(.int xx), (.int cc), (.int pp), (.int (1 : Int32)), (.ref bb), (.int (1 : Int32)), (.ref b8)])) (fun _ k => XS.icmpNo Xl9.here hx rfl (hb hby at_105) rfl (tlt hc105_56).2.2.2 (XS.aload Xl9.here hx rfl (hb hby at_108) rfl rfl (XS.iconst Xl9.here hx rfl (hb hby at_110) (XS.aload Xl9.here hx rfl (hb hby at_111) rfl rfl (XS.iconst Xl9.here hx rfl (hb hby at_113) (XS.iload Xl9.here hx rfl (hb hby at_114) rfl (XS.iload Xl9.here hx rfl (hb hby at_116) rfl (XS.iload Xl9.here hx rfl (hb hby at_118) rfl k)))))))) ?_
            obtain ⟨_, _, ⟨T57, L57, k57, n57⟩, -, X57, ⟨Lc57, hQ57, l57, y57, z57⟩, st57⟩ := Jvm.LawKit.callS Xl9 hx (y := (⟨"com/example/heading_kin/headingkin/io/RecordFormatLabelledPinLaw", "at", "(Ljava/lang/String;IICC)C"⟩ : MethodName)) hown (mvT hZ (hwi hw 10 rfl)) (mvT hZ (hwi hw 11 rfl)) (mvT hZ (hwi hw 12 rfl)) (mvT hZ (hwi hw 13 rfl)) (by decide) (backOf (W := 2) (rmAt l Z aV hw [] bb (1 : Int32) pp cc xx tb kb cb zc fm Hl9 n0 Zn OL hzc rfm hyB.1 hyB.2 (by decide) (own_r255 hcc) (own_r255 hxx) E_bb F_coder_bb F_value_bb V_tb S_cs S_sf) hZ (hwi hw 13 rfl) (hwi hw 12 rfl) (by decide) (by decide)) (g := (mkF m 120 #[.val (.int p0), .val (.int p1), .val (.int p2), .val (.int p3), .unset, .val (.ref bb), .val (.int nn), .val (.int pp), .val (.int cc), .val (.int xx), .val (.ref b8)] [(.int xx), (.int cc), (.int pp), (.int (1 : Int32)), (.ref bb), (.int (1 : Int32)), (.ref b8)])) rfl (by rw [hml]; rfl) (argsL := [(.ref bb), (.int (1 : Int32)), (.int pp), (.int cc), (.int xx)]) (rest := [(.int (1 : Int32)), (.ref b8)]) (lenOf pd_11 rfl) rfl (by show 2 * 0 + _ ≤ _; exact Nat.le_of_eq rfl) (hb hby at_120) (fun _ _ => ⟨rfl, El9, (by decide : 3 + 0 ≤ _), (by decide : 41 + 0 ≤ _)⟩)
            dsimp only [Pt.U, Pt.locs, Pt.cells, Pt.slots] at X57 l57 y57 z57 st57 hQ57
            replace l57 := l57.symm; replace y57 := y57.symm; replace z57 := z57.symm; subst l57 y57 z57
            obtain ⟨az57, rfl, haz57, N57q, e57⟩ := hQ57
            have N57 := Fr.app Nl9 N57q
            refine Run.st (S' := T57.setTop (mkF m 123 #[.val (.int p0), .val (.int p1), .val (.int p2), .val (.int p3), .unset, .val (.ref bb), .val (.int nn), .val (.int pp), .val (.int cc), .val (.int xx), .val (.ref b8)] [(.int az57), (.int (1 : Int32)), (.ref b8)])) (fun _ k => st57 _ k) ?_
            have sfw := (own_safeA (EL := consts_1) hZ.alike V_b8 (by decide))
            obtain ⟨cl58, Ar58, qa58, Sa58, Na58, Ha58, Ga58⟩ := V_b8
            have hin58 : ¬ ((1 : Int32) < 0 ∨ cl58.slots.size ≤ ((1 : Int32)).toNatClampNeg) := inb_of Sa58 ⟨by decide, hc105_56⟩
            obtain ⟨T58, h58, X58, e58, W58, st58⟩ := stC X57 hx hZ e57 Ar58 (j := (1 : Int32)) hin58 (g := (mkF m 123 #[.val (.int p0), .val (.int p1), .val (.int p2), .val (.int p3), .unset, .val (.ref bb), .val (.int nn), .val (.int pp), .val (.int cc), .val (.int xx), .val (.ref b8)] [(.int az57), (.int (1 : Int32)), (.ref b8)])) rfl rfl (hb hby at_123)
            have V_b8 := Arv.set Ar58 qa58 Sa58 Na58 Ha58 Ga58 (fits_nar_char _) W58 ((1 : Int32)).toNatClampNeg rfl (own_ltm (by rw [hyJ.2]; exact own_clt (by decide) hc105_56))
            rw [own_set] at V_b8
            have OL := OL.wr W58 g_b8
            have CR := CR.trans (CHr.wr W58 sfw CR.1)
            have E_bb := E_bb.wr W58
            have F_coder_bb := F_coder_bb.other W58 (Or.inl ne_bb_b8)
            have F_value_bb := F_value_bb.other W58 (Or.inl ne_bb_b8)
            have V_tb := V_tb.other W58 ne_tb_b8
            have N58 := Fr.snoc X58 N57 g_b8
            have Kp := Kp.wr W58 (Or.inr sz_b8)
            have Zn := Nat.le_trans Zn (Nat.le_of_eq W58.size.symm)
            have hk := Nat.le_trans hk (Nat.le_of_eq W58.size.symm)
            refine Run.st (S' := T58.setTop (mkF m 124 #[.val (.int p0), .val (.int p1), .val (.int p2), .val (.int p3), .unset, .val (.ref bb), .val (.int nn), .val (.int pp), .val (.int cc), .val (.int xx), .val (.ref b8)] [])) (fun _ k => st58 _ k) ?_
            exact JH10 (c1.set ((1 : Int32)).toNatClampNeg (nar .char az57)) _ _ ⟨_, _, _, X58, N58, e58, hS, hk, hZ, hown, CR⟩ Zn Kp OL E_bb F_coder_bb F_value_bb V_tb V_b8 ⟨own_setR hyJ.1 haz57, by rw [List.length_set]; exact hyJ.2⟩
          · refine Run.st (S' := Tl9.setTop (mkF m 124 #[.val (.int p0), .val (.int p1), .val (.int p2), .val (.int p3), .unset, .val (.ref bb), .val (.int nn), .val (.int pp), .val (.int cc), .val (.int xx), .val (.ref b8)] [])) (fun _ k => XS.icmpYes Xl9.here hx rfl (pc0 := 105) (pc' := 124) rfl (hb hby at_105) rfl (flt hc105_56).2.2.2 (by decide) (by decide) k) ?_
            exact JH10 c1 _ _ ⟨_, _, _, Xl9, Nl9, El9, hS, hk, hZ, hown, CR⟩ Zn Kp OL E_bb F_coder_bb F_value_bb V_tb V_b8 hyJ
        refine Run.st (S' := T8.setTop (mkF m 83 #[.val (.int p0), .val (.int p1), .val (.int p2), .val (.int p3), .unset, .val (.ref bb), .val (.int nn), .val (.int pp), .val (.int cc), .val (.int xx), .val (.ref b8)] [(.int nn)])) (fun _ k => XS.iload X8.here hx rfl (hb hby at_81) rfl k) ?_
        by_cases hc83_59 : (0 : Int32) < nn
        · refine Run.st (S' := T8.setTop (mkF m 98 #[.val (.int p0), .val (.int p1), .val (.int p2), .val (.int p3), .unset, .val (.ref bb), .val (.int nn), .val (.int pp), .val (.int cc), .val (.int xx), .val (.ref b8)] [(.int xx), (.int cc), (.int pp), (.int (0 : Int32)), (.ref bb), (.int (0 : Int32)), (.ref b8)])) (fun _ k => XS.ifNo X8.here hx rfl (hb hby at_83) rfl ((if0 _ _).trans (tlt hc83_59).2.2.2) (XS.aload X8.here hx rfl (hb hby at_86) rfl rfl (XS.iconst X8.here hx rfl (hb hby at_88) (XS.aload X8.here hx rfl (hb hby at_89) rfl rfl (XS.iconst X8.here hx rfl (hb hby at_91) (XS.iload X8.here hx rfl (hb hby at_92) rfl (XS.iload X8.here hx rfl (hb hby at_94) rfl (XS.iload X8.here hx rfl (hb hby at_96) rfl k)))))))) ?_
          obtain ⟨_, _, ⟨T60, L60, k60, n60⟩, -, X60, ⟨Lc60, hQ60, l60, y60, z60⟩, st60⟩ := Jvm.LawKit.callS X8 hx (y := (⟨"com/example/heading_kin/headingkin/io/RecordFormatLabelledPinLaw", "at", "(Ljava/lang/String;IICC)C"⟩ : MethodName)) hown (mvT hZ (hwi hw 10 rfl)) (mvT hZ (hwi hw 11 rfl)) (mvT hZ (hwi hw 12 rfl)) (mvT hZ (hwi hw 13 rfl)) (by decide) (backOf (W := 2) (rmAt l Z aV hw [] bb (0 : Int32) pp cc xx tb kb cb zc fm h8 n0 Zn OL hzc rfm hyB.1 hyB.2 (by decide) (own_r255 hcc) (own_r255 hxx) E_bb F_coder_bb F_value_bb V_tb S_cs S_sf) hZ (hwi hw 13 rfl) (hwi hw 12 rfl) (by decide) (by decide)) (g := (mkF m 98 #[.val (.int p0), .val (.int p1), .val (.int p2), .val (.int p3), .unset, .val (.ref bb), .val (.int nn), .val (.int pp), .val (.int cc), .val (.int xx), .val (.ref b8)] [(.int xx), (.int cc), (.int pp), (.int (0 : Int32)), (.ref bb), (.int (0 : Int32)), (.ref b8)])) rfl (by rw [hml]; rfl) (argsL := [(.ref bb), (.int (0 : Int32)), (.int pp), (.int cc), (.int xx)]) (rest := [(.int (0 : Int32)), (.ref b8)]) (lenOf pd_11 rfl) rfl (by show 2 * 0 + _ ≤ _; exact Nat.le_of_eq rfl) (hb hby at_98) (fun _ _ => ⟨rfl, e8, (by decide : 3 + 0 ≤ _), (by decide : 41 + 0 ≤ _)⟩)
          dsimp only [Pt.U, Pt.locs, Pt.cells, Pt.slots] at X60 l60 y60 z60 st60 hQ60
          replace l60 := l60.symm; replace y60 := y60.symm; replace z60 := z60.symm; subst l60 y60 z60
          obtain ⟨az60, rfl, haz60, N60q, e60⟩ := hQ60
          have N60 := Fr.app Nl6 N60q
          refine Run.st (S' := T60.setTop (mkF m 101 #[.val (.int p0), .val (.int p1), .val (.int p2), .val (.int p3), .unset, .val (.ref bb), .val (.int nn), .val (.int pp), .val (.int cc), .val (.int xx), .val (.ref b8)] [(.int az60), (.int (0 : Int32)), (.ref b8)])) (fun _ k => st60 _ k) ?_
          have sfw := (own_safeA (EL := consts_1) hZ.alike V_b8 (by decide))
          obtain ⟨cl61, Ar61, qa61, Sa61, Na61, Ha61, Ga61⟩ := V_b8
          have hin61 : ¬ ((0 : Int32) < 0 ∨ cl61.slots.size ≤ ((0 : Int32)).toNatClampNeg) := inb_of Sa61 ⟨by decide, hc83_59⟩
          obtain ⟨T61, h61, X61, e61, W61, st61⟩ := stC X60 hx hZ e60 Ar61 (j := (0 : Int32)) hin61 (g := (mkF m 101 #[.val (.int p0), .val (.int p1), .val (.int p2), .val (.int p3), .unset, .val (.ref bb), .val (.int nn), .val (.int pp), .val (.int cc), .val (.int xx), .val (.ref b8)] [(.int az60), (.int (0 : Int32)), (.ref b8)])) rfl rfl (hb hby at_101)
          have V_b8 := Arv.set Ar61 qa61 Sa61 Na61 Ha61 Ga61 (fits_nar_char _) W61 ((0 : Int32)).toNatClampNeg rfl (own_ltm (by rw [hyJ.2]; exact own_clt (by decide) hc83_59))
          rw [own_set] at V_b8
          have OL := OL.wr W61 g_b8
          have CR := CR.trans (CHr.wr W61 sfw CR.1)
          have E_bb := E_bb.wr W61
          have F_coder_bb := F_coder_bb.other W61 (Or.inl ne_bb_b8)
          have F_value_bb := F_value_bb.other W61 (Or.inl ne_bb_b8)
          have V_tb := V_tb.other W61 ne_tb_b8
          have N61 := Fr.snoc X61 N60 g_b8
          have Kp := Kp.wr W61 (Or.inr sz_b8)
          have Zn := Nat.le_trans Zn (Nat.le_of_eq W61.size.symm)
          have hk := Nat.le_trans hk (Nat.le_of_eq W61.size.symm)
          refine Run.st (S' := T61.setTop (mkF m 102 #[.val (.int p0), .val (.int p1), .val (.int p2), .val (.int p3), .unset, .val (.ref bb), .val (.int nn), .val (.int pp), .val (.int cc), .val (.int xx), .val (.ref b8)] [])) (fun _ k => st61 _ k) ?_
          exact JH9 ((List.replicate nn.toNatClampNeg (0 : Int32)).set ((0 : Int32)).toNatClampNeg (nar .char az60)) _ _ ⟨_, _, _, X61, N61, e61, hS, hk, hZ, hown, CR⟩ Zn Kp OL E_bb F_coder_bb F_value_bb V_tb V_b8 ⟨own_setR hyJ.1 haz60, by rw [List.length_set]; exact hyJ.2⟩
        · refine Run.st (S' := T8.setTop (mkF m 102 #[.val (.int p0), .val (.int p1), .val (.int p2), .val (.int p3), .unset, .val (.ref bb), .val (.int nn), .val (.int pp), .val (.int cc), .val (.int xx), .val (.ref b8)] [])) (fun _ k => XS.ifYes X8.here hx rfl (pc0 := 83) (pc' := 102) rfl (hb hby at_83) rfl ((if0 _ _).trans (flt hc83_59).2.2.2) (by decide) (by decide) k) ?_
          exact JH9 (List.replicate nn.toNatClampNeg (0 : Int32)) _ _ ⟨_, _, _, X8, Nl6, e8, hS, hk, hZ, hown, CR⟩ Zn Kp OL E_bb F_coder_bb F_value_bb V_tb V_b8 hyJ
      refine Run.st (S' := Tl6.setTop (mkF m 40 #[.val (.int p0), .val (.int p1), .val (.int p2), .val (.int p3), .unset, .val (.ref bb), .val (.int nn), .unset, .unset, .unset, .unset] [(.int (p0 &&& (4 : Int32)))])) (fun _ k => XS.iloadN Xl6.here hx rfl (hb hby at_37) rfl (XS.iconst Xl6.here hx rfl (hb hby at_38) (XS.iand Xl6.here hx rfl (hb hby at_39) rfl k))) ?_
      by_cases hc40_62 : (p0 &&& (4 : Int32)) = (0 : Int32)
      · refine Run.st (S' := Tl6.setTop (mkF m 56 #[.val (.int p0), .val (.int p1), .val (.int p2), .val (.int p3), .unset, .val (.ref bb), .val (.int nn), .val (.int ((p1 &&& (2147483647 : Int32)) % (9 : Int32))), .unset, .unset, .unset] [])) (fun _ k => XS.ifYes Xl6.here hx rfl (pc0 := 40) (pc' := 47) rfl (hb hby at_40) rfl ((if0 _ _).trans (teq hc40_62).1) (by decide) (by decide) (XS.iloadN Xl6.here hx rfl (hb hby at_47) rfl (Xl6.ldcInt hx hown (mvT hZ (hwi hw 8 rfl)) (g := (mkF m 48 #[.val (.int p0), .val (.int p1), .val (.int p2), .val (.int p3), .unset, .val (.ref bb), .val (.int nn), .unset, .unset, .unset, .unset] [(.int p1)])) rfl (hb hby at_48) _ (XS.iand Xl6.here hx rfl (hb hby at_50) rfl (XS.bipush Xl6.here hx rfl (hb hby at_51) (iremM Xl6 hx rfl (hb hby at_53) rfl (by decide) (XS.istore Xl6.here hx rfl (hb hby at_54) rfl (l' := #[.val (.int p0), .val (.int p1), .val (.int p2), .val (.int p3), .unset, .val (.ref bb), .val (.int nn), .val (.int ((p1 &&& (2147483647 : Int32)) % (9 : Int32))), .unset, .unset, .unset]) rfl k))))))) ?_
        exact J56_7 ((p1 &&& (2147483647 : Int32)) % (9 : Int32)) trivial
      · refine Run.st (S' := Tl6.setTop (mkF m 56 #[.val (.int p0), .val (.int p1), .val (.int p2), .val (.int p3), .unset, .val (.ref bb), .val (.int nn), .val (.int (-1 : Int32)), .unset, .unset, .unset] [])) (fun _ k => XS.ifNo Xl6.here hx rfl (hb hby at_40) rfl ((if0 _ _).trans (feq hc40_62).1) (XS.iconst Xl6.here hx rfl (hb hby at_43) (XS.goto Xl6.here hx rfl (pc0 := 44) (pc' := 54) rfl (hb hby at_44) (by decide) (by decide) (XS.istore Xl6.here hx rfl (hb hby at_54) rfl (l' := #[.val (.int p0), .val (.int p1), .val (.int p2), .val (.int p3), .unset, .val (.ref bb), .val (.int nn), .val (.int (-1 : Int32)), .unset, .unset, .unset]) rfl k)))) ?_
        exact J56_7 (-1 : Int32) trivial
    refine Run.st (S' := s₁.setTop (mkF m 16 #[.val (.int p0), .val (.int p1), .val (.int p2), .val (.int p3), .unset, .unset, .unset, .unset, .unset, .unset, .unset] [(.int (p0 &&& (1 : Int32)))])) (fun _ k => XS.iloadN X0.here hx rfl (hb hby at_13) rfl (XS.iconst X0.here hx rfl (hb hby at_14) (XS.iand X0.here hx rfl (hb hby at_15) rfl k))) ?_
    by_cases hc16_63 : (p0 &&& (1 : Int32)) = (0 : Int32)
    · refine Run.st (S' := s₁.setTop (mkF m 19 #[.val (.int p0), .val (.int p1), .val (.int p2), .val (.int p3), .unset, .unset, .unset, .unset, .unset, .unset, .unset] [])) (fun _ k => XS.ifNo X0.here hx rfl (hb hby at_16) rfl ((if0 _ _).trans (teq hc16_63).2) k) ?_
      obtain ⟨sl64, T64, h64, kk64, sb64, kb64, X64, e64, E64, hS, hk, hZ, hown, E_sl64, F_coder_sl64, F_value_sl64, V_sb64, -, -, hC, -, hne64, st64⟩ := ldcCH X0 hx hZ hown (hwi hw 0 rfl) (own_wS hw) e0 hS hk (own_EW hw) (by decide) CR.1 (z := (Int32.ofNat own_lit2.length)) own_lit2_t (by decide) (by decide) (g := (mkF m 19 #[.val (.int p0), .val (.int p1), .val (.int p2), .val (.int p3), .unset, .unset, .unset, .unset, .unset, .unset, .unset] [])) rfl (hb hby at_19) (n := 28) (by decide) (by decide) (by decide) (by decide)
      have CR := CR.trans hC
      have OL := OL.ext E64
      have Zn := Nat.le_trans Zn E64.1
      have Kp := Kp.ext E64
      refine Run.st (S' := T64.setTop (mkF m 28 #[.val (.int p0), .val (.int p1), .val (.int p2), .val (.int p3), .unset, .val (.ref sl64), .unset, .unset, .unset, .unset, .unset] [])) (fun _ k => st64 _ (XS.goto X64.here hx rfl (pc0 := 21) (pc' := 26) rfl (hb hby at_21) (by decide) (by decide) (XS.astore X64.here hx rfl (hb hby at_26) rfl rfl (l' := #[.val (.int p0), .val (.int p1), .val (.int p2), .val (.int p3), .unset, .val (.ref sl64), .unset, .unset, .unset, .unset, .unset]) rfl k))) ?_
      have E_bb := E_sl64
      have F_coder_bb := F_coder_sl64
      have F_value_bb := F_value_sl64
      have V_tb := V_sb64
      exact JH6 sl64 sb64 kb64 own_lit2 _ _ ⟨_, _, _, X64, N0, e64, hS, hk, hZ, hown, CR⟩ Zn Kp OL E_bb F_coder_bb F_value_bb V_tb ⟨own_lit2_L1, rfl⟩
    · refine Run.st (S' := s₁.setTop (mkF m 24 #[.val (.int p0), .val (.int p1), .val (.int p2), .val (.int p3), .unset, .unset, .unset, .unset, .unset, .unset, .unset] [])) (fun _ k => XS.ifYes X0.here hx rfl (pc0 := 16) (pc' := 24) rfl (hb hby at_16) rfl ((if0 _ _).trans (feq hc16_63).2) (by decide) (by decide) k) ?_
      obtain ⟨sl65, T65, h65, kk65, sb65, kb65, X65, e65, E65, hS, hk, hZ, hown, E_sl65, F_coder_sl65, F_value_sl65, V_sb65, -, -, hC, -, hne65, st65⟩ := ldcCH X0 hx hZ hown (hwi hw 108 rfl) (own_wS hw) e0 hS hk (own_EW hw) (by decide) CR.1 (z := (Int32.ofNat own_lit1.length)) own_lit1_t (by decide) (by decide) (g := (mkF m 24 #[.val (.int p0), .val (.int p1), .val (.int p2), .val (.int p3), .unset, .unset, .unset, .unset, .unset, .unset, .unset] [])) rfl (hb hby at_24) (n := 28) (by decide) (by decide) (by decide) (by decide)
      have CR := CR.trans hC
      have OL := OL.ext E65
      have Zn := Nat.le_trans Zn E65.1
      have Kp := Kp.ext E65
      refine Run.st (S' := T65.setTop (mkF m 28 #[.val (.int p0), .val (.int p1), .val (.int p2), .val (.int p3), .unset, .val (.ref sl65), .unset, .unset, .unset, .unset, .unset] [])) (fun _ k => st65 _ (XS.astore X65.here hx rfl (hb hby at_26) rfl rfl (l' := #[.val (.int p0), .val (.int p1), .val (.int p2), .val (.int p3), .unset, .val (.ref sl65), .unset, .unset, .unset, .unset, .unset]) rfl k)) ?_
      have E_bb := E_sl65
      have F_coder_bb := F_coder_sl65
      have F_value_bb := F_value_sl65
      have V_tb := V_sb65
      exact JH6 sl65 sb65 kb65 own_lit1 _ _ ⟨_, _, _, X65, N0, e65, hS, hk, hZ, hown, CR⟩ Zn Kp OL E_bb F_coder_bb F_value_bb V_tb ⟨own_lit1_L1, rfl⟩
set_option maxRecDepth 65536 in
set_option maxHeartbeats 40000000 in
theorem comes_1 {Post : Tables → Env → Array Value → State → Outcome → State → Prop} (hpost : ∀ tb e args s v u, (limb_1_1.after args s (.returned v) u = true ∧ limb_1_2.after args s (.returned v) u = true ∧ True) → ReturnedEndW s (.returned v) u (Jvm.fieldLocs frame_1_writes args s ++ Jvm.arrayLocs frame_1_arrays args s ++ Jvm.staticLocs frame_1_statics s) 24 3200 → Post tb e args s (.returned v) u) :
    ArmFor flags0 classFile x code maxLocals ret World_1 tables_1 room_1 Calls_1 rest_1 Pre_1 Post := by
  intro l hfl _ _ p e ha hc hk s m args below hf hA hF happ hP
  obtain ⟨hcalls, hrest, hpre⟩ := hP
  obtain ⟨-, -, -, hnamed, -, -, -, hat⟩ := (Spec.applies_iff hf).mp happ
  obtain ⟨hg, hn⟩ := and_e (Cond.before_iff.mp (show (Jvm.Cond.and given_1 narrow_1).before args s = true from hpre))
  obtain ⟨gv1, gv2⟩ := and_e hg
  obtain ⟨gv3, gv4⟩ := and_e gv2
  obtain ⟨gv5, gv6⟩ := and_e gv4
  obtain ⟨gv7, gv8⟩ := and_e gv6
  obtain ⟨gv9, gv10⟩ := and_e hn
  obtain ⟨gv11, gv12⟩ := and_e gv10
  obtain ⟨gv13, gv14⟩ := and_e gv12
  obtain ⟨gv15, gv16⟩ := and_e gv14
  obtain ⟨gv17, gv18⟩ := and_e gv16
  obtain ⟨gv19, gv20⟩ := and_e gv18
  obtain ⟨gv21, gv22⟩ := and_e gv20
  obtain ⟨gv23, gv24⟩ := and_e gv22
  obtain ⟨gv25, gv26⟩ := and_e gv24
  obtain ⟨gv27, gv28⟩ := and_e gv26
  obtain ⟨gv29, gv30⟩ := and_e gv28
  obtain ⟨gv31, gv32⟩ := and_e gv30
  obtain ⟨gv33, gv34⟩ := and_e gv32
  obtain ⟨gv35, gv36⟩ := and_e gv34
  obtain ⟨gv37, gv38⟩ := and_e gv36
  obtain ⟨gv39, gv40⟩ := and_e gv38
  obtain ⟨gv41, gv42⟩ := and_e gv40
  obtain ⟨gv43, gv44⟩ := and_e gv42
  obtain ⟨gv45, gv46⟩ := and_e gv44
  obtain ⟨gv47, gv48⟩ := and_e gv46
  obtain ⟨gv49, gv50⟩ := and_e gv48
  obtain ⟨gv51, gv52⟩ := and_e gv50
  obtain ⟨gv53, gv54⟩ := and_e gv52
  obtain ⟨gv55, gv56⟩ := and_e gv54
  obtain ⟨gv57, gv58⟩ := and_e gv56
  obtain ⟨gv59, gv60⟩ := and_e gv58
  obtain ⟨gv61, gv62⟩ := and_e gv60
  obtain ⟨gv63, gv64⟩ := and_e gv62
  obtain ⟨w0, w1, w2, w3, rfl⟩ : ∃ w0 w1 w2 w3 : Value, args = #[w0, w1, w2, w3] := by
    have hs : args.size = 4 := by simpa [Cond.value, given_1] using gv1
    obtain ⟨L⟩ := args
    match L, hs with
    | [w0, w1, w2, w3], _ => exact ⟨w0, w1, w2, w3, rfl⟩
  have hw := fun d (hd : d ∈ tables_1) => atoms_spec (ws := Jvm.Cond.code x code maxLocals ret :: tables_1) hat d (List.mem_cons_of_mem _ hd)
  have hfit : Fit s := fun {y c} hc i hi => by
    obtain ⟨ha, rfl⟩ := Array.getElem?_eq_some_iff.mp hc
    have q := List.all_eq_true.mp ((Array.all_eq_true_iff_forall_mem.mp hF) _ (Array.getElem_mem ha)) i (List.mem_range.mpr hi)
    simpa [Array.getElem?_eq_getElem hi] using q
  obtain ⟨hsets, hown0⟩ := atoms_of _ (rest_1_c_eq ▸ (show rest_1_c.before _ s = true from hrest))
  have hr0 := Cond.before_iff.mp hown0
  obtain ⟨i0, ei0⟩ := is_v gv3
  obtain rfl : w0 = (.int i0) := Option.some.inj ei0
  obtain ⟨i1, ei1⟩ := is_v gv5
  obtain rfl : w1 = (.int i1) := Option.some.inj ei1
  obtain ⟨i2, ei2⟩ := is_v gv7
  obtain rfl : w2 = (.int i2) := Option.some.inj ei2
  obtain ⟨i3, ei3⟩ := is_v gv8
  obtain rfl : w3 = (.int i3) := Option.some.inj ei3
  obtain ⟨s_RecordFormat__VALUES, ev_s_RecordFormat__VALUES⟩ := arr_v gv9
  have S_s_RecordFormat__VALUES : Sta s s.heap "com/example/heading_kin/headingkin/io/RecordFormat" "$VALUES" "[Lcom/example/heading_kin/headingkin/io/RecordFormat;" (.ref s_RecordFormat__VALUES) := Sta.start ev_s_RecordFormat__VALUES (Or.inr ⟨(hwi hw 62 rfl), (hwi hw 68 rfl)⟩)
  obtain ⟨cl_s_RecordFormat__VALUES, A_s_RecordFormat__VALUES⟩ := Arr.start ev_s_RecordFormat__VALUES gv9
  have E_s_RecordFormat__VALUES : Exa s s.heap s_RecordFormat__VALUES "[Lcom/example/heading_kin/headingkin/io/RecordFormat;" := Exa.start ev_s_RecordFormat__VALUES gv11
  obtain ⟨s_RecordFormat_ISO2709, ev_s_RecordFormat_ISO2709⟩ := exa_v gv15
  have S_s_RecordFormat_ISO2709 : Sta s s.heap "com/example/heading_kin/headingkin/io/RecordFormat" "ISO2709" "Lcom/example/heading_kin/headingkin/io/RecordFormat;" (.ref s_RecordFormat_ISO2709) := Sta.start ev_s_RecordFormat_ISO2709 (Or.inr ⟨(hwi hw 62 rfl), (hwi hw 76 rfl)⟩)
  have E_s_RecordFormat_ISO2709 : Exa s s.heap s_RecordFormat_ISO2709 "com/example/heading_kin/headingkin/io/RecordFormat" := Exa.start ev_s_RecordFormat_ISO2709 gv15
  obtain ⟨s_RecordFormat_MARCXML, ev_s_RecordFormat_MARCXML⟩ := exa_v gv19
  have S_s_RecordFormat_MARCXML : Sta s s.heap "com/example/heading_kin/headingkin/io/RecordFormat" "MARCXML" "Lcom/example/heading_kin/headingkin/io/RecordFormat;" (.ref s_RecordFormat_MARCXML) := Sta.start ev_s_RecordFormat_MARCXML (Or.inr ⟨(hwi hw 62 rfl), (hwi hw 77 rfl)⟩)
  have E_s_RecordFormat_MARCXML : Exa s s.heap s_RecordFormat_MARCXML "com/example/heading_kin/headingkin/io/RecordFormat" := Exa.start ev_s_RecordFormat_MARCXML gv19
  obtain ⟨s_RecordFormat_ISO2709_label, ev_s_RecordFormat_ISO2709_label⟩ := exa_v gv23
  have F_s_RecordFormat_ISO2709_label : Fld s s.heap s_RecordFormat_ISO2709 "com/example/heading_kin/headingkin/io/RecordFormat" "label" "Ljava/lang/String;" (.ref s_RecordFormat_ISO2709_label) := Fld.start (by rw [← fld_at ev_s_RecordFormat_ISO2709]; exact ev_s_RecordFormat_ISO2709_label)
  have E_s_RecordFormat_ISO2709_label : Exa s s.heap s_RecordFormat_ISO2709_label "java/lang/String" := Exa.start ev_s_RecordFormat_ISO2709_label gv23
  obtain ⟨s_RecordFormat_ISO2709_label_value, ev_s_RecordFormat_ISO2709_label_value⟩ := arr_v gv27
  have F_s_RecordFormat_ISO2709_label_value : Fld s s.heap s_RecordFormat_ISO2709_label "java/lang/String" "value" "[B" (.ref s_RecordFormat_ISO2709_label_value) := Fld.start (by rw [← fld_at ev_s_RecordFormat_ISO2709_label]; exact ev_s_RecordFormat_ISO2709_label_value)
  obtain ⟨cl_s_RecordFormat_ISO2709_label_value, A_s_RecordFormat_ISO2709_label_value⟩ := Arr.start ev_s_RecordFormat_ISO2709_label_value gv27
  obtain ⟨s_RecordFormat_MARCXML_label, ev_s_RecordFormat_MARCXML_label⟩ := exa_v gv31
  have F_s_RecordFormat_MARCXML_label : Fld s s.heap s_RecordFormat_MARCXML "com/example/heading_kin/headingkin/io/RecordFormat" "label" "Ljava/lang/String;" (.ref s_RecordFormat_MARCXML_label) := Fld.start (by rw [← fld_at ev_s_RecordFormat_MARCXML]; exact ev_s_RecordFormat_MARCXML_label)
  have E_s_RecordFormat_MARCXML_label : Exa s s.heap s_RecordFormat_MARCXML_label "java/lang/String" := Exa.start ev_s_RecordFormat_MARCXML_label gv31
  obtain ⟨s_RecordFormat_MARCXML_label_value, ev_s_RecordFormat_MARCXML_label_value⟩ := arr_v gv35
  have F_s_RecordFormat_MARCXML_label_value : Fld s s.heap s_RecordFormat_MARCXML_label "java/lang/String" "value" "[B" (.ref s_RecordFormat_MARCXML_label_value) := Fld.start (by rw [← fld_at ev_s_RecordFormat_MARCXML_label]; exact ev_s_RecordFormat_MARCXML_label_value)
  obtain ⟨cl_s_RecordFormat_MARCXML_label_value, A_s_RecordFormat_MARCXML_label_value⟩ := Arr.start ev_s_RecordFormat_MARCXML_label_value gv35
  obtain ⟨s_String_COMPACT_STRINGS, ev_s_String_COMPACT_STRINGS⟩ := is_v (Cond.before_iff.mp (hsets _ (List.mem_of_getElem? (i := 1) rfl)))
  have S_s_String_COMPACT_STRINGS : Sta s s.heap "java/lang/String" "COMPACT_STRINGS" "Z" (.int s_String_COMPACT_STRINGS) := Sta.start ev_s_String_COMPACT_STRINGS (Or.inl (hsets _ (List.mem_of_getElem? (i := 0) rfl)))
  obtain ⟨s_Preconditions_SIOOBE_FORMATTER, ev_s_Preconditions_SIOOBE_FORMATTER, r_s_Preconditions_SIOOBE_FORMATTER⟩ := isR_v (Cond.before_iff.mp (hsets _ (List.mem_of_getElem? (i := 8) rfl)))
  have S_s_Preconditions_SIOOBE_FORMATTER : Sta s s.heap "jdk/internal/util/Preconditions" "SIOOBE_FORMATTER" "Ljava/util/function/BiFunction;" s_Preconditions_SIOOBE_FORMATTER := Sta.start ev_s_Preconditions_SIOOBE_FORMATTER (Or.inl (hsets _ (List.mem_of_getElem? (i := 7) rfl)))
  obtain ⟨s_Optional_EMPTY, ev_s_Optional_EMPTY⟩ := exa_v (Cond.before_iff.mp (hsets _ (List.mem_of_getElem? (i := 11) rfl)))
  have S_s_Optional_EMPTY : Sta s s.heap "java/util/Optional" "EMPTY" "Ljava/util/Optional;" (.ref s_Optional_EMPTY) := Sta.start ev_s_Optional_EMPTY (Or.inl (hsets _ (List.mem_of_getElem? (i := 10) rfl)))
  have E_s_Optional_EMPTY : Exa s s.heap s_Optional_EMPTY "java/util/Optional" := Exa.start ev_s_Optional_EMPTY (Cond.before_iff.mp (hsets _ (List.mem_of_getElem? (i := 11) rfl)))
  have len_s_RecordFormat__VALUES := arr_len ev_s_RecordFormat__VALUES A_s_RecordFormat__VALUES gv13
  have el_s_RecordFormat__VALUES_0 := arr_elR ev_s_RecordFormat__VALUES A_s_RecordFormat__VALUES gv17 ev_s_RecordFormat_ISO2709 (by decide)
  have el_s_RecordFormat__VALUES_1 := arr_elR ev_s_RecordFormat__VALUES A_s_RecordFormat__VALUES gv21 ev_s_RecordFormat_MARCXML (by decide)
  have F_s_RecordFormat_ISO2709_label_coder : Fld s s.heap s_RecordFormat_ISO2709_label "java/lang/String" "coder" "B" (.int (0 : Int32)) := ord_v ev_s_RecordFormat_ISO2709_label gv25
  have len_s_RecordFormat_ISO2709_label_value := arr_len ev_s_RecordFormat_ISO2709_label_value A_s_RecordFormat_ISO2709_label_value gv29
  have F_s_RecordFormat_MARCXML_label_coder : Fld s s.heap s_RecordFormat_MARCXML_label "java/lang/String" "coder" "B" (.int (0 : Int32)) := ord_v ev_s_RecordFormat_MARCXML_label gv33
  have len_s_RecordFormat_MARCXML_label_value := arr_len ev_s_RecordFormat_MARCXML_label_value A_s_RecordFormat_MARCXML_label_value gv37
  have el_s_RecordFormat_ISO2709_label_value_0 := arr_elI ev_s_RecordFormat_ISO2709_label_value A_s_RecordFormat_ISO2709_label_value gv39 (by decide)
  have el_s_RecordFormat_ISO2709_label_value_1 := arr_elI ev_s_RecordFormat_ISO2709_label_value A_s_RecordFormat_ISO2709_label_value gv41 (by decide)
  have el_s_RecordFormat_ISO2709_label_value_2 := arr_elI ev_s_RecordFormat_ISO2709_label_value A_s_RecordFormat_ISO2709_label_value gv43 (by decide)
  have el_s_RecordFormat_ISO2709_label_value_3 := arr_elI ev_s_RecordFormat_ISO2709_label_value A_s_RecordFormat_ISO2709_label_value gv45 (by decide)
  have el_s_RecordFormat_ISO2709_label_value_4 := arr_elI ev_s_RecordFormat_ISO2709_label_value A_s_RecordFormat_ISO2709_label_value gv47 (by decide)
  have el_s_RecordFormat_ISO2709_label_value_5 := arr_elI ev_s_RecordFormat_ISO2709_label_value A_s_RecordFormat_ISO2709_label_value gv49 (by decide)
  have el_s_RecordFormat_ISO2709_label_value_6 := arr_elI ev_s_RecordFormat_ISO2709_label_value A_s_RecordFormat_ISO2709_label_value gv51 (by decide)
  have el_s_RecordFormat_MARCXML_label_value_0 := arr_elI ev_s_RecordFormat_MARCXML_label_value A_s_RecordFormat_MARCXML_label_value gv53 (by decide)
  have el_s_RecordFormat_MARCXML_label_value_1 := arr_elI ev_s_RecordFormat_MARCXML_label_value A_s_RecordFormat_MARCXML_label_value gv55 (by decide)
  have el_s_RecordFormat_MARCXML_label_value_2 := arr_elI ev_s_RecordFormat_MARCXML_label_value A_s_RecordFormat_MARCXML_label_value gv57 (by decide)
  have el_s_RecordFormat_MARCXML_label_value_3 := arr_elI ev_s_RecordFormat_MARCXML_label_value A_s_RecordFormat_MARCXML_label_value gv59 (by decide)
  have el_s_RecordFormat_MARCXML_label_value_4 := arr_elI ev_s_RecordFormat_MARCXML_label_value A_s_RecordFormat_MARCXML_label_value gv61 (by decide)
  have el_s_RecordFormat_MARCXML_label_value_5 := arr_elI ev_s_RecordFormat_MARCXML_label_value A_s_RecordFormat_MARCXML_label_value gv63 (by decide)
  have el_s_RecordFormat_MARCXML_label_value_6 := arr_elI ev_s_RecordFormat_MARCXML_label_value A_s_RecordFormat_MARCXML_label_value gv64 (by decide)
  have hzc : ¬ (s_String_COMPACT_STRINGS = (0 : Int32)) := gotF (Cond.eq_ints ev_s_String_COMPACT_STRINGS (Term.int_eval (0))) (not_v (Cond.before_iff.mp (hsets _ (List.mem_of_getElem? (i := 2) rfl))))
  have hcw : Jvm.Lit.compactW.before _ s = true := (hsets _ (List.mem_of_getElem? (i := 2) rfl))
  have F_s_Optional_EMPTY_value : Fld s s.heap s_Optional_EMPTY "java/util/Optional" "value" "Ljava/lang/Object;" .null := Fld.start (by rw [← fld_at ev_s_Optional_EMPTY]; exact null_v (Cond.before_iff.mp (hsets _ (List.mem_of_getElem? (i := 12) rfl))))
  have V_s_RecordFormat__VALUES : Arv s s.heap s_RecordFormat__VALUES cl_s_RecordFormat__VALUES.cls (.object "com/example/heading_kin/headingkin/io/RecordFormat") (2 : Int32) [(.ref s_RecordFormat_ISO2709), (.ref s_RecordFormat_MARCXML)] .null := Arv.start hfit A_s_RecordFormat__VALUES len_s_RecordFormat__VALUES.1 len_s_RecordFormat__VALUES.2 (by decide) rfl ⟨el_s_RecordFormat__VALUES_0, el_s_RecordFormat__VALUES_1, trivial⟩
  have V_s_RecordFormat_ISO2709_label_value : Arv s s.heap s_RecordFormat_ISO2709_label_value cl_s_RecordFormat_ISO2709_label_value.cls .byte (7 : Int32) [(.int (105 : Int32)), (.int (115 : Int32)), (.int (111 : Int32)), (.int (50 : Int32)), (.int (55 : Int32)), (.int (48 : Int32)), (.int (57 : Int32))] (.int (0 : Int32)) := Arv.start hfit A_s_RecordFormat_ISO2709_label_value len_s_RecordFormat_ISO2709_label_value.1 len_s_RecordFormat_ISO2709_label_value.2 (by decide) rfl ⟨el_s_RecordFormat_ISO2709_label_value_0, el_s_RecordFormat_ISO2709_label_value_1, el_s_RecordFormat_ISO2709_label_value_2, el_s_RecordFormat_ISO2709_label_value_3, el_s_RecordFormat_ISO2709_label_value_4, el_s_RecordFormat_ISO2709_label_value_5, el_s_RecordFormat_ISO2709_label_value_6, trivial⟩
  have V_s_RecordFormat_ISO2709_label_value : Arv s s.heap s_RecordFormat_ISO2709_label_value cl_s_RecordFormat_ISO2709_label_value.cls .byte (Int32.ofNat own_lit2.length) ((own_bs own_lit2).map Value.int) (.int (0 : Int32)) := by rw [show Int32.ofNat own_lit2.length = (7 : Int32) from by decide, show (own_bs own_lit2).map Value.int = [(.int (105 : Int32)), (.int (115 : Int32)), (.int (111 : Int32)), (.int (50 : Int32)), (.int (55 : Int32)), (.int (48 : Int32)), (.int (57 : Int32))] from rfl]; exact V_s_RecordFormat_ISO2709_label_value
  have V_s_RecordFormat_MARCXML_label_value : Arv s s.heap s_RecordFormat_MARCXML_label_value cl_s_RecordFormat_MARCXML_label_value.cls .byte (7 : Int32) [(.int (109 : Int32)), (.int (97 : Int32)), (.int (114 : Int32)), (.int (99 : Int32)), (.int (120 : Int32)), (.int (109 : Int32)), (.int (108 : Int32))] (.int (0 : Int32)) := Arv.start hfit A_s_RecordFormat_MARCXML_label_value len_s_RecordFormat_MARCXML_label_value.1 len_s_RecordFormat_MARCXML_label_value.2 (by decide) rfl ⟨el_s_RecordFormat_MARCXML_label_value_0, el_s_RecordFormat_MARCXML_label_value_1, el_s_RecordFormat_MARCXML_label_value_2, el_s_RecordFormat_MARCXML_label_value_3, el_s_RecordFormat_MARCXML_label_value_4, el_s_RecordFormat_MARCXML_label_value_5, el_s_RecordFormat_MARCXML_label_value_6, trivial⟩
  have V_s_RecordFormat_MARCXML_label_value : Arv s s.heap s_RecordFormat_MARCXML_label_value cl_s_RecordFormat_MARCXML_label_value.cls .byte (Int32.ofNat own_lit1.length) ((own_bs own_lit1).map Value.int) (.int (0 : Int32)) := by rw [show Int32.ofNat own_lit1.length = (7 : Int32) from by decide, show (own_bs own_lit1).map Value.int = [(.int (109 : Int32)), (.int (97 : Int32)), (.int (114 : Int32)), (.int (99 : Int32)), (.int (120 : Int32)), (.int (109 : Int32)), (.int (108 : Int32))] from rfl]; exact V_s_RecordFormat_MARCXML_label_value
  obtain ⟨n, o, h1, h2, h3, _, L, rfl, ⟨rfl, N⟩, -, hq⟩ := rm0 l s _ hw tables_1 i0 i1 i2 i3 s_String_COMPACT_STRINGS s_Preconditions_SIOOBE_FORMATTER s_RecordFormat__VALUES cl_s_RecordFormat__VALUES.cls s_RecordFormat_ISO2709 s_RecordFormat_MARCXML s_RecordFormat_ISO2709_label s_RecordFormat_ISO2709_label_value cl_s_RecordFormat_ISO2709_label_value.cls s_RecordFormat_MARCXML_label s_RecordFormat_MARCXML_label_value cl_s_RecordFormat_MARCXML_label_value.cls s_Optional_EMPTY s.heap s.heap.size (Nat.le_refl _) (Old.start s) hzc r_s_Preconditions_SIOOBE_FORMATTER S_s_String_COMPACT_STRINGS S_s_Preconditions_SIOOBE_FORMATTER S_s_RecordFormat__VALUES V_s_RecordFormat__VALUES E_s_RecordFormat__VALUES S_s_RecordFormat_ISO2709 S_s_RecordFormat_MARCXML E_s_RecordFormat_ISO2709 E_s_RecordFormat_MARCXML F_s_RecordFormat_ISO2709_label E_s_RecordFormat_ISO2709_label F_s_RecordFormat_ISO2709_label_coder F_s_RecordFormat_ISO2709_label_value V_s_RecordFormat_ISO2709_label_value F_s_RecordFormat_MARCXML_label E_s_RecordFormat_MARCXML_label F_s_RecordFormat_MARCXML_label_coder F_s_RecordFormat_MARCXML_label_value V_s_RecordFormat_MARCXML_label_value S_s_Optional_EMPTY E_s_Optional_EMPTY F_s_Optional_EMPTY_value p e ha hc hk s m _ below hf ((Spec.applies_iff_loose hf).mp happ).1 ⟨rfl, State.Warmed39.refl s, rfl, CHv.start (own_EW hw) (fun q hq => hcalls.1 q hq) hcw ((own_wS hw) _ (by simp [Bundle.stringAtoms])) ((own_wS hw) _ (by simp [Bundle.stringAtoms, Bundle.sN]))⟩ trivial
  refine ⟨n, _, h1, h2, h3, hpost _ _ _ _ _ _ ⟨Cond.after_iff.mpr rfl, Cond.after_iff.mpr (eq_i res_at (Term.int_eval (1)) rfl), trivial⟩ ⟨hq.1, hq.2.1, hq.2.2.1, (hq.2.2.2.sift fun y hy => Or.inr (N y hy)).mono (by decide) (by decide)⟩⟩
theorem main_1_1 : Claimed_1_1 := comes_1 fun _ _ _ _ _ _ h hF => ⟨h.1, hF⟩
theorem main_1_2 : Claimed_1_2 := comes_1 fun _ _ _ _ _ _ h hF => ⟨h.2.1, hF⟩
end Jvm.Pilot.@@N@@
namespace Jvm.Pilot.@@N@@
open Jvm Jvm.ClassFile Sem Op Lib Jvm.Free Jvm.Stand Jvm.Pilot.@@N@@.Jvm.D
/-! MADE BY PROGRAM (witnessworld.py) out of the Statement's table words and the real class files: 24 classes; the members and pool entries that the words name. The judged class is class 1, her method 1. -/
namespace start1
open Jvm.ClassFile
def u (s : String) : CpInfo := .utf8 (stringToUtf16 s)
/-- a pool by its gaps: so many unusable entries, then the entry; so many at the end -/
def gap : Nat → List CpInfo → List CpInfo
  | 0, r => r
  | n + 1, r => .unusable :: gap n r
def poolList (es : List (Nat × CpInfo)) (last : Nat) : List CpInfo := es.foldr (fun e r => gap e.1 (e.2 :: r)) (gap last [])
def pool (es : List (Nat × CpInfo)) (last : Nat) : Array CpInfo := ⟨poolList es last⟩
def fileOf (pool : Array CpInfo) (this : Nat) (attrs : Array Attribute := #[]) (ms : Array MethodInfo := #[]) (fl : Nat := 33) (sup : Nat := 0) (ifs : Array Nat := #[]) (fds : Array FieldInfo := #[]) : ClassFile where
  minorVersion := 0
  majorVersion := 65
  constantPool := pool
  accessFlags := fl
  thisClass := this
  superClass := sup
  interfaces := ifs
  fields := fds
  methods := ms
  attributes := attrs
def plain (name : String) (sup : Option ClassId) : Class where
  name := name
  kind := .ordinary
  loader := none
  accessFlags := 33
  super := sup
  interfaces := #[]
  cf := none
  fields := #[]
  methods := #[]
  instanceTypes := #[]
  staticTypes := #[]
  resolved := #[]
  callSites := []
  init := .initialized
  statics := none
  mirror := none

def pool0 : Array CpInfo := pool [(5, u "<init>"), (0, u "()V"), (1, .class_ 10), (1, u "java/lang/Object"), (85, u "clone"), (0, u "()Ljava/lang/Object;")] 26

def k0c0 : Code := { maxStack := 0, maxLocals := 1, code := object_method_1_code, exceptionTable := #[], attributes := #[] }
def k0m0 : Method := { name := "<init>", desc := "()V", sig := { parameters := [], returnType := none }, accessFlags := 1, code := some k0c0 }
def k0m1 : Method := { name := "clone", desc := "()Ljava/lang/Object;", sig := { parameters := [], returnType := some (.object "java/lang/Object") }, accessFlags := 260, code := none }
/-- java/lang/Object -/
def k0 : Class := { plain "java/lang/Object" none with
  accessFlags := 33
  interfaces := #[]
  cf := some (fileOf pool0 8 #[] #[{ accessFlags := 1, nameIndex := 5, descriptorIndex := 6, attributes := #[] }, { accessFlags := 260, nameIndex := 96, descriptorIndex := 97, attributes := #[] }] 33 0 #[] #[])
  fields := #[]
  methods := #[k0m0, k0m1]
  instanceTypes := #[]
  staticTypes := #[]
  resolved := Array.replicate 124 none
  statics := none }

def pool1 : Array CpInfo := pool [(2, .class_ 4), (1, u "java/lang/Object"), (0, u "<init>"), (0, u "()V"), (0, .string 8), (0, u "iso2709"), (0, .string 10), (0, u "marcxml"), (0, .integer 2147483647), (0, .methodref 13 14), (0, .class_ 15), (0, .nameAndType 16 17), (0, u "com/example/heading_kin/headingkin/io/RecordFormatLabelledPinLaw"), (0, u "at"), (0, u "(Ljava/lang/String;IICC)C"), (0, .class_ 19), (0, u "java/lang/String"), (0, .methodref 18 21), (0, .nameAndType 5 22), (0, u "([C)V"), (0, .methodref 24 25), (0, .class_ 26), (0, .nameAndType 27 28), (0, u "com/example/heading_kin/headingkin/io/RecordFormat"), (0, u "labelled"), (0, u "(Ljava/lang/String;)Ljava/util/Optional;"), (0, .methodref 30 31), (0, .class_ 32), (0, .nameAndType 33 34), (0, u "java/util/Optional"), (0, u "orElse"), (0, u "(Ljava/lang/Object;)Ljava/lang/Object;"), (0, .methodref 13 36), (0, .nameAndType 37 38), (0, u "expectedFor"), (0, u "(Ljava/lang/String;)Lcom/example/heading_kin/headingkin/io/RecordFormat;"), (0, .methodref 18 40), (0, .nameAndType 41 42), (0, u "charAt"), (0, u "(I)C"), (0, .methodref 18 44), (0, .nameAndType 45 46), (0, u "equals"), (0, u "(Ljava/lang/Object;)Z"), (0, .fieldref 24 48), (0, .nameAndType 49 50), (0, u "ISO2709"), (0, u "Lcom/example/heading_kin/headingkin/io/RecordFormat;"), (0, .fieldref 24 52), (0, .nameAndType 53 50), (0, u "MARCXML"), (2, u "law"), (0, u "(IIII)Z")] 5

def k1m0 : Method := { name := "<init>", desc := "()V", sig := { parameters := [], returnType := none }, accessFlags := 1, code := none }
def k1c1 : Code := { maxStack := 7, maxLocals := 11, code := code, exceptionTable := #[], attributes := #[] }
def k1m1 : Method := { name := "law", desc := "(IIII)Z", sig := { parameters := [.int, .int, .int, .int], returnType := some .boolean }, accessFlags := 9, code := some k1c1 }
def k1c2 : Code := { maxStack := 2, maxLocals := 5, code := method_3_code, exceptionTable := #[], attributes := #[] }
def k1m2 : Method := { name := "at", desc := "(Ljava/lang/String;IICC)C", sig := { parameters := [(.object "java/lang/String"), .int, .int, .char, .char], returnType := some .char }, accessFlags := 10, code := some k1c2 }
def k1c3 : Code := { maxStack := 2, maxLocals := 1, code := method_4_code, exceptionTable := #[], attributes := #[] }
def k1m3 : Method := { name := "expectedFor", desc := "(Ljava/lang/String;)Lcom/example/heading_kin/headingkin/io/RecordFormat;", sig := { parameters := [(.object "java/lang/String")], returnType := some (.object "com/example/heading_kin/headingkin/io/RecordFormat") }, accessFlags := 10, code := some k1c3 }
/-- com/example/heading_kin/headingkin/io/RecordFormatLabelledPinLaw -/
def k1 : Class := { plain "com/example/heading_kin/headingkin/io/RecordFormatLabelledPinLaw" (some 0) with
  accessFlags := 49
  interfaces := #[]
  cf := some (fileOf pool1 13 #[] #[{ accessFlags := 1, nameIndex := 5, descriptorIndex := 6, attributes := #[] }, { accessFlags := 9, nameIndex := 56, descriptorIndex := 57, attributes := #[] }, { accessFlags := 10, nameIndex := 16, descriptorIndex := 17, attributes := #[] }, { accessFlags := 10, nameIndex := 37, descriptorIndex := 38, attributes := #[] }] 49 2 #[] #[])
  fields := #[]
  methods := #[k1m0, k1m1, k1m2, k1m3]
  instanceTypes := #[]
  staticTypes := #[]
  resolved := Array.replicate 63 none
  statics := none }

def pool2 : Array CpInfo := pool [(1, .class_ 2), (0, u "java/io/Serializable"), (0, .class_ 4), (0, u "java/lang/Object")] 2

/-- java/io/Serializable -/
def k2 : Class := { plain "java/io/Serializable" (some 0) with
  accessFlags := 1537
  interfaces := #[]
  cf := some (fileOf pool2 1 #[] #[] 1537 3 #[] #[])
  fields := #[]
  methods := #[]
  instanceTypes := #[]
  staticTypes := #[]
  resolved := Array.replicate 7 none
  statics := none }

def pool3 : Array CpInfo := pool [(1, .class_ 2), (0, u "java/lang/Comparable"), (0, .class_ 4), (0, u "java/lang/Object")] 7

/-- java/lang/Comparable -/
def k3 : Class := { plain "java/lang/Comparable" (some 0) with
  accessFlags := 1537
  interfaces := #[]
  cf := some (fileOf pool3 1 #[] #[] 1537 3 #[] #[])
  fields := #[]
  methods := #[]
  instanceTypes := #[]
  staticTypes := #[]
  resolved := Array.replicate 12 none
  statics := none }

def pool4 : Array CpInfo := pool [(2, .class_ 4), (1, u "java/lang/CharSequence"), (42, .class_ 48), (0, u "java/lang/CharSequence$1CodePointIterator"), (10, .class_ 60), (0, u "java/lang/CharSequence$1CharIterator"), (5, .class_ 67), (0, u "java/lang/Object")] 63

/-- java/lang/CharSequence -/
def k4 : Class := { plain "java/lang/CharSequence" (some 0) with
  accessFlags := 1537
  interfaces := #[]
  cf := some (fileOf pool4 2 #[.nestMembers #[47, 59]] #[] 1537 66 #[] #[])
  fields := #[]
  methods := #[]
  instanceTypes := #[]
  staticTypes := #[]
  resolved := Array.replicate 131 none
  statics := none }

def pool5 : Array CpInfo := pool [(1, .class_ 2), (0, u "java/lang/constant/Constable"), (0, .class_ 4), (0, u "java/lang/Object")] 6

/-- java/lang/constant/Constable -/
def k5 : Class := { plain "java/lang/constant/Constable" (some 0) with
  accessFlags := 1537
  interfaces := #[]
  cf := some (fileOf pool5 1 #[] #[] 1537 3 #[] #[])
  fields := #[]
  methods := #[]
  instanceTypes := #[]
  staticTypes := #[]
  resolved := Array.replicate 11 none
  statics := none }

def pool6 : Array CpInfo := pool [(1, .class_ 2), (0, u "java/lang/constant/ConstantDesc"), (0, .class_ 4), (0, u "java/lang/Object")] 32

/-- java/lang/constant/ConstantDesc -/
def k6 : Class := { plain "java/lang/constant/ConstantDesc" (some 0) with
  accessFlags := 1537
  interfaces := #[]
  cf := some (fileOf pool6 1 #[] #[] 1537 3 #[] #[])
  fields := #[]
  methods := #[]
  instanceTypes := #[]
  staticTypes := #[]
  resolved := Array.replicate 37 none
  statics := none }

def pool7 : Array CpInfo := pool [(1, .methodref 2 3), (0, .class_ 4), (0, .nameAndType 5 6), (0, u "java/lang/Object"), (0, u "<init>"), (0, u "()V"), (0, .string 8), (0, u ""), (0, .fieldref 10 11), (0, .class_ 12), (0, .nameAndType 13 14), (0, u "java/lang/String"), (0, u "value"), (0, u "[B"), (0, .fieldref 10 16), (0, .nameAndType 17 18), (0, u "coder"), (0, u "B"), (2, u "hash"), (0, u "I"), (2, u "hashIsZero"), (0, u "Z"), (0, .methodref 10 28), (0, .nameAndType 5 29), (0, u "([CIILjava/lang/Void;)V"), (8, .fieldref 10 39), (0, .nameAndType 40 26), (0, u "COMPACT_STRINGS"), (1, .class_ 44), (1, u "java/lang/StringUTF16"), (0, u "compress"), (1, .methodref 42 48), (0, .nameAndType 49 50), (0, u "coderFromArrayLen"), (0, u "([BI)B"), (56, .class_ 109), (1, u "java/lang/StringLatin1"), (32, u "()Z"), (34, .methodref 42 178), (0, .nameAndType 45 179), (0, u "([CII)[B"), (183, u "([BI)C"), (27, u "(II)V"), (35, u "(I)C"), (64, .methodref 10 493), (0, .nameAndType 494 142), (0, u "isLatin1"), (0, .methodref 107 496), (0, .nameAndType 497 363), (0, u "charAt"), (3, u "checkIndex"), (39, .methodref 107 542), (0, .nameAndType 543 544), (0, u "equals"), (0, u "([B[B)Z"), (28, u "(Ljava/lang/Object;)Z"), (1, .class_ 576), (0, u "java/lang/CharSequence"), (22, u "CASE_INSENSITIVE_ORDER"), (0, u "Ljava/util/Comparator;"), (409, u "([C)V"), (42, .fieldref 1054 1055), (0, .class_ 1056), (0, .nameAndType 1057 1058), (0, u "jdk/internal/util/Preconditions"), (0, u "SIOOBE_FORMATTER"), (0, u "Ljava/util/function/BiFunction;"), (0, .methodref 1054 1060), (0, .nameAndType 501 1061), (0, u "(IILjava/util/function/BiFunction;)I"), (39, u "serialPersistentFields"), (0, u "[Ljava/io/ObjectStreamField;"), (0, .class_ 1104), (0, u "java/lang/String$CaseInsensitiveComparator"), (1, .class_ 1107), (0, u "java/io/Serializable"), (0, .class_ 1109), (0, u "java/lang/Comparable"), (0, .class_ 1111), (0, u "java/lang/constant/Constable"), (0, .class_ 1113), (0, u "java/lang/constant/ConstantDesc"), (2, u "serialVersionUID"), (0, u "J"), (3, u "REPL"), (0, u "C"), (2, u "LATIN1"), (1, u "UTF16")] 323

def k7m0 : Method := { name := "<init>", desc := "()V", sig := { parameters := [], returnType := none }, accessFlags := 1, code := none }
def k7c1 : Code := { maxStack := 5, maxLocals := 2, code := jdk_42_method_3_code, exceptionTable := #[], attributes := #[] }
def k7m1 : Method := { name := "<init>", desc := "([C)V", sig := { parameters := [(.array .char)], returnType := none }, accessFlags := 1, code := some k7c1 }
def k7c2 : Code := { maxStack := 2, maxLocals := 2, code := jdk_42_method_56_code, exceptionTable := #[], attributes := #[] }
def k7m2 : Method := { name := "charAt", desc := "(I)C", sig := { parameters := [.int], returnType := some .char }, accessFlags := 1, code := some k7c2 }
def k7c3 : Code := { maxStack := 2, maxLocals := 3, code := jdk_42_method_66_code, exceptionTable := #[], attributes := #[] }
def k7m3 : Method := { name := "equals", desc := "(Ljava/lang/Object;)Z", sig := { parameters := [(.object "java/lang/Object")], returnType := some .boolean }, accessFlags := 1, code := some k7c3 }
def k7c4 : Code := { maxStack := 4, maxLocals := 6, code := jdk_42_method_149_code, exceptionTable := #[], attributes := #[] }
def k7m4 : Method := { name := "<init>", desc := "([CIILjava/lang/Void;)V", sig := { parameters := [(.array .char), .int, .int, (.object "java/lang/Void")], returnType := none }, accessFlags := 2, code := some k7c4 }
def k7c5 : Code := { maxStack := 1, maxLocals := 1, code := jdk_42_method_154_code, exceptionTable := #[], attributes := #[] }
def k7m5 : Method := { name := "isLatin1", desc := "()Z", sig := { parameters := [], returnType := some .boolean }, accessFlags := 0, code := some k7c5 }
def k7c6 : Code := { maxStack := 3, maxLocals := 2, code := jdk_42_method_155_code, exceptionTable := #[], attributes := #[] }
def k7m6 : Method := { name := "checkIndex", desc := "(II)V", sig := { parameters := [.int, .int], returnType := none }, accessFlags := 8, code := some k7c6 }
/-- java/lang/String -/
def k7 : Class := { plain "java/lang/String" (some 0) with
  accessFlags := 49
  interfaces := #[2, 3, 4, 5, 6]
  cf := some (fileOf pool7 10 #[.nestMembers #[1103]] #[{ accessFlags := 1, nameIndex := 5, descriptorIndex := 6, attributes := #[] }, { accessFlags := 1, nameIndex := 5, descriptorIndex := 1010, attributes := #[] }, { accessFlags := 1, nameIndex := 497, descriptorIndex := 427, attributes := #[] }, { accessFlags := 1, nameIndex := 543, descriptorIndex := 573, attributes := #[] }, { accessFlags := 2, nameIndex := 5, descriptorIndex := 29, attributes := #[] }, { accessFlags := 0, nameIndex := 494, descriptorIndex := 142, attributes := #[] }, { accessFlags := 8, nameIndex := 501, descriptorIndex := 391, attributes := #[] }] 49 2 #[1106, 1108, 575, 1110, 1112] #[{ accessFlags := 18, nameIndex := 13, descriptorIndex := 14, attributes := #[] }, { accessFlags := 18, nameIndex := 17, descriptorIndex := 18, attributes := #[] }, { accessFlags := 2, nameIndex := 21, descriptorIndex := 22, attributes := #[] }, { accessFlags := 2, nameIndex := 25, descriptorIndex := 26, attributes := #[] }, { accessFlags := 26, nameIndex := 1116, descriptorIndex := 1117, attributes := #[] }, { accessFlags := 24, nameIndex := 40, descriptorIndex := 26, attributes := #[] }, { accessFlags := 26, nameIndex := 1101, descriptorIndex := 1102, attributes := #[] }, { accessFlags := 26, nameIndex := 1121, descriptorIndex := 1122, attributes := #[] }, { accessFlags := 25, nameIndex := 599, descriptorIndex := 600, attributes := #[] }, { accessFlags := 24, nameIndex := 1125, descriptorIndex := 18, attributes := #[] }, { accessFlags := 24, nameIndex := 1127, descriptorIndex := 18, attributes := #[] }])
  fields := #[{ name := "value", type := (.array .byte), accessFlags := 18, slot := 0, constantValue := 0 }, { name := "coder", type := .byte, accessFlags := 18, slot := 1, constantValue := 0 }, { name := "hash", type := .int, accessFlags := 2, slot := 2, constantValue := 0 }, { name := "hashIsZero", type := .boolean, accessFlags := 2, slot := 3, constantValue := 0 }, { name := "serialVersionUID", type := .long, accessFlags := 26, slot := 0, constantValue := 0 }, { name := "COMPACT_STRINGS", type := .boolean, accessFlags := 24, slot := 1, constantValue := 0 }, { name := "serialPersistentFields", type := (.array (.object "java/io/ObjectStreamField")), accessFlags := 26, slot := 2, constantValue := 0 }, { name := "REPL", type := .char, accessFlags := 26, slot := 3, constantValue := 0 }, { name := "CASE_INSENSITIVE_ORDER", type := (.object "java/util/Comparator"), accessFlags := 25, slot := 4, constantValue := 0 }, { name := "LATIN1", type := .byte, accessFlags := 24, slot := 5, constantValue := 0 }, { name := "UTF16", type := .byte, accessFlags := 24, slot := 6, constantValue := 0 }]
  methods := #[k7m0, k7m1, k7m2, k7m3, k7m4, k7m5, k7m6]
  instanceTypes := #[(.array .byte), .byte, .int, .boolean]
  staticTypes := #[.long, .boolean, (.array (.object "java/io/ObjectStreamField")), .char, (.object "java/util/Comparator"), .byte, .byte]
  resolved := Array.replicate 1451 none
  statics := some 0 }

def pool8 : Array CpInfo := pool [(1, .class_ 2), (0, u "java/lang/String"), (1, .class_ 6), (1, u "java/lang/Object"), (0, u "<init>"), (0, u "()V"), (0, .methodref 1 10), (0, .nameAndType 11 12), (0, u "checkIndex"), (0, u "(II)V"), (1, .class_ 16), (1, u "java/lang/StringLatin1"), (36, u "([BI)C"), (67, u "$assertionsDisabled"), (0, u "Z"), (98, .class_ 223), (1, u "java/lang/StringLatin1$LinesSpliterator"), (28, u "charAt"), (28, u "equals"), (0, u "([B[B)Z"), (107, .class_ 391), (0, u "java/lang/StringLatin1$CharsSpliterator")] 3

def k8m0 : Method := { name := "<init>", desc := "()V", sig := { parameters := [], returnType := none }, accessFlags := 0, code := none }
def k8c1 : Code := { maxStack := 2, maxLocals := 2, code := jdk_43_method_2_code, exceptionTable := #[], attributes := #[] }
def k8m1 : Method := { name := "charAt", desc := "([BI)C", sig := { parameters := [(.array .byte), .int], returnType := some .char }, accessFlags := 9, code := some k8c1 }
def k8c2 : Code := { maxStack := 3, maxLocals := 3, code := jdk_43_method_13_code, exceptionTable := #[], attributes := #[] }
def k8m2 : Method := { name := "equals", desc := "([B[B)Z", sig := { parameters := [(.array .byte), (.array .byte)], returnType := some .boolean }, accessFlags := 9, code := some k8c2 }
/-- java/lang/StringLatin1 -/
def k8 : Class := { plain "java/lang/StringLatin1" (some 0) with
  accessFlags := 48
  interfaces := #[]
  cf := some (fileOf pool8 14 #[.nestMembers #[390, 221]] #[{ accessFlags := 0, nameIndex := 7, descriptorIndex := 8, attributes := #[] }, { accessFlags := 9, nameIndex := 252, descriptorIndex := 53, attributes := #[] }, { accessFlags := 9, nameIndex := 281, descriptorIndex := 282, attributes := #[] }] 48 4 #[] #[{ accessFlags := 4120, nameIndex := 121, descriptorIndex := 122, attributes := #[] }])
  fields := #[{ name := "$assertionsDisabled", type := .boolean, accessFlags := 4120, slot := 0, constantValue := 0 }]
  methods := #[k8m0, k8m1, k8m2]
  instanceTypes := #[]
  staticTypes := #[.boolean]
  resolved := Array.replicate 395 none
  statics := none }

def pool9 : Array CpInfo := pool [(2, .class_ 4), (1, u "java/lang/Object"), (0, u "<init>"), (0, u "()V"), (17, .class_ 26), (1, u "jdk/internal/util/Preconditions"), (6, u "checkIndex"), (21, .class_ 56), (0, u "jdk/internal/util/Preconditions$4"), (57, .class_ 115), (0, u "jdk/internal/util/Preconditions$1"), (7, u "SIOOBE_FORMATTER"), (0, u "Ljava/util/function/BiFunction;"), (0, .class_ 126), (0, u "jdk/internal/util/Preconditions$2"), (3, u "AIOOBE_FORMATTER"), (0, .class_ 132), (0, u "jdk/internal/util/Preconditions$3"), (3, u "IOOBE_FORMATTER"), (41, u "(IILjava/util/function/BiFunction;)I")] 15

def k9m0 : Method := { name := "<init>", desc := "()V", sig := { parameters := [], returnType := none }, accessFlags := 1, code := none }
def k9c1 : Code := { maxStack := 3, maxLocals := 3, code := jdk_41_method_11_code, exceptionTable := #[], attributes := #[] }
def k9m1 : Method := { name := "checkIndex", desc := "(IILjava/util/function/BiFunction;)I", sig := { parameters := [.int, .int, (.object "java/util/function/BiFunction")], returnType := some .int }, accessFlags := 9, code := some k9c1 }
/-- jdk/internal/util/Preconditions -/
def k9 : Class := { plain "jdk/internal/util/Preconditions" (some 0) with
  accessFlags := 33
  interfaces := #[]
  cf := some (fileOf pool9 24 #[.nestMembers #[55, 131, 125, 114]] #[{ accessFlags := 1, nameIndex := 5, descriptorIndex := 6, attributes := #[] }, { accessFlags := 9, nameIndex := 33, descriptorIndex := 178, attributes := #[] }] 33 2 #[] #[{ accessFlags := 25, nameIndex := 123, descriptorIndex := 124, attributes := #[] }, { accessFlags := 25, nameIndex := 130, descriptorIndex := 124, attributes := #[] }, { accessFlags := 25, nameIndex := 136, descriptorIndex := 124, attributes := #[] }])
  fields := #[{ name := "SIOOBE_FORMATTER", type := (.object "java/util/function/BiFunction"), accessFlags := 25, slot := 0, constantValue := 0 }, { name := "AIOOBE_FORMATTER", type := (.object "java/util/function/BiFunction"), accessFlags := 25, slot := 1, constantValue := 0 }, { name := "IOOBE_FORMATTER", type := (.object "java/util/function/BiFunction"), accessFlags := 25, slot := 2, constantValue := 0 }]
  methods := #[k9m0, k9m1]
  instanceTypes := #[]
  staticTypes := #[(.object "java/util/function/BiFunction"), (.object "java/util/function/BiFunction"), (.object "java/util/function/BiFunction")]
  resolved := Array.replicate 194 none
  statics := some 1 }

def pool10 : Array CpInfo := pool [(6, .class_ 8), (1, u "java/lang/Object"), (0, u "<init>"), (0, u "()V"), (1, .class_ 14), (1, u "java/lang/StringUTF16"), (31, u "$assertionsDisabled"), (0, u "Z"), (13, u "HI_BYTE_SHIFT"), (0, u "I"), (2, u "LO_BYTE_SHIFT"), (49, .methodref 12 116), (0, .nameAndType 117 118), (0, u "compress"), (0, u "([CI[BII)I"), (3, u "([CII)[B"), (138, u "coderFromArrayLen"), (0, u "([BI)B"), (106, .class_ 371), (1, u "java/lang/StringUTF16$LinesSpliterator"), (58, u "MAX_LENGTH"), (196, .class_ 628), (0, u "java/lang/StringUTF16$CodePointsSpliterator"), (0, .class_ 630), (0, u "java/lang/StringUTF16$CharsSpliterator")] 4

def k10m0 : Method := { name := "<init>", desc := "()V", sig := { parameters := [], returnType := none }, accessFlags := 0, code := none }
def k10c1 : Code := { maxStack := 2, maxLocals := 2, code := jdk_52_method_15_code, exceptionTable := #[], attributes := #[] }
def k10m1 : Method := { name := "coderFromArrayLen", desc := "([BI)B", sig := { parameters := [(.array .byte), .int], returnType := some .byte }, accessFlags := 8, code := some k10c1 }
def k10c2 : Code := { maxStack := 5, maxLocals := 6, code := jdk_52_method_16_code, exceptionTable := #[], attributes := #[] }
def k10m2 : Method := { name := "compress", desc := "([CII)[B", sig := { parameters := [(.array .char), .int, .int], returnType := some (.array .byte) }, accessFlags := 9, code := some k10c2 }
def k10c3 : Code := { maxStack := 3, maxLocals := 7, code := jdk_52_method_21_code, exceptionTable := #[], attributes := #[] }
def k10m3 : Method := { name := "compress", desc := "([CI[BII)I", sig := { parameters := [(.array .char), .int, (.array .byte), .int, .int], returnType := some .int }, accessFlags := 9, code := some k10c3 }
/-- java/lang/StringUTF16 -/
def k10 : Class := { plain "java/lang/StringUTF16" (some 0) with
  accessFlags := 48
  interfaces := #[]
  cf := some (fileOf pool10 12 #[.nestMembers #[627, 629, 369]] #[{ accessFlags := 0, nameIndex := 9, descriptorIndex := 10, attributes := #[] }, { accessFlags := 8, nameIndex := 261, descriptorIndex := 262, attributes := #[] }, { accessFlags := 9, nameIndex := 117, descriptorIndex := 122, attributes := #[] }, { accessFlags := 9, nameIndex := 117, descriptorIndex := 118, attributes := #[] }] 48 6 #[] #[{ accessFlags := 26, nameIndex := 61, descriptorIndex := 62, attributes := #[] }, { accessFlags := 26, nameIndex := 65, descriptorIndex := 62, attributes := #[] }, { accessFlags := 24, nameIndex := 430, descriptorIndex := 62, attributes := #[] }, { accessFlags := 4120, nameIndex := 46, descriptorIndex := 47, attributes := #[] }])
  fields := #[{ name := "HI_BYTE_SHIFT", type := .int, accessFlags := 26, slot := 0, constantValue := 0 }, { name := "LO_BYTE_SHIFT", type := .int, accessFlags := 26, slot := 1, constantValue := 0 }, { name := "MAX_LENGTH", type := .int, accessFlags := 24, slot := 2, constantValue := 0 }, { name := "$assertionsDisabled", type := .boolean, accessFlags := 4120, slot := 3, constantValue := 0 }]
  methods := #[k10m0, k10m1, k10m2, k10m3]
  instanceTypes := #[]
  staticTypes := #[.int, .int, .int, .boolean]
  resolved := Array.replicate 635 none
  statics := none }

def pool11 : Array CpInfo := pool [(2, .class_ 4), (1, u "java/lang/Enum"), (0, u "name"), (0, u "Ljava/lang/String;"), (2, u "ordinal"), (0, u "I"), (1, .class_ 14), (1, u "java/lang/Object"), (4, u "hash"), (86, .class_ 108), (1, u "java/lang/Enum$EnumDesc"), (2, .class_ 112), (0, u "java/lang/constant/Constable"), (0, .class_ 114), (0, u "java/lang/Comparable"), (0, .class_ 116), (0, u "java/io/Serializable")] 87

/-- java/lang/Enum -/
def k11 : Class := { plain "java/lang/Enum" (some 0) with
  accessFlags := 1057
  interfaces := #[5, 3, 2]
  cf := some (fileOf pool11 2 #[.nestMembers #[106]] #[] 1057 12 #[111, 113, 115] #[{ accessFlags := 18, nameIndex := 5, descriptorIndex := 6, attributes := #[] }, { accessFlags := 18, nameIndex := 9, descriptorIndex := 10, attributes := #[] }, { accessFlags := 2, nameIndex := 19, descriptorIndex := 10, attributes := #[] }])
  fields := #[{ name := "name", type := (.object "java/lang/String"), accessFlags := 18, slot := 0, constantValue := 0 }, { name := "ordinal", type := .int, accessFlags := 18, slot := 1, constantValue := 0 }, { name := "hash", type := .int, accessFlags := 2, slot := 2, constantValue := 0 }]
  methods := #[]
  instanceTypes := #[(.object "java/lang/String"), .int, .int]
  staticTypes := #[]
  resolved := Array.replicate 204 none
  statics := none }

def pool12 : Array CpInfo := pool [(1, .class_ 2), (0, u "com/example/heading_kin/headingkin/io/RecordFormat"), (2, u "ISO2709"), (0, u "Lcom/example/heading_kin/headingkin/io/RecordFormat;"), (2, u "MARCXML"), (0, .fieldref 1 11), (0, .nameAndType 12 13), (0, u "$VALUES"), (0, u "[Lcom/example/heading_kin/headingkin/io/RecordFormat;"), (0, .methodref 15 16), (0, .class_ 13), (0, .nameAndType 17 18), (0, u "clone"), (0, u "()Ljava/lang/Object;"), (1, .class_ 22), (1, u "java/lang/Enum"), (6, .fieldref 1 30), (0, .nameAndType 31 32), (0, u "label"), (0, u "Ljava/lang/String;"), (2, u "reader"), (0, u "Ljava/util/function/BiFunction;"), (8, .methodref 1 46), (0, .nameAndType 47 48), (0, u "values"), (0, u "()[Lcom/example/heading_kin/headingkin/io/RecordFormat;"), (0, .methodref 50 51), (0, .class_ 52), (0, .nameAndType 53 54), (0, u "java/lang/String"), (0, u "equals"), (0, u "(Ljava/lang/Object;)Z"), (0, .methodref 56 57), (0, .class_ 58), (0, .nameAndType 59 60), (0, u "java/util/Optional"), (0, u "of"), (0, u "(Ljava/lang/Object;)Ljava/util/Optional;"), (0, .methodref 56 62), (0, .nameAndType 63 64), (0, u "empty"), (0, u "()Ljava/util/Optional;"), (46, u "WHITE_SPACE_LOOKED_AT"), (0, u "I"), (11, u "labelled"), (0, u "(Ljava/lang/String;)Ljava/util/Optional;")] 39

def k12c0 : Code := { maxStack := 1, maxLocals := 0, code := prog_18_method_1_code, exceptionTable := #[], attributes := #[] }
def k12m0 : Method := { name := "values", desc := "()[Lcom/example/heading_kin/headingkin/io/RecordFormat;", sig := { parameters := [], returnType := some (.array (.object "com/example/heading_kin/headingkin/io/RecordFormat")) }, accessFlags := 9, code := some k12c0 }
def k12c1 : Code := { maxStack := 2, maxLocals := 5, code := prog_18_method_6_code, exceptionTable := #[], attributes := #[] }
def k12m1 : Method := { name := "labelled", desc := "(Ljava/lang/String;)Ljava/util/Optional;", sig := { parameters := [(.object "java/lang/String")], returnType := some (.object "java/util/Optional") }, accessFlags := 9, code := some k12c1 }
/-- com/example/heading_kin/headingkin/io/RecordFormat -/
def k12 : Class := { plain "com/example/heading_kin/headingkin/io/RecordFormat" (some 11) with
  accessFlags := 16433
  interfaces := #[]
  cf := some (fileOf pool12 1 #[] #[{ accessFlags := 9, nameIndex := 47, descriptorIndex := 48, attributes := #[] }, { accessFlags := 9, nameIndex := 124, descriptorIndex := 125, attributes := #[] }] 16433 20 #[] #[{ accessFlags := 16409, nameIndex := 5, descriptorIndex := 6, attributes := #[] }, { accessFlags := 16409, nameIndex := 9, descriptorIndex := 6, attributes := #[] }, { accessFlags := 26, nameIndex := 111, descriptorIndex := 112, attributes := #[] }, { accessFlags := 18, nameIndex := 31, descriptorIndex := 32, attributes := #[] }, { accessFlags := 18, nameIndex := 35, descriptorIndex := 36, attributes := #[] }, { accessFlags := 4122, nameIndex := 12, descriptorIndex := 13, attributes := #[] }])
  fields := #[{ name := "ISO2709", type := (.object "com/example/heading_kin/headingkin/io/RecordFormat"), accessFlags := 16409, slot := 0, constantValue := 0 }, { name := "MARCXML", type := (.object "com/example/heading_kin/headingkin/io/RecordFormat"), accessFlags := 16409, slot := 1, constantValue := 0 }, { name := "WHITE_SPACE_LOOKED_AT", type := .int, accessFlags := 26, slot := 2, constantValue := 0 }, { name := "label", type := (.object "java/lang/String"), accessFlags := 18, slot := 3, constantValue := 0 }, { name := "reader", type := (.object "java/util/function/BiFunction"), accessFlags := 18, slot := 4, constantValue := 0 }, { name := "$VALUES", type := (.array (.object "com/example/heading_kin/headingkin/io/RecordFormat")), accessFlags := 4122, slot := 3, constantValue := 0 }]
  methods := #[k12m0, k12m1]
  instanceTypes := #[(.object "java/lang/String"), .int, .int, (.object "java/lang/String"), (.object "java/util/function/BiFunction")]
  staticTypes := #[(.object "com/example/heading_kin/headingkin/io/RecordFormat"), (.object "com/example/heading_kin/headingkin/io/RecordFormat"), .int, (.array (.object "com/example/heading_kin/headingkin/io/RecordFormat"))]
  resolved := Array.replicate 165 none
  statics := some 2 }

def pool13 : Array CpInfo := pool [(1, .class_ 2), (0, u "java/lang/Cloneable"), (0, .class_ 4), (0, u "java/lang/Object")] 2

/-- java/lang/Cloneable -/
def k13 : Class := { plain "java/lang/Cloneable" (some 0) with
  accessFlags := 1537
  interfaces := #[]
  cf := some (fileOf pool13 1 #[] #[] 1537 3 #[] #[])
  fields := #[]
  methods := #[]
  instanceTypes := #[]
  staticTypes := #[]
  resolved := Array.replicate 7 none
  statics := none }

def pool14 : Array CpInfo := pool [(1, .fieldref 2 3), (0, .class_ 4), (0, .nameAndType 5 6), (0, u "java/util/Optional"), (0, u "EMPTY"), (0, u "Ljava/util/Optional;"), (0, .methodref 8 9), (0, .class_ 10), (0, .nameAndType 11 12), (0, u "java/lang/Object"), (0, u "<init>"), (0, u "()V"), (0, .fieldref 2 14), (0, .nameAndType 15 16), (0, u "value"), (0, u "Ljava/lang/Object;"), (0, .methodref 18 19), (0, .class_ 20), (0, .nameAndType 21 22), (0, u "java/util/Objects"), (0, u "requireNonNull"), (0, u "(Ljava/lang/Object;)Ljava/lang/Object;"), (0, .methodref 2 24), (0, .nameAndType 11 25), (0, u "(Ljava/lang/Object;)V"), (29, u "empty"), (0, u "()Ljava/util/Optional;"), (8, u "(Ljava/lang/Object;)Ljava/util/Optional;"), (16, u "of"), (82, u "orElse")] 21

def k14c0 : Code := { maxStack := 1, maxLocals := 1, code := jdk_32_method_1_code, exceptionTable := #[], attributes := #[] }
def k14m0 : Method := { name := "empty", desc := "()Ljava/util/Optional;", sig := { parameters := [], returnType := some (.object "java/util/Optional") }, accessFlags := 9, code := some k14c0 }
def k14c1 : Code := { maxStack := 2, maxLocals := 2, code := jdk_32_method_2_code, exceptionTable := #[], attributes := #[] }
def k14m1 : Method := { name := "<init>", desc := "(Ljava/lang/Object;)V", sig := { parameters := [(.object "java/lang/Object")], returnType := none }, accessFlags := 2, code := some k14c1 }
def k14c2 : Code := { maxStack := 3, maxLocals := 1, code := jdk_32_method_3_code, exceptionTable := #[], attributes := #[] }
def k14m2 : Method := { name := "of", desc := "(Ljava/lang/Object;)Ljava/util/Optional;", sig := { parameters := [(.object "java/lang/Object")], returnType := some (.object "java/util/Optional") }, accessFlags := 9, code := some k14c2 }
def k14c3 : Code := { maxStack := 1, maxLocals := 2, code := jdk_32_method_15_code, exceptionTable := #[], attributes := #[] }
def k14m3 : Method := { name := "orElse", desc := "(Ljava/lang/Object;)Ljava/lang/Object;", sig := { parameters := [(.object "java/lang/Object")], returnType := some (.object "java/lang/Object") }, accessFlags := 1, code := some k14c3 }
/-- java/util/Optional -/
def k14 : Class := { plain "java/util/Optional" (some 0) with
  accessFlags := 49
  interfaces := #[]
  cf := some (fileOf pool14 2 #[] #[{ accessFlags := 9, nameIndex := 55, descriptorIndex := 56, attributes := #[] }, { accessFlags := 2, nameIndex := 11, descriptorIndex := 25, attributes := #[] }, { accessFlags := 9, nameIndex := 82, descriptorIndex := 65, attributes := #[] }, { accessFlags := 1, nameIndex := 165, descriptorIndex := 22, attributes := #[] }] 49 8 #[] #[{ accessFlags := 26, nameIndex := 5, descriptorIndex := 6, attributes := #[] }, { accessFlags := 18, nameIndex := 15, descriptorIndex := 16, attributes := #[] }])
  fields := #[{ name := "EMPTY", type := (.object "java/util/Optional"), accessFlags := 26, slot := 0, constantValue := 0 }, { name := "value", type := (.object "java/lang/Object"), accessFlags := 18, slot := 0, constantValue := 0 }]
  methods := #[k14m0, k14m1, k14m2, k14m3]
  instanceTypes := #[(.object "java/lang/Object")]
  staticTypes := #[(.object "java/util/Optional")]
  resolved := Array.replicate 187 none
  statics := some 3 }

def pool15 : Array CpInfo := pool [(2, .class_ 4), (1, u "java/lang/Object"), (0, u "<init>"), (0, u "()V"), (35, .class_ 44), (1, u "java/util/Objects"), (0, u "requireNonNull"), (0, u "(Ljava/lang/Object;)Ljava/lang/Object;")] 137

def k15m0 : Method := { name := "<init>", desc := "()V", sig := { parameters := [], returnType := none }, accessFlags := 2, code := none }
def k15c1 : Code := { maxStack := 2, maxLocals := 1, code := jdk_31_method_10_code, exceptionTable := #[], attributes := #[] }
def k15m1 : Method := { name := "requireNonNull", desc := "(Ljava/lang/Object;)Ljava/lang/Object;", sig := { parameters := [(.object "java/lang/Object")], returnType := some (.object "java/lang/Object") }, accessFlags := 9, code := some k15c1 }
/-- java/util/Objects -/
def k15 : Class := { plain "java/util/Objects" (some 0) with
  accessFlags := 49
  interfaces := #[]
  cf := some (fileOf pool15 42 #[] #[{ accessFlags := 2, nameIndex := 5, descriptorIndex := 6, attributes := #[] }, { accessFlags := 9, nameIndex := 45, descriptorIndex := 46, attributes := #[] }] 49 2 #[] #[])
  fields := #[]
  methods := #[k15m0, k15m1]
  instanceTypes := #[]
  staticTypes := #[]
  resolved := Array.replicate 184 none
  statics := none }

def pool16 : Array CpInfo := pool [(9, u "<init>"), (6, .class_ 18), (1, u "java/lang/Object"), (0, u "()V"), (1, .class_ 23), (1, u "jdk/internal/util/ArraysSupport"), (0, u "LOG2_ARRAY_LONG_INDEX_SCALE"), (0, u "I"), (2, u "U"), (0, u "Ljdk/internal/misc/Unsafe;"), (8, u "BIG_ENDIAN"), (0, u "Z"), (8, u "LOG2_BYTE_BIT_SIZE"), (4, u "LOG2_ARRAY_INT_INDEX_SCALE"), (54, u "JLA"), (0, u "Ljdk/internal/access/JavaLangAccess;"), (11, u "LOG2_ARRAY_BOOLEAN_INDEX_SCALE"), (9, u "LOG2_ARRAY_BYTE_INDEX_SCALE"), (5, u "LOG2_ARRAY_CHAR_INDEX_SCALE"), (5, u "LOG2_ARRAY_SHORT_INDEX_SCALE"), (18, u "LOG2_ARRAY_FLOAT_INDEX_SCALE"), (24, u "LOG2_ARRAY_DOUBLE_INDEX_SCALE"), (89, u "T_BOOLEAN"), (2, u "T_CHAR"), (1, u "T_FLOAT"), (1, u "T_DOUBLE"), (1, u "T_BYTE"), (1, u "T_SHORT"), (1, u "T_INT"), (1, u "T_LONG"), (1, u "SOFT_MAX_ARRAY_LENGTH")] 83

def k16m0 : Method := { name := "<init>", desc := "()V", sig := { parameters := [], returnType := none }, accessFlags := 2, code := none }
/-- jdk/internal/util/ArraysSupport -/
def k16 : Class := { plain "jdk/internal/util/ArraysSupport" (some 0) with
  accessFlags := 33
  interfaces := #[]
  cf := some (fileOf pool16 21 #[] #[{ accessFlags := 2, nameIndex := 9, descriptorIndex := 19, attributes := #[] }] 33 16 #[] #[{ accessFlags := 24, nameIndex := 28, descriptorIndex := 29, attributes := #[] }, { accessFlags := 26, nameIndex := 38, descriptorIndex := 39, attributes := #[] }, { accessFlags := 25, nameIndex := 121, descriptorIndex := 25, attributes := #[] }, { accessFlags := 25, nameIndex := 131, descriptorIndex := 25, attributes := #[] }, { accessFlags := 25, nameIndex := 137, descriptorIndex := 25, attributes := #[] }, { accessFlags := 25, nameIndex := 143, descriptorIndex := 25, attributes := #[] }, { accessFlags := 25, nameIndex := 53, descriptorIndex := 25, attributes := #[] }, { accessFlags := 25, nameIndex := 24, descriptorIndex := 25, attributes := #[] }, { accessFlags := 25, nameIndex := 162, descriptorIndex := 25, attributes := #[] }, { accessFlags := 25, nameIndex := 187, descriptorIndex := 25, attributes := #[] }, { accessFlags := 26, nameIndex := 48, descriptorIndex := 25, attributes := #[] }, { accessFlags := 25, nameIndex := 277, descriptorIndex := 25, attributes := #[] }, { accessFlags := 25, nameIndex := 280, descriptorIndex := 25, attributes := #[] }, { accessFlags := 25, nameIndex := 282, descriptorIndex := 25, attributes := #[] }, { accessFlags := 25, nameIndex := 284, descriptorIndex := 25, attributes := #[] }, { accessFlags := 25, nameIndex := 286, descriptorIndex := 25, attributes := #[] }, { accessFlags := 25, nameIndex := 288, descriptorIndex := 25, attributes := #[] }, { accessFlags := 25, nameIndex := 290, descriptorIndex := 25, attributes := #[] }, { accessFlags := 25, nameIndex := 292, descriptorIndex := 25, attributes := #[] }, { accessFlags := 26, nameIndex := 108, descriptorIndex := 109, attributes := #[] }, { accessFlags := 25, nameIndex := 294, descriptorIndex := 25, attributes := #[] }])
  fields := #[{ name := "U", type := (.object "jdk/internal/misc/Unsafe"), accessFlags := 24, slot := 0, constantValue := 0 }, { name := "BIG_ENDIAN", type := .boolean, accessFlags := 26, slot := 1, constantValue := 0 }, { name := "LOG2_ARRAY_BOOLEAN_INDEX_SCALE", type := .int, accessFlags := 25, slot := 2, constantValue := 0 }, { name := "LOG2_ARRAY_BYTE_INDEX_SCALE", type := .int, accessFlags := 25, slot := 3, constantValue := 0 }, { name := "LOG2_ARRAY_CHAR_INDEX_SCALE", type := .int, accessFlags := 25, slot := 4, constantValue := 0 }, { name := "LOG2_ARRAY_SHORT_INDEX_SCALE", type := .int, accessFlags := 25, slot := 5, constantValue := 0 }, { name := "LOG2_ARRAY_INT_INDEX_SCALE", type := .int, accessFlags := 25, slot := 6, constantValue := 0 }, { name := "LOG2_ARRAY_LONG_INDEX_SCALE", type := .int, accessFlags := 25, slot := 7, constantValue := 0 }, { name := "LOG2_ARRAY_FLOAT_INDEX_SCALE", type := .int, accessFlags := 25, slot := 8, constantValue := 0 }, { name := "LOG2_ARRAY_DOUBLE_INDEX_SCALE", type := .int, accessFlags := 25, slot := 9, constantValue := 0 }, { name := "LOG2_BYTE_BIT_SIZE", type := .int, accessFlags := 26, slot := 10, constantValue := 0 }, { name := "T_BOOLEAN", type := .int, accessFlags := 25, slot := 11, constantValue := 0 }, { name := "T_CHAR", type := .int, accessFlags := 25, slot := 12, constantValue := 0 }, { name := "T_FLOAT", type := .int, accessFlags := 25, slot := 13, constantValue := 0 }, { name := "T_DOUBLE", type := .int, accessFlags := 25, slot := 14, constantValue := 0 }, { name := "T_BYTE", type := .int, accessFlags := 25, slot := 15, constantValue := 0 }, { name := "T_SHORT", type := .int, accessFlags := 25, slot := 16, constantValue := 0 }, { name := "T_INT", type := .int, accessFlags := 25, slot := 17, constantValue := 0 }, { name := "T_LONG", type := .int, accessFlags := 25, slot := 18, constantValue := 0 }, { name := "JLA", type := (.object "jdk/internal/access/JavaLangAccess"), accessFlags := 26, slot := 19, constantValue := 0 }, { name := "SOFT_MAX_ARRAY_LENGTH", type := .int, accessFlags := 25, slot := 20, constantValue := 0 }]
  methods := #[k16m0]
  instanceTypes := #[]
  staticTypes := #[(.object "jdk/internal/misc/Unsafe"), .boolean, .int, .int, .int, .int, .int, .int, .int, .int, .int, .int, .int, .int, .int, .int, .int, .int, .int, (.object "jdk/internal/access/JavaLangAccess"), .int]
  resolved := Array.replicate 378 none
  statics := none }

/-- the primitive byte -/
def k17 : Class := { plain "byte" none with kind := .primitive 'B', accessFlags := 0x411 }
/-- [B -/
def k18 : Class := { plain "[B" (some 0) with kind := .array 17 .byte, interfaces := #[13, 2], accessFlags := 1041 }

/-- the primitive char -/
def k19 : Class := { plain "char" none with kind := .primitive 'C', accessFlags := 0x411 }
/-- [C -/
def k20 : Class := { plain "[C" (some 0) with kind := .array 19 .char, interfaces := #[13, 2], accessFlags := 1041 }

/-- the primitive int -/
def k21 : Class := { plain "int" none with kind := .primitive 'I', accessFlags := 0x411 }
/-- [I -/
def k22 : Class := { plain "[I" (some 0) with kind := .array 21 .int, interfaces := #[13, 2], accessFlags := 1041 }

/-- [Lcom/example/heading_kin/headingkin/io/RecordFormat; -/
def k23 : Class := { plain "[Lcom/example/heading_kin/headingkin/io/RecordFormat;" (some 0) with kind := .array 12 (.object "com/example/heading_kin/headingkin/io/RecordFormat"), interfaces := #[13, 2], accessFlags := 1041 }

def heap : Heap := #[{ cls := 7, slots := #[.long 0, .int 1, .null, .int 0, .null, .int 0, .int 0], vm := .statics 7 },
  { cls := 9, slots := #[.null, .null, .null], vm := .statics 9 },
  { cls := 12, slots := #[.ref 5, .ref 6, .int 0, .ref 4], vm := .statics 12 },
  { cls := 14, slots := #[.ref 11], vm := .statics 14 },
  { cls := 23, slots := #[.ref 5, .ref 6], vm := .none },
  { cls := 12, slots := #[.null, .int 0, .int 0, .ref 7, .null], vm := .none },
  { cls := 12, slots := #[.null, .int 0, .int 0, .ref 8, .null], vm := .none },
  { cls := 7, slots := #[.ref 9, .int 0, .int 0, .int 0], vm := .none },
  { cls := 7, slots := #[.ref 10, .int 0, .int 0, .int 0], vm := .none },
  { cls := 18, slots := #[.int 105, .int 115, .int 111, .int 50, .int 55, .int 48, .int 57], vm := .none },
  { cls := 18, slots := #[.int 109, .int 97, .int 114, .int 99, .int 120, .int 109, .int 108], vm := .none },
  { cls := 14, slots := #[.null], vm := .none }]
def classes : Array Class := #[k0, k1, k2, k3, k4, k5, k6, k7, k8, k9, k10, k11, k12, k13, k14, k15, k16, k17, k18, k19, k20, k21, k22, k23]
def interned : List (Array UInt16 × Addr) := []
def slotsUsed : Nat := 50
def theMethod : MethodId := ⟨1, 1⟩
def args0 : Array Value := #[.int 0, .int 0, .int 0, .int 0]
def aboutOver (below : List Frame) : State where
  vm := { classes := classes, interned := interned.toArray }
  heap := heap
  slotsUsed := slotsUsed
  threads := #[{ frames := .invoking theMethod args0 :: below }]
def below0 : List Frame := [.native { method := ⟨0, 0⟩, args := #[] }]
def about1 : State := aboutOver below0
def p0 : Program := .bare "" "" ""
def e0 : Env := launch0.env 0 0 0
theorem w_frames : about1.frames = Frame.invoking theMethod args0 :: below0 := rfl
set_option maxRecDepth 65536 in
theorem w_args : argsFit about1.vm theMethod args0 = true := by decide +kernel
set_option maxRecDepth 65536 in
theorem w_heap : heapFits about1 = true := by decide +kernel
set_option maxRecDepth 65536 in
theorem w_runnable : about1.curStatus? = some .runnable := by decide +kernel
set_option maxRecDepth 65536 in
theorem w_alone : about1.alone = true := by decide +kernel
set_option maxRecDepth 65536 in
theorem w_named : about1.methodNamed? x = some theMethod := by decide +kernel
set_option maxRecDepth 65536 in
theorem w_hears : about1.hears theMethod below0 = true := by decide +kernel
set_option maxRecDepth 65536 in
theorem w_ripe : about1.ripe theMethod args0 below0 = true := by decide +kernel
theorem w_running : about1.status = .running := rfl
set_option maxRecDepth 65536 in
theorem w_room : about1.hasRoom e0.platform room_1 = true :=
  launch0.hasRoom_least _ room_1 (by decide +kernel) (by decide +kernel) (by decide +kernel) (by decide +kernel) (by decide +kernel) (by decide +kernel)
theorem allAtoms_all (ts : List Jvm.Cond) (a : Array Jvm.Value) (st : Jvm.State) : (allAtoms ts).before a st = ts.all (fun c => c.before a st) := by
  induction ts with
  | nil => rfl
  | cons c t ih =>
    show (Jvm.Cond.and c (allAtoms t)).before a st = _
    rw [Jvm.Cond.before_and, ih, List.all_cons]
def words1 : List Jvm.Cond := Jvm.Cond.code x code maxLocals ret :: tables_1
/-- a 'code' word, met by the world's own term for the bytes: nothing is compared byte by byte -/
theorem code_word {y : MethodName} {bytes : ByteArray} {mx : Nat} {rt : Option FieldType} {a : Array Value} {s : State} {m : MethodId} {meth : Method} {c : Code} (h1 : s.methodNamed? y = some m) (h2 : s.vm.method? m = some meth) (h3 : meth.code = some c) (h4 : c.code = bytes)
    (h5 : (c.maxLocals == mx && c.exceptionTable.isEmpty && decide (c.maxStack ≤ mostOperands) && decide (meth.sig.returnType = rt) && !meth.locks && decide (parseMethodDescriptor y.desc = some meth.sig)) = true) : (Jvm.Cond.code y bytes mx rt).before a s = true := by
  simp only [Bool.and_eq_true, beq_iff_eq, Bool.not_eq_true', decide_eq_true_eq] at h5
  obtain ⟨⟨⟨⟨⟨g1, g2⟩, g3⟩, g4⟩, g5⟩, g6⟩ := h5
  simp [Cond.before, Cond.holds, Cond.value, h1, h2, h3, h4, g1, g2, g3, g4, g5, g6]
def isCode : Jvm.Cond → Bool
  | .code _ _ _ _ => true
  | _ => false
theorem all_split {L : List Jvm.Cond} {P : Jvm.Cond → Bool} (h1 : L.all (fun c => isCode c || P c) = true) (h2 : ∀ c ∈ L.filter isCode, P c = true) : L.all P = true := by
  refine List.all_eq_true.mpr fun c hc => ?_
  have h := List.all_eq_true.mp h1 c hc
  rcases Bool.eq_false_or_eq_true (isCode c) with hi | hi
  · exact h2 c (List.mem_filter.mpr ⟨hc, hi⟩)
  · simpa [hi] using h
set_option maxRecDepth 65536 in
theorem w_c0 : (Jvm.Cond.code x code maxLocals ret).before args0 about1 = true := code_word (m := ⟨1, 1⟩) (meth := k1m1) (c := k1c1) (by decide +kernel) rfl rfl rfl (by decide +kernel)
set_option maxRecDepth 65536 in
theorem w_c1 : (Jvm.Cond.code ({ cls := "com/example/heading_kin/headingkin/io/RecordFormatLabelledPinLaw", name := "at", desc := "(Ljava/lang/String;IICC)C" } : Jvm.MethodName) method_3_code (5 : Nat) (Option.some Jvm.ClassFile.FieldType.char)).before args0 about1 = true := code_word (m := ⟨1, 2⟩) (meth := k1m2) (c := k1c2) (by decide +kernel) rfl rfl rfl (by decide +kernel)
set_option maxRecDepth 65536 in
theorem w_c2 : (Jvm.Cond.code ({ cls := "java/lang/String", name := "charAt", desc := "(I)C" } : Jvm.MethodName) jdk_42_method_56_code (2 : Nat) (Option.some Jvm.ClassFile.FieldType.char)).before args0 about1 = true := code_word (m := ⟨7, 2⟩) (meth := k7m2) (c := k7c2) (by decide +kernel) rfl rfl rfl (by decide +kernel)
set_option maxRecDepth 65536 in
theorem w_c3 : (Jvm.Cond.code ({ cls := "java/lang/String", name := "isLatin1", desc := "()Z" } : Jvm.MethodName) jdk_42_method_154_code (1 : Nat) (Option.some Jvm.ClassFile.FieldType.boolean)).before args0 about1 = true := code_word (m := ⟨7, 5⟩) (meth := k7m5) (c := k7c5) (by decide +kernel) rfl rfl rfl (by decide +kernel)
set_option maxRecDepth 65536 in
theorem w_c4 : (Jvm.Cond.code ({ cls := "java/lang/StringLatin1", name := "charAt", desc := "([BI)C" } : Jvm.MethodName) jdk_43_method_2_code (2 : Nat) (Option.some Jvm.ClassFile.FieldType.char)).before args0 about1 = true := code_word (m := ⟨8, 1⟩) (meth := k8m1) (c := k8c1) (by decide +kernel) rfl rfl rfl (by decide +kernel)
set_option maxRecDepth 65536 in
theorem w_c5 : (Jvm.Cond.code ({ cls := "java/lang/String", name := "checkIndex", desc := "(II)V" } : Jvm.MethodName) jdk_42_method_155_code (2 : Nat) (Option.none : Option Jvm.ClassFile.FieldType)).before args0 about1 = true := code_word (m := ⟨7, 6⟩) (meth := k7m6) (c := k7c6) (by decide +kernel) rfl rfl rfl (by decide +kernel)
set_option maxRecDepth 65536 in
theorem w_c6 : (Jvm.Cond.code ({ cls := "jdk/internal/util/Preconditions", name := "checkIndex", desc := "(IILjava/util/function/BiFunction;)I" } : Jvm.MethodName) jdk_41_method_11_code (3 : Nat) (Option.some Jvm.ClassFile.FieldType.int)).before args0 about1 = true := code_word (m := ⟨9, 1⟩) (meth := k9m1) (c := k9c1) (by decide +kernel) rfl rfl rfl (by decide +kernel)
set_option maxRecDepth 65536 in
theorem w_c7 : (Jvm.Cond.code ({ cls := "java/lang/String", name := "<init>", desc := "([C)V" } : Jvm.MethodName) jdk_42_method_3_code (2 : Nat) (Option.none : Option Jvm.ClassFile.FieldType)).before args0 about1 = true := code_word (m := ⟨7, 1⟩) (meth := k7m1) (c := k7c1) (by decide +kernel) rfl rfl rfl (by decide +kernel)
set_option maxRecDepth 65536 in
theorem w_c8 : (Jvm.Cond.code ({ cls := "java/lang/String", name := "<init>", desc := "([CIILjava/lang/Void;)V" } : Jvm.MethodName) jdk_42_method_149_code (6 : Nat) (Option.none : Option Jvm.ClassFile.FieldType)).before args0 about1 = true := code_word (m := ⟨7, 4⟩) (meth := k7m4) (c := k7c4) (by decide +kernel) rfl rfl rfl (by decide +kernel)
set_option maxRecDepth 65536 in
theorem w_c9 : (Jvm.Cond.code ({ cls := "java/lang/Object", name := "<init>", desc := "()V" } : Jvm.MethodName) object_method_1_code (1 : Nat) (Option.none : Option Jvm.ClassFile.FieldType)).before args0 about1 = true := code_word (m := ⟨0, 0⟩) (meth := k0m0) (c := k0c0) (by decide +kernel) rfl rfl rfl (by decide +kernel)
set_option maxRecDepth 65536 in
theorem w_c10 : (Jvm.Cond.code ({ cls := "java/lang/StringUTF16", name := "compress", desc := "([CII)[B" } : Jvm.MethodName) jdk_52_method_16_code (6 : Nat) (Option.some (Jvm.ClassFile.FieldType.array Jvm.ClassFile.FieldType.byte))).before args0 about1 = true := code_word (m := ⟨10, 2⟩) (meth := k10m2) (c := k10c2) (by decide +kernel) rfl rfl rfl (by decide +kernel)
set_option maxRecDepth 65536 in
theorem w_c11 : (Jvm.Cond.code ({ cls := "java/lang/StringUTF16", name := "compress", desc := "([CI[BII)I" } : Jvm.MethodName) jdk_52_method_21_code (7 : Nat) (Option.some Jvm.ClassFile.FieldType.int)).before args0 about1 = true := code_word (m := ⟨10, 3⟩) (meth := k10m3) (c := k10c3) (by decide +kernel) rfl rfl rfl (by decide +kernel)
set_option maxRecDepth 65536 in
theorem w_c12 : (Jvm.Cond.code ({ cls := "java/lang/StringUTF16", name := "coderFromArrayLen", desc := "([BI)B" } : Jvm.MethodName) jdk_52_method_15_code (2 : Nat) (Option.some Jvm.ClassFile.FieldType.byte)).before args0 about1 = true := code_word (m := ⟨10, 1⟩) (meth := k10m1) (c := k10c1) (by decide +kernel) rfl rfl rfl (by decide +kernel)
set_option maxRecDepth 65536 in
theorem w_c13 : (Jvm.Cond.code ({ cls := "com/example/heading_kin/headingkin/io/RecordFormat", name := "labelled", desc := "(Ljava/lang/String;)Ljava/util/Optional;" } : Jvm.MethodName) prog_18_method_6_code (5 : Nat) (Option.some (Jvm.ClassFile.FieldType.object "java/util/Optional"))).before args0 about1 = true := code_word (m := ⟨12, 1⟩) (meth := k12m1) (c := k12c1) (by decide +kernel) rfl rfl rfl (by decide +kernel)
set_option maxRecDepth 65536 in
theorem w_c14 : (Jvm.Cond.code ({ cls := "com/example/heading_kin/headingkin/io/RecordFormat", name := "values", desc := "()[Lcom/example/heading_kin/headingkin/io/RecordFormat;" } : Jvm.MethodName) prog_18_method_1_code (0 : Nat) (Option.some (Jvm.ClassFile.FieldType.array (Jvm.ClassFile.FieldType.object "com/example/heading_kin/headingkin/io/RecordFormat")))).before args0 about1 = true := code_word (m := ⟨12, 0⟩) (meth := k12m0) (c := k12c0) (by decide +kernel) rfl rfl rfl (by decide +kernel)
set_option maxRecDepth 65536 in
theorem w_c15 : (Jvm.Cond.code ({ cls := "java/lang/String", name := "equals", desc := "(Ljava/lang/Object;)Z" } : Jvm.MethodName) jdk_42_method_66_code (3 : Nat) (Option.some Jvm.ClassFile.FieldType.boolean)).before args0 about1 = true := code_word (m := ⟨7, 3⟩) (meth := k7m3) (c := k7c3) (by decide +kernel) rfl rfl rfl (by decide +kernel)
set_option maxRecDepth 65536 in
theorem w_c16 : (Jvm.Cond.code ({ cls := "java/lang/StringLatin1", name := "equals", desc := "([B[B)Z" } : Jvm.MethodName) jdk_43_method_13_code (3 : Nat) (Option.some Jvm.ClassFile.FieldType.boolean)).before args0 about1 = true := code_word (m := ⟨8, 2⟩) (meth := k8m2) (c := k8c2) (by decide +kernel) rfl rfl rfl (by decide +kernel)
set_option maxRecDepth 65536 in
theorem w_c17 : (Jvm.Cond.code ({ cls := "java/util/Optional", name := "empty", desc := "()Ljava/util/Optional;" } : Jvm.MethodName) jdk_32_method_1_code (1 : Nat) (Option.some (Jvm.ClassFile.FieldType.object "java/util/Optional"))).before args0 about1 = true := code_word (m := ⟨14, 0⟩) (meth := k14m0) (c := k14c0) (by decide +kernel) rfl rfl rfl (by decide +kernel)
set_option maxRecDepth 65536 in
theorem w_c18 : (Jvm.Cond.code ({ cls := "java/util/Optional", name := "orElse", desc := "(Ljava/lang/Object;)Ljava/lang/Object;" } : Jvm.MethodName) jdk_32_method_15_code (2 : Nat) (Option.some (Jvm.ClassFile.FieldType.object "java/lang/Object"))).before args0 about1 = true := code_word (m := ⟨14, 3⟩) (meth := k14m3) (c := k14c3) (by decide +kernel) rfl rfl rfl (by decide +kernel)
set_option maxRecDepth 65536 in
theorem w_c19 : (Jvm.Cond.code ({ cls := "com/example/heading_kin/headingkin/io/RecordFormatLabelledPinLaw", name := "expectedFor", desc := "(Ljava/lang/String;)Lcom/example/heading_kin/headingkin/io/RecordFormat;" } : Jvm.MethodName) method_4_code (1 : Nat) (Option.some (Jvm.ClassFile.FieldType.object "com/example/heading_kin/headingkin/io/RecordFormat"))).before args0 about1 = true := code_word (m := ⟨1, 3⟩) (meth := k1m3) (c := k1c3) (by decide +kernel) rfl rfl rfl (by decide +kernel)
set_option maxRecDepth 65536 in
theorem w_c20 : (Jvm.Cond.code ({ cls := "java/util/Optional", name := "of", desc := "(Ljava/lang/Object;)Ljava/util/Optional;" } : Jvm.MethodName) jdk_32_method_3_code (1 : Nat) (Option.some (Jvm.ClassFile.FieldType.object "java/util/Optional"))).before args0 about1 = true := code_word (m := ⟨14, 2⟩) (meth := k14m2) (c := k14c2) (by decide +kernel) rfl rfl rfl (by decide +kernel)
set_option maxRecDepth 65536 in
theorem w_c21 : (Jvm.Cond.code ({ cls := "java/util/Objects", name := "requireNonNull", desc := "(Ljava/lang/Object;)Ljava/lang/Object;" } : Jvm.MethodName) jdk_31_method_10_code (1 : Nat) (Option.some (Jvm.ClassFile.FieldType.object "java/lang/Object"))).before args0 about1 = true := code_word (m := ⟨15, 1⟩) (meth := k15m1) (c := k15c1) (by decide +kernel) rfl rfl rfl (by decide +kernel)
set_option maxRecDepth 65536 in
theorem w_c22 : (Jvm.Cond.code ({ cls := "java/util/Optional", name := "<init>", desc := "(Ljava/lang/Object;)V" } : Jvm.MethodName) jdk_32_method_2_code (2 : Nat) (Option.none : Option Jvm.ClassFile.FieldType)).before args0 about1 = true := code_word (m := ⟨14, 1⟩) (meth := k14m1) (c := k14c1) (by decide +kernel) rfl rfl rfl (by decide +kernel)
def codes1 : List Jvm.Cond := [Jvm.Cond.code x code maxLocals ret, Jvm.Cond.code ({ cls := "com/example/heading_kin/headingkin/io/RecordFormatLabelledPinLaw", name := "at", desc := "(Ljava/lang/String;IICC)C" } : Jvm.MethodName) method_3_code (5 : Nat) (Option.some Jvm.ClassFile.FieldType.char), Jvm.Cond.code ({ cls := "java/lang/String", name := "charAt", desc := "(I)C" } : Jvm.MethodName) jdk_42_method_56_code (2 : Nat) (Option.some Jvm.ClassFile.FieldType.char), Jvm.Cond.code ({ cls := "java/lang/String", name := "isLatin1", desc := "()Z" } : Jvm.MethodName) jdk_42_method_154_code (1 : Nat) (Option.some Jvm.ClassFile.FieldType.boolean), Jvm.Cond.code ({ cls := "java/lang/StringLatin1", name := "charAt", desc := "([BI)C" } : Jvm.MethodName) jdk_43_method_2_code (2 : Nat) (Option.some Jvm.ClassFile.FieldType.char), Jvm.Cond.code ({ cls := "java/lang/String", name := "checkIndex", desc := "(II)V" } : Jvm.MethodName) jdk_42_method_155_code (2 : Nat) (Option.none : Option Jvm.ClassFile.FieldType), Jvm.Cond.code ({ cls := "jdk/internal/util/Preconditions", name := "checkIndex", desc := "(IILjava/util/function/BiFunction;)I" } : Jvm.MethodName) jdk_41_method_11_code (3 : Nat) (Option.some Jvm.ClassFile.FieldType.int), Jvm.Cond.code ({ cls := "java/lang/String", name := "<init>", desc := "([C)V" } : Jvm.MethodName) jdk_42_method_3_code (2 : Nat) (Option.none : Option Jvm.ClassFile.FieldType), Jvm.Cond.code ({ cls := "java/lang/String", name := "<init>", desc := "([CIILjava/lang/Void;)V" } : Jvm.MethodName) jdk_42_method_149_code (6 : Nat) (Option.none : Option Jvm.ClassFile.FieldType), Jvm.Cond.code ({ cls := "java/lang/Object", name := "<init>", desc := "()V" } : Jvm.MethodName) object_method_1_code (1 : Nat) (Option.none : Option Jvm.ClassFile.FieldType), Jvm.Cond.code ({ cls := "java/lang/StringUTF16", name := "compress", desc := "([CII)[B" } : Jvm.MethodName) jdk_52_method_16_code (6 : Nat) (Option.some (Jvm.ClassFile.FieldType.array Jvm.ClassFile.FieldType.byte)), Jvm.Cond.code ({ cls := "java/lang/StringUTF16", name := "compress", desc := "([CI[BII)I" } : Jvm.MethodName) jdk_52_method_21_code (7 : Nat) (Option.some Jvm.ClassFile.FieldType.int), Jvm.Cond.code ({ cls := "java/lang/StringUTF16", name := "coderFromArrayLen", desc := "([BI)B" } : Jvm.MethodName) jdk_52_method_15_code (2 : Nat) (Option.some Jvm.ClassFile.FieldType.byte), Jvm.Cond.code ({ cls := "com/example/heading_kin/headingkin/io/RecordFormat", name := "labelled", desc := "(Ljava/lang/String;)Ljava/util/Optional;" } : Jvm.MethodName) prog_18_method_6_code (5 : Nat) (Option.some (Jvm.ClassFile.FieldType.object "java/util/Optional")), Jvm.Cond.code ({ cls := "com/example/heading_kin/headingkin/io/RecordFormat", name := "values", desc := "()[Lcom/example/heading_kin/headingkin/io/RecordFormat;" } : Jvm.MethodName) prog_18_method_1_code (0 : Nat) (Option.some (Jvm.ClassFile.FieldType.array (Jvm.ClassFile.FieldType.object "com/example/heading_kin/headingkin/io/RecordFormat"))), Jvm.Cond.code ({ cls := "java/lang/String", name := "equals", desc := "(Ljava/lang/Object;)Z" } : Jvm.MethodName) jdk_42_method_66_code (3 : Nat) (Option.some Jvm.ClassFile.FieldType.boolean), Jvm.Cond.code ({ cls := "java/lang/StringLatin1", name := "equals", desc := "([B[B)Z" } : Jvm.MethodName) jdk_43_method_13_code (3 : Nat) (Option.some Jvm.ClassFile.FieldType.boolean), Jvm.Cond.code ({ cls := "java/util/Optional", name := "empty", desc := "()Ljava/util/Optional;" } : Jvm.MethodName) jdk_32_method_1_code (1 : Nat) (Option.some (Jvm.ClassFile.FieldType.object "java/util/Optional")), Jvm.Cond.code ({ cls := "java/util/Optional", name := "orElse", desc := "(Ljava/lang/Object;)Ljava/lang/Object;" } : Jvm.MethodName) jdk_32_method_15_code (2 : Nat) (Option.some (Jvm.ClassFile.FieldType.object "java/lang/Object")), Jvm.Cond.code ({ cls := "com/example/heading_kin/headingkin/io/RecordFormatLabelledPinLaw", name := "expectedFor", desc := "(Ljava/lang/String;)Lcom/example/heading_kin/headingkin/io/RecordFormat;" } : Jvm.MethodName) method_4_code (1 : Nat) (Option.some (Jvm.ClassFile.FieldType.object "com/example/heading_kin/headingkin/io/RecordFormat")), Jvm.Cond.code ({ cls := "java/util/Optional", name := "of", desc := "(Ljava/lang/Object;)Ljava/util/Optional;" } : Jvm.MethodName) jdk_32_method_3_code (1 : Nat) (Option.some (Jvm.ClassFile.FieldType.object "java/util/Optional")), Jvm.Cond.code ({ cls := "java/util/Objects", name := "requireNonNull", desc := "(Ljava/lang/Object;)Ljava/lang/Object;" } : Jvm.MethodName) jdk_31_method_10_code (1 : Nat) (Option.some (Jvm.ClassFile.FieldType.object "java/lang/Object")), Jvm.Cond.code ({ cls := "java/util/Optional", name := "<init>", desc := "(Ljava/lang/Object;)V" } : Jvm.MethodName) jdk_32_method_2_code (2 : Nat) (Option.none : Option Jvm.ClassFile.FieldType)]
set_option maxRecDepth 65536 in
theorem codes_eq : words1.filter isCode = codes1 := rfl
theorem w_codes : ∀ c ∈ words1.filter isCode, c.before args0 about1 = true := by
  rw [codes_eq]
  intro c hc
  simp only [codes1, List.mem_cons, List.not_mem_nil, or_false] at hc
  rcases hc with rfl | rfl | rfl | rfl | rfl | rfl | rfl | rfl | rfl | rfl | rfl | rfl | rfl | rfl | rfl | rfl | rfl | rfl | rfl | rfl | rfl | rfl | rfl
  · exact w_c0
  · exact w_c1
  · exact w_c2
  · exact w_c3
  · exact w_c4
  · exact w_c5
  · exact w_c6
  · exact w_c7
  · exact w_c8
  · exact w_c9
  · exact w_c10
  · exact w_c11
  · exact w_c12
  · exact w_c13
  · exact w_c14
  · exact w_c15
  · exact w_c16
  · exact w_c17
  · exact w_c18
  · exact w_c19
  · exact w_c20
  · exact w_c21
  · exact w_c22
set_option maxRecDepth 65536 in
theorem w_t1 : (words1.take 24).all (fun c => isCode c || c.before args0 about1) = true := by decide +kernel
set_option maxRecDepth 65536 in
theorem w_t2 : ((words1.drop 24).take 24).all (fun c => isCode c || c.before args0 about1) = true := by decide +kernel
set_option maxRecDepth 65536 in
theorem w_t3 : (((words1.drop 24).drop 24).take 24).all (fun c => isCode c || c.before args0 about1) = true := by decide +kernel
set_option maxRecDepth 65536 in
theorem w_t4 : ((((words1.drop 24).drop 24).drop 24).take 24).all (fun c => isCode c || c.before args0 about1) = true := by decide +kernel
set_option maxRecDepth 65536 in
theorem w_t5 : (((((words1.drop 24).drop 24).drop 24).drop 24).take 24).all (fun c => isCode c || c.before args0 about1) = true := by decide +kernel
set_option maxRecDepth 65536 in
theorem w_t6 : (((((words1.drop 24).drop 24).drop 24).drop 24).drop 24).all (fun c => isCode c || c.before args0 about1) = true := by decide +kernel
theorem w_tables : (allAtoms (Jvm.Cond.code x code maxLocals ret :: tables_1)).before args0 about1 = true := by
  rw [allAtoms_all]
  show words1.all (fun c => c.before args0 about1) = true
  refine all_split ?_ w_codes
  rw [← List.take_append_drop 24 words1, List.all_append, w_t1, ← List.take_append_drop 24 (words1.drop 24), List.all_append, w_t2, ← List.take_append_drop 24 ((words1.drop 24).drop 24), List.all_append, w_t3, ← List.take_append_drop 24 (((words1.drop 24).drop 24).drop 24), List.all_append, w_t4, ← List.take_append_drop 24 ((((words1.drop 24).drop 24).drop 24).drop 24), List.all_append, w_t5, w_t6]
  rfl
set_option maxRecDepth 65536 in
theorem w_rest : rest_1_c.before args0 about1 = true := by decide +kernel
set_option maxRecDepth 65536 in
theorem w_case : (Jvm.Cond.and given_1 narrow_1).before args0 about1 = true := by decide +kernel
set_option maxRecDepth 65536 in
theorem w_consts : constsHeld consts_1 about1 := Jvm.Lit.constsHeldB_iff.mp (by decide +kernel)
theorem w_applies : (headSpec (Jvm.Cond.code x code maxLocals ret :: tables_1) room_1).applies x e0.platform about1 = true :=
  (Spec.applies_iff w_frames).mpr ⟨w_running, w_runnable, w_alone, w_named, w_hears, w_ripe, w_room, w_tables⟩
theorem atStart : AtStart classFile x code maxLocals ret World_1 tables_1 room_1 Calls_1 rest_1 Pre_1 launch0 p0 e0 about1 theMethod args0 below0 :=
  ⟨lists_1, trivial, launch0.admits_env _ _ _, launch0.least_env, fairChoices_fair.cas, fairChoices_fair.clock, w_frames, w_args, w_heap, w_applies, ⟨w_consts, trivial⟩, w_rest, w_case⟩
end start1
theorem witness_1 : WitnessClaimed_1 := ⟨start1.p0, start1.e0, start1.about1, start1.theMethod, start1.args0, start1.below0, start1.atStart⟩
end Jvm.Pilot.@@N@@
