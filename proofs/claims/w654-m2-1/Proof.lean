import JvmDerived
import JvmDerived.Pilot.@@N@@Statement
import JvmDerived.Pilot.@@N@@Code
set_option linter.unusedVariables false
set_option linter.unusedSimpArgs false
/- laws to paste: Road.backV, Road.chN, Road.eqW, Road.lenW (cut by pick.py; bodies as the Statement names them) -/
namespace Jvm.Pilot.@@N@@
namespace StrChars
open Jvm Sem ClassFile Op Lib Jvm.Stand Jvm.Free.XT Jvm.Free.ALB Jvm.Free.JM Jvm.Free
open Jvm.Lib.Cold (StaticIs)
/-- a char array whose places are chars -/
def Ch (a : Addr) (A : Cell) (U : State) : Prop := Arr .char a A U ∧ Typed .char A
theorem Ch.mv {a : Addr} {A : Cell} {U U' : State} (h : Ch a A U) (hal : U.vm.Alike U'.vm) (hh : U'.heap = U.heap) : Ch a A U' := ⟨h.1.mv hal hh, h.2⟩
theorem Ch.keep {a : Addr} {A : Cell} {U U' : State} (h : Ch a A U) (hal : U.vm.Alike U'.vm) (hk : U'.heap[a]? = some A) : Ch a A U' := ⟨h.1.keep hal hk, h.2⟩
/-- what place i of a char[]'s cell holds -/
def cv (A : Cell) (i : Nat) : Int32 := match A.slots[i]? with | some (.int x) => x | _ => 0
theorem Ch.get {a : Addr} {A : Cell} {U : State} (h : Ch a A U) {i : Nat} (hi : i < A.slots.size) : A.slots[i]? = some (.int (cv A i)) := by
  have e := Array.getElem?_eq_getElem hi
  have f := h.2 i _ e
  unfold cv; rw [e]
  generalize A.slots[i] = v at f
  cases v <;> simp [fits] at f ⊢
/-- the byte that i2b leaves of a char -/
def lo8 (x : Int32) : Int32 := x.toInt8.toInt32
theorem fits_lo8 (y : Int32) : fits .byte (.int (lo8 y)) = true := by
  have h1 := y.toInt8.le_toInt
  have h2 := y.toInt8.toInt_lt
  simp only [lo8, fits, Bool.and_eq_true, decide_eq_true_eq, Int32.le_iff_toInt_le, Int8.toInt_toInt32, show (-128 : Int32).toInt = -128 from by decide, show (127 : Int32).toInt = 127 from by decide]
  omega
/-- A' is A but that each place j of lo .. hi - 1 holds f j -/
def Laid (A A' : Cell) (lo hi : Nat) (f : Nat → Value) : Prop := A'.cls = A.cls ∧ A'.vm = A.vm ∧ A'.slots.size = A.slots.size ∧ ∀ i, A'.slots[i]? = if lo ≤ i ∧ i < hi then some (f i) else A.slots[i]?
theorem Laid.zero (A : Cell) (lo : Nat) (f : Nat → Value) : Laid A A lo (lo + 0) f := ⟨rfl, rfl, rfl, fun i => by rw [if_neg (by omega)]⟩
theorem Laid.step {A Ak : Cell} {lo k : Nat} {f : Nat → Value} {v : Value} (h : Laid A Ak lo k f) (hlo : lo ≤ k) (hk : k < Ak.slots.size) (hv : v = f k) : Laid A (Ak.setSlot k v) lo (k + 1) f := by
  refine ⟨h.1, h.2.1, by simpa [Cell.setSlot] using h.2.2.1, fun i => ?_⟩
  by_cases e : k = i
  · subst e; rw [Cell.slots_setSlot_self v hk, if_pos (by omega), hv]
  · rw [Cell.slots_setSlot_ne v e, h.2.2.2 i]
    by_cases q : lo ≤ i ∧ i < k
    · rw [if_pos q, if_pos (by omega)]
    · rw [if_neg q, if_neg (by omega)]
def U16 : String := "java/lang/StringUTF16"
namespace Cmp5
def yN : MethodName := ⟨"java/lang/StringUTF16", "compress", "([CI[BII)I"⟩
abbrev yB : ByteArray := jdk_52_method_21_code
theorem d0 : decode yB 0 = .ok (.iconst 0, 1) := by decide +kernel
theorem d1 : decode yB 1 = .ok (.istore 5, 2) := by decide +kernel
theorem d3 : decode yB 3 = .ok (.iload 5, 2) := by decide +kernel
theorem d5 : decode yB 5 = .ok (.iload 4, 2) := by decide +kernel
theorem d7 : decode yB 7 = .ok (.if_icmp (.ge) 37, 3) := by decide +kernel
theorem d10 : decode yB 10 = .ok (.aload_n 0, 1) := by decide +kernel
theorem d11 : decode yB 11 = .ok (.iload_n 1, 1) := by decide +kernel
theorem d12 : decode yB 12 = .ok (.caload, 1) := by decide +kernel
theorem d13 : decode yB 13 = .ok (.istore 6, 2) := by decide +kernel
theorem d15 : decode yB 15 = .ok (.iload 6, 2) := by decide +kernel
theorem d17 : decode yB 17 = .ok (.sipush 255, 3) := by decide +kernel
theorem d20 : decode yB 20 = .ok (.if_icmp (.le) 6, 3) := by decide +kernel
theorem d26 : decode yB 26 = .ok (.aload_n 2, 1) := by decide +kernel
theorem d27 : decode yB 27 = .ok (.iload_n 3, 1) := by decide +kernel
theorem d28 : decode yB 28 = .ok (.iload 6, 2) := by decide +kernel
theorem d30 : decode yB 30 = .ok (.i2b, 1) := by decide +kernel
theorem d31 : decode yB 31 = .ok (.bastore, 1) := by decide +kernel
theorem d32 : decode yB 32 = .ok (.iinc 1 1, 3) := by decide +kernel
theorem d35 : decode yB 35 = .ok (.iinc 3 1, 3) := by decide +kernel
theorem d38 : decode yB 38 = .ok (.iinc 5 1, 3) := by decide +kernel
theorem d41 : decode yB 41 = .ok (.goto (-38), 3) := by decide +kernel
theorem d44 : decode yB 44 = .ok (.iload 4, 2) := by decide +kernel
theorem d46 : decode yB 46 = .ok (.ireturn, 1) := by decide +kernel
def site : List Cond := []
def tab : Cond := tabOf yN yB 7 (some .int) site
def P (b : Addr) (A : Cell) (d : Addr) (B : Cell) (o q len : Nat) (args : Array Value) (s : State) : Prop := args = #[.ref b, .int (Int32.ofNat o), .ref d, .int (Int32.ofNat q), .int (Int32.ofNat len)] ∧ Ch b A s ∧ Arr .byte d B s ∧ b ≠ d ∧ o + len ≤ A.slots.size ∧ q + len ≤ B.slots.size ∧ ∀ i, i < len → ¬ 255 < cv A (o + i)
def E (b : Addr) (A : Cell) (d : Addr) (B : Cell) (o q len : Nat) (r : Option Value) (s u : State) : Prop := r = some (.int (Int32.ofNat len)) ∧ ∃ B', Put d B' s u ∧ Laid B B' q (q + len) (fun j => Value.int (lo8 (cv A (o + (j - q)))))
/-- no char of the range above 255: len; the places written hold each char's low byte -/
theorem law (l : Launch) (b : Addr) (A : Cell) (d : Addr) (B : Cell) (o q len : Nat) : Law l yN 5 5 0 0 yB 7 (some .int) site (P b A d B o q len) (E b A d B o q len) (copyLocs d q len) 0 0 := by
  refine Law.of_walk (plainFor_of_name (by decide +kernel)) (by decide +kernel) (by decide +kernel) (by decide) (fun _ _ h => by rw [h.1]; rfl) (fun _ U U' hal hh h => ⟨h.1, h.2.1.mv hal hh, h.2.2.1.mv hal hh, h.2.2.2⟩) (fun r U U' V V' h1 hal h2 h => ⟨h.1, h.2.elim fun B' q => ⟨B', q.1.mv h1 h2, q.2⟩⟩) ?_
  intro p e s m args below meth c s₁ X0 hexec hbytes hml hret hlk hnm hown hh0 W hP
  obtain ⟨rfl, hA, hB, hne, l1, l2, hp⟩ := hP
  have c1 : Steps p.tables e below (s₁.setTop (entryFrame m #[.ref b, .int (Int32.ofNat o), .ref d, .int (Int32.ofNat q), .int (Int32.ofNat len)] 7)) (s₁.setTop (mkF m 0 #[.val (.ref b), .val (.int (Int32.ofNat o)), .val (.ref d), .val (.int (Int32.ofNat q)), .val (.int (Int32.ofNat len)), .unset, .unset] [])) := entry rfl
  have hA0 := hA.1.mv X0.warmed.alike hh0
  have hB0 := hB.mv X0.warmed.alike hh0
  have a31 := hA.1.2.2.2
  have c2 : Steps p.tables e below (s₁.setTop (entryFrame m #[.ref b, .int (Int32.ofNat o), .ref d, .int (Int32.ofNat q), .int (Int32.ofNat len)] 7)) (s₁.setTop (mkF m 3 #[.val (.ref b), .val (.int (Int32.ofNat o)), .val (.ref d), .val (.int (Int32.ofNat q)), .val (.int (Int32.ofNat len)), .val (.int 0), .unset] [])) := c1.trans (by
    refine iconstV X0.here hexec rfl 0 (hb hbytes d0) (by decide) ?_
    refine XS.istore X0.here hexec rfl (hb hbytes d1) rfl rfl ?_
    exact Steps.refl _)
  have loop : ∀ (r i : Nat), i + r = len → ∀ (z : Slot), (z = .unset ∨ ∃ w, z = .val w ∧ w.category = 1) → ∀ (Tl : State) (Bk : Cell), Stand p l e { frames := 0, locals := 0, cells := 0, slots := 0 } s m #[.ref b, .int (Int32.ofNat o), .ref d, .int (Int32.ofNat q), .int (Int32.ofNat len)] below meth c Tl ([] ++ copyLocs d q i) 0 0 → Put d Bk s₁ Tl → Laid B Bk q (q + i) (fun j => Value.int (lo8 (cv A (o + (j - q))))) →
      Steps p.tables e below (s₁.setTop (entryFrame m #[.ref b, .int (Int32.ofNat o), .ref d, .int (Int32.ofNat q), .int (Int32.ofNat len)] 7)) (Tl.setTop (mkF m 3 #[.val (.ref b), .val (.int (Int32.ofNat (o + i))), .val (.ref d), .val (.int (Int32.ofNat (q + i))), .val (.int (Int32.ofNat len)), .val (.int (Int32.ofNat i)), z] [])) → ∃ (T' : State) (B' : Cell) (z' : Slot), Stand p l e { frames := 0, locals := 0, cells := 0, slots := 0 } s m #[.ref b, .int (Int32.ofNat o), .ref d, .int (Int32.ofNat q), .int (Int32.ofNat len)] below meth c T' ([] ++ copyLocs d q len) 0 0 ∧ Put d B' s₁ T' ∧ Laid B B' q (q + len) (fun j => Value.int (lo8 (cv A (o + (j - q))))) ∧
      Steps p.tables e below (s₁.setTop (entryFrame m #[.ref b, .int (Int32.ofNat o), .ref d, .int (Int32.ofNat q), .int (Int32.ofNat len)] 7)) (T'.setTop (mkF m 3 #[.val (.ref b), .val (.int (Int32.ofNat (o + len))), .val (.ref d), .val (.int (Int32.ofNat (q + len))), .val (.int (Int32.ofNat len)), .val (.int (Int32.ofNat len)), z'] [])) := by
    intro r
    induction r with
    | zero =>
      intro i hi z hz Tl Bk Xl pl fl cl
      have hil : i = len := by omega
      rw [hil] at Xl fl cl
      exact ⟨Tl, Bk, z, Xl, pl, fl, cl⟩
    | succ r ih =>
      intro i hi z hz Tl Bk Xl pl fl cl
      have all := X0.warmed.alike.symm.trans Xl.warmed.alike
      have hAl := hA0.keep all (pl.other hne hA0.1)
      have hBk := hB0.like all pl.1 fl.1 fl.2.1 fl.2.2.1
      have hlt : q + i < Bk.slots.size := by rw [fl.2.2.1]; omega
      have c3 : Steps p.tables e below (s₁.setTop (entryFrame m #[.ref b, .int (Int32.ofNat o), .ref d, .int (Int32.ofNat q), .int (Int32.ofNat len)] 7)) (Tl.setTop (mkF m 12 #[.val (.ref b), .val (.int (Int32.ofNat (o + i))), .val (.ref d), .val (.int (Int32.ofNat (q + i))), .val (.int (Int32.ofNat len)), .val (.int (Int32.ofNat i)), z] [.int (Int32.ofNat (o + i)), .ref b])) := cl.trans (by
        refine XS.iload Xl.here hexec rfl (hb hbytes d3) rfl ?_
        refine XS.iload Xl.here hexec rfl (hb hbytes d5) rfl ?_
        refine XS.icmpNo Xl.here hexec rfl (hb hbytes d7) rfl (ii_ge_f (lt32 (by omega) (by omega))) ?_
        refine XS.aloadN Xl.here hexec rfl (hb hbytes d10) rfl rfl ?_
        refine XS.iloadN Xl.here hexec rfl (hb hbytes d11) rfl ?_
        exact Steps.refl _)
      have c4 : Steps p.tables e below (s₁.setTop (entryFrame m #[.ref b, .int (Int32.ofNat o), .ref d, .int (Int32.ofNat q), .int (Int32.ofNat len)] 7)) (Tl.setTop (mkF m 13 #[.val (.ref b), .val (.int (Int32.ofNat (o + i))), .val (.ref d), .val (.int (Int32.ofNat (q + i))), .val (.int (Int32.ofNat len)), .val (.int (Int32.ofNat i)), z] [.int (cv A (o + i))])) := c3.trans (by
        refine Xl.aget hexec hAl rfl (hA.get (i := o + i) (by omega)) rfl rfl (hb hbytes d12) ?_
        exact Steps.refl _)
      have c5 : Steps p.tables e below (s₁.setTop (entryFrame m #[.ref b, .int (Int32.ofNat o), .ref d, .int (Int32.ofNat q), .int (Int32.ofNat len)] 7)) (Tl.setTop (mkF m 15 #[.val (.ref b), .val (.int (Int32.ofNat (o + i))), .val (.ref d), .val (.int (Int32.ofNat (q + i))), .val (.int (Int32.ofNat len)), .val (.int (Int32.ofNat i)), .val (.int (cv A (o + i)))] [])) := c4.trans (by
        refine XS.istoreS Xl.here hexec rfl (hb hbytes d13) rfl rfl hz ?_
        exact Steps.refl _)
      have c6 : Steps p.tables e below (s₁.setTop (entryFrame m #[.ref b, .int (Int32.ofNat o), .ref d, .int (Int32.ofNat q), .int (Int32.ofNat len)] 7)) (Tl.setTop (mkF m 31 #[.val (.ref b), .val (.int (Int32.ofNat (o + i))), .val (.ref d), .val (.int (Int32.ofNat (q + i))), .val (.int (Int32.ofNat len)), .val (.int (Int32.ofNat i)), .val (.int (cv A (o + i)))] [.int (lo8 (cv A (o + i))), .int (Int32.ofNat (q + i)), .ref d])) := c5.trans (by
        refine XS.iload Xl.here hexec rfl (hb hbytes d15) rfl ?_
        refine sipushV Xl.here hexec rfl 255 (hb hbytes d17) (by decide) ?_
        refine XS.icmpYes Xl.here hexec rfl (pc0 := 20) rfl (hb hbytes d20) rfl (ii_le_t (hp i (by omega))) (by decide) rfl ?_
        refine XS.aloadN Xl.here hexec rfl (hb hbytes d26) rfl rfl ?_
        refine XS.iloadN Xl.here hexec rfl (hb hbytes d27) rfl ?_
        refine XS.iload Xl.here hexec rfl (hb hbytes d28) rfl ?_
        refine i2b Xl.here hexec rfl (hb hbytes d30) rfl ?_
        exact Steps.refl _)
      obtain ⟨T7, X7, p7, st7⟩ := Xl.aput hexec hBk rfl hlt rfl (fits_lo8 (cv A (o + i))) (g := (mkF m 31 #[.val (.ref b), .val (.int (Int32.ofNat (o + i))), .val (.ref d), .val (.int (Int32.ofNat (q + i))), .val (.int (Int32.ofNat len)), .val (.int (Int32.ofNat i)), .val (.int (cv A (o + i)))] [.int (lo8 (cv A (o + i))), .int (Int32.ofNat (q + i)), .ref d])) rfl (rest := []) rfl (hb hbytes d31)
      have c8 : Steps p.tables e below (s₁.setTop (entryFrame m #[.ref b, .int (Int32.ofNat o), .ref d, .int (Int32.ofNat q), .int (Int32.ofNat len)] 7)) (T7.setTop (mkF m 32 #[.val (.ref b), .val (.int (Int32.ofNat (o + i))), .val (.ref d), .val (.int (Int32.ofNat (q + i))), .val (.int (Int32.ofNat len)), .val (.int (Int32.ofNat i)), .val (.int (cv A (o + i)))] [])) := c6.trans (st7 _ (Steps.refl _))
      have c9 : Steps p.tables e below (s₁.setTop (entryFrame m #[.ref b, .int (Int32.ofNat o), .ref d, .int (Int32.ofNat q), .int (Int32.ofNat len)] 7)) (T7.setTop (mkF m 3 #[.val (.ref b), .val (.int (Int32.ofNat (o + i) + 1)), .val (.ref d), .val (.int (Int32.ofNat (q + i) + 1)), .val (.int (Int32.ofNat len)), .val (.int (Int32.ofNat i + 1)), .val (.int (cv A (o + i)))] [])) := c8.trans (by
        refine iincV X7.here hexec rfl 1 (hb hbytes d32) (by decide) rfl rfl ?_
        refine iincV X7.here hexec rfl 1 (hb hbytes d35) (by decide) rfl rfl ?_
        refine iincV X7.here hexec rfl 1 (hb hbytes d38) (by decide) rfl rfl ?_
        refine XS.goto X7.here hexec rfl (pc0 := 41) rfl (hb hbytes d41) (by decide) rfl ?_
        exact Steps.refl _)
      have c10 : Steps p.tables e below (s₁.setTop (entryFrame m #[.ref b, .int (Int32.ofNat o), .ref d, .int (Int32.ofNat q), .int (Int32.ofNat len)] 7)) (T7.setTop (mkF m 3 #[.val (.ref b), .val (.int (Int32.ofNat (o + (i + 1)))), .val (.ref d), .val (.int (Int32.ofNat (q + (i + 1)))), .val (.int (Int32.ofNat len)), .val (.int (Int32.ofNat (i + 1))), .val (.int (cv A (o + i)))] [])) := by
        have := c9
        rw [succ32, succ32, succ32] at this
        exact this
      exact ih (i + 1) (by omega) _ (Or.inr ⟨_, rfl, rfl⟩) T7 _ (by rw [copyLocs_step, ← List.append_assoc]; exact X7) (pl.trans p7) (fl.step (by omega) hlt (by simp)) c10
  obtain ⟨T9, B9, z9, X9, p9, f9, g9⟩ := loop len 0 (by omega) .unset (Or.inl rfl) s₁ B (by simpa [copyLocs] using X0) ⟨hB0.1, fun _ _ => rfl, rfl⟩ (Laid.zero _ _ _) c2
  have c11 : Steps p.tables e below (s₁.setTop (entryFrame m #[.ref b, .int (Int32.ofNat o), .ref d, .int (Int32.ofNat q), .int (Int32.ofNat len)] 7)) (T9.setTop (mkF m 46 #[.val (.ref b), .val (.int (Int32.ofNat (o + len))), .val (.ref d), .val (.int (Int32.ofNat (q + len))), .val (.int (Int32.ofNat len)), .val (.int (Int32.ofNat len)), z9] [.int (Int32.ofNat len)])) := g9.trans (by
    refine XS.iload X9.here hexec rfl (hb hbytes d3) rfl ?_
    refine XS.iload X9.here hexec rfl (hb hbytes d5) rfl ?_
    refine XS.icmpYes X9.here hexec rfl (pc0 := 7) rfl (hb hbytes d7) rfl (ii_ge_t (nlt32 (by omega) (Nat.le_refl _))) (by decide) rfl ?_
    refine XS.iload X9.here hexec rfl (hb hbytes d44) rfl ?_
    exact Steps.refl _)
  exact ⟨T9, some (.int (Int32.ofNat len)), _, _, _, X9, by simp, rfl, rfl, (fun h => by cases h), ⟨rfl, B9, p9.from hh0, f9⟩, fun fs hl => c11.trans (X9.ireturnOut hexec hret rfl (Or.inl rfl) (hb hbytes d46) hl)⟩
end Cmp5
namespace Cmp3
def yN : MethodName := ⟨"java/lang/StringUTF16", "compress", "([CII)[B"⟩
abbrev yB : ByteArray := jdk_52_method_16_code
theorem d0 : decode yB 0 = .ok (.iload_n 2, 1) := by decide +kernel
theorem d1 : decode yB 1 = .ok (.newarray .byte, 2) := by decide +kernel
theorem d3 : decode yB 3 = .ok (.astore_n 3, 1) := by decide +kernel
theorem d4 : decode yB 4 = .ok (.aload_n 0, 1) := by decide +kernel
theorem d5 : decode yB 5 = .ok (.iload_n 1, 1) := by decide +kernel
theorem d6 : decode yB 6 = .ok (.aload_n 3, 1) := by decide +kernel
theorem d7 : decode yB 7 = .ok (.iconst 0, 1) := by decide +kernel
theorem d8 : decode yB 8 = .ok (.iload_n 2, 1) := by decide +kernel
theorem d9 : decode yB 9 = .ok (.invokestatic 115, 3) := by decide +kernel
theorem d12 : decode yB 12 = .ok (.istore 4, 2) := by decide +kernel
theorem d14 : decode yB 14 = .ok (.iload 4, 2) := by decide +kernel
theorem d16 : decode yB 16 = .ok (.iload_n 2, 1) := by decide +kernel
theorem d17 : decode yB 17 = .ok (.if_icmp (.eq) 40, 3) := by decide +kernel
theorem d57 : decode yB 57 = .ok (.aload_n 3, 1) := by decide +kernel
theorem d58 : decode yB 58 = .ok (.areturn, 1) := by decide +kernel
def site : List Cond := [.arrayClass .byte, Cmp5.tab] ++ staticW U16 115 Cmp5.yN
def tab : Cond := tabOf yN yB 6 (some (.array .byte)) site
def P (b : Addr) (A : Cell) (o len : Nat) (args : Array Value) (s : State) : Prop := args = #[.ref b, .int (Int32.ofNat o), .int (Int32.ofNat len)] ∧ Ch b A s ∧ o + len ≤ A.slots.size ∧ len ≤ 536870912 ∧ ∀ i, i < len → ¬ 255 < cv A (o + i)
def E (b : Addr) (A : Cell) (o len : Nat) (r : Option Value) (s u : State) : Prop := NewArr .byte "[B" len (fun j => .int (lo8 (cv A (o + j)))) r s u ∧ u.heap.size = s.heap.size + 1
/-- no char of the range above 255: a new byte[] of their low bytes -/
theorem law (l : Launch) (b : Addr) (A : Cell) (o len : Nat) : Law l yN 3 3 1 18 yB 6 (some (.array .byte)) site (P b A o len) (E b A o len) [] 1 len := by
  refine Law.of_walk (plainFor_of_name (by decide +kernel)) (by decide +kernel) (by decide +kernel) (by decide) (fun _ _ h => by rw [h.1]; rfl) (fun _ U U' hal hh h => ⟨h.1, h.2.1.mv hal hh, h.2.2⟩) (fun r U U' V V' h1 hal h2 h => ⟨NewArr.mv r U U' V V' h1 hal h2 h.1, by rw [h1, h2]; exact h.2⟩) ?_
  intro p e s m args below meth c s₁ X0 hexec hbytes hml hret hlk hnm hown hh0 W hP
  obtain ⟨rfl, hA, l1, l2, hp⟩ := hP
  have a31 := hA.1.2.2.2
  have c1 : Steps p.tables e below (s₁.setTop (entryFrame m #[.ref b, .int (Int32.ofNat o), .int (Int32.ofNat len)] 6)) (s₁.setTop (mkF m 0 #[.val (.ref b), .val (.int (Int32.ofNat o)), .val (.int (Int32.ofNat len)), .unset, .unset, .unset] [])) := entry rfl
  have c2 : Steps p.tables e below (s₁.setTop (entryFrame m #[.ref b, .int (Int32.ofNat o), .int (Int32.ofNat len)] 6)) (s₁.setTop (mkF m 1 #[.val (.ref b), .val (.int (Int32.ofNat o)), .val (.int (Int32.ofNat len)), .unset, .unset, .unset] [.int (Int32.ofNat len)])) := c1.trans (by
    refine XS.iloadN X0.here hexec rfl (hb hbytes d0) rfl ?_
    exact Steps.refl _)
  obtain ⟨T3, B3, X3, ba3, bs3, bv3, bh3, bf3, st3⟩ := X0.anew hexec (atype := .byte) (wk W (.arrayClass .byte)) rfl (by show len * 1 ≤ _; omega) (by omega) (g := (mkF m 1 #[.val (.ref b), .val (.int (Int32.ofNat o)), .val (.int (Int32.ofNat len)), .unset, .unset, .unset] [.int (Int32.ofNat len)])) rfl (hb hbytes d1) (rest := []) rfl (Nat.le_refl _) (by show 0 + len ≤ len; omega)
  rw [hh0] at ba3 st3
  have kp3 : XT.Kept s T3 := (XT.Kept.of_eq hh0).push bh3
  have hA3 := hA.keep X3.warmed.alike (kp3 _ _ hA.1.1)
  have hne : b ≠ s.heap.size := hA.1.ne
  have c4 : Steps p.tables e below (s₁.setTop (entryFrame m #[.ref b, .int (Int32.ofNat o), .int (Int32.ofNat len)] 6)) (T3.setTop (mkF m 3 #[.val (.ref b), .val (.int (Int32.ofNat o)), .val (.int (Int32.ofNat len)), .unset, .unset, .unset] [.ref s.heap.size])) := c2.trans (st3 _ (Steps.refl _))
  have c5 : Steps p.tables e below (s₁.setTop (entryFrame m #[.ref b, .int (Int32.ofNat o), .int (Int32.ofNat len)] 6)) (T3.setTop (mkF m 9 #[.val (.ref b), .val (.int (Int32.ofNat o)), .val (.int (Int32.ofNat len)), .val (.ref s.heap.size), .unset, .unset] [.int (Int32.ofNat len), .int 0, .ref s.heap.size, .int (Int32.ofNat o), .ref b])) := c4.trans (by
    refine XS.astoreN X3.here hexec rfl (hb hbytes d3) rfl rfl rfl ?_
    refine XS.aloadN X3.here hexec rfl (hb hbytes d4) rfl rfl ?_
    refine XS.iloadN X3.here hexec rfl (hb hbytes d5) rfl ?_
    refine XS.aloadN X3.here hexec rfl (hb hbytes d6) rfl rfl ?_
    refine iconstV X3.here hexec rfl 0 (hb hbytes d7) (by decide) ?_
    refine XS.iloadN X3.here hexec rfl (hb hbytes d8) rfl ?_
    exact Steps.refl _)
  obtain ⟨v6, T6, X6, E6, g6⟩ := X3.callS hexec (Cmp5.law l b A s.heap.size B3 o 0 len) hown (wks W (staticW U16 115 Cmp5.yN)) (wk W Cmp5.tab) (W := 0) (Nat.le_of_ble_eq_true rfl) (Nat.le_of_ble_eq_true rfl) (Nat.le_refl _) (by show 0 + len + 0 ≤ len; omega) (g := (mkF m 9 #[.val (.ref b), .val (.int (Int32.ofNat o)), .val (.int (Int32.ofNat len)), .val (.ref s.heap.size), .unset, .unset] [.int (Int32.ofNat len), .int (Int32.ofNat 0), .ref s.heap.size, .int (Int32.ofNat o), .ref b])) rfl (by rw [hml]; rfl) c5 (argsL := [.ref b, .int (Int32.ofNat o), .ref s.heap.size, .int (Int32.ofNat 0), .int (Int32.ofNat len)]) (rest := []) rfl rfl (by show 2 * 0 + 0 ≤ _; decide) (hb hbytes d9) (⟨rfl, hA3, ba3, hne, l1, by rw [bs3]; simp, hp⟩)
  obtain ⟨rfl, B6, p6, f6⟩ := E6
  have c7 : Steps p.tables e below (s₁.setTop (entryFrame m #[.ref b, .int (Int32.ofNat o), .int (Int32.ofNat len)] 6)) (T6.setTop (mkF m 12 #[.val (.ref b), .val (.int (Int32.ofNat o)), .val (.int (Int32.ofNat len)), .val (.ref s.heap.size), .unset, .unset] [.int (Int32.ofNat len)])) := g6
  have c8 : Steps p.tables e below (s₁.setTop (entryFrame m #[.ref b, .int (Int32.ofNat o), .int (Int32.ofNat len)] 6)) (T6.setTop (mkF m 58 #[.val (.ref b), .val (.int (Int32.ofNat o)), .val (.int (Int32.ofNat len)), .val (.ref s.heap.size), .val (.int (Int32.ofNat len)), .unset] [.ref s.heap.size])) := c7.trans (by
    refine XS.istore X6.here hexec rfl (hb hbytes d12) rfl rfl ?_
    refine XS.iload X6.here hexec rfl (hb hbytes d14) rfl ?_
    refine XS.iloadN X6.here hexec rfl (hb hbytes d16) rfl ?_
    refine XS.icmpYes X6.here hexec rfl (pc0 := 17) rfl (hb hbytes d17) rfl (ii_eq_t rfl) (by decide) rfl ?_
    refine XS.aloadN X6.here hexec rfl (hb hbytes d57) rfl rfl ?_
    exact Steps.refl _)
  have X8 := X6.wide (L' := []) (cells' := 1) (slots' := len) (fun x hx hlt => by
    simp only [List.nil_append, copyLocs, List.mem_map, List.mem_range] at hx
    obtain ⟨i, -, rfl⟩ := hx
    exact absurd hlt (Nat.lt_irrefl _)) (Nat.le_refl _) (by omega)
  exact ⟨T6, some (.ref s.heap.size), _, _, _, X8, rfl, rfl, rfl, (fun h => by cases h), ⟨⟨rfl, B6, ba3.like (X3.warmed.alike.symm.trans X6.warmed.alike) p6.1 f6.1 f6.2.1 f6.2.2.1, f6.2.1.trans bv3, by rw [X6.warmed.alike.findClass, f6.1]; exact bf3, by rw [f6.2.2.1, bs3]; simp, fun j hj => by rw [f6.2.2.2 j, if_pos (by omega)]; rfl, kp3.put p6 (Nat.le_refl _)⟩, by rw [p6.2.2, bh3, hh0]; simp⟩, fun fs hl => c8.trans (X8.areturnOut hexec rfl hret rfl (hb hbytes d58) hl)⟩
end Cmp3
namespace CodL
def yN : MethodName := ⟨"java/lang/StringUTF16", "coderFromArrayLen", "([BI)B"⟩
abbrev yB : ByteArray := jdk_52_method_15_code
theorem d0 : decode yB 0 = .ok (.iload_n 1, 1) := by decide +kernel
theorem d1 : decode yB 1 = .ok (.aload_n 0, 1) := by decide +kernel
theorem d2 : decode yB 2 = .ok (.arraylength, 1) := by decide +kernel
theorem d3 : decode yB 3 = .ok (.isub, 1) := by decide +kernel
theorem d4 : decode yB 4 = .ok (.bipush 31, 2) := by decide +kernel
theorem d6 : decode yB 6 = .ok (.iushr, 1) := by decide +kernel
theorem d7 : decode yB 7 = .ok (.i2b, 1) := by decide +kernel
theorem d8 : decode yB 8 = .ok (.ireturn, 1) := by decide +kernel
def site : List Cond := []
def tab : Cond := tabOf yN yB 2 (some .byte) site
def P (d : Addr) (B : Cell) (args : Array Value) (s : State) : Prop := args = #[.ref d, .int (Int32.ofNat B.slots.size)] ∧ Arr .byte d B s
def E (r : Option Value) (s u : State) : Prop := XT.PureE (some (.int 0)) r s u
/-- an array as long as the number of chars: LATIN1 -/
theorem law (l : Launch) (d : Addr) (B : Cell) : Law l yN 2 2 0 0 yB 2 (some .byte) site (P d B) E [] 0 0 := by
  refine Law.of_walk (plainFor_of_name (by decide +kernel)) (by decide +kernel) (by decide +kernel) (by decide) (fun _ _ h => by rw [h.1]; rfl) (fun _ U U' hal hh h => ⟨h.1, h.2.mv hal hh⟩) (fun r U U' V V' h1 hal h2 h => XT.PureE.mv r U U' V V' h1 hal h2 h) ?_
  intro p e s m args below meth c s₁ X0 hexec hbytes hml hret hlk hnm hown hh0 W hP
  obtain ⟨rfl, hB⟩ := hP
  have hB0 := hB.mv X0.warmed.alike hh0
  have c1 : Steps p.tables e below (s₁.setTop (entryFrame m #[.ref d, .int (Int32.ofNat B.slots.size)] 2)) (s₁.setTop (mkF m 0 #[.val (.ref d), .val (.int (Int32.ofNat B.slots.size))] [])) := entry rfl
  have c2 : Steps p.tables e below (s₁.setTop (entryFrame m #[.ref d, .int (Int32.ofNat B.slots.size)] 2)) (s₁.setTop (mkF m 2 #[.val (.ref d), .val (.int (Int32.ofNat B.slots.size))] [.ref d, .int (Int32.ofNat B.slots.size)])) := c1.trans (by
    refine XS.iloadN X0.here hexec rfl (hb hbytes d0) rfl ?_
    refine XS.aloadN X0.here hexec rfl (hb hbytes d1) rfl rfl ?_
    exact Steps.refl _)
  have c3 : Steps p.tables e below (s₁.setTop (entryFrame m #[.ref d, .int (Int32.ofNat B.slots.size)] 2)) (s₁.setTop (mkF m 8 #[.val (.ref d), .val (.int (Int32.ofNat B.slots.size))] [.int (lo8 (ushr (Int32.ofNat B.slots.size - Int32.ofNat B.slots.size) 31))])) := c2.trans (by
    refine X0.alen hexec hB0 rfl rfl (hb hbytes d2) ?_
    refine XS.isub X0.here hexec rfl (hb hbytes d3) rfl ?_
    refine bipushV X0.here hexec rfl 31 (hb hbytes d4) (by decide) ?_
    refine iushr X0.here hexec rfl (hb hbytes d6) rfl ?_
    refine i2b X0.here hexec rfl (hb hbytes d7) rfl ?_
    exact Steps.refl _)
  have e0 : lo8 (ushr (Int32.ofNat B.slots.size - Int32.ofNat B.slots.size) 31) = 0 := by rw [Int32.sub_self]; decide
  rw [e0] at c3
  exact ⟨s₁, some (.int 0), _, _, _, X0, rfl, rfl, rfl, (fun h => by cases h), ⟨rfl, hh0⟩, fun fs hl => c3.trans (X0.ireturnOut hexec hret rfl (Or.inr (Or.inr (Or.inl rfl))) (hb hbytes d8) hl)⟩
end CodL
/-- the String at a is Latin-1 over a new byte[] (the heap's one new cell): the low bytes of the len chars of A from o on; every cell but a is kept -/
def Got (a : Addr) (D : Cell) (fV fC : Field) (A : Cell) (o len : Nat) (r : Option Value) (s u : State) : Prop := r = none ∧ ∃ D' V : Cell, Blank "java/lang/String" a D' u ∧ Same D D' [fV.slot, fC.slot] ∧ D'.slots[fV.slot]? = some (.ref s.heap.size) ∧ D'.slots[fC.slot]? = some (.int 0) ∧ Arr .byte s.heap.size V u ∧ V.vm = .none ∧ u.vm.findClass "[B" = some V.cls ∧ V.slots.size = len ∧ (∀ j, j < len → V.slots[j]? = some (.int (lo8 (cv A (o + j))))) ∧ (∀ (y : Addr) (c : Cell), y ≠ a → s.heap[y]? = some c → u.heap[y]? = some c) ∧ u.heap.size = s.heap.size + 1
theorem Got.mv {a : Addr} {D A : Cell} {fV fC : Field} {o len : Nat} : ∀ r (U U' V V' : State), U'.heap = U.heap → V.vm.Alike V'.vm → V'.heap = V.heap → Got a D fV fC A o len r U V → Got a D fV fC A o len r U' V' :=
  fun r U U' V V' h1 hal h2 ⟨e0, D', X, a1, a2, a3, a4, a5, a6, a7, a8, a9, a10, a11⟩ => ⟨e0, D', X, a1.mv hal h2, a2, by rw [h1]; exact a3, a4, by rw [h1]; exact a5.mv hal h2, a6, by rw [hal.findClass]; exact a7, a8, a9, by rw [h1, h2]; exact a10, by rw [h1, h2]; exact a11⟩
namespace New4
def yN : MethodName := ⟨"java/lang/String", "<init>", "([CIILjava/lang/Void;)V"⟩
abbrev yB : ByteArray := jdk_42_method_149_code
theorem d0 : decode yB 0 = .ok (.aload_n 0, 1) := by decide +kernel
theorem d1 : decode yB 1 = .ok (.invokespecial 1, 3) := by decide +kernel
theorem d4 : decode yB 4 = .ok (.iload_n 3, 1) := by decide +kernel
theorem d5 : decode yB 5 = .ok (.ifCond (.ne) 22, 3) := by decide +kernel
theorem d27 : decode yB 27 = .ok (.getstatic 38, 3) := by decide +kernel
theorem d30 : decode yB 30 = .ok (.ifCond (.eq) 28, 3) := by decide +kernel
theorem d33 : decode yB 33 = .ok (.aload_n 1, 1) := by decide +kernel
theorem d34 : decode yB 34 = .ok (.iload_n 2, 1) := by decide +kernel
theorem d35 : decode yB 35 = .ok (.iload_n 3, 1) := by decide +kernel
theorem d36 : decode yB 36 = .ok (.invokestatic 177, 3) := by decide +kernel
theorem d39 : decode yB 39 = .ok (.astore 5, 2) := by decide +kernel
theorem d41 : decode yB 41 = .ok (.aload_n 0, 1) := by decide +kernel
theorem d42 : decode yB 42 = .ok (.aload 5, 2) := by decide +kernel
theorem d44 : decode yB 44 = .ok (.iload_n 3, 1) := by decide +kernel
theorem d45 : decode yB 45 = .ok (.invokestatic 47, 3) := by decide +kernel
theorem d48 : decode yB 48 = .ok (.putfield 15, 3) := by decide +kernel
theorem d51 : decode yB 51 = .ok (.aload_n 0, 1) := by decide +kernel
theorem d52 : decode yB 52 = .ok (.aload 5, 2) := by decide +kernel
theorem d54 : decode yB 54 = .ok (.putfield 9, 3) := by decide +kernel
theorem d57 : decode yB 57 = .ok (.return_, 1) := by decide +kernel
def site : List Cond := [.fieldLink "java/lang/String" 38 "java/lang/String" "COMPACT_STRINGS" "Z", Cmp3.tab, CodL.tab, .laysFinal "java/lang/String" "java/lang/String" "value" "[B", .fieldLink "java/lang/String" 9 "java/lang/String" "value" "[B", .laysFinal "java/lang/String" "java/lang/String" "coder" "B", .fieldLink "java/lang/String" 15 "java/lang/String" "coder" "B"] ++ objW "java/lang/String" 1 ++ staticW "java/lang/String" 177 Cmp3.yN ++ staticW "java/lang/String" 47 CodL.yN
def tab : Cond := tabOf yN yB 6 none site
def P (a : Addr) (D : Cell) (fV fC : Field) (b : Addr) (A : Cell) (z : Int32) (o len : Nat) (args : Array Value) (s : State) : Prop := args = #[.ref a, .ref b, .int (Int32.ofNat o), .int (Int32.ofNat len), .null] ∧ Blank "java/lang/String" a D s ∧ Found "java/lang/String" "value" "[B" fV s ∧ Found "java/lang/String" "coder" "B" fC s ∧ Ch b A s ∧ StaticIs s "java/lang/String" "COMPACT_STRINGS" "Z" (.int z) ∧ ¬ z = 0 ∧ 0 < len ∧ o + len ≤ A.slots.size ∧ len ≤ 536870912 ∧ ∀ i, i < len → ¬ 255 < cv A (o + i)
def E (a : Addr) (D : Cell) (fV fC : Field) (A : Cell) (o len : Nat) (r : Option Value) (s u : State) : Prop := Got a D fV fC A o len r s u
/-- len > 0, no char of the range above 255: a Latin-1 String of their low bytes -/
theorem law (l : Launch) (a : Addr) (D : Cell) (fV fC : Field) (b : Addr) (A : Cell) (z : Int32) (o len : Nat) : Law l yN 5 4 2 35 yB 6 none site (P a D fV fC b A z o len) (E a D fV fC A o len) [⟨a, fC.slot⟩, ⟨a, fV.slot⟩] 1 len := by
  refine Law.of_walk (plainFor_of_name (by decide +kernel)) (by decide +kernel) (by decide +kernel) (by decide) (fun _ _ h => by rw [h.1]; rfl) (fun _ U U' hal hh h => ⟨h.1, h.2.1.mv hal hh, h.2.2.1.al hal, h.2.2.2.1.al hal, h.2.2.2.2.1.mv hal hh, h.2.2.2.2.2.1.there hal hh, h.2.2.2.2.2.2⟩) (fun r U U' V V' h1 hal h2 h => Got.mv r U U' V V' h1 hal h2 h) ?_
  intro p e s m args below meth c s₁ X0 hexec hbytes hml hret hlk hnm hown hh0 W hP
  obtain ⟨rfl, hB, f1, f2, hA, s1, hz, l0, l1, l2, hp⟩ := hP
  have a31 := hA.1.2.2.2
  have c1 : Steps p.tables e below (s₁.setTop (entryFrame m #[.ref a, .ref b, .int (Int32.ofNat o), .int (Int32.ofNat len), .null] 6)) (s₁.setTop (mkF m 0 #[.val (.ref a), .val (.ref b), .val (.int (Int32.ofNat o)), .val (.int (Int32.ofNat len)), .val .null, .unset] [])) := entry rfl
  have c2 : Steps p.tables e below (s₁.setTop (entryFrame m #[.ref a, .ref b, .int (Int32.ofNat o), .int (Int32.ofNat len), .null] 6)) (s₁.setTop (mkF m 1 #[.val (.ref a), .val (.ref b), .val (.int (Int32.ofNat o)), .val (.int (Int32.ofNat len)), .val .null, .unset] [.ref a])) := c1.trans (by
    refine XS.aloadN X0.here hexec rfl (hb hbytes d0) rfl rfl ?_
    exact Steps.refl _)
  obtain ⟨T3, X3, q3, st3⟩ := X0.oinit hexec hown (wks W (objW "java/lang/String" 1)) (g := (mkF m 1 #[.val (.ref a), .val (.ref b), .val (.int (Int32.ofNat o)), .val (.int (Int32.ofNat len)), .val .null, .unset] [.ref a])) rfl (by rw [hml]; rfl) (rest := []) rfl (hb hbytes d1) (W := 0) (by show 2 * 0 + 0 ≤ _; decide) (Nat.le_of_ble_eq_true rfl) (Nat.le_of_ble_eq_true rfl)
  have hh3 := q3.trans hh0
  have c4 : Steps p.tables e below (s₁.setTop (entryFrame m #[.ref a, .ref b, .int (Int32.ofNat o), .int (Int32.ofNat len), .null] 6)) (T3.setTop (mkF m 27 #[.val (.ref a), .val (.ref b), .val (.int (Int32.ofNat o)), .val (.int (Int32.ofNat len)), .val .null, .unset] [])) := (c2.trans (st3 _ (Steps.refl _))).trans (by
    refine XS.iloadN X3.here hexec rfl (hb hbytes d4) rfl ?_
    refine XS.ifYes X3.here hexec rfl (pc0 := 5) rfl (hb hbytes d5) rfl (i0_ne_t (nz32 (by omega) l0)) (by decide) rfl ?_
    exact Steps.refl _)
  obtain ⟨T5, X5, q5, st5⟩ := X3.sget hexec hown (wk W (.fieldLink "java/lang/String" 38 "java/lang/String" "COMPACT_STRINGS" "Z")) s1 (fun _ _ h => by rw [hh3]; exact h) (g := (mkF m 27 #[.val (.ref a), .val (.ref b), .val (.int (Int32.ofNat o)), .val (.int (Int32.ofNat len)), .val .null, .unset] [])) rfl (hb hbytes d27)
  have hh5 := q5.trans hh3
  have c6 : Steps p.tables e below (s₁.setTop (entryFrame m #[.ref a, .ref b, .int (Int32.ofNat o), .int (Int32.ofNat len), .null] 6)) (T5.setTop (mkF m 30 #[.val (.ref a), .val (.ref b), .val (.int (Int32.ofNat o)), .val (.int (Int32.ofNat len)), .val .null, .unset] [.int z])) := c4.trans (st5 _ (Steps.refl _))
  have c7 : Steps p.tables e below (s₁.setTop (entryFrame m #[.ref a, .ref b, .int (Int32.ofNat o), .int (Int32.ofNat len), .null] 6)) (T5.setTop (mkF m 36 #[.val (.ref a), .val (.ref b), .val (.int (Int32.ofNat o)), .val (.int (Int32.ofNat len)), .val .null, .unset] [.int (Int32.ofNat len), .int (Int32.ofNat o), .ref b])) := c6.trans (by
    refine XS.ifNo X5.here hexec rfl (hb hbytes d30) rfl (i0_eq_f hz) ?_
    refine XS.aloadN X5.here hexec rfl (hb hbytes d33) rfl rfl ?_
    refine XS.iloadN X5.here hexec rfl (hb hbytes d34) rfl ?_
    refine XS.iloadN X5.here hexec rfl (hb hbytes d35) rfl ?_
    exact Steps.refl _)
  obtain ⟨v8, T8, X8, E8, g8⟩ := X5.callS hexec (Cmp3.law l b A o len) hown (wks W (staticW "java/lang/String" 177 Cmp3.yN)) (wk W Cmp3.tab) (W := 0) (Nat.le_of_ble_eq_true rfl) (Nat.le_of_ble_eq_true rfl) (Nat.le_refl _) (by show 0 + len ≤ len; omega) (g := (mkF m 36 #[.val (.ref a), .val (.ref b), .val (.int (Int32.ofNat o)), .val (.int (Int32.ofNat len)), .val .null, .unset] [.int (Int32.ofNat len), .int (Int32.ofNat o), .ref b])) rfl (by rw [hml]; rfl) c7 (argsL := [.ref b, .int (Int32.ofNat o), .int (Int32.ofNat len)]) (rest := []) rfl rfl (by show 2 * 0 + 0 ≤ _; decide) (hb hbytes d36) (⟨rfl, hA.mv X5.warmed.alike hh5, l1, l2, hp⟩)
  obtain ⟨e8, z8⟩ := E8
  obtain ⟨rfl, N, n1, n2, n3, n4, n5, n6⟩ := NewArr.mv _ T5 s _ _ hh5.symm (Vm.Alike.refl _) rfl e8
  rw [hh5] at z8
  have hB1 := hB.keep X8.warmed.alike (n6 _ _ hB.1)
  have hne : s.heap.size ≠ a := (Nat.ne_of_lt (Array.getElem?_eq_some_iff.mp hB.1).1).symm
  have c9 : Steps p.tables e below (s₁.setTop (entryFrame m #[.ref a, .ref b, .int (Int32.ofNat o), .int (Int32.ofNat len), .null] 6)) (T8.setTop (mkF m 39 #[.val (.ref a), .val (.ref b), .val (.int (Int32.ofNat o)), .val (.int (Int32.ofNat len)), .val .null, .unset] [.ref s.heap.size])) := g8
  have c10 : Steps p.tables e below (s₁.setTop (entryFrame m #[.ref a, .ref b, .int (Int32.ofNat o), .int (Int32.ofNat len), .null] 6)) (T8.setTop (mkF m 45 #[.val (.ref a), .val (.ref b), .val (.int (Int32.ofNat o)), .val (.int (Int32.ofNat len)), .val .null, .val (.ref s.heap.size)] [.int (Int32.ofNat N.slots.size), .ref s.heap.size, .ref a])) := by
    have hc : Steps p.tables e below (s₁.setTop (entryFrame m #[.ref a, .ref b, .int (Int32.ofNat o), .int (Int32.ofNat len), .null] 6)) (T8.setTop (mkF m 45 #[.val (.ref a), .val (.ref b), .val (.int (Int32.ofNat o)), .val (.int (Int32.ofNat len)), .val .null, .val (.ref s.heap.size)] [.int (Int32.ofNat len), .ref s.heap.size, .ref a])) := c9.trans (by
      refine XS.astore X8.here hexec rfl (hb hbytes d39) rfl rfl rfl ?_
      refine XS.aloadN X8.here hexec rfl (hb hbytes d41) rfl rfl ?_
      refine XS.aload X8.here hexec rfl (hb hbytes d42) rfl rfl ?_
      refine XS.iloadN X8.here hexec rfl (hb hbytes d44) rfl ?_
      exact Steps.refl _)
    rw [n4]; exact hc
  obtain ⟨v11, T11, X11, E11, g11⟩ := X8.callS hexec (CodL.law l s.heap.size N) hown (wks W (staticW "java/lang/String" 47 CodL.yN)) (wk W CodL.tab) (W := 1) (Nat.le_of_ble_eq_true rfl) (Nat.le_of_ble_eq_true rfl) (Nat.le_refl _) (by show 0 + len + 0 ≤ len; omega) (g := (mkF m 45 #[.val (.ref a), .val (.ref b), .val (.int (Int32.ofNat o)), .val (.int (Int32.ofNat len)), .val .null, .val (.ref s.heap.size)] [.int (Int32.ofNat N.slots.size), .ref s.heap.size, .ref a])) rfl (by rw [hml]; rfl) c10 (argsL := [.ref s.heap.size, .int (Int32.ofNat N.slots.size)]) (rest := [.ref a]) rfl rfl (by show 2 * 0 + (1 + 0) ≤ _; decide) (hb hbytes d45) (⟨rfl, n1⟩)
  obtain ⟨rfl, q11⟩ := E11
  have hB11 := hB1.mv (X8.warmed.alike.symm.trans X11.warmed.alike) q11
  have c12 : Steps p.tables e below (s₁.setTop (entryFrame m #[.ref a, .ref b, .int (Int32.ofNat o), .int (Int32.ofNat len), .null] 6)) (T11.setTop (mkF m 48 #[.val (.ref a), .val (.ref b), .val (.int (Int32.ofNat o)), .val (.int (Int32.ofNat len)), .val .null, .val (.ref s.heap.size)] [.int 0, .ref a])) := g11
  obtain ⟨T13, X13, p13, bl13, sl13, st13⟩ := X11.finit hexec hown (wk W (.fieldLink "java/lang/String" 15 "java/lang/String" "coder" "B")) (Or.inr ⟨_, (wk W (.laysFinal "java/lang/String" "java/lang/String" "coder" "B"))⟩) (Or.inl ⟨rfl, hnm⟩) f2 (Or.inl rfl) hB11 (t := .byte) (by decide +kernel) rfl (g := (mkF m 48 #[.val (.ref a), .val (.ref b), .val (.int (Int32.ofNat o)), .val (.int (Int32.ofNat len)), .val .null, .val (.ref s.heap.size)] [.int 0, .ref a])) rfl (rest := []) rfl (hb hbytes d48)
  have c14 : Steps p.tables e below (s₁.setTop (entryFrame m #[.ref a, .ref b, .int (Int32.ofNat o), .int (Int32.ofNat len), .null] 6)) (T13.setTop (mkF m 54 #[.val (.ref a), .val (.ref b), .val (.int (Int32.ofNat o)), .val (.int (Int32.ofNat len)), .val .null, .val (.ref s.heap.size)] [.ref s.heap.size, .ref a])) := (c12.trans (st13 _ (Steps.refl _))).trans (by
    refine XS.aloadN X13.here hexec rfl (hb hbytes d51) rfl rfl ?_
    refine XS.aload X13.here hexec rfl (hb hbytes d52) rfl rfl ?_
    exact Steps.refl _)
  obtain ⟨T15, X15, p15, bl15, sl15, st15⟩ := X13.finit hexec hown (wk W (.fieldLink "java/lang/String" 9 "java/lang/String" "value" "[B")) (Or.inr ⟨_, (wk W (.laysFinal "java/lang/String" "java/lang/String" "value" "[B"))⟩) (Or.inl ⟨rfl, hnm⟩) f1 (Or.inl rfl) bl13 (t := (.array .byte)) (by decide +kernel) rfl (g := (mkF m 54 #[.val (.ref a), .val (.ref b), .val (.int (Int32.ofNat o)), .val (.int (Int32.ofNat len)), .val .null, .val (.ref s.heap.size)] [.ref s.heap.size, .ref a])) rfl (rest := []) rfl (hb hbytes d54)
  have c16 : Steps p.tables e below (s₁.setTop (entryFrame m #[.ref a, .ref b, .int (Int32.ofNat o), .int (Int32.ofNat len), .null] 6)) (T15.setTop (mkF m 57 #[.val (.ref a), .val (.ref b), .val (.int (Int32.ofNat o)), .val (.int (Int32.ofNat len)), .val .null, .val (.ref s.heap.size)] [])) := c14.trans (st15 _ (Steps.refl _))
  have ap := apart (Or.inr ⟨_, (wk W (.laysFinal "java/lang/String" "java/lang/String" "value" "[B"))⟩) (Or.inr ⟨_, (wk W (.laysFinal "java/lang/String" "java/lang/String" "coder" "B"))⟩) f1 f2 (t₁ := .array .byte) (t₂ := .byte) (by decide +kernel) (by decide +kernel) (by decide)
  have al := X8.warmed.alike.symm.trans X15.warmed.alike
  have n7 : T11.heap[s.heap.size]? = some N := by rw [q11]; exact n1.1
  exact ⟨T15, none, _, _, _, X15, by simp, rfl, by omega, (fun _ => rfl), ⟨rfl, _, N, bl15, ((Same.refl D _).set _ (by simp)).set _ (by simp), sl15, (Cell.slots_setSlot_ne _ ap).trans sl13, n1.keep al (p15.other hne (p13.other hne n7)), n2, by rw [al.findClass]; exact n3, n4, n5, fun y c h1 h2 => p15.other h1 (p13.other h1 (by rw [q11]; exact n6 y c h2)), by rw [p15.2.2, p13.2.2, q11]; exact z8⟩, fun fs hl => c16.trans (X15.returnOut hexec hret (hb hbytes d57) hl)⟩
end New4
namespace New1
def yN : MethodName := ⟨"java/lang/String", "<init>", "([C)V"⟩
abbrev yB : ByteArray := jdk_42_method_3_code
theorem d0 : decode yB 0 = .ok (.aload_n 0, 1) := by decide +kernel
theorem d1 : decode yB 1 = .ok (.aload_n 1, 1) := by decide +kernel
theorem d2 : decode yB 2 = .ok (.iconst 0, 1) := by decide +kernel
theorem d3 : decode yB 3 = .ok (.aload_n 1, 1) := by decide +kernel
theorem d4 : decode yB 4 = .ok (.arraylength, 1) := by decide +kernel
theorem d5 : decode yB 5 = .ok (.aconst_null, 1) := by decide +kernel
theorem d6 : decode yB 6 = .ok (.invokespecial 27, 3) := by decide +kernel
theorem d9 : decode yB 9 = .ok (.return_, 1) := by decide +kernel
def site : List Cond := [New4.tab] ++ initW "java/lang/String" 27 New4.yN
def tab : Cond := tabOf yN yB 2 none site
def P (a : Addr) (D : Cell) (fV fC : Field) (b : Addr) (A : Cell) (z : Int32) (args : Array Value) (s : State) : Prop := args = #[.ref a, .ref b] ∧ Blank "java/lang/String" a D s ∧ Found "java/lang/String" "value" "[B" fV s ∧ Found "java/lang/String" "coder" "B" fC s ∧ Ch b A s ∧ StaticIs s "java/lang/String" "COMPACT_STRINGS" "Z" (.int z) ∧ ¬ z = 0 ∧ 0 < A.slots.size ∧ A.slots.size ≤ 536870912 ∧ ∀ i, i < A.slots.size → ¬ 255 < cv A i
def E (a : Addr) (D : Cell) (fV fC : Field) (A : Cell) (r : Option Value) (s u : State) : Prop := Got a D fV fC A 0 A.slots.size r s u
/-- new String(chars), not empty, no char above 255: a Latin-1 String of their low bytes -/
theorem law (l : Launch) (a : Addr) (D : Cell) (fV fC : Field) (b : Addr) (A : Cell) (z : Int32) : Law l yN 2 1 3 52 yB 2 none site (P a D fV fC b A z) (E a D fV fC A) [⟨a, fC.slot⟩, ⟨a, fV.slot⟩] 1 A.slots.size := by
  refine Law.of_walk (plainFor_of_name (by decide +kernel)) (by decide +kernel) (by decide +kernel) (by decide) (fun _ _ h => by rw [h.1]; rfl) (fun _ U U' hal hh h => ⟨h.1, h.2.1.mv hal hh, h.2.2.1.al hal, h.2.2.2.1.al hal, h.2.2.2.2.1.mv hal hh, h.2.2.2.2.2.1.there hal hh, h.2.2.2.2.2.2⟩) (fun r U U' V V' h1 hal h2 h => Got.mv r U U' V V' h1 hal h2 h) ?_
  intro p e s m args below meth c s₁ X0 hexec hbytes hml hret hlk hnm hown hh0 W hP
  obtain ⟨rfl, hB, f1, f2, hA, s1, hz, l0, l2, hp⟩ := hP
  have c1 : Steps p.tables e below (s₁.setTop (entryFrame m #[.ref a, .ref b] 2)) (s₁.setTop (mkF m 0 #[.val (.ref a), .val (.ref b)] [])) := entry rfl
  have c2 : Steps p.tables e below (s₁.setTop (entryFrame m #[.ref a, .ref b] 2)) (s₁.setTop (mkF m 6 #[.val (.ref a), .val (.ref b)] [.null, .int (Int32.ofNat A.slots.size), .int 0, .ref b, .ref a])) := c1.trans (by
    refine XS.aloadN X0.here hexec rfl (hb hbytes d0) rfl rfl ?_
    refine XS.aloadN X0.here hexec rfl (hb hbytes d1) rfl rfl ?_
    refine iconstV X0.here hexec rfl 0 (hb hbytes d2) (by decide) ?_
    refine XS.aloadN X0.here hexec rfl (hb hbytes d3) rfl rfl ?_
    refine X0.alen hexec (hA.1.mv X0.warmed.alike hh0) rfl rfl (hb hbytes d4) ?_
    refine XS.aconstNull X0.here hexec rfl (hb hbytes d5) ?_
    exact Steps.refl _)
  obtain ⟨v3, T3, X3, E3, g3⟩ := X0.callN hexec (New4.law l a D fV fC b A z 0 A.slots.size) rfl hown (wks W (initW "java/lang/String" 27 New4.yN)) (W New4.tab (by simp only [site, List.mem_cons, List.mem_append, true_or, or_true])) (W := 0) (Nat.le_of_ble_eq_true rfl) (Nat.le_of_ble_eq_true rfl) (Nat.le_refl _) (by show 0 + A.slots.size ≤ A.slots.size; omega) (g := (mkF m 6 #[.val (.ref a), .val (.ref b)] [.null, .int (Int32.ofNat A.slots.size), .int (Int32.ofNat 0), .ref b, .ref a])) rfl (by rw [hml]; rfl) c2 (argsL := [.ref b, .int (Int32.ofNat 0), .int (Int32.ofNat A.slots.size), .null]) (rest := []) rfl rfl (by show 2 * 0 + 0 ≤ _; decide) (hb hbytes d6) (⟨rfl, hB.mv X0.warmed.alike hh0, f1.al X0.warmed.alike, f2.al X0.warmed.alike, hA.mv X0.warmed.alike hh0, s1.there X0.warmed.alike hh0, hz, l0, by omega, l2, fun i hi => by rw [Nat.zero_add]; exact hp i hi⟩)
  have e0 := Got.mv _ s₁ s _ _ hh0.symm (Vm.Alike.refl _) rfl E3
  obtain rfl := e0.1
  have c4 : Steps p.tables e below (s₁.setTop (entryFrame m #[.ref a, .ref b] 2)) (T3.setTop (mkF m 9 #[.val (.ref a), .val (.ref b)] [])) := g3
  exact ⟨T3, none, _, _, _, X3, by simp, rfl, by omega, (fun _ => rfl), e0, fun fs hl => c4.trans (X3.returnOut hexec hret (hb hbytes d9) hl)⟩
theorem pays {l : Launch} {R : Room} {p : Program} {e : Env} {below : List Frame} {s : State} {sargs : Array Value} {len W : Nat} (a : Addr) (D : Cell) (fV fC : Field) (b : Addr) (A : Cell) (z : Int32) (htab : tab.before sargs s = true) (hfr : 4 ≤ R.frames) (hlo : W + 65 ≤ R.locals) :
    Back l R p e below s sargs yN len W (fun A₁ a₁ => A₁.cells + 1 ≤ R.cells ∧ A₁.slots + A.slots.size ≤ R.slots ∧ P a D fV fC b A z a₁ A₁.U) (fun A₁ _ v₁ B₁ => E a D fV fC A v₁ A₁.U B₁.U ∧ B₁.locs = A₁.locs ++ [⟨a, fC.slot⟩, ⟨a, fV.slot⟩] ∧ B₁.cells = A₁.cells + 1 ∧ B₁.slots = A₁.slots + A.slots.size) :=
  (law l a D fV fC b A z).pays htab hfr (by omega)
end New1
/-- the byte, read back as charAt reads it, is the char -/
theorem lo8_mask {x : Int32} (h0 : ¬ x < 0) (h1 : ¬ 255 < x) : lo8 x &&& 255 = x := by
  have t : ∀ k : Fin 256, lo8 (Int32.ofNat k.val) &&& 255 = Int32.ofNat k.val := by decide +kernel
  rw [Int32.lt_iff_toInt_lt] at h0 h1
  have e0 : (0 : Int32).toInt = 0 := rfl
  have e1 : (255 : Int32).toInt = 255 := rfl
  obtain ⟨k, hk⟩ : ∃ k : Nat, x.toInt = k := ⟨x.toInt.toNat, by omega⟩
  have hx : x = Int32.ofNat k := Int32.toInt_inj.mp (by rw [hk, Int32.toInt_ofNat_small (by omega)])
  rw [hx]
  exact t ⟨k, by omega⟩
end StrChars
namespace StrChars.Road
open Jvm Sem ClassFile Op Lib Jvm.Stand Jvm.Free Jvm.Free.XT
open Jvm.Lib.Cold (StaticIs)
abbrev ST : String := "java/lang/String"
/-- every table word that New1's law asks, flat -/
abbrev words : List Jvm.Cond := [.code New1.yN New1.yB 2 none, .initialized ST, .methodLink ST 27 New4.yN, .instanceMethod New4.yN,
  .code New4.yN New4.yB 6 none, .fieldLink ST 38 ST "COMPACT_STRINGS" "Z", .laysFinal ST ST "value" "[B", .fieldLink ST 9 ST "value" "[B", .laysFinal ST ST "coder" "B", .fieldLink ST 15 ST "coder" "B",
  .methodLink ST 1 Lib.objectInit, .instanceMethod Lib.objectInit, .code Lib.objectInit ⟨#[0xb1]⟩ 1 none, .methodLink ST 177 Cmp3.yN, .static Cmp3.yN, .methodLink ST 47 CodL.yN, .static CodL.yN,
  .code Cmp3.yN Cmp3.yB 6 (some (.array .byte)), .initialized U16, .arrayClass .byte, .methodLink U16 115 Cmp5.yN, .static Cmp5.yN, .code Cmp5.yN Cmp5.yB 7 (some .int), .code CodL.yN CodL.yB 2 (some .byte)]
theorem tab_of {a : Array Value} {s : State} (h : ∀ w ∈ words, w.before a s = true) : New1.tab.before a s = true := by
  have h5 : Cmp5.tab.before a s = true := unparts (wk h (.code Cmp5.yN Cmp5.yB 7 (some .int))) (wks h (.initialized Cmp5.yN.cls :: Cmp5.site))
  have hc : CodL.tab.before a s = true := unparts (wk h (.code CodL.yN CodL.yB 2 (some .byte))) (wks h (.initialized CodL.yN.cls :: CodL.site))
  have q5 : ∀ w ∈ Cmp5.tab :: words, w.before a s = true := fun w hw => (List.mem_cons.mp hw).elim (fun e => e ▸ h5) (h w)
  have h3 : Cmp3.tab.before a s = true := unparts (wk q5 (.code Cmp3.yN Cmp3.yB 6 (some (.array .byte)))) (wks q5 (.initialized Cmp3.yN.cls :: Cmp3.site))
  have q3 : ∀ w ∈ Cmp3.tab :: CodL.tab :: words, w.before a s = true := fun w hw => (List.mem_cons.mp hw).elim (fun e => e ▸ h3) fun hw => (List.mem_cons.mp hw).elim (fun e => e ▸ hc) (h w)
  have h4 : New4.tab.before a s = true := unparts (wk q3 (.code New4.yN New4.yB 6 none)) (wks q3 (.initialized New4.yN.cls :: New4.site))
  have q4 : ∀ w ∈ New4.tab :: words, w.before a s = true := fun w hw => (List.mem_cons.mp hw).elim (fun e => e ▸ h4) (h w)
  exact unparts (wk q4 (.code New1.yN New1.yB 2 none)) (wks q4 (.initialized New1.yN.cls :: New1.site))
/-- the words ride from the start Z to the walk's own state -/
theorem moved {Z s : State} {a0 args : Array Value} (hZ : Z.Warmed39 s.vm) (hw : ∀ d ∈ words, d.before a0 Z = true) : ∀ d ∈ words, d.before args s = true := fun d hd => by
  have q := hw d hd
  have t : ∀ d ∈ words, d = .arrayClass .byte ∨ (d.onTables && d.keepsFace) = true := by decide +kernel
  rcases t d hd with rfl | t
  · exact RoadKit.mvA hZ q
  · exact RoadKit.mv hZ q t
/-- WHAT COMES BACK, over the tables of the start Z: h the heap at the call, h' behind it -/
def Q (Z : State) (x : Addr) (A : Cell) (h : Heap) (v : Option Value) (h' : Heap) (L : List Loc) : Prop := v = none ∧ (∀ y ∈ L, y.base = x) ∧ RoadKit.Keep h h' [x] ∧ h'.size = h.size + 1 ∧ RoadKit.Exa Z h' x ST ∧ RoadKit.Fld Z h' x ST "value" "[B" (.ref h.size) ∧ RoadKit.Fld Z h' x ST "coder" "B" (.int 0) ∧
  (∃ V : Cell, RoadKit.Arr Z h' h.size V .byte ∧ V.vm = .none ∧ Z.vm.findClass "[B" = some V.cls ∧ V.slots.size = A.slots.size ∧ ∀ j, j < A.slots.size → V.slots[j]? = some (.int (lo8 (cv A j)))) ∧
  ∀ (O n d : String) (w : Value), RoadKit.Fld Z h x O n d w → RoadKit.slotOf Z O n d ≠ RoadKit.slotOf Z ST "value" "[B" → RoadKit.slotOf Z O n d ≠ RoadKit.slotOf Z ST "coder" "B" → RoadKit.Fld Z h' x O n d w
/-- **new String(chars) AT A CALL, IN THE ROAD'S FORM**: for specialBack behind newO: x the fresh String, b the char[] with the cell A -/
theorem back {p : Program} {l : Launch} {e : Env} {R : Room} {s : State} {args : Array Value} {below : List Frame} {len W : Nat} {Z : State} {a0 : Array Value} {h : Heap} (hZ : Z.Warmed39 s.vm) (hw : ∀ d ∈ words, d.before a0 Z = true) {kI : Nat} (wi : (Jvm.Cond.instantiable ST kI).before a0 Z = true)
    {x b : Addr} {A : Cell} {z : Int32} {v0 c0 : Value} (E : RoadKit.Exa Z h x ST) (V : RoadKit.Fld Z h x ST "value" "[B" v0) (C : RoadKit.Fld Z h x ST "coder" "B" c0) (K : RoadKit.Arr Z h b A .char) (hty : Typed .char A) (S : RoadKit.Sta Z h ST "COMPACT_STRINGS" "Z" (.int z)) (hz : ¬ z = 0)
    (l0 : 0 < A.slots.size) (l2 : A.slots.size ≤ 536870912) (hp : ∀ i, i < A.slots.size → ¬ 255 < cv A i) (hfr : 4 ≤ R.frames) (hlo : W + 65 ≤ R.locals) :
    Back l R p e below s args New1.yN len W (fun P a => a = #[.ref x, .ref b] ∧ P.U.heap = h ∧ P.cells + 1 ≤ R.cells ∧ P.slots + A.slots.size ≤ R.slots)
      (fun P _ v B => ∃ L, Q Z x A h v B.U.heap L ∧ B.locs = P.locs ++ L ∧ B.cells = P.cells + 1 ∧ B.slots = P.slots + A.slots.size) := by
  intro m meth c P g ig mk a X hg hsize hdg hW hn hp'
  obtain ⟨rfl, rfl, r1, r2⟩ := hp'
  have al : Z.vm.Alike P.U.vm := hZ.alike.trans X.warmed.alike
  obtain ⟨D, cfV, kV, iV, fV, hD, gV, stV, knV, obV, asV, slV⟩ := id V
  obtain ⟨D', cfC, kC, iC, fC, hD', gC, stC, -, -, asC, slC⟩ := id C
  cases hD.symm.trans hD'
  obtain ⟨D2, kD, e1, e2, e3, e4, e5⟩ := id E
  cases hD.symm.trans e1
  obtain ⟨c2, k2, i1, i2, i3, -⟩ := Cond.instantiable_spec wi
  cases e2.symm.trans i1
  cases e3.symm.trans i2
  obtain ⟨kU, u1, u2⟩ := al.2.2 _ _ e3
  have hB : Blank ST x D P.U := ⟨hD, ⟨knV, fun q hq => by rw [hq] at obV; cases obV⟩, by rw [al.findClass]; exact e2, kU, u1, by rw [u2]; exact i3, by rw [u2]; exact e5 i3⟩
  have F1 : Found ST "value" "[B" fV P.U := ⟨SBG.found_only al ⟨cfV, kV, iV, gV⟩, stV⟩
  have F2 : Found ST "coder" "B" fC P.U := ⟨SBG.found_only al ⟨cfC, kC, iC, gC⟩, stC⟩
  have hA : Ch b A P.U := ⟨⟨K.1, State.isArrayOf_alike al K.2.1, K.2.2, by omega⟩, hty⟩
  have hS : StaticIs P.U ST "COMPACT_STRINGS" "Z" (.int z) := by
    obtain ⟨cfS, iS, kS, fS, st, cS, t1, t2, t3, t4, t5, t6, t7⟩ := S
    exact StaticIs.there (s := { Z with heap := P.U.heap }) ⟨cfS, iS, kS, fS, st, cS, t1, t2, t3, t4, t5, (fun q => by rw [q] at t6; cases t6), t7⟩ al rfl
  obtain ⟨v, B, X', ⟨⟨hv, E', V', q1, q2, q3, q4, q5, q6, q7, q8, q9, q10, q11⟩, hl, hc, hs⟩, st⟩ := New1.pays x D fV fC b A z (tab_of (moved hZ hw)) hfr hlo m meth c P g ig mk _ X hg hsize hdg hW hn ⟨r1, r2, rfl, hB, F1, F2, hA, hS, hz, l0, l2, hp⟩
  have al' : Z.vm.Alike B.U.vm := hZ.alike.trans X'.warmed.alike
  have hsz : E'.slots.size = D.slots.size := by
    obtain ⟨-, -, -, kB, w1, w2, w3⟩ := q1
    obtain ⟨kB', y1, y2⟩ := al'.2.2 _ _ e3
    rw [q2.2.1] at w1
    cases w1.symm.trans y1
    rw [w3, e5 i3, y2]
  refine ⟨v, B, X', ⟨_, ⟨hv, ?_, ⟨by omega, fun y cy hy hn' => q10 y cy (by simpa using hn') hy, fun y cy hy => ?_⟩, q11, ⟨E', _, q1.1, by rw [q2.2.1]; exact e2, by rw [q2.2.1]; exact e3, by rw [q2.1]; exact obV, fun _ => by rw [hsz]; exact e5 i3⟩,
    ⟨E', cfV, kV, iV, fV, q1.1, gV, stV, by rw [q2.1]; exact knV, by rw [q2.1]; exact obV, by rw [q2.2.1]; exact asV, q3⟩, ⟨E', cfC, kC, iC, fC, q1.1, gC, stC, by rw [q2.1]; exact knV, by rw [q2.1]; exact obV, by rw [q2.2.1]; exact asC, q4⟩,
    ⟨V', ⟨q5.1, State.isArrayOf_alike al'.symm q5.2.1, q5.2.2.1⟩, q6, by rw [← al'.findClass]; exact q7, q8, fun j hj => by have := q9 j hj; rwa [Nat.zero_add] at this⟩, fun O n d w F n1 n2 => ?_⟩, hl, hc, hs⟩, st⟩
  · intro y hy
    simp only [List.mem_cons, List.not_mem_nil, or_false] at hy
    rcases hy with rfl | rfl <;> rfl
  · by_cases q : y = x
    · subst q
      cases hD.symm.trans hy
      exact ⟨E', q1.1, q2.2.1, q2.1, hsz⟩
    · exact ⟨cy, q10 y cy q hy, rfl, rfl, rfl⟩
  · obtain ⟨D3, cf, k, i, f, g1, g2, g3, g4, g5, g6, g7⟩ := F
    cases hD.symm.trans g1
    simp only [RoadKit.slotOf, g2, gV, gC, Option.map_some, Option.getD_some] at n1 n2
    exact ⟨E', cf, k, i, f, q1.1, g2, g3, by rw [q2.1]; exact g4, by rw [q2.1]; exact g5, by rw [q2.2.1]; exact g6, by rw [q2.2.2 f.slot (by simp [n1, n2])]; exact g7⟩
end StrChars.Road
namespace StrChars.Road
open Jvm Sem ClassFile Op Lib Jvm.Stand Jvm.Free Jvm.Free.XT
/-- WHAT COMES BACK, the byte[] as a list of values -/
def QA (Z : State) (x : Addr) (zn : Int32) (cs : List Int32) (h : Heap) (v : Option Value) (h' : Heap) (L : List Loc) : Prop := v = none ∧ (∀ y ∈ L, y.base = x) ∧ RoadKit.Keep h h' [x] ∧ h'.size = h.size + 1 ∧ RoadKit.Exa Z h' x ST ∧ RoadKit.Fld Z h' x ST "value" "[B" (.ref h.size) ∧ RoadKit.Fld Z h' x ST "coder" "B" (.int 0) ∧
  (∃ kb, Z.vm.findClass "[B" = some kb ∧ RoadKit.Arv Z h' h.size kb .byte zn (cs.map fun c => .int (lo8 c)) (.int 0)) ∧
  ∀ (O n d : String) (w : Value), RoadKit.Fld Z h x O n d w → RoadKit.slotOf Z O n d ≠ RoadKit.slotOf Z ST "value" "[B" → RoadKit.slotOf Z O n d ≠ RoadKit.slotOf Z ST "coder" "B" → RoadKit.Fld Z h' x O n d w
/-- **new String(chars) AT A CALL, THE ARRAYS AS LISTS**: the char[] at b holds cs, not empty, no char above 255 -/
theorem backArv {p : Program} {l : Launch} {e : Env} {R : Room} {s : State} {args : Array Value} {below : List Frame} {len W : Nat} {Z : State} {a0 : Array Value} {h : Heap} (hZ : Z.Warmed39 s.vm) (hw : ∀ d ∈ words, d.before a0 Z = true) {kI : Nat} (wi : (Jvm.Cond.instantiable ST kI).before a0 Z = true)
    {x b : Addr} {k : ClassId} {zn z : Int32} {cs : List Int32} {dv v0 c0 : Value} (E : RoadKit.Exa Z h x ST) (V : RoadKit.Fld Z h x ST "value" "[B" v0) (C : RoadKit.Fld Z h x ST "coder" "B" c0) (K : RoadKit.Arv Z h b k .char zn (cs.map Value.int) dv) (S : RoadKit.Sta Z h ST "COMPACT_STRINGS" "Z" (.int z)) (hz : ¬ z = 0)
    (hlen : zn.toNatClampNeg = cs.length) (h0 : 0 < cs.length) (hbig : cs.length ≤ 536870912) (hall : ∀ c ∈ cs, ¬ 255 < c) (hfr : 4 ≤ R.frames) (hlo : W + 65 ≤ R.locals) :
    Back l R p e below s args New1.yN len W (fun P a => a = #[.ref x, .ref b] ∧ P.U.heap = h ∧ P.cells + 1 ≤ R.cells ∧ P.slots + cs.length ≤ R.slots)
      (fun P _ v B => ∃ L, QA Z x zn cs h v B.U.heap L ∧ B.locs = P.locs ++ L ∧ B.cells = P.cells + 1 ∧ B.slots = P.slots + cs.length) := by
  obtain ⟨A, K1, K2, K3, K4, K5, K6⟩ := K
  have e : A.slots.size = cs.length := K3.trans hlen
  have hat : ∀ (i : Nat) (hi : i < cs.length), A.slots[i]? = some (.int cs[i]) := fun i hi => by rw [K5 i (by omega)]; simp [List.getD_eq_getElem?_getD, hi]
  have hcv : ∀ (i : Nat) (hi : i < cs.length), cv A i = cs[i] := fun i hi => by unfold cv; rw [hat i hi]
  have hty : Typed .char A := fun i v hv => by
    have hi : i < A.slots.size := (Array.getElem?_eq_some_iff.mp hv).1
    have q := K5 i hi
    rw [hv] at q
    rw [Option.some.inj q]
    exact K6 i hi
  refine Back.mono (back hZ hw wi E V C K1 hty S hz (by omega) (by omega) (fun i hi => by rw [hcv i (by omega)]; exact hall _ (List.getElem_mem _)) hfr hlo) (fun P a hp => ⟨hp.1, hp.2.1, hp.2.2.1, by rw [e]; exact hp.2.2.2⟩) (fun P a v B hp hq => ?_)
  obtain ⟨L, ⟨q1, q2, q3, q4, q5, q6, q7, ⟨V', v1, v2, v3, v4, v5⟩, q9⟩, hl, hc, hs⟩ := hq
  refine ⟨L, ⟨q1, q2, q3, q4, q5, q6, q7, ⟨V'.cls, v3, V', v1, rfl, by rw [v4, e, hlen], K4, fun i hi => ?_, fun i hi => ?_⟩, q9⟩, hl, hc, by rw [hs, e]⟩
  · have hi' : i < cs.length := by omega
    rw [v5 i (by omega), hcv i hi']; simp [List.getD_eq_getElem?_getD, hi']
  · have hi' : i < cs.length := by omega
    simp only [List.getD_eq_getElem?_getD, List.getElem?_map, List.getElem?_eq_getElem hi', Option.map_some, Option.getD_some]
    exact fits_lo8 _
end StrChars.Road
namespace StrChars.Road
open Jvm Sem ClassFile Op Lib Jvm.Stand Jvm.Free Jvm.Free.XT
/-- WHAT COMES BACK, in the writer's own shape -/
def QV (Z : State) (x : Addr) (N : Int32) (bs : List Int32) (h : Heap) (n0 : Nat) (v : Option Value) (h' : Heap) (L : List Loc) : Prop := v = none ∧ RoadKit.Fr n0 L ∧ RoadKit.Keep h h' [x] ∧ RoadKit.Exa Z h' x ST ∧ RoadKit.Fld Z h' x ST "coder" "B" (.int 0) ∧
  ∃ (t : Addr) (kb : ClassId), n0 ≤ t ∧ h.size ≤ t ∧ ¬ t = x ∧ RoadKit.Fld Z h' x ST "value" "[B" (.ref t) ∧ RoadKit.Arv Z h' t kb .byte N (bs.map Value.int) (.int 0)
/-- **new String(chars) AT A CALL, FOR THE WRITER**: a char[] of n known ints, each 0 to 255 -/
theorem backV {p : Program} {l : Launch} {e : Env} {R : Room} {s : State} {args : Array Value} {below : List Frame} {len W : Nat} {Z : State} {a0 : Array Value} {h : Heap} (hZ : Z.Warmed39 s.vm) (hw : ∀ d ∈ words, d.before a0 Z = true) {kI : Nat} (wi : (Jvm.Cond.instantiable ST kI).before a0 Z = true)
    {x b : Addr} {kC : ClassId} {cs bs : List Int32} {d v0 c0 : Value} {z N : Int32} {n n0 : Nat} (hx0 : n0 ≤ x) (hh0 : n0 ≤ h.size) (E : RoadKit.Exa Z h x ST) (V : RoadKit.Fld Z h x ST "value" "[B" v0) (C : RoadKit.Fld Z h x ST "coder" "B" c0) (K : RoadKit.Arv Z h b kC .char N (cs.map Value.int) d) (S : RoadKit.Sta Z h ST "COMPACT_STRINGS" "Z" (.int z)) (hz : ¬ z = 0)
    (hn : cs.length = n) (hN : N = Int32.ofNat n) (l0 : 0 < n) (l2 : n ≤ 4000) (hp : ∀ c ∈ cs, ¬ c < 0 ∧ ¬ (255 : Int32) < c) (hb : bs = cs.map (fun c => c.toInt8.toInt32)) (hfr : 4 ≤ R.frames) (hlo : W + 65 ≤ R.locals) :
    Back l R p e below s args (⟨"java/lang/String", "<init>", "([C)V"⟩ : MethodName) len W (fun P a => a = #[.ref x, .ref b] ∧ P.U.heap = h ∧ P.cells + 1 ≤ R.cells ∧ P.slots + n ≤ R.slots)
      (fun P _ v B => ∃ L, QV Z x N bs h n0 v B.U.heap L ∧ B.locs = P.locs ++ L ∧ B.cells = P.cells + 1 ∧ B.slots = P.slots + n) := by
  subst hn hN hb
  refine Back.mono (backArv hZ hw wi E V C K S hz (n32 (by omega)) l0 (by omega) (fun c hc => (hp c hc).2) hfr hlo) (fun P a hp => hp) (fun P a v B hp hq => ?_)
  obtain ⟨L, ⟨q1, q2, q3, q4, q5, q6, q7, ⟨kb, v1, v2⟩, q9⟩, hl, hc, hs⟩ := hq
  exact ⟨L, ⟨q1, fun y hy => by rw [q2 y hy]; exact hx0, q3, q5, q7, h.size, kb, hh0, Nat.le_refl _, Nat.ne_of_gt E.lt, q6, by rw [List.map_map]; exact v2⟩, hl, hc, hs⟩
end StrChars.Road
namespace StrChars
open Jvm Sem ClassFile Op Lib Jvm.Stand Jvm.Free.XT Jvm.Free.ALB Jvm.Free.JM Jvm.Free
open Jvm.Lib.Cold (StaticIs)
def hi8 (x : Int32) : Int32 := lo8 (x >>> ((8 : Int32) &&& 31))
/-- what StringUTF16.getChar makes of two bytes -/
def pairCh (u v : Int32) : Int32 := (((u &&& 255) <<< ((0 : Int32) &&& 31)) ||| ((v &&& 255) <<< ((8 : Int32) &&& 31))).toUInt32.toUInt16.toUInt32.toInt32
theorem shr0 (c : Int32) : c >>> ((0 : Int32) &&& 31) = c := by
  have e : ((0 : Int32) &&& 31) = 0 := by decide
  rw [e]
  apply Int32.toBitVec_inj.mp
  rw [Int32.toBitVec_shiftRight]
  have e1 : ((0 : Int32).toBitVec.smod 32) = 0#32 := by decide
  rw [e1, BitVec.sshiftRight_eq']
  exact BitVec.sshiftRight_zero
theorem lo8_and (x : Int32) : (lo8 x &&& 255).toBitVec.toNat = x.toBitVec.toNat % 256 := by
  have h : (lo8 x).toBitVec = (x.toBitVec.signExtend 8).signExtend 32 := by rw [lo8, Int8.toBitVec_toInt32, Int32.toBitVec_toInt8]
  rw [Int32.toBitVec_and, BitVec.toNat_and, h]
  have e : ((x.toBitVec.signExtend 8).signExtend 32).toNat % 256 = x.toBitVec.toNat % 256 := by
    rw [BitVec.toNat_signExtend]
    have hlt := x.toBitVec.isLt
    simp only [BitVec.toNat_setWidth, BitVec.toNat_signExtend]
    split <;> split <;> omega
  rw [← e]
  exact Nat.and_two_pow_sub_one_eq_mod _ 8
theorem pair_says {c : Int32} (h0 : ¬ c < 0) (h1 : ¬ 65535 < c) : pairCh (lo8 c) (hi8 c) = c := by
  rw [Int32.lt_iff_toInt_lt] at h0 h1
  have e0 : (0 : Int32).toInt = 0 := rfl
  have e1 : (65535 : Int32).toInt = 65535 := rfl
  have hc : c.toInt = c.toBitVec.toNat := by
    have := c.toBitVec.isLt
    have e : c.toInt = c.toBitVec.toInt := rfl
    rw [e] at h0 h1
    rw [e]
    rw [BitVec.toInt_eq_toNat_cond] at h0 h1 ⊢
    split at h0 <;> split <;> omega
  have hn : c.toBitVec.toNat < 65536 := by omega
  have a1 := lo8_and c
  have a2 : (hi8 c &&& 255).toBitVec.toNat = c.toBitVec.toNat / 256 := by
    rw [hi8, lo8_and]
    have e : ((8 : Int32) &&& 31) = 8 := by decide
    rw [e, Int32.toBitVec_shiftRight]
    have e2 : ((8 : Int32).toBitVec.smod 32) = 8#32 := by decide
    rw [e2, BitVec.sshiftRight_eq', BitVec.toNat_sshiftRight_of_msb_false (by rw [BitVec.msb_eq_false_iff_two_mul_lt]; omega)]
    show c.toBitVec.toNat >>> 8 % 256 = _
    rw [Nat.shiftRight_eq_div_pow]
    omega
  unfold pairCh
  apply Int32.toBitVec_inj.mp
  apply BitVec.eq_of_toNat_eq
  have f0 : ((0 : Int32) &&& 31) = 0 := by decide
  have f8 : ((8 : Int32) &&& 31) = 8 := by decide
  rw [f0, f8]
  have g : (((lo8 c &&& 255) <<< (0 : Int32)) ||| ((hi8 c &&& 255) <<< (8 : Int32))).toBitVec.toNat = c.toBitVec.toNat := by
    rw [Int32.toBitVec_or, Int32.toBitVec_shiftLeft, Int32.toBitVec_shiftLeft]
    have s0 : ((0 : Int32).toBitVec.smod 32) = 0#32 := by decide
    have s8 : ((8 : Int32).toBitVec.smod 32) = 8#32 := by decide
    rw [s0, s8, BitVec.toNat_or]
    simp only [BitVec.shiftLeft_eq', BitVec.toNat_shiftLeft, a1, a2]
    show (c.toBitVec.toNat % 256) <<< 0 % 2 ^ 32 ||| (c.toBitVec.toNat / 256) <<< 8 % 2 ^ 32 = _
    rw [Nat.shiftLeft_zero, Nat.mod_eq_of_lt (show c.toBitVec.toNat % 256 < 2 ^ 32 by omega), Nat.mod_eq_of_lt (show (c.toBitVec.toNat / 256) <<< 8 < 2 ^ 32 by rw [Nat.shiftLeft_eq]; omega), Nat.or_comm, ← Nat.shiftLeft_add_eq_or_of_lt (by omega), Nat.shiftLeft_eq]
    omega
  show BitVec.toNat (((((lo8 c &&& 255) <<< (0 : Int32)) ||| ((hi8 c &&& 255) <<< (8 : Int32))).toBitVec.setWidth 16).setWidth 32) = _
  rw [BitVec.toNat_setWidth, BitVec.toNat_setWidth, g]
  omega
end StrChars
namespace StrChars
open Jvm Sem ClassFile Op Lib Jvm.Stand Jvm.Free.XT Jvm.Free.ALB Jvm.Free.JM Jvm.Free
open Jvm.Lib.Cold (StaticIs)
theorem shr1 {n : Nat} (h : 2 * n < 2 ^ 31) : Int32.ofNat (2 * n) >>> ((1 : Int32) &&& 31) = Int32.ofNat n := by
  have e : ((1 : Int32) &&& 31) = 1 := by decide
  rw [e]
  apply Int32.toBitVec_inj.mp
  rw [Int32.toBitVec_shiftRight]
  have e1 : ((1 : Int32).toBitVec.smod 32) = 1#32 := by decide
  have hm : (BitVec.ofNat 32 (2 * n)).toNat = 2 * n := by rw [BitVec.toNat_ofNat, Nat.mod_eq_of_lt (by omega)]
  rw [e1, BitVec.sshiftRight_eq']
  apply BitVec.eq_of_toNat_eq
  show ((BitVec.ofNat 32 (2 * n)).sshiftRight 1).toNat = (BitVec.ofNat 32 n).toNat
  rw [BitVec.toNat_sshiftRight_of_msb_false (by rw [BitVec.msb_eq_false_iff_two_mul_lt, hm]; omega), hm, BitVec.toNat_ofNat, Nat.shiftRight_eq_div_pow]
  omega
/-- charAt's cast of a byte read back -/
def chr8 (u : Int32) : Int32 := (u &&& 255).toUInt32.toUInt16.toUInt32.toInt32
theorem chr8_lo8 {c : Int32} (h0 : ¬ c < 0) (h1 : ¬ 255 < c) : chr8 (lo8 c) = c := by
  have t : ∀ k : Fin 256, (Int32.ofNat k.val).toUInt32.toUInt16.toUInt32.toInt32 = Int32.ofNat k.val := by decide +kernel
  unfold chr8
  rw [lo8_mask h0 h1]
  rw [Int32.lt_iff_toInt_lt] at h0 h1
  have e0 : (0 : Int32).toInt = 0 := rfl
  have e1 : (255 : Int32).toInt = 255 := rfl
  obtain ⟨k, hk⟩ : ∃ k : Nat, c.toInt = k := ⟨c.toInt.toNat, by omega⟩
  have hx : c = Int32.ofNat k := Int32.toInt_inj.mp (by rw [hk, Int32.toInt_ofNat_small (by omega)])
  rw [hx]
  exact t ⟨k, by omega⟩
theorem narrow_ch {c : Int32} (h0 : ¬ c < 0) (h1 : ¬ 65535 < c) : narrow .char (.int c) = .int c := by
  have q : narrow .char (.int (pairCh (lo8 c) (hi8 c))) = .int (pairCh (lo8 c) (hi8 c)) := narrow_c _
  rwa [pair_says h0 h1] at q
/-- the array's cell V codes the n chars f 0 .. f (n - 1) by the coder cd, as the JDK does: coder 1 just where some char is above 255 -/
def Cod (cd : Int32) (n : Nat) (f : Nat → Int32) (V : Cell) : Prop := (cd = 0 ∧ V.slots.size = n ∧ ∀ j, j < n → V.slots[j]? = some (.int (lo8 (f j))) ∧ ¬ 255 < f j) ∨ (cd = 1 ∧ V.slots.size = 2 * n ∧ (∀ j, j < n → V.slots[2 * j]? = some (.int (lo8 (f j))) ∧ V.slots[2 * j + 1]? = some (.int (hi8 (f j)))) ∧ ∃ j, j < n ∧ 255 < f j)
theorem Cod.cd {cd : Int32} {n : Nat} {f : Nat → Int32} {V : Cell} (h : Cod cd n f V) : cd = 0 ∨ cd = 1 := h.imp (fun q => q.1) fun q => q.1
theorem Cod.len {cd : Int32} {n : Nat} {f : Nat → Int32} {V : Cell} (h : Cod cd n f V) (hs : V.slots.size < 2 ^ 31) : Int32.ofNat V.slots.size >>> (cd &&& 31) = Int32.ofNat n := by
  rcases h with ⟨rfl, h, -⟩ | ⟨rfl, h, -⟩
  · rw [shr0, h]
  · rw [h, shr1 (by omega)]
/-- **x is a String of the n chars f 0 .. f (n - 1)**, Latin-1 or UTF-16; its array at t has the cell V -/
def Txt (x t : Addr) (V : Cell) (cd : Int32) (n : Nat) (f : Nat → Int32) (U : State) : Prop := Exact "java/lang/String" x U ∧ Has x "java/lang/String" "value" "[B" (.ref t) U ∧ Has x "java/lang/String" "coder" "B" (.int cd) U ∧ XT.Arr .byte t V U ∧ Cod cd n f V ∧ ∀ j, j < n → ¬ f j < 0 ∧ ¬ 65535 < f j
theorem Txt.mv {x t : Addr} {V : Cell} {cd : Int32} {n : Nat} {f : Nat → Int32} {U U' : State} (h : Txt x t V cd n f U) (hal : U.vm.Alike U'.vm) (hh : U'.heap = U.heap) : Txt x t V cd n f U' := ⟨h.1.mv hal hh, h.2.1.mv hal hh, h.2.2.1.mv hal hh, h.2.2.2.1.mv hal hh, h.2.2.2.2⟩
namespace Cdr
def yN : MethodName := ⟨"java/lang/String", "coder", "()B"⟩
abbrev yB : ByteArray := jdk_42_method_152_code
theorem d0 : decode yB 0 = .ok (.getstatic 38, 3) := by decide +kernel
theorem d3 : decode yB 3 = .ok (.ifCond (.eq) 10, 3) := by decide +kernel
theorem d6 : decode yB 6 = .ok (.aload_n 0, 1) := by decide +kernel
theorem d7 : decode yB 7 = .ok (.getfield 15, 3) := by decide +kernel
theorem d10 : decode yB 10 = .ok (.goto 4, 3) := by decide +kernel
theorem d14 : decode yB 14 = .ok (.ireturn, 1) := by decide +kernel
def site : List Cond := [.fieldLink "java/lang/String" 38 "java/lang/String" "COMPACT_STRINGS" "Z", .fieldLink "java/lang/String" 15 "java/lang/String" "coder" "B"]
def tab : Cond := tabOf yN yB 1 (some .byte) site
def P (x : Addr) (cd z : Int32) (args : Array Value) (s : State) : Prop := args = #[.ref x] ∧ Has x "java/lang/String" "coder" "B" (.int cd) s ∧ (cd = 0 ∨ cd = 1) ∧ StaticIs s "java/lang/String" "COMPACT_STRINGS" "Z" (.int z) ∧ ¬ z = 0
def E (cd : Int32) (r : Option Value) (s u : State) : Prop := XT.PureE (some (.int cd)) r s u
theorem law (l : Launch) (x : Addr) (cd z : Int32) : Law l yN 1 0 0 0 yB 1 (some .byte) site (P x cd z) (E cd) [] 0 0 := by
  refine Law.of_walk (plainFor_of_name (by decide +kernel)) (by decide +kernel) (by decide +kernel) (by decide) (fun _ _ h => by rw [h.1]; rfl) (fun _ U U' hal hh h => ⟨h.1, h.2.1.mv hal hh, h.2.2.1, h.2.2.2.1.there hal hh, h.2.2.2.2⟩) (fun r U U' V V' h1 hal h2 h => XT.PureE.mv r U U' V V' h1 hal h2 h) ?_
  intro p e s m args below meth c s₁ X0 hexec hbytes hml hret hlk hnm hown hh0 W hP
  obtain ⟨rfl, hx, hc, s1, hz⟩ := hP
  have c1 : Steps p.tables e below (s₁.setTop (entryFrame m #[.ref x] 1)) (s₁.setTop (mkF m 0 #[.val (.ref x)] [])) := entry rfl
  obtain ⟨T2, X2, q2, st2⟩ := X0.sget hexec hown (wk W (.fieldLink "java/lang/String" 38 "java/lang/String" "COMPACT_STRINGS" "Z")) s1 (fun _ _ h => by rw [hh0]; exact h) (g := (mkF m 0 #[.val (.ref x)] [])) rfl (hb hbytes d0)
  have hh2 := q2.trans hh0
  have c3 : Steps p.tables e below (s₁.setTop (entryFrame m #[.ref x] 1)) (T2.setTop (mkF m 7 #[.val (.ref x)] [.ref x])) := (c1.trans (st2 _ (Steps.refl _))).trans (by
    refine XS.ifNo X2.here hexec rfl (hb hbytes d3) rfl (i0_eq_f hz) ?_
    refine XS.aloadN X2.here hexec rfl (hb hbytes d6) rfl rfl ?_
    exact Steps.refl _)
  obtain ⟨T4, X4, q4, st4⟩ := X2.hget hexec hown (wk W (.fieldLink "java/lang/String" 15 "java/lang/String" "coder" "B")) (hx.mv X2.warmed.alike hh2) (g := (mkF m 7 #[.val (.ref x)] [.ref x])) rfl (rest := []) rfl (hb hbytes d7)
  have c5 : Steps p.tables e below (s₁.setTop (entryFrame m #[.ref x] 1)) (T4.setTop (mkF m 14 #[.val (.ref x)] [.int cd])) := (c3.trans (st4 _ (Steps.refl _))).trans (by
    refine XS.goto X4.here hexec rfl (pc0 := 10) rfl (hb hbytes d10) (by decide) rfl ?_
    exact Steps.refl _)
  exact ⟨T4, some (.int cd), _, _, _, X4, rfl, rfl, rfl, (fun h => by cases h), ⟨rfl, q4.trans hh2⟩, fun fs hl => c5.trans (X4.ireturnOut hexec hret (by rcases hc with rfl | rfl <;> rfl) (Or.inr (Or.inr (Or.inl rfl))) (hb hbytes d14) hl)⟩
end Cdr
namespace Len
def yN : MethodName := ⟨"java/lang/String", "length", "()I"⟩
abbrev yB : ByteArray := jdk_42_method_54_code
theorem d0 : decode yB 0 = .ok (.aload_n 0, 1) := by decide +kernel
theorem d1 : decode yB 1 = .ok (.getfield 9, 3) := by decide +kernel
theorem d4 : decode yB 4 = .ok (.arraylength, 1) := by decide +kernel
theorem d5 : decode yB 5 = .ok (.aload_n 0, 1) := by decide +kernel
theorem d6 : decode yB 6 = .ok (.invokevirtual 335, 3) := by decide +kernel
theorem d9 : decode yB 9 = .ok (.ishr, 1) := by decide +kernel
theorem d10 : decode yB 10 = .ok (.ireturn, 1) := by decide +kernel
def site : List Cond := [.fieldLink "java/lang/String" 9 "java/lang/String" "value" "[B", Cdr.tab] ++ virtW "java/lang/String" 335 "java/lang/String" Cdr.yN Cdr.yN
def tab : Cond := tabOf yN yB 1 (some .int) site
def P (x t : Addr) (V : Cell) (cd : Int32) (n : Nat) (f : Nat → Int32) (z : Int32) (args : Array Value) (s : State) : Prop := args = #[.ref x] ∧ Txt x t V cd n f s ∧ StaticIs s "java/lang/String" "COMPACT_STRINGS" "Z" (.int z) ∧ ¬ z = 0
def E (n : Nat) (r : Option Value) (s u : State) : Prop := XT.PureE (some (.int (Int32.ofNat n))) r s u
/-- length() of a String of n chars, in either coding -/
theorem law (l : Launch) (x t : Addr) (V : Cell) (cd : Int32) (n : Nat) (f : Nat → Int32) (z : Int32) : Law l yN 1 0 1 13 yB 1 (some .int) site (P x t V cd n f z) (E n) [] 0 0 := by
  refine Law.of_walk (plainFor_of_name (by decide +kernel)) (by decide +kernel) (by decide +kernel) (by decide) (fun _ _ h => by rw [h.1]; rfl) (fun _ U U' hal hh h => ⟨h.1, h.2.1.mv hal hh, h.2.2.1.there hal hh, h.2.2.2⟩) (fun r U U' V V' h1 hal h2 h => XT.PureE.mv r U U' V V' h1 hal h2 h) ?_
  intro p e s m args below meth c s₁ X0 hexec hbytes hml hret hlk hnm hown hh0 W hP
  obtain ⟨rfl, hx, s1, hz⟩ := hP
  have v31 := hx.2.2.2.1.2.2.2
  have c1 : Steps p.tables e below (s₁.setTop (entryFrame m #[.ref x] 1)) (s₁.setTop (mkF m 1 #[.val (.ref x)] [.ref x])) := Steps.trans (entry rfl) (by
    show Steps p.tables e below (s₁.setTop (mkF m 0 #[.val (.ref x)] [])) _
    refine XS.aloadN X0.here hexec rfl (hb hbytes d0) rfl rfl ?_
    exact Steps.refl _)
  obtain ⟨T2, X2, q2, st2⟩ := X0.hget hexec hown (wk W (.fieldLink "java/lang/String" 9 "java/lang/String" "value" "[B")) (hx.mv X0.warmed.alike hh0).2.1 (g := (mkF m 1 #[.val (.ref x)] [.ref x])) rfl (rest := []) rfl (hb hbytes d1)
  have hh2 := q2.trans hh0
  have hx2 := hx.mv X2.warmed.alike hh2
  have c3 : Steps p.tables e below (s₁.setTop (entryFrame m #[.ref x] 1)) (T2.setTop (mkF m 6 #[.val (.ref x)] [.ref x, .int (Int32.ofNat V.slots.size)])) := (c1.trans (st2 _ (Steps.refl _))).trans (by
    refine X2.alen hexec hx2.2.2.2.1 rfl rfl (hb hbytes d4) ?_
    refine XS.aloadN X2.here hexec rfl (hb hbytes d5) rfl rfl ?_
    exact Steps.refl _)
  obtain ⟨v4, T4, X4, E4, g4⟩ := X2.callV hexec (Cdr.law l x cd z) hown (wks W (virtW "java/lang/String" 335 "java/lang/String" Cdr.yN Cdr.yN)) rfl (by decide) (wk W Cdr.tab) (W := 1) (Nat.le_of_ble_eq_true rfl) (Nat.le_of_ble_eq_true rfl) (Nat.le_refl _) (Nat.le_refl _) (hx2.1.fc X2.warmed.alike) hx2.1.is (g := (mkF m 6 #[.val (.ref x)] [.ref x, .int (Int32.ofNat V.slots.size)])) rfl (by rw [hml]; rfl) c3 (argsL := []) (rest := [.int (Int32.ofNat V.slots.size)]) rfl rfl (by show 2 * 0 + (1 + 0) ≤ _; decide) (hb hbytes d6) (⟨rfl, hx2.2.2.1, hx.2.2.2.2.1.cd, s1.there X2.warmed.alike hh2, hz⟩)
  obtain ⟨rfl, q4⟩ := E4
  have c5 : Steps p.tables e below (s₁.setTop (entryFrame m #[.ref x] 1)) (T4.setTop (mkF m 10 #[.val (.ref x)] [.int (Int32.ofNat V.slots.size >>> (cd &&& 31))])) := Steps.trans g4 (by
    refine ishr X4.here hexec rfl (hb hbytes d9) rfl ?_
    exact Steps.refl _)
  rw [hx.2.2.2.2.1.len v31] at c5
  exact ⟨T4, some (.int (Int32.ofNat n)), _, _, _, X4, rfl, rfl, rfl, (fun h => by cases h), ⟨rfl, q4.trans hh2⟩, fun fs hl => c5.trans (X4.ireturnOut hexec hret rfl (Or.inl rfl) (hb hbytes d10) hl)⟩
theorem pays {l : Launch} {R : Room} {p : Program} {e : Env} {below : List Frame} {s : State} {sargs : Array Value} {len W : Nat} (x t : Addr) (V : Cell) (cd : Int32) (n : Nat) (f : Nat → Int32) (z : Int32) (htab : tab.before sargs s = true) (hfr : 2 ≤ R.frames) (hlo : W + 25 ≤ R.locals) :
    Back l R p e below s sargs yN len W (fun A₁ a₁ => A₁.cells + 0 ≤ R.cells ∧ A₁.slots + 0 ≤ R.slots ∧ P x t V cd n f z a₁ A₁.U) (fun A₁ _ v₁ B₁ => E n v₁ A₁.U B₁.U ∧ B₁.locs = A₁.locs ++ [] ∧ B₁.cells = A₁.cells + 0 ∧ B₁.slots = A₁.slots + 0) :=
  (law l x t V cd n f z).pays htab hfr (by omega)
end Len
namespace IsL
def yN : MethodName := ⟨"java/lang/String", "isLatin1", "()Z"⟩
abbrev yB : ByteArray := jdk_42_method_154_code
theorem d0 : decode yB 0 = .ok (.getstatic 38, 3) := by decide +kernel
theorem d3 : decode yB 3 = .ok (.ifCond (.eq) 14, 3) := by decide +kernel
theorem d6 : decode yB 6 = .ok (.aload_n 0, 1) := by decide +kernel
theorem d7 : decode yB 7 = .ok (.getfield 15, 3) := by decide +kernel
theorem d10 : decode yB 10 = .ok (.ifCond (.ne) 7, 3) := by decide +kernel
theorem d13 : decode yB 13 = .ok (.iconst 1, 1) := by decide +kernel
theorem d14 : decode yB 14 = .ok (.goto 4, 3) := by decide +kernel
theorem d17 : decode yB 17 = .ok (.iconst 0, 1) := by decide +kernel
theorem d18 : decode yB 18 = .ok (.ireturn, 1) := by decide +kernel
def site : List Cond := [.fieldLink "java/lang/String" 38 "java/lang/String" "COMPACT_STRINGS" "Z", .fieldLink "java/lang/String" 15 "java/lang/String" "coder" "B"]
def tab : Cond := tabOf yN yB 1 (some .boolean) site
def P (x : Addr) (cd z : Int32) (args : Array Value) (s : State) : Prop := args = #[.ref x] ∧ Has x "java/lang/String" "coder" "B" (.int cd) s ∧ (cd = 0 ∨ cd = 1) ∧ StaticIs s "java/lang/String" "COMPACT_STRINGS" "Z" (.int z) ∧ ¬ z = 0
def E (cd : Int32) (r : Option Value) (s u : State) : Prop := XT.PureE (some (.int (1 - cd))) r s u
theorem law (l : Launch) (x : Addr) (cd z : Int32) : Law l yN 1 0 0 0 yB 1 (some .boolean) site (P x cd z) (E cd) [] 0 0 := by
  refine Law.of_walk (plainFor_of_name (by decide +kernel)) (by decide +kernel) (by decide +kernel) (by decide) (fun _ _ h => by rw [h.1]; rfl) (fun _ U U' hal hh h => ⟨h.1, h.2.1.mv hal hh, h.2.2.1, h.2.2.2.1.there hal hh, h.2.2.2.2⟩) (fun r U U' V V' h1 hal h2 h => XT.PureE.mv r U U' V V' h1 hal h2 h) ?_
  intro p e s m args below meth c s₁ X0 hexec hbytes hml hret hlk hnm hown hh0 W hP
  obtain ⟨rfl, hx, hc, s1, hz⟩ := hP
  have c1 : Steps p.tables e below (s₁.setTop (entryFrame m #[.ref x] 1)) (s₁.setTop (mkF m 0 #[.val (.ref x)] [])) := entry rfl
  obtain ⟨T2, X2, q2, st2⟩ := X0.sget hexec hown (wk W (.fieldLink "java/lang/String" 38 "java/lang/String" "COMPACT_STRINGS" "Z")) s1 (fun _ _ h => by rw [hh0]; exact h) (g := (mkF m 0 #[.val (.ref x)] [])) rfl (hb hbytes d0)
  have hh2 := q2.trans hh0
  have c3 : Steps p.tables e below (s₁.setTop (entryFrame m #[.ref x] 1)) (T2.setTop (mkF m 7 #[.val (.ref x)] [.ref x])) := (c1.trans (st2 _ (Steps.refl _))).trans (by
    refine XS.ifNo X2.here hexec rfl (hb hbytes d3) rfl (i0_eq_f hz) ?_
    refine XS.aloadN X2.here hexec rfl (hb hbytes d6) rfl rfl ?_
    exact Steps.refl _)
  obtain ⟨T4, X4, q4, st4⟩ := X2.hget hexec hown (wk W (.fieldLink "java/lang/String" 15 "java/lang/String" "coder" "B")) (hx.mv X2.warmed.alike hh2) (g := (mkF m 7 #[.val (.ref x)] [.ref x])) rfl (rest := []) rfl (hb hbytes d7)
  have c5 : Steps p.tables e below (s₁.setTop (entryFrame m #[.ref x] 1)) (T4.setTop (mkF m 10 #[.val (.ref x)] [.int cd])) := c3.trans (st4 _ (Steps.refl _))
  have c6 : Steps p.tables e below (s₁.setTop (entryFrame m #[.ref x] 1)) (T4.setTop (mkF m 18 #[.val (.ref x)] [.int (1 - cd)])) := by
    rcases hc with rfl | rfl
    · exact c5.trans (by
        refine XS.ifNo X4.here hexec rfl (hb hbytes d10) rfl (i0_ne_f rfl) ?_
        refine iconstV X4.here hexec rfl 1 (hb hbytes d13) (by decide) ?_
        refine XS.goto X4.here hexec rfl (pc0 := 14) rfl (hb hbytes d14) (by decide) rfl ?_
        exact Steps.refl _)
    · exact c5.trans (by
        refine XS.ifYes X4.here hexec rfl (pc0 := 10) rfl (hb hbytes d10) rfl (i0_ne_t (by decide)) (by decide) rfl ?_
        refine iconstV X4.here hexec rfl 0 (hb hbytes d17) (by decide) ?_
        exact Steps.refl _)
  exact ⟨T4, some (.int (1 - cd)), _, _, _, X4, rfl, rfl, rfl, (fun h => by cases h), ⟨rfl, q4.trans hh2⟩, fun fs hl => c6.trans (X4.ireturnOut hexec hret (by rcases hc with rfl | rfl <;> rfl) (Or.inr (Or.inl rfl)) (hb hbytes d18) hl)⟩
end IsL
namespace LChA
def yN : MethodName := ⟨"java/lang/StringLatin1", "charAt", "([BI)C"⟩
abbrev yB : ByteArray := jdk_43_method_2_code
theorem d0 : decode yB 0 = .ok (.iload_n 1, 1) := by decide +kernel
theorem d1 : decode yB 1 = .ok (.aload_n 0, 1) := by decide +kernel
theorem d2 : decode yB 2 = .ok (.arraylength, 1) := by decide +kernel
theorem d3 : decode yB 3 = .ok (.invokestatic 9, 3) := by decide +kernel
theorem d6 : decode yB 6 = .ok (.aload_n 0, 1) := by decide +kernel
theorem d7 : decode yB 7 = .ok (.iload_n 1, 1) := by decide +kernel
theorem d8 : decode yB 8 = .ok (.baload, 1) := by decide +kernel
theorem d9 : decode yB 9 = .ok (.sipush 255, 3) := by decide +kernel
theorem d12 : decode yB 12 = .ok (.iand, 1) := by decide +kernel
theorem d13 : decode yB 13 = .ok (.i2c, 1) := by decide +kernel
theorem d14 : decode yB 14 = .ok (.ireturn, 1) := by decide +kernel
def site : List Cond := [JO.Str_checkIndex.tab] ++ staticW "java/lang/StringLatin1" 9 JO.Str_checkIndex.yN
def tab : Cond := tabOf yN yB 2 (some .char) site
def P (t : Addr) (V : Cell) (i : Nat) (u : Int32) (fm : Value) (args : Array Value) (s : State) : Prop := args = #[.ref t, .int (Int32.ofNat i)] ∧ XT.Arr .byte t V s ∧ V.slots[i]? = some (.int u) ∧ (StaticIs s "jdk/internal/util/Preconditions" "SIOOBE_FORMATTER" "Ljava/util/function/BiFunction;" fm ∧ fm.isRef = true)
def E (u : Int32) (r : Option Value) (s w : State) : Prop := XT.PureE (some (.int (chr8 u))) r s w
theorem law (l : Launch) (t : Addr) (V : Cell) (i : Nat) (u : Int32) (fm : Value) : Law l yN 2 2 2 27 yB 2 (some .char) site (P t V i u fm) (E u) [] 0 0 := by
  refine Law.of_walk (plainFor_of_name (by decide +kernel)) (by decide +kernel) (by decide +kernel) (by decide) (fun _ _ h => by rw [h.1]; rfl) (fun _ U U' hal hh h => ⟨h.1, h.2.1.mv hal hh, h.2.2.1, h.2.2.2.1.there hal hh, h.2.2.2.2⟩) (fun r U U' V V' h1 hal h2 h => XT.PureE.mv r U U' V V' h1 hal h2 h) ?_
  intro p e s m args below meth c s₁ X0 hexec hbytes hml hret hlk hnm hown hh0 W hP
  obtain ⟨rfl, hV, hu, s1, rf⟩ := hP
  have v31 := hV.2.2.2
  have hi : i < V.slots.size := (Array.getElem?_eq_some_iff.mp hu).1
  have c1 : Steps p.tables e below (s₁.setTop (entryFrame m #[.ref t, .int (Int32.ofNat i)] 2)) (s₁.setTop (mkF m 0 #[.val (.ref t), .val (.int (Int32.ofNat i))] [])) := entry rfl
  have c2 : Steps p.tables e below (s₁.setTop (entryFrame m #[.ref t, .int (Int32.ofNat i)] 2)) (s₁.setTop (mkF m 3 #[.val (.ref t), .val (.int (Int32.ofNat i))] [.int (Int32.ofNat V.slots.size), .int (Int32.ofNat i)])) := c1.trans (by
    refine XS.iloadN X0.here hexec rfl (hb hbytes d0) rfl ?_
    refine XS.aloadN X0.here hexec rfl (hb hbytes d1) rfl rfl ?_
    refine X0.alen hexec (hV.mv X0.warmed.alike hh0) rfl rfl (hb hbytes d2) ?_
    exact Steps.refl _)
  obtain ⟨v3, T3, X3, E3, g3⟩ := X0.callS hexec (JO.Str_checkIndex.law l (Int32.ofNat i) (Int32.ofNat V.slots.size) fm) hown (wks W (staticW "java/lang/StringLatin1" 9 JO.Str_checkIndex.yN)) (wk W JO.Str_checkIndex.tab) (W := 0) (Nat.le_of_ble_eq_true rfl) (Nat.le_of_ble_eq_true rfl) (Nat.le_refl _) (Nat.le_refl _) (g := (mkF m 3 #[.val (.ref t), .val (.int (Int32.ofNat i))] [.int (Int32.ofNat V.slots.size), .int (Int32.ofNat i)])) rfl (by rw [hml]; rfl) c2 (argsL := [.int (Int32.ofNat i), .int (Int32.ofNat V.slots.size)]) (rest := []) rfl rfl (by show 2 * 0 + 0 ≤ _; decide) (hb hbytes d3) (⟨rfl, rf, s1.there X0.warmed.alike hh0, Int32.ofNat_not_neg (by omega), lt32 v31 hi⟩)
  obtain ⟨rfl, q3⟩ := E3
  have hh3 := q3.trans hh0
  have c4 : Steps p.tables e below (s₁.setTop (entryFrame m #[.ref t, .int (Int32.ofNat i)] 2)) (T3.setTop (mkF m 14 #[.val (.ref t), .val (.int (Int32.ofNat i))] [.int (chr8 u)])) := Steps.trans g3 (by
    refine XS.aloadN X3.here hexec rfl (hb hbytes d6) rfl rfl ?_
    refine XS.iloadN X3.here hexec rfl (hb hbytes d7) rfl ?_
    refine X3.aget hexec (hV.mv X3.warmed.alike hh3) rfl hu rfl rfl (hb hbytes d8) ?_
    refine sipushV X3.here hexec rfl 255 (hb hbytes d9) (by decide) ?_
    refine XS.iand X3.here hexec rfl (hb hbytes d12) rfl ?_
    refine i2c X3.here hexec rfl (hb hbytes d13) rfl ?_
    exact Steps.refl _)
  exact ⟨T3, some (.int (chr8 u)), _, _, _, X3, rfl, rfl, rfl, (fun h => by cases h), ⟨rfl, hh3⟩, fun fs hl => c4.trans (X3.ireturnOut hexec hret (narrow_c _) (Or.inr (Or.inr (Or.inr (Or.inl rfl)))) (hb hbytes d14) hl)⟩
end LChA
end StrChars
namespace StrChars.Road
open Jvm Sem ClassFile Op Lib Jvm.Stand Jvm.Free Jvm.Free.XT
open Jvm.Lib.Cold (StaticIs)
theorem consq {a : Array Value} {s : State} {c : Jvm.Cond} {L : List Jvm.Cond} (h0 : c.before a s = true) (h : ∀ w ∈ L, w.before a s = true) : ∀ w ∈ c :: L, w.before a s = true := fun w hw => (List.mem_cons.mp hw).elim (fun e => e ▸ h0) (h w)
/-- the words of String.length(), either coding -/
abbrev wordsLen : List Jvm.Cond := [.code Len.yN Len.yB 1 (some .int), .initialized ST, .fieldLink ST 9 ST "value" "[B", .fieldLink ST 38 ST "COMPACT_STRINGS" "Z", .fieldLink ST 15 ST "coder" "B", .code Cdr.yN Cdr.yB 1 (some .byte), .methodLink ST 335 Cdr.yN, .declares Cdr.yN, .selects ST Cdr.yN Cdr.yN, .instanceMethod Cdr.yN]
theorem tabLen_of {a : Array Value} {s : State} (h : ∀ w ∈ wordsLen, w.before a s = true) : Len.tab.before a s = true := by
  have hc : Cdr.tab.before a s = true := unparts (wk h (.code Cdr.yN Cdr.yB 1 (some .byte))) (wks h (.initialized Cdr.yN.cls :: Cdr.site))
  have q := consq hc h
  exact unparts (wk q (.code Len.yN Len.yB 1 (some .int))) (wks q (.initialized Len.yN.cls :: Len.site))
theorem movedLen {Z s : State} {a0 args : Array Value} (hZ : Z.Warmed39 s.vm) (hw : ∀ d ∈ wordsLen, d.before a0 Z = true) : ∀ d ∈ wordsLen, d.before args s = true := fun d hd => by
  have q := hw d hd
  have t : ∀ d ∈ wordsLen, d = .arrayClass .byte ∨ (d.onTables && d.keepsFace) = true := by decide +kernel
  rcases t d hd with rfl | t
  · exact RoadKit.mvA hZ q
  · exact RoadKit.mv hZ q t
/-- the bytes of the chars cs, low before high -/
def wideBytes : List Int32 → List Value
  | [] => []
  | c :: cs => .int (lo8 c) :: .int (hi8 c) :: wideBytes cs
theorem wide_lo (d : Value) : ∀ (cs : List Int32) (j : Nat), j < cs.length → (wideBytes cs).getD (2 * j) d = .int (lo8 (cs.getD j 0))
  | [], j, h => absurd h (Nat.not_lt_zero j)
  | c :: cs, 0, _ => rfl
  | c :: cs, j + 1, h => by
    have q := wide_lo d cs j (by simpa using h)
    rw [show 2 * (j + 1) = 2 * j + 1 + 1 from by omega]
    simpa [wideBytes] using q
theorem wide_hi (d : Value) : ∀ (cs : List Int32) (j : Nat), j < cs.length → (wideBytes cs).getD (2 * j + 1) d = .int (hi8 (cs.getD j 0))
  | [], j, h => absurd h (Nat.not_lt_zero j)
  | c :: cs, 0, _ => rfl
  | c :: cs, j + 1, h => by
    have q := wide_hi d cs j (by simpa using h)
    rw [show 2 * (j + 1) + 1 = 2 * j + 1 + 1 + 1 from by omega]
    simpa [wideBytes] using q
theorem low_at (d : Value) (cs : List Int32) (j : Nat) (h : j < cs.length) : (cs.map fun c => Value.int (lo8 c)).getD j d = .int (lo8 (cs.getD j 0)) := by
  simp [List.getD_eq_getElem?_getD, h]
/-- an array of N2 bytes vs codes the chars cs by the coder cd -/
def CodA (cs : List Int32) (cd N2 : Int32) (vs : List Value) : Prop := (cd = 0 ∧ N2 = Int32.ofNat cs.length ∧ vs = (cs.map fun c => Value.int (lo8 c)) ∧ ∀ c ∈ cs, ¬ 255 < c) ∨ (cd = 1 ∧ N2 = Int32.ofNat (2 * cs.length) ∧ vs = wideBytes cs ∧ ∃ c ∈ cs, 255 < c)
theorem CodA.cod {cs : List Int32} {cd N2 : Int32} {vs : List Value} {V : Cell} (h : CodA cs cd N2 vs) (hn : 2 * cs.length < 2 ^ 31) (hs : V.slots.size = N2.toNatClampNeg) (hv : RoadKit.Has V vs (.int 0)) : Cod cd cs.length (fun j => cs.getD j 0) V := by
  rcases h with ⟨rfl, rfl, rfl, h⟩ | ⟨rfl, rfl, rfl, c, hc, hw⟩
  · rw [n32 (by omega)] at hs
    exact Or.inl ⟨rfl, hs, fun j hj => ⟨by rw [hv j (by omega), low_at _ _ _ hj], by
      have e : cs.getD j 0 = cs[j] := by simp [List.getD_eq_getElem?_getD, hj]
      show ¬ 255 < cs.getD j 0
      rw [e]; exact h _ (List.getElem_mem _)⟩⟩
  · rw [n32 (by omega)] at hs
    obtain ⟨j, hj, rfl⟩ := List.getElem_of_mem hc
    exact Or.inr ⟨rfl, hs, fun j hj => ⟨by rw [hv _ (by omega), wide_lo _ _ _ hj], by rw [hv _ (by omega), wide_hi _ _ _ hj]⟩, j, hj, by
      have e : cs.getD j 0 = cs[j] := by simp [List.getD_eq_getElem?_getD, hj]
      show 255 < cs.getD j 0
      rw [e]; exact hw⟩
/-- an object of exactly java/lang/String, its two fields found: as the laws ask it -/
theorem strObj {Z U : State} {a0 : Array Value} {kI : Nat} (wi : (Jvm.Cond.instantiable ST kI).before a0 Z = true) (al : Z.vm.Alike U.vm) {x : Addr} {v0 c0 : Value} (E : RoadKit.Exa Z U.heap x ST) (V : RoadKit.Fld Z U.heap x ST "value" "[B" v0) (C : RoadKit.Fld Z U.heap x ST "coder" "B" c0) :
    ∃ (D : Cell) (fV fC : Field), Blank ST x D U ∧ Found ST "value" "[B" fV U ∧ Found ST "coder" "B" fC U ∧ D.slots[fV.slot]? = some v0 ∧ D.slots[fC.slot]? = some c0 ∧ RoadKit.slotOf Z ST "value" "[B" = fV.slot ∧ RoadKit.slotOf Z ST "coder" "B" = fC.slot := by
  obtain ⟨D, cfV, kV, iV, fV, hD, gV, stV, knV, obV, asV, slV⟩ := V
  obtain ⟨D', cfC, kC, iC, fC, hD', gC, stC, -, -, asC, slC⟩ := C
  cases hD.symm.trans hD'
  obtain ⟨D2, kD, e1, e2, e3, e4, e5⟩ := E
  cases hD.symm.trans e1
  obtain ⟨c2, k2, i1, i2, i3, -⟩ := Cond.instantiable_spec wi
  cases e2.symm.trans i1
  cases e3.symm.trans i2
  obtain ⟨kU, u1, u2⟩ := al.2.2 _ _ e3
  exact ⟨D, fV, fC, ⟨hD, ⟨knV, fun q hq => by rw [hq] at obV; cases obV⟩, by rw [al.findClass]; exact e2, kU, u1, by rw [u2]; exact i3, by rw [u2]; exact e5 i3⟩, ⟨SBG.found_only al ⟨cfV, kV, iV, gV⟩, stV⟩, ⟨SBG.found_only al ⟨cfC, kC, iC, gC⟩, stC⟩, slV, slC, by simp [RoadKit.slotOf, gV], by simp [RoadKit.slotOf, gC]⟩
theorem sta_is {Z U : State} (al : Z.vm.Alike U.vm) {C n d : String} {v : Value} (S : RoadKit.Sta Z U.heap C n d v) : StaticIs U C n d v := by
  obtain ⟨cfS, iS, kS, fS, st, cS, t1, t2, t3, t4, t5, t6, t7⟩ := S
  exact StaticIs.there (s := { Z with heap := U.heap }) ⟨cfS, iS, kS, fS, st, cS, t1, t2, t3, t4, t5, (fun q => by rw [q] at t6; cases t6), t7⟩ al rfl
/-- **length() OF SUCH A STRING** -/
theorem lenW {p : Program} {l : Launch} {e : Env} {R : Room} {s : State} {args : Array Value} {below : List Frame} {len W : Nat} {Z : State} {a0 : Array Value} {h : Heap} (hZ : Z.Warmed39 s.vm) (hw : ∀ d ∈ wordsLen, d.before a0 Z = true) {kI : Nat} (wi : (Jvm.Cond.instantiable ST kI).before a0 Z = true)
    {x t : Addr} {kb : ClassId} {cs : List Int32} {cd N2 z : Int32} {vs : List Value} (E : RoadKit.Exa Z h x ST) (V : RoadKit.Fld Z h x ST "value" "[B" (.ref t)) (C : RoadKit.Fld Z h x ST "coder" "B" (.int cd)) (K : RoadKit.Arv Z h t kb .byte N2 vs (.int 0)) (hc : CodA cs cd N2 vs) (hb : ∀ c ∈ cs, ¬ c < 0 ∧ ¬ (65535 : Int32) < c)
    (S : RoadKit.Sta Z h ST "COMPACT_STRINGS" "Z" (.int z)) (hz : ¬ z = 0) (l2 : cs.length ≤ 4000) (hfr : 2 ≤ R.frames) (hlo : W + 25 ≤ R.locals) :
    Back l R p e below s args (⟨"java/lang/String", "length", "()I"⟩ : MethodName) len W (fun P a => a = #[.ref x] ∧ P.U.heap = h ∧ P.cells + 0 ≤ R.cells ∧ P.slots + 0 ≤ R.slots)
      (fun P _ v B => ∃ L, (v = some (.int (Int32.ofNat cs.length)) ∧ L = [] ∧ B.U.heap = h) ∧ B.locs = P.locs ++ L ∧ B.cells = P.cells + 0 ∧ B.slots = P.slots + 0) := by
  obtain ⟨A, K1, K2, K3, K4, K5, K6⟩ := K
  have hcod := hc.cod (by omega) K3 K5
  intro m meth c P g ig mk a X hg hsize hdg hW hn hp'
  obtain ⟨rfl, rfl, r1, r2⟩ := hp'
  have al : Z.vm.Alike P.U.vm := hZ.alike.trans X.warmed.alike
  obtain ⟨D, fV, fC, hB, F1, F2, g1, g2, -, -⟩ := strObj wi al E V C
  have hx : Txt x t A cd cs.length (fun j => cs.getD j 0) P.U := ⟨⟨_, hB.2.2.1, D, hB.1, rfl, by cases q : D.vm <;> first | rfl | exact absurd q (hB.2.1.2 _)⟩, Has.of hB F1 g1, Has.of hB F2 g2, ⟨K1.1, State.isArrayOf_alike al K1.2.1, K1.2.2, by rcases hcod with ⟨-, q, -⟩ | ⟨-, q, -⟩ <;> omega⟩, hcod, fun j hj => by
    have e : cs.getD j 0 = cs[j] := by simp [List.getD_eq_getElem?_getD, hj]
    show ¬ cs.getD j 0 < 0 ∧ ¬ 65535 < cs.getD j 0
    rw [e]; exact hb _ (List.getElem_mem _)⟩
  obtain ⟨v, B, X', ⟨⟨hv, hh⟩, hl, hk, hs⟩, st⟩ := Len.pays x t A cd cs.length (fun j => cs.getD j 0) z (tabLen_of (movedLen hZ hw)) hfr hlo m meth c P g ig mk _ X hg hsize hdg hW hn ⟨r1, r2, rfl, hx, sta_is al S, hz⟩
  exact ⟨v, B, X', ⟨[], ⟨hv, rfl, hh⟩, hl, hk, hs⟩, st⟩
end StrChars.Road
namespace StrChars
open Jvm Sem ClassFile Op Lib Jvm.Stand Jvm.Free.XT Jvm.Free.ALB Jvm.Free.JM Jvm.Free
open Jvm.Lib.Cold (StaticIs)
/-- what place i of a byte[]'s cell holds -/
def yv (A : Cell) (i : Nat) : Int32 := match A.slots[i]? with | some (.int x) => x | _ => 0
theorem yv_get {a : Addr} {A : Cell} {U : State} (h : XT.Arr .byte a A U) (ht : Typed .byte A) {i : Nat} (hi : i < A.slots.size) : A.slots[i]? = some (.int (yv A i)) := by
  have e := Array.getElem?_eq_getElem hi
  have f := ht i _ e
  unfold yv; rw [e]
  generalize A.slots[i] = v at f
  cases v <;> simp [fits] at f ⊢
/-- the two arrays are equal, place for place -/
def EqC (A B : Cell) : Prop := A.slots.size = B.slots.size ∧ ∀ i, i < A.slots.size → yv A i = yv B i
/-- a boolean that says whether p -/
def Says01 (q : Prop) (r : Option Value) (s u : State) : Prop := ∃ v : Int32, r = some (.int v) ∧ u.heap = s.heap ∧ ((v = 1 ∧ q) ∨ (v = 0 ∧ ¬ q))
theorem Says01.mv {q : Prop} : ∀ r (U U' V V' : State), U'.heap = U.heap → V.vm.Alike V'.vm → V'.heap = V.heap → Says01 q r U V → Says01 q r U' V' :=
  fun r U U' V V' h1 _ h2 ⟨v, a, b, c⟩ => ⟨v, a, by rw [h1, h2]; exact b, c⟩
namespace LEq
def yN : MethodName := ⟨"java/lang/StringLatin1", "equals", "([B[B)Z"⟩
abbrev yB : ByteArray := jdk_43_method_13_code
theorem d0 : decode yB 0 = .ok (.aload_n 0, 1) := by decide +kernel
theorem d1 : decode yB 1 = .ok (.arraylength, 1) := by decide +kernel
theorem d2 : decode yB 2 = .ok (.aload_n 1, 1) := by decide +kernel
theorem d3 : decode yB 3 = .ok (.arraylength, 1) := by decide +kernel
theorem d4 : decode yB 4 = .ok (.if_icmp (.ne) 30, 3) := by decide +kernel
theorem d7 : decode yB 7 = .ok (.iconst 0, 1) := by decide +kernel
theorem d8 : decode yB 8 = .ok (.istore_n 2, 1) := by decide +kernel
theorem d9 : decode yB 9 = .ok (.iload_n 2, 1) := by decide +kernel
theorem d10 : decode yB 10 = .ok (.aload_n 0, 1) := by decide +kernel
theorem d11 : decode yB 11 = .ok (.arraylength, 1) := by decide +kernel
theorem d12 : decode yB 12 = .ok (.if_icmp (.ge) 20, 3) := by decide +kernel
theorem d15 : decode yB 15 = .ok (.aload_n 0, 1) := by decide +kernel
theorem d16 : decode yB 16 = .ok (.iload_n 2, 1) := by decide +kernel
theorem d17 : decode yB 17 = .ok (.baload, 1) := by decide +kernel
theorem d18 : decode yB 18 = .ok (.aload_n 1, 1) := by decide +kernel
theorem d19 : decode yB 19 = .ok (.iload_n 2, 1) := by decide +kernel
theorem d20 : decode yB 20 = .ok (.baload, 1) := by decide +kernel
theorem d21 : decode yB 21 = .ok (.if_icmp (.eq) 5, 3) := by decide +kernel
theorem d24 : decode yB 24 = .ok (.iconst 0, 1) := by decide +kernel
theorem d25 : decode yB 25 = .ok (.ireturn, 1) := by decide +kernel
theorem d26 : decode yB 26 = .ok (.iinc 2 1, 3) := by decide +kernel
theorem d29 : decode yB 29 = .ok (.goto (-20), 3) := by decide +kernel
theorem d32 : decode yB 32 = .ok (.iconst 1, 1) := by decide +kernel
theorem d33 : decode yB 33 = .ok (.ireturn, 1) := by decide +kernel
theorem d34 : decode yB 34 = .ok (.iconst 0, 1) := by decide +kernel
theorem d35 : decode yB 35 = .ok (.ireturn, 1) := by decide +kernel
def site : List Cond := []
def tab : Cond := tabOf yN yB 3 (some .boolean) site
def P (a : Addr) (A : Cell) (b : Addr) (B : Cell) (args : Array Value) (s : State) : Prop := args = #[.ref a, .ref b] ∧ XT.Arr .byte a A s ∧ Typed .byte A ∧ XT.Arr .byte b B s ∧ Typed .byte B
/-- whether two byte[] are equal, place for place -/
theorem law (l : Launch) (a : Addr) (A : Cell) (b : Addr) (B : Cell) : Law l yN 2 2 0 0 yB 3 (some .boolean) site (P a A b B) (Says01 (EqC A B)) [] 0 0 := by
  refine Law.of_walk (plainFor_of_name (by decide +kernel)) (by decide +kernel) (by decide +kernel) (by decide) (fun _ _ h => by rw [h.1]; rfl) (fun _ U U' hal hh h => ⟨h.1, h.2.1.mv hal hh, h.2.2.1, h.2.2.2.1.mv hal hh, h.2.2.2.2⟩) (fun r U U' V V' h1 hal h2 h => Says01.mv r U U' V V' h1 hal h2 h) ?_
  intro p e s m args below meth c s₁ X0 hexec hbytes hml hret hlk hnm hown hh0 W hP
  obtain ⟨rfl, hA, tA, hB, tB⟩ := hP
  have a31 := hA.2.2.2
  have b31 := hB.2.2.2
  have hA0 := hA.mv X0.warmed.alike hh0
  have hB0 := hB.mv X0.warmed.alike hh0
  have c1 : Steps p.tables e below (s₁.setTop (entryFrame m #[.ref a, .ref b] 3)) (s₁.setTop (mkF m 0 #[.val (.ref a), .val (.ref b), .unset] [])) := entry rfl
  have c2 : Steps p.tables e below (s₁.setTop (entryFrame m #[.ref a, .ref b] 3)) (s₁.setTop (mkF m 4 #[.val (.ref a), .val (.ref b), .unset] [.int (Int32.ofNat B.slots.size), .int (Int32.ofNat A.slots.size)])) := c1.trans (by
    refine XS.aloadN X0.here hexec rfl (hb hbytes d0) rfl rfl ?_
    refine X0.alen hexec hA0 rfl rfl (hb hbytes d1) ?_
    refine XS.aloadN X0.here hexec rfl (hb hbytes d2) rfl rfl ?_
    refine X0.alen hexec hB0 rfl rfl (hb hbytes d3) ?_
    exact Steps.refl _)
  by_cases hs : A.slots.size = B.slots.size
  · have c3 : Steps p.tables e below (s₁.setTop (entryFrame m #[.ref a, .ref b] 3)) (s₁.setTop (mkF m 9 #[.val (.ref a), .val (.ref b), .val (.int 0)] [])) := c2.trans (by
      refine XS.icmpNo X0.here hexec rfl (hb hbytes d4) rfl (ii_ne_f (by rw [hs])) ?_
      refine iconstV X0.here hexec rfl 0 (hb hbytes d7) (by decide) ?_
      refine XS.istoreN X0.here hexec rfl (hb hbytes d8) rfl rfl ?_
      exact Steps.refl _)
    have loop : ∀ (r i : Nat), i + r = A.slots.size → (∀ j, j < i → yv A j = yv B j) → Steps p.tables e below (s₁.setTop (entryFrame m #[.ref a, .ref b] 3)) (s₁.setTop (mkF m 9 #[.val (.ref a), .val (.ref b), .val (.int (Int32.ofNat i))] [])) → ∃ (pc : Nat) (Ls : Array Slot) (v : Int32), (pc = 25 ∨ pc = 33) ∧ ((v = 1 ∧ EqC A B) ∨ (v = 0 ∧ ¬ EqC A B)) ∧ Steps p.tables e below (s₁.setTop (entryFrame m #[.ref a, .ref b] 3)) (s₁.setTop (mkF m pc Ls [.int v])) := by
      intro r
      induction r with
      | zero =>
        intro i hi he cl
        exact ⟨33, _, 1, Or.inr rfl, Or.inl ⟨rfl, hs, fun j hj => he j (by omega)⟩, cl.trans (by
          refine XS.iloadN X0.here hexec rfl (hb hbytes d9) rfl ?_
          refine XS.aloadN X0.here hexec rfl (hb hbytes d10) rfl rfl ?_
          refine X0.alen hexec hA0 rfl rfl (hb hbytes d11) ?_
          refine XS.icmpYes X0.here hexec rfl (pc0 := 12) rfl (hb hbytes d12) rfl (ii_ge_t (nlt32 (by omega) (by omega))) (by decide) rfl ?_
          refine iconstV X0.here hexec rfl 1 (hb hbytes d32) (by decide) ?_
          exact Steps.refl _)⟩
      | succ r ih =>
        intro i hi he cl
        have c4 : Steps p.tables e below (s₁.setTop (entryFrame m #[.ref a, .ref b] 3)) (s₁.setTop (mkF m 21 #[.val (.ref a), .val (.ref b), .val (.int (Int32.ofNat i))] [.int (yv B i), .int (yv A i)])) := cl.trans (by
          refine XS.iloadN X0.here hexec rfl (hb hbytes d9) rfl ?_
          refine XS.aloadN X0.here hexec rfl (hb hbytes d10) rfl rfl ?_
          refine X0.alen hexec hA0 rfl rfl (hb hbytes d11) ?_
          refine XS.icmpNo X0.here hexec rfl (hb hbytes d12) rfl (ii_ge_f (lt32 (by omega) (by omega))) ?_
          refine XS.aloadN X0.here hexec rfl (hb hbytes d15) rfl rfl ?_
          refine XS.iloadN X0.here hexec rfl (hb hbytes d16) rfl ?_
          refine X0.aget hexec hA0 rfl (yv_get hA tA (i := i) (by omega)) rfl rfl (hb hbytes d17) ?_
          refine XS.aloadN X0.here hexec rfl (hb hbytes d18) rfl rfl ?_
          refine XS.iloadN X0.here hexec rfl (hb hbytes d19) rfl ?_
          refine X0.aget hexec hB0 rfl (yv_get hB tB (i := i) (by omega)) rfl rfl (hb hbytes d20) ?_
          exact Steps.refl _)
        by_cases hv : yv A i = yv B i
        · have c5 : Steps p.tables e below (s₁.setTop (entryFrame m #[.ref a, .ref b] 3)) (s₁.setTop (mkF m 9 #[.val (.ref a), .val (.ref b), .val (.int (Int32.ofNat i + 1))] [])) := c4.trans (by
            refine XS.icmpYes X0.here hexec rfl (pc0 := 21) rfl (hb hbytes d21) rfl (ii_eq_t hv) (by decide) rfl ?_
            refine iincV X0.here hexec rfl 1 (hb hbytes d26) (by decide) rfl rfl ?_
            refine XS.goto X0.here hexec rfl (pc0 := 29) rfl (hb hbytes d29) (by decide) rfl ?_
            exact Steps.refl _)
          rw [succ32] at c5
          exact ih (i + 1) (by omega) (fun j hj => by
            by_cases e : j = i
            · rw [e]; exact hv
            · exact he j (by omega)) c5
        · exact ⟨25, _, 0, Or.inl rfl, Or.inr ⟨rfl, fun q => hv (q.2 i (by omega))⟩, c4.trans (by
            refine XS.icmpNo X0.here hexec rfl (hb hbytes d21) rfl (ii_eq_f hv) ?_
            refine iconstV X0.here hexec rfl 0 (hb hbytes d24) (by decide) ?_
            exact Steps.refl _)⟩
    obtain ⟨pc, Ls, v, hpc, hv, cz⟩ := loop A.slots.size 0 (by omega) (fun j hj => absurd hj (Nat.not_lt_zero j)) c3
    have nv : narrow .boolean (.int v) = .int v := by rcases hv with ⟨rfl, -⟩ | ⟨rfl, -⟩ <;> rfl
    rcases hpc with rfl | rfl
    · exact ⟨s₁, some (.int v), _, _, _, X0, rfl, rfl, rfl, (fun h => by cases h), ⟨v, rfl, hh0, hv⟩, fun fs hl => cz.trans (X0.ireturnOut hexec hret nv (Or.inr (Or.inl rfl)) (hb hbytes d25) hl)⟩
    · exact ⟨s₁, some (.int v), _, _, _, X0, rfl, rfl, rfl, (fun h => by cases h), ⟨v, rfl, hh0, hv⟩, fun fs hl => cz.trans (X0.ireturnOut hexec hret nv (Or.inr (Or.inl rfl)) (hb hbytes d33) hl)⟩
  · have c3 : Steps p.tables e below (s₁.setTop (entryFrame m #[.ref a, .ref b] 3)) (s₁.setTop (mkF m 35 #[.val (.ref a), .val (.ref b), .unset] [.int 0])) := c2.trans (by
      refine XS.icmpYes X0.here hexec rfl (pc0 := 4) rfl (hb hbytes d4) rfl (ii_ne_t (ne32 a31 b31 hs)) (by decide) rfl ?_
      refine iconstV X0.here hexec rfl 0 (hb hbytes d34) (by decide) ?_
      exact Steps.refl _)
    exact ⟨s₁, some (.int 0), _, _, _, X0, rfl, rfl, rfl, (fun h => by cases h), ⟨0, rfl, hh0, Or.inr ⟨rfl, fun q => hs q.1⟩⟩, fun fs hl => c3.trans (X0.ireturnOut hexec hret rfl (Or.inr (Or.inl rfl)) (hb hbytes d35) hl)⟩
end LEq
theorem Cod.ty {cd : Int32} {n : Nat} {f : Nat → Int32} {V : Cell} (h : Cod cd n f V) : Typed .byte V := fun i v hv => by
  have hi : i < V.slots.size := (Array.getElem?_eq_some_iff.mp hv).1
  rcases h with ⟨-, k1, k2⟩ | ⟨-, k1, k2, -⟩
  · rw [(k2 i (by omega)).1] at hv; cases hv; exact fits_lo8 _
  · rcases Nat.mod_two_eq_zero_or_one i with e | e
    · obtain ⟨j, rfl⟩ : ∃ j, i = 2 * j := ⟨i / 2, by omega⟩
      rw [(k2 j (by omega)).1] at hv; cases hv; exact fits_lo8 _
    · obtain ⟨j, rfl⟩ : ∃ j, i = 2 * j + 1 := ⟨i / 2, by omega⟩
      rw [(k2 j (by omega)).2] at hv; cases hv; exact fits_lo8 _
/-- the same text -/
def SameT (n : Nat) (f : Nat → Int32) (k : Nat) (g : Nat → Int32) : Prop := n = k ∧ ∀ j, j < n → f j = g j
theorem lo8_inj {x y : Int32} (h0 : ¬ x < 0) (h1 : ¬ 255 < x) (k0 : ¬ y < 0) (k1 : ¬ 255 < y) (h : lo8 x = lo8 y) : x = y := by
  rw [← lo8_mask h0 h1, ← lo8_mask k0 k1, h]
/-- arrays coded by one coder are equal just where the texts are -/
theorem Cod.eqv {cd : Int32} {n k : Nat} {f g : Nat → Int32} {V V' : Cell} (h : Cod cd n f V) (h' : Cod cd k g V') (hf : ∀ j, j < n → ¬ f j < 0 ∧ ¬ 65535 < f j) (hg : ∀ j, j < k → ¬ g j < 0 ∧ ¬ 65535 < g j) : EqC V V' ↔ SameT n f k g := by
  have yvv : ∀ {W : Cell} {i : Nat} {x : Int32}, W.slots[i]? = some (.int x) → yv W i = x := fun q => by unfold yv; rw [q]
  rcases h with ⟨rfl, k1, k2⟩ | ⟨rfl, k1, k2, -⟩
  · rcases h' with ⟨-, m1, m2⟩ | ⟨e, -⟩
    · constructor
      · rintro ⟨e1, e2⟩
        refine ⟨by omega, fun j hj => ?_⟩
        have q := e2 j (by omega)
        rw [yvv (k2 j hj).1, yvv (m2 j (by omega)).1] at q
        exact lo8_inj (hf j hj).1 (k2 j hj).2 (hg j (by omega)).1 (m2 j (by omega)).2 q
      · rintro ⟨rfl, e2⟩
        refine ⟨by omega, fun j hj => ?_⟩
        rw [yvv (k2 j (by omega)).1, yvv (m2 j (by omega)).1, e2 j (by omega)]
    · exact absurd e (by decide)
  · rcases h' with ⟨e, -⟩ | ⟨-, m1, m2, -⟩
    · exact absurd e (by decide)
    · constructor
      · rintro ⟨e1, e2⟩
        refine ⟨by omega, fun j hj => ?_⟩
        have q1 := e2 (2 * j) (by omega)
        have q2 := e2 (2 * j + 1) (by omega)
        rw [yvv (k2 j hj).1, yvv (m2 j (by omega)).1] at q1
        rw [yvv (k2 j hj).2, yvv (m2 j (by omega)).2] at q2
        rw [← pair_says (hf j hj).1 (hf j hj).2, ← pair_says (hg j (by omega)).1 (hg j (by omega)).2, q1, q2]
      · rintro ⟨rfl, e2⟩
        refine ⟨by omega, fun i hi => ?_⟩
        rcases Nat.mod_two_eq_zero_or_one i with e | e
        · obtain ⟨j, rfl⟩ : ∃ j, i = 2 * j := ⟨i / 2, by omega⟩
          rw [yvv (k2 j (by omega)).1, yvv (m2 j (by omega)).1, e2 j (by omega)]
        · obtain ⟨j, rfl⟩ : ∃ j, i = 2 * j + 1 := ⟨i / 2, by omega⟩
          rw [yvv (k2 j (by omega)).2, yvv (m2 j (by omega)).2, e2 j (by omega)]
/-- two codings differ: so do the texts -/
theorem Cod.dif {cd cd' : Int32} {n k : Nat} {f g : Nat → Int32} {V V' : Cell} (h : Cod cd n f V) (h' : Cod cd' k g V') (hne : ¬ cd = cd') : ¬ SameT n f k g := by
  rintro ⟨rfl, e⟩
  rcases h with ⟨rfl, -, k2⟩ | ⟨rfl, -, -, j, hj, hw⟩
  · rcases h' with ⟨rfl, -⟩ | ⟨-, -, -, j, hj, hw⟩
    · exact hne rfl
    · exact (k2 j hj).2 (by rw [e j hj]; exact hw)
  · rcases h' with ⟨-, -, m2⟩ | ⟨rfl, -⟩
    · exact (m2 j hj).2 (by rw [← e j hj]; exact hw)
    · exact hne rfl
/-- an object of exactly C is an instance of C -/
theorem cinst {p : Program} {l : Launch} {e : Env} {R : Room} {s : State} {m : MethodId} {args : Array Value} {below : List Frame} {meth : Method} {c : Code} {T : State} {locs : List Loc} {cells slots : Nat} (X : Stand p l e R s m args below meth c T locs cells slots) (hexec : p.tables.exec = Jvm.exec) {own C : String} {index : Nat} (hown : s.vm.findClass own = some m.cls) (hlink : (Cond.classLink own index C).before args s = true) {a : Addr} (hE : Exact C a T)
    {g : JFrame} (hg : g.method = m) {rest : List Value} (hstack : g.stack = .ref a :: rest) (hdg : decode c.code g.pc = .ok (.instanceof index, 3)) :
    ∃ T', Stand p l e R s m args below meth c T' locs cells slots ∧ T'.heap = T.heap ∧ ∀ target, Steps p.tables e below (T'.setTop { g with pc := g.pc + 3, stack := .int 1 :: rest }) target → Steps p.tables e below (T.setTop g) target := by
  obtain ⟨cB, h1, D, h2, h3, h4⟩ := hE
  have h1' : s.vm.findClass C = some cB := by rw [← X.warmed.alike.findClass]; exact h1
  obtain ⟨vm', X', st⟩ := X.instanceofYes hexec hown hlink h2 h4 h1' (by rw [h3]; exact Jvm.Free.SB.assignable_self _ _) hg hstack hdg
  exact ⟨_, X', rfl, st⟩
theorem cself {p : Program} {l : Launch} {e : Env} {R : Room} {s : State} {m : MethodId} {args : Array Value} {below : List Frame} {meth : Method} {c : Code} {T : State} {locs : List Loc} {cells slots : Nat} (X : Stand p l e R s m args below meth c T locs cells slots) (hexec : p.tables.exec = Jvm.exec) {own C : String} {index : Nat} (hown : s.vm.findClass own = some m.cls) (hlink : (Cond.classLink own index C).before args s = true) {a : Addr} (hE : Exact C a T)
    {g : JFrame} (hg : g.method = m) {rest : List Value} (hstack : g.stack = .ref a :: rest) (hdg : decode c.code g.pc = .ok (.checkcast index, 3)) :
    ∃ T', Stand p l e R s m args below meth c T' locs cells slots ∧ T'.heap = T.heap ∧ ∀ target, Steps p.tables e below (T'.setTop { g with pc := g.pc + 3, stack := .ref a :: rest }) target → Steps p.tables e below (T.setTop g) target := by
  obtain ⟨cB, h1, D, h2, h3, h4⟩ := hE
  have h1' : s.vm.findClass C = some cB := by rw [← X.warmed.alike.findClass]; exact h1
  obtain ⟨vm', X', st⟩ := X.checkcastYes hexec hown hlink h2 h4 h1' (by rw [h3]; exact Jvm.Free.SB.assignable_self _ _) hg hstack hdg
  exact ⟨_, X', rfl, fun t h => st t (by rw [← hstack] at h; exact h)⟩
namespace SEq
def yN : MethodName := ⟨"java/lang/String", "equals", "(Ljava/lang/Object;)Z"⟩
abbrev yB : ByteArray := jdk_42_method_66_code
theorem d0 : decode yB 0 = .ok (.aload_n 0, 1) := by decide +kernel
theorem d1 : decode yB 1 = .ok (.aload_n 1, 1) := by decide +kernel
theorem d2 : decode yB 2 = .ok (.if_acmp (.ne) 5, 3) := by decide +kernel
theorem d5 : decode yB 5 = .ok (.iconst 1, 1) := by decide +kernel
theorem d6 : decode yB 6 = .ok (.ireturn, 1) := by decide +kernel
theorem d7 : decode yB 7 = .ok (.aload_n 1, 1) := by decide +kernel
theorem d8 : decode yB 8 = .ok (.instanceof 10, 3) := by decide +kernel
theorem d11 : decode yB 11 = .ok (.ifCond (.eq) 43, 3) := by decide +kernel
theorem d14 : decode yB 14 = .ok (.aload_n 1, 1) := by decide +kernel
theorem d15 : decode yB 15 = .ok (.checkcast 10, 3) := by decide +kernel
theorem d18 : decode yB 18 = .ok (.astore_n 2, 1) := by decide +kernel
theorem d19 : decode yB 19 = .ok (.getstatic 38, 3) := by decide +kernel
theorem d22 : decode yB 22 = .ok (.ifCond (.eq) 14, 3) := by decide +kernel
theorem d25 : decode yB 25 = .ok (.aload_n 0, 1) := by decide +kernel
theorem d26 : decode yB 26 = .ok (.getfield 15, 3) := by decide +kernel
theorem d29 : decode yB 29 = .ok (.aload_n 2, 1) := by decide +kernel
theorem d30 : decode yB 30 = .ok (.getfield 15, 3) := by decide +kernel
theorem d33 : decode yB 33 = .ok (.if_icmp (.ne) 21, 3) := by decide +kernel
theorem d36 : decode yB 36 = .ok (.aload_n 0, 1) := by decide +kernel
theorem d37 : decode yB 37 = .ok (.getfield 9, 3) := by decide +kernel
theorem d40 : decode yB 40 = .ok (.aload_n 2, 1) := by decide +kernel
theorem d41 : decode yB 41 = .ok (.getfield 9, 3) := by decide +kernel
theorem d44 : decode yB 44 = .ok (.invokestatic 541, 3) := by decide +kernel
theorem d47 : decode yB 47 = .ok (.ifCond (.eq) 7, 3) := by decide +kernel
theorem d50 : decode yB 50 = .ok (.iconst 1, 1) := by decide +kernel
theorem d51 : decode yB 51 = .ok (.goto 4, 3) := by decide +kernel
theorem d54 : decode yB 54 = .ok (.iconst 0, 1) := by decide +kernel
theorem d55 : decode yB 55 = .ok (.ireturn, 1) := by decide +kernel
def site : List Cond := [.classLink "java/lang/String" 10 "java/lang/String", .fieldLink "java/lang/String" 38 "java/lang/String" "COMPACT_STRINGS" "Z", .fieldLink "java/lang/String" 15 "java/lang/String" "coder" "B", .fieldLink "java/lang/String" 9 "java/lang/String" "value" "[B", LEq.tab] ++ staticW "java/lang/String" 541 LEq.yN
def tab : Cond := tabOf yN yB 3 (some .boolean) site
def P (x t : Addr) (V : Cell) (cd : Int32) (n : Nat) (f : Nat → Int32) (y t' : Addr) (V' : Cell) (cd' : Int32) (k : Nat) (g : Nat → Int32) (z : Int32) (args : Array Value) (s : State) : Prop := args = #[.ref x, .ref y] ∧ Txt x t V cd n f s ∧ Txt y t' V' cd' k g s ∧ StaticIs s "java/lang/String" "COMPACT_STRINGS" "Z" (.int z) ∧ ¬ z = 0
/-- equals(Object) of two Strings: whether the texts are the same -/
theorem law (l : Launch) (x t : Addr) (V : Cell) (cd : Int32) (n : Nat) (f : Nat → Int32) (y t' : Addr) (V' : Cell) (cd' : Int32) (k : Nat) (g : Nat → Int32) (z : Int32) : Law l yN 2 1 1 14 yB 3 (some .boolean) site (P x t V cd n f y t' V' cd' k g z) (Says01 (SameT n f k g)) [] 0 0 := by
  refine Law.of_walk (plainFor_of_name (by decide +kernel)) (by decide +kernel) (by decide +kernel) (by decide) (fun _ _ h => by rw [h.1]; rfl) (fun _ U U' hal hh h => ⟨h.1, h.2.1.mv hal hh, h.2.2.1.mv hal hh, h.2.2.2.1.there hal hh, h.2.2.2.2⟩) (fun r U U' V V' h1 hal h2 h => Says01.mv r U U' V V' h1 hal h2 h) ?_
  intro p e s m args below meth c s₁ X0 hexec hbytes hml hret hlk hnm hown hh0 W hP
  obtain ⟨rfl, hx, hy, s1, hz⟩ := hP
  have c1 : Steps p.tables e below (s₁.setTop (entryFrame m #[.ref x, .ref y] 3)) (s₁.setTop (mkF m 2 #[.val (.ref x), .val (.ref y), .unset] [.ref y, .ref x])) := Steps.trans (entry rfl) (by
    show Steps p.tables e below (s₁.setTop (mkF m 0 #[.val (.ref x), .val (.ref y), .unset] [])) _
    refine XS.aloadN X0.here hexec rfl (hb hbytes d0) rfl rfl ?_
    refine XS.aloadN X0.here hexec rfl (hb hbytes d1) rfl rfl ?_
    exact Steps.refl _)
  by_cases hxy : x = y
  · have c2 : Steps p.tables e below (s₁.setTop (entryFrame m #[.ref x, .ref y] 3)) (s₁.setTop (mkF m 6 #[.val (.ref x), .val (.ref y), .unset] [.int 1])) := c1.trans (by
      refine acmpNo X0.here hexec rfl (hb hbytes d2) rfl rfl rfl (by simp [acmp, hxy]) ?_
      refine iconstV X0.here hexec rfl 1 (hb hbytes d5) (by decide) ?_
      exact Steps.refl _)
    subst hxy
    have ec : cd = cd' := by
      obtain ⟨D, fd, a1, a2, a3⟩ := hx.2.2.1
      obtain ⟨D', fd', b1, b2, b3⟩ := hy.2.2.1
      cases a1.symm.trans b1
      obtain ⟨q1, q2, q3, q4⟩ := a2.1
      obtain ⟨r1, r2, r3, r4⟩ := b2.1
      cases q4.symm.trans r4
      cases a3.symm.trans b3; rfl
    have et : t = t' := by
      obtain ⟨D, fd, a1, a2, a3⟩ := hx.2.1
      obtain ⟨D', fd', b1, b2, b3⟩ := hy.2.1
      cases a1.symm.trans b1
      obtain ⟨q1, q2, q3, q4⟩ := a2.1
      obtain ⟨r1, r2, r3, r4⟩ := b2.1
      cases q4.symm.trans r4
      cases a3.symm.trans b3; rfl
    subst ec et
    have ev : V = V' := by cases hx.2.2.2.1.1.symm.trans hy.2.2.2.1.1; rfl
    subst ev
    have hs : SameT n f k g := (Cod.eqv hx.2.2.2.2.1 hy.2.2.2.2.1 hx.2.2.2.2.2 hy.2.2.2.2.2).mp ⟨rfl, fun _ _ => rfl⟩
    exact ⟨s₁, some (.int 1), _, _, _, X0, rfl, rfl, rfl, (fun h => by cases h), ⟨1, rfl, hh0, Or.inl ⟨rfl, hs⟩⟩, fun fs hl => c2.trans (X0.ireturnOut hexec hret rfl (Or.inr (Or.inl rfl)) (hb hbytes d6) hl)⟩
  · have c2 : Steps p.tables e below (s₁.setTop (entryFrame m #[.ref x, .ref y] 3)) (s₁.setTop (mkF m 8 #[.val (.ref x), .val (.ref y), .unset] [.ref y])) := c1.trans (by
      refine acmpYes X0.here hexec rfl (pc0 := 2) rfl (hb hbytes d2) rfl rfl rfl (by simp [acmp, hxy]) (by decide) rfl ?_
      refine XS.aloadN X0.here hexec rfl (hb hbytes d7) rfl rfl ?_
      exact Steps.refl _)
    obtain ⟨T3, X3, q3, st3⟩ := cinst X0 hexec hown (wk W (.classLink "java/lang/String" 10 "java/lang/String")) (hy.mv X0.warmed.alike hh0).1 (g := (mkF m 8 #[.val (.ref x), .val (.ref y), .unset] [.ref y])) rfl (rest := []) rfl (hb hbytes d8)
    have hh3 := q3.trans hh0
    have c4 : Steps p.tables e below (s₁.setTop (entryFrame m #[.ref x, .ref y] 3)) (T3.setTop (mkF m 15 #[.val (.ref x), .val (.ref y), .unset] [.ref y])) := (c2.trans (st3 _ (Steps.refl _))).trans (by
      refine XS.ifNo X3.here hexec rfl (hb hbytes d11) rfl (i0_eq_f (by decide)) ?_
      refine XS.aloadN X3.here hexec rfl (hb hbytes d14) rfl rfl ?_
      exact Steps.refl _)
    obtain ⟨T5, X5, q5, st5⟩ := cself X3 hexec hown (wk W (.classLink "java/lang/String" 10 "java/lang/String")) (hy.mv X3.warmed.alike hh3).1 (g := (mkF m 15 #[.val (.ref x), .val (.ref y), .unset] [.ref y])) rfl (rest := []) rfl (hb hbytes d15)
    have hh5 := q5.trans hh3
    have c6 : Steps p.tables e below (s₁.setTop (entryFrame m #[.ref x, .ref y] 3)) (T5.setTop (mkF m 19 #[.val (.ref x), .val (.ref y), .val (.ref y)] [])) := (c4.trans (st5 _ (Steps.refl _))).trans (by
      refine XS.astoreN X5.here hexec rfl (hb hbytes d18) rfl rfl rfl ?_
      exact Steps.refl _)
    obtain ⟨T7, X7, q7, st7⟩ := X5.sget hexec hown (wk W (.fieldLink "java/lang/String" 38 "java/lang/String" "COMPACT_STRINGS" "Z")) s1 (fun _ _ h => by rw [hh5]; exact h) (g := (mkF m 19 #[.val (.ref x), .val (.ref y), .val (.ref y)] [])) rfl (hb hbytes d19)
    have hh7 := q7.trans hh5
    have c8 : Steps p.tables e below (s₁.setTop (entryFrame m #[.ref x, .ref y] 3)) (T7.setTop (mkF m 26 #[.val (.ref x), .val (.ref y), .val (.ref y)] [.ref x])) := (c6.trans (st7 _ (Steps.refl _))).trans (by
      refine XS.ifNo X7.here hexec rfl (hb hbytes d22) rfl (i0_eq_f hz) ?_
      refine XS.aloadN X7.here hexec rfl (hb hbytes d25) rfl rfl ?_
      exact Steps.refl _)
    obtain ⟨T9, X9, q9, st9⟩ := X7.hget hexec hown (wk W (.fieldLink "java/lang/String" 15 "java/lang/String" "coder" "B")) (hx.mv X7.warmed.alike hh7).2.2.1 (g := (mkF m 26 #[.val (.ref x), .val (.ref y), .val (.ref y)] [.ref x])) rfl (rest := []) rfl (hb hbytes d26)
    have hh9 := q9.trans hh7
    have c10 : Steps p.tables e below (s₁.setTop (entryFrame m #[.ref x, .ref y] 3)) (T9.setTop (mkF m 30 #[.val (.ref x), .val (.ref y), .val (.ref y)] [.ref y, .int cd])) := (c8.trans (st9 _ (Steps.refl _))).trans (by
      refine XS.aloadN X9.here hexec rfl (hb hbytes d29) rfl rfl ?_
      exact Steps.refl _)
    obtain ⟨T11, X11, q11, st11⟩ := X9.hget hexec hown (wk W (.fieldLink "java/lang/String" 15 "java/lang/String" "coder" "B")) (hy.mv X9.warmed.alike hh9).2.2.1 (g := (mkF m 30 #[.val (.ref x), .val (.ref y), .val (.ref y)] [.ref y, .int cd])) rfl (rest := [.int cd]) rfl (hb hbytes d30)
    have hh11 := q11.trans hh9
    have c12 : Steps p.tables e below (s₁.setTop (entryFrame m #[.ref x, .ref y] 3)) (T11.setTop (mkF m 33 #[.val (.ref x), .val (.ref y), .val (.ref y)] [.int cd', .int cd])) := c10.trans (st11 _ (Steps.refl _))
    by_cases hcd : cd = cd'
    · subst hcd
      have c13 : Steps p.tables e below (s₁.setTop (entryFrame m #[.ref x, .ref y] 3)) (T11.setTop (mkF m 37 #[.val (.ref x), .val (.ref y), .val (.ref y)] [.ref x])) := c12.trans (by
        refine XS.icmpNo X11.here hexec rfl (hb hbytes d33) rfl (ii_ne_f rfl) ?_
        refine XS.aloadN X11.here hexec rfl (hb hbytes d36) rfl rfl ?_
        exact Steps.refl _)
      obtain ⟨T14, X14, q14, st14⟩ := X11.hget hexec hown (wk W (.fieldLink "java/lang/String" 9 "java/lang/String" "value" "[B")) (hx.mv X11.warmed.alike hh11).2.1 (g := (mkF m 37 #[.val (.ref x), .val (.ref y), .val (.ref y)] [.ref x])) rfl (rest := []) rfl (hb hbytes d37)
      have hh14 := q14.trans hh11
      have c15 : Steps p.tables e below (s₁.setTop (entryFrame m #[.ref x, .ref y] 3)) (T14.setTop (mkF m 41 #[.val (.ref x), .val (.ref y), .val (.ref y)] [.ref y, .ref t])) := (c13.trans (st14 _ (Steps.refl _))).trans (by
        refine XS.aloadN X14.here hexec rfl (hb hbytes d40) rfl rfl ?_
        exact Steps.refl _)
      obtain ⟨T16, X16, q16, st16⟩ := X14.hget hexec hown (wk W (.fieldLink "java/lang/String" 9 "java/lang/String" "value" "[B")) (hy.mv X14.warmed.alike hh14).2.1 (g := (mkF m 41 #[.val (.ref x), .val (.ref y), .val (.ref y)] [.ref y, .ref t])) rfl (rest := [.ref t]) rfl (hb hbytes d41)
      have hh16 := q16.trans hh14
      have c17 : Steps p.tables e below (s₁.setTop (entryFrame m #[.ref x, .ref y] 3)) (T16.setTop (mkF m 44 #[.val (.ref x), .val (.ref y), .val (.ref y)] [.ref t', .ref t])) := c15.trans (st16 _ (Steps.refl _))
      obtain ⟨v18, T18, X18, E18, g18⟩ := X16.callS hexec (LEq.law l t V t' V') hown (wks W (staticW "java/lang/String" 541 LEq.yN)) (wk W LEq.tab) (W := 0) (Nat.le_of_ble_eq_true rfl) (Nat.le_of_ble_eq_true rfl) (Nat.le_refl _) (Nat.le_refl _) (g := (mkF m 44 #[.val (.ref x), .val (.ref y), .val (.ref y)] [.ref t', .ref t])) rfl (by rw [hml]; rfl) c17 (argsL := [.ref t, .ref t']) (rest := []) rfl rfl (by show 2 * 0 + 0 ≤ _; decide) (hb hbytes d44) (⟨rfl, hx.2.2.2.1.mv X16.warmed.alike hh16, hx.2.2.2.2.1.ty, hy.2.2.2.1.mv X16.warmed.alike hh16, hy.2.2.2.2.1.ty⟩)
      obtain ⟨v, rfl, q18, hv⟩ := E18
      have iff := Cod.eqv hx.2.2.2.2.1 hy.2.2.2.2.1 hx.2.2.2.2.2 hy.2.2.2.2.2
      rcases hv with ⟨rfl, he⟩ | ⟨rfl, he⟩
      · have c19 : Steps p.tables e below (s₁.setTop (entryFrame m #[.ref x, .ref y] 3)) (T18.setTop (mkF m 55 #[.val (.ref x), .val (.ref y), .val (.ref y)] [.int 1])) := Steps.trans g18 (by
          refine XS.ifNo X18.here hexec rfl (hb hbytes d47) rfl (i0_eq_f (by decide)) ?_
          refine iconstV X18.here hexec rfl 1 (hb hbytes d50) (by decide) ?_
          refine XS.goto X18.here hexec rfl (pc0 := 51) rfl (hb hbytes d51) (by decide) rfl ?_
          exact Steps.refl _)
        exact ⟨T18, some (.int 1), _, _, _, X18, rfl, rfl, rfl, (fun h => by cases h), ⟨1, rfl, q18.trans hh16, Or.inl ⟨rfl, iff.mp he⟩⟩, fun fs hl => c19.trans (X18.ireturnOut hexec hret rfl (Or.inr (Or.inl rfl)) (hb hbytes d55) hl)⟩
      · have c19 : Steps p.tables e below (s₁.setTop (entryFrame m #[.ref x, .ref y] 3)) (T18.setTop (mkF m 55 #[.val (.ref x), .val (.ref y), .val (.ref y)] [.int 0])) := Steps.trans g18 (by
          refine XS.ifYes X18.here hexec rfl (pc0 := 47) rfl (hb hbytes d47) rfl (i0_eq_t rfl) (by decide) rfl ?_
          refine iconstV X18.here hexec rfl 0 (hb hbytes d54) (by decide) ?_
          exact Steps.refl _)
        exact ⟨T18, some (.int 0), _, _, _, X18, rfl, rfl, rfl, (fun h => by cases h), ⟨0, rfl, q18.trans hh16, Or.inr ⟨rfl, fun q => he (iff.mpr q)⟩⟩, fun fs hl => c19.trans (X18.ireturnOut hexec hret rfl (Or.inr (Or.inl rfl)) (hb hbytes d55) hl)⟩
    · have c13 : Steps p.tables e below (s₁.setTop (entryFrame m #[.ref x, .ref y] 3)) (T11.setTop (mkF m 55 #[.val (.ref x), .val (.ref y), .val (.ref y)] [.int 0])) := c12.trans (by
        refine XS.icmpYes X11.here hexec rfl (pc0 := 33) rfl (hb hbytes d33) rfl (ii_ne_t hcd) (by decide) rfl ?_
        refine iconstV X11.here hexec rfl 0 (hb hbytes d54) (by decide) ?_
        exact Steps.refl _)
      exact ⟨T11, some (.int 0), _, _, _, X11, rfl, rfl, rfl, (fun h => by cases h), ⟨0, rfl, hh11, Or.inr ⟨rfl, Cod.dif hx.2.2.2.2.1 hy.2.2.2.2.1 hcd⟩⟩, fun fs hl => c13.trans (X11.ireturnOut hexec hret rfl (Or.inr (Or.inl rfl)) (hb hbytes d55) hl)⟩
theorem pays {l : Launch} {R : Room} {p : Program} {e : Env} {below : List Frame} {s : State} {sargs : Array Value} {len W : Nat} (x t : Addr) (V : Cell) (cd : Int32) (n : Nat) (f : Nat → Int32) (y t' : Addr) (V' : Cell) (cd' : Int32) (k : Nat) (g : Nat → Int32) (z : Int32) (htab : tab.before sargs s = true) (hfr : 2 ≤ R.frames) (hlo : W + 28 ≤ R.locals) :
    Back l R p e below s sargs yN len W (fun A₁ a₁ => A₁.cells + 0 ≤ R.cells ∧ A₁.slots + 0 ≤ R.slots ∧ P x t V cd n f y t' V' cd' k g z a₁ A₁.U) (fun A₁ _ v₁ B₁ => Says01 (SameT n f k g) v₁ A₁.U B₁.U ∧ B₁.locs = A₁.locs ++ [] ∧ B₁.cells = A₁.cells + 0 ∧ B₁.slots = A₁.slots + 0) :=
  (law l x t V cd n f y t' V' cd' k g z).pays htab hfr (by omega)
end SEq
end StrChars
namespace StrChars.Road
open Jvm Sem ClassFile Op Lib Jvm.Stand Jvm.Free Jvm.Free.XT
open Jvm.Lib.Cold (StaticIs)
/-- the words of String.equals(Object) -/
abbrev wordsEq : List Jvm.Cond := [.code SEq.yN SEq.yB 3 (some .boolean), .initialized ST, .classLink ST 10 ST, .fieldLink ST 38 ST "COMPACT_STRINGS" "Z", .fieldLink ST 15 ST "coder" "B", .fieldLink ST 9 ST "value" "[B", .methodLink ST 541 LEq.yN, .static LEq.yN, .code LEq.yN LEq.yB 3 (some .boolean), .initialized "java/lang/StringLatin1"]
theorem tabEq_of {a : Array Value} {s : State} (h : ∀ w ∈ wordsEq, w.before a s = true) : SEq.tab.before a s = true := by
  have hl : LEq.tab.before a s = true := unparts (wk h (.code LEq.yN LEq.yB 3 (some .boolean))) (wks h (.initialized LEq.yN.cls :: LEq.site))
  have q := consq hl h
  exact unparts (wk q (.code SEq.yN SEq.yB 3 (some .boolean))) (wks q (.initialized SEq.yN.cls :: SEq.site))
theorem movedEq {Z s : State} {a0 args : Array Value} (hZ : Z.Warmed39 s.vm) (hw : ∀ d ∈ wordsEq, d.before a0 Z = true) : ∀ d ∈ wordsEq, d.before args s = true := fun d hd => by
  have t : ∀ d ∈ wordsEq, (d.onTables && d.keepsFace) = true := by decide +kernel
  exact RoadKit.mv hZ (hw d hd) (t d hd)
/-- the road's facts of a String, as the laws ask it -/
theorem txt_of {Z U : State} {a0 : Array Value} {kI : Nat} (wi : (Jvm.Cond.instantiable ST kI).before a0 Z = true) (al : Z.vm.Alike U.vm) {x t : Addr} {kb : ClassId} {cs : List Int32} {cd N2 : Int32} {vs : List Value} (E : RoadKit.Exa Z U.heap x ST) (V : RoadKit.Fld Z U.heap x ST "value" "[B" (.ref t)) (C : RoadKit.Fld Z U.heap x ST "coder" "B" (.int cd)) (K : RoadKit.Arv Z U.heap t kb .byte N2 vs (.int 0)) (hc : CodA cs cd N2 vs) (hb : ∀ c ∈ cs, ¬ c < 0 ∧ ¬ (65535 : Int32) < c) (l2 : cs.length ≤ 4000) :
    ∃ A, Txt x t A cd cs.length (fun j => cs.getD j 0) U := by
  obtain ⟨A, K1, K2, K3, K4, K5, K6⟩ := K
  have hcod := hc.cod (by omega) K3 K5
  obtain ⟨D, fV, fC, hB, F1, F2, g1, g2, -, -⟩ := strObj wi al E V C
  exact ⟨A, ⟨_, hB.2.2.1, D, hB.1, rfl, by cases q : D.vm <;> first | rfl | exact absurd q (hB.2.1.2 _)⟩, Has.of hB F1 g1, Has.of hB F2 g2, ⟨K1.1, State.isArrayOf_alike al K1.2.1, K1.2.2, by rcases hcod with ⟨-, q, -⟩ | ⟨-, q, -⟩ <;> omega⟩, hcod, fun j hj => by
    have e : cs.getD j 0 = cs[j] := by simp [List.getD_eq_getElem?_getD, hj]
    show ¬ cs.getD j 0 < 0 ∧ ¬ 65535 < cs.getD j 0
    rw [e]; exact hb _ (List.getElem_mem _)⟩
theorem same_list (cs ds : List Int32) : SameT cs.length (fun j => cs.getD j 0) ds.length (fun j => ds.getD j 0) ↔ cs = ds := by
  constructor
  · rintro ⟨e, q⟩
    refine List.ext_getElem e fun j h1 h2 => ?_
    have := q j h1
    simpa [List.getD_eq_getElem?_getD, h1, h2] using this
  · rintro rfl
    exact ⟨rfl, fun _ _ => rfl⟩
/-- **equals(Object) OF TWO SUCH STRINGS**: 1 just where the chars are the same -/
theorem eqW {p : Program} {l : Launch} {e : Env} {R : Room} {s : State} {args : Array Value} {below : List Frame} {len W : Nat} {Z : State} {a0 : Array Value} {h : Heap} (hZ : Z.Warmed39 s.vm) (hw : ∀ d ∈ wordsEq, d.before a0 Z = true) {kI : Nat} (wi : (Jvm.Cond.instantiable ST kI).before a0 Z = true)
    {x t : Addr} {kb : ClassId} {cs : List Int32} {cd N2 : Int32} {vs : List Value} (E : RoadKit.Exa Z h x ST) (V : RoadKit.Fld Z h x ST "value" "[B" (.ref t)) (C : RoadKit.Fld Z h x ST "coder" "B" (.int cd)) (K : RoadKit.Arv Z h t kb .byte N2 vs (.int 0)) (hc : CodA cs cd N2 vs) (hb : ∀ c ∈ cs, ¬ c < 0 ∧ ¬ (65535 : Int32) < c) (l2 : cs.length ≤ 4000)
    {y t' : Addr} {kb' : ClassId} {ds : List Int32} {cd' N2' : Int32} {vs' : List Value} (E' : RoadKit.Exa Z h y ST) (V' : RoadKit.Fld Z h y ST "value" "[B" (.ref t')) (C' : RoadKit.Fld Z h y ST "coder" "B" (.int cd')) (K' : RoadKit.Arv Z h t' kb' .byte N2' vs' (.int 0)) (hc' : CodA ds cd' N2' vs') (hb' : ∀ c ∈ ds, ¬ c < 0 ∧ ¬ (65535 : Int32) < c) (l2' : ds.length ≤ 4000)
    {z : Int32} (S : RoadKit.Sta Z h ST "COMPACT_STRINGS" "Z" (.int z)) (hz : ¬ z = 0) (hfr : 2 ≤ R.frames) (hlo : W + 28 ≤ R.locals) :
    Back l R p e below s args (⟨"java/lang/String", "equals", "(Ljava/lang/Object;)Z"⟩ : MethodName) len W (fun P a => a = #[.ref x, .ref y] ∧ P.U.heap = h ∧ P.cells + 0 ≤ R.cells ∧ P.slots + 0 ≤ R.slots)
      (fun P _ v B => ∃ L, (((v = some (.int 1) ∧ cs = ds) ∨ (v = some (.int 0) ∧ ¬ cs = ds)) ∧ L = [] ∧ B.U.heap = h) ∧ B.locs = P.locs ++ L ∧ B.cells = P.cells + 0 ∧ B.slots = P.slots + 0) := by
  intro m meth c P g ig mk a X hg hsize hdg hW hn hp'
  obtain ⟨rfl, rfl, r1, r2⟩ := hp'
  have al : Z.vm.Alike P.U.vm := hZ.alike.trans X.warmed.alike
  obtain ⟨A, hx⟩ := txt_of wi al E V C K hc hb l2
  obtain ⟨A', hy⟩ := txt_of wi al E' V' C' K' hc' hb' l2'
  obtain ⟨v, B, X', ⟨⟨w, hv, hh, hq⟩, hl, hk, hs⟩, st⟩ := SEq.pays x t A cd cs.length (fun j => cs.getD j 0) y t' A' cd' ds.length (fun j => ds.getD j 0) z (tabEq_of (movedEq hZ hw)) hfr hlo m meth c P g ig mk _ X hg hsize hdg hW hn ⟨r1, r2, rfl, hx, hy, sta_is al S, hz⟩
  refine ⟨v, B, X', ⟨[], ⟨?_, rfl, hh⟩, hl, hk, hs⟩, st⟩
  rcases hq with ⟨rfl, q⟩ | ⟨rfl, q⟩
  · exact Or.inl ⟨hv, (same_list cs ds).mp q⟩
  · exact Or.inr ⟨hv, fun e => q ((same_list cs ds).mpr e)⟩
end StrChars.Road
namespace StrChars
open Jvm Sem ClassFile Op Lib Jvm.Stand Jvm.Free.XT Jvm.Free.ALB Jvm.Free.JM Jvm.Free
open Jvm.Lib.Cold (StaticIs)
namespace ChN
def yN : MethodName := ⟨"java/lang/String", "charAt", "(I)C"⟩
abbrev yB : ByteArray := jdk_42_method_56_code
theorem d0 : decode yB 0 = .ok (.aload_n 0, 1) := by decide +kernel
theorem d1 : decode yB 1 = .ok (.invokevirtual 492, 3) := by decide +kernel
theorem d4 : decode yB 4 = .ok (.ifCond (.eq) 12, 3) := by decide +kernel
theorem d7 : decode yB 7 = .ok (.aload_n 0, 1) := by decide +kernel
theorem d8 : decode yB 8 = .ok (.getfield 9, 3) := by decide +kernel
theorem d11 : decode yB 11 = .ok (.iload_n 1, 1) := by decide +kernel
theorem d12 : decode yB 12 = .ok (.invokestatic 495, 3) := by decide +kernel
theorem d15 : decode yB 15 = .ok (.ireturn, 1) := by decide +kernel
def site : List Cond := [.fieldLink "java/lang/String" 9 "java/lang/String" "value" "[B", IsL.tab, LChA.tab] ++ virtW "java/lang/String" 492 "java/lang/String" IsL.yN IsL.yN ++ staticW "java/lang/String" 495 LChA.yN
def tab : Cond := tabOf yN yB 2 (some .char) site
def P (x t : Addr) (V : Cell) (n : Nat) (f : Nat → Int32) (z : Int32) (fm : Value) (i : Nat) (args : Array Value) (s : State) : Prop := args = #[.ref x, .int (Int32.ofNat i)] ∧ Txt x t V 0 n f s ∧ i < n ∧ StaticIs s "java/lang/String" "COMPACT_STRINGS" "Z" (.int z) ∧ ¬ z = 0 ∧ StaticIs s "jdk/internal/util/Preconditions" "SIOOBE_FORMATTER" "Ljava/util/function/BiFunction;" fm ∧ fm.isRef = true
def E (f : Nat → Int32) (i : Nat) (r : Option Value) (s u : State) : Prop := XT.PureE (some (.int (f i))) r s u
/-- charAt(i) of a Latin-1 String of n chars, i < n: f i -/
theorem law (l : Launch) (x t : Addr) (V : Cell) (n : Nat) (f : Nat → Int32) (z : Int32) (fm : Value) (i : Nat) : Law l yN 2 1 3 40 yB 2 (some .char) site (P x t V n f z fm i) (E f i) [] 0 0 := by
  refine Law.of_walk (plainFor_of_name (by decide +kernel)) (by decide +kernel) (by decide +kernel) (by decide) (fun _ _ h => by rw [h.1]; rfl) (fun _ U U' hal hh h => ⟨h.1, h.2.1.mv hal hh, h.2.2.1, h.2.2.2.1.there hal hh, h.2.2.2.2.1, h.2.2.2.2.2.1.there hal hh, h.2.2.2.2.2.2⟩) (fun r U U' V V' h1 hal h2 h => XT.PureE.mv r U U' V V' h1 hal h2 h) ?_
  intro p e s m args below meth c s₁ X0 hexec hbytes hml hret hlk hnm hown hh0 W hP
  obtain ⟨rfl, hx, hi, s1, hz, s3, rf⟩ := hP
  have v31 := hx.2.2.2.1.2.2.2
  have hr := hx.2.2.2.2.2 i hi
  have hx0 := hx.mv X0.warmed.alike hh0
  have c1 : Steps p.tables e below (s₁.setTop (entryFrame m #[.ref x, .int (Int32.ofNat i)] 2)) (s₁.setTop (mkF m 1 #[.val (.ref x), .val (.int (Int32.ofNat i))] [.ref x])) := Steps.trans (entry rfl) (by
    show Steps p.tables e below (s₁.setTop (mkF m 0 #[.val (.ref x), .val (.int (Int32.ofNat i))] [])) _
    refine XS.aloadN X0.here hexec rfl (hb hbytes d0) rfl rfl ?_
    exact Steps.refl _)
  obtain ⟨v2, T2, X2, E2, g2⟩ := X0.callV hexec (IsL.law l x 0 z) hown (wks W (virtW "java/lang/String" 492 "java/lang/String" IsL.yN IsL.yN)) rfl (by decide) (wk W IsL.tab) (W := 0) (Nat.le_of_ble_eq_true rfl) (Nat.le_of_ble_eq_true rfl) (Nat.le_refl _) (Nat.le_refl _) (hx0.1.fc X0.warmed.alike) hx0.1.is (g := (mkF m 1 #[.val (.ref x), .val (.int (Int32.ofNat i))] [.ref x])) rfl (by rw [hml]; rfl) c1 (argsL := []) (rest := []) rfl rfl (by show 2 * 0 + 0 ≤ _; decide) (hb hbytes d1) (⟨rfl, hx0.2.2.1, hx.2.2.2.2.1.cd, s1.there X0.warmed.alike hh0, hz⟩)
  obtain ⟨rfl, q2⟩ := E2
  have hh2 := q2.trans hh0
  have hx2 := hx.mv X2.warmed.alike hh2
  obtain ⟨-, k1, k2⟩ | ⟨k0, -⟩ := hx.2.2.2.2.1
  · have c3 : Steps p.tables e below (s₁.setTop (entryFrame m #[.ref x, .int (Int32.ofNat i)] 2)) (T2.setTop (mkF m 8 #[.val (.ref x), .val (.int (Int32.ofNat i))] [.ref x])) := Steps.trans g2 (by
      refine XS.ifNo X2.here hexec rfl (hb hbytes d4) rfl (i0_eq_f (by decide)) ?_
      refine XS.aloadN X2.here hexec rfl (hb hbytes d7) rfl rfl ?_
      exact Steps.refl _)
    obtain ⟨T4, X4, q4, st4⟩ := X2.hget hexec hown (wk W (.fieldLink "java/lang/String" 9 "java/lang/String" "value" "[B")) hx2.2.1 (g := (mkF m 8 #[.val (.ref x), .val (.int (Int32.ofNat i))] [.ref x])) rfl (rest := []) rfl (hb hbytes d8)
    have hh4 := q4.trans hh2
    have c5 : Steps p.tables e below (s₁.setTop (entryFrame m #[.ref x, .int (Int32.ofNat i)] 2)) (T4.setTop (mkF m 12 #[.val (.ref x), .val (.int (Int32.ofNat i))] [.int (Int32.ofNat i), .ref t])) := (c3.trans (st4 _ (Steps.refl _))).trans (by
      refine XS.iloadN X4.here hexec rfl (hb hbytes d11) rfl ?_
      exact Steps.refl _)
    obtain ⟨v6, T6, X6, E6, g6⟩ := X4.callS hexec (LChA.law l t V i (lo8 (f i)) fm) hown (wks W (staticW "java/lang/String" 495 LChA.yN)) (wk W LChA.tab) (W := 0) (Nat.le_of_ble_eq_true rfl) (Nat.le_of_ble_eq_true rfl) (Nat.le_refl _) (Nat.le_refl _) (g := (mkF m 12 #[.val (.ref x), .val (.int (Int32.ofNat i))] [.int (Int32.ofNat i), .ref t])) rfl (by rw [hml]; rfl) c5 (argsL := [.ref t, .int (Int32.ofNat i)]) (rest := []) rfl rfl (by show 2 * 0 + 0 ≤ _; decide) (hb hbytes d12) (⟨rfl, hx.2.2.2.1.mv X4.warmed.alike hh4, (k2 i hi).1, s3.there X4.warmed.alike hh4, rf⟩)
    obtain ⟨rfl, q6⟩ := E6
    rw [chr8_lo8 hr.1 (k2 i hi).2] at g6
    exact ⟨T6, some (.int (f i)), _, _, _, X6, rfl, rfl, rfl, (fun h => by cases h), ⟨rfl, q6.trans hh4⟩, fun fs hl => Steps.trans g6 (X6.ireturnOut hexec hret (narrow_ch hr.1 hr.2) (Or.inr (Or.inr (Or.inr (Or.inl rfl)))) (hb hbytes d15) hl)⟩
  · exact absurd k0 (by decide)
theorem pays {l : Launch} {R : Room} {p : Program} {e : Env} {below : List Frame} {s : State} {sargs : Array Value} {len W : Nat} (x t : Addr) (V : Cell) (n : Nat) (f : Nat → Int32) (z : Int32) (fm : Value) (i : Nat) (htab : tab.before sargs s = true) (hfr : 4 ≤ R.frames) (hlo : W + 53 ≤ R.locals) :
    Back l R p e below s sargs yN len W (fun A₁ a₁ => A₁.cells + 0 ≤ R.cells ∧ A₁.slots + 0 ≤ R.slots ∧ P x t V n f z fm i a₁ A₁.U) (fun A₁ _ v₁ B₁ => E f i v₁ A₁.U B₁.U ∧ B₁.locs = A₁.locs ++ [] ∧ B₁.cells = A₁.cells + 0 ∧ B₁.slots = A₁.slots + 0) :=
  (law l x t V n f z fm i).pays htab hfr (by omega)
end ChN
end StrChars
namespace StrChars.Road
open Jvm Sem ClassFile Op Lib Jvm.Stand Jvm.Free Jvm.Free.XT
open Jvm.Lib.Cold (StaticIs)
/-- the words of String.charAt(int), the Latin-1 road alone -/
abbrev wordsChN : List Jvm.Cond := [.code ChN.yN ChN.yB 2 (some .char), .initialized ST, .fieldLink ST 9 ST "value" "[B", .fieldLink ST 38 ST "COMPACT_STRINGS" "Z", .fieldLink ST 15 ST "coder" "B", .code IsL.yN IsL.yB 1 (some .boolean), .methodLink ST 492 IsL.yN, .declares IsL.yN, .selects ST IsL.yN IsL.yN, .instanceMethod IsL.yN,
  .methodLink ST 495 LChA.yN, .static LChA.yN, .code LChA.yN LChA.yB 2 (some .char), .initialized "java/lang/StringLatin1", .methodLink "java/lang/StringLatin1" 9 JO.Str_checkIndex.yN, .static JO.Str_checkIndex.yN, .code JO.Str_checkIndex.yN JO.Str_checkIndex.yB 2 none,
  .fieldLink ST 1053 "jdk/internal/util/Preconditions" "SIOOBE_FORMATTER" "Ljava/util/function/BiFunction;", .methodLink ST 1059 JC.PreCheck.yN, .static JC.PreCheck.yN, .code JC.PreCheck.yN JC.PreCheck.yB 3 (some .int), .initialized "jdk/internal/util/Preconditions"]
theorem tabChN_of {a : Array Value} {s : State} (h : ∀ w ∈ wordsChN, w.before a s = true) : ChN.tab.before a s = true := by
  have hp : JC.PreCheck.tab.before a s = true := unparts (wk h (.code JC.PreCheck.yN JC.PreCheck.yB 3 (some .int))) (wks h (.initialized JC.PreCheck.yN.cls :: JC.PreCheck.site))
  have qk := consq hp h
  have hk : JO.Str_checkIndex.tab.before a s = true := unparts (wk qk (.code JO.Str_checkIndex.yN JO.Str_checkIndex.yB 2 none)) (wks qk (.initialized JO.Str_checkIndex.yN.cls :: JO.Str_checkIndex.site))
  have ql := consq hk h
  have hl : LChA.tab.before a s = true := unparts (wk ql (.code LChA.yN LChA.yB 2 (some .char))) (wks ql (.initialized LChA.yN.cls :: LChA.site))
  have hi : IsL.tab.before a s = true := unparts (wk h (.code IsL.yN IsL.yB 1 (some .boolean))) (wks h (.initialized IsL.yN.cls :: IsL.site))
  have q := consq hi (consq hl h)
  exact unparts (wk q (.code ChN.yN ChN.yB 2 (some .char))) (wks q (.initialized ChN.yN.cls :: ChN.site))
theorem movedChN {Z s : State} {a0 args : Array Value} (hZ : Z.Warmed39 s.vm) (hw : ∀ d ∈ wordsChN, d.before a0 Z = true) : ∀ d ∈ wordsChN, d.before args s = true := fun d hd => by
  have t : ∀ d ∈ wordsChN, (d.onTables && d.keepsFace) = true := by decide +kernel
  exact RoadKit.mv hZ (hw d hd) (t d hd)
/-- **charAt(i) OF A LATIN-1 STRING**, i < n: the char -/
theorem chN {p : Program} {l : Launch} {e : Env} {R : Room} {s : State} {args : Array Value} {below : List Frame} {len W : Nat} {Z : State} {a0 : Array Value} {h : Heap} (hZ : Z.Warmed39 s.vm) (hw : ∀ d ∈ wordsChN, d.before a0 Z = true) {kI : Nat} (wi : (Jvm.Cond.instantiable ST kI).before a0 Z = true)
    {x t : Addr} {kb : ClassId} {cs : List Int32} {N2 z : Int32} {vs : List Value} {fm : Value} {i : Nat} {j : Int32} (E : RoadKit.Exa Z h x ST) (V : RoadKit.Fld Z h x ST "value" "[B" (.ref t)) (C : RoadKit.Fld Z h x ST "coder" "B" (.int 0)) (K : RoadKit.Arv Z h t kb .byte N2 vs (.int 0)) (hc : CodA cs 0 N2 vs) (hb : ∀ c ∈ cs, ¬ c < 0 ∧ ¬ (65535 : Int32) < c)
    (S : RoadKit.Sta Z h ST "COMPACT_STRINGS" "Z" (.int z)) (hz : ¬ z = 0) (F : RoadKit.Sta Z h "jdk/internal/util/Preconditions" "SIOOBE_FORMATTER" "Ljava/util/function/BiFunction;" fm) (rf : fm.isRef = true) (l2 : cs.length ≤ 4000) (hi : i < cs.length) (hj : j = Int32.ofNat i) (hfr : 4 ≤ R.frames) (hlo : W + 53 ≤ R.locals) :
    Back l R p e below s args (⟨"java/lang/String", "charAt", "(I)C"⟩ : MethodName) len W (fun P a => a = #[.ref x, .int j] ∧ P.U.heap = h ∧ P.cells + 0 ≤ R.cells ∧ P.slots + 0 ≤ R.slots)
      (fun P _ v B => ∃ L, (v = some (.int (cs.getD i 0)) ∧ L = [] ∧ B.U.heap = h) ∧ B.locs = P.locs ++ L ∧ B.cells = P.cells + 0 ∧ B.slots = P.slots + 0) := by
  subst hj
  intro m meth c P g ig mk a X hg hsize hdg hW hn hp'
  obtain ⟨rfl, rfl, r1, r2⟩ := hp'
  have al : Z.vm.Alike P.U.vm := hZ.alike.trans X.warmed.alike
  obtain ⟨A, hx⟩ := txt_of wi al E V C K hc hb l2
  obtain ⟨v, B, X', ⟨⟨hv, hh⟩, hl, hk, hs⟩, st⟩ := ChN.pays x t A cs.length (fun j => cs.getD j 0) z fm i (tabChN_of (movedChN hZ hw)) hfr hlo m meth c P g ig mk _ X hg hsize hdg hW hn ⟨r1, r2, rfl, hx, hi, sta_is al S, hz, sta_is al F, rf⟩
  exact ⟨v, B, X', ⟨[], ⟨hv, rfl, hh⟩, hl, hk, hs⟩, st⟩
end StrChars.Road
end Jvm.Pilot.@@N@@
namespace Jvm.Pilot.@@N@@
open Jvm Jvm.ClassFile Sem Op Lib Jvm.Free Jvm.Stand Jvm.LawKit Jvm.RoadKit Bundle Jvm.Pilot.@@N@@.Jvm.D
section OwnRun
variable {p : Program} {l : Launch} {e : Env} {R : Room} {s : State} {m : MethodId} {args : Array Value} {below : List Frame} {meth : Method} {c : Code} {T : State} {locs : List Loc} {cells slots : Nat}
/-- from S the run comes to its end, and there Q holds -/
def Run (p : Program) (e : Env) (below : List Frame) (Q : State → Outcome → Prop) (S : State) : Prop := ∃ s₂ o, Steps p.tables e below S s₂ ∧ s₂.status = .running ∧ Ended s₂ below o ∧ Q s₂ o
def Ends (s : State) (Qb : Option Value → Heap → List Loc → Prop) (C S : Nat) : State → Outcome → Prop := fun s₂ o => ∃ v L, o = .returned v ∧ Qb v s₂.heap L ∧ FrameEnd s o s₂ L C S
theorem Run.st {Q : State → Outcome → Prop} {S S' : State} (h : ∀ t, Steps p.tables e below S' t → Steps p.tables e below S t) (r : Run p e below Q S') : Run p e below Q S := by
  obtain ⟨a, b, c, d⟩ := r
  exact ⟨a, b, h _ c, d⟩
theorem Run.out (X : Stand p l e R s m args below meth c T locs cells slots) (hx : p.tables.exec = Jvm.exec) {Qb : Option Value → Heap → List Loc → Prop} {C S : Nat} {pc : Nat} {Ls : Array Slot} {w : Value} {t : FieldType} {i : Instr} {rest : List Value} (hlocks : meth.locks = false) (hret : meth.sig.returnType = some t) (hn : narrow t w = w)
    (hi : (i = .ireturn ∧ (t = .int ∨ t = .boolean ∨ t = .byte ∨ t = .char ∨ t = .short) ∧ ∃ z, w = .int z) ∨ (i = .lreturn ∧ t = .long ∧ ∃ z, w = .long z) ∨ (i = .dreturn ∧ t = .double ∧ ∃ z, w = .double z) ∨ (i = .freturn ∧ t = .float ∧ ∃ z, w = .float z) ∨ (i = .areturn ∧ t.isReference = true ∧ w.isRef = true))
    (hd : decode c.code pc = .ok (i, 1)) (hC : cells ≤ C) (hS : slots ≤ S) (hq : Qb (some w) T.heap locs) : Run p e below (Ends s Qb C S) (T.setTop (mkF m pc Ls (w :: rest))) := by
  obtain ⟨fs, hr, hrun, hended, hW, hsame⟩ := X.leave (v := some w) (fun h => by rw [hret] at h; cases h) hlocks
  exact ⟨_, _, retOut X hx hret hn hi hd hr, hrun, hended, _, _, rfl, hq, ⟨_, rfl⟩, hW, hsame.mono hC hS⟩
theorem Run.outV (X : Stand p l e R s m args below meth c T locs cells slots) (hx : p.tables.exec = Jvm.exec) {Qb : Option Value → Heap → List Loc → Prop} {C S : Nat} {pc : Nat} {Ls : Array Slot} (hlocks : meth.locks = false) (hret : meth.sig.returnType = none)
    (hd : decode c.code pc = .ok (.return_, 1)) (hC : cells ≤ C) (hS : slots ≤ S) (hq : Qb none T.heap locs) : Run p e below (Ends s Qb C S) (T.setTop (mkF m pc Ls [])) := by
  obtain ⟨fs, hr, hrun, hended, hW, hsame⟩ := X.leave (v := none) (fun _ => rfl) hlocks
  exact ⟨_, _, X.returnOut hx hret hd hr, hrun, hended, _, _, rfl, hq, ⟨_, rfl⟩, hW, hsame.mono hC hS⟩
theorem lcYes {cd : ClassFile.Cond} {x y : Int64} {b : Bool} (h : ifCond.holds cd (Jvm.Free.XT.cmpL x y) = b) : ifCond.holds cd (lcmpW x y) = b := h
theorem nb01 {P : Prop} [Decidable P] : narrow .boolean (.int (if P then (1 : Int32) else (0 : Int32))) = .int (if P then (1 : Int32) else (0 : Int32)) := by split <;> rfl
theorem staK {Z : State} {h h' : Heap} {C n d : String} {v : Value} {ws : List Addr} (F : Sta Z h C n d v) (K : Keep h h' ws) (q : ∀ x ∈ ws, ∀ c : Cell, h[x]? = some c → c.vm.isStatics = false) : Sta Z h' C n d v := by
  obtain ⟨cf, i, k, f, st, cell, h1, h2, h3, h4, h5, h6, h7⟩ := F
  refine ⟨cf, i, k, f, st, cell, h1, h2, h3, h4, K.2.1 st cell h5 (fun m => ?_), h6, h7⟩
  have := q st m cell h5
  rw [h6] at this
  cases this
theorem exaP {Z : State} {h : Heap} {a : Addr} {C : String} (E : Exa Z h a C) : ∀ c : Cell, h[a]? = some c → c.vm.isStatics = false := fun c hc => by
  obtain ⟨cell, k, h1, -, -, h4, -⟩ := E
  cases h1.symm.trans hc
  exact h4
theorem arvP {Z : State} {h : Heap} {a : Addr} {k : ClassId} {ty : FieldType} {n : Int32} {vs : List Value} {d : Value} (E : Arv Z h a k ty n vs d) : ∀ c : Cell, h[a]? = some c → c.vm.isStatics = false := fun c hc => by
  obtain ⟨cell, A, -⟩ := E
  cases A.1.symm.trans hc
  exact A.plain
theorem selSelf {s : State} {args : Array Value} {y : MethodName} {n : Nat} (wi : (Jvm.Cond.instantiable y.cls n).before args s = true) (hp : s.PrivateAt y) (hi : (Jvm.Cond.instanceMethod y).before args s = true) (hy : y.cls ≠ "java/lang/invoke/MethodHandle" ∧ y.cls ≠ "java/lang/invoke/VarHandle") : (Jvm.Cond.selects y.cls y y).before args s = true := by
  obtain ⟨c, k, h1, h2, -, h4, -⟩ := Cond.instantiable_spec wi
  rw [Bool.or_eq_false_iff] at h4
  exact selects_self_of_private h1 h2 h4.1 hp hi hy
theorem own_lsw {tb : Tables} [Ours tb] {e : Env} {below : List Frame} {T target : State} {m : MethodId} {c : Code} {g : JFrame} (h : At T m c below) (hx : tb.exec = Jvm.exec) (hg : g.method = m) {dflt : Int} {ps : Array (Int × Int)} {len : Nat} {o : Int} {pc0 pc' : Nat} (hpc : g.pc = pc0) (hd : decode c.code g.pc = .ok (.lookupswitch dflt ps, len)) {i : Int32} {rest : List Value} (hs : g.stack = .int i :: rest)
    (hsort : ∀ q ∈ ps.toList.zip ps.toList.tail, q.1.1 < q.2.1) (hoff : lookupswitch.offset ps.toList dflt i.toInt = o) (ho : 0 ≤ (pc0 : Int) + o) (hp : ((pc0 : Int) + o).toNat = pc')
    (hr : Steps tb e below (T.setTop { g with pc := pc', stack := rest }) target) : Steps tb e below (T.setTop g) target := by
  subst hg hpc hp
  jvm_step h [h.top, hx, hd, hs, hoff, ho, lookupswitch.wp_chain]
  exact ⟨fun a b a1 b1 q => hsort _ q, hr⟩
theorem own_dupX2 {tb : Tables} [Ours tb] {e : Env} {below : List Frame} {T target : State} {m : MethodId} {c : Code} {g : JFrame} (h : At T m c below) (hx : tb.exec = Jvm.exec) (hg : g.method = m) {x y z : Value} {rest : List Value} (hd : decode c.code g.pc = .ok (.dup_x2, 1)) (hs : g.stack = x :: y :: z :: rest) (hc : x.category = 1) (hc' : y.category = 1) (hc'' : z.category = 1)
    (hr : Steps tb e below (T.setTop { g with pc := g.pc + 1, stack := x :: y :: z :: x :: rest }) target) : Steps tb e below (T.setTop g) target := by
  subst hg
  jvm_step h [h.top, hx, hd, hs, hc, hc', hc'']
  exact hr
theorem ord_v {args : Array Value} {s : State} {t : Term} {C n d : String} {k : Int32} {a : Addr} (ht : t.eval args s none [] s = some (.ref a)) (h : (Jvm.Cond.eq (.field t C n d) (.int k)).value args s none s [] = some true) : Fld s s.heap a C n d (.int k) := by
  refine Fld.start ?_
  rw [← fld_at (C := C) (n := n) (dd := d) ht]
  simp only [Cond.value] at h
  cases hv : (Term.field t C n d).eval args s none [] s with
  | none => simp [hv] at h
  | some v => cases v <;> simp_all [Term.eval]
theorem arr_len {args : Array Value} {s : State} {t : Term} {a : Addr} {cl : Cell} {ty : FieldType} {n : Int32} (ht : t.eval args s none [] s = some (.ref a)) (A : Arr s s.heap a cl ty) (h : (Jvm.Cond.eq (.length t) (.int n)).value args s none s [] = some true) : cl.slots.size < 2 ^ 31 ∧ cl.slots.size.toInt32 = n := by
  have ha := A.fin (Vm.Alike.refl s.vm)
  by_cases q : cl.slots.size < 2 ^ 31
  · refine ⟨q, ?_⟩
    have e := len_f ht ha q
    have e2 : (Term.int n).eval args s none [] s = some (.int n) := rfl
    simp only [Cond.value, e, e2] at h
    simpa using h
  · simp [Cond.value, Term.eval, ht, ha, q] at h
theorem arr_elR {args : Array Value} {s : State} {t u : Term} {a b : Addr} {cl : Cell} {ty : FieldType} {j : Int32} (ht : t.eval args s none [] s = some (.ref a)) (A : Arr s s.heap a cl ty) (h : (Jvm.Cond.eq (.elem t (.int j)) u).value args s none s [] = some true) (hu : u.eval args s none [] s = some (.ref b)) (hj : ¬ j < 0) : cl.slots[j.toNatClampNeg]? = some (.ref b) := by
  have ha := A.fin (Vm.Alike.refl s.vm)
  have e : (Term.elem t (.int j)).eval args s none [] s = cl.slots[j.toNatClampNeg]? := elem_f ht rfl ha hj
  simp only [Cond.value, hu, e] at h
  cases hv : cl.slots[j.toNatClampNeg]? with
  | none => simp [hv] at h
  | some v => cases v <;> simp_all
theorem arr_elI {args : Array Value} {s : State} {t : Term} {a : Addr} {cl : Cell} {ty : FieldType} {j k : Int32} (ht : t.eval args s none [] s = some (.ref a)) (A : Arr s s.heap a cl ty) (h : (Jvm.Cond.eq (.elem t (.int j)) (.int k)).value args s none s [] = some true) (hj : ¬ j < 0) : cl.slots[j.toNatClampNeg]? = some (.int k) := by
  have ha := A.fin (Vm.Alike.refl s.vm)
  have e : (Term.elem t (.int j)).eval args s none [] s = cl.slots[j.toNatClampNeg]? := elem_f ht rfl ha hj
  have e2 : (Term.int k).eval args s none [] s = some (.int k) := rfl
  simp only [Cond.value, e, e2] at h
  cases hv : cl.slots[j.toNatClampNeg]? with
  | none => simp [hv] at h
  | some v => cases v <;> simp_all
theorem own_get (vs : List Int32) (j : Nat) : (vs.map Value.int).getD j (.int (0 : Int32)) = .int (vs.getD j 0) := by
  simp only [List.getD_eq_getElem?_getD, List.getElem?_map]
  cases vs[j]? <;> rfl
theorem own_set (vs : List Int32) (j : Nat) (x : Int32) : (vs.map Value.int).set j (.int x) = (vs.set j x).map Value.int := by
  rw [List.map_set]
theorem own_ltm {vs : List Int32} {j : Nat} (h : j < vs.length) : j < (vs.map Value.int).length := by rw [List.length_map]; exact h
/-- where a run stands with this heap, whatever it has written among the new cells -/
def Good (p : Program) (l : Launch) (e : Env) (R : Room) (s : State) (m : MethodId) (args : Array Value) (below : List Frame) (meth : Method) (c : Code) (n0 cells slots : Nat) (H : Heap) (T : State) : Prop := ∃ locs, Stand p l e R s m args below meth c T locs cells slots ∧ Fr n0 locs ∧ T.heap = H
theorem inb32 {j z : Int32} {n : Int} (hz : z.toInt = n) (h0 : 0 ≤ j.toInt) (h1 : j.toInt < n) : ¬ j < 0 ∧ j < z := by
  rw [Int32.lt_iff_toInt_lt, Int32.lt_iff_toInt_lt, hz]
  have : (0 : Int32).toInt = 0 := by decide
  omega
theorem own_nn {n : Int32} (h : 0 ≤ n.toInt) : ¬ n < 0 := by
  rw [Int32.lt_iff_toInt_lt]
  have : (0 : Int32).toInt = 0 := by decide
  omega
theorem own_cap {n : Int32} {c : Nat} (h : n.toInt < (c : Int) + 1) : n.toNatClampNeg ≤ c := by
  simp only [Int32.toNatClampNeg]
  omega
theorem own_fin (x : Int32) (n : Nat) (hn : n < 2147483648) (h0 : 0 ≤ x.toInt) (h1 : x.toInt < n) : ∃ i : Fin n, x = Int32.ofNat i.1 := by
  refine ⟨⟨x.toInt.toNat, by omega⟩, Int32.toInt_inj.mp ?_⟩
  show x.toInt = (Int32.ofNat x.toInt.toNat).toInt
  rw [Int32.toInt_ofNat_small (by omega)]
  omega
def own_pl (x : Slot) : Prop := match x with | .second => False | .val y => y.category = 1 | .unset => True
theorem own_stl {ls ls' : Array Slot} {i : Nat} {x : Slot} {v : Value} (hx : ls[i]? = some x) (hv : v.category = 1) (h : own_pl x) (e : ls.setIfInBounds i (.val v) = ls' := by rfl) : storeLocals ls i v = some ls' := by
  subst e; refine storeLocals_cat1 hx hv ?_
  cases x with
  | second => exact h
  | unset => trivial
  | val y => exact h
theorem own_cat {v : Value} (h : v.isRef = true) : v.category = 1 := by
  rcases ref_cases h with rfl | ⟨_, rfl⟩ <;> rfl
end OwnRun
theorem hwi {aV : Array Value} {Z : State} (hw : ∀ d ∈ tables_1, d.before aV Z = true) (i : Nat) {d : Jvm.Cond} (e : tables_1[i]? = some d) : d.before aV Z = true := hw _ (List.mem_of_getElem? e)
abbrev own_bs (cs : List Int32) : List Int32 := cs.map (fun c => c.toInt8.toInt32)
def own_L1 (cs : List Int32) : Prop := (∀ c ∈ cs, ¬ c < 0 ∧ ¬ (255 : Int32) < c) ∧ cs.length ≤ 4000
section OwnWide
variable {p : Program} {l : Launch} {e : Env} {R : Room} {s : State} {m : MethodId} {args : Array Value} {below : List Frame} {meth : Method} {c : Code} {T : State} {locs : List Loc} {cells slots : Nat} {Z : State}
def EndsW (Z s : State) (Qb : Option Value → Heap → List Loc → Prop) (C S : Nat) : State → Outcome → Prop := fun s₂ o => ∃ v L, o = .returned v ∧ Qb v s₂.heap L ∧ CHr Z consts_1 s.vm s.heap s₂.vm s₂.heap ∧ ReturnedEndW s o s₂ L C S
theorem Run.outW {vm₁ : Vm} (X : Stand p l e R (s.setVm vm₁) m args below meth c T locs cells slots) (hx : p.tables.exec = Jvm.exec) {n : Nat} (hSn : s.Since vm₁ n) (hnn : n ≤ T.heap.size) (CR : CHr Z consts_1 s.vm s.heap T.vm T.heap) {Qb : Option Value → Heap → List Loc → Prop} {C S : Nat} {pc : Nat} {Ls : Array Slot} {w : Value} {t : FieldType} {i : Instr} {rest : List Value} (hlocks : meth.locks = false) (hret : meth.sig.returnType = some t) (hn : narrow t w = w)
    (hi : (i = .ireturn ∧ (t = .int ∨ t = .boolean ∨ t = .byte ∨ t = .char ∨ t = .short) ∧ ∃ z, w = .int z) ∨ (i = .lreturn ∧ t = .long ∧ ∃ z, w = .long z) ∨ (i = .dreturn ∧ t = .double ∧ ∃ z, w = .double z) ∨ (i = .freturn ∧ t = .float ∧ ∃ z, w = .float z) ∨ (i = .areturn ∧ t.isReference = true ∧ w.isRef = true))
    (hd : decode c.code pc = .ok (i, 1)) (hC : cells ≤ C) (hS : slots ≤ S) (hq : Qb (some w) T.heap locs) : Run p e below (EndsW Z s Qb C S) (T.setTop (mkF m pc Ls (w :: rest))) := by
  obtain ⟨fs, hr, hrun, hended, r1, r2, r3, r4⟩ := X.leaveW hSn hnn (v := some w) (fun h => by rw [hret] at h; cases h) hlocks
  exact ⟨_, _, retOut X hx hret hn hi hd hr, hrun, hended, _, _, rfl, hq, CR, r1, r2, r3, r4.mono hC hS⟩
theorem Run.outVW {vm₁ : Vm} (X : Stand p l e R (s.setVm vm₁) m args below meth c T locs cells slots) (hx : p.tables.exec = Jvm.exec) {n : Nat} (hSn : s.Since vm₁ n) (hnn : n ≤ T.heap.size) (CR : CHr Z consts_1 s.vm s.heap T.vm T.heap) {Qb : Option Value → Heap → List Loc → Prop} {C S : Nat} {pc : Nat} {Ls : Array Slot} (hlocks : meth.locks = false) (hret : meth.sig.returnType = none)
    (hd : decode c.code pc = .ok (.return_, 1)) (hC : cells ≤ C) (hS : slots ≤ S) (hq : Qb none T.heap locs) : Run p e below (EndsW Z s Qb C S) (T.setTop (mkF m pc Ls [])) := by
  obtain ⟨fs, hr, hrun, hended, r1, r2, r3, r4⟩ := X.leaveW hSn hnn (v := none) (fun _ => rfl) hlocks
  exact ⟨_, _, X.returnOut hx hret hd hr, hrun, hended, _, _, rfl, hq, CR, r1, r2, r3, r4.mono hC hS⟩
/-- 'Good' for a walk that may load constants -/
def GoodW (p : Program) (l : Launch) (e : Env) (R : Room) (s : State) (m : MethodId) (args : Array Value) (below : List Frame) (meth : Method) (c : Code) (n0 cells slots : Nat) (own : String) (Z : State) (h0 H : Heap) (T : State) : Prop :=
  ∃ (vm₁ : Vm) (k : Nat) (locs : List Loc), Stand p l e R (s.setVm vm₁) m args below meth c T locs cells slots ∧ Fr n0 locs ∧ T.heap = H ∧ s.Since vm₁ k ∧ k ≤ H.size ∧ Z.Warmed39 (s.setVm vm₁).vm ∧ (s.setVm vm₁).vm.findClass own = some m.cls ∧ CHr Z consts_1 s.vm h0 vm₁ H
/-- a String whose value is still null is no booked one -/
theorem own_safeN {EL : List (String × Nat)} {vm : Vm} {h : Heap} {x : Addr} (hal : Z.vm.Alike vm) (E : Exa Z h x "java/lang/String") (F : Fld Z h x "java/lang/String" "value" "[B" .null) : Safe Z EL vm h x := fun B => by
  obtain ⟨pp, -, u, a, -, q, -, G, hor⟩ := B
  rcases hor with rfl | rfl
  · have G1 := G.ha
    obtain ⟨cS, ⟨⟨-, -, -, ⟨cv, kv, iv, g4, -⟩, -, -, -, g8, -⟩, -⟩, -⟩ := G
    obtain ⟨cell, cf, k, i, f, f1, f2, f3, f4, f5, f6, f7⟩ := F
    cases (show h[q.sa]? = some q.sC from G1).symm.trans f1
    obtain ⟨k2, e1, -⟩ := State.fieldFound?_setVm (s := { Z with heap := h }) hal (show ({ Z with heap := h } : State).fieldFound? _ _ _ = _ from f2)
    have e2 := (show (Wst Z vm h).fieldFound? _ _ _ = _ from e1).symm.trans g4
    simp only [Option.some.injEq, Prod.mk.injEq] at e2
    rw [← e2.2.2.2, f7] at g8
    simp at g8
  · obtain ⟨cell, k, e1, e2, e3, -, -⟩ := E
    cases (show h[q.sd]? = some q.SA from G.hd).symm.trans e1
    obtain ⟨cS, -, -, f, -⟩ := G
    have f : vm.findClass "[B" = some q.SA.cls := f
    rw [hal.findClass] at f
    obtain ⟨k1, q1, q2⟩ := Vm.findClass_spec f
    obtain ⟨k2, q3, q4⟩ := Vm.findClass_spec e2
    cases q1.symm.trans q3
    exact absurd (q2.symm.trans q4) (by decide)
theorem own_safeA {EL : List (String × Nat)} {vm : Vm} {h : Heap} {x : Addr} {k : ClassId} {ty : FieldType} {n : Int32} {vs : List Value} {d : Value} (hal : Z.vm.Alike vm) (A : Arv Z h x k ty n vs d) (ht : ty ≠ .byte) : Safe Z EL vm h x := by
  obtain ⟨cl, A, -⟩ := A
  exact Safe.arr hal A ht
end OwnWide
def own_lit0 : List Int32 := []
theorem own_lit0_t : (∀ c ∈ ("" : String).toList, c.toNat < 256) ∧ ("" : String).toList.map (fun c => Value.int (Jvm.Lit.byteI c.toNat.toUInt16)) = (own_bs own_lit0).map Value.int := ⟨by decide, by first | rfl | decide +kernel⟩
theorem own_lit0_L1 : own_L1 own_lit0 := ⟨by decide, by decide⟩
def own_lit1 : List Int32 := [69, 110, 100]
theorem own_lit1_t : (∀ c ∈ ("End" : String).toList, c.toNat < 256) ∧ ("End" : String).toList.map (fun c => Value.int (Jvm.Lit.byteI c.toNat.toUInt16)) = (own_bs own_lit1).map Value.int := ⟨by decide, by first | rfl | decide +kernel⟩
theorem own_lit1_L1 : own_L1 own_lit1 := ⟨by decide, by decide⟩
def own_lit2 : List Int32 := [77, 117, 116, 97, 116, 105, 111, 110]
theorem own_lit2_t : (∀ c ∈ ("Mutation" : String).toList, c.toNat < 256) ∧ ("Mutation" : String).toList.map (fun c => Value.int (Jvm.Lit.byteI c.toNat.toUInt16)) = (own_bs own_lit2).map Value.int := ⟨by decide, by first | rfl | decide +kernel⟩
theorem own_lit2_L1 : own_L1 own_lit2 := ⟨by decide, by decide⟩
def own_lit3 : List Int32 := [67, 114, 101, 97, 116, 105, 111, 110]
theorem own_lit3_t : (∀ c ∈ ("Creation" : String).toList, c.toNat < 256) ∧ ("Creation" : String).toList.map (fun c => Value.int (Jvm.Lit.byteI c.toNat.toUInt16)) = (own_bs own_lit3).map Value.int := ⟨by decide, by first | rfl | decide +kernel⟩
theorem own_lit3_L1 : own_L1 own_lit3 := ⟨by decide, by decide⟩
def own_lit4 : List Int32 := []
theorem own_lit4_t : (∀ c ∈ ("" : String).toList, c.toNat < 256) ∧ ("" : String).toList.map (fun c => Value.int (Jvm.Lit.byteI c.toNat.toUInt16)) = (own_bs own_lit4).map Value.int := ⟨by decide, by first | rfl | decide +kernel⟩
theorem own_lit4_L1 : own_L1 own_lit4 := ⟨by decide, by decide⟩
theorem own_EW {aV : Array Value} {Z : State} (hw : ∀ d ∈ tables_1, d.before aV Z = true) : EW Z aV consts_1 := (EW.cons (own := "java/lang/String") (index := 7) (text := "") (hwi hw 106 rfl) (by decide) (EW.cons (own := "org/succession/KindOfPinLaw") (index := 19) (text := "Creation") (hwi hw 0 rfl) (by decide) (EW.cons (own := "org/succession/KindOfPinLaw") (index := 21) (text := "Mutation") (hwi hw 103 rfl) (by decide) (EW.cons (own := "org/succession/KindOfPinLaw") (index := 23) (text := "End") (hwi hw 104 rfl) (by decide) (EW.cons (own := "org/succession/KindOfPinLaw") (index := 25) (text := "") (hwi hw 107 rfl) (by decide) EW.nil)))))
theorem own_wS {aV : Array Value} {Z : State} (hw : ∀ d ∈ tables_1, d.before aV Z = true) : ∀ a ∈ Bundle.stringAtoms, a.before aV Z = true := fun d hd => hw d ((by decide +kernel : ∀ d ∈ Bundle.stringAtoms, d ∈ tables_1) d hd)
section OwnStr
open Jvm.Pilot.@@N@@.StrChars.Road
theorem own_cod {cs : List Int32} (h : own_L1 cs) : CodA cs 0 (Int32.ofNat cs.length) ((own_bs cs).map Value.int) := Or.inl ⟨rfl, rfl, by rw [own_bs, List.map_map]; rfl, fun c hc => (h.1 c hc).2⟩
theorem own_b16 {cs : List Int32} (h : own_L1 cs) : ∀ c ∈ cs, ¬ c < 0 ∧ ¬ (65535 : Int32) < c := fun c hc => ⟨(h.1 c hc).1, fun q => (h.1 c hc).2 (by
  rw [Int32.lt_iff_toInt_lt] at q ⊢
  have e1 : (65535 : Int32).toInt = 65535 := by decide
  have e2 : (255 : Int32).toInt = 255 := by decide
  omega)⟩
theorem own_ofN {j : Int32} (h0 : ¬ j < 0) : j = Int32.ofNat j.toNatClampNeg := by
  apply Int32.toInt_inj.mp
  rw [Int32.lt_iff_toInt_lt] at h0
  have e0 : (0 : Int32).toInt = 0 := by decide
  have := j.toInt_lt
  simp only [Int32.toNatClampNeg]
  rw [Int32.toInt_ofNat_small (by omega)]
  omega
theorem own_eqM {P A : Prop} [Decidable P] {v : Option Value} (hP : P ↔ A) (h : (v = some (.int 1) ∧ A) ∨ (v = some (.int 0) ∧ ¬ A)) : v = some (.int (if P then (1 : Int32) else (0 : Int32))) := by
  rcases h with ⟨e, q⟩ | ⟨e, q⟩
  · rw [if_pos (hP.mpr q)]; exact e
  · rw [if_neg (fun z => q (hP.mp z))]; exact e
theorem own_eqB {p : Program} {l : Launch} {e : Env} {R : Room} {s : State} {args : Array Value} {below : List Frame} {len W n0 : Nat} {Z : State} {a0 : Array Value} {h : Heap} (hw : ∀ d ∈ tables_1, d.before a0 Z = true) (hZ : Z.Warmed39 s.vm)
    {x t : Addr} {kb : ClassId} {cs : List Int32} (E : Exa Z h x ST) (V : Fld Z h x ST "value" "[B" (.ref t)) (C : Fld Z h x ST "coder" "B" (.int 0)) (K : Arv Z h t kb .byte (Int32.ofNat cs.length) ((own_bs cs).map Value.int) (.int 0)) (hL : own_L1 cs)
    {y t' : Addr} {kb' : ClassId} {ds : List Int32} (E' : Exa Z h y ST) (V' : Fld Z h y ST "value" "[B" (.ref t')) (C' : Fld Z h y ST "coder" "B" (.int 0)) (K' : Arv Z h t' kb' .byte (Int32.ofNat ds.length) ((own_bs ds).map Value.int) (.int 0)) (hL' : own_L1 ds)
    {z : Int32} (S : Sta Z h ST "COMPACT_STRINGS" "Z" (.int z)) (hz : ¬ z = 0) (hfr : 2 ≤ R.frames) (hlo : W + 28 ≤ R.locals) {P : Prop} [Decidable P] (hP : P ↔ cs = ds) :
    Back l R p e below s args (⟨"java/lang/String", "equals", "(Ljava/lang/Object;)Z"⟩ : MethodName) len W (fun A a => a = #[.ref x, .ref y] ∧ A.U.heap = h ∧ A.cells + 0 ≤ R.cells ∧ A.slots + 0 ≤ R.slots)
      (fun A _ v B => ∃ L, (v = some (.int (if P then (1 : Int32) else (0 : Int32))) ∧ Fr n0 L ∧ B.U.heap = h) ∧ B.locs = A.locs ++ L ∧ B.cells = A.cells + 0 ∧ B.slots = A.slots + 0) :=
  Back.mono (eqW (W := W) hZ (fun d hd => hw d ((by decide +kernel : ∀ d ∈ wordsEq, d ∈ tables_1) d hd)) (kI := 4) (own_wS hw _ (by simp [Bundle.stringAtoms, Bundle.sN])) E V C K (own_cod hL) (own_b16 hL) hL.2 E' V' C' K' (own_cod hL') (own_b16 hL') hL'.2 S hz hfr hlo) (fun _ _ q => q)
    (fun A a v B _ q => by
      obtain ⟨L, ⟨q1, q2, q3⟩, r⟩ := q
      exact ⟨L, ⟨own_eqM hP q1, by subst q2; exact Fr.nil n0, q3⟩, r⟩)
theorem own_chB {p : Program} {l : Launch} {e : Env} {R : Room} {s : State} {args : Array Value} {below : List Frame} {len W n0 : Nat} {Z : State} {a0 : Array Value} {h : Heap} (hw : ∀ d ∈ tables_1, d.before a0 Z = true) (hZ : Z.Warmed39 s.vm)
    {x t : Addr} {kb : ClassId} {cs : List Int32} (E : Exa Z h x ST) (V : Fld Z h x ST "value" "[B" (.ref t)) (C : Fld Z h x ST "coder" "B" (.int 0)) (K : Arv Z h t kb .byte (Int32.ofNat cs.length) ((own_bs cs).map Value.int) (.int 0)) (hL : own_L1 cs)
    {z : Int32} (S : Sta Z h ST "COMPACT_STRINGS" "Z" (.int z)) (hz : ¬ z = 0) {fm : Value} (F : Sta Z h "jdk/internal/util/Preconditions" "SIOOBE_FORMATTER" "Ljava/util/function/BiFunction;" fm) (rf : fm.isRef = true) {j : Int32} (h0 : ¬ j < 0) (hj : j.toNatClampNeg < cs.length) (hfr : 4 ≤ R.frames) (hlo : W + 53 ≤ R.locals) :
    Back l R p e below s args (⟨"java/lang/String", "charAt", "(I)C"⟩ : MethodName) len W (fun A a => a = #[.ref x, .int j] ∧ A.U.heap = h ∧ A.cells + 0 ≤ R.cells ∧ A.slots + 0 ≤ R.slots)
      (fun A _ v B => ∃ L, (v = some (.int (cs.getD j.toNatClampNeg 0)) ∧ Fr n0 L ∧ B.U.heap = h) ∧ B.locs = A.locs ++ L ∧ B.cells = A.cells + 0 ∧ B.slots = A.slots + 0) :=
  Back.mono (chN (W := W) hZ (fun d hd => hw d ((by decide +kernel : ∀ d ∈ wordsChN, d ∈ tables_1) d hd)) (kI := 4) (own_wS hw _ (by simp [Bundle.stringAtoms, Bundle.sN])) E V C K (own_cod hL) (own_b16 hL) S hz F rf hL.2 hj (own_ofN h0) hfr hlo) (fun _ _ q => q)
    (fun A a v B _ q => by
      obtain ⟨L, ⟨q1, q2, q3⟩, r⟩ := q
      exact ⟨L, ⟨q1, by subst q2; exact Fr.nil n0, q3⟩, r⟩)
theorem own_lenB {p : Program} {l : Launch} {e : Env} {R : Room} {s : State} {args : Array Value} {below : List Frame} {len W n0 : Nat} {Z : State} {a0 : Array Value} {h : Heap} (hw : ∀ d ∈ tables_1, d.before a0 Z = true) (hZ : Z.Warmed39 s.vm)
    {x t : Addr} {kb : ClassId} {cs : List Int32} (E : Exa Z h x ST) (V : Fld Z h x ST "value" "[B" (.ref t)) (C : Fld Z h x ST "coder" "B" (.int 0)) (K : Arv Z h t kb .byte (Int32.ofNat cs.length) ((own_bs cs).map Value.int) (.int 0)) (hL : own_L1 cs)
    {z : Int32} (S : Sta Z h ST "COMPACT_STRINGS" "Z" (.int z)) (hz : ¬ z = 0) (hfr : 2 ≤ R.frames) (hlo : W + 25 ≤ R.locals) :
    Back l R p e below s args (⟨"java/lang/String", "length", "()I"⟩ : MethodName) len W (fun A a => a = #[.ref x] ∧ A.U.heap = h ∧ A.cells + 0 ≤ R.cells ∧ A.slots + 0 ≤ R.slots)
      (fun A _ v B => ∃ L, (v = some (.int (Int32.ofNat cs.length)) ∧ Fr n0 L ∧ B.U.heap = h) ∧ B.locs = A.locs ++ L ∧ B.cells = A.cells + 0 ∧ B.slots = A.slots + 0) :=
  Back.mono (lenW (W := W) hZ (fun d hd => hw d ((by decide +kernel : ∀ d ∈ wordsLen, d ∈ tables_1) d hd)) (kI := 4) (own_wS hw _ (by simp [Bundle.stringAtoms, Bundle.sN])) E V C K (own_cod hL) (own_b16 hL) S hz hL.2 hfr hlo) (fun _ _ q => q)
    (fun A a v B _ q => by
      obtain ⟨L, ⟨q1, q2, q3⟩, r⟩ := q
      exact ⟨L, ⟨q1, by subst q2; exact Fr.nil n0, q3⟩, r⟩)
def own_QS (Z : State) (x : Addr) (cs : List Int32) (h : Heap) (n0 : Nat) (v : Option Value) (h' : Heap) (L : List Loc) : Prop := v = none ∧ Fr n0 L ∧ Keep h h' [x] ∧ Exa Z h' x "java/lang/String" ∧ Fld Z h' x "java/lang/String" "coder" "B" (.int (0 : Int32)) ∧ ∃ (t : Addr) (kb : ClassId), Fld Z h' x "java/lang/String" "value" "[B" (.ref t) ∧ Arv Z h' t kb .byte (Int32.ofNat cs.length) ((own_bs cs).map Value.int) (.int (0 : Int32))
theorem own_bV {p : Program} {l : Launch} {e : Env} {R : Room} {s : State} {args : Array Value} {below : List Frame} {len W n0 : Nat} {Z : State} {a0 : Array Value} {h : Heap} (hw : ∀ d ∈ tables_1, d.before a0 Z = true) (hZ : Z.Warmed39 s.vm)
    {x b : Addr} {kC : ClassId} {cs : List Int32} {v0 c0 : Value} {z N : Int32} (cap : Nat) (hx0 : n0 ≤ x) (hh0 : n0 ≤ h.size) (E : Exa Z h x ST) (V : Fld Z h x ST "value" "[B" v0) (C : Fld Z h x ST "coder" "B" c0) (K : Arv Z h b kC .char N (cs.map Value.int) (.int (0 : Int32))) (S : Sta Z h ST "COMPACT_STRINGS" "Z" (.int z)) (hz : ¬ z = 0)
    (hN : cs.length = N.toNatClampNeg) (h0 : ¬ N < 0) (hne : ¬ N = 0) (hcap : N.toNatClampNeg ≤ cap) (hL : own_L1 cs) (hfr : 4 ≤ R.frames) (hlo : W + 65 ≤ R.locals) :
    Back l R p e below s args (⟨"java/lang/String", "<init>", "([C)V"⟩ : MethodName) len W (fun A a => a = #[.ref x, .ref b] ∧ A.U.heap = h ∧ A.cells + 1 ≤ R.cells ∧ A.slots + cap ≤ R.slots)
      (fun A _ v B => ∃ L, own_QS Z x cs h n0 v B.U.heap L ∧ B.locs = A.locs ++ L ∧ B.cells = A.cells + 1 ∧ B.slots = A.slots + cap) := by
  have eN : N = Int32.ofNat cs.length := by
    rw [hN]
    apply Int32.toInt_inj.mp
    rw [Int32.lt_iff_toInt_lt] at h0
    have e0 : (0 : Int32).toInt = 0 := by decide
    have := N.toInt_lt
    simp only [Int32.toNatClampNeg]
    rw [Int32.toInt_ofNat_small (by omega)]
    omega
  have l0 : 0 < cs.length := by
    rcases Nat.eq_zero_or_pos cs.length with q | q
    · exact absurd (by rw [eN, q]; rfl) hne
    · exact q
  have B := backV (p := p) (l := l) (e := e) (R := R) (s := s) (args := args) (below := below) (len := len) (W := W) hZ (fun d hd => hw d ((by decide +kernel : ∀ d ∈ words, d ∈ tables_1) d hd)) (kI := 4) (own_wS hw _ (by simp [Bundle.stringAtoms, Bundle.sN])) hx0 hh0 E V C K S hz rfl eN l0 hL.2 hL.1 rfl hfr hlo
  intro m meth c A g ig mk a X hg hsize hdg hW hn hp
  obtain ⟨hp1, hp2, hp3, hp4⟩ := hp
  obtain ⟨v, ⟨BU, Bl, Bc, Bs⟩, X', ⟨L, ⟨q1, q2, q3, q4, q5, t, kb, -, -, -, q9, q10⟩, hl, hc, hs⟩, st⟩ := B m meth c A g ig mk a X hg hsize hdg hW hn ⟨hp1, hp2, hp3, by omega⟩
  dsimp only [Pt.U, Pt.locs, Pt.cells, Pt.slots] at X' q3 q4 q5 q9 q10 hl hc hs st
  exact ⟨v, ⟨BU, Bl, A.cells + 1, A.slots + cap⟩, X'.mono (Nat.le_of_eq hc) (Nat.le_trans (Nat.le_of_eq hs) (Nat.add_le_add_left (by rw [hN]; exact hcap) _)), ⟨L, ⟨q1, q2, q3, q4, q5, t, kb, q9, eN ▸ q10⟩, hl, rfl, rfl⟩, st⟩
theorem own_rep {Z : State} {h : Heap} {a : Addr} {k : ClassId} {n : Int32} (F : Arv Z h a k .char n [] (.int (0 : Int32))) : Arv Z h a k .char n ((List.replicate n.toNatClampNeg (0 : Int32)).map Value.int) (.int (0 : Int32)) := by
  rw [List.map_replicate]
  exact F.pad (by simpa using pad_rep [] (.int (0 : Int32)) n.toNatClampNeg)
theorem own_repL (n : Nat) : ∀ c ∈ List.replicate n (0 : Int32), ¬ c < 0 ∧ ¬ (255 : Int32) < c := fun c hc => by
  rw [List.eq_of_mem_replicate hc]; decide
theorem own_narc {z : Int32} (h : ¬ z < 0 ∧ ¬ (255 : Int32) < z) : nar .char z = z := by
  obtain ⟨h0, h1⟩ := h
  have q : Value.int z.toUInt32.toUInt16.toUInt32.toInt32 = .int z := StrChars.narrow_ch h0 (fun q => h1 (by
    rw [Int32.lt_iff_toInt_lt] at q ⊢
    have e1 : (65535 : Int32).toInt = 65535 := by decide
    have e2 : (255 : Int32).toInt = 255 := by decide
    omega))
  exact Value.int.inj q
theorem own_setR {cs : List Int32} {j : Nat} {z : Int32} (h : ∀ c ∈ cs, ¬ c < 0 ∧ ¬ (255 : Int32) < c) (hz : ¬ z < 0 ∧ ¬ (255 : Int32) < z) : ∀ c ∈ cs.set j (nar .char z), ¬ c < 0 ∧ ¬ (255 : Int32) < c := fun c hc => by
  rw [own_narc hz] at hc
  rcases List.mem_or_eq_of_mem_set hc with q | rfl
  · exact h c q
  · exact hz
theorem own_r255 {z : Int32} (h : 0 ≤ z.toInt ∧ z.toInt < 256) : ¬ z < 0 ∧ ¬ (255 : Int32) < z := by
  rw [Int32.lt_iff_toInt_lt, Int32.lt_iff_toInt_lt]
  have e1 : (0 : Int32).toInt = 0 := by decide
  have e2 : (255 : Int32).toInt = 255 := by decide
  omega
theorem own_nc {z : Int32} (h : ¬ z < 0 ∧ ¬ (255 : Int32) < z) : narrow .char (.int z) = .int z := by
  have q := own_narc h
  exact congrArg Value.int q
theorem own_clt {j n : Int32} (h0 : ¬ j < 0) (h : j < n) : j.toNatClampNeg < n.toNatClampNeg := by
  rw [Int32.lt_iff_toInt_lt] at h0 h
  have e1 : (0 : Int32).toInt = 0 := by decide
  simp only [Int32.toNatClampNeg]
  omega
theorem own_getR {cs : List Int32} (h : own_L1 cs) {j : Nat} (hj : j < cs.length) : ¬ cs.getD j 0 < 0 ∧ ¬ (255 : Int32) < cs.getD j 0 := by
  have e : cs.getD j 0 = cs[j] := by simp [List.getD_eq_getElem?_getD, hj]
  rw [e]; exact h.1 _ (List.getElem_mem _)
theorem own_si {args : Array Value} {s : State} {C n d : String} {k : Int32} (h : (Jvm.Cond.eq (.static C n d) (.int k)).value args s none s [] = some true) : (Term.static C n d).eval args s none [] s = some (.int k) := by
  simp only [Cond.value] at h
  cases hv : (Term.static C n d).eval args s none [] s with
  | none => simp [hv] at h
  | some v => cases v <;> simp_all [Term.eval]
end OwnStr
def own_FK (cs : List Int32) (a b c : Addr) : Value := if own_lit3 = cs then .ref a else if own_lit2 = cs then .ref b else if own_lit1 = cs then .ref c else .null
theorem own_FK_ref (cs : List Int32) (a b c : Addr) : (own_FK cs a b c).isRef = true := by unfold own_FK; (repeat' split) <;> rfl
theorem own_L1_nil : own_L1 ([] : List Int32) := ⟨by decide, by decide⟩
theorem own_cltN {j : Int32} {cs : List Int32} (h0 : ¬ j < 0) (hL : own_L1 cs) (h : j < Int32.ofNat cs.length) : j.toNatClampNeg < cs.length := by
  have q := own_clt h0 h
  have e : (Int32.ofNat cs.length).toNatClampNeg = cs.length := by
    simp only [Int32.toNatClampNeg]
    rw [Int32.toInt_ofNat_small (by have := hL.2; omega)]
    omega
  omega
theorem own_lenR {cs : List Int32} (h : cs.length ≤ 8) : 0 ≤ (Int32.ofNat cs.length).toInt ∧ (Int32.ofNat cs.length).toInt < 10 := by
  rw [Int32.toInt_ofNat_small (by omega)]
  omega
theorem own_idx (a n : Int32) (ha : 0 ≤ a.toInt) (hn : 0 < n.toInt) : 0 ≤ (a % n).toInt ∧ (a % n).toInt < n.toInt := by
  rw [Int32.toInt_mod]
  exact ⟨Int.tmod_nonneg _ ha, Int.tmod_lt_of_pos _ hn⟩
theorem own_pos {n : Int32} (h : (0 : Int32) < n) : 0 < n.toInt := by
  rw [Int32.lt_iff_toInt_lt] at h
  have e : (0 : Int32).toInt = 0 := by decide
  omega
theorem own_inb {j n : Int32} (h : 0 ≤ j.toInt ∧ j.toInt < n.toInt) : ¬ j < 0 ∧ j < n := by
  rw [Int32.lt_iff_toInt_lt, Int32.lt_iff_toInt_lt]
  have e : (0 : Int32).toInt = 0 := by decide
  omega
theorem own_fill (q3 : Int64) (p1 : Int32) : 0 ≤ ((((((q3.toUInt64 >>> (((8 : Int32) * p1) &&& 0x3f).toInt64.toUInt64).toInt64) &&& (255 : Int64)).toInt32).toUInt32.toUInt16.toUInt32.toInt32)).toInt ∧ ((((((q3.toUInt64 >>> (((8 : Int32) * p1) &&& 0x3f).toInt64.toUInt64).toInt64) &&& (255 : Int64)).toInt32).toUInt32.toUInt16.toUInt32.toInt32)).toInt < 256 := (by have := rng32 (((((q3.toUInt64 >>> (((8 : Int32) * p1) &&& 0x3f).toInt64.toUInt64).toInt64) &&& (255 : Int64)).toInt32).toUInt32.toUInt16.toUInt32.toInt32); have := c_i2c ((((q3.toUInt64 >>> (((8 : Int32) * p1) &&& 0x3f).toInt64.toUInt64).toInt64) &&& (255 : Int64)).toInt32); have := rng32 ((((q3.toUInt64 >>> (((8 : Int32) * p1) &&& 0x3f).toInt64.toUInt64).toInt64) &&& (255 : Int64)).toInt32); have := c_l2i (((q3.toUInt64 >>> (((8 : Int32) * p1) &&& 0x3f).toInt64.toUInt64).toInt64) &&& (255 : Int64)); have := rng64 (((q3.toUInt64 >>> (((8 : Int32) * p1) &&& 0x3f).toInt64.toUInt64).toInt64) &&& (255 : Int64)); have := c_maskL ((q3.toUInt64 >>> (((8 : Int32) * p1) &&& 0x3f).toInt64.toUInt64).toInt64) (255 : Int64) 8 (by decide) (by decide); have := rng64 ((q3.toUInt64 >>> (((8 : Int32) * p1) &&& 0x3f).toInt64.toUInt64).toInt64); (try simp only [Int32.lt_iff_toInt_lt, Int64.lt_iff_toInt_lt, Int32.le_iff_toInt_le, Int64.le_iff_toInt_le, ← Int32.toInt_inj, ← Int64.toInt_inj] at  ⊢); omega)
theorem pd_0 : parseMethodDescriptor "()I" = some ⟨[], some .int⟩ := by decide +kernel
theorem pd_1 : parseMethodDescriptor "(I)C" = some ⟨[.int], some .char⟩ := by decide +kernel
theorem d1_0 : decode method_2_code 0 = .ok (.iload_n 1, 1) := by decide +kernel
theorem d1_1 : decode method_2_code 1 = .ok (.aload_n 0, 1) := by decide +kernel
theorem d1_2 : decode method_2_code 2 = .ok (.arraylength, 1) := by decide +kernel
theorem d1_3 : decode method_2_code 3 = .ok (.if_icmp .ge 34, 3) := by decide +kernel
theorem d1_6 : decode method_2_code 6 = .ok (.aload_n 0, 1) := by decide +kernel
theorem d1_7 : decode method_2_code 7 = .ok (.iload_n 1, 1) := by decide +kernel
theorem d1_8 : decode method_2_code 8 = .ok (.iload_n 1, 1) := by decide +kernel
theorem d1_9 : decode method_2_code 9 = .ok (.aload_n 2, 1) := by decide +kernel
theorem d1_10 : decode method_2_code 10 = .ok (.invokevirtual 7, 3) := by decide +kernel
theorem d1_13 : decode method_2_code 13 = .ok (.if_icmp .ge 11, 3) := by decide +kernel
theorem d1_16 : decode method_2_code 16 = .ok (.aload_n 2, 1) := by decide +kernel
theorem d1_17 : decode method_2_code 17 = .ok (.iload_n 1, 1) := by decide +kernel
theorem d1_18 : decode method_2_code 18 = .ok (.invokevirtual 13, 3) := by decide +kernel
theorem d1_21 : decode method_2_code 21 = .ok (.goto 15, 3) := by decide +kernel
theorem d1_24 : decode method_2_code 24 = .ok (.lload_n 3, 1) := by decide +kernel
theorem d1_25 : decode method_2_code 25 = .ok (.bipush 8, 2) := by decide +kernel
theorem d1_27 : decode method_2_code 27 = .ok (.iload_n 1, 1) := by decide +kernel
theorem d1_28 : decode method_2_code 28 = .ok (.imul, 1) := by decide +kernel
theorem d1_29 : decode method_2_code 29 = .ok (.lushr, 1) := by decide +kernel
theorem d1_30 : decode method_2_code 30 = .ok (.ldc2_w 17, 3) := by decide +kernel
theorem d1_33 : decode method_2_code 33 = .ok (.land, 1) := by decide +kernel
theorem d1_34 : decode method_2_code 34 = .ok (.l2i, 1) := by decide +kernel
theorem d1_35 : decode method_2_code 35 = .ok (.i2c, 1) := by decide +kernel
theorem d1_36 : decode method_2_code 36 = .ok (.castore, 1) := by decide +kernel
theorem d1_37 : decode method_2_code 37 = .ok (.return_, 1) := by decide +kernel
theorem pn_0 : plainName "org/succession/KindOfPinLaw" = true := by first | (simp [plainName, overriddenIn]; done) | decide +kernel
theorem ef_Put (m : MethodId) (a0 : Addr) (p1 : Int32) (a2 : Addr) (q3 : Int64) : entryFrame m #[(.ref a0), (.int p1), (.ref a2), (.long q3)] 5 = mkF m 0 #[.val (.ref a0), .val (.int p1), .val (.ref a2), .val (.long q3), .second] [] := by first | (simp [entryFrame, mkF, argsToLocals, Value.category]; done) | rfl
def QPut (Z : State) (a0 : Addr) (p1 : Int32) (a2 : Addr) (q3 : Int64) (kc : ClassId) (cc : List Int32) (lc : Int32) (t2 : Addr) (k2 : ClassId) (cb : List Int32) (zc : Int32) (fm : Value) (h0 : Heap) (n0 : Nat) (v : Option Value) (h : Heap) (L : List Loc) : Prop := ∃ cz : List Int32, v = none ∧ Fr n0 L ∧ Keep h0 h [a0] ∧ Arv Z h a0 kc .char lc (cz.map Value.int) (.int (0 : Int32)) ∧ (∀ c ∈ cz, ¬ c < 0 ∧ ¬ (255 : Int32) < c) ∧ cz.length = lc.toNatClampNeg
set_option maxRecDepth 65536 in
set_option maxHeartbeats 40000000 in
theorem rmPut (l : Launch) (Z : State) (aV : Array Value) (hw : ∀ d ∈ tables_1, d.before aV Z = true) (ws : List Jvm.Cond) (a0 : Addr) (p1 : Int32) (a2 : Addr) (q3 : Int64) (kc : ClassId) (cc : List Int32) (lc : Int32) (t2 : Addr) (k2 : ClassId) (cb : List Int32) (zc : Int32) (fm : Value) (h0 : Heap) (n0 : Nat) (Zn : n0 ≤ h0.size) (OL : Old Z n0 h0) (hzc : ¬ zc = 0) (rfm : fm.isRef = true) (g_a0 : n0 ≤ a0) (hcc : (∀ c ∈ cc, ¬ c < 0 ∧ ¬ (255 : Int32) < c) ∧ cc.length = lc.toNatClampNeg) (hL : own_L1 cb) (hp1 : ¬ p1 < 0) (ne_a2__a0 : a2 ≠ a0) (ne_t2__a0 : t2 ≠ a0) (V_a0 : Arv Z h0 a0 kc .char lc (cc.map Value.int) (.int (0 : Int32))) (E_a2 : Exa Z h0 a2 "java/lang/String") (F_coder_a2 : Fld Z h0 a2 "java/lang/String" "coder" "B" (.int (0 : Int32))) (F_value_a2 : Fld Z h0 a2 "java/lang/String" "value" "[B" (.ref t2)) (V_t2 : Arv Z h0 t2 k2 .byte (Int32.ofNat cb.length) ((own_bs cb).map Value.int) (.int (0 : Int32))) (S_cs : Sta Z Z.heap "java/lang/String" "COMPACT_STRINGS" "Z" (.int zc)) (S_sf : Sta Z Z.heap "jdk/internal/util/Preconditions" "SIOOBE_FORMATTER" "Ljava/util/function/BiFunction;" fm) :
    MetFree l (⟨"org/succession/KindOfPinLaw", "put", "([CILjava/lang/String;J)V"⟩ : MethodName) (head1 (Jvm.Cond.code (⟨"org/succession/KindOfPinLaw", "put", "([CILjava/lang/String;J)V"⟩ : MethodName) method_2_code 5 none :: ws) ({ frames := 4, cells := 0, slots := 0, locals := 55 } : Room)) (fun a U => a = #[(.ref a0), (.int p1), (.ref a2), (.long q3)] ∧ Z.Warmed39 U.vm ∧ U.heap = h0) (fun _ _ _ _ _ => True) (fun _ U o U' => ∃ v L, o = .returned v ∧ QPut Z a0 p1 a2 q3 kc cc lc t2 k2 cb zc fm h0 n0 v U'.heap L ∧ FrameEnd U o U' L ({ frames := 4, cells := 0, slots := 0, locals := 55 } : Room).cells ({ frames := 4, cells := 0, slots := 0, locals := 55 } : Room).slots) := by
  refine MetFree.of_bodySF (plainFor_of_name pn_0) hisR ?_
  intro p e s m args below meth c s₁ Bd hml0 hP hK
  obtain ⟨rfl, hZ, hh⟩ := hP
  have hx := Bd.exec
  have hby := Bd.bytes
  have hml : c.maxLocals = 5 := hml0
  have hown : s.vm.findClass "org/succession/KindOfPinLaw" = some m.cls := findClass_of_methodNamed Bd.named
  have hnm := (name_of_methodNamed Bd.named Bd.method).1
  have X0 : Stand p l e ({ frames := 4, cells := 0, slots := 0, locals := 55 } : Room) s m #[(.ref a0), (.int p1), (.ref a2), (.long q3)] below meth c s₁ [] 0 0 := Stand.of_body Bd
  have e0 : s₁.heap = h0 := by rw [← hh, Bd.state]; rfl
  have N0 := Fr.nil n0
  have Kp := Keep.refl h0 [a0]
  show Run p e below (Ends s (QPut Z a0 p1 a2 q3 kc cc lc t2 k2 cb zc fm h0 n0) ({ frames := 4, cells := 0, slots := 0, locals := 55 } : Room).cells ({ frames := 4, cells := 0, slots := 0, locals := 55 } : Room).slots) _
  refine Run.st (S' := s₁.setTop (mkF m 0 #[.val (.ref a0), .val (.int p1), .val (.ref a2), .val (.long q3), .second] [])) (fun t k => castTop (ef_Put m a0 p1 a2 q3) k) ?_
  refine Run.st (S' := s₁.setTop (mkF m 2 #[.val (.ref a0), .val (.int p1), .val (.ref a2), .val (.long q3), .second] [(.ref a0), (.int p1)])) (fun _ k => XS.iloadN X0.here hx rfl (hb hby d1_0) rfl (XS.aloadN X0.here hx rfl (hb hby d1_1) rfl rfl k)) ?_
  obtain ⟨cl1, Ar1, -, Sa1, Na1, -, -⟩ := id V_a0
  refine Run.st (S' := s₁.setTop (mkF m 3 #[.val (.ref a0), .val (.int p1), .val (.ref a2), .val (.long q3), .second] [(.int lc), (.int p1)])) (fun _ k => X0.arraylength hx (by rw [e0]; exact Ar1.1) (State.isArrayOf_alike hZ.alike Ar1.2.1) (g := (mkF m 2 #[.val (.ref a0), .val (.int p1), .val (.ref a2), .val (.long q3), .second] [(.ref a0), (.int p1)])) rfl rfl (hb hby d1_2) _ (by rw [len_of Sa1 Na1]; exact k)) ?_
  by_cases hc3_2 : p1 < lc
  · refine Run.st (S' := s₁.setTop (mkF m 10 #[.val (.ref a0), .val (.int p1), .val (.ref a2), .val (.long q3), .second] [(.ref a2), (.int p1), (.int p1), (.ref a0)])) (fun _ k => XS.icmpNo X0.here hx rfl (hb hby d1_3) rfl (tlt hc3_2).2.1 (XS.aloadN X0.here hx rfl (hb hby d1_6) rfl rfl (XS.iloadN X0.here hx rfl (hb hby d1_7) rfl (XS.iloadN X0.here hx rfl (hb hby d1_8) rfl (XS.aloadN X0.here hx rfl (hb hby d1_9) rfl rfl k))))) ?_
    have u_S_cs := S_cs.ext OL.2
    obtain ⟨cq3, kq3, q3a, q3b, q3c⟩ := isOf hZ e0 E_a2
    obtain ⟨_, _, ⟨T3, L3, k3, n3⟩, -, X3, ⟨Lc3, hQ3, l3, y3, z3⟩, st3⟩ := X0.virtualBack hx (y := (⟨"java/lang/String", "length", "()I"⟩ : MethodName)) (z := (⟨"java/lang/String", "length", "()I"⟩ : MethodName)) hown (mvT hZ (hwi hw 13 rfl)) (mvT hZ (hwi hw 14 rfl)) (notFace_of_selects (args := #[]) (mvT hZ (hwi hw 16 rfl))) (mvT hZ (hwi hw 16 rfl)) (mvT hZ (hwi hw 15 rfl)) (by decide) (own_lenB (n0 := n0) (W := 3) hw hZ E_a2 F_value_a2 F_coder_a2 V_t2 hL u_S_cs hzc (by decide) (by decide)) q3a q3c (g := (mkF m 10 #[.val (.ref a0), .val (.int p1), .val (.ref a2), .val (.long q3), .second] [(.ref a2), (.int p1), (.int p1), (.ref a0)])) rfl (by rw [hml]; rfl) (Steps.refl _) (argsL := []) (rest := [(.int p1), (.int p1), (.ref a0)]) (lenOf pd_0 rfl) rfl (by show 2 * 0 + _ ≤ _; exact Nat.le_of_eq rfl) (hb hby d1_10) (fun _ _ => ⟨rfl, e0, (by decide : 0 + 0 ≤ _), (by decide : 0 + 0 ≤ _)⟩)
    dsimp only [Pt.U, Pt.locs, Pt.cells, Pt.slots] at X3 l3 y3 z3 st3 hQ3
    replace l3 := l3.symm; replace y3 := y3.symm; replace z3 := z3.symm; subst l3 y3 z3
    obtain ⟨rfl, N3q, e3⟩ := hQ3
    have N3 := Fr.app N0 N3q
    refine Run.st (S' := T3.setTop (mkF m 13 #[.val (.ref a0), .val (.int p1), .val (.ref a2), .val (.long q3), .second] [(.int (Int32.ofNat cb.length)), (.int p1), (.int p1), (.ref a0)])) (fun _ k => st3.trans k) ?_
    by_cases hc13_4 : p1 < (Int32.ofNat cb.length)
    · refine Run.st (S' := T3.setTop (mkF m 18 #[.val (.ref a0), .val (.int p1), .val (.ref a2), .val (.long q3), .second] [(.int p1), (.ref a2), (.int p1), (.ref a0)])) (fun _ k => XS.icmpNo X3.here hx rfl (hb hby d1_13) rfl (tlt hc13_4).2.1 (XS.aloadN X3.here hx rfl (hb hby d1_16) rfl rfl (XS.iloadN X3.here hx rfl (hb hby d1_17) rfl k))) ?_
      have u_S_cs := S_cs.ext OL.2
      have u_S_sf := S_sf.ext OL.2
      obtain ⟨cq5, kq5, q5a, q5b, q5c⟩ := isOf hZ e3 E_a2
      obtain ⟨_, _, ⟨T5, L5, k5, n5⟩, -, X5, ⟨Lc5, hQ5, l5, y5, z5⟩, st5⟩ := X3.virtualBack hx (y := (⟨"java/lang/String", "charAt", "(I)C"⟩ : MethodName)) (z := (⟨"java/lang/String", "charAt", "(I)C"⟩ : MethodName)) hown (mvT hZ (hwi hw 26 rfl)) (mvT hZ (hwi hw 27 rfl)) (notFace_of_selects (args := #[]) (mvT hZ (hwi hw 29 rfl))) (mvT hZ (hwi hw 29 rfl)) (mvT hZ (hwi hw 28 rfl)) (by decide) (own_chB (n0 := n0) (W := 2) hw hZ E_a2 F_value_a2 F_coder_a2 V_t2 hL u_S_cs hzc u_S_sf rfm hp1 (own_cltN hp1 hL hc13_4) (by decide) (by decide)) q5a q5c (g := (mkF m 18 #[.val (.ref a0), .val (.int p1), .val (.ref a2), .val (.long q3), .second] [(.int p1), (.ref a2), (.int p1), (.ref a0)])) rfl (by rw [hml]; rfl) (Steps.refl _) (argsL := [(.int p1)]) (rest := [(.int p1), (.ref a0)]) (lenOf pd_1 rfl) rfl (by show 2 * 0 + _ ≤ _; exact Nat.le_of_eq rfl) (hb hby d1_18) (fun _ _ => ⟨rfl, e3, (by decide : 0 + 0 ≤ _), (by decide : 0 + 0 ≤ _)⟩)
      dsimp only [Pt.U, Pt.locs, Pt.cells, Pt.slots] at X5 l5 y5 z5 st5 hQ5
      replace l5 := l5.symm; replace y5 := y5.symm; replace z5 := z5.symm; subst l5 y5 z5
      obtain ⟨rfl, N5q, e5⟩ := hQ5
      have N5 := Fr.app N3 N5q
      refine Run.st (S' := T5.setTop (mkF m 36 #[.val (.ref a0), .val (.int p1), .val (.ref a2), .val (.long q3), .second] [(.int (cb.getD (p1).toNatClampNeg 0)), (.int p1), (.ref a0)])) (fun _ k => st5.trans (XS.goto X5.here hx rfl (pc0 := 21) (pc' := 36) rfl (hb hby d1_21) (by decide) (by decide) k)) ?_
      have hz := own_getR hL (own_cltN hp1 hL hc13_4)
      obtain ⟨cl6, Ar6, qa6, Sa6, Na6, Ha6, Ga6⟩ := V_a0
      have hin6 : ¬ (p1 < 0 ∨ cl6.slots.size ≤ (p1).toNatClampNeg) := inb_of Sa6 ⟨hp1, hc3_2⟩
      obtain ⟨T6, h6, X6, e6, W6, st6⟩ := stC X5 hx hZ e5 Ar6 (j := p1) hin6 (g := (mkF m 36 #[.val (.ref a0), .val (.int p1), .val (.ref a2), .val (.long q3), .second] [(.int (cb.getD (p1).toNatClampNeg 0)), (.int p1), (.ref a0)])) rfl rfl (hb hby d1_36)
      have V_a0 := Arv.set Ar6 qa6 Sa6 Na6 Ha6 Ga6 (fits_nar_char _) W6 (p1).toNatClampNeg rfl (own_ltm (by rw [hcc.2]; exact own_clt hp1 hc3_2))
      rw [own_set] at V_a0
      have OL := OL.wr W6 g_a0
      have E_a2 := E_a2.wr W6
      have F_coder_a2 := F_coder_a2.other W6 (Or.inl ne_a2__a0)
      have F_value_a2 := F_value_a2.other W6 (Or.inl ne_a2__a0)
      have V_t2 := V_t2.other W6 ne_t2__a0
      have N6 := Fr.snoc X6 N5 g_a0
      have Kp := Kp.wr W6 (Or.inl (by simp))
      have Zn := Nat.le_trans Zn (Nat.le_of_eq W6.size.symm)
      refine Run.st (S' := T6.setTop (mkF m 37 #[.val (.ref a0), .val (.int p1), .val (.ref a2), .val (.long q3), .second] [])) (fun _ k => st6 _ k) ?_
      refine Run.outV X6 hx Bd.notSynchronized Bd.returns (hb hby d1_37) (by decide) (by decide) ?_
      rw [e6]
      exact ⟨_, rfl, N6, Kp, V_a0, own_setR hcc.1 hz, by rw [List.length_set]; exact hcc.2⟩
    · refine Run.st (S' := T3.setTop (mkF m 34 #[.val (.ref a0), .val (.int p1), .val (.ref a2), .val (.long q3), .second] [(.long (((q3.toUInt64 >>> (((8 : Int32) * p1) &&& 0x3f).toInt64.toUInt64).toInt64) &&& (255 : Int64))), (.int p1), (.ref a0)])) (fun _ k => XS.icmpYes X3.here hx rfl (pc0 := 13) (pc' := 24) rfl (hb hby d1_13) rfl (flt hc13_4).2.1 (by decide) (by decide) (XS.lloadN X3.here hx rfl (hb hby d1_24) rfl (XS.bipush X3.here hx rfl (hb hby d1_25) (XS.iloadN X3.here hx rfl (hb hby d1_27) rfl (XS.imul X3.here hx rfl (hb hby d1_28) rfl (XS.lushr X3.here hx rfl (hb hby d1_29) rfl (X3.ldc2Long hx hown (mvT hZ (hwi hw 105 rfl)) (g := (mkF m 30 #[.val (.ref a0), .val (.int p1), .val (.ref a2), .val (.long q3), .second] [(.long ((q3.toUInt64 >>> (((8 : Int32) * p1) &&& 0x3f).toInt64.toUInt64).toInt64)), (.int p1), (.ref a0)])) rfl (hb hby d1_30) _ (XS.land X3.here hx rfl (hb hby d1_33) rfl k)))))))) ?_
      refine Run.st (S' := T3.setTop (mkF m 36 #[.val (.ref a0), .val (.int p1), .val (.ref a2), .val (.long q3), .second] [(.int (((((q3.toUInt64 >>> (((8 : Int32) * p1) &&& 0x3f).toInt64.toUInt64).toInt64) &&& (255 : Int64)).toInt32).toUInt32.toUInt16.toUInt32.toInt32)), (.int p1), (.ref a0)])) (fun _ k => XS.l2i X3.here hx rfl (hb hby d1_34) rfl (XS.i2c X3.here hx rfl (hb hby d1_35) rfl k)) ?_
      have hz := own_r255 (z := (((((q3.toUInt64 >>> (((8 : Int32) * p1) &&& 0x3f).toInt64.toUInt64).toInt64) &&& (255 : Int64)).toInt32).toUInt32.toUInt16.toUInt32.toInt32)) (own_fill q3 p1)
      obtain ⟨cl7, Ar7, qa7, Sa7, Na7, Ha7, Ga7⟩ := V_a0
      have hin7 : ¬ (p1 < 0 ∨ cl7.slots.size ≤ (p1).toNatClampNeg) := inb_of Sa7 ⟨hp1, hc3_2⟩
      obtain ⟨T7, h7, X7, e7, W7, st7⟩ := stC X3 hx hZ e3 Ar7 (j := p1) hin7 (g := (mkF m 36 #[.val (.ref a0), .val (.int p1), .val (.ref a2), .val (.long q3), .second] [(.int (((((q3.toUInt64 >>> (((8 : Int32) * p1) &&& 0x3f).toInt64.toUInt64).toInt64) &&& (255 : Int64)).toInt32).toUInt32.toUInt16.toUInt32.toInt32)), (.int p1), (.ref a0)])) rfl rfl (hb hby d1_36)
      have V_a0 := Arv.set Ar7 qa7 Sa7 Na7 Ha7 Ga7 (fits_nar_char _) W7 (p1).toNatClampNeg rfl (own_ltm (by rw [hcc.2]; exact own_clt hp1 hc3_2))
      rw [own_set] at V_a0
      have OL := OL.wr W7 g_a0
      have E_a2 := E_a2.wr W7
      have F_coder_a2 := F_coder_a2.other W7 (Or.inl ne_a2__a0)
      have F_value_a2 := F_value_a2.other W7 (Or.inl ne_a2__a0)
      have V_t2 := V_t2.other W7 ne_t2__a0
      have N7 := Fr.snoc X7 N3 g_a0
      have Kp := Kp.wr W7 (Or.inl (by simp))
      have Zn := Nat.le_trans Zn (Nat.le_of_eq W7.size.symm)
      refine Run.st (S' := T7.setTop (mkF m 37 #[.val (.ref a0), .val (.int p1), .val (.ref a2), .val (.long q3), .second] [])) (fun _ k => st7 _ k) ?_
      refine Run.outV X7 hx Bd.notSynchronized Bd.returns (hb hby d1_37) (by decide) (by decide) ?_
      rw [e7]
      exact ⟨_, rfl, N7, Kp, V_a0, own_setR hcc.1 hz, by rw [List.length_set]; exact hcc.2⟩
  · refine Run.st (S' := s₁.setTop (mkF m 37 #[.val (.ref a0), .val (.int p1), .val (.ref a2), .val (.long q3), .second] [])) (fun _ k => XS.icmpYes X0.here hx rfl (pc0 := 3) (pc' := 37) rfl (hb hby d1_3) rfl (flt hc3_2).2.1 (by decide) (by decide) k) ?_
    refine Run.outV X0 hx Bd.notSynchronized Bd.returns (hb hby d1_37) (by decide) (by decide) ?_
    rw [e0]
    exact ⟨cc, rfl, N0, Kp, V_a0, hcc⟩
theorem d16_0 : decode prog_8_method_1_code 0 = .ok (.getstatic 13, 3) := by decide +kernel
theorem d16_3 : decode prog_8_method_1_code 3 = .ok (.invokevirtual 17, 3) := by decide +kernel
theorem d16_6 : decode prog_8_method_1_code 6 = .ok (.checkcast 18, 3) := by decide +kernel
theorem d16_9 : decode prog_8_method_1_code 9 = .ok (.areturn, 1) := by decide +kernel
theorem pn_1 : plainName "org/succession/Event$Kind" = true := by first | (simp [plainName, overriddenIn]; done) | decide +kernel
theorem ef_Vals (m : MethodId)  : entryFrame m #[] 0 = mkF m 0 #[] [] := by first | (simp [entryFrame, mkF, argsToLocals, Value.category]; done) | rfl
def QVals (Z : State) (vv : Addr) (kV : ClassId) (rc : Addr) (rm : Addr) (re : Addr) (h0 : Heap) (n0 : Nat) (v : Option Value) (h : Heap) (L : List Loc) : Prop := ∃ (y0 : Addr) (ky0 : ClassId), v = some (.ref y0) ∧ Fr n0 L ∧ Keep h0 h [] ∧ n0 ≤ y0 ∧ h0.size ≤ y0 ∧ Arv Z h y0 ky0 (.object "org/succession/Event$Kind") (3 : Int32) [(.ref rc), (.ref rm), (.ref re)] .null ∧ Exa Z h y0 "[Lorg/succession/Event$Kind;"
set_option maxRecDepth 65536 in
set_option maxHeartbeats 40000000 in
theorem rmVals (l : Launch) (Z : State) (aV : Array Value) (hw : ∀ d ∈ tables_1, d.before aV Z = true) (ws : List Jvm.Cond) (vv : Addr) (kV : ClassId) (rc : Addr) (rm : Addr) (re : Addr) (h0 : Heap) (n0 : Nat) (Zn : n0 ≤ h0.size) (OL : Old Z n0 h0) (S_vals : Sta Z Z.heap "org/succession/Event$Kind" "$VALUES" "[Lorg/succession/Event$Kind;" (.ref vv)) (V_vv : Arv Z Z.heap vv kV (.object "org/succession/Event$Kind") (3 : Int32) [(.ref rc), (.ref rm), (.ref re)] .null) (E_vv : Exa Z Z.heap vv "[Lorg/succession/Event$Kind;") :
    MetFree l (⟨"org/succession/Event$Kind", "values", "()[Lorg/succession/Event$Kind;"⟩ : MethodName) (head1 (Jvm.Cond.code (⟨"org/succession/Event$Kind", "values", "()[Lorg/succession/Event$Kind;"⟩ : MethodName) prog_8_method_1_code 0 (some (.array (.object "org/succession/Event$Kind"))) :: ws) ({ frames := 1, cells := 1, slots := 3, locals := 14 } : Room)) (fun a U => a = #[] ∧ Z.Warmed39 U.vm ∧ U.heap = h0) (fun _ _ _ _ _ => True) (fun _ U o U' => ∃ v L, o = .returned v ∧ QVals Z vv kV rc rm re h0 n0 v U'.heap L ∧ FrameEnd U o U' L ({ frames := 1, cells := 1, slots := 3, locals := 14 } : Room).cells ({ frames := 1, cells := 1, slots := 3, locals := 14 } : Room).slots) := by
  refine MetFree.of_bodySF (plainFor_of_name pn_1) hisR ?_
  intro p e s m args below meth c s₁ Bd hml0 hP hK
  obtain ⟨rfl, hZ, hh⟩ := hP
  have hx := Bd.exec
  have hby := Bd.bytes
  have hml : c.maxLocals = 0 := hml0
  have hown : s.vm.findClass "org/succession/Event$Kind" = some m.cls := findClass_of_methodNamed Bd.named
  have hnm := (name_of_methodNamed Bd.named Bd.method).1
  have X0 : Stand p l e ({ frames := 1, cells := 1, slots := 3, locals := 14 } : Room) s m #[] below meth c s₁ [] 0 0 := Stand.of_body Bd
  have e0 : s₁.heap = h0 := by rw [← hh, Bd.state]; rfl
  have N0 := Fr.nil n0
  have Kp := Keep.refl h0 []
  show Run p e below (Ends s (QVals Z vv kV rc rm re h0 n0) ({ frames := 1, cells := 1, slots := 3, locals := 14 } : Room).cells ({ frames := 1, cells := 1, slots := 3, locals := 14 } : Room).slots) _
  refine Run.st (S' := s₁.setTop (mkF m 0 #[] [])) (fun t k => castTop (ef_Vals m ) k) ?_
  have u_S_vals := S_vals.ext OL.2
  obtain ⟨T1, X1, e1, st1⟩ := getS2 X0 hx hZ hown (host := "") (Or.inl (hwi hw 76 rfl)) Via.refl e0 u_S_vals (g := (mkF m 0 #[] [])) rfl (hb hby d16_0)
  refine Run.st (S' := T1.setTop (mkF m 3 #[] [(.ref vv)])) (fun _ k => st1 _ k) ?_
  have u_V_vv := V_vv.ext OL.2
  have u_E_vv := E_vv.ext OL.2
  obtain ⟨T2, h2, X2, e2, E2, V2, A2, st2⟩ := cloneH X1 hx hZ hown (ad := "[Lorg/succession/Event$Kind;") (hwi hw 78 rfl) (hwi hw 79 rfl) (hwi hw 83 rfl) (hwi hw 81 rfl) (hwi hw 82 rfl) (hwi hw 84 rfl) e1 (Arv.arh u_V_vv) u_E_vv (g := (mkF m 3 #[] [(.ref vv)])) rfl (by rw [hml]; rfl) rfl (hb hby d16_3) (by decide) (W := 0) (by show 2 * 0 + _ ≤ _; exact Nat.le_of_eq rfl) (by decide) (cap := 3) (by decide) (by decide) (by decide)
  obtain ⟨b2, g2⟩ : ∃ z, z = h0.size := ⟨_, rfl⟩
  rw [← g2] at V2 A2 st2
  have OL := OL.ext E2
  have g_b2 : n0 ≤ b2 := Nat.le_trans Zn (Nat.le_of_eq g2.symm)
  have Zn := Nat.le_trans Zn E2.1
  have sz_b2 : h0.size ≤ b2 := Nat.le_trans Kp.1 (Nat.le_of_eq g2.symm)
  have Kp := Kp.ext E2
  have V_b2 : Arv Z h2 b2 kV (.object "org/succession/Event$Kind") (3 : Int32) [(.ref rc), (.ref rm), (.ref re)] .null := V2
  have E_b2 := A2
  refine Run.st (S' := T2.setTop (mkF m 6 #[] [(.ref b2)])) (fun _ k => st2 _ k) ?_
  obtain ⟨T3, X3, e3, st3⟩ := castY X2 hx hZ hown (hwi hw 89 rfl) e2 (Ins.self E_b2) (g := (mkF m 6 #[] [(.ref b2)])) rfl rfl (hb hby d16_6)
  refine Run.st (S' := T3.setTop (mkF m 9 #[] [(.ref b2)])) (fun _ k => st3 _ k) ?_
  refine Run.out X3 hx Bd.notSynchronized Bd.returns rfl (Or.inr (Or.inr (Or.inr (Or.inr ⟨rfl, rfl, rfl⟩)))) (hb hby d16_9) (by decide) (by decide) ?_
  rw [e3]
  exact ⟨b2, kV, rfl, N0, Kp, g_b2, sz_b2, V_b2, E_b2⟩
theorem pd_2 : parseMethodDescriptor "()[Lorg/succession/Event$Kind;" = some ⟨[], some (.array (.object "org/succession/Event$Kind"))⟩ := by decide +kernel
theorem pd_3 : parseMethodDescriptor "(Ljava/lang/Object;)Z" = some ⟨[(.object "java/lang/Object")], some .boolean⟩ := by decide +kernel
theorem d15_0 : decode prog_8_method_5_code 0 = .ok (.invokestatic 36, 3) := by decide +kernel
theorem d15_3 : decode prog_8_method_5_code 3 = .ok (.astore_n 1, 1) := by decide +kernel
theorem d15_4 : decode prog_8_method_5_code 4 = .ok (.aload_n 1, 1) := by decide +kernel
theorem d15_5 : decode prog_8_method_5_code 5 = .ok (.arraylength, 1) := by decide +kernel
theorem d15_6 : decode prog_8_method_5_code 6 = .ok (.istore_n 2, 1) := by decide +kernel
theorem d15_7 : decode prog_8_method_5_code 7 = .ok (.iconst 0, 1) := by decide +kernel
theorem d15_8 : decode prog_8_method_5_code 8 = .ok (.istore_n 3, 1) := by decide +kernel
theorem d15_9 : decode prog_8_method_5_code 9 = .ok (.iload_n 3, 1) := by decide +kernel
theorem d15_10 : decode prog_8_method_5_code 10 = .ok (.iload_n 2, 1) := by decide +kernel
theorem d15_11 : decode prog_8_method_5_code 11 = .ok (.if_icmp .ge 29, 3) := by decide +kernel
theorem d15_14 : decode prog_8_method_5_code 14 = .ok (.aload_n 1, 1) := by decide +kernel
theorem d15_15 : decode prog_8_method_5_code 15 = .ok (.iload_n 3, 1) := by decide +kernel
theorem d15_16 : decode prog_8_method_5_code 16 = .ok (.aaload, 1) := by decide +kernel
theorem d15_17 : decode prog_8_method_5_code 17 = .ok (.astore 4, 2) := by decide +kernel
theorem d15_19 : decode prog_8_method_5_code 19 = .ok (.aload 4, 2) := by decide +kernel
theorem d15_21 : decode prog_8_method_5_code 21 = .ok (.getfield 32, 3) := by decide +kernel
theorem d15_24 : decode prog_8_method_5_code 24 = .ok (.aload_n 0, 1) := by decide +kernel
theorem d15_25 : decode prog_8_method_5_code 25 = .ok (.invokevirtual 40, 3) := by decide +kernel
theorem d15_28 : decode prog_8_method_5_code 28 = .ok (.ifCond .eq 6, 3) := by decide +kernel
theorem d15_31 : decode prog_8_method_5_code 31 = .ok (.aload 4, 2) := by decide +kernel
theorem d15_33 : decode prog_8_method_5_code 33 = .ok (.areturn, 1) := by decide +kernel
theorem d15_34 : decode prog_8_method_5_code 34 = .ok (.iinc 3 1, 3) := by decide +kernel
theorem d15_37 : decode prog_8_method_5_code 37 = .ok (.goto (-28), 3) := by decide +kernel
theorem d15_40 : decode prog_8_method_5_code 40 = .ok (.aconst_null, 1) := by decide +kernel
theorem d15_41 : decode prog_8_method_5_code 41 = .ok (.areturn, 1) := by decide +kernel
theorem ef_Of (m : MethodId) (a0 : Addr) : entryFrame m #[(.ref a0)] 5 = mkF m 0 #[.val (.ref a0), .unset, .unset, .unset, .unset] [] := by first | (simp [entryFrame, mkF, argsToLocals, Value.category]; done) | rfl
def QOf (Z : State) (a0 : Addr) (zc : Int32) (vv : Addr) (kV : ClassId) (rc : Addr) (rm : Addr) (re : Addr) (lrc : Addr) (tlrc : Addr) (klrc : ClassId) (lrm : Addr) (tlrm : Addr) (klrm : ClassId) (lre : Addr) (tlre : Addr) (klre : ClassId) (t0 : Addr) (k0 : ClassId) (cs : List Int32) (h0 : Heap) (n0 : Nat) (v : Option Value) (h : Heap) (L : List Loc) : Prop := v = some (own_FK cs rc rm re) ∧ Fr n0 L ∧ Keep h0 h []
set_option maxRecDepth 65536 in
set_option maxHeartbeats 40000000 in
theorem rmOf (l : Launch) (Z : State) (aV : Array Value) (hw : ∀ d ∈ tables_1, d.before aV Z = true) (ws : List Jvm.Cond) (a0 : Addr) (zc : Int32) (vv : Addr) (kV : ClassId) (rc : Addr) (rm : Addr) (re : Addr) (lrc : Addr) (tlrc : Addr) (klrc : ClassId) (lrm : Addr) (tlrm : Addr) (klrm : ClassId) (lre : Addr) (tlre : Addr) (klre : ClassId) (t0 : Addr) (k0 : ClassId) (cs : List Int32) (h0 : Heap) (n0 : Nat) (Zn : n0 ≤ h0.size) (OL : Old Z n0 h0) (hzc : ¬ zc = 0) (hL : own_L1 cs) (S_cs : Sta Z Z.heap "java/lang/String" "COMPACT_STRINGS" "Z" (.int zc)) (S_vals : Sta Z Z.heap "org/succession/Event$Kind" "$VALUES" "[Lorg/succession/Event$Kind;" (.ref vv)) (V_vv : Arv Z Z.heap vv kV (.object "org/succession/Event$Kind") (3 : Int32) [(.ref rc), (.ref rm), (.ref re)] .null) (E_vv : Exa Z Z.heap vv "[Lorg/succession/Event$Kind;") (F_written_rc : Fld Z Z.heap rc "org/succession/Event$Kind" "written" "Ljava/lang/String;" (.ref lrc)) (E_lrc : Exa Z Z.heap lrc "java/lang/String") (F_coder_lrc : Fld Z Z.heap lrc "java/lang/String" "coder" "B" (.int (0 : Int32))) (F_value_lrc : Fld Z Z.heap lrc "java/lang/String" "value" "[B" (.ref tlrc)) (V_tlrc : Arv Z Z.heap tlrc klrc .byte (Int32.ofNat own_lit3.length) ((own_bs own_lit3).map Value.int) (.int (0 : Int32))) (F_written_rm : Fld Z Z.heap rm "org/succession/Event$Kind" "written" "Ljava/lang/String;" (.ref lrm)) (E_lrm : Exa Z Z.heap lrm "java/lang/String") (F_coder_lrm : Fld Z Z.heap lrm "java/lang/String" "coder" "B" (.int (0 : Int32))) (F_value_lrm : Fld Z Z.heap lrm "java/lang/String" "value" "[B" (.ref tlrm)) (V_tlrm : Arv Z Z.heap tlrm klrm .byte (Int32.ofNat own_lit2.length) ((own_bs own_lit2).map Value.int) (.int (0 : Int32))) (F_written_re : Fld Z Z.heap re "org/succession/Event$Kind" "written" "Ljava/lang/String;" (.ref lre)) (E_lre : Exa Z Z.heap lre "java/lang/String") (F_coder_lre : Fld Z Z.heap lre "java/lang/String" "coder" "B" (.int (0 : Int32))) (F_value_lre : Fld Z Z.heap lre "java/lang/String" "value" "[B" (.ref tlre)) (V_tlre : Arv Z Z.heap tlre klre .byte (Int32.ofNat own_lit1.length) ((own_bs own_lit1).map Value.int) (.int (0 : Int32))) (E_a0 : Exa Z h0 a0 "java/lang/String") (F_coder_a0 : Fld Z h0 a0 "java/lang/String" "coder" "B" (.int (0 : Int32))) (F_value_a0 : Fld Z h0 a0 "java/lang/String" "value" "[B" (.ref t0)) (V_t0 : Arv Z h0 t0 k0 .byte (Int32.ofNat cs.length) ((own_bs cs).map Value.int) (.int (0 : Int32))) :
    MetFree l (⟨"org/succession/Event$Kind", "of", "(Ljava/lang/String;)Lorg/succession/Event$Kind;"⟩ : MethodName) (head1 (Jvm.Cond.code (⟨"org/succession/Event$Kind", "of", "(Ljava/lang/String;)Lorg/succession/Event$Kind;"⟩ : MethodName) prog_8_method_5_code 5 (some (.object "org/succession/Event$Kind")) :: ws) ({ frames := 2, cells := 1, slots := 3, locals := 28 } : Room)) (fun a U => a = #[(.ref a0)] ∧ Z.Warmed39 U.vm ∧ U.heap = h0) (fun _ _ _ _ _ => True) (fun _ U o U' => ∃ v L, o = .returned v ∧ QOf Z a0 zc vv kV rc rm re lrc tlrc klrc lrm tlrm klrm lre tlre klre t0 k0 cs h0 n0 v U'.heap L ∧ FrameEnd U o U' L ({ frames := 2, cells := 1, slots := 3, locals := 28 } : Room).cells ({ frames := 2, cells := 1, slots := 3, locals := 28 } : Room).slots) := by
  refine MetFree.of_bodySF (plainFor_of_name pn_1) hisR ?_
  intro p e s m args below meth c s₁ Bd hml0 hP hK
  obtain ⟨rfl, hZ, hh⟩ := hP
  have hx := Bd.exec
  have hby := Bd.bytes
  have hml : c.maxLocals = 5 := hml0
  have hown : s.vm.findClass "org/succession/Event$Kind" = some m.cls := findClass_of_methodNamed Bd.named
  have hnm := (name_of_methodNamed Bd.named Bd.method).1
  have X0 : Stand p l e ({ frames := 2, cells := 1, slots := 3, locals := 28 } : Room) s m #[(.ref a0)] below meth c s₁ [] 0 0 := Stand.of_body Bd
  have e0 : s₁.heap = h0 := by rw [← hh, Bd.state]; rfl
  have N0 := Fr.nil n0
  have Kp := Keep.refl h0 []
  show Run p e below (Ends s (QOf Z a0 zc vv kV rc rm re lrc tlrc klrc lrm tlrm klrm lre tlre klre t0 k0 cs h0 n0) ({ frames := 2, cells := 1, slots := 3, locals := 28 } : Room).cells ({ frames := 2, cells := 1, slots := 3, locals := 28 } : Room).slots) _
  refine Run.st (S' := s₁.setTop (mkF m 0 #[.val (.ref a0), .unset, .unset, .unset, .unset] [])) (fun t k => castTop (ef_Of m a0) k) ?_
  obtain ⟨_, _, ⟨T1, L1, k1, n1⟩, -, X1, ⟨Lc1, hQ1, l1, y1, z1⟩, st1⟩ := Jvm.LawKit.callS X0 hx (y := (⟨"org/succession/Event$Kind", "values", "()[Lorg/succession/Event$Kind;"⟩ : MethodName)) hown (mvT hZ (hwi hw 73 rfl)) (mvT hZ (hwi hw 74 rfl)) (mvT hZ (hwi hw 71 rfl)) (mvT hZ (hwi hw 75 rfl)) (by decide) (backOf (W := 0) (rmVals l Z aV hw [] vv kV rc rm re h0 n0 Zn OL S_vals V_vv E_vv) hZ (hwi hw 75 rfl) (hwi hw 71 rfl) (by decide) (by decide)) (g := (mkF m 0 #[.val (.ref a0), .unset, .unset, .unset, .unset] [])) rfl (by rw [hml]; rfl) (argsL := []) (rest := []) (lenOf pd_2 rfl) rfl (by show 2 * 0 + _ ≤ _; exact Nat.le_of_eq rfl) (hb hby d15_0) (fun _ _ => ⟨rfl, e0, (by decide : 0 + 1 ≤ _), (by decide : 0 + 3 ≤ _)⟩)
  dsimp only [Pt.U, Pt.locs, Pt.cells, Pt.slots] at X1 l1 y1 z1 st1 hQ1
  replace l1 := l1.symm; replace y1 := y1.symm; replace z1 := z1.symm; subst l1 y1 z1
  obtain ⟨b1, kb1, rfl, N1q, K1, g_b1, z_b1, q1_0, q1_1⟩ := hQ1
  have ne_a0_b1 : a0 ≠ b1 := Nat.ne_of_lt (Nat.lt_of_lt_of_le E_a0.lt z_b1)
  have ne_t0_b1 : t0 ≠ b1 := Nat.ne_of_lt (Nat.lt_of_lt_of_le V_t0.lt z_b1)
  have sz_b1 : h0.size ≤ b1 := Nat.le_trans Kp.1 z_b1
  have OL := OL.keep K1 all0
  have E_a0 := E_a0.keep K1
  have F_coder_a0 := F_coder_a0.keep K1 nin0
  have F_value_a0 := F_value_a0.keep K1 nin0
  have V_t0 := V_t0.keep K1 nin0
  have V_b1 := q1_0
  have E_b1 := q1_1
  have Kp := Kp.trans K1 all0
  have Zn := Nat.le_trans Zn K1.1
  have N1 := Fr.app N0 N1q
  refine Run.st (S' := T1.setTop (mkF m 5 #[.val (.ref a0), .val (.ref b1), .unset, .unset, .unset] [(.ref b1)])) (fun _ k => st1 _ (XS.astoreN X1.here hx rfl (hb hby d15_3) rfl rfl (l' := #[.val (.ref a0), .val (.ref b1), .unset, .unset, .unset]) rfl (XS.aloadN X1.here hx rfl (hb hby d15_4) rfl rfl k))) ?_
  obtain ⟨cl2, Ar2, -, Sa2, Na2, -, -⟩ := id V_b1
  refine Run.st (S' := T1.setTop (mkF m 6 #[.val (.ref a0), .val (.ref b1), .unset, .unset, .unset] [(.int (3 : Int32))])) (fun _ k => X1.arraylength hx Ar2.1 (State.isArrayOf_alike hZ.alike Ar2.2.1) (g := (mkF m 5 #[.val (.ref a0), .val (.ref b1), .unset, .unset, .unset] [(.ref b1)])) rfl rfl (hb hby d15_5) _ (by rw [len_of Sa2 Na2]; exact k)) ?_
  refine Run.st (S' := T1.setTop (mkF m 16 #[.val (.ref a0), .val (.ref b1), .val (.int (3 : Int32)), .val (.int (0 : Int32)), .unset] [(.int (0 : Int32)), (.ref b1)])) (fun _ k => XS.istoreN X1.here hx rfl (hb hby d15_6) rfl (l' := #[.val (.ref a0), .val (.ref b1), .val (.int (3 : Int32)), .unset, .unset]) rfl (XS.iconst X1.here hx rfl (hb hby d15_7) (XS.istoreN X1.here hx rfl (hb hby d15_8) rfl (l' := #[.val (.ref a0), .val (.ref b1), .val (.int (3 : Int32)), .val (.int (0 : Int32)), .unset]) rfl (XS.iloadN X1.here hx rfl (hb hby d15_9) rfl (XS.iloadN X1.here hx rfl (hb hby d15_10) rfl (XS.icmpNo X1.here hx rfl (hb hby d15_11) rfl (tlt (show (0 : Int32) < (3 : Int32) from (by decide))).2.1 (XS.aloadN X1.here hx rfl (hb hby d15_14) rfl rfl (XS.iloadN X1.here hx rfl (hb hby d15_15) rfl k)))))))) ?_
  obtain ⟨cl3, Ar3, qa3, Sa3, Na3, Ha3, Ga3⟩ := id V_b1
  have hin3 : ¬ ((0 : Int32) < 0 ∨ cl3.slots.size ≤ ((0 : Int32)).toNatClampNeg) := inb_of Sa3 ⟨by decide, by decide⟩
  have hat3 : cl3.slots[((0 : Int32)).toNatClampNeg]? = some (.ref rc) := Has.at Ha3 hin3 rfl
  refine Run.st (S' := T1.setTop (mkF m 21 #[.val (.ref a0), .val (.ref b1), .val (.int (3 : Int32)), .val (.int (0 : Int32)), .val (.ref rc)] [(.ref rc)])) (fun _ k => X1.aaload hx (j := (0 : Int32)) (v := (.ref rc)) Ar3.1 (State.isArrayOf_alike hZ.alike Ar3.2.1) rfl Ar3.2.2 hin3 hat3 (g := (mkF m 16 #[.val (.ref a0), .val (.ref b1), .val (.int (3 : Int32)), .val (.int (0 : Int32)), .unset] [(.int (0 : Int32)), (.ref b1)])) rfl rfl (hb hby d15_16) _ (XS.astore X1.here hx rfl (hb hby d15_17) rfl rfl (l' := #[.val (.ref a0), .val (.ref b1), .val (.int (3 : Int32)), .val (.int (0 : Int32)), .val (.ref rc)]) rfl (XS.aload X1.here hx rfl (hb hby d15_19) rfl rfl k))) ?_
  have u_F_written_rc := F_written_rc.ext OL.2
  obtain ⟨T4, X4, e4, st4⟩ := getF X1 hx hZ hown (host := "") (Or.inl (hwi hw 91 rfl)) Via.refl rfl u_F_written_rc (g := (mkF m 21 #[.val (.ref a0), .val (.ref b1), .val (.int (3 : Int32)), .val (.int (0 : Int32)), .val (.ref rc)] [(.ref rc)])) rfl rfl (hb hby d15_21)
  refine Run.st (S' := T4.setTop (mkF m 25 #[.val (.ref a0), .val (.ref b1), .val (.int (3 : Int32)), .val (.int (0 : Int32)), .val (.ref rc)] [(.ref a0), (.ref lrc)])) (fun _ k => st4 _ (XS.aloadN X4.here hx rfl (hb hby d15_24) rfl rfl k)) ?_
  have u_E_lrc := E_lrc.ext OL.2
  have u_E_lrc := E_lrc.ext OL.2
  have u_F_coder_lrc := F_coder_lrc.ext OL.2
  have u_F_value_lrc := F_value_lrc.ext OL.2
  have u_V_tlrc := V_tlrc.ext OL.2
  have u_S_cs := S_cs.ext OL.2
  obtain ⟨cq5, kq5, q5a, q5b, q5c⟩ := isOf hZ e4 u_E_lrc
  obtain ⟨_, _, ⟨T5, L5, k5, n5⟩, -, X5, ⟨Lc5, hQ5, l5, y5, z5⟩, st5⟩ := X4.virtualBack hx (y := (⟨"java/lang/String", "equals", "(Ljava/lang/Object;)Z"⟩ : MethodName)) (z := (⟨"java/lang/String", "equals", "(Ljava/lang/Object;)Z"⟩ : MethodName)) hown (mvT hZ (hwi hw 93 rfl)) (mvT hZ (hwi hw 94 rfl)) (notFace_of_selects (args := #[]) (mvT hZ (hwi hw 96 rfl))) (mvT hZ (hwi hw 96 rfl)) (mvT hZ (hwi hw 95 rfl)) (by decide) (own_eqB (n0 := n0) (W := 0) hw hZ u_E_lrc u_F_value_lrc u_F_coder_lrc u_V_tlrc own_lit3_L1 E_a0 F_value_a0 F_coder_a0 V_t0 hL u_S_cs hzc (by decide) (by decide) (P := own_lit3 = cs) Iff.rfl) q5a q5c (g := (mkF m 25 #[.val (.ref a0), .val (.ref b1), .val (.int (3 : Int32)), .val (.int (0 : Int32)), .val (.ref rc)] [(.ref a0), (.ref lrc)])) rfl (by rw [hml]; rfl) (Steps.refl _) (argsL := [(.ref a0)]) (rest := []) (lenOf pd_3 rfl) rfl (by show 2 * 0 + _ ≤ _; exact Nat.le_of_eq rfl) (hb hby d15_25) (fun _ _ => ⟨rfl, e4, (by decide : 1 + 0 ≤ _), (by decide : 3 + 0 ≤ _)⟩)
  dsimp only [Pt.U, Pt.locs, Pt.cells, Pt.slots] at X5 l5 y5 z5 st5 hQ5
  replace l5 := l5.symm; replace y5 := y5.symm; replace z5 := z5.symm; subst l5 y5 z5
  obtain ⟨rfl, N5q, e5⟩ := hQ5
  have N5 := Fr.app N1 N5q
  refine Run.st (S' := T5.setTop (mkF m 28 #[.val (.ref a0), .val (.ref b1), .val (.int (3 : Int32)), .val (.int (0 : Int32)), .val (.ref rc)] [(.int (if own_lit3 = cs then (1 : Int32) else (0 : Int32)))])) (fun _ k => st5.trans k) ?_
  by_cases hk28_6 : own_lit3 = cs
  · refine Run.st (S' := T5.setTop (mkF m 33 #[.val (.ref a0), .val (.ref b1), .val (.int (3 : Int32)), .val (.int (0 : Int32)), .val (.ref rc)] [(.ref rc)])) (fun _ k => XS.ifNo X5.here hx rfl (hb hby d15_28) rfl ((if0 _ _).trans (feq (show ¬ ((if own_lit3 = cs then (1 : Int32) else (0 : Int32)) = (0 : Int32)) from (by rw [if_pos hk28_6]; decide))).1) (XS.aload X5.here hx rfl (hb hby d15_31) rfl rfl k)) ?_
    refine Run.out X5 hx Bd.notSynchronized Bd.returns rfl (Or.inr (Or.inr (Or.inr (Or.inr ⟨rfl, rfl, rfl⟩)))) (hb hby d15_33) (by decide) (by decide) ?_
    rw [e5]
    exact ⟨by rw [own_FK, if_pos hk28_6], N5, Kp⟩
  · refine Run.st (S' := T5.setTop (mkF m 16 #[.val (.ref a0), .val (.ref b1), .val (.int (3 : Int32)), .val (.int (1 : Int32)), .val (.ref rc)] [(.int (1 : Int32)), (.ref b1)])) (fun _ k => XS.ifYes X5.here hx rfl (pc0 := 28) (pc' := 34) rfl (hb hby d15_28) rfl ((if0 _ _).trans (teq (show (if own_lit3 = cs then (1 : Int32) else (0 : Int32)) = (0 : Int32) from (by rw [if_neg hk28_6]))).1) (by decide) (by decide) (XS.iinc X5.here hx rfl (hb hby d15_34) rfl (l' := #[.val (.ref a0), .val (.ref b1), .val (.int (3 : Int32)), .val (.int (1 : Int32)), .val (.ref rc)]) rfl (XS.goto X5.here hx rfl (pc0 := 37) (pc' := 9) rfl (hb hby d15_37) (by decide) (by decide) (XS.iloadN X5.here hx rfl (hb hby d15_9) rfl (XS.iloadN X5.here hx rfl (hb hby d15_10) rfl (XS.icmpNo X5.here hx rfl (hb hby d15_11) rfl (tlt (show (1 : Int32) < (3 : Int32) from (by decide))).2.1 (XS.aloadN X5.here hx rfl (hb hby d15_14) rfl rfl (XS.iloadN X5.here hx rfl (hb hby d15_15) rfl k)))))))) ?_
    obtain ⟨cl7, Ar7, qa7, Sa7, Na7, Ha7, Ga7⟩ := id V_b1
    have hin7 : ¬ ((1 : Int32) < 0 ∨ cl7.slots.size ≤ ((1 : Int32)).toNatClampNeg) := inb_of Sa7 ⟨by decide, by decide⟩
    have hat7 : cl7.slots[((1 : Int32)).toNatClampNeg]? = some (.ref rm) := Has.at Ha7 hin7 rfl
    refine Run.st (S' := T5.setTop (mkF m 21 #[.val (.ref a0), .val (.ref b1), .val (.int (3 : Int32)), .val (.int (1 : Int32)), .val (.ref rm)] [(.ref rm)])) (fun _ k => X5.aaload hx (j := (1 : Int32)) (v := (.ref rm)) (by rw [e5]; exact Ar7.1) (State.isArrayOf_alike hZ.alike Ar7.2.1) rfl Ar7.2.2 hin7 hat7 (g := (mkF m 16 #[.val (.ref a0), .val (.ref b1), .val (.int (3 : Int32)), .val (.int (1 : Int32)), .val (.ref rc)] [(.int (1 : Int32)), (.ref b1)])) rfl rfl (hb hby d15_16) _ (XS.astore X5.here hx rfl (hb hby d15_17) rfl rfl (l' := #[.val (.ref a0), .val (.ref b1), .val (.int (3 : Int32)), .val (.int (1 : Int32)), .val (.ref rm)]) rfl (XS.aload X5.here hx rfl (hb hby d15_19) rfl rfl k))) ?_
    have u_F_written_rm := F_written_rm.ext OL.2
    obtain ⟨T8, X8, e8, st8⟩ := getF X5 hx hZ hown (host := "") (Or.inl (hwi hw 91 rfl)) Via.refl e5 u_F_written_rm (g := (mkF m 21 #[.val (.ref a0), .val (.ref b1), .val (.int (3 : Int32)), .val (.int (1 : Int32)), .val (.ref rm)] [(.ref rm)])) rfl rfl (hb hby d15_21)
    refine Run.st (S' := T8.setTop (mkF m 25 #[.val (.ref a0), .val (.ref b1), .val (.int (3 : Int32)), .val (.int (1 : Int32)), .val (.ref rm)] [(.ref a0), (.ref lrm)])) (fun _ k => st8 _ (XS.aloadN X8.here hx rfl (hb hby d15_24) rfl rfl k)) ?_
    have u_E_lrm := E_lrm.ext OL.2
    have u_E_lrm := E_lrm.ext OL.2
    have u_F_coder_lrm := F_coder_lrm.ext OL.2
    have u_F_value_lrm := F_value_lrm.ext OL.2
    have u_V_tlrm := V_tlrm.ext OL.2
    have u_S_cs := S_cs.ext OL.2
    obtain ⟨cq9, kq9, q9a, q9b, q9c⟩ := isOf hZ e8 u_E_lrm
    obtain ⟨_, _, ⟨T9, L9, k9, n9⟩, -, X9, ⟨Lc9, hQ9, l9, y9, z9⟩, st9⟩ := X8.virtualBack hx (y := (⟨"java/lang/String", "equals", "(Ljava/lang/Object;)Z"⟩ : MethodName)) (z := (⟨"java/lang/String", "equals", "(Ljava/lang/Object;)Z"⟩ : MethodName)) hown (mvT hZ (hwi hw 93 rfl)) (mvT hZ (hwi hw 94 rfl)) (notFace_of_selects (args := #[]) (mvT hZ (hwi hw 96 rfl))) (mvT hZ (hwi hw 96 rfl)) (mvT hZ (hwi hw 95 rfl)) (by decide) (own_eqB (n0 := n0) (W := 0) hw hZ u_E_lrm u_F_value_lrm u_F_coder_lrm u_V_tlrm own_lit2_L1 E_a0 F_value_a0 F_coder_a0 V_t0 hL u_S_cs hzc (by decide) (by decide) (P := own_lit2 = cs) Iff.rfl) q9a q9c (g := (mkF m 25 #[.val (.ref a0), .val (.ref b1), .val (.int (3 : Int32)), .val (.int (1 : Int32)), .val (.ref rm)] [(.ref a0), (.ref lrm)])) rfl (by rw [hml]; rfl) (Steps.refl _) (argsL := [(.ref a0)]) (rest := []) (lenOf pd_3 rfl) rfl (by show 2 * 0 + _ ≤ _; exact Nat.le_of_eq rfl) (hb hby d15_25) (fun _ _ => ⟨rfl, e8, (by decide : 1 + 0 ≤ _), (by decide : 3 + 0 ≤ _)⟩)
    dsimp only [Pt.U, Pt.locs, Pt.cells, Pt.slots] at X9 l9 y9 z9 st9 hQ9
    replace l9 := l9.symm; replace y9 := y9.symm; replace z9 := z9.symm; subst l9 y9 z9
    obtain ⟨rfl, N9q, e9⟩ := hQ9
    have N9 := Fr.app N5 N9q
    refine Run.st (S' := T9.setTop (mkF m 28 #[.val (.ref a0), .val (.ref b1), .val (.int (3 : Int32)), .val (.int (1 : Int32)), .val (.ref rm)] [(.int (if own_lit2 = cs then (1 : Int32) else (0 : Int32)))])) (fun _ k => st9.trans k) ?_
    by_cases hk28_10 : own_lit2 = cs
    · refine Run.st (S' := T9.setTop (mkF m 33 #[.val (.ref a0), .val (.ref b1), .val (.int (3 : Int32)), .val (.int (1 : Int32)), .val (.ref rm)] [(.ref rm)])) (fun _ k => XS.ifNo X9.here hx rfl (hb hby d15_28) rfl ((if0 _ _).trans (feq (show ¬ ((if own_lit2 = cs then (1 : Int32) else (0 : Int32)) = (0 : Int32)) from (by rw [if_pos hk28_10]; decide))).1) (XS.aload X9.here hx rfl (hb hby d15_31) rfl rfl k)) ?_
      refine Run.out X9 hx Bd.notSynchronized Bd.returns rfl (Or.inr (Or.inr (Or.inr (Or.inr ⟨rfl, rfl, rfl⟩)))) (hb hby d15_33) (by decide) (by decide) ?_
      rw [e9]
      exact ⟨by rw [own_FK, if_neg hk28_6, if_pos hk28_10], N9, Kp⟩
    · refine Run.st (S' := T9.setTop (mkF m 16 #[.val (.ref a0), .val (.ref b1), .val (.int (3 : Int32)), .val (.int (2 : Int32)), .val (.ref rm)] [(.int (2 : Int32)), (.ref b1)])) (fun _ k => XS.ifYes X9.here hx rfl (pc0 := 28) (pc' := 34) rfl (hb hby d15_28) rfl ((if0 _ _).trans (teq (show (if own_lit2 = cs then (1 : Int32) else (0 : Int32)) = (0 : Int32) from (by rw [if_neg hk28_10]))).1) (by decide) (by decide) (XS.iinc X9.here hx rfl (hb hby d15_34) rfl (l' := #[.val (.ref a0), .val (.ref b1), .val (.int (3 : Int32)), .val (.int (2 : Int32)), .val (.ref rm)]) rfl (XS.goto X9.here hx rfl (pc0 := 37) (pc' := 9) rfl (hb hby d15_37) (by decide) (by decide) (XS.iloadN X9.here hx rfl (hb hby d15_9) rfl (XS.iloadN X9.here hx rfl (hb hby d15_10) rfl (XS.icmpNo X9.here hx rfl (hb hby d15_11) rfl (tlt (show (2 : Int32) < (3 : Int32) from (by decide))).2.1 (XS.aloadN X9.here hx rfl (hb hby d15_14) rfl rfl (XS.iloadN X9.here hx rfl (hb hby d15_15) rfl k)))))))) ?_
      obtain ⟨cl11, Ar11, qa11, Sa11, Na11, Ha11, Ga11⟩ := id V_b1
      have hin11 : ¬ ((2 : Int32) < 0 ∨ cl11.slots.size ≤ ((2 : Int32)).toNatClampNeg) := inb_of Sa11 ⟨by decide, by decide⟩
      have hat11 : cl11.slots[((2 : Int32)).toNatClampNeg]? = some (.ref re) := Has.at Ha11 hin11 rfl
      refine Run.st (S' := T9.setTop (mkF m 21 #[.val (.ref a0), .val (.ref b1), .val (.int (3 : Int32)), .val (.int (2 : Int32)), .val (.ref re)] [(.ref re)])) (fun _ k => X9.aaload hx (j := (2 : Int32)) (v := (.ref re)) (by rw [e9]; exact Ar11.1) (State.isArrayOf_alike hZ.alike Ar11.2.1) rfl Ar11.2.2 hin11 hat11 (g := (mkF m 16 #[.val (.ref a0), .val (.ref b1), .val (.int (3 : Int32)), .val (.int (2 : Int32)), .val (.ref rm)] [(.int (2 : Int32)), (.ref b1)])) rfl rfl (hb hby d15_16) _ (XS.astore X9.here hx rfl (hb hby d15_17) rfl rfl (l' := #[.val (.ref a0), .val (.ref b1), .val (.int (3 : Int32)), .val (.int (2 : Int32)), .val (.ref re)]) rfl (XS.aload X9.here hx rfl (hb hby d15_19) rfl rfl k))) ?_
      have u_F_written_re := F_written_re.ext OL.2
      obtain ⟨T12, X12, e12, st12⟩ := getF X9 hx hZ hown (host := "") (Or.inl (hwi hw 91 rfl)) Via.refl e9 u_F_written_re (g := (mkF m 21 #[.val (.ref a0), .val (.ref b1), .val (.int (3 : Int32)), .val (.int (2 : Int32)), .val (.ref re)] [(.ref re)])) rfl rfl (hb hby d15_21)
      refine Run.st (S' := T12.setTop (mkF m 25 #[.val (.ref a0), .val (.ref b1), .val (.int (3 : Int32)), .val (.int (2 : Int32)), .val (.ref re)] [(.ref a0), (.ref lre)])) (fun _ k => st12 _ (XS.aloadN X12.here hx rfl (hb hby d15_24) rfl rfl k)) ?_
      have u_E_lre := E_lre.ext OL.2
      have u_E_lre := E_lre.ext OL.2
      have u_F_coder_lre := F_coder_lre.ext OL.2
      have u_F_value_lre := F_value_lre.ext OL.2
      have u_V_tlre := V_tlre.ext OL.2
      have u_S_cs := S_cs.ext OL.2
      obtain ⟨cq13, kq13, q13a, q13b, q13c⟩ := isOf hZ e12 u_E_lre
      obtain ⟨_, _, ⟨T13, L13, k13, n13⟩, -, X13, ⟨Lc13, hQ13, l13, y13, z13⟩, st13⟩ := X12.virtualBack hx (y := (⟨"java/lang/String", "equals", "(Ljava/lang/Object;)Z"⟩ : MethodName)) (z := (⟨"java/lang/String", "equals", "(Ljava/lang/Object;)Z"⟩ : MethodName)) hown (mvT hZ (hwi hw 93 rfl)) (mvT hZ (hwi hw 94 rfl)) (notFace_of_selects (args := #[]) (mvT hZ (hwi hw 96 rfl))) (mvT hZ (hwi hw 96 rfl)) (mvT hZ (hwi hw 95 rfl)) (by decide) (own_eqB (n0 := n0) (W := 0) hw hZ u_E_lre u_F_value_lre u_F_coder_lre u_V_tlre own_lit1_L1 E_a0 F_value_a0 F_coder_a0 V_t0 hL u_S_cs hzc (by decide) (by decide) (P := own_lit1 = cs) Iff.rfl) q13a q13c (g := (mkF m 25 #[.val (.ref a0), .val (.ref b1), .val (.int (3 : Int32)), .val (.int (2 : Int32)), .val (.ref re)] [(.ref a0), (.ref lre)])) rfl (by rw [hml]; rfl) (Steps.refl _) (argsL := [(.ref a0)]) (rest := []) (lenOf pd_3 rfl) rfl (by show 2 * 0 + _ ≤ _; exact Nat.le_of_eq rfl) (hb hby d15_25) (fun _ _ => ⟨rfl, e12, (by decide : 1 + 0 ≤ _), (by decide : 3 + 0 ≤ _)⟩)
      dsimp only [Pt.U, Pt.locs, Pt.cells, Pt.slots] at X13 l13 y13 z13 st13 hQ13
      replace l13 := l13.symm; replace y13 := y13.symm; replace z13 := z13.symm; subst l13 y13 z13
      obtain ⟨rfl, N13q, e13⟩ := hQ13
      have N13 := Fr.app N9 N13q
      refine Run.st (S' := T13.setTop (mkF m 28 #[.val (.ref a0), .val (.ref b1), .val (.int (3 : Int32)), .val (.int (2 : Int32)), .val (.ref re)] [(.int (if own_lit1 = cs then (1 : Int32) else (0 : Int32)))])) (fun _ k => st13.trans k) ?_
      by_cases hk28_14 : own_lit1 = cs
      · refine Run.st (S' := T13.setTop (mkF m 33 #[.val (.ref a0), .val (.ref b1), .val (.int (3 : Int32)), .val (.int (2 : Int32)), .val (.ref re)] [(.ref re)])) (fun _ k => XS.ifNo X13.here hx rfl (hb hby d15_28) rfl ((if0 _ _).trans (feq (show ¬ ((if own_lit1 = cs then (1 : Int32) else (0 : Int32)) = (0 : Int32)) from (by rw [if_pos hk28_14]; decide))).1) (XS.aload X13.here hx rfl (hb hby d15_31) rfl rfl k)) ?_
        refine Run.out X13 hx Bd.notSynchronized Bd.returns rfl (Or.inr (Or.inr (Or.inr (Or.inr ⟨rfl, rfl, rfl⟩)))) (hb hby d15_33) (by decide) (by decide) ?_
        rw [e13]
        exact ⟨by rw [own_FK, if_neg hk28_6, if_neg hk28_10, if_pos hk28_14], N13, Kp⟩
      · refine Run.st (S' := T13.setTop (mkF m 41 #[.val (.ref a0), .val (.ref b1), .val (.int (3 : Int32)), .val (.int (3 : Int32)), .val (.ref re)] [.null])) (fun _ k => XS.ifYes X13.here hx rfl (pc0 := 28) (pc' := 34) rfl (hb hby d15_28) rfl ((if0 _ _).trans (teq (show (if own_lit1 = cs then (1 : Int32) else (0 : Int32)) = (0 : Int32) from (by rw [if_neg hk28_14]))).1) (by decide) (by decide) (XS.iinc X13.here hx rfl (hb hby d15_34) rfl (l' := #[.val (.ref a0), .val (.ref b1), .val (.int (3 : Int32)), .val (.int (3 : Int32)), .val (.ref re)]) rfl (XS.goto X13.here hx rfl (pc0 := 37) (pc' := 9) rfl (hb hby d15_37) (by decide) (by decide) (XS.iloadN X13.here hx rfl (hb hby d15_9) rfl (XS.iloadN X13.here hx rfl (hb hby d15_10) rfl (XS.icmpYes X13.here hx rfl (pc0 := 11) (pc' := 40) rfl (hb hby d15_11) rfl (flt (show ¬ ((3 : Int32) < (3 : Int32)) from (by decide))).2.1 (by decide) (by decide) (XS.aconstNull X13.here hx rfl (hb hby d15_40) k))))))) ?_
        refine Run.out X13 hx Bd.notSynchronized Bd.returns rfl (Or.inr (Or.inr (Or.inr (Or.inr ⟨rfl, rfl, rfl⟩)))) (hb hby d15_41) (by decide) (by decide) ?_
        rw [e13]
        exact ⟨by rw [own_FK, if_neg hk28_6, if_neg hk28_10, if_neg hk28_14], N13, Kp⟩
theorem d17_0 : decode jdk_42_method_66_code 0 = .ok (.aload_n 0, 1) := by decide +kernel
theorem d17_1 : decode jdk_42_method_66_code 1 = .ok (.aload_n 1, 1) := by decide +kernel
theorem d17_2 : decode jdk_42_method_66_code 2 = .ok (.if_acmp .ne 5, 3) := by decide +kernel
theorem d17_7 : decode jdk_42_method_66_code 7 = .ok (.aload_n 1, 1) := by decide +kernel
theorem d17_8 : decode jdk_42_method_66_code 8 = .ok (.instanceof 10, 3) := by decide +kernel
theorem d17_11 : decode jdk_42_method_66_code 11 = .ok (.ifCond .eq 43, 3) := by decide +kernel
theorem d17_54 : decode jdk_42_method_66_code 54 = .ok (.iconst 0, 1) := by decide +kernel
theorem d17_55 : decode jdk_42_method_66_code 55 = .ok (.ireturn, 1) := by decide +kernel
theorem pn_2 : plainName "java/lang/String" = true := by first | (simp [plainName, overriddenIn]; done) | decide +kernel
theorem ef_EqN (m : MethodId) (a0 : Addr) : entryFrame m #[(.ref a0), .null] 3 = mkF m 0 #[.val (.ref a0), .val .null, .unset] [] := by first | (simp [entryFrame, mkF, argsToLocals, Value.category]; done) | rfl
def QEqN (Z : State) (a0 : Addr) (h0 : Heap) (n0 : Nat) (v : Option Value) (h : Heap) (L : List Loc) : Prop := v = some (.int (0 : Int32)) ∧ Fr n0 L ∧ h = h0
set_option maxRecDepth 65536 in
set_option maxHeartbeats 40000000 in
theorem rmEqN (l : Launch) (Z : State) (aV : Array Value) (hw : ∀ d ∈ tables_1, d.before aV Z = true) (ws : List Jvm.Cond) (a0 : Addr) (h0 : Heap) (n0 : Nat) (Zn : n0 ≤ h0.size) (OL : Old Z n0 h0) :
    MetFree l (⟨"java/lang/String", "equals", "(Ljava/lang/Object;)Z"⟩ : MethodName) (head1 (Jvm.Cond.code (⟨"java/lang/String", "equals", "(Ljava/lang/Object;)Z"⟩ : MethodName) jdk_42_method_66_code 3 (some .boolean) :: ws) ({ frames := 0, cells := 0, slots := 0, locals := 0 } : Room)) (fun a U => a = #[(.ref a0), .null] ∧ Z.Warmed39 U.vm ∧ U.heap = h0) (fun _ _ _ _ _ => True) (fun _ U o U' => ∃ v L, o = .returned v ∧ QEqN Z a0 h0 n0 v U'.heap L ∧ FrameEnd U o U' L ({ frames := 0, cells := 0, slots := 0, locals := 0 } : Room).cells ({ frames := 0, cells := 0, slots := 0, locals := 0 } : Room).slots) := by
  refine MetFree.of_bodySF (plainFor_of_name pn_2) hisR ?_
  intro p e s m args below meth c s₁ Bd hml0 hP hK
  obtain ⟨rfl, hZ, hh⟩ := hP
  have hx := Bd.exec
  have hby := Bd.bytes
  have hml : c.maxLocals = 3 := hml0
  have hown : s.vm.findClass "java/lang/String" = some m.cls := findClass_of_methodNamed Bd.named
  have hnm := (name_of_methodNamed Bd.named Bd.method).1
  have X0 : Stand p l e ({ frames := 0, cells := 0, slots := 0, locals := 0 } : Room) s m #[(.ref a0), .null] below meth c s₁ [] 0 0 := Stand.of_body Bd
  have e0 : s₁.heap = h0 := by rw [← hh, Bd.state]; rfl
  have N0 := Fr.nil n0
  have Kp := Keep.refl h0 []
  show Run p e below (Ends s (QEqN Z a0 h0 n0) ({ frames := 0, cells := 0, slots := 0, locals := 0 } : Room).cells ({ frames := 0, cells := 0, slots := 0, locals := 0 } : Room).slots) _
  refine Run.st (S' := s₁.setTop (mkF m 0 #[.val (.ref a0), .val .null, .unset] [])) (fun t k => castTop (ef_EqN m a0) k) ?_
  refine Run.st (S' := s₁.setTop (mkF m 55 #[.val (.ref a0), .val .null, .unset] [(.int (0 : Int32))])) (fun _ k => XS.aloadN X0.here hx rfl (hb hby d17_0) rfl rfl (XS.aloadN X0.here hx rfl (hb hby d17_1) rfl rfl (Jvm.RoadKit.acmp (g := (mkF m 2 #[.val (.ref a0), .val .null, .unset] [.null, (.ref a0)])) X0 hx rfl rfl rfl (pc0 := 2) (pc' := 7) (same := false) rfl (hb hby d17_2) rfl (decide_eq_false nofun) (by decide) (by decide) (XS.aloadN X0.here hx rfl (hb hby d17_7) rfl rfl (X0.instanceofNull hx (g := (mkF m 8 #[.val (.ref a0), .val .null, .unset] [.null])) rfl rfl (hb hby d17_8) _ (XS.ifYes X0.here hx rfl (pc0 := 11) (pc' := 54) rfl (hb hby d17_11) rfl ((if0 _ _).trans (teq (show (0 : Int32) = (0 : Int32) from (by decide))).1) (by decide) (by decide) (XS.iconst X0.here hx rfl (hb hby d17_54) k))))))) ?_
  refine Run.out X0 hx Bd.notSynchronized Bd.returns rfl (Or.inl ⟨rfl, by simp, _, rfl⟩) (hb hby d17_55) (by decide) (by decide) ?_
  rw [e0]
  exact ⟨rfl, N0, rfl⟩
theorem ef_OfN (m : MethodId)  : entryFrame m #[.null] 5 = mkF m 0 #[.val .null, .unset, .unset, .unset, .unset] [] := by first | (simp [entryFrame, mkF, argsToLocals, Value.category]; done) | rfl
def QOfN (Z : State) (vv : Addr) (kV : ClassId) (rc : Addr) (rm : Addr) (re : Addr) (lrc : Addr) (tlrc : Addr) (klrc : ClassId) (lrm : Addr) (tlrm : Addr) (klrm : ClassId) (lre : Addr) (tlre : Addr) (klre : ClassId) (h0 : Heap) (n0 : Nat) (v : Option Value) (h : Heap) (L : List Loc) : Prop := v = some .null ∧ Fr n0 L ∧ Keep h0 h []
set_option maxRecDepth 65536 in
set_option maxHeartbeats 40000000 in
theorem rmOfN (l : Launch) (Z : State) (aV : Array Value) (hw : ∀ d ∈ tables_1, d.before aV Z = true) (ws : List Jvm.Cond) (vv : Addr) (kV : ClassId) (rc : Addr) (rm : Addr) (re : Addr) (lrc : Addr) (tlrc : Addr) (klrc : ClassId) (lrm : Addr) (tlrm : Addr) (klrm : ClassId) (lre : Addr) (tlre : Addr) (klre : ClassId) (h0 : Heap) (n0 : Nat) (Zn : n0 ≤ h0.size) (OL : Old Z n0 h0) (S_vals : Sta Z Z.heap "org/succession/Event$Kind" "$VALUES" "[Lorg/succession/Event$Kind;" (.ref vv)) (V_vv : Arv Z Z.heap vv kV (.object "org/succession/Event$Kind") (3 : Int32) [(.ref rc), (.ref rm), (.ref re)] .null) (E_vv : Exa Z Z.heap vv "[Lorg/succession/Event$Kind;") (F_written_rc : Fld Z Z.heap rc "org/succession/Event$Kind" "written" "Ljava/lang/String;" (.ref lrc)) (E_lrc : Exa Z Z.heap lrc "java/lang/String") (F_coder_lrc : Fld Z Z.heap lrc "java/lang/String" "coder" "B" (.int (0 : Int32))) (F_value_lrc : Fld Z Z.heap lrc "java/lang/String" "value" "[B" (.ref tlrc)) (V_tlrc : Arv Z Z.heap tlrc klrc .byte (Int32.ofNat own_lit3.length) ((own_bs own_lit3).map Value.int) (.int (0 : Int32))) (F_written_rm : Fld Z Z.heap rm "org/succession/Event$Kind" "written" "Ljava/lang/String;" (.ref lrm)) (E_lrm : Exa Z Z.heap lrm "java/lang/String") (F_coder_lrm : Fld Z Z.heap lrm "java/lang/String" "coder" "B" (.int (0 : Int32))) (F_value_lrm : Fld Z Z.heap lrm "java/lang/String" "value" "[B" (.ref tlrm)) (V_tlrm : Arv Z Z.heap tlrm klrm .byte (Int32.ofNat own_lit2.length) ((own_bs own_lit2).map Value.int) (.int (0 : Int32))) (F_written_re : Fld Z Z.heap re "org/succession/Event$Kind" "written" "Ljava/lang/String;" (.ref lre)) (E_lre : Exa Z Z.heap lre "java/lang/String") (F_coder_lre : Fld Z Z.heap lre "java/lang/String" "coder" "B" (.int (0 : Int32))) (F_value_lre : Fld Z Z.heap lre "java/lang/String" "value" "[B" (.ref tlre)) (V_tlre : Arv Z Z.heap tlre klre .byte (Int32.ofNat own_lit1.length) ((own_bs own_lit1).map Value.int) (.int (0 : Int32))) :
    MetFree l (⟨"org/succession/Event$Kind", "of", "(Ljava/lang/String;)Lorg/succession/Event$Kind;"⟩ : MethodName) (head1 (Jvm.Cond.code (⟨"org/succession/Event$Kind", "of", "(Ljava/lang/String;)Lorg/succession/Event$Kind;"⟩ : MethodName) prog_8_method_5_code 5 (some (.object "org/succession/Event$Kind")) :: ws) ({ frames := 2, cells := 1, slots := 3, locals := 25 } : Room)) (fun a U => a = #[.null] ∧ Z.Warmed39 U.vm ∧ U.heap = h0) (fun _ _ _ _ _ => True) (fun _ U o U' => ∃ v L, o = .returned v ∧ QOfN Z vv kV rc rm re lrc tlrc klrc lrm tlrm klrm lre tlre klre h0 n0 v U'.heap L ∧ FrameEnd U o U' L ({ frames := 2, cells := 1, slots := 3, locals := 25 } : Room).cells ({ frames := 2, cells := 1, slots := 3, locals := 25 } : Room).slots) := by
  refine MetFree.of_bodySF (plainFor_of_name pn_1) hisR ?_
  intro p e s m args below meth c s₁ Bd hml0 hP hK
  obtain ⟨rfl, hZ, hh⟩ := hP
  have hx := Bd.exec
  have hby := Bd.bytes
  have hml : c.maxLocals = 5 := hml0
  have hown : s.vm.findClass "org/succession/Event$Kind" = some m.cls := findClass_of_methodNamed Bd.named
  have hnm := (name_of_methodNamed Bd.named Bd.method).1
  have X0 : Stand p l e ({ frames := 2, cells := 1, slots := 3, locals := 25 } : Room) s m #[.null] below meth c s₁ [] 0 0 := Stand.of_body Bd
  have e0 : s₁.heap = h0 := by rw [← hh, Bd.state]; rfl
  have N0 := Fr.nil n0
  have Kp := Keep.refl h0 []
  show Run p e below (Ends s (QOfN Z vv kV rc rm re lrc tlrc klrc lrm tlrm klrm lre tlre klre h0 n0) ({ frames := 2, cells := 1, slots := 3, locals := 25 } : Room).cells ({ frames := 2, cells := 1, slots := 3, locals := 25 } : Room).slots) _
  refine Run.st (S' := s₁.setTop (mkF m 0 #[.val .null, .unset, .unset, .unset, .unset] [])) (fun t k => castTop (ef_OfN m ) k) ?_
  obtain ⟨_, _, ⟨T1, L1, k1, n1⟩, -, X1, ⟨Lc1, hQ1, l1, y1, z1⟩, st1⟩ := Jvm.LawKit.callS X0 hx (y := (⟨"org/succession/Event$Kind", "values", "()[Lorg/succession/Event$Kind;"⟩ : MethodName)) hown (mvT hZ (hwi hw 73 rfl)) (mvT hZ (hwi hw 74 rfl)) (mvT hZ (hwi hw 71 rfl)) (mvT hZ (hwi hw 75 rfl)) (by decide) (backOf (W := 0) (rmVals l Z aV hw [] vv kV rc rm re h0 n0 Zn OL S_vals V_vv E_vv) hZ (hwi hw 75 rfl) (hwi hw 71 rfl) (by decide) (by decide)) (g := (mkF m 0 #[.val .null, .unset, .unset, .unset, .unset] [])) rfl (by rw [hml]; rfl) (argsL := []) (rest := []) (lenOf pd_2 rfl) rfl (by show 2 * 0 + _ ≤ _; exact Nat.le_of_eq rfl) (hb hby d15_0) (fun _ _ => ⟨rfl, e0, (by decide : 0 + 1 ≤ _), (by decide : 0 + 3 ≤ _)⟩)
  dsimp only [Pt.U, Pt.locs, Pt.cells, Pt.slots] at X1 l1 y1 z1 st1 hQ1
  replace l1 := l1.symm; replace y1 := y1.symm; replace z1 := z1.symm; subst l1 y1 z1
  obtain ⟨b1, kb1, rfl, N1q, K1, g_b1, z_b1, q1_0, q1_1⟩ := hQ1
  have sz_b1 : h0.size ≤ b1 := Nat.le_trans Kp.1 z_b1
  have OL := OL.keep K1 all0
  have V_b1 := q1_0
  have E_b1 := q1_1
  have Kp := Kp.trans K1 all0
  have Zn := Nat.le_trans Zn K1.1
  have N1 := Fr.app N0 N1q
  refine Run.st (S' := T1.setTop (mkF m 5 #[.val .null, .val (.ref b1), .unset, .unset, .unset] [(.ref b1)])) (fun _ k => st1 _ (XS.astoreN X1.here hx rfl (hb hby d15_3) rfl rfl (l' := #[.val .null, .val (.ref b1), .unset, .unset, .unset]) rfl (XS.aloadN X1.here hx rfl (hb hby d15_4) rfl rfl k))) ?_
  obtain ⟨cl2, Ar2, -, Sa2, Na2, -, -⟩ := id V_b1
  refine Run.st (S' := T1.setTop (mkF m 6 #[.val .null, .val (.ref b1), .unset, .unset, .unset] [(.int (3 : Int32))])) (fun _ k => X1.arraylength hx Ar2.1 (State.isArrayOf_alike hZ.alike Ar2.2.1) (g := (mkF m 5 #[.val .null, .val (.ref b1), .unset, .unset, .unset] [(.ref b1)])) rfl rfl (hb hby d15_5) _ (by rw [len_of Sa2 Na2]; exact k)) ?_
  refine Run.st (S' := T1.setTop (mkF m 16 #[.val .null, .val (.ref b1), .val (.int (3 : Int32)), .val (.int (0 : Int32)), .unset] [(.int (0 : Int32)), (.ref b1)])) (fun _ k => XS.istoreN X1.here hx rfl (hb hby d15_6) rfl (l' := #[.val .null, .val (.ref b1), .val (.int (3 : Int32)), .unset, .unset]) rfl (XS.iconst X1.here hx rfl (hb hby d15_7) (XS.istoreN X1.here hx rfl (hb hby d15_8) rfl (l' := #[.val .null, .val (.ref b1), .val (.int (3 : Int32)), .val (.int (0 : Int32)), .unset]) rfl (XS.iloadN X1.here hx rfl (hb hby d15_9) rfl (XS.iloadN X1.here hx rfl (hb hby d15_10) rfl (XS.icmpNo X1.here hx rfl (hb hby d15_11) rfl (tlt (show (0 : Int32) < (3 : Int32) from (by decide))).2.1 (XS.aloadN X1.here hx rfl (hb hby d15_14) rfl rfl (XS.iloadN X1.here hx rfl (hb hby d15_15) rfl k)))))))) ?_
  obtain ⟨cl3, Ar3, qa3, Sa3, Na3, Ha3, Ga3⟩ := id V_b1
  have hin3 : ¬ ((0 : Int32) < 0 ∨ cl3.slots.size ≤ ((0 : Int32)).toNatClampNeg) := inb_of Sa3 ⟨by decide, by decide⟩
  have hat3 : cl3.slots[((0 : Int32)).toNatClampNeg]? = some (.ref rc) := Has.at Ha3 hin3 rfl
  refine Run.st (S' := T1.setTop (mkF m 21 #[.val .null, .val (.ref b1), .val (.int (3 : Int32)), .val (.int (0 : Int32)), .val (.ref rc)] [(.ref rc)])) (fun _ k => X1.aaload hx (j := (0 : Int32)) (v := (.ref rc)) Ar3.1 (State.isArrayOf_alike hZ.alike Ar3.2.1) rfl Ar3.2.2 hin3 hat3 (g := (mkF m 16 #[.val .null, .val (.ref b1), .val (.int (3 : Int32)), .val (.int (0 : Int32)), .unset] [(.int (0 : Int32)), (.ref b1)])) rfl rfl (hb hby d15_16) _ (XS.astore X1.here hx rfl (hb hby d15_17) rfl rfl (l' := #[.val .null, .val (.ref b1), .val (.int (3 : Int32)), .val (.int (0 : Int32)), .val (.ref rc)]) rfl (XS.aload X1.here hx rfl (hb hby d15_19) rfl rfl k))) ?_
  have u_F_written_rc := F_written_rc.ext OL.2
  obtain ⟨T4, X4, e4, st4⟩ := getF X1 hx hZ hown (host := "") (Or.inl (hwi hw 91 rfl)) Via.refl rfl u_F_written_rc (g := (mkF m 21 #[.val .null, .val (.ref b1), .val (.int (3 : Int32)), .val (.int (0 : Int32)), .val (.ref rc)] [(.ref rc)])) rfl rfl (hb hby d15_21)
  refine Run.st (S' := T4.setTop (mkF m 25 #[.val .null, .val (.ref b1), .val (.int (3 : Int32)), .val (.int (0 : Int32)), .val (.ref rc)] [.null, (.ref lrc)])) (fun _ k => st4 _ (XS.aloadN X4.here hx rfl (hb hby d15_24) rfl rfl k)) ?_
  have u_E_lrc := E_lrc.ext OL.2
  obtain ⟨cq5, kq5, q5a, q5b, q5c⟩ := isOf hZ e4 u_E_lrc
  obtain ⟨_, _, ⟨T5, L5, k5, n5⟩, -, X5, ⟨Lc5, hQ5, l5, y5, z5⟩, st5⟩ := X4.virtualBack hx (y := (⟨"java/lang/String", "equals", "(Ljava/lang/Object;)Z"⟩ : MethodName)) (z := (⟨"java/lang/String", "equals", "(Ljava/lang/Object;)Z"⟩ : MethodName)) hown (mvT hZ (hwi hw 93 rfl)) (mvT hZ (hwi hw 94 rfl)) (notFace_of_selects (args := #[]) (mvT hZ (hwi hw 96 rfl))) (mvT hZ (hwi hw 96 rfl)) (mvT hZ (hwi hw 95 rfl)) (by decide) (backOf (W := 0) (rmEqN l Z aV hw [] lrc T1.heap n0 Zn OL) hZ (hwi hw 97 rfl) (hwi hw 1 rfl) (by decide) (by decide)) q5a q5c (g := (mkF m 25 #[.val .null, .val (.ref b1), .val (.int (3 : Int32)), .val (.int (0 : Int32)), .val (.ref rc)] [.null, (.ref lrc)])) rfl (by rw [hml]; rfl) (Steps.refl _) (argsL := [.null]) (rest := []) (lenOf pd_3 rfl) rfl (by show 2 * 0 + _ ≤ _; exact Nat.le_of_eq rfl) (hb hby d15_25) (fun _ _ => ⟨rfl, e4, (by decide : 1 + 0 ≤ _), (by decide : 3 + 0 ≤ _)⟩)
  dsimp only [Pt.U, Pt.locs, Pt.cells, Pt.slots] at X5 l5 y5 z5 st5 hQ5
  replace l5 := l5.symm; replace y5 := y5.symm; replace z5 := z5.symm; subst l5 y5 z5
  obtain ⟨rfl, N5q, e5⟩ := hQ5
  have N5 := Fr.app N1 N5q
  refine Run.st (S' := T5.setTop (mkF m 15 #[.val .null, .val (.ref b1), .val (.int (3 : Int32)), .val (.int (1 : Int32)), .val (.ref rc)] [(.ref b1)])) (fun _ k => st5.trans (XS.ifYes X5.here hx rfl (pc0 := 28) (pc' := 34) rfl (hb hby d15_28) rfl ((if0 _ _).trans (teq (show (0 : Int32) = (0 : Int32) from (by decide))).1) (by decide) (by decide) (XS.iinc X5.here hx rfl (hb hby d15_34) rfl (l' := #[.val .null, .val (.ref b1), .val (.int (3 : Int32)), .val (.int (1 : Int32)), .val (.ref rc)]) rfl (XS.goto X5.here hx rfl (pc0 := 37) (pc' := 9) rfl (hb hby d15_37) (by decide) (by decide) (XS.iloadN X5.here hx rfl (hb hby d15_9) rfl (XS.iloadN X5.here hx rfl (hb hby d15_10) rfl (XS.icmpNo X5.here hx rfl (hb hby d15_11) rfl (tlt (show (1 : Int32) < (3 : Int32) from (by decide))).2.1 (XS.aloadN X5.here hx rfl (hb hby d15_14) rfl rfl k)))))))) ?_
  refine Run.st (S' := T5.setTop (mkF m 16 #[.val .null, .val (.ref b1), .val (.int (3 : Int32)), .val (.int (1 : Int32)), .val (.ref rc)] [(.int (1 : Int32)), (.ref b1)])) (fun _ k => XS.iloadN X5.here hx rfl (hb hby d15_15) rfl k) ?_
  obtain ⟨cl6, Ar6, qa6, Sa6, Na6, Ha6, Ga6⟩ := id V_b1
  have hin6 : ¬ ((1 : Int32) < 0 ∨ cl6.slots.size ≤ ((1 : Int32)).toNatClampNeg) := inb_of Sa6 ⟨by decide, by decide⟩
  have hat6 : cl6.slots[((1 : Int32)).toNatClampNeg]? = some (.ref rm) := Has.at Ha6 hin6 rfl
  refine Run.st (S' := T5.setTop (mkF m 21 #[.val .null, .val (.ref b1), .val (.int (3 : Int32)), .val (.int (1 : Int32)), .val (.ref rm)] [(.ref rm)])) (fun _ k => X5.aaload hx (j := (1 : Int32)) (v := (.ref rm)) (by rw [e5]; exact Ar6.1) (State.isArrayOf_alike hZ.alike Ar6.2.1) rfl Ar6.2.2 hin6 hat6 (g := (mkF m 16 #[.val .null, .val (.ref b1), .val (.int (3 : Int32)), .val (.int (1 : Int32)), .val (.ref rc)] [(.int (1 : Int32)), (.ref b1)])) rfl rfl (hb hby d15_16) _ (XS.astore X5.here hx rfl (hb hby d15_17) rfl rfl (l' := #[.val .null, .val (.ref b1), .val (.int (3 : Int32)), .val (.int (1 : Int32)), .val (.ref rm)]) rfl (XS.aload X5.here hx rfl (hb hby d15_19) rfl rfl k))) ?_
  have u_F_written_rm := F_written_rm.ext OL.2
  obtain ⟨T7, X7, e7, st7⟩ := getF X5 hx hZ hown (host := "") (Or.inl (hwi hw 91 rfl)) Via.refl e5 u_F_written_rm (g := (mkF m 21 #[.val .null, .val (.ref b1), .val (.int (3 : Int32)), .val (.int (1 : Int32)), .val (.ref rm)] [(.ref rm)])) rfl rfl (hb hby d15_21)
  refine Run.st (S' := T7.setTop (mkF m 25 #[.val .null, .val (.ref b1), .val (.int (3 : Int32)), .val (.int (1 : Int32)), .val (.ref rm)] [.null, (.ref lrm)])) (fun _ k => st7 _ (XS.aloadN X7.here hx rfl (hb hby d15_24) rfl rfl k)) ?_
  have u_E_lrm := E_lrm.ext OL.2
  obtain ⟨cq8, kq8, q8a, q8b, q8c⟩ := isOf hZ e7 u_E_lrm
  obtain ⟨_, _, ⟨T8, L8, k8, n8⟩, -, X8, ⟨Lc8, hQ8, l8, y8, z8⟩, st8⟩ := X7.virtualBack hx (y := (⟨"java/lang/String", "equals", "(Ljava/lang/Object;)Z"⟩ : MethodName)) (z := (⟨"java/lang/String", "equals", "(Ljava/lang/Object;)Z"⟩ : MethodName)) hown (mvT hZ (hwi hw 93 rfl)) (mvT hZ (hwi hw 94 rfl)) (notFace_of_selects (args := #[]) (mvT hZ (hwi hw 96 rfl))) (mvT hZ (hwi hw 96 rfl)) (mvT hZ (hwi hw 95 rfl)) (by decide) (backOf (W := 0) (rmEqN l Z aV hw [] lrm T1.heap n0 Zn OL) hZ (hwi hw 97 rfl) (hwi hw 1 rfl) (by decide) (by decide)) q8a q8c (g := (mkF m 25 #[.val .null, .val (.ref b1), .val (.int (3 : Int32)), .val (.int (1 : Int32)), .val (.ref rm)] [.null, (.ref lrm)])) rfl (by rw [hml]; rfl) (Steps.refl _) (argsL := [.null]) (rest := []) (lenOf pd_3 rfl) rfl (by show 2 * 0 + _ ≤ _; exact Nat.le_of_eq rfl) (hb hby d15_25) (fun _ _ => ⟨rfl, e7, (by decide : 1 + 0 ≤ _), (by decide : 3 + 0 ≤ _)⟩)
  dsimp only [Pt.U, Pt.locs, Pt.cells, Pt.slots] at X8 l8 y8 z8 st8 hQ8
  replace l8 := l8.symm; replace y8 := y8.symm; replace z8 := z8.symm; subst l8 y8 z8
  obtain ⟨rfl, N8q, e8⟩ := hQ8
  have N8 := Fr.app N5 N8q
  refine Run.st (S' := T8.setTop (mkF m 15 #[.val .null, .val (.ref b1), .val (.int (3 : Int32)), .val (.int (2 : Int32)), .val (.ref rm)] [(.ref b1)])) (fun _ k => st8.trans (XS.ifYes X8.here hx rfl (pc0 := 28) (pc' := 34) rfl (hb hby d15_28) rfl ((if0 _ _).trans (teq (show (0 : Int32) = (0 : Int32) from (by decide))).1) (by decide) (by decide) (XS.iinc X8.here hx rfl (hb hby d15_34) rfl (l' := #[.val .null, .val (.ref b1), .val (.int (3 : Int32)), .val (.int (2 : Int32)), .val (.ref rm)]) rfl (XS.goto X8.here hx rfl (pc0 := 37) (pc' := 9) rfl (hb hby d15_37) (by decide) (by decide) (XS.iloadN X8.here hx rfl (hb hby d15_9) rfl (XS.iloadN X8.here hx rfl (hb hby d15_10) rfl (XS.icmpNo X8.here hx rfl (hb hby d15_11) rfl (tlt (show (2 : Int32) < (3 : Int32) from (by decide))).2.1 (XS.aloadN X8.here hx rfl (hb hby d15_14) rfl rfl k)))))))) ?_
  refine Run.st (S' := T8.setTop (mkF m 16 #[.val .null, .val (.ref b1), .val (.int (3 : Int32)), .val (.int (2 : Int32)), .val (.ref rm)] [(.int (2 : Int32)), (.ref b1)])) (fun _ k => XS.iloadN X8.here hx rfl (hb hby d15_15) rfl k) ?_
  obtain ⟨cl9, Ar9, qa9, Sa9, Na9, Ha9, Ga9⟩ := id V_b1
  have hin9 : ¬ ((2 : Int32) < 0 ∨ cl9.slots.size ≤ ((2 : Int32)).toNatClampNeg) := inb_of Sa9 ⟨by decide, by decide⟩
  have hat9 : cl9.slots[((2 : Int32)).toNatClampNeg]? = some (.ref re) := Has.at Ha9 hin9 rfl
  refine Run.st (S' := T8.setTop (mkF m 21 #[.val .null, .val (.ref b1), .val (.int (3 : Int32)), .val (.int (2 : Int32)), .val (.ref re)] [(.ref re)])) (fun _ k => X8.aaload hx (j := (2 : Int32)) (v := (.ref re)) (by rw [e8]; exact Ar9.1) (State.isArrayOf_alike hZ.alike Ar9.2.1) rfl Ar9.2.2 hin9 hat9 (g := (mkF m 16 #[.val .null, .val (.ref b1), .val (.int (3 : Int32)), .val (.int (2 : Int32)), .val (.ref rm)] [(.int (2 : Int32)), (.ref b1)])) rfl rfl (hb hby d15_16) _ (XS.astore X8.here hx rfl (hb hby d15_17) rfl rfl (l' := #[.val .null, .val (.ref b1), .val (.int (3 : Int32)), .val (.int (2 : Int32)), .val (.ref re)]) rfl (XS.aload X8.here hx rfl (hb hby d15_19) rfl rfl k))) ?_
  have u_F_written_re := F_written_re.ext OL.2
  obtain ⟨T10, X10, e10, st10⟩ := getF X8 hx hZ hown (host := "") (Or.inl (hwi hw 91 rfl)) Via.refl e8 u_F_written_re (g := (mkF m 21 #[.val .null, .val (.ref b1), .val (.int (3 : Int32)), .val (.int (2 : Int32)), .val (.ref re)] [(.ref re)])) rfl rfl (hb hby d15_21)
  refine Run.st (S' := T10.setTop (mkF m 25 #[.val .null, .val (.ref b1), .val (.int (3 : Int32)), .val (.int (2 : Int32)), .val (.ref re)] [.null, (.ref lre)])) (fun _ k => st10 _ (XS.aloadN X10.here hx rfl (hb hby d15_24) rfl rfl k)) ?_
  have u_E_lre := E_lre.ext OL.2
  obtain ⟨cq11, kq11, q11a, q11b, q11c⟩ := isOf hZ e10 u_E_lre
  obtain ⟨_, _, ⟨T11, L11, k11, n11⟩, -, X11, ⟨Lc11, hQ11, l11, y11, z11⟩, st11⟩ := X10.virtualBack hx (y := (⟨"java/lang/String", "equals", "(Ljava/lang/Object;)Z"⟩ : MethodName)) (z := (⟨"java/lang/String", "equals", "(Ljava/lang/Object;)Z"⟩ : MethodName)) hown (mvT hZ (hwi hw 93 rfl)) (mvT hZ (hwi hw 94 rfl)) (notFace_of_selects (args := #[]) (mvT hZ (hwi hw 96 rfl))) (mvT hZ (hwi hw 96 rfl)) (mvT hZ (hwi hw 95 rfl)) (by decide) (backOf (W := 0) (rmEqN l Z aV hw [] lre T1.heap n0 Zn OL) hZ (hwi hw 97 rfl) (hwi hw 1 rfl) (by decide) (by decide)) q11a q11c (g := (mkF m 25 #[.val .null, .val (.ref b1), .val (.int (3 : Int32)), .val (.int (2 : Int32)), .val (.ref re)] [.null, (.ref lre)])) rfl (by rw [hml]; rfl) (Steps.refl _) (argsL := [.null]) (rest := []) (lenOf pd_3 rfl) rfl (by show 2 * 0 + _ ≤ _; exact Nat.le_of_eq rfl) (hb hby d15_25) (fun _ _ => ⟨rfl, e10, (by decide : 1 + 0 ≤ _), (by decide : 3 + 0 ≤ _)⟩)
  dsimp only [Pt.U, Pt.locs, Pt.cells, Pt.slots] at X11 l11 y11 z11 st11 hQ11
  replace l11 := l11.symm; replace y11 := y11.symm; replace z11 := z11.symm; subst l11 y11 z11
  obtain ⟨rfl, N11q, e11⟩ := hQ11
  have N11 := Fr.app N8 N11q
  refine Run.st (S' := T11.setTop (mkF m 41 #[.val .null, .val (.ref b1), .val (.int (3 : Int32)), .val (.int (3 : Int32)), .val (.ref re)] [.null])) (fun _ k => st11.trans (XS.ifYes X11.here hx rfl (pc0 := 28) (pc' := 34) rfl (hb hby d15_28) rfl ((if0 _ _).trans (teq (show (0 : Int32) = (0 : Int32) from (by decide))).1) (by decide) (by decide) (XS.iinc X11.here hx rfl (hb hby d15_34) rfl (l' := #[.val .null, .val (.ref b1), .val (.int (3 : Int32)), .val (.int (3 : Int32)), .val (.ref re)]) rfl (XS.goto X11.here hx rfl (pc0 := 37) (pc' := 9) rfl (hb hby d15_37) (by decide) (by decide) (XS.iloadN X11.here hx rfl (hb hby d15_9) rfl (XS.iloadN X11.here hx rfl (hb hby d15_10) rfl (XS.icmpYes X11.here hx rfl (pc0 := 11) (pc' := 40) rfl (hb hby d15_11) rfl (flt (show ¬ ((3 : Int32) < (3 : Int32)) from (by decide))).2.1 (by decide) (by decide) (XS.aconstNull X11.here hx rfl (hb hby d15_40) k)))))))) ?_
  refine Run.out X11 hx Bd.notSynchronized Bd.returns rfl (Or.inr (Or.inr (Or.inr (Or.inr ⟨rfl, rfl, rfl⟩)))) (hb hby d15_41) (by decide) (by decide) ?_
  rw [e11]
  exact ⟨rfl, N11, Kp⟩
theorem d10_0 : decode jdk_42_method_149_code 0 = .ok (.aload_n 0, 1) := by decide +kernel
theorem d10_1 : decode jdk_42_method_149_code 1 = .ok (.invokespecial 1, 3) := by decide +kernel
theorem d10_4 : decode jdk_42_method_149_code 4 = .ok (.iload_n 3, 1) := by decide +kernel
theorem d10_5 : decode jdk_42_method_149_code 5 = .ok (.ifCond .ne 22, 3) := by decide +kernel
theorem d10_8 : decode jdk_42_method_149_code 8 = .ok (.aload_n 0, 1) := by decide +kernel
theorem d10_9 : decode jdk_42_method_149_code 9 = .ok (.ldc 7, 2) := by decide +kernel
theorem d10_11 : decode jdk_42_method_149_code 11 = .ok (.getfield 9, 3) := by decide +kernel
theorem d10_14 : decode jdk_42_method_149_code 14 = .ok (.putfield 9, 3) := by decide +kernel
theorem d10_17 : decode jdk_42_method_149_code 17 = .ok (.aload_n 0, 1) := by decide +kernel
theorem d10_18 : decode jdk_42_method_149_code 18 = .ok (.ldc 7, 2) := by decide +kernel
theorem d10_20 : decode jdk_42_method_149_code 20 = .ok (.getfield 15, 3) := by decide +kernel
theorem d10_23 : decode jdk_42_method_149_code 23 = .ok (.putfield 15, 3) := by decide +kernel
theorem d10_26 : decode jdk_42_method_149_code 26 = .ok (.return_, 1) := by decide +kernel
theorem ef_Ini4 (m : MethodId) (a0 : Addr) (a1 : Addr) (p2 : Int32) (p3 : Int32) : entryFrame m #[(.ref a0), (.ref a1), (.int p2), (.int p3), .null] 6 = mkF m 0 #[.val (.ref a0), .val (.ref a1), .val (.int p2), .val (.int p3), .val .null, .unset] [] := by first | (simp [entryFrame, mkF, argsToLocals, Value.category]; done) | rfl
def QIni4 (Z : State) (a0 : Addr) (a1 : Addr) (p2 : Int32) (p3 : Int32) (h0 : Heap) (n0 : Nat) (v : Option Value) (h : Heap) (L : List Loc) : Prop := own_QS Z a0 [] h0 n0 v h L
set_option maxRecDepth 65536 in
set_option maxHeartbeats 40000000 in
theorem rmIni4 (l : Launch) (Z : State) (aV : Array Value) (hw : ∀ d ∈ tables_1, d.before aV Z = true) (ws : List Jvm.Cond) (a0 : Addr) (a1 : Addr) (p2 : Int32) (p3 : Int32) (h0 : Heap) (n0 : Nat) (Zn : n0 ≤ h0.size) (OL : Old Z n0 h0) (g_a0 : n0 ≤ a0) (hp3 : p3 = (0 : Int32)) (E_a0 : Exa Z h0 a0 "java/lang/String") (F_value_a0 : Fld Z h0 a0 "java/lang/String" "value" "[B" .null) (F_coder_a0 : Fld Z h0 a0 "java/lang/String" "coder" "B" (.int (0 : Int32))) :
    MetFree l (⟨"java/lang/String", "<init>", "([CIILjava/lang/Void;)V"⟩ : MethodName) (head1 (Jvm.Cond.code (⟨"java/lang/String", "<init>", "([CIILjava/lang/Void;)V"⟩ : MethodName) jdk_42_method_149_code 6 none :: ws) ({ frames := 1, cells := 4, slots := 8, locals := 12 } : Room)) (fun a U => a = #[(.ref a0), (.ref a1), (.int p2), (.int p3), .null] ∧ Z.Warmed39 U.vm ∧ U.heap = h0 ∧ CHv Z consts_1 U.vm h0) (fun _ _ _ _ _ => True) (fun _ U o U' => ∃ v L, o = .returned v ∧ QIni4 Z a0 a1 p2 p3 h0 n0 v U'.heap L ∧ CHr Z consts_1 U.vm U.heap U'.vm U'.heap ∧ ReturnedEndW U o U' L ({ frames := 1, cells := 4, slots := 8, locals := 12 } : Room).cells ({ frames := 1, cells := 4, slots := 8, locals := 12 } : Room).slots) := by
  refine MetFree.of_bodySF (plainFor_of_name pn_2) hisR ?_
  intro p e s m args below meth c s₁ Bd hml0 hP hK
  obtain ⟨rfl, hZ, hh, CH0⟩ := hP
  have hx := Bd.exec
  have hby := Bd.bytes
  have hml : c.maxLocals = 6 := hml0
  have hown : s.vm.findClass "java/lang/String" = some m.cls := findClass_of_methodNamed Bd.named
  have hnm := (name_of_methodNamed Bd.named Bd.method).1
  have X0 : Stand p l e ({ frames := 1, cells := 4, slots := 8, locals := 12 } : Room) s m #[(.ref a0), (.ref a1), (.int p2), (.int p3), .null] below meth c s₁ [] 0 0 := Stand.of_body Bd
  have e0 : s₁.heap = h0 := by rw [← hh, Bd.state]; rfl
  have N0 := Fr.nil n0
  have Kp := Keep.refl h0 [a0]
  have X0 : Stand p l e ({ frames := 1, cells := 4, slots := 8, locals := 12 } : Room) (s.setVm s.vm) m #[(.ref a0), (.ref a1), (.int p2), (.int p3), .null] below meth c s₁ [] 0 0 := X0
  have hS : s.Since s.vm 0 := (State.WarmedH.refl s).since 0
  have hk : 0 ≤ h0.size := Nat.zero_le _
  have CR := CHr.refl CH0
  have hZ : Z.Warmed39 (s.setVm s.vm).vm := hZ
  have hown : (s.setVm s.vm).vm.findClass "java/lang/String" = some m.cls := hown
  have sf_a0 := own_safeN (EL := consts_1) hZ.alike E_a0 F_value_a0
  show Run p e below (EndsW Z s (QIni4 Z a0 a1 p2 p3 h0 n0) ({ frames := 1, cells := 4, slots := 8, locals := 12 } : Room).cells ({ frames := 1, cells := 4, slots := 8, locals := 12 } : Room).slots) _
  refine Run.st (S' := s₁.setTop (mkF m 0 #[.val (.ref a0), .val (.ref a1), .val (.int p2), .val (.int p3), .val .null, .unset] [])) (fun t k => castTop (ef_Ini4 m a0 a1 p2 p3) k) ?_
  refine Run.st (S' := s₁.setTop (mkF m 1 #[.val (.ref a0), .val (.ref a1), .val (.int p2), .val (.int p3), .val .null, .unset] [(.ref a0)])) (fun _ k => XS.aloadN X0.here hx rfl (hb hby d10_0) rfl rfl k) ?_
  obtain ⟨T1, X1, e1, st1⟩ := initO X0 hx hZ hown (hwi hw 56 rfl) (hwi hw 57 rfl) (hwi hw 58 rfl) e0 (g := (mkF m 1 #[.val (.ref a0), .val (.ref a1), .val (.int p2), .val (.int p3), .val .null, .unset] [(.ref a0)])) rfl (by rw [hml]; rfl) rfl (hb hby d10_1) (by decide) (W := 0) (by show 2 * 0 + _ ≤ _; exact Nat.le_of_eq rfl) (by decide)
  refine Run.st (S' := T1.setTop (mkF m 9 #[.val (.ref a0), .val (.ref a1), .val (.int p2), .val (.int p3), .val .null, .unset] [(.ref a0)])) (fun _ k => st1 _ (XS.iloadN X1.here hx rfl (hb hby d10_4) rfl (XS.ifNo X1.here hx rfl (hb hby d10_5) rfl ((if0 _ _).trans (teq (show p3 = (0 : Int32) from hp3)).2) (XS.aloadN X1.here hx rfl (hb hby d10_8) rfl rfl k)))) ?_
  obtain ⟨sl2, T2, h2, kk2, sb2, kb2, X2, e2, E2, hS, hk, hZ, hown, E_sl2, F_coder_sl2, F_value_sl2, V_sb2, -, -, hC, -, hne2, st2⟩ := ldcCH X1 hx hZ hown (hwi hw 106 rfl) (own_wS hw) e1 hS hk (own_EW hw) (by decide) CR.1 (z := (Int32.ofNat own_lit4.length)) own_lit4_t (by decide) (by decide) (g := (mkF m 9 #[.val (.ref a0), .val (.ref a1), .val (.int p2), .val (.int p3), .val .null, .unset] [(.ref a0)])) rfl (hb hby d10_9) (n := 0) (by decide) (by decide) (by decide) (by decide)
  have sf_a0 := hC.safe E_a0.lt sf_a0
  have ne_a0_sl2 := (hne2 _ sf_a0).1
  have ne_a0_sb2 := (hne2 _ sf_a0).2
  have CR := CR.trans hC
  have E_a0 := E_a0.ext E2
  have F_value_a0 := F_value_a0.ext E2
  have F_coder_a0 := F_coder_a0.ext E2
  have OL := OL.ext E2
  have Zn := Nat.le_trans Zn E2.1
  have Kp := Kp.ext E2
  refine Run.st (S' := T2.setTop (mkF m 11 #[.val (.ref a0), .val (.ref a1), .val (.int p2), .val (.int p3), .val .null, .unset] [(.ref sl2), (.ref a0)])) (fun _ k => st2 _ k) ?_
  obtain ⟨T3, X3, e3, st3⟩ := getF X2 hx hZ hown (host := "") (Or.inl (hwi hw 18 rfl)) Via.refl e2 F_value_sl2 (g := (mkF m 11 #[.val (.ref a0), .val (.ref a1), .val (.int p2), .val (.int p3), .val .null, .unset] [(.ref sl2), (.ref a0)])) rfl rfl (hb hby d10_11)
  refine Run.st (S' := T3.setTop (mkF m 14 #[.val (.ref a0), .val (.ref a1), .val (.int p2), .val (.int p3), .val .null, .unset] [(.ref sb2), (.ref a0)])) (fun _ k => st3 _ k) ?_
  have sfw := sf_a0
  obtain ⟨T4, h4, X4, e4, W4, st4⟩ := putF X3 hx hZ hown (host := "") (Or.inl (hwi hw 18 rfl)) Via.refl e3 F_value_a0 E_a0 (Or.inr ⟨(hwi hw 4 rfl), rfl, hnm⟩) (hwi hw 2 rfl) (ty := (.array .byte)) (by decide) rfl rfl (g := (mkF m 14 #[.val (.ref a0), .val (.ref a1), .val (.int p2), .val (.int p3), .val .null, .unset] [(.ref sb2), (.ref a0)])) rfl rfl (hb hby d10_14)
  have F_value_a0 := F_value_a0.same W4
  have OL := OL.wr W4 g_a0
  have sf_a0 := Safe.wr W4 sfw CR.1 sf_a0
  have CR := CR.trans (CHr.wr W4 sfw CR.1)
  have E_a0 := E_a0.wr W4
  have F_coder_a0 := F_coder_a0.other W4 (Or.inr (slot_ne (Or.inr (hwi hw 5 rfl)) (Or.inr (hwi hw 4 rfl)) (by decide) (t := .byte) (t' := (.array .byte)) (by decide) (by decide)))
  have E_sl2 := E_sl2.wr W4
  have F_coder_sl2 := F_coder_sl2.other W4 (Or.inl (Ne.symm ne_a0_sl2))
  have F_value_sl2 := F_value_sl2.other W4 (Or.inl (Ne.symm ne_a0_sl2))
  have V_sb2 := V_sb2.other W4 (Ne.symm ne_a0_sb2)
  have N4 := Fr.snoc X4 N0 g_a0
  have Kp := Kp.wr W4 (Or.inl (by simp))
  have Zn := Nat.le_trans Zn (Nat.le_of_eq W4.size.symm)
  have hk := Nat.le_trans hk (Nat.le_of_eq W4.size.symm)
  refine Run.st (S' := T4.setTop (mkF m 18 #[.val (.ref a0), .val (.ref a1), .val (.int p2), .val (.int p3), .val .null, .unset] [(.ref a0)])) (fun _ k => st4 _ (XS.aloadN X4.here hx rfl (hb hby d10_17) rfl rfl k)) ?_
  obtain ⟨sl5, T5, h5, kk5, sb5, kb5, X5, e5, E5, hS, hk, hZ, hown, E_sl5, F_coder_sl5, F_value_sl5, V_sb5, -, -, hC, -, hne5, st5⟩ := ldcCH X4 hx hZ hown (hwi hw 106 rfl) (own_wS hw) e4 hS hk (own_EW hw) (by decide) CR.1 (z := (Int32.ofNat own_lit4.length)) own_lit4_t (by decide) (by decide) (g := (mkF m 18 #[.val (.ref a0), .val (.ref a1), .val (.int p2), .val (.int p3), .val .null, .unset] [(.ref a0)])) rfl (hb hby d10_18) (n := 0) (by decide) (by decide) (by decide) (by decide)
  have sf_a0 := hC.safe E_a0.lt sf_a0
  have ne_a0_sl5 := (hne5 _ sf_a0).1
  have ne_a0_sb5 := (hne5 _ sf_a0).2
  have CR := CR.trans hC
  have E_a0 := E_a0.ext E5
  have F_value_a0 := F_value_a0.ext E5
  have F_coder_a0 := F_coder_a0.ext E5
  have E_sl2 := E_sl2.ext E5
  have F_coder_sl2 := F_coder_sl2.ext E5
  have F_value_sl2 := F_value_sl2.ext E5
  have V_sb2 := V_sb2.ext E5
  have OL := OL.ext E5
  have Zn := Nat.le_trans Zn E5.1
  have Kp := Kp.ext E5
  refine Run.st (S' := T5.setTop (mkF m 20 #[.val (.ref a0), .val (.ref a1), .val (.int p2), .val (.int p3), .val .null, .unset] [(.ref sl5), (.ref a0)])) (fun _ k => st5 _ k) ?_
  obtain ⟨T6, X6, e6, st6⟩ := getF X5 hx hZ hown (host := "") (Or.inl (hwi hw 25 rfl)) Via.refl e5 F_coder_sl5 (g := (mkF m 20 #[.val (.ref a0), .val (.ref a1), .val (.int p2), .val (.int p3), .val .null, .unset] [(.ref sl5), (.ref a0)])) rfl rfl (hb hby d10_20)
  refine Run.st (S' := T6.setTop (mkF m 23 #[.val (.ref a0), .val (.ref a1), .val (.int p2), .val (.int p3), .val .null, .unset] [(.int (0 : Int32)), (.ref a0)])) (fun _ k => st6 _ k) ?_
  have sfw := sf_a0
  obtain ⟨T7, h7, X7, e7, W7, st7⟩ := putFN X6 hx hZ hown (hwi hw 25 rfl) Via.refl e6 F_coder_a0 E_a0 (Or.inr ⟨(hwi hw 5 rfl), rfl, hnm⟩) (hwi hw 2 rfl) (ty := .byte) (v' := (.int (0 : Int32))) (by decide) (by rfl) (by rfl) (g := (mkF m 23 #[.val (.ref a0), .val (.ref a1), .val (.int p2), .val (.int p3), .val .null, .unset] [(.int (0 : Int32)), (.ref a0)])) rfl rfl (hb hby d10_23)
  have F_coder_a0 := F_coder_a0.same W7
  have OL := OL.wr W7 g_a0
  have sf_a0 := Safe.wr W7 sfw CR.1 sf_a0
  have CR := CR.trans (CHr.wr W7 sfw CR.1)
  have E_a0 := E_a0.wr W7
  have F_value_a0 := F_value_a0.other W7 (Or.inr (slot_ne (Or.inr (hwi hw 4 rfl)) (Or.inr (hwi hw 5 rfl)) (by decide) (t := (.array .byte)) (t' := .byte) (by decide) (by decide)))
  have E_sl2 := E_sl2.wr W7
  have F_coder_sl2 := F_coder_sl2.other W7 (Or.inl (Ne.symm ne_a0_sl2))
  have F_value_sl2 := F_value_sl2.other W7 (Or.inl (Ne.symm ne_a0_sl2))
  have V_sb2 := V_sb2.other W7 (Ne.symm ne_a0_sb2)
  have E_sl5 := E_sl5.wr W7
  have F_coder_sl5 := F_coder_sl5.other W7 (Or.inl (Ne.symm ne_a0_sl5))
  have F_value_sl5 := F_value_sl5.other W7 (Or.inl (Ne.symm ne_a0_sl5))
  have V_sb5 := V_sb5.other W7 (Ne.symm ne_a0_sb5)
  have N7 := Fr.snoc X7 N4 g_a0
  have Kp := Kp.wr W7 (Or.inl (by simp))
  have Zn := Nat.le_trans Zn (Nat.le_of_eq W7.size.symm)
  have hk := Nat.le_trans hk (Nat.le_of_eq W7.size.symm)
  refine Run.st (S' := T7.setTop (mkF m 26 #[.val (.ref a0), .val (.ref a1), .val (.int p2), .val (.int p3), .val .null, .unset] [])) (fun _ k => st7 _ k) ?_
  refine Run.outVW X7 hx hS (by rw [e7]; exact hk) (by rw [hh, e7]; exact CR.trans (CHv.at X7 hZ (own_EW hw) CR.1)) Bd.notSynchronized Bd.returns (hb hby d10_26) (by decide) (by decide) ?_
  rw [e7]
  exact ⟨rfl, N7, Kp, E_a0, F_coder_a0, sb2, kb2, F_value_a0, V_sb2⟩
theorem pd_4 : parseMethodDescriptor "([CIILjava/lang/Void;)V" = some ⟨[(.array .char), .int, .int, (.object "java/lang/Void")], none⟩ := by decide +kernel
theorem d9_0 : decode jdk_42_method_3_code 0 = .ok (.aload_n 0, 1) := by decide +kernel
theorem d9_1 : decode jdk_42_method_3_code 1 = .ok (.aload_n 1, 1) := by decide +kernel
theorem d9_2 : decode jdk_42_method_3_code 2 = .ok (.iconst 0, 1) := by decide +kernel
theorem d9_3 : decode jdk_42_method_3_code 3 = .ok (.aload_n 1, 1) := by decide +kernel
theorem d9_4 : decode jdk_42_method_3_code 4 = .ok (.arraylength, 1) := by decide +kernel
theorem d9_5 : decode jdk_42_method_3_code 5 = .ok (.aconst_null, 1) := by decide +kernel
theorem d9_6 : decode jdk_42_method_3_code 6 = .ok (.invokespecial 27, 3) := by decide +kernel
theorem d9_9 : decode jdk_42_method_3_code 9 = .ok (.return_, 1) := by decide +kernel
theorem ef_Ini1 (m : MethodId) (a0 : Addr) (a1 : Addr) : entryFrame m #[(.ref a0), (.ref a1)] 2 = mkF m 0 #[.val (.ref a0), .val (.ref a1)] [] := by first | (simp [entryFrame, mkF, argsToLocals, Value.category]; done) | rfl
def QIni1 (Z : State) (a0 : Addr) (a1 : Addr) (kc : ClassId) (cc : List Int32) (lc : Int32) (h0 : Heap) (n0 : Nat) (v : Option Value) (h : Heap) (L : List Loc) : Prop := own_QS Z a0 [] h0 n0 v h L
set_option maxRecDepth 65536 in
set_option maxHeartbeats 40000000 in
theorem rmIni1 (l : Launch) (Z : State) (aV : Array Value) (hw : ∀ d ∈ tables_1, d.before aV Z = true) (ws : List Jvm.Cond) (a0 : Addr) (a1 : Addr) (kc : ClassId) (cc : List Int32) (lc : Int32) (h0 : Heap) (n0 : Nat) (Zn : n0 ≤ h0.size) (OL : Old Z n0 h0) (g_a0 : n0 ≤ a0) (hlc : lc = (0 : Int32)) (ne_a0__a1 : a0 ≠ a1) (E_a0 : Exa Z h0 a0 "java/lang/String") (F_value_a0 : Fld Z h0 a0 "java/lang/String" "value" "[B" .null) (F_coder_a0 : Fld Z h0 a0 "java/lang/String" "coder" "B" (.int (0 : Int32))) (V_a1 : Arv Z h0 a1 kc .char lc (cc.map Value.int) (.int (0 : Int32))) :
    MetFree l (⟨"java/lang/String", "<init>", "([C)V"⟩ : MethodName) (head1 (Jvm.Cond.code (⟨"java/lang/String", "<init>", "([C)V"⟩ : MethodName) jdk_42_method_3_code 2 none :: ws) ({ frames := 2, cells := 4, slots := 8, locals := 29 } : Room)) (fun a U => a = #[(.ref a0), (.ref a1)] ∧ Z.Warmed39 U.vm ∧ U.heap = h0 ∧ CHv Z consts_1 U.vm h0) (fun _ _ _ _ _ => True) (fun _ U o U' => ∃ v L, o = .returned v ∧ QIni1 Z a0 a1 kc cc lc h0 n0 v U'.heap L ∧ CHr Z consts_1 U.vm U.heap U'.vm U'.heap ∧ ReturnedEndW U o U' L ({ frames := 2, cells := 4, slots := 8, locals := 29 } : Room).cells ({ frames := 2, cells := 4, slots := 8, locals := 29 } : Room).slots) := by
  refine MetFree.of_bodySF (plainFor_of_name pn_2) hisR ?_
  intro p e s m args below meth c s₁ Bd hml0 hP hK
  obtain ⟨rfl, hZ, hh, CH0⟩ := hP
  have hx := Bd.exec
  have hby := Bd.bytes
  have hml : c.maxLocals = 2 := hml0
  have hown : s.vm.findClass "java/lang/String" = some m.cls := findClass_of_methodNamed Bd.named
  have hnm := (name_of_methodNamed Bd.named Bd.method).1
  have X0 : Stand p l e ({ frames := 2, cells := 4, slots := 8, locals := 29 } : Room) s m #[(.ref a0), (.ref a1)] below meth c s₁ [] 0 0 := Stand.of_body Bd
  have e0 : s₁.heap = h0 := by rw [← hh, Bd.state]; rfl
  have N0 := Fr.nil n0
  have Kp := Keep.refl h0 [a0]
  have X0 : Stand p l e ({ frames := 2, cells := 4, slots := 8, locals := 29 } : Room) (s.setVm s.vm) m #[(.ref a0), (.ref a1)] below meth c s₁ [] 0 0 := X0
  have hS : s.Since s.vm 0 := (State.WarmedH.refl s).since 0
  have hk : 0 ≤ h0.size := Nat.zero_le _
  have CR := CHr.refl CH0
  have hZ : Z.Warmed39 (s.setVm s.vm).vm := hZ
  have hown : (s.setVm s.vm).vm.findClass "java/lang/String" = some m.cls := hown
  show Run p e below (EndsW Z s (QIni1 Z a0 a1 kc cc lc h0 n0) ({ frames := 2, cells := 4, slots := 8, locals := 29 } : Room).cells ({ frames := 2, cells := 4, slots := 8, locals := 29 } : Room).slots) _
  refine Run.st (S' := s₁.setTop (mkF m 0 #[.val (.ref a0), .val (.ref a1)] [])) (fun t k => castTop (ef_Ini1 m a0 a1) k) ?_
  refine Run.st (S' := s₁.setTop (mkF m 4 #[.val (.ref a0), .val (.ref a1)] [(.ref a1), (.int (0 : Int32)), (.ref a1), (.ref a0)])) (fun _ k => XS.aloadN X0.here hx rfl (hb hby d9_0) rfl rfl (XS.aloadN X0.here hx rfl (hb hby d9_1) rfl rfl (XS.iconst X0.here hx rfl (hb hby d9_2) (XS.aloadN X0.here hx rfl (hb hby d9_3) rfl rfl k)))) ?_
  obtain ⟨cl1, Ar1, -, Sa1, Na1, -, -⟩ := id V_a1
  refine Run.st (S' := s₁.setTop (mkF m 5 #[.val (.ref a0), .val (.ref a1)] [(.int lc), (.int (0 : Int32)), (.ref a1), (.ref a0)])) (fun _ k => X0.arraylength hx (by rw [e0]; exact Ar1.1) (State.isArrayOf_alike hZ.alike Ar1.2.1) (g := (mkF m 4 #[.val (.ref a0), .val (.ref a1)] [(.ref a1), (.int (0 : Int32)), (.ref a1), (.ref a0)])) rfl rfl (hb hby d9_4) _ (by rw [len_of Sa1 Na1]; exact k)) ?_
  refine Run.st (S' := s₁.setTop (mkF m 6 #[.val (.ref a0), .val (.ref a1)] [.null, (.int lc), (.int (0 : Int32)), (.ref a1), (.ref a0)])) (fun _ k => XS.aconstNull X0.here hx rfl (hb hby d9_5) k) ?_
  obtain ⟨_, _, ⟨T2, L2, k2, n2⟩, -, X2, S2, gr2, ⟨Lc2, hQ2, l2, y2, z2, hC⟩, st2⟩ := X0.specialBackS hx (y := (⟨"java/lang/String", "<init>", "([CIILjava/lang/Void;)V"⟩ : MethodName)) rfl hown (mvT hZ (hwi hw 52 rfl)) (mvT hZ (hwi hw 53 rfl)) (mvT hZ (hwi hw 55 rfl)) (by decide) (backOfSH (s := s) (vm0 := s.vm) (W := 0) (rmIni4 l Z aV hw [] a0 a1 (0 : Int32) lc h0 n0 Zn OL g_a0 hlc E_a0 F_value_a0 F_coder_a0) hZ (hwi hw 55 rfl) (hwi hw 1 rfl) (by decide) (by decide) (own_EW hw) CR.1) (g := (mkF m 6 #[.val (.ref a0), .val (.ref a1)] [.null, (.int lc), (.int (0 : Int32)), (.ref a1), (.ref a0)])) rfl (by rw [hml]; rfl) (Steps.refl _) (a := a0) (argsL := [(.ref a1), (.int (0 : Int32)), (.int lc), .null]) (rest := []) (lenOf pd_4 rfl) rfl (by show 2 * 0 + _ ≤ _; exact Nat.le_of_eq rfl) (hb hby d9_6) (fun _ _ => ⟨rfl, e0, (by decide : 0 + 4 ≤ _), (by decide : 0 + 8 ≤ _)⟩)
  dsimp only [Pt.U, Pt.locs, Pt.cells, Pt.slots] at X2 l2 y2 z2 st2 hQ2 S2 gr2 hC
  have hZ := State.Warmed39.trans hZ S2.1
  have hown : (s.setVm T2.vm).vm.findClass "java/lang/String" = some m.cls := by rw [show (s.setVm T2.vm).vm = T2.vm from rfl, S2.1.alike.findClass]; exact hown
  have hS := foldS hS (by rw [e0]; exact hk) S2 gr2
  have hk : T2.heap.size ≤ T2.heap.size := Nat.le_refl _
  have X2 : Stand p l e _ (s.setVm T2.vm) m _ below meth c T2 _ _ _ := X2
  have CR := CR.trans hC
  replace l2 := l2.symm; replace y2 := y2.symm; replace z2 := z2.symm; subst l2 y2 z2
  obtain ⟨rfl, N2q, K2, qE, qC, t2, kt2, qV, qK⟩ := hQ2
  have OL := OL.keep K2 (allS g_a0 all0)
  have V_a1 := V_a1.keep K2 (ninS (Ne.symm ne_a0__a1) nin0)
  have E_a0 := qE
  have F_coder_a0 := qC
  have F_value_a0 := qV
  have V_t2 := qK
  have Kp := Kp.trans K2 (allS (Or.inl (by simp)) all0)
  have Zn := Nat.le_trans Zn K2.1
  have N2 := Fr.app N0 N2q
  refine Run.st (S' := T2.setTop (mkF m 9 #[.val (.ref a0), .val (.ref a1)] [])) (fun _ k => st2.trans k) ?_
  refine Run.outVW X2 hx hS hk (by rw [hh]; exact CR.trans (CHv.at X2 hZ (own_EW hw) CR.1)) Bd.notSynchronized Bd.returns (hb hby d9_9) (by decide) (by decide) ?_
  exact ⟨rfl, N2, Kp, E_a0, F_coder_a0, t2, kt2, F_value_a0, V_t2⟩
theorem pd_5 : parseMethodDescriptor "([CILjava/lang/String;J)V" = some ⟨[(.array .char), .int, (.object "java/lang/String"), .long], none⟩ := by decide +kernel
theorem pd_6 : parseMethodDescriptor "(Ljava/lang/String;)Lorg/succession/Event$Kind;" = some ⟨[(.object "java/lang/String")], some (.object "org/succession/Event$Kind")⟩ := by decide +kernel
theorem pd_7 : parseMethodDescriptor "([C)V" = some ⟨[(.array .char)], none⟩ := by decide +kernel
theorem ef_0 (m : MethodId) (p0 : Int32) (p1 : Int32) (p2 : Int32) (p3 : Int32) (q4 : Int64) : entryFrame m #[(.int p0), (.int p1), (.int p2), (.int p3), (.long q4)] maxLocals = mkF m 0 #[.val (.int p0), .val (.int p1), .val (.int p2), .val (.int p3), .val (.long q4), .second, .unset, .unset, .unset, .unset, .unset, .unset, .unset] [] := by first | (simp [entryFrame, mkF, argsToLocals, Value.category, maxLocals]; done) | rfl
def Q0 (Z : State) (p0 : Int32) (p1 : Int32) (p2 : Int32) (p3 : Int32) (q4 : Int64) (zc : Int32) (fm : Value) (vv : Addr) (kV : ClassId) (rc : Addr) (rm : Addr) (re : Addr) (lrc : Addr) (tlrc : Addr) (klrc : ClassId) (lrm : Addr) (tlrm : Addr) (klrm : ClassId) (lre : Addr) (tlre : Addr) (klre : ClassId) (h0 : Heap) (n0 : Nat) (v : Option Value) (h : Heap) (L : List Loc) : Prop := v = some (.int 1) ∧ Fr n0 L
set_option maxRecDepth 65536 in
set_option maxHeartbeats 40000000 in
theorem rm0 (l : Launch) (Z : State) (aV : Array Value) (hw : ∀ d ∈ tables_1, d.before aV Z = true) (ws : List Jvm.Cond) (p0 : Int32) (p1 : Int32) (p2 : Int32) (p3 : Int32) (q4 : Int64) (zc : Int32) (fm : Value) (vv : Addr) (kV : ClassId) (rc : Addr) (rm : Addr) (re : Addr) (lrc : Addr) (tlrc : Addr) (klrc : ClassId) (lrm : Addr) (tlrm : Addr) (klrm : ClassId) (lre : Addr) (tlre : Addr) (klre : ClassId) (h0 : Heap) (n0 : Nat) (Zn : n0 ≤ h0.size) (OL : Old Z n0 h0) (hzc : ¬ zc = 0) (rfm : fm.isRef = true) (S_cs : Sta Z Z.heap "java/lang/String" "COMPACT_STRINGS" "Z" (.int zc)) (S_sf : Sta Z Z.heap "jdk/internal/util/Preconditions" "SIOOBE_FORMATTER" "Ljava/util/function/BiFunction;" fm) (S_vals : Sta Z Z.heap "org/succession/Event$Kind" "$VALUES" "[Lorg/succession/Event$Kind;" (.ref vv)) (V_vv : Arv Z Z.heap vv kV (.object "org/succession/Event$Kind") (3 : Int32) [(.ref rc), (.ref rm), (.ref re)] .null) (E_vv : Exa Z Z.heap vv "[Lorg/succession/Event$Kind;") (S_rc : Sta Z Z.heap "org/succession/Event$Kind" "CREATION" "Lorg/succession/Event$Kind;" (.ref rc)) (S_rm : Sta Z Z.heap "org/succession/Event$Kind" "MUTATION" "Lorg/succession/Event$Kind;" (.ref rm)) (S_re : Sta Z Z.heap "org/succession/Event$Kind" "END" "Lorg/succession/Event$Kind;" (.ref re)) (F_written_rc : Fld Z Z.heap rc "org/succession/Event$Kind" "written" "Ljava/lang/String;" (.ref lrc)) (E_lrc : Exa Z Z.heap lrc "java/lang/String") (F_coder_lrc : Fld Z Z.heap lrc "java/lang/String" "coder" "B" (.int (0 : Int32))) (F_value_lrc : Fld Z Z.heap lrc "java/lang/String" "value" "[B" (.ref tlrc)) (V_tlrc : Arv Z Z.heap tlrc klrc .byte (Int32.ofNat own_lit3.length) ((own_bs own_lit3).map Value.int) (.int (0 : Int32))) (F_written_rm : Fld Z Z.heap rm "org/succession/Event$Kind" "written" "Ljava/lang/String;" (.ref lrm)) (E_lrm : Exa Z Z.heap lrm "java/lang/String") (F_coder_lrm : Fld Z Z.heap lrm "java/lang/String" "coder" "B" (.int (0 : Int32))) (F_value_lrm : Fld Z Z.heap lrm "java/lang/String" "value" "[B" (.ref tlrm)) (V_tlrm : Arv Z Z.heap tlrm klrm .byte (Int32.ofNat own_lit2.length) ((own_bs own_lit2).map Value.int) (.int (0 : Int32))) (F_written_re : Fld Z Z.heap re "org/succession/Event$Kind" "written" "Ljava/lang/String;" (.ref lre)) (E_lre : Exa Z Z.heap lre "java/lang/String") (F_coder_lre : Fld Z Z.heap lre "java/lang/String" "coder" "B" (.int (0 : Int32))) (F_value_lre : Fld Z Z.heap lre "java/lang/String" "value" "[B" (.ref tlre)) (V_tlre : Arv Z Z.heap tlre klre .byte (Int32.ofNat own_lit1.length) ((own_bs own_lit1).map Value.int) (.int (0 : Int32))) :
    MetFree l x (head1 (Jvm.Cond.code x code maxLocals ret :: ws) room_1) (fun a U => a = #[(.int p0), (.int p1), (.int p2), (.int p3), (.long q4)] ∧ Z.Warmed39 U.vm ∧ U.heap = h0 ∧ CHv Z consts_1 U.vm h0) (fun _ _ _ _ _ => True) (fun _ U o U' => ∃ v L, o = .returned v ∧ Q0 Z p0 p1 p2 p3 q4 zc fm vv kV rc rm re lrc tlrc klrc lrm tlrm klrm lre tlre klre h0 n0 v U'.heap L ∧ CHr Z consts_1 U.vm U.heap U'.vm U'.heap ∧ ReturnedEndW U o U' L room_1.cells room_1.slots) := by
  refine MetFree.of_bodySF (plainFor_of_name pn_0) hisR ?_
  intro p e s m args below meth c s₁ Bd hml0 hP hK
  obtain ⟨rfl, hZ, hh, CH0⟩ := hP
  have hx := Bd.exec
  have hby := Bd.bytes
  have hml : c.maxLocals = 13 := hml0
  have hown : s.vm.findClass "org/succession/KindOfPinLaw" = some m.cls := findClass_of_methodNamed Bd.named
  have hnm := (name_of_methodNamed Bd.named Bd.method).1
  have X0 : Stand p l e room_1 s m #[(.int p0), (.int p1), (.int p2), (.int p3), (.long q4)] below meth c s₁ [] 0 0 := Stand.of_body Bd
  have e0 : s₁.heap = h0 := by rw [← hh, Bd.state]; rfl
  have N0 := Fr.nil n0
  have Kp := Keep.refl h0 []
  have X0 : Stand p l e room_1 (s.setVm s.vm) m #[(.int p0), (.int p1), (.int p2), (.int p3), (.long q4)] below meth c s₁ [] 0 0 := X0
  have hS : s.Since s.vm 0 := (State.WarmedH.refl s).since 0
  have hk : 0 ≤ h0.size := Nat.zero_le _
  have CR := CHr.refl CH0
  have hZ : Z.Warmed39 (s.setVm s.vm).vm := hZ
  have hown : (s.setVm s.vm).vm.findClass "org/succession/KindOfPinLaw" = some m.cls := hown
  show Run p e below (EndsW Z s (Q0 Z p0 p1 p2 p3 q4 zc fm vv kV rc rm re lrc tlrc klrc lrm tlrm klrm lre tlre klre h0 n0) room_1.cells room_1.slots) _
  refine Run.st (S' := s₁.setTop (mkF m 0 #[.val (.int p0), .val (.int p1), .val (.int p2), .val (.int p3), .val (.long q4), .second, .unset, .unset, .unset, .unset, .unset, .unset, .unset] [])) (fun t k => castTop (ef_0 m p0 p1 p2 p3 q4) k) ?_
  refine Run.st (S' := s₁.setTop (mkF m 5 #[.val (.int p0), .val (.int p1), .val (.int p2), .val (.int p3), .val (.long q4), .second, .val (.int (p0 &&& (3 : Int32))), .unset, .unset, .unset, .unset, .unset, .unset] [])) (fun _ k => XS.iloadN X0.here hx rfl (hb hby at_0) rfl (XS.iconst X0.here hx rfl (hb hby at_1) (XS.iand X0.here hx rfl (hb hby at_2) rfl (XS.istore X0.here hx rfl (hb hby at_3) rfl (l' := #[.val (.int p0), .val (.int p1), .val (.int p2), .val (.int p3), .val (.long q4), .second, .val (.int (p0 &&& (3 : Int32))), .unset, .unset, .unset, .unset, .unset, .unset]) rfl k)))) ?_
  have JH1 : ∀ (bb : Addr) (tb : Addr) (kb : ClassId) (cb : List Int32) (Tl1 : State) (Hl1 : Heap) (gl : GoodW p l e room_1 s m #[(.int p0), (.int p1), (.int p2), (.int p3), (.long q4)] below meth c n0 2 36 "org/succession/KindOfPinLaw" Z h0 Hl1 Tl1) (Zn : n0 ≤ Hl1.size) (Kp : Keep h0 Hl1 []) (OL : Old Z n0 Hl1) (E_bb : Exa Z Hl1 bb "java/lang/String") (F_coder_bb : Fld Z Hl1 bb "java/lang/String" "coder" "B" (.int (0 : Int32))) (F_value_bb : Fld Z Hl1 bb "java/lang/String" "value" "[B" (.ref tb)) (V_tb : Arv Z Hl1 tb kb .byte (Int32.ofNat cb.length) ((own_bs cb).map Value.int) (.int (0 : Int32))), own_L1 cb ∧ cb.length ≤ 8 → Run p e below (EndsW Z s (Q0 Z p0 p1 p2 p3 q4 zc fm vv kV rc rm re lrc tlrc klrc lrm tlrm klrm lre tlre klre h0 n0) room_1.cells room_1.slots) (Tl1.setTop (mkF m 41 #[.val (.int p0), .val (.int p1), .val (.int p2), .val (.int p3), .val (.long q4), .second, .val (.int (p0 &&& (3 : Int32))), .val (.ref bb), .unset, .unset, .unset, .unset, .unset] [])) := by
    intro bb tb kb cb Tl1 Hl1 gl Zn Kp OL E_bb F_coder_bb F_value_bb V_tb hyJ
    obtain ⟨vmJ1, kJ1, lcs1, Xl1, Nl1, El1, hS, hk, hZ, hown, CR⟩ := gl
    have hyB := hyJ
    have JH2 : ∀ (nn : Int32) (Tl2 : State) (Hl2 : Heap) (gl : GoodW p l e room_1 s m #[(.int p0), (.int p1), (.int p2), (.int p3), (.long q4)] below meth c n0 2 36 "org/succession/KindOfPinLaw" Z h0 Hl2 Tl2) (Zn : n0 ≤ Hl2.size) (Kp : Keep h0 Hl2 []) (OL : Old Z n0 Hl2) (E_bb : Exa Z Hl2 bb "java/lang/String") (F_coder_bb : Fld Z Hl2 bb "java/lang/String" "coder" "B" (.int (0 : Int32))) (F_value_bb : Fld Z Hl2 bb "java/lang/String" "value" "[B" (.ref tb)) (V_tb : Arv Z Hl2 tb kb .byte (Int32.ofNat cb.length) ((own_bs cb).map Value.int) (.int (0 : Int32))), 0 ≤ nn.toInt ∧ nn.toInt < 10 → Run p e below (EndsW Z s (Q0 Z p0 p1 p2 p3 q4 zc fm vv kV rc rm re lrc tlrc klrc lrm tlrm klrm lre tlre klre h0 n0) room_1.cells room_1.slots) (Tl2.setTop (mkF m 65 #[.val (.int p0), .val (.int p1), .val (.int p2), .val (.int p3), .val (.long q4), .second, .val (.int (p0 &&& (3 : Int32))), .val (.ref bb), .val (.int nn), .unset, .unset, .unset, .unset] [])) := by
      intro nn Tl2 Hl2 gl Zn Kp OL E_bb F_coder_bb F_value_bb V_tb hyJ
      obtain ⟨vmJ2, kJ2, lcs2, Xl2, Nl2, El2, hS, hk, hZ, hown, CR⟩ := gl
      have hnn := hyJ
      refine Run.st (S' := Tl2.setTop (mkF m 67 #[.val (.int p0), .val (.int p1), .val (.int p2), .val (.int p3), .val (.long q4), .second, .val (.int (p0 &&& (3 : Int32))), .val (.ref bb), .val (.int nn), .unset, .unset, .unset, .unset] [(.int nn)])) (fun _ k => XS.iload Xl2.here hx rfl (hb hby at_65) rfl k) ?_
      obtain ⟨T3, h3, k3, X3, e3, E3, A3, st3⟩ := newP Xl2 hx hZ (hwi hw 8 rfl) El2 (g := (mkF m 67 #[.val (.int p0), .val (.int p1), .val (.int p2), .val (.int p3), .val (.long q4), .second, .val (.int (p0 &&& (3 : Int32))), .val (.ref bb), .val (.int nn), .unset, .unset, .unset, .unset] [(.int nn)])) rfl (hb hby at_67) rfl (own_nn hnn.1) (cap := 9) (own_cap (c := 9) (by have := hnn; omega)) (by decide) (by decide) (by decide)
      obtain ⟨b3, g3⟩ : ∃ z, z = Hl2.size := ⟨_, rfl⟩
      rw [← g3] at A3 st3
      have ne_bb_b3 : bb ≠ b3 := Nat.ne_of_lt (Nat.lt_of_lt_of_le E_bb.lt (Nat.le_of_eq g3.symm))
      have ne_tb_b3 : tb ≠ b3 := Nat.ne_of_lt (Nat.lt_of_lt_of_le V_tb.lt (Nat.le_of_eq g3.symm))
      have CR := CR.trans (CHr.ext E3 CR.1)
      have E_bb := E_bb.ext E3
      have F_coder_bb := F_coder_bb.ext E3
      have F_value_bb := F_value_bb.ext E3
      have V_tb := V_tb.ext E3
      have OL := OL.ext E3
      have g_b3 : n0 ≤ b3 := Nat.le_trans Zn (Nat.le_of_eq g3.symm)
      have Zn := Nat.le_trans Zn E3.1
      have hk := Nat.le_trans hk E3.1
      have sz_b3 : h0.size ≤ b3 := Nat.le_trans Kp.1 (Nat.le_of_eq g3.symm)
      have Kp := Kp.ext E3
      have V_b3 : Arv Z h3 b3 k3 .char nn [] (.int (0 : Int32)) := Arv.new A3 (own_nn hnn.1)
      refine Run.st (S' := T3.setTop (mkF m 69 #[.val (.int p0), .val (.int p1), .val (.int p2), .val (.int p3), .val (.long q4), .second, .val (.int (p0 &&& (3 : Int32))), .val (.ref bb), .val (.int nn), .unset, .unset, .unset, .unset] [(.ref b3)])) (fun _ k => st3 _ k) ?_
      have V_b3 := own_rep V_b3
      refine Run.st (S' := T3.setTop (mkF m 71 #[.val (.int p0), .val (.int p1), .val (.int p2), .val (.int p3), .val (.long q4), .second, .val (.int (p0 &&& (3 : Int32))), .val (.ref bb), .val (.int nn), .val (.ref b3), .unset, .unset, .unset] [])) (fun _ k => XS.astore X3.here hx rfl (hb hby at_69) rfl rfl (l' := #[.val (.int p0), .val (.int p1), .val (.int p2), .val (.int p3), .val (.long q4), .second, .val (.int (p0 &&& (3 : Int32))), .val (.ref bb), .val (.int nn), .val (.ref b3), .unset, .unset, .unset]) rfl k) ?_
      have hr0 : (∀ c ∈ (List.replicate nn.toNatClampNeg (0 : Int32)), ¬ c < 0 ∧ ¬ (255 : Int32) < c) ∧ (List.replicate nn.toNatClampNeg (0 : Int32)).length = nn.toNatClampNeg := ⟨own_repL _, List.length_replicate⟩
      refine Run.st (S' := T3.setTop (mkF m 78 #[.val (.int p0), .val (.int p1), .val (.int p2), .val (.int p3), .val (.long q4), .second, .val (.int (p0 &&& (3 : Int32))), .val (.ref bb), .val (.int nn), .val (.ref b3), .unset, .unset, .unset] [(.long q4), (.ref bb), (.int (0 : Int32)), (.ref b3)])) (fun _ k => XS.aload X3.here hx rfl (hb hby at_71) rfl rfl (XS.iconst X3.here hx rfl (hb hby at_73) (XS.aload X3.here hx rfl (hb hby at_74) rfl rfl (XS.lload X3.here hx rfl (hb hby at_76) rfl k)))) ?_
      obtain ⟨_, _, ⟨T4, L4, k4, n4⟩, -, X4, ⟨Lc4, hQ4, l4, y4, z4⟩, st4⟩ := Jvm.LawKit.callS X3 hx (y := (⟨"org/succession/KindOfPinLaw", "put", "([CILjava/lang/String;J)V"⟩ : MethodName)) hown (mvT hZ (hwi hw 9 rfl)) (mvT hZ (hwi hw 10 rfl)) (mvT hZ (hwi hw 11 rfl)) (mvT hZ (hwi hw 12 rfl)) (by decide) (backOf (W := 0) (rmPut l Z aV hw [] b3 (0 : Int32) bb q4 k3 (List.replicate nn.toNatClampNeg (0 : Int32)) nn tb kb cb zc fm h3 n0 Zn OL hzc rfm g_b3 hr0 hyB.1 (by decide) ne_bb_b3 ne_tb_b3 V_b3 E_bb F_coder_bb F_value_bb V_tb S_cs S_sf) hZ (hwi hw 12 rfl) (hwi hw 11 rfl) (by decide) (by decide)) (g := (mkF m 78 #[.val (.int p0), .val (.int p1), .val (.int p2), .val (.int p3), .val (.long q4), .second, .val (.int (p0 &&& (3 : Int32))), .val (.ref bb), .val (.int nn), .val (.ref b3), .unset, .unset, .unset] [(.long q4), (.ref bb), (.int (0 : Int32)), (.ref b3)])) rfl (by rw [hml]; rfl) (argsL := [(.ref b3), (.int (0 : Int32)), (.ref bb), (.long q4)]) (rest := []) (lenOf pd_5 rfl) rfl (by show 2 * 0 + _ ≤ _; exact Nat.le_of_eq rfl) (hb hby at_78) (fun _ _ => ⟨rfl, e3, (by decide : 3 + 0 ≤ _), (by decide : 45 + 0 ≤ _)⟩)
      dsimp only [Pt.U, Pt.locs, Pt.cells, Pt.slots] at X4 l4 y4 z4 st4 hQ4
      replace l4 := l4.symm; replace y4 := y4.symm; replace z4 := z4.symm; subst l4 y4 z4
      obtain ⟨cc4, rfl, N4q, K4, qV, hr4⟩ := hQ4
      have sfa : ∀ x ∈ [b3], Safe Z consts_1 vmJ2 h3 x := (allS (own_safeA (EL := consts_1) hZ.alike V_b3 (by decide)) all0)
      have CR := CR.trans (CHr.keep K4 sfa CR.1)
      have OL := OL.keep K4 (allS g_b3 all0)
      have E_bb := E_bb.keep K4
      have F_coder_bb := F_coder_bb.keep K4 (ninS ne_bb_b3 nin0)
      have F_value_bb := F_value_bb.keep K4 (ninS ne_bb_b3 nin0)
      have V_tb := V_tb.keep K4 (ninS ne_tb_b3 nin0)
      have V_b3 := qV
      have Kp := Kp.trans K4 (allS (Or.inr sz_b3) all0)
      have Zn := Nat.le_trans Zn K4.1
      have hk := Nat.le_trans hk K4.1
      have N4 := Fr.app Nl2 N4q
      refine Run.st (S' := T4.setTop (mkF m 88 #[.val (.int p0), .val (.int p1), .val (.int p2), .val (.int p3), .val (.long q4), .second, .val (.int (p0 &&& (3 : Int32))), .val (.ref bb), .val (.int nn), .val (.ref b3), .unset, .unset, .unset] [(.long q4), (.ref bb), (.int (1 : Int32)), (.ref b3)])) (fun _ k => st4 _ (XS.aload X4.here hx rfl (hb hby at_81) rfl rfl (XS.iconst X4.here hx rfl (hb hby at_83) (XS.aload X4.here hx rfl (hb hby at_84) rfl rfl (XS.lload X4.here hx rfl (hb hby at_86) rfl k))))) ?_
      obtain ⟨_, _, ⟨T5, L5, k5, n5⟩, -, X5, ⟨Lc5, hQ5, l5, y5, z5⟩, st5⟩ := Jvm.LawKit.callS X4 hx (y := (⟨"org/succession/KindOfPinLaw", "put", "([CILjava/lang/String;J)V"⟩ : MethodName)) hown (mvT hZ (hwi hw 9 rfl)) (mvT hZ (hwi hw 10 rfl)) (mvT hZ (hwi hw 11 rfl)) (mvT hZ (hwi hw 12 rfl)) (by decide) (backOf (W := 0) (rmPut l Z aV hw [] b3 (1 : Int32) bb q4 k3 cc4 nn tb kb cb zc fm T4.heap n0 Zn OL hzc rfm g_b3 hr4 hyB.1 (by decide) ne_bb_b3 ne_tb_b3 V_b3 E_bb F_coder_bb F_value_bb V_tb S_cs S_sf) hZ (hwi hw 12 rfl) (hwi hw 11 rfl) (by decide) (by decide)) (g := (mkF m 88 #[.val (.int p0), .val (.int p1), .val (.int p2), .val (.int p3), .val (.long q4), .second, .val (.int (p0 &&& (3 : Int32))), .val (.ref bb), .val (.int nn), .val (.ref b3), .unset, .unset, .unset] [(.long q4), (.ref bb), (.int (1 : Int32)), (.ref b3)])) rfl (by rw [hml]; rfl) (argsL := [(.ref b3), (.int (1 : Int32)), (.ref bb), (.long q4)]) (rest := []) (lenOf pd_5 rfl) rfl (by show 2 * 0 + _ ≤ _; exact Nat.le_of_eq rfl) (hb hby at_88) (fun _ _ => ⟨rfl, rfl, (by decide : 3 + 0 ≤ _), (by decide : 45 + 0 ≤ _)⟩)
      dsimp only [Pt.U, Pt.locs, Pt.cells, Pt.slots] at X5 l5 y5 z5 st5 hQ5
      replace l5 := l5.symm; replace y5 := y5.symm; replace z5 := z5.symm; subst l5 y5 z5
      obtain ⟨cc5, rfl, N5q, K5, qV, hr5⟩ := hQ5
      have sfa : ∀ x ∈ [b3], Safe Z consts_1 vmJ2 T4.heap x := (allS (own_safeA (EL := consts_1) hZ.alike V_b3 (by decide)) all0)
      have CR := CR.trans (CHr.keep K5 sfa CR.1)
      have OL := OL.keep K5 (allS g_b3 all0)
      have E_bb := E_bb.keep K5
      have F_coder_bb := F_coder_bb.keep K5 (ninS ne_bb_b3 nin0)
      have F_value_bb := F_value_bb.keep K5 (ninS ne_bb_b3 nin0)
      have V_tb := V_tb.keep K5 (ninS ne_tb_b3 nin0)
      have V_b3 := qV
      have Kp := Kp.trans K5 (allS (Or.inr sz_b3) all0)
      have Zn := Nat.le_trans Zn K5.1
      have hk := Nat.le_trans hk K5.1
      have N5 := Fr.app N4 N5q
      refine Run.st (S' := T5.setTop (mkF m 98 #[.val (.int p0), .val (.int p1), .val (.int p2), .val (.int p3), .val (.long q4), .second, .val (.int (p0 &&& (3 : Int32))), .val (.ref bb), .val (.int nn), .val (.ref b3), .unset, .unset, .unset] [(.long q4), (.ref bb), (.int (2 : Int32)), (.ref b3)])) (fun _ k => st5 _ (XS.aload X5.here hx rfl (hb hby at_91) rfl rfl (XS.iconst X5.here hx rfl (hb hby at_93) (XS.aload X5.here hx rfl (hb hby at_94) rfl rfl (XS.lload X5.here hx rfl (hb hby at_96) rfl k))))) ?_
      obtain ⟨_, _, ⟨T6, L6, k6, n6⟩, -, X6, ⟨Lc6, hQ6, l6, y6, z6⟩, st6⟩ := Jvm.LawKit.callS X5 hx (y := (⟨"org/succession/KindOfPinLaw", "put", "([CILjava/lang/String;J)V"⟩ : MethodName)) hown (mvT hZ (hwi hw 9 rfl)) (mvT hZ (hwi hw 10 rfl)) (mvT hZ (hwi hw 11 rfl)) (mvT hZ (hwi hw 12 rfl)) (by decide) (backOf (W := 0) (rmPut l Z aV hw [] b3 (2 : Int32) bb q4 k3 cc5 nn tb kb cb zc fm T5.heap n0 Zn OL hzc rfm g_b3 hr5 hyB.1 (by decide) ne_bb_b3 ne_tb_b3 V_b3 E_bb F_coder_bb F_value_bb V_tb S_cs S_sf) hZ (hwi hw 12 rfl) (hwi hw 11 rfl) (by decide) (by decide)) (g := (mkF m 98 #[.val (.int p0), .val (.int p1), .val (.int p2), .val (.int p3), .val (.long q4), .second, .val (.int (p0 &&& (3 : Int32))), .val (.ref bb), .val (.int nn), .val (.ref b3), .unset, .unset, .unset] [(.long q4), (.ref bb), (.int (2 : Int32)), (.ref b3)])) rfl (by rw [hml]; rfl) (argsL := [(.ref b3), (.int (2 : Int32)), (.ref bb), (.long q4)]) (rest := []) (lenOf pd_5 rfl) rfl (by show 2 * 0 + _ ≤ _; exact Nat.le_of_eq rfl) (hb hby at_98) (fun _ _ => ⟨rfl, rfl, (by decide : 3 + 0 ≤ _), (by decide : 45 + 0 ≤ _)⟩)
      dsimp only [Pt.U, Pt.locs, Pt.cells, Pt.slots] at X6 l6 y6 z6 st6 hQ6
      replace l6 := l6.symm; replace y6 := y6.symm; replace z6 := z6.symm; subst l6 y6 z6
      obtain ⟨cc6, rfl, N6q, K6, qV, hr6⟩ := hQ6
      have sfa : ∀ x ∈ [b3], Safe Z consts_1 vmJ2 T5.heap x := (allS (own_safeA (EL := consts_1) hZ.alike V_b3 (by decide)) all0)
      have CR := CR.trans (CHr.keep K6 sfa CR.1)
      have OL := OL.keep K6 (allS g_b3 all0)
      have E_bb := E_bb.keep K6
      have F_coder_bb := F_coder_bb.keep K6 (ninS ne_bb_b3 nin0)
      have F_value_bb := F_value_bb.keep K6 (ninS ne_bb_b3 nin0)
      have V_tb := V_tb.keep K6 (ninS ne_tb_b3 nin0)
      have V_b3 := qV
      have Kp := Kp.trans K6 (allS (Or.inr sz_b3) all0)
      have Zn := Nat.le_trans Zn K6.1
      have hk := Nat.le_trans hk K6.1
      have N6 := Fr.app N5 N6q
      refine Run.st (S' := T6.setTop (mkF m 108 #[.val (.int p0), .val (.int p1), .val (.int p2), .val (.int p3), .val (.long q4), .second, .val (.int (p0 &&& (3 : Int32))), .val (.ref bb), .val (.int nn), .val (.ref b3), .unset, .unset, .unset] [(.long q4), (.ref bb), (.int (3 : Int32)), (.ref b3)])) (fun _ k => st6 _ (XS.aload X6.here hx rfl (hb hby at_101) rfl rfl (XS.iconst X6.here hx rfl (hb hby at_103) (XS.aload X6.here hx rfl (hb hby at_104) rfl rfl (XS.lload X6.here hx rfl (hb hby at_106) rfl k))))) ?_
      obtain ⟨_, _, ⟨T7, L7, k7, n7⟩, -, X7, ⟨Lc7, hQ7, l7, y7, z7⟩, st7⟩ := Jvm.LawKit.callS X6 hx (y := (⟨"org/succession/KindOfPinLaw", "put", "([CILjava/lang/String;J)V"⟩ : MethodName)) hown (mvT hZ (hwi hw 9 rfl)) (mvT hZ (hwi hw 10 rfl)) (mvT hZ (hwi hw 11 rfl)) (mvT hZ (hwi hw 12 rfl)) (by decide) (backOf (W := 0) (rmPut l Z aV hw [] b3 (3 : Int32) bb q4 k3 cc6 nn tb kb cb zc fm T6.heap n0 Zn OL hzc rfm g_b3 hr6 hyB.1 (by decide) ne_bb_b3 ne_tb_b3 V_b3 E_bb F_coder_bb F_value_bb V_tb S_cs S_sf) hZ (hwi hw 12 rfl) (hwi hw 11 rfl) (by decide) (by decide)) (g := (mkF m 108 #[.val (.int p0), .val (.int p1), .val (.int p2), .val (.int p3), .val (.long q4), .second, .val (.int (p0 &&& (3 : Int32))), .val (.ref bb), .val (.int nn), .val (.ref b3), .unset, .unset, .unset] [(.long q4), (.ref bb), (.int (3 : Int32)), (.ref b3)])) rfl (by rw [hml]; rfl) (argsL := [(.ref b3), (.int (3 : Int32)), (.ref bb), (.long q4)]) (rest := []) (lenOf pd_5 rfl) rfl (by show 2 * 0 + _ ≤ _; exact Nat.le_of_eq rfl) (hb hby at_108) (fun _ _ => ⟨rfl, rfl, (by decide : 3 + 0 ≤ _), (by decide : 45 + 0 ≤ _)⟩)
      dsimp only [Pt.U, Pt.locs, Pt.cells, Pt.slots] at X7 l7 y7 z7 st7 hQ7
      replace l7 := l7.symm; replace y7 := y7.symm; replace z7 := z7.symm; subst l7 y7 z7
      obtain ⟨cc7, rfl, N7q, K7, qV, hr7⟩ := hQ7
      have sfa : ∀ x ∈ [b3], Safe Z consts_1 vmJ2 T6.heap x := (allS (own_safeA (EL := consts_1) hZ.alike V_b3 (by decide)) all0)
      have CR := CR.trans (CHr.keep K7 sfa CR.1)
      have OL := OL.keep K7 (allS g_b3 all0)
      have E_bb := E_bb.keep K7
      have F_coder_bb := F_coder_bb.keep K7 (ninS ne_bb_b3 nin0)
      have F_value_bb := F_value_bb.keep K7 (ninS ne_bb_b3 nin0)
      have V_tb := V_tb.keep K7 (ninS ne_tb_b3 nin0)
      have V_b3 := qV
      have Kp := Kp.trans K7 (allS (Or.inr sz_b3) all0)
      have Zn := Nat.le_trans Zn K7.1
      have hk := Nat.le_trans hk K7.1
      have N7 := Fr.app N6 N7q
      refine Run.st (S' := T7.setTop (mkF m 118 #[.val (.int p0), .val (.int p1), .val (.int p2), .val (.int p3), .val (.long q4), .second, .val (.int (p0 &&& (3 : Int32))), .val (.ref bb), .val (.int nn), .val (.ref b3), .unset, .unset, .unset] [(.long q4), (.ref bb), (.int (4 : Int32)), (.ref b3)])) (fun _ k => st7 _ (XS.aload X7.here hx rfl (hb hby at_111) rfl rfl (XS.iconst X7.here hx rfl (hb hby at_113) (XS.aload X7.here hx rfl (hb hby at_114) rfl rfl (XS.lload X7.here hx rfl (hb hby at_116) rfl k))))) ?_
      obtain ⟨_, _, ⟨T8, L8, k8, n8⟩, -, X8, ⟨Lc8, hQ8, l8, y8, z8⟩, st8⟩ := Jvm.LawKit.callS X7 hx (y := (⟨"org/succession/KindOfPinLaw", "put", "([CILjava/lang/String;J)V"⟩ : MethodName)) hown (mvT hZ (hwi hw 9 rfl)) (mvT hZ (hwi hw 10 rfl)) (mvT hZ (hwi hw 11 rfl)) (mvT hZ (hwi hw 12 rfl)) (by decide) (backOf (W := 0) (rmPut l Z aV hw [] b3 (4 : Int32) bb q4 k3 cc7 nn tb kb cb zc fm T7.heap n0 Zn OL hzc rfm g_b3 hr7 hyB.1 (by decide) ne_bb_b3 ne_tb_b3 V_b3 E_bb F_coder_bb F_value_bb V_tb S_cs S_sf) hZ (hwi hw 12 rfl) (hwi hw 11 rfl) (by decide) (by decide)) (g := (mkF m 118 #[.val (.int p0), .val (.int p1), .val (.int p2), .val (.int p3), .val (.long q4), .second, .val (.int (p0 &&& (3 : Int32))), .val (.ref bb), .val (.int nn), .val (.ref b3), .unset, .unset, .unset] [(.long q4), (.ref bb), (.int (4 : Int32)), (.ref b3)])) rfl (by rw [hml]; rfl) (argsL := [(.ref b3), (.int (4 : Int32)), (.ref bb), (.long q4)]) (rest := []) (lenOf pd_5 rfl) rfl (by show 2 * 0 + _ ≤ _; exact Nat.le_of_eq rfl) (hb hby at_118) (fun _ _ => ⟨rfl, rfl, (by decide : 3 + 0 ≤ _), (by decide : 45 + 0 ≤ _)⟩)
      dsimp only [Pt.U, Pt.locs, Pt.cells, Pt.slots] at X8 l8 y8 z8 st8 hQ8
      replace l8 := l8.symm; replace y8 := y8.symm; replace z8 := z8.symm; subst l8 y8 z8
      obtain ⟨cc8, rfl, N8q, K8, qV, hr8⟩ := hQ8
      have sfa : ∀ x ∈ [b3], Safe Z consts_1 vmJ2 T7.heap x := (allS (own_safeA (EL := consts_1) hZ.alike V_b3 (by decide)) all0)
      have CR := CR.trans (CHr.keep K8 sfa CR.1)
      have OL := OL.keep K8 (allS g_b3 all0)
      have E_bb := E_bb.keep K8
      have F_coder_bb := F_coder_bb.keep K8 (ninS ne_bb_b3 nin0)
      have F_value_bb := F_value_bb.keep K8 (ninS ne_bb_b3 nin0)
      have V_tb := V_tb.keep K8 (ninS ne_tb_b3 nin0)
      have V_b3 := qV
      have Kp := Kp.trans K8 (allS (Or.inr sz_b3) all0)
      have Zn := Nat.le_trans Zn K8.1
      have hk := Nat.le_trans hk K8.1
      have N8 := Fr.app N7 N8q
      refine Run.st (S' := T8.setTop (mkF m 128 #[.val (.int p0), .val (.int p1), .val (.int p2), .val (.int p3), .val (.long q4), .second, .val (.int (p0 &&& (3 : Int32))), .val (.ref bb), .val (.int nn), .val (.ref b3), .unset, .unset, .unset] [(.long q4), (.ref bb), (.int (5 : Int32)), (.ref b3)])) (fun _ k => st8 _ (XS.aload X8.here hx rfl (hb hby at_121) rfl rfl (XS.iconst X8.here hx rfl (hb hby at_123) (XS.aload X8.here hx rfl (hb hby at_124) rfl rfl (XS.lload X8.here hx rfl (hb hby at_126) rfl k))))) ?_
      obtain ⟨_, _, ⟨T9, L9, k9, n9⟩, -, X9, ⟨Lc9, hQ9, l9, y9, z9⟩, st9⟩ := Jvm.LawKit.callS X8 hx (y := (⟨"org/succession/KindOfPinLaw", "put", "([CILjava/lang/String;J)V"⟩ : MethodName)) hown (mvT hZ (hwi hw 9 rfl)) (mvT hZ (hwi hw 10 rfl)) (mvT hZ (hwi hw 11 rfl)) (mvT hZ (hwi hw 12 rfl)) (by decide) (backOf (W := 0) (rmPut l Z aV hw [] b3 (5 : Int32) bb q4 k3 cc8 nn tb kb cb zc fm T8.heap n0 Zn OL hzc rfm g_b3 hr8 hyB.1 (by decide) ne_bb_b3 ne_tb_b3 V_b3 E_bb F_coder_bb F_value_bb V_tb S_cs S_sf) hZ (hwi hw 12 rfl) (hwi hw 11 rfl) (by decide) (by decide)) (g := (mkF m 128 #[.val (.int p0), .val (.int p1), .val (.int p2), .val (.int p3), .val (.long q4), .second, .val (.int (p0 &&& (3 : Int32))), .val (.ref bb), .val (.int nn), .val (.ref b3), .unset, .unset, .unset] [(.long q4), (.ref bb), (.int (5 : Int32)), (.ref b3)])) rfl (by rw [hml]; rfl) (argsL := [(.ref b3), (.int (5 : Int32)), (.ref bb), (.long q4)]) (rest := []) (lenOf pd_5 rfl) rfl (by show 2 * 0 + _ ≤ _; exact Nat.le_of_eq rfl) (hb hby at_128) (fun _ _ => ⟨rfl, rfl, (by decide : 3 + 0 ≤ _), (by decide : 45 + 0 ≤ _)⟩)
      dsimp only [Pt.U, Pt.locs, Pt.cells, Pt.slots] at X9 l9 y9 z9 st9 hQ9
      replace l9 := l9.symm; replace y9 := y9.symm; replace z9 := z9.symm; subst l9 y9 z9
      obtain ⟨cc9, rfl, N9q, K9, qV, hr9⟩ := hQ9
      have sfa : ∀ x ∈ [b3], Safe Z consts_1 vmJ2 T8.heap x := (allS (own_safeA (EL := consts_1) hZ.alike V_b3 (by decide)) all0)
      have CR := CR.trans (CHr.keep K9 sfa CR.1)
      have OL := OL.keep K9 (allS g_b3 all0)
      have E_bb := E_bb.keep K9
      have F_coder_bb := F_coder_bb.keep K9 (ninS ne_bb_b3 nin0)
      have F_value_bb := F_value_bb.keep K9 (ninS ne_bb_b3 nin0)
      have V_tb := V_tb.keep K9 (ninS ne_tb_b3 nin0)
      have V_b3 := qV
      have Kp := Kp.trans K9 (allS (Or.inr sz_b3) all0)
      have Zn := Nat.le_trans Zn K9.1
      have hk := Nat.le_trans hk K9.1
      have N9 := Fr.app N8 N9q
      refine Run.st (S' := T9.setTop (mkF m 139 #[.val (.int p0), .val (.int p1), .val (.int p2), .val (.int p3), .val (.long q4), .second, .val (.int (p0 &&& (3 : Int32))), .val (.ref bb), .val (.int nn), .val (.ref b3), .unset, .unset, .unset] [(.long q4), (.ref bb), (.int (6 : Int32)), (.ref b3)])) (fun _ k => st9 _ (XS.aload X9.here hx rfl (hb hby at_131) rfl rfl (XS.bipush X9.here hx rfl (hb hby at_133) (XS.aload X9.here hx rfl (hb hby at_135) rfl rfl (XS.lload X9.here hx rfl (hb hby at_137) rfl k))))) ?_
      obtain ⟨_, _, ⟨T10, L10, k10, n10⟩, -, X10, ⟨Lc10, hQ10, l10, y10, z10⟩, st10⟩ := Jvm.LawKit.callS X9 hx (y := (⟨"org/succession/KindOfPinLaw", "put", "([CILjava/lang/String;J)V"⟩ : MethodName)) hown (mvT hZ (hwi hw 9 rfl)) (mvT hZ (hwi hw 10 rfl)) (mvT hZ (hwi hw 11 rfl)) (mvT hZ (hwi hw 12 rfl)) (by decide) (backOf (W := 0) (rmPut l Z aV hw [] b3 (6 : Int32) bb q4 k3 cc9 nn tb kb cb zc fm T9.heap n0 Zn OL hzc rfm g_b3 hr9 hyB.1 (by decide) ne_bb_b3 ne_tb_b3 V_b3 E_bb F_coder_bb F_value_bb V_tb S_cs S_sf) hZ (hwi hw 12 rfl) (hwi hw 11 rfl) (by decide) (by decide)) (g := (mkF m 139 #[.val (.int p0), .val (.int p1), .val (.int p2), .val (.int p3), .val (.long q4), .second, .val (.int (p0 &&& (3 : Int32))), .val (.ref bb), .val (.int nn), .val (.ref b3), .unset, .unset, .unset] [(.long q4), (.ref bb), (.int (6 : Int32)), (.ref b3)])) rfl (by rw [hml]; rfl) (argsL := [(.ref b3), (.int (6 : Int32)), (.ref bb), (.long q4)]) (rest := []) (lenOf pd_5 rfl) rfl (by show 2 * 0 + _ ≤ _; exact Nat.le_of_eq rfl) (hb hby at_139) (fun _ _ => ⟨rfl, rfl, (by decide : 3 + 0 ≤ _), (by decide : 45 + 0 ≤ _)⟩)
      dsimp only [Pt.U, Pt.locs, Pt.cells, Pt.slots] at X10 l10 y10 z10 st10 hQ10
      replace l10 := l10.symm; replace y10 := y10.symm; replace z10 := z10.symm; subst l10 y10 z10
      obtain ⟨cc10, rfl, N10q, K10, qV, hr10⟩ := hQ10
      have sfa : ∀ x ∈ [b3], Safe Z consts_1 vmJ2 T9.heap x := (allS (own_safeA (EL := consts_1) hZ.alike V_b3 (by decide)) all0)
      have CR := CR.trans (CHr.keep K10 sfa CR.1)
      have OL := OL.keep K10 (allS g_b3 all0)
      have E_bb := E_bb.keep K10
      have F_coder_bb := F_coder_bb.keep K10 (ninS ne_bb_b3 nin0)
      have F_value_bb := F_value_bb.keep K10 (ninS ne_bb_b3 nin0)
      have V_tb := V_tb.keep K10 (ninS ne_tb_b3 nin0)
      have V_b3 := qV
      have Kp := Kp.trans K10 (allS (Or.inr sz_b3) all0)
      have Zn := Nat.le_trans Zn K10.1
      have hk := Nat.le_trans hk K10.1
      have N10 := Fr.app N9 N10q
      refine Run.st (S' := T10.setTop (mkF m 150 #[.val (.int p0), .val (.int p1), .val (.int p2), .val (.int p3), .val (.long q4), .second, .val (.int (p0 &&& (3 : Int32))), .val (.ref bb), .val (.int nn), .val (.ref b3), .unset, .unset, .unset] [(.long q4), (.ref bb), (.int (7 : Int32)), (.ref b3)])) (fun _ k => st10 _ (XS.aload X10.here hx rfl (hb hby at_142) rfl rfl (XS.bipush X10.here hx rfl (hb hby at_144) (XS.aload X10.here hx rfl (hb hby at_146) rfl rfl (XS.lload X10.here hx rfl (hb hby at_148) rfl k))))) ?_
      obtain ⟨_, _, ⟨T11, L11, k11, n11⟩, -, X11, ⟨Lc11, hQ11, l11, y11, z11⟩, st11⟩ := Jvm.LawKit.callS X10 hx (y := (⟨"org/succession/KindOfPinLaw", "put", "([CILjava/lang/String;J)V"⟩ : MethodName)) hown (mvT hZ (hwi hw 9 rfl)) (mvT hZ (hwi hw 10 rfl)) (mvT hZ (hwi hw 11 rfl)) (mvT hZ (hwi hw 12 rfl)) (by decide) (backOf (W := 0) (rmPut l Z aV hw [] b3 (7 : Int32) bb q4 k3 cc10 nn tb kb cb zc fm T10.heap n0 Zn OL hzc rfm g_b3 hr10 hyB.1 (by decide) ne_bb_b3 ne_tb_b3 V_b3 E_bb F_coder_bb F_value_bb V_tb S_cs S_sf) hZ (hwi hw 12 rfl) (hwi hw 11 rfl) (by decide) (by decide)) (g := (mkF m 150 #[.val (.int p0), .val (.int p1), .val (.int p2), .val (.int p3), .val (.long q4), .second, .val (.int (p0 &&& (3 : Int32))), .val (.ref bb), .val (.int nn), .val (.ref b3), .unset, .unset, .unset] [(.long q4), (.ref bb), (.int (7 : Int32)), (.ref b3)])) rfl (by rw [hml]; rfl) (argsL := [(.ref b3), (.int (7 : Int32)), (.ref bb), (.long q4)]) (rest := []) (lenOf pd_5 rfl) rfl (by show 2 * 0 + _ ≤ _; exact Nat.le_of_eq rfl) (hb hby at_150) (fun _ _ => ⟨rfl, rfl, (by decide : 3 + 0 ≤ _), (by decide : 45 + 0 ≤ _)⟩)
      dsimp only [Pt.U, Pt.locs, Pt.cells, Pt.slots] at X11 l11 y11 z11 st11 hQ11
      replace l11 := l11.symm; replace y11 := y11.symm; replace z11 := z11.symm; subst l11 y11 z11
      obtain ⟨cc11, rfl, N11q, K11, qV, hr11⟩ := hQ11
      have sfa : ∀ x ∈ [b3], Safe Z consts_1 vmJ2 T10.heap x := (allS (own_safeA (EL := consts_1) hZ.alike V_b3 (by decide)) all0)
      have CR := CR.trans (CHr.keep K11 sfa CR.1)
      have OL := OL.keep K11 (allS g_b3 all0)
      have E_bb := E_bb.keep K11
      have F_coder_bb := F_coder_bb.keep K11 (ninS ne_bb_b3 nin0)
      have F_value_bb := F_value_bb.keep K11 (ninS ne_bb_b3 nin0)
      have V_tb := V_tb.keep K11 (ninS ne_tb_b3 nin0)
      have V_b3 := qV
      have Kp := Kp.trans K11 (allS (Or.inr sz_b3) all0)
      have Zn := Nat.le_trans Zn K11.1
      have hk := Nat.le_trans hk K11.1
      have N11 := Fr.app N10 N11q
      refine Run.st (S' := T11.setTop (mkF m 161 #[.val (.int p0), .val (.int p1), .val (.int p2), .val (.int p3), .val (.long q4), .second, .val (.int (p0 &&& (3 : Int32))), .val (.ref bb), .val (.int nn), .val (.ref b3), .unset, .unset, .unset] [(.long q4), (.ref bb), (.int (8 : Int32)), (.ref b3)])) (fun _ k => st11 _ (XS.aload X11.here hx rfl (hb hby at_153) rfl rfl (XS.bipush X11.here hx rfl (hb hby at_155) (XS.aload X11.here hx rfl (hb hby at_157) rfl rfl (XS.lload X11.here hx rfl (hb hby at_159) rfl k))))) ?_
      obtain ⟨_, _, ⟨T12, L12, k12, n12⟩, -, X12, ⟨Lc12, hQ12, l12, y12, z12⟩, st12⟩ := Jvm.LawKit.callS X11 hx (y := (⟨"org/succession/KindOfPinLaw", "put", "([CILjava/lang/String;J)V"⟩ : MethodName)) hown (mvT hZ (hwi hw 9 rfl)) (mvT hZ (hwi hw 10 rfl)) (mvT hZ (hwi hw 11 rfl)) (mvT hZ (hwi hw 12 rfl)) (by decide) (backOf (W := 0) (rmPut l Z aV hw [] b3 (8 : Int32) bb q4 k3 cc11 nn tb kb cb zc fm T11.heap n0 Zn OL hzc rfm g_b3 hr11 hyB.1 (by decide) ne_bb_b3 ne_tb_b3 V_b3 E_bb F_coder_bb F_value_bb V_tb S_cs S_sf) hZ (hwi hw 12 rfl) (hwi hw 11 rfl) (by decide) (by decide)) (g := (mkF m 161 #[.val (.int p0), .val (.int p1), .val (.int p2), .val (.int p3), .val (.long q4), .second, .val (.int (p0 &&& (3 : Int32))), .val (.ref bb), .val (.int nn), .val (.ref b3), .unset, .unset, .unset] [(.long q4), (.ref bb), (.int (8 : Int32)), (.ref b3)])) rfl (by rw [hml]; rfl) (argsL := [(.ref b3), (.int (8 : Int32)), (.ref bb), (.long q4)]) (rest := []) (lenOf pd_5 rfl) rfl (by show 2 * 0 + _ ≤ _; exact Nat.le_of_eq rfl) (hb hby at_161) (fun _ _ => ⟨rfl, rfl, (by decide : 3 + 0 ≤ _), (by decide : 45 + 0 ≤ _)⟩)
      dsimp only [Pt.U, Pt.locs, Pt.cells, Pt.slots] at X12 l12 y12 z12 st12 hQ12
      replace l12 := l12.symm; replace y12 := y12.symm; replace z12 := z12.symm; subst l12 y12 z12
      obtain ⟨cc12, rfl, N12q, K12, qV, hr12⟩ := hQ12
      have sfa : ∀ x ∈ [b3], Safe Z consts_1 vmJ2 T11.heap x := (allS (own_safeA (EL := consts_1) hZ.alike V_b3 (by decide)) all0)
      have CR := CR.trans (CHr.keep K12 sfa CR.1)
      have OL := OL.keep K12 (allS g_b3 all0)
      have E_bb := E_bb.keep K12
      have F_coder_bb := F_coder_bb.keep K12 (ninS ne_bb_b3 nin0)
      have F_value_bb := F_value_bb.keep K12 (ninS ne_bb_b3 nin0)
      have V_tb := V_tb.keep K12 (ninS ne_tb_b3 nin0)
      have V_b3 := qV
      have Kp := Kp.trans K12 (allS (Or.inr sz_b3) all0)
      have Zn := Nat.le_trans Zn K12.1
      have hk := Nat.le_trans hk K12.1
      have N12 := Fr.app N11 N12q
      refine Run.st (S' := T12.setTop (mkF m 164 #[.val (.int p0), .val (.int p1), .val (.int p2), .val (.int p3), .val (.long q4), .second, .val (.int (p0 &&& (3 : Int32))), .val (.ref bb), .val (.int nn), .val (.ref b3), .unset, .unset, .unset] [])) (fun _ k => st12 _ k) ?_
      have JH13 : ∀ (cz : List Int32) (Tl13 : State) (Hl13 : Heap) (gl : GoodW p l e room_1 s m #[(.int p0), (.int p1), (.int p2), (.int p3), (.long q4)] below meth c n0 3 45 "org/succession/KindOfPinLaw" Z h0 Hl13 Tl13) (Zn : n0 ≤ Hl13.size) (Kp : Keep h0 Hl13 []) (OL : Old Z n0 Hl13) (E_bb : Exa Z Hl13 bb "java/lang/String") (F_coder_bb : Fld Z Hl13 bb "java/lang/String" "coder" "B" (.int (0 : Int32))) (F_value_bb : Fld Z Hl13 bb "java/lang/String" "value" "[B" (.ref tb)) (V_tb : Arv Z Hl13 tb kb .byte (Int32.ofNat cb.length) ((own_bs cb).map Value.int) (.int (0 : Int32))) (V_b3 : Arv Z Hl13 b3 k3 .char nn (cz.map Value.int) (.int (0 : Int32))), (∀ c ∈ cz, ¬ c < 0 ∧ ¬ (255 : Int32) < c) ∧ cz.length = nn.toNatClampNeg → Run p e below (EndsW Z s (Q0 Z p0 p1 p2 p3 q4 zc fm vv kV rc rm re lrc tlrc klrc lrm tlrm klrm lre tlre klre h0 n0) room_1.cells room_1.slots) (Tl13.setTop (mkF m 191 #[.val (.int p0), .val (.int p1), .val (.int p2), .val (.int p3), .val (.long q4), .second, .val (.int (p0 &&& (3 : Int32))), .val (.ref bb), .val (.int nn), .val (.ref b3), .unset, .unset, .unset] [])) := by
        intro cz Tl13 Hl13 gl Zn Kp OL E_bb F_coder_bb F_value_bb V_tb V_b3 hyJ
        obtain ⟨vmJ13, kJ13, lcs13, Xl13, Nl13, El13, hS, hk, hZ, hown, CR⟩ := gl
        have hyZ := hyJ
        refine Run.st (S' := Tl13.setTop (mkF m 199 #[.val (.int p0), .val (.int p1), .val (.int p2), .val (.int p3), .val (.long q4), .second, .val (.int (p0 &&& (3 : Int32))), .val (.ref bb), .val (.int nn), .val (.ref b3), .unset, .unset, .unset] [(.int (7 : Int32)), (.int (((p0.toUInt32 >>> ((3 : Int32) &&& 31).toUInt32).toInt32) &&& (7 : Int32)))])) (fun _ k => XS.iloadN Xl13.here hx rfl (hb hby at_191) rfl (XS.iconst Xl13.here hx rfl (hb hby at_192) (XS.iushr Xl13.here hx rfl (hb hby at_193) rfl (XS.bipush Xl13.here hx rfl (hb hby at_194) (XS.iand Xl13.here hx rfl (hb hby at_196) rfl (XS.bipush Xl13.here hx rfl (hb hby at_197) k)))))) ?_
        by_cases hc199_14 : (((p0.toUInt32 >>> ((3 : Int32) &&& 31).toUInt32).toInt32) &&& (7 : Int32)) = (7 : Int32)
        · refine Run.st (S' := Tl13.setTop (mkF m 219 #[.val (.int p0), .val (.int p1), .val (.int p2), .val (.int p3), .val (.long q4), .second, .val (.int (p0 &&& (3 : Int32))), .val (.ref bb), .val (.int nn), .val (.ref b3), .val .null, .unset, .unset] [.null])) (fun _ k => XS.icmpNo Xl13.here hx rfl (hb hby at_199) rfl (teq hc199_14).2 (XS.aconstNull Xl13.here hx rfl (hb hby at_202) (XS.goto Xl13.here hx rfl (pc0 := 203) (pc' := 215) rfl (hb hby at_203) (by decide) (by decide) (XS.astore Xl13.here hx rfl (hb hby at_215) rfl rfl (l' := #[.val (.int p0), .val (.int p1), .val (.int p2), .val (.int p3), .val (.long q4), .second, .val (.int (p0 &&& (3 : Int32))), .val (.ref bb), .val (.int nn), .val (.ref b3), .val .null, .unset, .unset]) rfl (XS.aload Xl13.here hx rfl (hb hby at_217) rfl rfl k))))) ?_
          obtain ⟨_, _, ⟨T15, L15, k15, n15⟩, -, X15, ⟨Lc15, hQ15, l15, y15, z15⟩, st15⟩ := Jvm.LawKit.callS Xl13 hx (y := (⟨"org/succession/Event$Kind", "of", "(Ljava/lang/String;)Lorg/succession/Event$Kind;"⟩ : MethodName)) hown (mvT hZ (hwi hw 69 rfl)) (mvT hZ (hwi hw 70 rfl)) (mvT hZ (hwi hw 71 rfl)) (mvT hZ (hwi hw 72 rfl)) (by decide) (backOf (W := 0) (rmOfN l Z aV hw [] vv kV rc rm re lrc tlrc klrc lrm tlrm klrm lre tlre klre Hl13 n0 Zn OL S_vals V_vv E_vv F_written_rc E_lrc F_coder_lrc F_value_lrc V_tlrc F_written_rm E_lrm F_coder_lrm F_value_lrm V_tlrm F_written_re E_lre F_coder_lre F_value_lre V_tlre) hZ (hwi hw 72 rfl) (hwi hw 71 rfl) (by decide) (by decide)) (g := (mkF m 219 #[.val (.int p0), .val (.int p1), .val (.int p2), .val (.int p3), .val (.long q4), .second, .val (.int (p0 &&& (3 : Int32))), .val (.ref bb), .val (.int nn), .val (.ref b3), .val .null, .unset, .unset] [.null])) rfl (by rw [hml]; rfl) (argsL := [.null]) (rest := []) (lenOf pd_6 rfl) rfl (by show 2 * 0 + _ ≤ _; exact Nat.le_of_eq rfl) (hb hby at_219) (fun _ _ => ⟨rfl, El13, (by decide : 3 + 1 ≤ _), (by decide : 45 + 3 ≤ _)⟩)
          dsimp only [Pt.U, Pt.locs, Pt.cells, Pt.slots] at X15 l15 y15 z15 st15 hQ15
          replace l15 := l15.symm; replace y15 := y15.symm; replace z15 := z15.symm; subst l15 y15 z15
          obtain ⟨rfl, N15q, K15⟩ := hQ15
          have sfa : ∀ x ∈ [], Safe Z consts_1 vmJ13 Hl13 x := all0
          have CR := CR.trans (CHr.keep K15 sfa CR.1)
          have OL := OL.keep K15 all0
          have E_bb := E_bb.keep K15
          have F_coder_bb := F_coder_bb.keep K15 nin0
          have F_value_bb := F_value_bb.keep K15 nin0
          have V_tb := V_tb.keep K15 nin0
          have V_b3 := V_b3.keep K15 nin0
          have Kp := Kp.trans K15 all0
          have Zn := Nat.le_trans Zn K15.1
          have hk := Nat.le_trans hk K15.1
          have N15 := Fr.app Nl13 N15q
          refine Run.st (S' := T15.setTop (mkF m 294 #[.val (.int p0), .val (.int p1), .val (.int p2), .val (.int p3), .val (.long q4), .second, .val (.int (p0 &&& (3 : Int32))), .val (.ref bb), .val (.int nn), .val (.ref b3), .val .null, .val .null, .val .null] [.null])) (fun _ k => st15 _ (XS.astore X15.here hx rfl (hb hby at_222) rfl rfl (l' := #[.val (.int p0), .val (.int p1), .val (.int p2), .val (.int p3), .val (.long q4), .second, .val (.int (p0 &&& (3 : Int32))), .val (.ref bb), .val (.int nn), .val (.ref b3), .val .null, .val .null, .unset]) rfl (XS.aload X15.here hx rfl (hb hby at_224) rfl rfl (XS.ifnonnullNo X15.here hx rfl (hb hby at_226) rfl (XS.aconstNull X15.here hx rfl (hb hby at_229) (XS.astore X15.here hx rfl (hb hby at_230) rfl rfl (l' := #[.val (.int p0), .val (.int p1), .val (.int p2), .val (.int p3), .val (.long q4), .second, .val (.int (p0 &&& (3 : Int32))), .val (.ref bb), .val (.int nn), .val (.ref b3), .val .null, .val .null, .val .null]) rfl (XS.goto X15.here hx rfl (pc0 := 232) (pc' := 292) rfl (hb hby at_232) (by decide) (by decide) (XS.aload X15.here hx rfl (hb hby at_292) rfl rfl k)))))))) ?_
          refine Run.st (S' := T15.setTop (mkF m 304 #[.val (.int p0), .val (.int p1), .val (.int p2), .val (.int p3), .val (.long q4), .second, .val (.int (p0 &&& (3 : Int32))), .val (.ref bb), .val (.int nn), .val (.ref b3), .val .null, .val .null, .val .null] [(.int (1 : Int32))])) (fun _ k => XS.aload X15.here hx rfl (hb hby at_294) rfl rfl (Jvm.RoadKit.acmp (g := (mkF m 296 #[.val (.int p0), .val (.int p1), .val (.int p2), .val (.int p3), .val (.long q4), .second, .val (.int (p0 &&& (3 : Int32))), .val (.ref bb), .val (.int nn), .val (.ref b3), .val .null, .val .null, .val .null] [.null, .null])) X15 hx rfl rfl rfl (pc0 := 296) (pc' := 299) (same := true) rfl (hb hby at_296) rfl (decide_eq_true rfl) (by decide) (by decide) (XS.iconst X15.here hx rfl (hb hby at_299) (XS.goto X15.here hx rfl (pc0 := 300) (pc' := 304) rfl (hb hby at_300) (by decide) (by decide) k)))) ?_
          refine Run.outW X15 hx hS hk (by rw [hh]; exact CR.trans (CHv.at X15 hZ (own_EW hw) CR.1)) Bd.notSynchronized Bd.returns rfl (Or.inl ⟨rfl, by simp, _, rfl⟩) (hb hby at_304) (by decide) (by decide) ?_
          exact ⟨rfl, N15⟩
        · refine Run.st (S' := Tl13.setTop (mkF m 206 #[.val (.int p0), .val (.int p1), .val (.int p2), .val (.int p3), .val (.long q4), .second, .val (.int (p0 &&& (3 : Int32))), .val (.ref bb), .val (.int nn), .val (.ref b3), .unset, .unset, .unset] [])) (fun _ k => XS.icmpYes Xl13.here hx rfl (pc0 := 199) (pc' := 206) rfl (hb hby at_199) rfl (feq hc199_14).2 (by decide) (by decide) k) ?_
          obtain ⟨T16, h16, X16, e16, E16, A16, D16, -, st16⟩ := newO Xl13 hx hZ hown (hwi hw 48 rfl) (hwi hw 2 rfl) (hwi hw 1 rfl) El13 (g := (mkF m 206 #[.val (.int p0), .val (.int p1), .val (.int p2), .val (.int p3), .val (.long q4), .second, .val (.int (p0 &&& (3 : Int32))), .val (.ref bb), .val (.int nn), .val (.ref b3), .unset, .unset, .unset] [])) rfl (hb hby at_206) (by decide) (by decide)
          obtain ⟨b16, g16⟩ : ∃ z, z = Hl13.size := ⟨_, rfl⟩
          rw [← g16] at A16 D16 st16
          have ne_bb_b16 : bb ≠ b16 := Nat.ne_of_lt (Nat.lt_of_lt_of_le E_bb.lt (Nat.le_of_eq g16.symm))
          have ne_tb_b16 : tb ≠ b16 := Nat.ne_of_lt (Nat.lt_of_lt_of_le V_tb.lt (Nat.le_of_eq g16.symm))
          have ne_b3_b16 : b3 ≠ b16 := Nat.ne_of_lt (Nat.lt_of_lt_of_le V_b3.lt (Nat.le_of_eq g16.symm))
          have CR := CR.trans (CHr.ext E16 CR.1)
          have E_bb := E_bb.ext E16
          have F_coder_bb := F_coder_bb.ext E16
          have F_value_bb := F_value_bb.ext E16
          have V_tb := V_tb.ext E16
          have V_b3 := V_b3.ext E16
          have OL := OL.ext E16
          have g_b16 : n0 ≤ b16 := Nat.le_trans Zn (Nat.le_of_eq g16.symm)
          have Zn := Nat.le_trans Zn E16.1
          have hk := Nat.le_trans hk E16.1
          have sz_b16 : h0.size ≤ b16 := Nat.le_trans Kp.1 (Nat.le_of_eq g16.symm)
          have Kp := Kp.ext E16
          have E_b16 := A16
          have F_value_b16 : Fld Z h16 b16 "java/lang/String" "value" "[B" .null := D16 (Or.inr (hwi hw 4 rfl)) (ty := (.array .byte)) (by decide)
          have F_coder_b16 : Fld Z h16 b16 "java/lang/String" "coder" "B" (.int (0 : Int32)) := D16 (Or.inr (hwi hw 5 rfl)) (ty := .byte) (by decide)
          refine Run.st (S' := T16.setTop (mkF m 212 #[.val (.int p0), .val (.int p1), .val (.int p2), .val (.int p3), .val (.long q4), .second, .val (.int (p0 &&& (3 : Int32))), .val (.ref bb), .val (.int nn), .val (.ref b3), .unset, .unset, .unset] [(.ref b3), (.ref b16), (.ref b16)])) (fun _ k => st16 _ (XS.dup X16.here hx rfl (hb hby at_209) rfl rfl (XS.aload X16.here hx rfl (hb hby at_210) rfl rfl k))) ?_
          have JH17 : ∀ (ts : Addr) (ks : ClassId) (css : List Int32) (Tl17 : State) (Hl17 : Heap) (gl : GoodW p l e room_1 s m #[(.int p0), (.int p1), (.int p2), (.int p3), (.long q4)] below meth c n0 8 58 "org/succession/KindOfPinLaw" Z h0 Hl17 Tl17) (Zn : n0 ≤ Hl17.size) (Kp : Keep h0 Hl17 []) (OL : Old Z n0 Hl17) (E_b16 : Exa Z Hl17 b16 "java/lang/String") (F_value_b16 : Fld Z Hl17 b16 "java/lang/String" "value" "[B" (.ref ts)) (F_coder_b16 : Fld Z Hl17 b16 "java/lang/String" "coder" "B" (.int (0 : Int32))) (V_ts : Arv Z Hl17 ts ks .byte (Int32.ofNat css.length) ((own_bs css).map Value.int) (.int (0 : Int32))), own_L1 css → Run p e below (EndsW Z s (Q0 Z p0 p1 p2 p3 q4 zc fm vv kV rc rm re lrc tlrc klrc lrm tlrm klrm lre tlre klre h0 n0) room_1.cells room_1.slots) (Tl17.setTop (mkF m 217 #[.val (.int p0), .val (.int p1), .val (.int p2), .val (.int p3), .val (.long q4), .second, .val (.int (p0 &&& (3 : Int32))), .val (.ref bb), .val (.int nn), .val (.ref b3), .val (.ref b16), .unset, .unset] [])) := by
            intro ts ks css Tl17 Hl17 gl Zn Kp OL E_b16 F_value_b16 F_coder_b16 V_ts hyJ
            obtain ⟨vmJ17, kJ17, lcs17, Xl17, Nl17, El17, hS, hk, hZ, hown, CR⟩ := gl
            have hyS := hyJ
            refine Run.st (S' := Tl17.setTop (mkF m 219 #[.val (.int p0), .val (.int p1), .val (.int p2), .val (.int p3), .val (.long q4), .second, .val (.int (p0 &&& (3 : Int32))), .val (.ref bb), .val (.int nn), .val (.ref b3), .val (.ref b16), .unset, .unset] [(.ref b16)])) (fun _ k => XS.aload Xl17.here hx rfl (hb hby at_217) rfl rfl k) ?_
            obtain ⟨_, _, ⟨T18, L18, k18, n18⟩, -, X18, ⟨Lc18, hQ18, l18, y18, z18⟩, st18⟩ := Jvm.LawKit.callS Xl17 hx (y := (⟨"org/succession/Event$Kind", "of", "(Ljava/lang/String;)Lorg/succession/Event$Kind;"⟩ : MethodName)) hown (mvT hZ (hwi hw 69 rfl)) (mvT hZ (hwi hw 70 rfl)) (mvT hZ (hwi hw 71 rfl)) (mvT hZ (hwi hw 72 rfl)) (by decide) (backOf (W := 0) (rmOf l Z aV hw [] b16 zc vv kV rc rm re lrc tlrc klrc lrm tlrm klrm lre tlre klre ts ks css Hl17 n0 Zn OL hzc hyS S_cs S_vals V_vv E_vv F_written_rc E_lrc F_coder_lrc F_value_lrc V_tlrc F_written_rm E_lrm F_coder_lrm F_value_lrm V_tlrm F_written_re E_lre F_coder_lre F_value_lre V_tlre E_b16 F_coder_b16 F_value_b16 V_ts) hZ (hwi hw 72 rfl) (hwi hw 71 rfl) (by decide) (by decide)) (g := (mkF m 219 #[.val (.int p0), .val (.int p1), .val (.int p2), .val (.int p3), .val (.long q4), .second, .val (.int (p0 &&& (3 : Int32))), .val (.ref bb), .val (.int nn), .val (.ref b3), .val (.ref b16), .unset, .unset] [(.ref b16)])) rfl (by rw [hml]; rfl) (argsL := [(.ref b16)]) (rest := []) (lenOf pd_6 rfl) rfl (by show 2 * 0 + _ ≤ _; exact Nat.le_of_eq rfl) (hb hby at_219) (fun _ _ => ⟨rfl, El17, (by decide : 8 + 1 ≤ _), (by decide : 58 + 3 ≤ _)⟩)
            dsimp only [Pt.U, Pt.locs, Pt.cells, Pt.slots] at X18 l18 y18 z18 st18 hQ18
            replace l18 := l18.symm; replace y18 := y18.symm; replace z18 := z18.symm; subst l18 y18 z18
            obtain ⟨rfl, N18q, K18⟩ := hQ18
            have sfa : ∀ x ∈ [], Safe Z consts_1 vmJ17 Hl17 x := all0
            have CR := CR.trans (CHr.keep K18 sfa CR.1)
            have OL := OL.keep K18 all0
            have E_b16 := E_b16.keep K18
            have F_value_b16 := F_value_b16.keep K18 nin0
            have F_coder_b16 := F_coder_b16.keep K18 nin0
            have V_ts := V_ts.keep K18 nin0
            have Kp := Kp.trans K18 all0
            have Zn := Nat.le_trans Zn K18.1
            have hk := Nat.le_trans hk K18.1
            have N18 := Fr.app Nl17 N18q
            refine Run.st (S' := T18.setTop (mkF m 237 #[.val (.int p0), .val (.int p1), .val (.int p2), .val (.int p3), .val (.long q4), .second, .val (.int (p0 &&& (3 : Int32))), .val (.ref bb), .val (.int nn), .val (.ref b3), .val (.ref b16), .val (own_FK css rc rm re), .unset] [(.ref b16)])) (fun _ k => st18 _ (XS.astore X18.here hx rfl (hb hby at_222) rfl (own_FK_ref _ _ _ _) (l' := #[.val (.int p0), .val (.int p1), .val (.int p2), .val (.int p3), .val (.long q4), .second, .val (.int (p0 &&& (3 : Int32))), .val (.ref bb), .val (.int nn), .val (.ref b3), .val (.ref b16), .val (own_FK css rc rm re), .unset]) (own_stl (x := .unset) rfl (own_cat (own_FK_ref _ _ _ _)) trivial) (XS.aload X18.here hx rfl (hb hby at_224) rfl rfl (XS.ifnonnullYes X18.here hx rfl (pc0 := 226) (pc' := 235) rfl (hb hby at_226) rfl (by decide) (by decide) (XS.aload X18.here hx rfl (hb hby at_235) rfl rfl k))))) ?_
            obtain ⟨sl19, T19, h19, kk19, sb19, kb19, X19, e19, E19, hS, hk, hZ, hown, E_sl19, F_coder_sl19, F_value_sl19, V_sb19, -, -, hC, -, hne19, st19⟩ := ldcCH X18 hx hZ hown (hwi hw 0 rfl) (own_wS hw) rfl hS hk (own_EW hw) (by decide) CR.1 (z := (Int32.ofNat own_lit3.length)) own_lit3_t (by decide) (by decide) (g := (mkF m 237 #[.val (.int p0), .val (.int p1), .val (.int p2), .val (.int p3), .val (.long q4), .second, .val (.int (p0 &&& (3 : Int32))), .val (.ref bb), .val (.int nn), .val (.ref b3), .val (.ref b16), .val (own_FK css rc rm re), .unset] [(.ref b16)])) rfl (hb hby at_237) (n := 32) (by decide) (by decide) (by decide) (by decide)
            have CR := CR.trans hC
            have E_b16 := E_b16.ext E19
            have F_value_b16 := F_value_b16.ext E19
            have F_coder_b16 := F_coder_b16.ext E19
            have V_ts := V_ts.ext E19
            have OL := OL.ext E19
            have Zn := Nat.le_trans Zn E19.1
            have Kp := Kp.ext E19
            refine Run.st (S' := T19.setTop (mkF m 239 #[.val (.int p0), .val (.int p1), .val (.int p2), .val (.int p3), .val (.long q4), .second, .val (.int (p0 &&& (3 : Int32))), .val (.ref bb), .val (.int nn), .val (.ref b3), .val (.ref b16), .val (own_FK css rc rm re), .unset] [(.ref sl19), (.ref b16)])) (fun _ k => st19 _ k) ?_
            have u_S_cs := S_cs.ext OL.2
            obtain ⟨cq20, kq20, q20a, q20b, q20c⟩ := isOf hZ e19 E_b16
            obtain ⟨_, _, ⟨T20, L20, k20, n20⟩, -, X20, ⟨Lc20, hQ20, l20, y20, z20⟩, st20⟩ := X19.virtualBack hx (y := (⟨"java/lang/String", "equals", "(Ljava/lang/Object;)Z"⟩ : MethodName)) (z := (⟨"java/lang/String", "equals", "(Ljava/lang/Object;)Z"⟩ : MethodName)) hown (mvT hZ (hwi hw 102 rfl)) (mvT hZ (hwi hw 94 rfl)) (notFace_of_selects (args := #[]) (mvT hZ (hwi hw 96 rfl))) (mvT hZ (hwi hw 96 rfl)) (mvT hZ (hwi hw 95 rfl)) (by decide) (own_eqB (n0 := n0) (W := 0) hw hZ E_b16 F_value_b16 F_coder_b16 V_ts hyS E_sl19 F_value_sl19 F_coder_sl19 V_sb19 own_lit3_L1 u_S_cs hzc (by decide) (by decide) (P := own_lit3 = css) ⟨Eq.symm, Eq.symm⟩) q20a q20c (g := (mkF m 239 #[.val (.int p0), .val (.int p1), .val (.int p2), .val (.int p3), .val (.long q4), .second, .val (.int (p0 &&& (3 : Int32))), .val (.ref bb), .val (.int nn), .val (.ref b3), .val (.ref b16), .val (own_FK css rc rm re), .unset] [(.ref sl19), (.ref b16)])) rfl (by rw [hml]; rfl) (Steps.refl _) (argsL := [(.ref sl19)]) (rest := []) (lenOf pd_3 rfl) rfl (by show 2 * 0 + _ ≤ _; exact Nat.le_of_eq rfl) (hb hby at_239) (fun _ _ => ⟨rfl, e19, (by decide : 11 + 0 ≤ _), (by decide : 97 + 0 ≤ _)⟩)
            dsimp only [Pt.U, Pt.locs, Pt.cells, Pt.slots] at X20 l20 y20 z20 st20 hQ20
            replace l20 := l20.symm; replace y20 := y20.symm; replace z20 := z20.symm; subst l20 y20 z20
            obtain ⟨rfl, N20q, e20⟩ := hQ20
            have N20 := Fr.app N18 N20q
            refine Run.st (S' := T20.setTop (mkF m 242 #[.val (.int p0), .val (.int p1), .val (.int p2), .val (.int p3), .val (.long q4), .second, .val (.int (p0 &&& (3 : Int32))), .val (.ref bb), .val (.int nn), .val (.ref b3), .val (.ref b16), .val (own_FK css rc rm re), .unset] [(.int (if own_lit3 = css then (1 : Int32) else (0 : Int32)))])) (fun _ k => st20.trans k) ?_
            by_cases hk242_21 : own_lit3 = css
            · refine Run.st (S' := T20.setTop (mkF m 245 #[.val (.int p0), .val (.int p1), .val (.int p2), .val (.int p3), .val (.long q4), .second, .val (.int (p0 &&& (3 : Int32))), .val (.ref bb), .val (.int nn), .val (.ref b3), .val (.ref b16), .val (own_FK css rc rm re), .unset] [])) (fun _ k => XS.ifNo X20.here hx rfl (hb hby at_242) rfl ((if0 _ _).trans (feq (show ¬ ((if own_lit3 = css then (1 : Int32) else (0 : Int32)) = (0 : Int32)) from (by rw [if_pos hk242_21]; decide))).1) k) ?_
              have u_S_rc := S_rc.ext OL.2
              obtain ⟨T22, X22, e22, st22⟩ := getS2 X20 hx hZ hown (host := "") (Or.inl (hwi hw 108 rfl)) Via.refl e20 u_S_rc (g := (mkF m 245 #[.val (.int p0), .val (.int p1), .val (.int p2), .val (.int p3), .val (.long q4), .second, .val (.int (p0 &&& (3 : Int32))), .val (.ref bb), .val (.int nn), .val (.ref b3), .val (.ref b16), .val (own_FK css rc rm re), .unset] [])) rfl (hb hby at_245)
              refine Run.st (S' := T22.setTop (mkF m 304 #[.val (.int p0), .val (.int p1), .val (.int p2), .val (.int p3), .val (.long q4), .second, .val (.int (p0 &&& (3 : Int32))), .val (.ref bb), .val (.int nn), .val (.ref b3), .val (.ref b16), .val (own_FK css rc rm re), .val (.ref rc)] [(.int (1 : Int32))])) (fun _ k => st22 _ (XS.astore X22.here hx rfl (hb hby at_248) rfl rfl (l' := #[.val (.int p0), .val (.int p1), .val (.int p2), .val (.int p3), .val (.long q4), .second, .val (.int (p0 &&& (3 : Int32))), .val (.ref bb), .val (.int nn), .val (.ref b3), .val (.ref b16), .val (own_FK css rc rm re), .val (.ref rc)]) rfl (XS.goto X22.here hx rfl (pc0 := 250) (pc' := 292) rfl (hb hby at_250) (by decide) (by decide) (XS.aload X22.here hx rfl (hb hby at_292) rfl (own_FK_ref _ _ _ _) (XS.aload X22.here hx rfl (hb hby at_294) rfl rfl (Jvm.RoadKit.acmp (g := (mkF m 296 #[.val (.int p0), .val (.int p1), .val (.int p2), .val (.int p3), .val (.long q4), .second, .val (.int (p0 &&& (3 : Int32))), .val (.ref bb), .val (.int nn), .val (.ref b3), .val (.ref b16), .val (own_FK css rc rm re), .val (.ref rc)] [(.ref rc), (own_FK css rc rm re)])) X22 hx rfl (own_FK_ref _ _ _ _) rfl (pc0 := 296) (pc' := 299) (same := true) rfl (hb hby at_296) rfl (decide_eq_true (show (own_FK css rc rm re) = (.ref rc) from by rw [own_FK, if_pos hk242_21])) (by decide) (by decide) (XS.iconst X22.here hx rfl (hb hby at_299) (XS.goto X22.here hx rfl (pc0 := 300) (pc' := 304) rfl (hb hby at_300) (by decide) (by decide) k)))))))) ?_
              refine Run.outW X22 hx hS (by rw [e22]; exact hk) (by rw [hh, e22]; exact CR.trans (CHv.at X22 hZ (own_EW hw) CR.1)) Bd.notSynchronized Bd.returns rfl (Or.inl ⟨rfl, by simp, _, rfl⟩) (hb hby at_304) (by decide) (by decide) ?_
              rw [e22]
              exact ⟨rfl, N20⟩
            · refine Run.st (S' := T20.setTop (mkF m 255 #[.val (.int p0), .val (.int p1), .val (.int p2), .val (.int p3), .val (.long q4), .second, .val (.int (p0 &&& (3 : Int32))), .val (.ref bb), .val (.int nn), .val (.ref b3), .val (.ref b16), .val (own_FK css rc rm re), .unset] [(.ref b16)])) (fun _ k => XS.ifYes X20.here hx rfl (pc0 := 242) (pc' := 253) rfl (hb hby at_242) rfl ((if0 _ _).trans (teq (show (if own_lit3 = css then (1 : Int32) else (0 : Int32)) = (0 : Int32) from (by rw [if_neg hk242_21]))).1) (by decide) (by decide) (XS.aload X20.here hx rfl (hb hby at_253) rfl rfl k)) ?_
              obtain ⟨sl23, T23, h23, kk23, sb23, kb23, X23, e23, E23, hS, hk, hZ, hown, E_sl23, F_coder_sl23, F_value_sl23, V_sb23, -, -, hC, -, hne23, st23⟩ := ldcCH X20 hx hZ hown (hwi hw 103 rfl) (own_wS hw) e20 hS hk (own_EW hw) (by decide) CR.1 (z := (Int32.ofNat own_lit2.length)) own_lit2_t (by decide) (by decide) (g := (mkF m 255 #[.val (.int p0), .val (.int p1), .val (.int p2), .val (.int p3), .val (.long q4), .second, .val (.int (p0 &&& (3 : Int32))), .val (.ref bb), .val (.int nn), .val (.ref b3), .val (.ref b16), .val (own_FK css rc rm re), .unset] [(.ref b16)])) rfl (hb hby at_255) (n := 32) (by decide) (by decide) (by decide) (by decide)
              have CR := CR.trans hC
              have E_b16 := E_b16.ext E23
              have F_value_b16 := F_value_b16.ext E23
              have F_coder_b16 := F_coder_b16.ext E23
              have V_ts := V_ts.ext E23
              have E_sl19 := E_sl19.ext E23
              have F_coder_sl19 := F_coder_sl19.ext E23
              have F_value_sl19 := F_value_sl19.ext E23
              have V_sb19 := V_sb19.ext E23
              have OL := OL.ext E23
              have Zn := Nat.le_trans Zn E23.1
              have Kp := Kp.ext E23
              refine Run.st (S' := T23.setTop (mkF m 257 #[.val (.int p0), .val (.int p1), .val (.int p2), .val (.int p3), .val (.long q4), .second, .val (.int (p0 &&& (3 : Int32))), .val (.ref bb), .val (.int nn), .val (.ref b3), .val (.ref b16), .val (own_FK css rc rm re), .unset] [(.ref sl23), (.ref b16)])) (fun _ k => st23 _ k) ?_
              have u_S_cs := S_cs.ext OL.2
              obtain ⟨cq24, kq24, q24a, q24b, q24c⟩ := isOf hZ e23 E_b16
              obtain ⟨_, _, ⟨T24, L24, k24, n24⟩, -, X24, ⟨Lc24, hQ24, l24, y24, z24⟩, st24⟩ := X23.virtualBack hx (y := (⟨"java/lang/String", "equals", "(Ljava/lang/Object;)Z"⟩ : MethodName)) (z := (⟨"java/lang/String", "equals", "(Ljava/lang/Object;)Z"⟩ : MethodName)) hown (mvT hZ (hwi hw 102 rfl)) (mvT hZ (hwi hw 94 rfl)) (notFace_of_selects (args := #[]) (mvT hZ (hwi hw 96 rfl))) (mvT hZ (hwi hw 96 rfl)) (mvT hZ (hwi hw 95 rfl)) (by decide) (own_eqB (n0 := n0) (W := 0) hw hZ E_b16 F_value_b16 F_coder_b16 V_ts hyS E_sl23 F_value_sl23 F_coder_sl23 V_sb23 own_lit2_L1 u_S_cs hzc (by decide) (by decide) (P := own_lit2 = css) ⟨Eq.symm, Eq.symm⟩) q24a q24c (g := (mkF m 257 #[.val (.int p0), .val (.int p1), .val (.int p2), .val (.int p3), .val (.long q4), .second, .val (.int (p0 &&& (3 : Int32))), .val (.ref bb), .val (.int nn), .val (.ref b3), .val (.ref b16), .val (own_FK css rc rm re), .unset] [(.ref sl23), (.ref b16)])) rfl (by rw [hml]; rfl) (Steps.refl _) (argsL := [(.ref sl23)]) (rest := []) (lenOf pd_3 rfl) rfl (by show 2 * 0 + _ ≤ _; exact Nat.le_of_eq rfl) (hb hby at_257) (fun _ _ => ⟨rfl, e23, (by decide : 13 + 0 ≤ _), (by decide : 133 + 0 ≤ _)⟩)
              dsimp only [Pt.U, Pt.locs, Pt.cells, Pt.slots] at X24 l24 y24 z24 st24 hQ24
              replace l24 := l24.symm; replace y24 := y24.symm; replace z24 := z24.symm; subst l24 y24 z24
              obtain ⟨rfl, N24q, e24⟩ := hQ24
              have N24 := Fr.app N20 N24q
              refine Run.st (S' := T24.setTop (mkF m 260 #[.val (.int p0), .val (.int p1), .val (.int p2), .val (.int p3), .val (.long q4), .second, .val (.int (p0 &&& (3 : Int32))), .val (.ref bb), .val (.int nn), .val (.ref b3), .val (.ref b16), .val (own_FK css rc rm re), .unset] [(.int (if own_lit2 = css then (1 : Int32) else (0 : Int32)))])) (fun _ k => st24.trans k) ?_
              by_cases hk260_25 : own_lit2 = css
              · refine Run.st (S' := T24.setTop (mkF m 263 #[.val (.int p0), .val (.int p1), .val (.int p2), .val (.int p3), .val (.long q4), .second, .val (.int (p0 &&& (3 : Int32))), .val (.ref bb), .val (.int nn), .val (.ref b3), .val (.ref b16), .val (own_FK css rc rm re), .unset] [])) (fun _ k => XS.ifNo X24.here hx rfl (hb hby at_260) rfl ((if0 _ _).trans (feq (show ¬ ((if own_lit2 = css then (1 : Int32) else (0 : Int32)) = (0 : Int32)) from (by rw [if_pos hk260_25]; decide))).1) k) ?_
                have u_S_rm := S_rm.ext OL.2
                obtain ⟨T26, X26, e26, st26⟩ := getS2 X24 hx hZ hown (host := "") (Or.inl (hwi hw 111 rfl)) Via.refl e24 u_S_rm (g := (mkF m 263 #[.val (.int p0), .val (.int p1), .val (.int p2), .val (.int p3), .val (.long q4), .second, .val (.int (p0 &&& (3 : Int32))), .val (.ref bb), .val (.int nn), .val (.ref b3), .val (.ref b16), .val (own_FK css rc rm re), .unset] [])) rfl (hb hby at_263)
                refine Run.st (S' := T26.setTop (mkF m 304 #[.val (.int p0), .val (.int p1), .val (.int p2), .val (.int p3), .val (.long q4), .second, .val (.int (p0 &&& (3 : Int32))), .val (.ref bb), .val (.int nn), .val (.ref b3), .val (.ref b16), .val (own_FK css rc rm re), .val (.ref rm)] [(.int (1 : Int32))])) (fun _ k => st26 _ (XS.astore X26.here hx rfl (hb hby at_266) rfl rfl (l' := #[.val (.int p0), .val (.int p1), .val (.int p2), .val (.int p3), .val (.long q4), .second, .val (.int (p0 &&& (3 : Int32))), .val (.ref bb), .val (.int nn), .val (.ref b3), .val (.ref b16), .val (own_FK css rc rm re), .val (.ref rm)]) rfl (XS.goto X26.here hx rfl (pc0 := 268) (pc' := 292) rfl (hb hby at_268) (by decide) (by decide) (XS.aload X26.here hx rfl (hb hby at_292) rfl (own_FK_ref _ _ _ _) (XS.aload X26.here hx rfl (hb hby at_294) rfl rfl (Jvm.RoadKit.acmp (g := (mkF m 296 #[.val (.int p0), .val (.int p1), .val (.int p2), .val (.int p3), .val (.long q4), .second, .val (.int (p0 &&& (3 : Int32))), .val (.ref bb), .val (.int nn), .val (.ref b3), .val (.ref b16), .val (own_FK css rc rm re), .val (.ref rm)] [(.ref rm), (own_FK css rc rm re)])) X26 hx rfl (own_FK_ref _ _ _ _) rfl (pc0 := 296) (pc' := 299) (same := true) rfl (hb hby at_296) rfl (decide_eq_true (show (own_FK css rc rm re) = (.ref rm) from by rw [own_FK, if_neg hk242_21, if_pos hk260_25])) (by decide) (by decide) (XS.iconst X26.here hx rfl (hb hby at_299) (XS.goto X26.here hx rfl (pc0 := 300) (pc' := 304) rfl (hb hby at_300) (by decide) (by decide) k)))))))) ?_
                refine Run.outW X26 hx hS (by rw [e26]; exact hk) (by rw [hh, e26]; exact CR.trans (CHv.at X26 hZ (own_EW hw) CR.1)) Bd.notSynchronized Bd.returns rfl (Or.inl ⟨rfl, by simp, _, rfl⟩) (hb hby at_304) (by decide) (by decide) ?_
                rw [e26]
                exact ⟨rfl, N24⟩
              · refine Run.st (S' := T24.setTop (mkF m 273 #[.val (.int p0), .val (.int p1), .val (.int p2), .val (.int p3), .val (.long q4), .second, .val (.int (p0 &&& (3 : Int32))), .val (.ref bb), .val (.int nn), .val (.ref b3), .val (.ref b16), .val (own_FK css rc rm re), .unset] [(.ref b16)])) (fun _ k => XS.ifYes X24.here hx rfl (pc0 := 260) (pc' := 271) rfl (hb hby at_260) rfl ((if0 _ _).trans (teq (show (if own_lit2 = css then (1 : Int32) else (0 : Int32)) = (0 : Int32) from (by rw [if_neg hk260_25]))).1) (by decide) (by decide) (XS.aload X24.here hx rfl (hb hby at_271) rfl rfl k)) ?_
                obtain ⟨sl27, T27, h27, kk27, sb27, kb27, X27, e27, E27, hS, hk, hZ, hown, E_sl27, F_coder_sl27, F_value_sl27, V_sb27, -, -, hC, -, hne27, st27⟩ := ldcCH X24 hx hZ hown (hwi hw 104 rfl) (own_wS hw) e24 hS hk (own_EW hw) (by decide) CR.1 (z := (Int32.ofNat own_lit1.length)) own_lit1_t (by decide) (by decide) (g := (mkF m 273 #[.val (.int p0), .val (.int p1), .val (.int p2), .val (.int p3), .val (.long q4), .second, .val (.int (p0 &&& (3 : Int32))), .val (.ref bb), .val (.int nn), .val (.ref b3), .val (.ref b16), .val (own_FK css rc rm re), .unset] [(.ref b16)])) rfl (hb hby at_273) (n := 12) (by decide) (by decide) (by decide) (by decide)
                have CR := CR.trans hC
                have E_b16 := E_b16.ext E27
                have F_value_b16 := F_value_b16.ext E27
                have F_coder_b16 := F_coder_b16.ext E27
                have V_ts := V_ts.ext E27
                have E_sl19 := E_sl19.ext E27
                have F_coder_sl19 := F_coder_sl19.ext E27
                have F_value_sl19 := F_value_sl19.ext E27
                have V_sb19 := V_sb19.ext E27
                have E_sl23 := E_sl23.ext E27
                have F_coder_sl23 := F_coder_sl23.ext E27
                have F_value_sl23 := F_value_sl23.ext E27
                have V_sb23 := V_sb23.ext E27
                have OL := OL.ext E27
                have Zn := Nat.le_trans Zn E27.1
                have Kp := Kp.ext E27
                refine Run.st (S' := T27.setTop (mkF m 275 #[.val (.int p0), .val (.int p1), .val (.int p2), .val (.int p3), .val (.long q4), .second, .val (.int (p0 &&& (3 : Int32))), .val (.ref bb), .val (.int nn), .val (.ref b3), .val (.ref b16), .val (own_FK css rc rm re), .unset] [(.ref sl27), (.ref b16)])) (fun _ k => st27 _ k) ?_
                have u_S_cs := S_cs.ext OL.2
                obtain ⟨cq28, kq28, q28a, q28b, q28c⟩ := isOf hZ e27 E_b16
                obtain ⟨_, _, ⟨T28, L28, k28, n28⟩, -, X28, ⟨Lc28, hQ28, l28, y28, z28⟩, st28⟩ := X27.virtualBack hx (y := (⟨"java/lang/String", "equals", "(Ljava/lang/Object;)Z"⟩ : MethodName)) (z := (⟨"java/lang/String", "equals", "(Ljava/lang/Object;)Z"⟩ : MethodName)) hown (mvT hZ (hwi hw 102 rfl)) (mvT hZ (hwi hw 94 rfl)) (notFace_of_selects (args := #[]) (mvT hZ (hwi hw 96 rfl))) (mvT hZ (hwi hw 96 rfl)) (mvT hZ (hwi hw 95 rfl)) (by decide) (own_eqB (n0 := n0) (W := 0) hw hZ E_b16 F_value_b16 F_coder_b16 V_ts hyS E_sl27 F_value_sl27 F_coder_sl27 V_sb27 own_lit1_L1 u_S_cs hzc (by decide) (by decide) (P := own_lit1 = css) ⟨Eq.symm, Eq.symm⟩) q28a q28c (g := (mkF m 275 #[.val (.int p0), .val (.int p1), .val (.int p2), .val (.int p3), .val (.long q4), .second, .val (.int (p0 &&& (3 : Int32))), .val (.ref bb), .val (.int nn), .val (.ref b3), .val (.ref b16), .val (own_FK css rc rm re), .unset] [(.ref sl27), (.ref b16)])) rfl (by rw [hml]; rfl) (Steps.refl _) (argsL := [(.ref sl27)]) (rest := []) (lenOf pd_3 rfl) rfl (by show 2 * 0 + _ ≤ _; exact Nat.le_of_eq rfl) (hb hby at_275) (fun _ _ => ⟨rfl, e27, (by decide : 15 + 0 ≤ _), (by decide : 149 + 0 ≤ _)⟩)
                dsimp only [Pt.U, Pt.locs, Pt.cells, Pt.slots] at X28 l28 y28 z28 st28 hQ28
                replace l28 := l28.symm; replace y28 := y28.symm; replace z28 := z28.symm; subst l28 y28 z28
                obtain ⟨rfl, N28q, e28⟩ := hQ28
                have N28 := Fr.app N24 N28q
                refine Run.st (S' := T28.setTop (mkF m 278 #[.val (.int p0), .val (.int p1), .val (.int p2), .val (.int p3), .val (.long q4), .second, .val (.int (p0 &&& (3 : Int32))), .val (.ref bb), .val (.int nn), .val (.ref b3), .val (.ref b16), .val (own_FK css rc rm re), .unset] [(.int (if own_lit1 = css then (1 : Int32) else (0 : Int32)))])) (fun _ k => st28.trans k) ?_
                by_cases hk278_29 : own_lit1 = css
                · refine Run.st (S' := T28.setTop (mkF m 281 #[.val (.int p0), .val (.int p1), .val (.int p2), .val (.int p3), .val (.long q4), .second, .val (.int (p0 &&& (3 : Int32))), .val (.ref bb), .val (.int nn), .val (.ref b3), .val (.ref b16), .val (own_FK css rc rm re), .unset] [])) (fun _ k => XS.ifNo X28.here hx rfl (hb hby at_278) rfl ((if0 _ _).trans (feq (show ¬ ((if own_lit1 = css then (1 : Int32) else (0 : Int32)) = (0 : Int32)) from (by rw [if_pos hk278_29]; decide))).1) k) ?_
                  have u_S_re := S_re.ext OL.2
                  obtain ⟨T30, X30, e30, st30⟩ := getS2 X28 hx hZ hown (host := "") (Or.inl (hwi hw 110 rfl)) Via.refl e28 u_S_re (g := (mkF m 281 #[.val (.int p0), .val (.int p1), .val (.int p2), .val (.int p3), .val (.long q4), .second, .val (.int (p0 &&& (3 : Int32))), .val (.ref bb), .val (.int nn), .val (.ref b3), .val (.ref b16), .val (own_FK css rc rm re), .unset] [])) rfl (hb hby at_281)
                  refine Run.st (S' := T30.setTop (mkF m 304 #[.val (.int p0), .val (.int p1), .val (.int p2), .val (.int p3), .val (.long q4), .second, .val (.int (p0 &&& (3 : Int32))), .val (.ref bb), .val (.int nn), .val (.ref b3), .val (.ref b16), .val (own_FK css rc rm re), .val (.ref re)] [(.int (1 : Int32))])) (fun _ k => st30 _ (XS.astore X30.here hx rfl (hb hby at_284) rfl rfl (l' := #[.val (.int p0), .val (.int p1), .val (.int p2), .val (.int p3), .val (.long q4), .second, .val (.int (p0 &&& (3 : Int32))), .val (.ref bb), .val (.int nn), .val (.ref b3), .val (.ref b16), .val (own_FK css rc rm re), .val (.ref re)]) rfl (XS.goto X30.here hx rfl (pc0 := 286) (pc' := 292) rfl (hb hby at_286) (by decide) (by decide) (XS.aload X30.here hx rfl (hb hby at_292) rfl (own_FK_ref _ _ _ _) (XS.aload X30.here hx rfl (hb hby at_294) rfl rfl (Jvm.RoadKit.acmp (g := (mkF m 296 #[.val (.int p0), .val (.int p1), .val (.int p2), .val (.int p3), .val (.long q4), .second, .val (.int (p0 &&& (3 : Int32))), .val (.ref bb), .val (.int nn), .val (.ref b3), .val (.ref b16), .val (own_FK css rc rm re), .val (.ref re)] [(.ref re), (own_FK css rc rm re)])) X30 hx rfl (own_FK_ref _ _ _ _) rfl (pc0 := 296) (pc' := 299) (same := true) rfl (hb hby at_296) rfl (decide_eq_true (show (own_FK css rc rm re) = (.ref re) from by rw [own_FK, if_neg hk242_21, if_neg hk260_25, if_pos hk278_29])) (by decide) (by decide) (XS.iconst X30.here hx rfl (hb hby at_299) (XS.goto X30.here hx rfl (pc0 := 300) (pc' := 304) rfl (hb hby at_300) (by decide) (by decide) k)))))))) ?_
                  refine Run.outW X30 hx hS (by rw [e30]; exact hk) (by rw [hh, e30]; exact CR.trans (CHv.at X30 hZ (own_EW hw) CR.1)) Bd.notSynchronized Bd.returns rfl (Or.inl ⟨rfl, by simp, _, rfl⟩) (hb hby at_304) (by decide) (by decide) ?_
                  rw [e30]
                  exact ⟨rfl, N28⟩
                · refine Run.st (S' := T28.setTop (mkF m 304 #[.val (.int p0), .val (.int p1), .val (.int p2), .val (.int p3), .val (.long q4), .second, .val (.int (p0 &&& (3 : Int32))), .val (.ref bb), .val (.int nn), .val (.ref b3), .val (.ref b16), .val (own_FK css rc rm re), .val .null] [(.int (1 : Int32))])) (fun _ k => XS.ifYes X28.here hx rfl (pc0 := 278) (pc' := 289) rfl (hb hby at_278) rfl ((if0 _ _).trans (teq (show (if own_lit1 = css then (1 : Int32) else (0 : Int32)) = (0 : Int32) from (by rw [if_neg hk278_29]))).1) (by decide) (by decide) (XS.aconstNull X28.here hx rfl (hb hby at_289) (XS.astore X28.here hx rfl (hb hby at_290) rfl rfl (l' := #[.val (.int p0), .val (.int p1), .val (.int p2), .val (.int p3), .val (.long q4), .second, .val (.int (p0 &&& (3 : Int32))), .val (.ref bb), .val (.int nn), .val (.ref b3), .val (.ref b16), .val (own_FK css rc rm re), .val .null]) rfl (XS.aload X28.here hx rfl (hb hby at_292) rfl (own_FK_ref _ _ _ _) (XS.aload X28.here hx rfl (hb hby at_294) rfl rfl (Jvm.RoadKit.acmp (g := (mkF m 296 #[.val (.int p0), .val (.int p1), .val (.int p2), .val (.int p3), .val (.long q4), .second, .val (.int (p0 &&& (3 : Int32))), .val (.ref bb), .val (.int nn), .val (.ref b3), .val (.ref b16), .val (own_FK css rc rm re), .val .null] [.null, (own_FK css rc rm re)])) X28 hx rfl (own_FK_ref _ _ _ _) rfl (pc0 := 296) (pc' := 299) (same := true) rfl (hb hby at_296) rfl (decide_eq_true (show (own_FK css rc rm re) = .null from by rw [own_FK, if_neg hk242_21, if_neg hk260_25, if_neg hk278_29])) (by decide) (by decide) (XS.iconst X28.here hx rfl (hb hby at_299) (XS.goto X28.here hx rfl (pc0 := 300) (pc' := 304) rfl (hb hby at_300) (by decide) (by decide) k)))))))) ?_
                  refine Run.outW X28 hx hS (by rw [e28]; exact hk) (by rw [hh, e28]; exact CR.trans (CHv.at X28 hZ (own_EW hw) CR.1)) Bd.notSynchronized Bd.returns rfl (Or.inl ⟨rfl, by simp, _, rfl⟩) (hb hby at_304) (by decide) (by decide) ?_
                  rw [e28]
                  exact ⟨rfl, N28⟩
          by_cases hk212_31 : nn = (0 : Int32)
          · obtain ⟨_, _, ⟨T32, L32, k32, n32⟩, -, X32, S32, gr32, ⟨Lc32, hQ32, l32, y32, z32, hC⟩, st32⟩ := X16.specialBackS hx (y := (⟨"java/lang/String", "<init>", "([C)V"⟩ : MethodName)) rfl hown (mvT hZ (hwi hw 49 rfl)) (mvT hZ (hwi hw 50 rfl)) (mvT hZ (hwi hw 51 rfl)) (by decide) (backOfSH (s := s) (vm0 := vmJ13) (W := 1) (rmIni1 l Z aV hw [] b16 b3 k3 cz nn h16 n0 Zn OL g_b16 hk212_31 (Ne.symm ne_b3_b16) E_b16 F_value_b16 F_coder_b16 V_b3) hZ (hwi hw 51 rfl) (hwi hw 1 rfl) (by decide) (by decide) (own_EW hw) CR.1) (g := (mkF m 212 #[.val (.int p0), .val (.int p1), .val (.int p2), .val (.int p3), .val (.long q4), .second, .val (.int (p0 &&& (3 : Int32))), .val (.ref bb), .val (.int nn), .val (.ref b3), .unset, .unset, .unset] [(.ref b3), (.ref b16), (.ref b16)])) rfl (by rw [hml]; rfl) (Steps.refl _) (a := b16) (argsL := [(.ref b3)]) (rest := [(.ref b16)]) (lenOf pd_7 rfl) rfl (by show 2 * 0 + _ ≤ _; exact Nat.le_of_eq rfl) (hb hby at_212) (fun _ _ => ⟨rfl, e16, (by decide : 4 + 4 ≤ _), (by decide : 49 + 8 ≤ _)⟩)
            dsimp only [Pt.U, Pt.locs, Pt.cells, Pt.slots] at X32 l32 y32 z32 st32 hQ32 S32 gr32 hC
            have hZ := State.Warmed39.trans hZ S32.1
            have hown : (s.setVm T32.vm).vm.findClass "org/succession/KindOfPinLaw" = some m.cls := by rw [show (s.setVm T32.vm).vm = T32.vm from rfl, S32.1.alike.findClass]; exact hown
            have hS := foldS hS (by rw [e16]; exact hk) S32 gr32
            have hk : T32.heap.size ≤ T32.heap.size := Nat.le_refl _
            have X32 : Stand p l e _ (s.setVm T32.vm) m _ below meth c T32 _ _ _ := X32
            have CR := CR.trans hC
            replace l32 := l32.symm; replace y32 := y32.symm; replace z32 := z32.symm; subst l32 y32 z32
            obtain ⟨rfl, N32q, K32, qE, qC, t32, kt32, qV, qK⟩ := hQ32
            have OL := OL.keep K32 (allS g_b16 all0)
            have E_bb := E_bb.keep K32
            have F_coder_bb := F_coder_bb.keep K32 (ninS ne_bb_b16 nin0)
            have F_value_bb := F_value_bb.keep K32 (ninS ne_bb_b16 nin0)
            have V_tb := V_tb.keep K32 (ninS ne_tb_b16 nin0)
            have V_b3 := V_b3.keep K32 (ninS ne_b3_b16 nin0)
            have E_b16 := qE
            have F_coder_b16 := qC
            have F_value_b16 := qV
            have V_t32 := qK
            have Kp := Kp.trans K32 (allS (Or.inr sz_b16) all0)
            have Zn := Nat.le_trans Zn K32.1
            have N32 := Fr.app Nl13 N32q
            refine Run.st (S' := T32.setTop (mkF m 217 #[.val (.int p0), .val (.int p1), .val (.int p2), .val (.int p3), .val (.long q4), .second, .val (.int (p0 &&& (3 : Int32))), .val (.ref bb), .val (.int nn), .val (.ref b3), .val (.ref b16), .unset, .unset] [])) (fun _ k => st32.trans (XS.astore X32.here hx rfl (hb hby at_215) rfl rfl (l' := #[.val (.int p0), .val (.int p1), .val (.int p2), .val (.int p3), .val (.long q4), .second, .val (.int (p0 &&& (3 : Int32))), .val (.ref bb), .val (.int nn), .val (.ref b3), .val (.ref b16), .unset, .unset]) rfl k)) ?_
            have V_ts := V_t32
            exact JH17 t32 kt32 ([] : List Int32) _ _ ⟨_, _, _, X32.mono (by decide) (by decide), N32, rfl, hS, hk, hZ, hown, CR⟩ Zn Kp OL E_b16 F_value_b16 F_coder_b16 V_ts own_L1_nil
          · have u_S_cs := S_cs.ext OL.2
            obtain ⟨_, _, ⟨T33, L33, k33, n33⟩, -, X33, ⟨Lc33, hQ33, l33, y33, z33⟩, st33⟩ := X16.specialBack hx (y := (⟨"java/lang/String", "<init>", "([C)V"⟩ : MethodName)) rfl hown (mvT hZ (hwi hw 49 rfl)) (mvT hZ (hwi hw 50 rfl)) (mvT hZ (hwi hw 51 rfl)) (by decide) (own_bV (W := 1) hw hZ 9 g_b16 Zn E_b16 F_value_b16 F_coder_b16 V_b3 u_S_cs hzc hyZ.2 (own_nn (And.left hnn)) hk212_31 (own_cap (c := 9) (by have := hnn; omega)) ⟨hyZ.1, by rw [hyZ.2]; exact (own_cap (c := 4000) (by have := hnn; omega))⟩ (by decide) (by decide)) (g := (mkF m 212 #[.val (.int p0), .val (.int p1), .val (.int p2), .val (.int p3), .val (.long q4), .second, .val (.int (p0 &&& (3 : Int32))), .val (.ref bb), .val (.int nn), .val (.ref b3), .unset, .unset, .unset] [(.ref b3), (.ref b16), (.ref b16)])) rfl (by rw [hml]; rfl) (Steps.refl _) (a := b16) (argsL := [(.ref b3)]) (rest := [(.ref b16)]) (lenOf pd_7 rfl) rfl (by show 2 * 0 + _ ≤ _; exact Nat.le_of_eq rfl) (hb hby at_212) (fun _ _ => ⟨rfl, e16, (by decide : 4 + 1 ≤ _), (by decide : 49 + 9 ≤ _)⟩)
            dsimp only [Pt.U, Pt.locs, Pt.cells, Pt.slots] at X33 l33 y33 z33 st33 hQ33
            replace l33 := l33.symm; replace y33 := y33.symm; replace z33 := z33.symm; subst l33 y33 z33
            obtain ⟨rfl, N33q, K33, qE, qC, t33, kt33, qV, qK⟩ := hQ33
            have sfa : ∀ x ∈ [b16], Safe Z consts_1 vmJ13 h16 x := (allS (own_safeN (EL := consts_1) hZ.alike E_b16 F_value_b16) all0)
            have CR := CR.trans (CHr.keep K33 sfa CR.1)
            have OL := OL.keep K33 (allS g_b16 all0)
            have E_bb := E_bb.keep K33
            have F_coder_bb := F_coder_bb.keep K33 (ninS ne_bb_b16 nin0)
            have F_value_bb := F_value_bb.keep K33 (ninS ne_bb_b16 nin0)
            have V_tb := V_tb.keep K33 (ninS ne_tb_b16 nin0)
            have V_b3 := V_b3.keep K33 (ninS ne_b3_b16 nin0)
            have E_b16 := qE
            have F_coder_b16 := qC
            have F_value_b16 := qV
            have V_t33 := qK
            have Kp := Kp.trans K33 (allS (Or.inr sz_b16) all0)
            have Zn := Nat.le_trans Zn K33.1
            have hk := Nat.le_trans hk K33.1
            have N33 := Fr.app Nl13 N33q
            refine Run.st (S' := T33.setTop (mkF m 217 #[.val (.int p0), .val (.int p1), .val (.int p2), .val (.int p3), .val (.long q4), .second, .val (.int (p0 &&& (3 : Int32))), .val (.ref bb), .val (.int nn), .val (.ref b3), .val (.ref b16), .unset, .unset] [])) (fun _ k => st33.trans (XS.astore X33.here hx rfl (hb hby at_215) rfl rfl (l' := #[.val (.int p0), .val (.int p1), .val (.int p2), .val (.int p3), .val (.long q4), .second, .val (.int (p0 &&& (3 : Int32))), .val (.ref bb), .val (.int nn), .val (.ref b3), .val (.ref b16), .unset, .unset]) rfl k)) ?_
            have V_ts := V_t33
            exact JH17 t33 kt33 cz _ _ ⟨_, _, _, X33.mono (by decide) (by decide), N33, rfl, hS, hk, hZ, hown, CR⟩ Zn Kp OL E_b16 F_value_b16 F_coder_b16 V_ts ⟨hyZ.1, by rw [hyZ.2]; exact (own_cap (c := 4000) (by have := hnn; omega))⟩
      refine Run.st (S' := T12.setTop (mkF m 167 #[.val (.int p0), .val (.int p1), .val (.int p2), .val (.int p3), .val (.long q4), .second, .val (.int (p0 &&& (3 : Int32))), .val (.ref bb), .val (.int nn), .val (.ref b3), .unset, .unset, .unset] [(.int (p0 &&& (4 : Int32)))])) (fun _ k => XS.iloadN X12.here hx rfl (hb hby at_164) rfl (XS.iconst X12.here hx rfl (hb hby at_165) (XS.iand X12.here hx rfl (hb hby at_166) rfl k))) ?_
      by_cases hc167_34 : (p0 &&& (4 : Int32)) = (0 : Int32)
      · refine Run.st (S' := T12.setTop (mkF m 191 #[.val (.int p0), .val (.int p1), .val (.int p2), .val (.int p3), .val (.long q4), .second, .val (.int (p0 &&& (3 : Int32))), .val (.ref bb), .val (.int nn), .val (.ref b3), .unset, .unset, .unset] [])) (fun _ k => XS.ifYes X12.here hx rfl (pc0 := 167) (pc' := 191) rfl (hb hby at_167) rfl ((if0 _ _).trans (teq hc167_34).1) (by decide) (by decide) k) ?_
        exact JH13 cc12 _ _ ⟨_, _, _, X12, N12, rfl, hS, hk, hZ, hown, CR⟩ Zn Kp OL E_bb F_coder_bb F_value_bb V_tb V_b3 hr12
      · refine Run.st (S' := T12.setTop (mkF m 172 #[.val (.int p0), .val (.int p1), .val (.int p2), .val (.int p3), .val (.long q4), .second, .val (.int (p0 &&& (3 : Int32))), .val (.ref bb), .val (.int nn), .val (.ref b3), .unset, .unset, .unset] [(.int nn)])) (fun _ k => XS.ifNo X12.here hx rfl (hb hby at_167) rfl ((if0 _ _).trans (feq hc167_34).1) (XS.iload X12.here hx rfl (hb hby at_170) rfl k)) ?_
        by_cases hc172_35 : (0 : Int32) < nn
        · refine Run.st (S' := T12.setTop (mkF m 185 #[.val (.int p0), .val (.int p1), .val (.int p2), .val (.int p3), .val (.long q4), .second, .val (.int (p0 &&& (3 : Int32))), .val (.ref bb), .val (.int nn), .val (.ref b3), .unset, .unset, .unset] [(.int p3), (.int ((p2 &&& (2147483647 : Int32)) % nn)), (.ref b3)])) (fun _ k => XS.ifNo X12.here hx rfl (hb hby at_172) rfl ((if0 _ _).trans (tlt hc172_35).2.2.2) (XS.aload X12.here hx rfl (hb hby at_175) rfl rfl (XS.iloadN X12.here hx rfl (hb hby at_177) rfl (X12.ldcInt hx hown (mvT hZ (hwi hw 109 rfl)) (g := (mkF m 178 #[.val (.int p0), .val (.int p1), .val (.int p2), .val (.int p3), .val (.long q4), .second, .val (.int (p0 &&& (3 : Int32))), .val (.ref bb), .val (.int nn), .val (.ref b3), .unset, .unset, .unset] [(.int p2), (.ref b3)])) rfl (hb hby at_178) _ (XS.iand X12.here hx rfl (hb hby at_180) rfl (XS.iload X12.here hx rfl (hb hby at_181) rfl (iremM X12 hx rfl (hb hby at_183) rfl (fun q => by have := own_pos hc172_35; rw [q] at this; exact absurd this (by decide)) (XS.iloadN X12.here hx rfl (hb hby at_184) rfl k)))))))) ?_
          refine Run.st (S' := T12.setTop (mkF m 190 #[.val (.int p0), .val (.int p1), .val (.int p2), .val (.int p3), .val (.long q4), .second, .val (.int (p0 &&& (3 : Int32))), .val (.ref bb), .val (.int nn), .val (.ref b3), .unset, .unset, .unset] [(.int ((p3 &&& (255 : Int32)).toUInt32.toUInt16.toUInt32.toInt32)), (.int ((p2 &&& (2147483647 : Int32)) % nn)), (.ref b3)])) (fun _ k => XS.sipush X12.here hx rfl (hb hby at_185) (XS.iand X12.here hx rfl (hb hby at_188) rfl (XS.i2c X12.here hx rfl (hb hby at_189) rfl k))) ?_
          have hj := own_inb (own_idx (p2 &&& (2147483647 : Int32)) nn (And.left (show 0 ≤ ((p2 &&& (2147483647 : Int32))).toInt ∧ ((p2 &&& (2147483647 : Int32))).toInt < 2147483648 from (by have := rng32 (p2 &&& (2147483647 : Int32)); have := c_mask p2 (2147483647 : Int32) 31 (by decide) (by decide); have := rng32 p2; (try simp only [Int32.lt_iff_toInt_lt, Int64.lt_iff_toInt_lt, Int32.le_iff_toInt_le, Int64.le_iff_toInt_le, ← Int32.toInt_inj, ← Int64.toInt_inj] at  ⊢); omega))) (own_pos hc172_35))
          have hz := own_r255 (z := ((p3 &&& (255 : Int32)).toUInt32.toUInt16.toUInt32.toInt32)) ((by have := rng32 ((p3 &&& (255 : Int32)).toUInt32.toUInt16.toUInt32.toInt32); have := c_i2c (p3 &&& (255 : Int32)); have := rng32 (p3 &&& (255 : Int32)); have := c_mask p3 (255 : Int32) 8 (by decide) (by decide); have := rng32 p3; (try simp only [Int32.lt_iff_toInt_lt, Int64.lt_iff_toInt_lt, Int32.le_iff_toInt_le, Int64.le_iff_toInt_le, ← Int32.toInt_inj, ← Int64.toInt_inj] at  ⊢); omega))
          have sfw := (own_safeA (EL := consts_1) hZ.alike V_b3 (by decide))
          obtain ⟨cl36, Ar36, qa36, Sa36, Na36, Ha36, Ga36⟩ := V_b3
          have hin36 : ¬ (((p2 &&& (2147483647 : Int32)) % nn) < 0 ∨ cl36.slots.size ≤ (((p2 &&& (2147483647 : Int32)) % nn)).toNatClampNeg) := inb_of Sa36 hj
          obtain ⟨T36, h36, X36, e36, W36, st36⟩ := stC X12 hx hZ rfl Ar36 (j := ((p2 &&& (2147483647 : Int32)) % nn)) hin36 (g := (mkF m 190 #[.val (.int p0), .val (.int p1), .val (.int p2), .val (.int p3), .val (.long q4), .second, .val (.int (p0 &&& (3 : Int32))), .val (.ref bb), .val (.int nn), .val (.ref b3), .unset, .unset, .unset] [(.int ((p3 &&& (255 : Int32)).toUInt32.toUInt16.toUInt32.toInt32)), (.int ((p2 &&& (2147483647 : Int32)) % nn)), (.ref b3)])) rfl rfl (hb hby at_190)
          have V_b3 := Arv.set Ar36 qa36 Sa36 Na36 Ha36 Ga36 (fits_nar_char _) W36 (((p2 &&& (2147483647 : Int32)) % nn)).toNatClampNeg rfl (own_ltm (by rw [And.right hr12]; exact own_clt hj.1 hj.2))
          rw [own_set] at V_b3
          have OL := OL.wr W36 g_b3
          have CR := CR.trans (CHr.wr W36 sfw CR.1)
          have E_bb := E_bb.wr W36
          have F_coder_bb := F_coder_bb.other W36 (Or.inl ne_bb_b3)
          have F_value_bb := F_value_bb.other W36 (Or.inl ne_bb_b3)
          have V_tb := V_tb.other W36 ne_tb_b3
          have N36 := Fr.snoc X36 N12 g_b3
          have Kp := Kp.wr W36 (Or.inr sz_b3)
          have Zn := Nat.le_trans Zn (Nat.le_of_eq W36.size.symm)
          have hk := Nat.le_trans hk (Nat.le_of_eq W36.size.symm)
          refine Run.st (S' := T36.setTop (mkF m 191 #[.val (.int p0), .val (.int p1), .val (.int p2), .val (.int p3), .val (.long q4), .second, .val (.int (p0 &&& (3 : Int32))), .val (.ref bb), .val (.int nn), .val (.ref b3), .unset, .unset, .unset] [])) (fun _ k => st36 _ k) ?_
          exact JH13 (cc12.set (((p2 &&& (2147483647 : Int32)) % nn)).toNatClampNeg (nar .char ((p3 &&& (255 : Int32)).toUInt32.toUInt16.toUInt32.toInt32))) _ _ ⟨_, _, _, X36, N36, e36, hS, hk, hZ, hown, CR⟩ Zn Kp OL E_bb F_coder_bb F_value_bb V_tb V_b3 ⟨own_setR (And.left hr12) hz, by rw [List.length_set]; exact And.right hr12⟩
        · refine Run.st (S' := T12.setTop (mkF m 191 #[.val (.int p0), .val (.int p1), .val (.int p2), .val (.int p3), .val (.long q4), .second, .val (.int (p0 &&& (3 : Int32))), .val (.ref bb), .val (.int nn), .val (.ref b3), .unset, .unset, .unset] [])) (fun _ k => XS.ifYes X12.here hx rfl (pc0 := 172) (pc' := 191) rfl (hb hby at_172) rfl ((if0 _ _).trans (flt hc172_35).2.2.2) (by decide) (by decide) k) ?_
          exact JH13 cc12 _ _ ⟨_, _, _, X12, N12, rfl, hS, hk, hZ, hown, CR⟩ Zn Kp OL E_bb F_coder_bb F_value_bb V_tb V_b3 hr12
    refine Run.st (S' := Tl1.setTop (mkF m 45 #[.val (.int p0), .val (.int p1), .val (.int p2), .val (.int p3), .val (.long q4), .second, .val (.int (p0 &&& (3 : Int32))), .val (.ref bb), .unset, .unset, .unset, .unset, .unset] [(.int (p1 &&& (16 : Int32)))])) (fun _ k => XS.iloadN Xl1.here hx rfl (hb hby at_41) rfl (XS.bipush Xl1.here hx rfl (hb hby at_42) (XS.iand Xl1.here hx rfl (hb hby at_44) rfl k))) ?_
    by_cases hc45_37 : (p1 &&& (16 : Int32)) = (0 : Int32)
    · refine Run.st (S' := Tl1.setTop (mkF m 65 #[.val (.int p0), .val (.int p1), .val (.int p2), .val (.int p3), .val (.long q4), .second, .val (.int (p0 &&& (3 : Int32))), .val (.ref bb), .val (.int ((p1 &&& (15 : Int32)) % (10 : Int32))), .unset, .unset, .unset, .unset] [])) (fun _ k => XS.ifYes Xl1.here hx rfl (pc0 := 45) (pc' := 56) rfl (hb hby at_45) rfl ((if0 _ _).trans (teq hc45_37).1) (by decide) (by decide) (XS.iloadN Xl1.here hx rfl (hb hby at_56) rfl (XS.bipush Xl1.here hx rfl (hb hby at_57) (XS.iand Xl1.here hx rfl (hb hby at_59) rfl (XS.bipush Xl1.here hx rfl (hb hby at_60) (iremM Xl1 hx rfl (hb hby at_62) rfl (by decide) (XS.istore Xl1.here hx rfl (hb hby at_63) rfl (l' := #[.val (.int p0), .val (.int p1), .val (.int p2), .val (.int p3), .val (.long q4), .second, .val (.int (p0 &&& (3 : Int32))), .val (.ref bb), .val (.int ((p1 &&& (15 : Int32)) % (10 : Int32))), .unset, .unset, .unset, .unset]) rfl k))))))) ?_
      exact JH2 (((p1 &&& (15 : Int32)) % (10 : Int32))) _ _ ⟨_, _, _, Xl1, Nl1, El1, hS, hk, hZ, hown, CR⟩ Zn Kp OL E_bb F_coder_bb F_value_bb V_tb ((by have := rng32 ((p1 &&& (15 : Int32)) % (10 : Int32)); have := c_irem (p1 &&& (15 : Int32)) (10 : Int32) 10 (by decide); have := rng32 (p1 &&& (15 : Int32)); have := c_mask p1 (15 : Int32) 4 (by decide) (by decide); have := rng32 p1; (try simp only [Int32.lt_iff_toInt_lt, Int64.lt_iff_toInt_lt, Int32.le_iff_toInt_le, Int64.le_iff_toInt_le, ← Int32.toInt_inj, ← Int64.toInt_inj] at  ⊢); omega))
    · refine Run.st (S' := Tl1.setTop (mkF m 50 #[.val (.int p0), .val (.int p1), .val (.int p2), .val (.int p3), .val (.long q4), .second, .val (.int (p0 &&& (3 : Int32))), .val (.ref bb), .unset, .unset, .unset, .unset, .unset] [(.ref bb)])) (fun _ k => XS.ifNo Xl1.here hx rfl (hb hby at_45) rfl ((if0 _ _).trans (feq hc45_37).1) (XS.aload Xl1.here hx rfl (hb hby at_48) rfl rfl k)) ?_
      have u_S_cs := S_cs.ext OL.2
      obtain ⟨cq38, kq38, q38a, q38b, q38c⟩ := isOf hZ El1 E_bb
      obtain ⟨_, _, ⟨T38, L38, k38, n38⟩, -, X38, ⟨Lc38, hQ38, l38, y38, z38⟩, st38⟩ := Xl1.virtualBack hx (y := (⟨"java/lang/String", "length", "()I"⟩ : MethodName)) (z := (⟨"java/lang/String", "length", "()I"⟩ : MethodName)) hown (mvT hZ (hwi hw 13 rfl)) (mvT hZ (hwi hw 14 rfl)) (notFace_of_selects (args := #[]) (mvT hZ (hwi hw 16 rfl))) (mvT hZ (hwi hw 16 rfl)) (mvT hZ (hwi hw 15 rfl)) (by decide) (own_lenB (n0 := n0) (W := 0) hw hZ E_bb F_value_bb F_coder_bb V_tb hyB.1 u_S_cs hzc (by decide) (by decide)) q38a q38c (g := (mkF m 50 #[.val (.int p0), .val (.int p1), .val (.int p2), .val (.int p3), .val (.long q4), .second, .val (.int (p0 &&& (3 : Int32))), .val (.ref bb), .unset, .unset, .unset, .unset, .unset] [(.ref bb)])) rfl (by rw [hml]; rfl) (Steps.refl _) (argsL := []) (rest := []) (lenOf pd_0 rfl) rfl (by show 2 * 0 + _ ≤ _; exact Nat.le_of_eq rfl) (hb hby at_50) (fun _ _ => ⟨rfl, El1, (by decide : 2 + 0 ≤ _), (by decide : 36 + 0 ≤ _)⟩)
      dsimp only [Pt.U, Pt.locs, Pt.cells, Pt.slots] at X38 l38 y38 z38 st38 hQ38
      replace l38 := l38.symm; replace y38 := y38.symm; replace z38 := z38.symm; subst l38 y38 z38
      obtain ⟨rfl, N38q, e38⟩ := hQ38
      have N38 := Fr.app Nl1 N38q
      refine Run.st (S' := T38.setTop (mkF m 65 #[.val (.int p0), .val (.int p1), .val (.int p2), .val (.int p3), .val (.long q4), .second, .val (.int (p0 &&& (3 : Int32))), .val (.ref bb), .val (.int (Int32.ofNat cb.length)), .unset, .unset, .unset, .unset] [])) (fun _ k => st38.trans (XS.goto X38.here hx rfl (pc0 := 53) (pc' := 63) rfl (hb hby at_53) (by decide) (by decide) (XS.istore X38.here hx rfl (hb hby at_63) rfl (l' := #[.val (.int p0), .val (.int p1), .val (.int p2), .val (.int p3), .val (.long q4), .second, .val (.int (p0 &&& (3 : Int32))), .val (.ref bb), .val (.int (Int32.ofNat cb.length)), .unset, .unset, .unset, .unset]) rfl k))) ?_
      exact JH2 ((Int32.ofNat cb.length)) _ _ ⟨_, _, _, X38, N38, e38, hS, hk, hZ, hown, CR⟩ Zn Kp OL E_bb F_coder_bb F_value_bb V_tb (own_lenR hyB.2)
  refine Run.st (S' := s₁.setTop (mkF m 7 #[.val (.int p0), .val (.int p1), .val (.int p2), .val (.int p3), .val (.long q4), .second, .val (.int (p0 &&& (3 : Int32))), .unset, .unset, .unset, .unset, .unset, .unset] [(.int (p0 &&& (3 : Int32)))])) (fun _ k => XS.iload X0.here hx rfl (hb hby at_5) rfl k) ?_
  by_cases hc7_39 : (p0 &&& (3 : Int32)) = (0 : Int32)
  · refine Run.st (S' := s₁.setTop (mkF m 10 #[.val (.int p0), .val (.int p1), .val (.int p2), .val (.int p3), .val (.long q4), .second, .val (.int (p0 &&& (3 : Int32))), .unset, .unset, .unset, .unset, .unset, .unset] [])) (fun _ k => XS.ifNo X0.here hx rfl (hb hby at_7) rfl ((if0 _ _).trans (teq hc7_39).2) k) ?_
    obtain ⟨sl40, T40, h40, kk40, sb40, kb40, X40, e40, E40, hS, hk, hZ, hown, E_sl40, F_coder_sl40, F_value_sl40, V_sb40, -, -, hC, -, hne40, st40⟩ := ldcCH X0 hx hZ hown (hwi hw 0 rfl) (own_wS hw) e0 hS hk (own_EW hw) (by decide) CR.1 (z := (Int32.ofNat own_lit3.length)) own_lit3_t (by decide) (by decide) (g := (mkF m 10 #[.val (.int p0), .val (.int p1), .val (.int p2), .val (.int p3), .val (.long q4), .second, .val (.int (p0 &&& (3 : Int32))), .unset, .unset, .unset, .unset, .unset, .unset] [])) rfl (hb hby at_10) (n := 32) (by decide) (by decide) (by decide) (by decide)
    have CR := CR.trans hC
    have OL := OL.ext E40
    have Zn := Nat.le_trans Zn E40.1
    have Kp := Kp.ext E40
    refine Run.st (S' := T40.setTop (mkF m 41 #[.val (.int p0), .val (.int p1), .val (.int p2), .val (.int p3), .val (.long q4), .second, .val (.int (p0 &&& (3 : Int32))), .val (.ref sl40), .unset, .unset, .unset, .unset, .unset] [])) (fun _ k => st40 _ (XS.goto X40.here hx rfl (pc0 := 12) (pc' := 39) rfl (hb hby at_12) (by decide) (by decide) (XS.astore X40.here hx rfl (hb hby at_39) rfl rfl (l' := #[.val (.int p0), .val (.int p1), .val (.int p2), .val (.int p3), .val (.long q4), .second, .val (.int (p0 &&& (3 : Int32))), .val (.ref sl40), .unset, .unset, .unset, .unset, .unset]) rfl k))) ?_
    have E_bb := E_sl40
    have F_coder_bb := F_coder_sl40
    have F_value_bb := F_value_sl40
    have V_tb := V_sb40
    exact JH1 sl40 sb40 kb40 own_lit3 _ _ ⟨_, _, _, X40, N0, e40, hS, hk, hZ, hown, CR⟩ Zn Kp OL E_bb F_coder_bb F_value_bb V_tb ⟨own_lit3_L1, by decide⟩
  · refine Run.st (S' := s₁.setTop (mkF m 18 #[.val (.int p0), .val (.int p1), .val (.int p2), .val (.int p3), .val (.long q4), .second, .val (.int (p0 &&& (3 : Int32))), .unset, .unset, .unset, .unset, .unset, .unset] [(.int (1 : Int32)), (.int (p0 &&& (3 : Int32)))])) (fun _ k => XS.ifYes X0.here hx rfl (pc0 := 7) (pc' := 15) rfl (hb hby at_7) rfl ((if0 _ _).trans (feq hc7_39).2) (by decide) (by decide) (XS.iload X0.here hx rfl (hb hby at_15) rfl (XS.iconst X0.here hx rfl (hb hby at_17) k))) ?_
    by_cases hc18_41 : (p0 &&& (3 : Int32)) = (1 : Int32)
    · refine Run.st (S' := s₁.setTop (mkF m 21 #[.val (.int p0), .val (.int p1), .val (.int p2), .val (.int p3), .val (.long q4), .second, .val (.int (p0 &&& (3 : Int32))), .unset, .unset, .unset, .unset, .unset, .unset] [])) (fun _ k => XS.icmpNo X0.here hx rfl (hb hby at_18) rfl (teq hc18_41).2 k) ?_
      obtain ⟨sl42, T42, h42, kk42, sb42, kb42, X42, e42, E42, hS, hk, hZ, hown, E_sl42, F_coder_sl42, F_value_sl42, V_sb42, -, -, hC, -, hne42, st42⟩ := ldcCH X0 hx hZ hown (hwi hw 103 rfl) (own_wS hw) e0 hS hk (own_EW hw) (by decide) CR.1 (z := (Int32.ofNat own_lit2.length)) own_lit2_t (by decide) (by decide) (g := (mkF m 21 #[.val (.int p0), .val (.int p1), .val (.int p2), .val (.int p3), .val (.long q4), .second, .val (.int (p0 &&& (3 : Int32))), .unset, .unset, .unset, .unset, .unset, .unset] [])) rfl (hb hby at_21) (n := 32) (by decide) (by decide) (by decide) (by decide)
      have CR := CR.trans hC
      have OL := OL.ext E42
      have Zn := Nat.le_trans Zn E42.1
      have Kp := Kp.ext E42
      refine Run.st (S' := T42.setTop (mkF m 41 #[.val (.int p0), .val (.int p1), .val (.int p2), .val (.int p3), .val (.long q4), .second, .val (.int (p0 &&& (3 : Int32))), .val (.ref sl42), .unset, .unset, .unset, .unset, .unset] [])) (fun _ k => st42 _ (XS.goto X42.here hx rfl (pc0 := 23) (pc' := 39) rfl (hb hby at_23) (by decide) (by decide) (XS.astore X42.here hx rfl (hb hby at_39) rfl rfl (l' := #[.val (.int p0), .val (.int p1), .val (.int p2), .val (.int p3), .val (.long q4), .second, .val (.int (p0 &&& (3 : Int32))), .val (.ref sl42), .unset, .unset, .unset, .unset, .unset]) rfl k))) ?_
      have E_bb := E_sl42
      have F_coder_bb := F_coder_sl42
      have F_value_bb := F_value_sl42
      have V_tb := V_sb42
      exact JH1 sl42 sb42 kb42 own_lit2 _ _ ⟨_, _, _, X42, N0, e42, hS, hk, hZ, hown, CR⟩ Zn Kp OL E_bb F_coder_bb F_value_bb V_tb ⟨own_lit2_L1, by decide⟩
    · refine Run.st (S' := s₁.setTop (mkF m 29 #[.val (.int p0), .val (.int p1), .val (.int p2), .val (.int p3), .val (.long q4), .second, .val (.int (p0 &&& (3 : Int32))), .unset, .unset, .unset, .unset, .unset, .unset] [(.int (2 : Int32)), (.int (p0 &&& (3 : Int32)))])) (fun _ k => XS.icmpYes X0.here hx rfl (pc0 := 18) (pc' := 26) rfl (hb hby at_18) rfl (feq hc18_41).2 (by decide) (by decide) (XS.iload X0.here hx rfl (hb hby at_26) rfl (XS.iconst X0.here hx rfl (hb hby at_28) k))) ?_
      by_cases hc29_43 : (p0 &&& (3 : Int32)) = (2 : Int32)
      · refine Run.st (S' := s₁.setTop (mkF m 32 #[.val (.int p0), .val (.int p1), .val (.int p2), .val (.int p3), .val (.long q4), .second, .val (.int (p0 &&& (3 : Int32))), .unset, .unset, .unset, .unset, .unset, .unset] [])) (fun _ k => XS.icmpNo X0.here hx rfl (hb hby at_29) rfl (teq hc29_43).2 k) ?_
        obtain ⟨sl44, T44, h44, kk44, sb44, kb44, X44, e44, E44, hS, hk, hZ, hown, E_sl44, F_coder_sl44, F_value_sl44, V_sb44, -, -, hC, -, hne44, st44⟩ := ldcCH X0 hx hZ hown (hwi hw 104 rfl) (own_wS hw) e0 hS hk (own_EW hw) (by decide) CR.1 (z := (Int32.ofNat own_lit1.length)) own_lit1_t (by decide) (by decide) (g := (mkF m 32 #[.val (.int p0), .val (.int p1), .val (.int p2), .val (.int p3), .val (.long q4), .second, .val (.int (p0 &&& (3 : Int32))), .unset, .unset, .unset, .unset, .unset, .unset] [])) rfl (hb hby at_32) (n := 12) (by decide) (by decide) (by decide) (by decide)
        have CR := CR.trans hC
        have OL := OL.ext E44
        have Zn := Nat.le_trans Zn E44.1
        have Kp := Kp.ext E44
        refine Run.st (S' := T44.setTop (mkF m 41 #[.val (.int p0), .val (.int p1), .val (.int p2), .val (.int p3), .val (.long q4), .second, .val (.int (p0 &&& (3 : Int32))), .val (.ref sl44), .unset, .unset, .unset, .unset, .unset] [])) (fun _ k => st44 _ (XS.goto X44.here hx rfl (pc0 := 34) (pc' := 39) rfl (hb hby at_34) (by decide) (by decide) (XS.astore X44.here hx rfl (hb hby at_39) rfl rfl (l' := #[.val (.int p0), .val (.int p1), .val (.int p2), .val (.int p3), .val (.long q4), .second, .val (.int (p0 &&& (3 : Int32))), .val (.ref sl44), .unset, .unset, .unset, .unset, .unset]) rfl k))) ?_
        have E_bb := E_sl44
        have F_coder_bb := F_coder_sl44
        have F_value_bb := F_value_sl44
        have V_tb := V_sb44
        exact JH1 sl44 sb44 kb44 own_lit1 _ _ ⟨_, _, _, X44.mono (by decide) (by decide), N0, e44, hS, hk, hZ, hown, CR⟩ Zn Kp OL E_bb F_coder_bb F_value_bb V_tb ⟨own_lit1_L1, by decide⟩
      · refine Run.st (S' := s₁.setTop (mkF m 37 #[.val (.int p0), .val (.int p1), .val (.int p2), .val (.int p3), .val (.long q4), .second, .val (.int (p0 &&& (3 : Int32))), .unset, .unset, .unset, .unset, .unset, .unset] [])) (fun _ k => XS.icmpYes X0.here hx rfl (pc0 := 29) (pc' := 37) rfl (hb hby at_29) rfl (feq hc29_43).2 (by decide) (by decide) k) ?_
        obtain ⟨sl45, T45, h45, kk45, sb45, kb45, X45, e45, E45, hS, hk, hZ, hown, E_sl45, F_coder_sl45, F_value_sl45, V_sb45, -, -, hC, -, hne45, st45⟩ := ldcCH X0 hx hZ hown (hwi hw 107 rfl) (own_wS hw) e0 hS hk (own_EW hw) (by decide) CR.1 (z := (Int32.ofNat own_lit0.length)) own_lit0_t (by decide) (by decide) (g := (mkF m 37 #[.val (.int p0), .val (.int p1), .val (.int p2), .val (.int p3), .val (.long q4), .second, .val (.int (p0 &&& (3 : Int32))), .unset, .unset, .unset, .unset, .unset, .unset] [])) rfl (hb hby at_37) (n := 0) (by decide) (by decide) (by decide) (by decide)
        have CR := CR.trans hC
        have OL := OL.ext E45
        have Zn := Nat.le_trans Zn E45.1
        have Kp := Kp.ext E45
        refine Run.st (S' := T45.setTop (mkF m 41 #[.val (.int p0), .val (.int p1), .val (.int p2), .val (.int p3), .val (.long q4), .second, .val (.int (p0 &&& (3 : Int32))), .val (.ref sl45), .unset, .unset, .unset, .unset, .unset] [])) (fun _ k => st45 _ (XS.astore X45.here hx rfl (hb hby at_39) rfl rfl (l' := #[.val (.int p0), .val (.int p1), .val (.int p2), .val (.int p3), .val (.long q4), .second, .val (.int (p0 &&& (3 : Int32))), .val (.ref sl45), .unset, .unset, .unset, .unset, .unset]) rfl k)) ?_
        have E_bb := E_sl45
        have F_coder_bb := F_coder_sl45
        have F_value_bb := F_value_sl45
        have V_tb := V_sb45
        exact JH1 sl45 sb45 kb45 own_lit0 _ _ ⟨_, _, _, X45.mono (by decide) (by decide), N0, e45, hS, hk, hZ, hown, CR⟩ Zn Kp OL E_bb F_coder_bb F_value_bb V_tb ⟨own_lit0_L1, by decide⟩
set_option maxRecDepth 65536 in
set_option maxHeartbeats 40000000 in
theorem comes_1 {Post : Tables → Env → Array Value → State → Outcome → State → Prop} (hpost : ∀ tb e args s v u, (limb_1_1.after args s (.returned v) u = true ∧ limb_1_2.after args s (.returned v) u = true ∧ True) → ReturnedEndW s (.returned v) u (Jvm.fieldLocs frame_1_writes args s ++ Jvm.arrayLocs frame_1_arrays args s ++ Jvm.staticLocs frame_1_statics s) 32 5312 → Post tb e args s (.returned v) u) :
    ArmFor flags0 classFile x code maxLocals ret World_1 tables_1 room_1 Calls_1 rest_1 Pre_1 Post := by
  intro l hfl _ _ p e ha hc hk s m args below hf hA hF happ hP
  obtain ⟨hcalls, hrest, hpre⟩ := hP
  obtain ⟨-, -, -, hnamed, -, -, -, hat⟩ := (Spec.applies_iff hf).mp happ
  obtain ⟨hg, hn⟩ := and_e (Cond.before_iff.mp (show (Jvm.Cond.and given_1 narrow_1).before args s = true from hpre))
  obtain ⟨gv1, gv2⟩ := and_e hg
  obtain ⟨gv3, gv4⟩ := and_e gv2
  obtain ⟨gv5, gv6⟩ := and_e gv4
  obtain ⟨gv7, gv8⟩ := and_e gv6
  obtain ⟨gv9, gv10⟩ := and_e gv8
  obtain ⟨gv11, gv12⟩ := and_e hn
  obtain ⟨gv13, gv14⟩ := and_e gv12
  obtain ⟨gv15, gv16⟩ := and_e gv14
  obtain ⟨gv17, gv18⟩ := and_e gv16
  obtain ⟨gv19, gv20⟩ := and_e gv18
  obtain ⟨gv21, gv22⟩ := and_e gv20
  obtain ⟨gv23, gv24⟩ := and_e gv22
  obtain ⟨gv25, gv26⟩ := and_e gv24
  obtain ⟨gv27, gv28⟩ := and_e gv26
  obtain ⟨gv29, gv30⟩ := and_e gv28
  obtain ⟨gv31, gv32⟩ := and_e gv30
  obtain ⟨gv33, gv34⟩ := and_e gv32
  obtain ⟨gv35, gv36⟩ := and_e gv34
  obtain ⟨gv37, gv38⟩ := and_e gv36
  obtain ⟨gv39, gv40⟩ := and_e gv38
  obtain ⟨gv41, gv42⟩ := and_e gv40
  obtain ⟨gv43, gv44⟩ := and_e gv42
  obtain ⟨gv45, gv46⟩ := and_e gv44
  obtain ⟨gv47, gv48⟩ := and_e gv46
  obtain ⟨gv49, gv50⟩ := and_e gv48
  obtain ⟨gv51, gv52⟩ := and_e gv50
  obtain ⟨gv53, gv54⟩ := and_e gv52
  obtain ⟨gv55, gv56⟩ := and_e gv54
  obtain ⟨gv57, gv58⟩ := and_e gv56
  obtain ⟨gv59, gv60⟩ := and_e gv58
  obtain ⟨gv61, gv62⟩ := and_e gv60
  obtain ⟨gv63, gv64⟩ := and_e gv62
  obtain ⟨gv65, gv66⟩ := and_e gv64
  obtain ⟨gv67, gv68⟩ := and_e gv66
  obtain ⟨gv69, gv70⟩ := and_e gv68
  obtain ⟨gv71, gv72⟩ := and_e gv70
  obtain ⟨gv73, gv74⟩ := and_e gv72
  obtain ⟨gv75, gv76⟩ := and_e gv74
  obtain ⟨gv77, gv78⟩ := and_e gv76
  obtain ⟨gv79, gv80⟩ := and_e gv78
  obtain ⟨gv81, gv82⟩ := and_e gv80
  obtain ⟨gv83, gv84⟩ := and_e gv82
  obtain ⟨gv85, gv86⟩ := and_e gv84
  obtain ⟨gv87, gv88⟩ := and_e gv86
  obtain ⟨w0, w1, w2, w3, w4, rfl⟩ : ∃ w0 w1 w2 w3 w4 : Value, args = #[w0, w1, w2, w3, w4] := by
    have hs : args.size = 5 := by simpa [Cond.value, given_1] using gv1
    obtain ⟨L⟩ := args
    match L, hs with
    | [w0, w1, w2, w3, w4], _ => exact ⟨w0, w1, w2, w3, w4, rfl⟩
  have hw := fun d (hd : d ∈ tables_1) => atoms_spec (ws := Jvm.Cond.code x code maxLocals ret :: tables_1) hat d (List.mem_cons_of_mem _ hd)
  have hfit : Fit s := fun {y c} hc i hi => by
    obtain ⟨ha, rfl⟩ := Array.getElem?_eq_some_iff.mp hc
    have q := List.all_eq_true.mp ((Array.all_eq_true_iff_forall_mem.mp hF) _ (Array.getElem_mem ha)) i (List.mem_range.mpr hi)
    simpa [Array.getElem?_eq_getElem hi] using q
  obtain ⟨hsets, hown0⟩ := atoms_of _ (rest_1_c_eq ▸ (show rest_1_c.before _ s = true from hrest))
  have hr0 := Cond.before_iff.mp hown0
  obtain ⟨i0, ei0⟩ := is_v gv3
  obtain rfl : w0 = (.int i0) := Option.some.inj ei0
  obtain ⟨i1, ei1⟩ := is_v gv5
  obtain rfl : w1 = (.int i1) := Option.some.inj ei1
  obtain ⟨i2, ei2⟩ := is_v gv7
  obtain rfl : w2 = (.int i2) := Option.some.inj ei2
  obtain ⟨i3, ei3⟩ := is_v gv9
  obtain rfl : w3 = (.int i3) := Option.some.inj ei3
  obtain ⟨i4, ei4⟩ := isL_v gv10
  obtain rfl : w4 = (.long i4) := Option.some.inj ei4
  obtain ⟨s_Event_Kind__VALUES, ev_s_Event_Kind__VALUES⟩ := arr_v gv11
  have S_s_Event_Kind__VALUES : Sta s s.heap "org/succession/Event$Kind" "$VALUES" "[Lorg/succession/Event$Kind;" (.ref s_Event_Kind__VALUES) := Sta.start ev_s_Event_Kind__VALUES (Or.inr ⟨(hwi hw 71 rfl), (hwi hw 77 rfl)⟩)
  obtain ⟨cl_s_Event_Kind__VALUES, A_s_Event_Kind__VALUES⟩ := Arr.start ev_s_Event_Kind__VALUES gv11
  have E_s_Event_Kind__VALUES : Exa s s.heap s_Event_Kind__VALUES "[Lorg/succession/Event$Kind;" := Exa.start ev_s_Event_Kind__VALUES gv13
  obtain ⟨s_Event_Kind_CREATION, ev_s_Event_Kind_CREATION⟩ := exa_v gv17
  have S_s_Event_Kind_CREATION : Sta s s.heap "org/succession/Event$Kind" "CREATION" "Lorg/succession/Event$Kind;" (.ref s_Event_Kind_CREATION) := Sta.start ev_s_Event_Kind_CREATION (Or.inr ⟨(hwi hw 71 rfl), (hwi hw 85 rfl)⟩)
  have E_s_Event_Kind_CREATION : Exa s s.heap s_Event_Kind_CREATION "org/succession/Event$Kind" := Exa.start ev_s_Event_Kind_CREATION gv17
  obtain ⟨s_Event_Kind_MUTATION, ev_s_Event_Kind_MUTATION⟩ := exa_v gv21
  have S_s_Event_Kind_MUTATION : Sta s s.heap "org/succession/Event$Kind" "MUTATION" "Lorg/succession/Event$Kind;" (.ref s_Event_Kind_MUTATION) := Sta.start ev_s_Event_Kind_MUTATION (Or.inr ⟨(hwi hw 71 rfl), (hwi hw 86 rfl)⟩)
  have E_s_Event_Kind_MUTATION : Exa s s.heap s_Event_Kind_MUTATION "org/succession/Event$Kind" := Exa.start ev_s_Event_Kind_MUTATION gv21
  obtain ⟨s_Event_Kind_END, ev_s_Event_Kind_END⟩ := exa_v gv25
  have S_s_Event_Kind_END : Sta s s.heap "org/succession/Event$Kind" "END" "Lorg/succession/Event$Kind;" (.ref s_Event_Kind_END) := Sta.start ev_s_Event_Kind_END (Or.inr ⟨(hwi hw 71 rfl), (hwi hw 87 rfl)⟩)
  have E_s_Event_Kind_END : Exa s s.heap s_Event_Kind_END "org/succession/Event$Kind" := Exa.start ev_s_Event_Kind_END gv25
  obtain ⟨s_Event_Kind_CREATION_written, ev_s_Event_Kind_CREATION_written⟩ := exa_v gv29
  have F_s_Event_Kind_CREATION_written : Fld s s.heap s_Event_Kind_CREATION "org/succession/Event$Kind" "written" "Ljava/lang/String;" (.ref s_Event_Kind_CREATION_written) := Fld.start (by rw [← fld_at ev_s_Event_Kind_CREATION]; exact ev_s_Event_Kind_CREATION_written)
  have E_s_Event_Kind_CREATION_written : Exa s s.heap s_Event_Kind_CREATION_written "java/lang/String" := Exa.start ev_s_Event_Kind_CREATION_written gv29
  obtain ⟨s_Event_Kind_CREATION_written_value, ev_s_Event_Kind_CREATION_written_value⟩ := arr_v gv33
  have F_s_Event_Kind_CREATION_written_value : Fld s s.heap s_Event_Kind_CREATION_written "java/lang/String" "value" "[B" (.ref s_Event_Kind_CREATION_written_value) := Fld.start (by rw [← fld_at ev_s_Event_Kind_CREATION_written]; exact ev_s_Event_Kind_CREATION_written_value)
  obtain ⟨cl_s_Event_Kind_CREATION_written_value, A_s_Event_Kind_CREATION_written_value⟩ := Arr.start ev_s_Event_Kind_CREATION_written_value gv33
  obtain ⟨s_Event_Kind_MUTATION_written, ev_s_Event_Kind_MUTATION_written⟩ := exa_v gv37
  have F_s_Event_Kind_MUTATION_written : Fld s s.heap s_Event_Kind_MUTATION "org/succession/Event$Kind" "written" "Ljava/lang/String;" (.ref s_Event_Kind_MUTATION_written) := Fld.start (by rw [← fld_at ev_s_Event_Kind_MUTATION]; exact ev_s_Event_Kind_MUTATION_written)
  have E_s_Event_Kind_MUTATION_written : Exa s s.heap s_Event_Kind_MUTATION_written "java/lang/String" := Exa.start ev_s_Event_Kind_MUTATION_written gv37
  obtain ⟨s_Event_Kind_MUTATION_written_value, ev_s_Event_Kind_MUTATION_written_value⟩ := arr_v gv41
  have F_s_Event_Kind_MUTATION_written_value : Fld s s.heap s_Event_Kind_MUTATION_written "java/lang/String" "value" "[B" (.ref s_Event_Kind_MUTATION_written_value) := Fld.start (by rw [← fld_at ev_s_Event_Kind_MUTATION_written]; exact ev_s_Event_Kind_MUTATION_written_value)
  obtain ⟨cl_s_Event_Kind_MUTATION_written_value, A_s_Event_Kind_MUTATION_written_value⟩ := Arr.start ev_s_Event_Kind_MUTATION_written_value gv41
  obtain ⟨s_Event_Kind_END_written, ev_s_Event_Kind_END_written⟩ := exa_v gv45
  have F_s_Event_Kind_END_written : Fld s s.heap s_Event_Kind_END "org/succession/Event$Kind" "written" "Ljava/lang/String;" (.ref s_Event_Kind_END_written) := Fld.start (by rw [← fld_at ev_s_Event_Kind_END]; exact ev_s_Event_Kind_END_written)
  have E_s_Event_Kind_END_written : Exa s s.heap s_Event_Kind_END_written "java/lang/String" := Exa.start ev_s_Event_Kind_END_written gv45
  obtain ⟨s_Event_Kind_END_written_value, ev_s_Event_Kind_END_written_value⟩ := arr_v gv49
  have F_s_Event_Kind_END_written_value : Fld s s.heap s_Event_Kind_END_written "java/lang/String" "value" "[B" (.ref s_Event_Kind_END_written_value) := Fld.start (by rw [← fld_at ev_s_Event_Kind_END_written]; exact ev_s_Event_Kind_END_written_value)
  obtain ⟨cl_s_Event_Kind_END_written_value, A_s_Event_Kind_END_written_value⟩ := Arr.start ev_s_Event_Kind_END_written_value gv49
  obtain ⟨s_String_COMPACT_STRINGS, ev_s_String_COMPACT_STRINGS⟩ := is_v (Cond.before_iff.mp (hsets _ (List.mem_of_getElem? (i := 1) rfl)))
  have S_s_String_COMPACT_STRINGS : Sta s s.heap "java/lang/String" "COMPACT_STRINGS" "Z" (.int s_String_COMPACT_STRINGS) := Sta.start ev_s_String_COMPACT_STRINGS (Or.inl (hsets _ (List.mem_of_getElem? (i := 0) rfl)))
  obtain ⟨s_Preconditions_SIOOBE_FORMATTER, ev_s_Preconditions_SIOOBE_FORMATTER, r_s_Preconditions_SIOOBE_FORMATTER⟩ := isR_v (Cond.before_iff.mp (hsets _ (List.mem_of_getElem? (i := 8) rfl)))
  have S_s_Preconditions_SIOOBE_FORMATTER : Sta s s.heap "jdk/internal/util/Preconditions" "SIOOBE_FORMATTER" "Ljava/util/function/BiFunction;" s_Preconditions_SIOOBE_FORMATTER := Sta.start ev_s_Preconditions_SIOOBE_FORMATTER (Or.inl (hsets _ (List.mem_of_getElem? (i := 7) rfl)))
  have len_s_Event_Kind__VALUES := arr_len ev_s_Event_Kind__VALUES A_s_Event_Kind__VALUES gv15
  have el_s_Event_Kind__VALUES_0 := arr_elR ev_s_Event_Kind__VALUES A_s_Event_Kind__VALUES gv19 ev_s_Event_Kind_CREATION (by decide)
  have el_s_Event_Kind__VALUES_1 := arr_elR ev_s_Event_Kind__VALUES A_s_Event_Kind__VALUES gv23 ev_s_Event_Kind_MUTATION (by decide)
  have el_s_Event_Kind__VALUES_2 := arr_elR ev_s_Event_Kind__VALUES A_s_Event_Kind__VALUES gv27 ev_s_Event_Kind_END (by decide)
  have F_s_Event_Kind_CREATION_written_coder : Fld s s.heap s_Event_Kind_CREATION_written "java/lang/String" "coder" "B" (.int (0 : Int32)) := ord_v ev_s_Event_Kind_CREATION_written gv31
  have len_s_Event_Kind_CREATION_written_value := arr_len ev_s_Event_Kind_CREATION_written_value A_s_Event_Kind_CREATION_written_value gv35
  have F_s_Event_Kind_MUTATION_written_coder : Fld s s.heap s_Event_Kind_MUTATION_written "java/lang/String" "coder" "B" (.int (0 : Int32)) := ord_v ev_s_Event_Kind_MUTATION_written gv39
  have len_s_Event_Kind_MUTATION_written_value := arr_len ev_s_Event_Kind_MUTATION_written_value A_s_Event_Kind_MUTATION_written_value gv43
  have F_s_Event_Kind_END_written_coder : Fld s s.heap s_Event_Kind_END_written "java/lang/String" "coder" "B" (.int (0 : Int32)) := ord_v ev_s_Event_Kind_END_written gv47
  have len_s_Event_Kind_END_written_value := arr_len ev_s_Event_Kind_END_written_value A_s_Event_Kind_END_written_value gv51
  have el_s_Event_Kind_END_written_value_0 := arr_elI ev_s_Event_Kind_END_written_value A_s_Event_Kind_END_written_value gv53 (by decide)
  have el_s_Event_Kind_END_written_value_1 := arr_elI ev_s_Event_Kind_END_written_value A_s_Event_Kind_END_written_value gv55 (by decide)
  have el_s_Event_Kind_END_written_value_2 := arr_elI ev_s_Event_Kind_END_written_value A_s_Event_Kind_END_written_value gv57 (by decide)
  have el_s_Event_Kind_CREATION_written_value_0 := arr_elI ev_s_Event_Kind_CREATION_written_value A_s_Event_Kind_CREATION_written_value gv59 (by decide)
  have el_s_Event_Kind_CREATION_written_value_1 := arr_elI ev_s_Event_Kind_CREATION_written_value A_s_Event_Kind_CREATION_written_value gv61 (by decide)
  have el_s_Event_Kind_CREATION_written_value_2 := arr_elI ev_s_Event_Kind_CREATION_written_value A_s_Event_Kind_CREATION_written_value gv63 (by decide)
  have el_s_Event_Kind_CREATION_written_value_3 := arr_elI ev_s_Event_Kind_CREATION_written_value A_s_Event_Kind_CREATION_written_value gv65 (by decide)
  have el_s_Event_Kind_CREATION_written_value_4 := arr_elI ev_s_Event_Kind_CREATION_written_value A_s_Event_Kind_CREATION_written_value gv67 (by decide)
  have el_s_Event_Kind_CREATION_written_value_5 := arr_elI ev_s_Event_Kind_CREATION_written_value A_s_Event_Kind_CREATION_written_value gv69 (by decide)
  have el_s_Event_Kind_CREATION_written_value_6 := arr_elI ev_s_Event_Kind_CREATION_written_value A_s_Event_Kind_CREATION_written_value gv71 (by decide)
  have el_s_Event_Kind_CREATION_written_value_7 := arr_elI ev_s_Event_Kind_CREATION_written_value A_s_Event_Kind_CREATION_written_value gv73 (by decide)
  have el_s_Event_Kind_MUTATION_written_value_0 := arr_elI ev_s_Event_Kind_MUTATION_written_value A_s_Event_Kind_MUTATION_written_value gv75 (by decide)
  have el_s_Event_Kind_MUTATION_written_value_1 := arr_elI ev_s_Event_Kind_MUTATION_written_value A_s_Event_Kind_MUTATION_written_value gv77 (by decide)
  have el_s_Event_Kind_MUTATION_written_value_2 := arr_elI ev_s_Event_Kind_MUTATION_written_value A_s_Event_Kind_MUTATION_written_value gv79 (by decide)
  have el_s_Event_Kind_MUTATION_written_value_3 := arr_elI ev_s_Event_Kind_MUTATION_written_value A_s_Event_Kind_MUTATION_written_value gv81 (by decide)
  have el_s_Event_Kind_MUTATION_written_value_4 := arr_elI ev_s_Event_Kind_MUTATION_written_value A_s_Event_Kind_MUTATION_written_value gv83 (by decide)
  have el_s_Event_Kind_MUTATION_written_value_5 := arr_elI ev_s_Event_Kind_MUTATION_written_value A_s_Event_Kind_MUTATION_written_value gv85 (by decide)
  have el_s_Event_Kind_MUTATION_written_value_6 := arr_elI ev_s_Event_Kind_MUTATION_written_value A_s_Event_Kind_MUTATION_written_value gv87 (by decide)
  have el_s_Event_Kind_MUTATION_written_value_7 := arr_elI ev_s_Event_Kind_MUTATION_written_value A_s_Event_Kind_MUTATION_written_value gv88 (by decide)
  have hzc : ¬ (s_String_COMPACT_STRINGS = (0 : Int32)) := gotF (Cond.eq_ints ev_s_String_COMPACT_STRINGS (Term.int_eval (0))) (not_v (Cond.before_iff.mp (hsets _ (List.mem_of_getElem? (i := 2) rfl))))
  have hcw : Jvm.Lit.compactW.before _ s = true := (hsets _ (List.mem_of_getElem? (i := 2) rfl))
  have V_s_Event_Kind__VALUES : Arv s s.heap s_Event_Kind__VALUES cl_s_Event_Kind__VALUES.cls (.object "org/succession/Event$Kind") (3 : Int32) [(.ref s_Event_Kind_CREATION), (.ref s_Event_Kind_MUTATION), (.ref s_Event_Kind_END)] .null := Arv.start hfit A_s_Event_Kind__VALUES len_s_Event_Kind__VALUES.1 len_s_Event_Kind__VALUES.2 (by decide) rfl ⟨el_s_Event_Kind__VALUES_0, el_s_Event_Kind__VALUES_1, el_s_Event_Kind__VALUES_2, trivial⟩
  have V_s_Event_Kind_CREATION_written_value : Arv s s.heap s_Event_Kind_CREATION_written_value cl_s_Event_Kind_CREATION_written_value.cls .byte (8 : Int32) [(.int (67 : Int32)), (.int (114 : Int32)), (.int (101 : Int32)), (.int (97 : Int32)), (.int (116 : Int32)), (.int (105 : Int32)), (.int (111 : Int32)), (.int (110 : Int32))] (.int (0 : Int32)) := Arv.start hfit A_s_Event_Kind_CREATION_written_value len_s_Event_Kind_CREATION_written_value.1 len_s_Event_Kind_CREATION_written_value.2 (by decide) rfl ⟨el_s_Event_Kind_CREATION_written_value_0, el_s_Event_Kind_CREATION_written_value_1, el_s_Event_Kind_CREATION_written_value_2, el_s_Event_Kind_CREATION_written_value_3, el_s_Event_Kind_CREATION_written_value_4, el_s_Event_Kind_CREATION_written_value_5, el_s_Event_Kind_CREATION_written_value_6, el_s_Event_Kind_CREATION_written_value_7, trivial⟩
  have V_s_Event_Kind_CREATION_written_value : Arv s s.heap s_Event_Kind_CREATION_written_value cl_s_Event_Kind_CREATION_written_value.cls .byte (Int32.ofNat own_lit3.length) ((own_bs own_lit3).map Value.int) (.int (0 : Int32)) := by rw [show Int32.ofNat own_lit3.length = (8 : Int32) from by decide, show (own_bs own_lit3).map Value.int = [(.int (67 : Int32)), (.int (114 : Int32)), (.int (101 : Int32)), (.int (97 : Int32)), (.int (116 : Int32)), (.int (105 : Int32)), (.int (111 : Int32)), (.int (110 : Int32))] from rfl]; exact V_s_Event_Kind_CREATION_written_value
  have V_s_Event_Kind_MUTATION_written_value : Arv s s.heap s_Event_Kind_MUTATION_written_value cl_s_Event_Kind_MUTATION_written_value.cls .byte (8 : Int32) [(.int (77 : Int32)), (.int (117 : Int32)), (.int (116 : Int32)), (.int (97 : Int32)), (.int (116 : Int32)), (.int (105 : Int32)), (.int (111 : Int32)), (.int (110 : Int32))] (.int (0 : Int32)) := Arv.start hfit A_s_Event_Kind_MUTATION_written_value len_s_Event_Kind_MUTATION_written_value.1 len_s_Event_Kind_MUTATION_written_value.2 (by decide) rfl ⟨el_s_Event_Kind_MUTATION_written_value_0, el_s_Event_Kind_MUTATION_written_value_1, el_s_Event_Kind_MUTATION_written_value_2, el_s_Event_Kind_MUTATION_written_value_3, el_s_Event_Kind_MUTATION_written_value_4, el_s_Event_Kind_MUTATION_written_value_5, el_s_Event_Kind_MUTATION_written_value_6, el_s_Event_Kind_MUTATION_written_value_7, trivial⟩
  have V_s_Event_Kind_MUTATION_written_value : Arv s s.heap s_Event_Kind_MUTATION_written_value cl_s_Event_Kind_MUTATION_written_value.cls .byte (Int32.ofNat own_lit2.length) ((own_bs own_lit2).map Value.int) (.int (0 : Int32)) := by rw [show Int32.ofNat own_lit2.length = (8 : Int32) from by decide, show (own_bs own_lit2).map Value.int = [(.int (77 : Int32)), (.int (117 : Int32)), (.int (116 : Int32)), (.int (97 : Int32)), (.int (116 : Int32)), (.int (105 : Int32)), (.int (111 : Int32)), (.int (110 : Int32))] from rfl]; exact V_s_Event_Kind_MUTATION_written_value
  have V_s_Event_Kind_END_written_value : Arv s s.heap s_Event_Kind_END_written_value cl_s_Event_Kind_END_written_value.cls .byte (3 : Int32) [(.int (69 : Int32)), (.int (110 : Int32)), (.int (100 : Int32))] (.int (0 : Int32)) := Arv.start hfit A_s_Event_Kind_END_written_value len_s_Event_Kind_END_written_value.1 len_s_Event_Kind_END_written_value.2 (by decide) rfl ⟨el_s_Event_Kind_END_written_value_0, el_s_Event_Kind_END_written_value_1, el_s_Event_Kind_END_written_value_2, trivial⟩
  have V_s_Event_Kind_END_written_value : Arv s s.heap s_Event_Kind_END_written_value cl_s_Event_Kind_END_written_value.cls .byte (Int32.ofNat own_lit1.length) ((own_bs own_lit1).map Value.int) (.int (0 : Int32)) := by rw [show Int32.ofNat own_lit1.length = (3 : Int32) from by decide, show (own_bs own_lit1).map Value.int = [(.int (69 : Int32)), (.int (110 : Int32)), (.int (100 : Int32))] from rfl]; exact V_s_Event_Kind_END_written_value
  obtain ⟨n, o, h1, h2, h3, _, L, rfl, ⟨rfl, N⟩, -, hq⟩ := rm0 l s _ hw tables_1 i0 i1 i2 i3 i4 s_String_COMPACT_STRINGS s_Preconditions_SIOOBE_FORMATTER s_Event_Kind__VALUES cl_s_Event_Kind__VALUES.cls s_Event_Kind_CREATION s_Event_Kind_MUTATION s_Event_Kind_END s_Event_Kind_CREATION_written s_Event_Kind_CREATION_written_value cl_s_Event_Kind_CREATION_written_value.cls s_Event_Kind_MUTATION_written s_Event_Kind_MUTATION_written_value cl_s_Event_Kind_MUTATION_written_value.cls s_Event_Kind_END_written s_Event_Kind_END_written_value cl_s_Event_Kind_END_written_value.cls s.heap s.heap.size (Nat.le_refl _) (Old.start s) hzc r_s_Preconditions_SIOOBE_FORMATTER S_s_String_COMPACT_STRINGS S_s_Preconditions_SIOOBE_FORMATTER S_s_Event_Kind__VALUES V_s_Event_Kind__VALUES E_s_Event_Kind__VALUES S_s_Event_Kind_CREATION S_s_Event_Kind_MUTATION S_s_Event_Kind_END F_s_Event_Kind_CREATION_written E_s_Event_Kind_CREATION_written F_s_Event_Kind_CREATION_written_coder F_s_Event_Kind_CREATION_written_value V_s_Event_Kind_CREATION_written_value F_s_Event_Kind_MUTATION_written E_s_Event_Kind_MUTATION_written F_s_Event_Kind_MUTATION_written_coder F_s_Event_Kind_MUTATION_written_value V_s_Event_Kind_MUTATION_written_value F_s_Event_Kind_END_written E_s_Event_Kind_END_written F_s_Event_Kind_END_written_coder F_s_Event_Kind_END_written_value V_s_Event_Kind_END_written_value p e ha hc hk s m _ below hf ((Spec.applies_iff_loose hf).mp happ).1 ⟨rfl, State.Warmed39.refl s, rfl, CHv.start (own_EW hw) (fun q hq => hcalls.1 q hq) hcw ((own_wS hw) _ (by simp [Bundle.stringAtoms])) ((own_wS hw) _ (by simp [Bundle.stringAtoms, Bundle.sN]))⟩ trivial
  refine ⟨n, _, h1, h2, h3, hpost _ _ _ _ _ _ ⟨Cond.after_iff.mpr rfl, Cond.after_iff.mpr (eq_i res_at (Term.int_eval (1)) rfl), trivial⟩ ⟨hq.1, hq.2.1, hq.2.2.1, (hq.2.2.2.sift fun y hy => Or.inr (N y hy)).mono (by decide) (by decide)⟩⟩
theorem main_1_1 : Claimed_1_1 := comes_1 fun _ _ _ _ _ _ h hF => ⟨h.1, hF⟩
theorem main_1_2 : Claimed_1_2 := comes_1 fun _ _ _ _ _ _ h hF => ⟨h.2.1, hF⟩
end Jvm.Pilot.@@N@@
namespace Jvm.Pilot.@@N@@
open Jvm Jvm.ClassFile Sem Op Lib Jvm.Free Jvm.Stand Jvm.Pilot.@@N@@.Jvm.D
/-! MADE BY PROGRAM (witnessworld.py) out of the Statement's table words and the real class files: 22 classes; the members and pool entries that the words name. The judged class is class 1, her method 2. -/
namespace start1
open Jvm.ClassFile
def u (s : String) : CpInfo := .utf8 (stringToUtf16 s)
/-- a pool by its gaps: so many unusable entries, then the entry; so many at the end -/
def gap : Nat → List CpInfo → List CpInfo
  | 0, r => r
  | n + 1, r => .unusable :: gap n r
def poolList (es : List (Nat × CpInfo)) (last : Nat) : List CpInfo := es.foldr (fun e r => gap e.1 (e.2 :: r)) (gap last [])
def pool (es : List (Nat × CpInfo)) (last : Nat) : Array CpInfo := ⟨poolList es last⟩
def fileOf (pool : Array CpInfo) (this : Nat) (attrs : Array Attribute := #[]) (ms : Array MethodInfo := #[]) (fl : Nat := 33) (sup : Nat := 0) (ifs : Array Nat := #[]) (fds : Array FieldInfo := #[]) : ClassFile where
  minorVersion := 0
  majorVersion := 65
  constantPool := pool
  accessFlags := fl
  thisClass := this
  superClass := sup
  interfaces := ifs
  fields := fds
  methods := ms
  attributes := attrs
def plain (name : String) (sup : Option ClassId) : Class where
  name := name
  kind := .ordinary
  loader := none
  accessFlags := 33
  super := sup
  interfaces := #[]
  cf := none
  fields := #[]
  methods := #[]
  instanceTypes := #[]
  staticTypes := #[]
  resolved := #[]
  callSites := []
  init := .initialized
  statics := none
  mirror := none

def pool0 : Array CpInfo := pool [(5, u "<init>"), (0, u "()V"), (1, .class_ 10), (1, u "java/lang/Object"), (85, u "clone"), (0, u "()Ljava/lang/Object;")] 26

def k0c0 : Code := { maxStack := 0, maxLocals := 1, code := object_method_1_code, exceptionTable := #[], attributes := #[] }
def k0m0 : Method := { name := "<init>", desc := "()V", sig := { parameters := [], returnType := none }, accessFlags := 1, code := some k0c0 }
def k0m1 : Method := { name := "clone", desc := "()Ljava/lang/Object;", sig := { parameters := [], returnType := some (.object "java/lang/Object") }, accessFlags := 260, code := none }
/-- java/lang/Object -/
def k0 : Class := { plain "java/lang/Object" none with
  accessFlags := 33
  interfaces := #[]
  cf := some (fileOf pool0 8 #[] #[{ accessFlags := 1, nameIndex := 5, descriptorIndex := 6, attributes := #[] }, { accessFlags := 260, nameIndex := 96, descriptorIndex := 97, attributes := #[] }] 33 0 #[] #[])
  fields := #[]
  methods := #[k0m0, k0m1]
  instanceTypes := #[]
  staticTypes := #[]
  resolved := Array.replicate 124 none
  statics := none }

def pool1 : Array CpInfo := pool [(2, .class_ 4), (1, u "java/lang/Object"), (0, u "<init>"), (0, u "()V"), (0, .methodref 8 9), (0, .class_ 10), (0, .nameAndType 11 12), (0, u "java/lang/String"), (0, u "length"), (0, u "()I"), (0, .methodref 8 14), (0, .nameAndType 15 16), (0, u "charAt"), (0, u "(I)C"), (0, .long 255), (1, .string 20), (0, u "Creation"), (0, .string 22), (0, u "Mutation"), (0, .string 24), (0, u "End"), (0, .string 26), (0, u ""), (0, .methodref 28 29), (0, .class_ 30), (0, .nameAndType 31 32), (0, u "org/succession/KindOfPinLaw"), (0, u "put"), (0, u "([CILjava/lang/String;J)V"), (0, .integer 2147483647), (0, .methodref 8 35), (0, .nameAndType 5 36), (0, u "([C)V"), (0, .methodref 38 39), (0, .class_ 40), (0, .nameAndType 41 42), (0, u "org/succession/Event$Kind"), (0, u "of"), (0, u "(Ljava/lang/String;)Lorg/succession/Event$Kind;"), (0, .methodref 8 44), (0, .nameAndType 45 46), (0, u "equals"), (0, u "(Ljava/lang/Object;)Z"), (0, .fieldref 38 48), (0, .nameAndType 49 50), (0, u "CREATION"), (0, u "Lorg/succession/Event$Kind;"), (0, .fieldref 38 52), (0, .nameAndType 53 50), (0, u "MUTATION"), (0, .fieldref 38 55), (0, .nameAndType 56 50), (0, u "END"), (5, u "law"), (0, u "(IIIIJ)Z")] 6

def k1m0 : Method := { name := "<init>", desc := "()V", sig := { parameters := [], returnType := none }, accessFlags := 1, code := none }
def k1c1 : Code := { maxStack := 6, maxLocals := 5, code := method_2_code, exceptionTable := #[], attributes := #[] }
def k1m1 : Method := { name := "put", desc := "([CILjava/lang/String;J)V", sig := { parameters := [(.array .char), .int, (.object "java/lang/String"), .long], returnType := none }, accessFlags := 10, code := some k1c1 }
def k1c2 : Code := { maxStack := 5, maxLocals := 13, code := code, exceptionTable := #[], attributes := #[] }
def k1m2 : Method := { name := "law", desc := "(IIIIJ)Z", sig := { parameters := [.int, .int, .int, .int, .long], returnType := some .boolean }, accessFlags := 9, code := some k1c2 }
/-- org/succession/KindOfPinLaw -/
def k1 : Class := { plain "org/succession/KindOfPinLaw" (some 0) with
  accessFlags := 49
  interfaces := #[]
  cf := some (fileOf pool1 28 #[] #[{ accessFlags := 1, nameIndex := 5, descriptorIndex := 6, attributes := #[] }, { accessFlags := 10, nameIndex := 31, descriptorIndex := 32, attributes := #[] }, { accessFlags := 9, nameIndex := 62, descriptorIndex := 63, attributes := #[] }] 49 2 #[] #[])
  fields := #[]
  methods := #[k1m0, k1m1, k1m2]
  instanceTypes := #[]
  staticTypes := #[]
  resolved := Array.replicate 70 none
  statics := none }

def pool2 : Array CpInfo := pool [(1, .class_ 2), (0, u "java/io/Serializable"), (0, .class_ 4), (0, u "java/lang/Object")] 2

/-- java/io/Serializable -/
def k2 : Class := { plain "java/io/Serializable" (some 0) with
  accessFlags := 1537
  interfaces := #[]
  cf := some (fileOf pool2 1 #[] #[] 1537 3 #[] #[])
  fields := #[]
  methods := #[]
  instanceTypes := #[]
  staticTypes := #[]
  resolved := Array.replicate 7 none
  statics := none }

def pool3 : Array CpInfo := pool [(1, .class_ 2), (0, u "java/lang/Comparable"), (0, .class_ 4), (0, u "java/lang/Object")] 7

/-- java/lang/Comparable -/
def k3 : Class := { plain "java/lang/Comparable" (some 0) with
  accessFlags := 1537
  interfaces := #[]
  cf := some (fileOf pool3 1 #[] #[] 1537 3 #[] #[])
  fields := #[]
  methods := #[]
  instanceTypes := #[]
  staticTypes := #[]
  resolved := Array.replicate 12 none
  statics := none }

def pool4 : Array CpInfo := pool [(2, .class_ 4), (1, u "java/lang/CharSequence"), (42, .class_ 48), (0, u "java/lang/CharSequence$1CodePointIterator"), (10, .class_ 60), (0, u "java/lang/CharSequence$1CharIterator"), (5, .class_ 67), (0, u "java/lang/Object")] 63

/-- java/lang/CharSequence -/
def k4 : Class := { plain "java/lang/CharSequence" (some 0) with
  accessFlags := 1537
  interfaces := #[]
  cf := some (fileOf pool4 2 #[.nestMembers #[47, 59]] #[] 1537 66 #[] #[])
  fields := #[]
  methods := #[]
  instanceTypes := #[]
  staticTypes := #[]
  resolved := Array.replicate 131 none
  statics := none }

def pool5 : Array CpInfo := pool [(1, .class_ 2), (0, u "java/lang/constant/Constable"), (0, .class_ 4), (0, u "java/lang/Object")] 6

/-- java/lang/constant/Constable -/
def k5 : Class := { plain "java/lang/constant/Constable" (some 0) with
  accessFlags := 1537
  interfaces := #[]
  cf := some (fileOf pool5 1 #[] #[] 1537 3 #[] #[])
  fields := #[]
  methods := #[]
  instanceTypes := #[]
  staticTypes := #[]
  resolved := Array.replicate 11 none
  statics := none }

def pool6 : Array CpInfo := pool [(1, .class_ 2), (0, u "java/lang/constant/ConstantDesc"), (0, .class_ 4), (0, u "java/lang/Object")] 32

/-- java/lang/constant/ConstantDesc -/
def k6 : Class := { plain "java/lang/constant/ConstantDesc" (some 0) with
  accessFlags := 1537
  interfaces := #[]
  cf := some (fileOf pool6 1 #[] #[] 1537 3 #[] #[])
  fields := #[]
  methods := #[]
  instanceTypes := #[]
  staticTypes := #[]
  resolved := Array.replicate 37 none
  statics := none }

def pool7 : Array CpInfo := pool [(1, .methodref 2 3), (0, .class_ 4), (0, .nameAndType 5 6), (0, u "java/lang/Object"), (0, u "<init>"), (0, u "()V"), (0, .string 8), (0, u ""), (0, .fieldref 10 11), (0, .class_ 12), (0, .nameAndType 13 14), (0, u "java/lang/String"), (0, u "value"), (0, u "[B"), (0, .fieldref 10 16), (0, .nameAndType 17 18), (0, u "coder"), (0, u "B"), (2, u "hash"), (0, u "I"), (2, u "hashIsZero"), (0, u "Z"), (0, .methodref 10 28), (0, .nameAndType 5 29), (0, u "([CIILjava/lang/Void;)V"), (8, .fieldref 10 39), (0, .nameAndType 40 26), (0, u "COMPACT_STRINGS"), (1, .class_ 44), (1, u "java/lang/StringUTF16"), (0, u "compress"), (1, .methodref 42 48), (0, .nameAndType 49 50), (0, u "coderFromArrayLen"), (0, u "([BI)B"), (56, .class_ 109), (1, u "java/lang/StringLatin1"), (32, u "()Z"), (34, .methodref 42 178), (0, .nameAndType 45 179), (0, u "([CII)[B"), (154, u "()I"), (0, .methodref 10 336), (0, .nameAndType 17 337), (0, u "()B"), (25, u "([BI)C"), (27, u "(II)V"), (35, u "(I)C"), (64, .methodref 10 493), (0, .nameAndType 494 142), (0, u "isLatin1"), (0, .methodref 107 496), (0, .nameAndType 497 363), (0, u "charAt"), (3, u "checkIndex"), (5, u "length"), (33, .methodref 107 542), (0, .nameAndType 543 544), (0, u "equals"), (0, u "([B[B)Z"), (28, u "(Ljava/lang/Object;)Z"), (1, .class_ 576), (0, u "java/lang/CharSequence"), (22, u "CASE_INSENSITIVE_ORDER"), (0, u "Ljava/util/Comparator;"), (409, u "([C)V"), (42, .fieldref 1054 1055), (0, .class_ 1056), (0, .nameAndType 1057 1058), (0, u "jdk/internal/util/Preconditions"), (0, u "SIOOBE_FORMATTER"), (0, u "Ljava/util/function/BiFunction;"), (0, .methodref 1054 1060), (0, .nameAndType 501 1061), (0, u "(IILjava/util/function/BiFunction;)I"), (39, u "serialPersistentFields"), (0, u "[Ljava/io/ObjectStreamField;"), (0, .class_ 1104), (0, u "java/lang/String$CaseInsensitiveComparator"), (1, .class_ 1107), (0, u "java/io/Serializable"), (0, .class_ 1109), (0, u "java/lang/Comparable"), (0, .class_ 1111), (0, u "java/lang/constant/Constable"), (0, .class_ 1113), (0, u "java/lang/constant/ConstantDesc"), (2, u "serialVersionUID"), (0, u "J"), (3, u "REPL"), (0, u "C"), (2, u "LATIN1"), (1, u "UTF16")] 323

def k7m0 : Method := { name := "<init>", desc := "()V", sig := { parameters := [], returnType := none }, accessFlags := 1, code := none }
def k7c1 : Code := { maxStack := 5, maxLocals := 2, code := jdk_42_method_3_code, exceptionTable := #[], attributes := #[] }
def k7m1 : Method := { name := "<init>", desc := "([C)V", sig := { parameters := [(.array .char)], returnType := none }, accessFlags := 1, code := some k7c1 }
def k7c2 : Code := { maxStack := 2, maxLocals := 1, code := jdk_42_method_54_code, exceptionTable := #[], attributes := #[] }
def k7m2 : Method := { name := "length", desc := "()I", sig := { parameters := [], returnType := some .int }, accessFlags := 1, code := some k7c2 }
def k7c3 : Code := { maxStack := 2, maxLocals := 2, code := jdk_42_method_56_code, exceptionTable := #[], attributes := #[] }
def k7m3 : Method := { name := "charAt", desc := "(I)C", sig := { parameters := [.int], returnType := some .char }, accessFlags := 1, code := some k7c3 }
def k7c4 : Code := { maxStack := 2, maxLocals := 3, code := jdk_42_method_66_code, exceptionTable := #[], attributes := #[] }
def k7m4 : Method := { name := "equals", desc := "(Ljava/lang/Object;)Z", sig := { parameters := [(.object "java/lang/Object")], returnType := some .boolean }, accessFlags := 1, code := some k7c4 }
def k7c5 : Code := { maxStack := 4, maxLocals := 6, code := jdk_42_method_149_code, exceptionTable := #[], attributes := #[] }
def k7m5 : Method := { name := "<init>", desc := "([CIILjava/lang/Void;)V", sig := { parameters := [(.array .char), .int, .int, (.object "java/lang/Void")], returnType := none }, accessFlags := 2, code := some k7c5 }
def k7c6 : Code := { maxStack := 1, maxLocals := 1, code := jdk_42_method_152_code, exceptionTable := #[], attributes := #[] }
def k7m6 : Method := { name := "coder", desc := "()B", sig := { parameters := [], returnType := some .byte }, accessFlags := 0, code := some k7c6 }
def k7c7 : Code := { maxStack := 1, maxLocals := 1, code := jdk_42_method_154_code, exceptionTable := #[], attributes := #[] }
def k7m7 : Method := { name := "isLatin1", desc := "()Z", sig := { parameters := [], returnType := some .boolean }, accessFlags := 0, code := some k7c7 }
def k7c8 : Code := { maxStack := 3, maxLocals := 2, code := jdk_42_method_155_code, exceptionTable := #[], attributes := #[] }
def k7m8 : Method := { name := "checkIndex", desc := "(II)V", sig := { parameters := [.int, .int], returnType := none }, accessFlags := 8, code := some k7c8 }
/-- java/lang/String -/
def k7 : Class := { plain "java/lang/String" (some 0) with
  accessFlags := 49
  interfaces := #[2, 3, 4, 5, 6]
  cf := some (fileOf pool7 10 #[.nestMembers #[1103]] #[{ accessFlags := 1, nameIndex := 5, descriptorIndex := 6, attributes := #[] }, { accessFlags := 1, nameIndex := 5, descriptorIndex := 1010, attributes := #[] }, { accessFlags := 1, nameIndex := 507, descriptorIndex := 334, attributes := #[] }, { accessFlags := 1, nameIndex := 497, descriptorIndex := 427, attributes := #[] }, { accessFlags := 1, nameIndex := 543, descriptorIndex := 573, attributes := #[] }, { accessFlags := 2, nameIndex := 5, descriptorIndex := 29, attributes := #[] }, { accessFlags := 0, nameIndex := 17, descriptorIndex := 337, attributes := #[] }, { accessFlags := 0, nameIndex := 494, descriptorIndex := 142, attributes := #[] }, { accessFlags := 8, nameIndex := 501, descriptorIndex := 391, attributes := #[] }] 49 2 #[1106, 1108, 575, 1110, 1112] #[{ accessFlags := 18, nameIndex := 13, descriptorIndex := 14, attributes := #[] }, { accessFlags := 18, nameIndex := 17, descriptorIndex := 18, attributes := #[] }, { accessFlags := 2, nameIndex := 21, descriptorIndex := 22, attributes := #[] }, { accessFlags := 2, nameIndex := 25, descriptorIndex := 26, attributes := #[] }, { accessFlags := 26, nameIndex := 1116, descriptorIndex := 1117, attributes := #[] }, { accessFlags := 24, nameIndex := 40, descriptorIndex := 26, attributes := #[] }, { accessFlags := 26, nameIndex := 1101, descriptorIndex := 1102, attributes := #[] }, { accessFlags := 26, nameIndex := 1121, descriptorIndex := 1122, attributes := #[] }, { accessFlags := 25, nameIndex := 599, descriptorIndex := 600, attributes := #[] }, { accessFlags := 24, nameIndex := 1125, descriptorIndex := 18, attributes := #[] }, { accessFlags := 24, nameIndex := 1127, descriptorIndex := 18, attributes := #[] }])
  fields := #[{ name := "value", type := (.array .byte), accessFlags := 18, slot := 0, constantValue := 0 }, { name := "coder", type := .byte, accessFlags := 18, slot := 1, constantValue := 0 }, { name := "hash", type := .int, accessFlags := 2, slot := 2, constantValue := 0 }, { name := "hashIsZero", type := .boolean, accessFlags := 2, slot := 3, constantValue := 0 }, { name := "serialVersionUID", type := .long, accessFlags := 26, slot := 0, constantValue := 0 }, { name := "COMPACT_STRINGS", type := .boolean, accessFlags := 24, slot := 1, constantValue := 0 }, { name := "serialPersistentFields", type := (.array (.object "java/io/ObjectStreamField")), accessFlags := 26, slot := 2, constantValue := 0 }, { name := "REPL", type := .char, accessFlags := 26, slot := 3, constantValue := 0 }, { name := "CASE_INSENSITIVE_ORDER", type := (.object "java/util/Comparator"), accessFlags := 25, slot := 4, constantValue := 0 }, { name := "LATIN1", type := .byte, accessFlags := 24, slot := 5, constantValue := 0 }, { name := "UTF16", type := .byte, accessFlags := 24, slot := 6, constantValue := 0 }]
  methods := #[k7m0, k7m1, k7m2, k7m3, k7m4, k7m5, k7m6, k7m7, k7m8]
  instanceTypes := #[(.array .byte), .byte, .int, .boolean]
  staticTypes := #[.long, .boolean, (.array (.object "java/io/ObjectStreamField")), .char, (.object "java/util/Comparator"), .byte, .byte]
  resolved := Array.replicate 1451 none
  statics := some 0 }

def pool8 : Array CpInfo := pool [(1, .class_ 2), (0, u "java/lang/String"), (1, .class_ 6), (1, u "java/lang/Object"), (0, u "<init>"), (0, u "()V"), (0, .methodref 1 10), (0, .nameAndType 11 12), (0, u "checkIndex"), (0, u "(II)V"), (1, .class_ 16), (1, u "java/lang/StringLatin1"), (36, u "([BI)C"), (67, u "$assertionsDisabled"), (0, u "Z"), (98, .class_ 223), (1, u "java/lang/StringLatin1$LinesSpliterator"), (28, u "charAt"), (28, u "equals"), (0, u "([B[B)Z"), (107, .class_ 391), (0, u "java/lang/StringLatin1$CharsSpliterator")] 3

def k8m0 : Method := { name := "<init>", desc := "()V", sig := { parameters := [], returnType := none }, accessFlags := 0, code := none }
def k8c1 : Code := { maxStack := 2, maxLocals := 2, code := jdk_43_method_2_code, exceptionTable := #[], attributes := #[] }
def k8m1 : Method := { name := "charAt", desc := "([BI)C", sig := { parameters := [(.array .byte), .int], returnType := some .char }, accessFlags := 9, code := some k8c1 }
def k8c2 : Code := { maxStack := 3, maxLocals := 3, code := jdk_43_method_13_code, exceptionTable := #[], attributes := #[] }
def k8m2 : Method := { name := "equals", desc := "([B[B)Z", sig := { parameters := [(.array .byte), (.array .byte)], returnType := some .boolean }, accessFlags := 9, code := some k8c2 }
/-- java/lang/StringLatin1 -/
def k8 : Class := { plain "java/lang/StringLatin1" (some 0) with
  accessFlags := 48
  interfaces := #[]
  cf := some (fileOf pool8 14 #[.nestMembers #[390, 221]] #[{ accessFlags := 0, nameIndex := 7, descriptorIndex := 8, attributes := #[] }, { accessFlags := 9, nameIndex := 252, descriptorIndex := 53, attributes := #[] }, { accessFlags := 9, nameIndex := 281, descriptorIndex := 282, attributes := #[] }] 48 4 #[] #[{ accessFlags := 4120, nameIndex := 121, descriptorIndex := 122, attributes := #[] }])
  fields := #[{ name := "$assertionsDisabled", type := .boolean, accessFlags := 4120, slot := 0, constantValue := 0 }]
  methods := #[k8m0, k8m1, k8m2]
  instanceTypes := #[]
  staticTypes := #[.boolean]
  resolved := Array.replicate 395 none
  statics := none }

def pool9 : Array CpInfo := pool [(2, .class_ 4), (1, u "java/lang/Object"), (0, u "<init>"), (0, u "()V"), (17, .class_ 26), (1, u "jdk/internal/util/Preconditions"), (6, u "checkIndex"), (21, .class_ 56), (0, u "jdk/internal/util/Preconditions$4"), (57, .class_ 115), (0, u "jdk/internal/util/Preconditions$1"), (7, u "SIOOBE_FORMATTER"), (0, u "Ljava/util/function/BiFunction;"), (0, .class_ 126), (0, u "jdk/internal/util/Preconditions$2"), (3, u "AIOOBE_FORMATTER"), (0, .class_ 132), (0, u "jdk/internal/util/Preconditions$3"), (3, u "IOOBE_FORMATTER"), (41, u "(IILjava/util/function/BiFunction;)I")] 15

def k9m0 : Method := { name := "<init>", desc := "()V", sig := { parameters := [], returnType := none }, accessFlags := 1, code := none }
def k9c1 : Code := { maxStack := 3, maxLocals := 3, code := jdk_41_method_11_code, exceptionTable := #[], attributes := #[] }
def k9m1 : Method := { name := "checkIndex", desc := "(IILjava/util/function/BiFunction;)I", sig := { parameters := [.int, .int, (.object "java/util/function/BiFunction")], returnType := some .int }, accessFlags := 9, code := some k9c1 }
/-- jdk/internal/util/Preconditions -/
def k9 : Class := { plain "jdk/internal/util/Preconditions" (some 0) with
  accessFlags := 33
  interfaces := #[]
  cf := some (fileOf pool9 24 #[.nestMembers #[55, 131, 125, 114]] #[{ accessFlags := 1, nameIndex := 5, descriptorIndex := 6, attributes := #[] }, { accessFlags := 9, nameIndex := 33, descriptorIndex := 178, attributes := #[] }] 33 2 #[] #[{ accessFlags := 25, nameIndex := 123, descriptorIndex := 124, attributes := #[] }, { accessFlags := 25, nameIndex := 130, descriptorIndex := 124, attributes := #[] }, { accessFlags := 25, nameIndex := 136, descriptorIndex := 124, attributes := #[] }])
  fields := #[{ name := "SIOOBE_FORMATTER", type := (.object "java/util/function/BiFunction"), accessFlags := 25, slot := 0, constantValue := 0 }, { name := "AIOOBE_FORMATTER", type := (.object "java/util/function/BiFunction"), accessFlags := 25, slot := 1, constantValue := 0 }, { name := "IOOBE_FORMATTER", type := (.object "java/util/function/BiFunction"), accessFlags := 25, slot := 2, constantValue := 0 }]
  methods := #[k9m0, k9m1]
  instanceTypes := #[]
  staticTypes := #[(.object "java/util/function/BiFunction"), (.object "java/util/function/BiFunction"), (.object "java/util/function/BiFunction")]
  resolved := Array.replicate 194 none
  statics := some 1 }

def pool10 : Array CpInfo := pool [(6, .class_ 8), (1, u "java/lang/Object"), (0, u "<init>"), (0, u "()V"), (1, .class_ 14), (1, u "java/lang/StringUTF16"), (31, u "$assertionsDisabled"), (0, u "Z"), (13, u "HI_BYTE_SHIFT"), (0, u "I"), (2, u "LO_BYTE_SHIFT"), (49, .methodref 12 116), (0, .nameAndType 117 118), (0, u "compress"), (0, u "([CI[BII)I"), (3, u "([CII)[B"), (138, u "coderFromArrayLen"), (0, u "([BI)B"), (106, .class_ 371), (1, u "java/lang/StringUTF16$LinesSpliterator"), (58, u "MAX_LENGTH"), (196, .class_ 628), (0, u "java/lang/StringUTF16$CodePointsSpliterator"), (0, .class_ 630), (0, u "java/lang/StringUTF16$CharsSpliterator")] 4

def k10m0 : Method := { name := "<init>", desc := "()V", sig := { parameters := [], returnType := none }, accessFlags := 0, code := none }
def k10c1 : Code := { maxStack := 2, maxLocals := 2, code := jdk_52_method_15_code, exceptionTable := #[], attributes := #[] }
def k10m1 : Method := { name := "coderFromArrayLen", desc := "([BI)B", sig := { parameters := [(.array .byte), .int], returnType := some .byte }, accessFlags := 8, code := some k10c1 }
def k10c2 : Code := { maxStack := 5, maxLocals := 6, code := jdk_52_method_16_code, exceptionTable := #[], attributes := #[] }
def k10m2 : Method := { name := "compress", desc := "([CII)[B", sig := { parameters := [(.array .char), .int, .int], returnType := some (.array .byte) }, accessFlags := 9, code := some k10c2 }
def k10c3 : Code := { maxStack := 3, maxLocals := 7, code := jdk_52_method_21_code, exceptionTable := #[], attributes := #[] }
def k10m3 : Method := { name := "compress", desc := "([CI[BII)I", sig := { parameters := [(.array .char), .int, (.array .byte), .int, .int], returnType := some .int }, accessFlags := 9, code := some k10c3 }
/-- java/lang/StringUTF16 -/
def k10 : Class := { plain "java/lang/StringUTF16" (some 0) with
  accessFlags := 48
  interfaces := #[]
  cf := some (fileOf pool10 12 #[.nestMembers #[627, 629, 369]] #[{ accessFlags := 0, nameIndex := 9, descriptorIndex := 10, attributes := #[] }, { accessFlags := 8, nameIndex := 261, descriptorIndex := 262, attributes := #[] }, { accessFlags := 9, nameIndex := 117, descriptorIndex := 122, attributes := #[] }, { accessFlags := 9, nameIndex := 117, descriptorIndex := 118, attributes := #[] }] 48 6 #[] #[{ accessFlags := 26, nameIndex := 61, descriptorIndex := 62, attributes := #[] }, { accessFlags := 26, nameIndex := 65, descriptorIndex := 62, attributes := #[] }, { accessFlags := 24, nameIndex := 430, descriptorIndex := 62, attributes := #[] }, { accessFlags := 4120, nameIndex := 46, descriptorIndex := 47, attributes := #[] }])
  fields := #[{ name := "HI_BYTE_SHIFT", type := .int, accessFlags := 26, slot := 0, constantValue := 0 }, { name := "LO_BYTE_SHIFT", type := .int, accessFlags := 26, slot := 1, constantValue := 0 }, { name := "MAX_LENGTH", type := .int, accessFlags := 24, slot := 2, constantValue := 0 }, { name := "$assertionsDisabled", type := .boolean, accessFlags := 4120, slot := 3, constantValue := 0 }]
  methods := #[k10m0, k10m1, k10m2, k10m3]
  instanceTypes := #[]
  staticTypes := #[.int, .int, .int, .boolean]
  resolved := Array.replicate 635 none
  statics := none }

def pool11 : Array CpInfo := pool [(2, .class_ 4), (1, u "java/lang/Enum"), (0, u "name"), (0, u "Ljava/lang/String;"), (2, u "ordinal"), (0, u "I"), (1, .class_ 14), (1, u "java/lang/Object"), (4, u "hash"), (86, .class_ 108), (1, u "java/lang/Enum$EnumDesc"), (2, .class_ 112), (0, u "java/lang/constant/Constable"), (0, .class_ 114), (0, u "java/lang/Comparable"), (0, .class_ 116), (0, u "java/io/Serializable")] 87

/-- java/lang/Enum -/
def k11 : Class := { plain "java/lang/Enum" (some 0) with
  accessFlags := 1057
  interfaces := #[5, 3, 2]
  cf := some (fileOf pool11 2 #[.nestMembers #[106]] #[] 1057 12 #[111, 113, 115] #[{ accessFlags := 18, nameIndex := 5, descriptorIndex := 6, attributes := #[] }, { accessFlags := 18, nameIndex := 9, descriptorIndex := 10, attributes := #[] }, { accessFlags := 2, nameIndex := 19, descriptorIndex := 10, attributes := #[] }])
  fields := #[{ name := "name", type := (.object "java/lang/String"), accessFlags := 18, slot := 0, constantValue := 0 }, { name := "ordinal", type := .int, accessFlags := 18, slot := 1, constantValue := 0 }, { name := "hash", type := .int, accessFlags := 2, slot := 2, constantValue := 0 }]
  methods := #[]
  instanceTypes := #[(.object "java/lang/String"), .int, .int]
  staticTypes := #[]
  resolved := Array.replicate 204 none
  statics := none }

def pool12 : Array CpInfo := pool [(1, .class_ 2), (0, u "org/succession/Event$Kind"), (2, u "CREATION"), (0, u "Lorg/succession/Event$Kind;"), (2, u "MUTATION"), (2, u "END"), (0, .fieldref 1 14), (0, .nameAndType 15 16), (0, u "$VALUES"), (0, u "[Lorg/succession/Event$Kind;"), (0, .methodref 18 19), (0, .class_ 16), (0, .nameAndType 20 21), (0, u "clone"), (0, u "()Ljava/lang/Object;"), (1, .class_ 25), (1, u "java/lang/Enum"), (6, .fieldref 1 33), (0, .nameAndType 34 35), (0, u "written"), (0, u "Ljava/lang/String;"), (0, .methodref 1 37), (0, .nameAndType 38 39), (0, u "values"), (0, u "()[Lorg/succession/Event$Kind;"), (0, .methodref 41 42), (0, .class_ 43), (0, .nameAndType 44 45), (0, u "java/lang/String"), (0, u "equals"), (0, u "(Ljava/lang/Object;)Z"), (17, u "(Ljava/lang/String;)Lorg/succession/Event$Kind;"), (4, u "of"), (7, .class_ 77), (0, u "org/succession/Event")] 2

def k12c0 : Code := { maxStack := 1, maxLocals := 0, code := prog_8_method_1_code, exceptionTable := #[], attributes := #[] }
def k12m0 : Method := { name := "values", desc := "()[Lorg/succession/Event$Kind;", sig := { parameters := [], returnType := some (.array (.object "org/succession/Event$Kind")) }, accessFlags := 9, code := some k12c0 }
def k12c1 : Code := { maxStack := 2, maxLocals := 5, code := prog_8_method_5_code, exceptionTable := #[], attributes := #[] }
def k12m1 : Method := { name := "of", desc := "(Ljava/lang/String;)Lorg/succession/Event$Kind;", sig := { parameters := [(.object "java/lang/String")], returnType := some (.object "org/succession/Event$Kind") }, accessFlags := 8, code := some k12c1 }
/-- org/succession/Event$Kind -/
def k12 : Class := { plain "org/succession/Event$Kind" (some 11) with
  accessFlags := 16432
  interfaces := #[]
  cf := some (fileOf pool12 1 #[.nestHost 76] #[{ accessFlags := 9, nameIndex := 38, descriptorIndex := 39, attributes := #[] }, { accessFlags := 8, nameIndex := 68, descriptorIndex := 63, attributes := #[] }] 16432 23 #[] #[{ accessFlags := 16409, nameIndex := 5, descriptorIndex := 6, attributes := #[] }, { accessFlags := 16409, nameIndex := 9, descriptorIndex := 6, attributes := #[] }, { accessFlags := 16409, nameIndex := 12, descriptorIndex := 6, attributes := #[] }, { accessFlags := 18, nameIndex := 34, descriptorIndex := 35, attributes := #[] }, { accessFlags := 4122, nameIndex := 15, descriptorIndex := 16, attributes := #[] }])
  fields := #[{ name := "CREATION", type := (.object "org/succession/Event$Kind"), accessFlags := 16409, slot := 0, constantValue := 0 }, { name := "MUTATION", type := (.object "org/succession/Event$Kind"), accessFlags := 16409, slot := 1, constantValue := 0 }, { name := "END", type := (.object "org/succession/Event$Kind"), accessFlags := 16409, slot := 2, constantValue := 0 }, { name := "written", type := (.object "java/lang/String"), accessFlags := 18, slot := 3, constantValue := 0 }, { name := "$VALUES", type := (.array (.object "org/succession/Event$Kind")), accessFlags := 4122, slot := 3, constantValue := 0 }]
  methods := #[k12m0, k12m1]
  instanceTypes := #[(.object "java/lang/String"), .int, .int, (.object "java/lang/String")]
  staticTypes := #[(.object "org/succession/Event$Kind"), (.object "org/succession/Event$Kind"), (.object "org/succession/Event$Kind"), (.array (.object "org/succession/Event$Kind"))]
  resolved := Array.replicate 80 none
  statics := some 2 }

def pool13 : Array CpInfo := pool [(1, .class_ 2), (0, u "java/lang/Cloneable"), (0, .class_ 4), (0, u "java/lang/Object")] 2

/-- java/lang/Cloneable -/
def k13 : Class := { plain "java/lang/Cloneable" (some 0) with
  accessFlags := 1537
  interfaces := #[]
  cf := some (fileOf pool13 1 #[] #[] 1537 3 #[] #[])
  fields := #[]
  methods := #[]
  instanceTypes := #[]
  staticTypes := #[]
  resolved := Array.replicate 7 none
  statics := none }

def pool14 : Array CpInfo := pool [(9, u "<init>"), (6, .class_ 18), (1, u "java/lang/Object"), (0, u "()V"), (1, .class_ 23), (1, u "jdk/internal/util/ArraysSupport"), (0, u "LOG2_ARRAY_LONG_INDEX_SCALE"), (0, u "I"), (2, u "U"), (0, u "Ljdk/internal/misc/Unsafe;"), (8, u "BIG_ENDIAN"), (0, u "Z"), (8, u "LOG2_BYTE_BIT_SIZE"), (4, u "LOG2_ARRAY_INT_INDEX_SCALE"), (54, u "JLA"), (0, u "Ljdk/internal/access/JavaLangAccess;"), (11, u "LOG2_ARRAY_BOOLEAN_INDEX_SCALE"), (9, u "LOG2_ARRAY_BYTE_INDEX_SCALE"), (5, u "LOG2_ARRAY_CHAR_INDEX_SCALE"), (5, u "LOG2_ARRAY_SHORT_INDEX_SCALE"), (18, u "LOG2_ARRAY_FLOAT_INDEX_SCALE"), (24, u "LOG2_ARRAY_DOUBLE_INDEX_SCALE"), (89, u "T_BOOLEAN"), (2, u "T_CHAR"), (1, u "T_FLOAT"), (1, u "T_DOUBLE"), (1, u "T_BYTE"), (1, u "T_SHORT"), (1, u "T_INT"), (1, u "T_LONG"), (1, u "SOFT_MAX_ARRAY_LENGTH")] 83

def k14m0 : Method := { name := "<init>", desc := "()V", sig := { parameters := [], returnType := none }, accessFlags := 2, code := none }
/-- jdk/internal/util/ArraysSupport -/
def k14 : Class := { plain "jdk/internal/util/ArraysSupport" (some 0) with
  accessFlags := 33
  interfaces := #[]
  cf := some (fileOf pool14 21 #[] #[{ accessFlags := 2, nameIndex := 9, descriptorIndex := 19, attributes := #[] }] 33 16 #[] #[{ accessFlags := 24, nameIndex := 28, descriptorIndex := 29, attributes := #[] }, { accessFlags := 26, nameIndex := 38, descriptorIndex := 39, attributes := #[] }, { accessFlags := 25, nameIndex := 121, descriptorIndex := 25, attributes := #[] }, { accessFlags := 25, nameIndex := 131, descriptorIndex := 25, attributes := #[] }, { accessFlags := 25, nameIndex := 137, descriptorIndex := 25, attributes := #[] }, { accessFlags := 25, nameIndex := 143, descriptorIndex := 25, attributes := #[] }, { accessFlags := 25, nameIndex := 53, descriptorIndex := 25, attributes := #[] }, { accessFlags := 25, nameIndex := 24, descriptorIndex := 25, attributes := #[] }, { accessFlags := 25, nameIndex := 162, descriptorIndex := 25, attributes := #[] }, { accessFlags := 25, nameIndex := 187, descriptorIndex := 25, attributes := #[] }, { accessFlags := 26, nameIndex := 48, descriptorIndex := 25, attributes := #[] }, { accessFlags := 25, nameIndex := 277, descriptorIndex := 25, attributes := #[] }, { accessFlags := 25, nameIndex := 280, descriptorIndex := 25, attributes := #[] }, { accessFlags := 25, nameIndex := 282, descriptorIndex := 25, attributes := #[] }, { accessFlags := 25, nameIndex := 284, descriptorIndex := 25, attributes := #[] }, { accessFlags := 25, nameIndex := 286, descriptorIndex := 25, attributes := #[] }, { accessFlags := 25, nameIndex := 288, descriptorIndex := 25, attributes := #[] }, { accessFlags := 25, nameIndex := 290, descriptorIndex := 25, attributes := #[] }, { accessFlags := 25, nameIndex := 292, descriptorIndex := 25, attributes := #[] }, { accessFlags := 26, nameIndex := 108, descriptorIndex := 109, attributes := #[] }, { accessFlags := 25, nameIndex := 294, descriptorIndex := 25, attributes := #[] }])
  fields := #[{ name := "U", type := (.object "jdk/internal/misc/Unsafe"), accessFlags := 24, slot := 0, constantValue := 0 }, { name := "BIG_ENDIAN", type := .boolean, accessFlags := 26, slot := 1, constantValue := 0 }, { name := "LOG2_ARRAY_BOOLEAN_INDEX_SCALE", type := .int, accessFlags := 25, slot := 2, constantValue := 0 }, { name := "LOG2_ARRAY_BYTE_INDEX_SCALE", type := .int, accessFlags := 25, slot := 3, constantValue := 0 }, { name := "LOG2_ARRAY_CHAR_INDEX_SCALE", type := .int, accessFlags := 25, slot := 4, constantValue := 0 }, { name := "LOG2_ARRAY_SHORT_INDEX_SCALE", type := .int, accessFlags := 25, slot := 5, constantValue := 0 }, { name := "LOG2_ARRAY_INT_INDEX_SCALE", type := .int, accessFlags := 25, slot := 6, constantValue := 0 }, { name := "LOG2_ARRAY_LONG_INDEX_SCALE", type := .int, accessFlags := 25, slot := 7, constantValue := 0 }, { name := "LOG2_ARRAY_FLOAT_INDEX_SCALE", type := .int, accessFlags := 25, slot := 8, constantValue := 0 }, { name := "LOG2_ARRAY_DOUBLE_INDEX_SCALE", type := .int, accessFlags := 25, slot := 9, constantValue := 0 }, { name := "LOG2_BYTE_BIT_SIZE", type := .int, accessFlags := 26, slot := 10, constantValue := 0 }, { name := "T_BOOLEAN", type := .int, accessFlags := 25, slot := 11, constantValue := 0 }, { name := "T_CHAR", type := .int, accessFlags := 25, slot := 12, constantValue := 0 }, { name := "T_FLOAT", type := .int, accessFlags := 25, slot := 13, constantValue := 0 }, { name := "T_DOUBLE", type := .int, accessFlags := 25, slot := 14, constantValue := 0 }, { name := "T_BYTE", type := .int, accessFlags := 25, slot := 15, constantValue := 0 }, { name := "T_SHORT", type := .int, accessFlags := 25, slot := 16, constantValue := 0 }, { name := "T_INT", type := .int, accessFlags := 25, slot := 17, constantValue := 0 }, { name := "T_LONG", type := .int, accessFlags := 25, slot := 18, constantValue := 0 }, { name := "JLA", type := (.object "jdk/internal/access/JavaLangAccess"), accessFlags := 26, slot := 19, constantValue := 0 }, { name := "SOFT_MAX_ARRAY_LENGTH", type := .int, accessFlags := 25, slot := 20, constantValue := 0 }]
  methods := #[k14m0]
  instanceTypes := #[]
  staticTypes := #[(.object "jdk/internal/misc/Unsafe"), .boolean, .int, .int, .int, .int, .int, .int, .int, .int, .int, .int, .int, .int, .int, .int, .int, .int, .int, (.object "jdk/internal/access/JavaLangAccess"), .int]
  resolved := Array.replicate 378 none
  statics := none }

/-- the primitive byte -/
def k15 : Class := { plain "byte" none with kind := .primitive 'B', accessFlags := 0x411 }
/-- [B -/
def k16 : Class := { plain "[B" (some 0) with kind := .array 15 .byte, interfaces := #[13, 2], accessFlags := 1041 }

/-- the primitive char -/
def k17 : Class := { plain "char" none with kind := .primitive 'C', accessFlags := 0x411 }
/-- [C -/
def k18 : Class := { plain "[C" (some 0) with kind := .array 17 .char, interfaces := #[13, 2], accessFlags := 1041 }

/-- the primitive int -/
def k19 : Class := { plain "int" none with kind := .primitive 'I', accessFlags := 0x411 }
/-- [I -/
def k20 : Class := { plain "[I" (some 0) with kind := .array 19 .int, interfaces := #[13, 2], accessFlags := 1041 }

/-- [Lorg/succession/Event$Kind; -/
def k21 : Class := { plain "[Lorg/succession/Event$Kind;" (some 0) with kind := .array 12 (.object "org/succession/Event$Kind"), interfaces := #[13, 2], accessFlags := 1041 }

def heap : Heap := #[{ cls := 7, slots := #[.long 0, .int 1, .null, .int 0, .null, .int 0, .int 0], vm := .statics 7 },
  { cls := 9, slots := #[.null, .null, .null], vm := .statics 9 },
  { cls := 12, slots := #[.ref 4, .ref 5, .ref 6, .ref 3], vm := .statics 12 },
  { cls := 21, slots := #[.ref 4, .ref 5, .ref 6], vm := .none },
  { cls := 12, slots := #[.null, .int 0, .int 0, .ref 7], vm := .none },
  { cls := 12, slots := #[.null, .int 0, .int 0, .ref 8], vm := .none },
  { cls := 12, slots := #[.null, .int 0, .int 0, .ref 9], vm := .none },
  { cls := 7, slots := #[.ref 10, .int 0, .int 0, .int 0], vm := .none },
  { cls := 7, slots := #[.ref 11, .int 0, .int 0, .int 0], vm := .none },
  { cls := 7, slots := #[.ref 12, .int 0, .int 0, .int 0], vm := .none },
  { cls := 16, slots := #[.int 67, .int 114, .int 101, .int 97, .int 116, .int 105, .int 111, .int 110], vm := .none },
  { cls := 16, slots := #[.int 77, .int 117, .int 116, .int 97, .int 116, .int 105, .int 111, .int 110], vm := .none },
  { cls := 16, slots := #[.int 69, .int 110, .int 100], vm := .none }]
def classes : Array Class := #[k0, k1, k2, k3, k4, k5, k6, k7, k8, k9, k10, k11, k12, k13, k14, k15, k16, k17, k18, k19, k20, k21]
def interned : List (Array UInt16 × Addr) := []
def slotsUsed : Nat := 60
def theMethod : MethodId := ⟨1, 2⟩
def args0 : Array Value := #[.int 0, .int 0, .int 0, .int 0, .long 0]
def aboutOver (below : List Frame) : State where
  vm := { classes := classes, interned := interned.toArray }
  heap := heap
  slotsUsed := slotsUsed
  threads := #[{ frames := .invoking theMethod args0 :: below }]
def below0 : List Frame := [.native { method := ⟨0, 0⟩, args := #[] }]
def about1 : State := aboutOver below0
def p0 : Program := .bare "" "" ""
def e0 : Env := launch0.env 0 0 0
theorem w_frames : about1.frames = Frame.invoking theMethod args0 :: below0 := rfl
set_option maxRecDepth 65536 in
theorem w_args : argsFit about1.vm theMethod args0 = true := by decide +kernel
set_option maxRecDepth 65536 in
theorem w_heap : heapFits about1 = true := by decide +kernel
set_option maxRecDepth 65536 in
theorem w_runnable : about1.curStatus? = some .runnable := by decide +kernel
set_option maxRecDepth 65536 in
theorem w_alone : about1.alone = true := by decide +kernel
set_option maxRecDepth 65536 in
theorem w_named : about1.methodNamed? x = some theMethod := by decide +kernel
set_option maxRecDepth 65536 in
theorem w_hears : about1.hears theMethod below0 = true := by decide +kernel
set_option maxRecDepth 65536 in
theorem w_ripe : about1.ripe theMethod args0 below0 = true := by decide +kernel
theorem w_running : about1.status = .running := rfl
set_option maxRecDepth 65536 in
theorem w_room : about1.hasRoom e0.platform room_1 = true :=
  launch0.hasRoom_least _ room_1 (by decide +kernel) (by decide +kernel) (by decide +kernel) (by decide +kernel) (by decide +kernel) (by decide +kernel)
theorem allAtoms_all (ts : List Jvm.Cond) (a : Array Jvm.Value) (st : Jvm.State) : (allAtoms ts).before a st = ts.all (fun c => c.before a st) := by
  induction ts with
  | nil => rfl
  | cons c t ih =>
    show (Jvm.Cond.and c (allAtoms t)).before a st = _
    rw [Jvm.Cond.before_and, ih, List.all_cons]
def words1 : List Jvm.Cond := Jvm.Cond.code x code maxLocals ret :: tables_1
/-- a 'code' word, met by the world's own term for the bytes: nothing is compared byte by byte -/
theorem code_word {y : MethodName} {bytes : ByteArray} {mx : Nat} {rt : Option FieldType} {a : Array Value} {s : State} {m : MethodId} {meth : Method} {c : Code} (h1 : s.methodNamed? y = some m) (h2 : s.vm.method? m = some meth) (h3 : meth.code = some c) (h4 : c.code = bytes)
    (h5 : (c.maxLocals == mx && c.exceptionTable.isEmpty && decide (c.maxStack ≤ mostOperands) && decide (meth.sig.returnType = rt) && !meth.locks && decide (parseMethodDescriptor y.desc = some meth.sig)) = true) : (Jvm.Cond.code y bytes mx rt).before a s = true := by
  simp only [Bool.and_eq_true, beq_iff_eq, Bool.not_eq_true', decide_eq_true_eq] at h5
  obtain ⟨⟨⟨⟨⟨g1, g2⟩, g3⟩, g4⟩, g5⟩, g6⟩ := h5
  simp [Cond.before, Cond.holds, Cond.value, h1, h2, h3, h4, g1, g2, g3, g4, g5, g6]
def isCode : Jvm.Cond → Bool
  | .code _ _ _ _ => true
  | _ => false
theorem all_split {L : List Jvm.Cond} {P : Jvm.Cond → Bool} (h1 : L.all (fun c => isCode c || P c) = true) (h2 : ∀ c ∈ L.filter isCode, P c = true) : L.all P = true := by
  refine List.all_eq_true.mpr fun c hc => ?_
  have h := List.all_eq_true.mp h1 c hc
  rcases Bool.eq_false_or_eq_true (isCode c) with hi | hi
  · exact h2 c (List.mem_filter.mpr ⟨hc, hi⟩)
  · simpa [hi] using h
set_option maxRecDepth 65536 in
theorem w_c0 : (Jvm.Cond.code x code maxLocals ret).before args0 about1 = true := code_word (m := ⟨1, 2⟩) (meth := k1m2) (c := k1c2) (by decide +kernel) rfl rfl rfl (by decide +kernel)
set_option maxRecDepth 65536 in
theorem w_c1 : (Jvm.Cond.code ({ cls := "org/succession/KindOfPinLaw", name := "put", desc := "([CILjava/lang/String;J)V" } : Jvm.MethodName) method_2_code (5 : Nat) (Option.none : Option Jvm.ClassFile.FieldType)).before args0 about1 = true := code_word (m := ⟨1, 1⟩) (meth := k1m1) (c := k1c1) (by decide +kernel) rfl rfl rfl (by decide +kernel)
set_option maxRecDepth 65536 in
theorem w_c2 : (Jvm.Cond.code ({ cls := "java/lang/String", name := "length", desc := "()I" } : Jvm.MethodName) jdk_42_method_54_code (1 : Nat) (Option.some Jvm.ClassFile.FieldType.int)).before args0 about1 = true := code_word (m := ⟨7, 2⟩) (meth := k7m2) (c := k7c2) (by decide +kernel) rfl rfl rfl (by decide +kernel)
set_option maxRecDepth 65536 in
theorem w_c3 : (Jvm.Cond.code ({ cls := "java/lang/String", name := "coder", desc := "()B" } : Jvm.MethodName) jdk_42_method_152_code (1 : Nat) (Option.some Jvm.ClassFile.FieldType.byte)).before args0 about1 = true := code_word (m := ⟨7, 6⟩) (meth := k7m6) (c := k7c6) (by decide +kernel) rfl rfl rfl (by decide +kernel)
set_option maxRecDepth 65536 in
theorem w_c4 : (Jvm.Cond.code ({ cls := "java/lang/String", name := "charAt", desc := "(I)C" } : Jvm.MethodName) jdk_42_method_56_code (2 : Nat) (Option.some Jvm.ClassFile.FieldType.char)).before args0 about1 = true := code_word (m := ⟨7, 3⟩) (meth := k7m3) (c := k7c3) (by decide +kernel) rfl rfl rfl (by decide +kernel)
set_option maxRecDepth 65536 in
theorem w_c5 : (Jvm.Cond.code ({ cls := "java/lang/String", name := "isLatin1", desc := "()Z" } : Jvm.MethodName) jdk_42_method_154_code (1 : Nat) (Option.some Jvm.ClassFile.FieldType.boolean)).before args0 about1 = true := code_word (m := ⟨7, 7⟩) (meth := k7m7) (c := k7c7) (by decide +kernel) rfl rfl rfl (by decide +kernel)
set_option maxRecDepth 65536 in
theorem w_c6 : (Jvm.Cond.code ({ cls := "java/lang/StringLatin1", name := "charAt", desc := "([BI)C" } : Jvm.MethodName) jdk_43_method_2_code (2 : Nat) (Option.some Jvm.ClassFile.FieldType.char)).before args0 about1 = true := code_word (m := ⟨8, 1⟩) (meth := k8m1) (c := k8c1) (by decide +kernel) rfl rfl rfl (by decide +kernel)
set_option maxRecDepth 65536 in
theorem w_c7 : (Jvm.Cond.code ({ cls := "java/lang/String", name := "checkIndex", desc := "(II)V" } : Jvm.MethodName) jdk_42_method_155_code (2 : Nat) (Option.none : Option Jvm.ClassFile.FieldType)).before args0 about1 = true := code_word (m := ⟨7, 8⟩) (meth := k7m8) (c := k7c8) (by decide +kernel) rfl rfl rfl (by decide +kernel)
set_option maxRecDepth 65536 in
theorem w_c8 : (Jvm.Cond.code ({ cls := "jdk/internal/util/Preconditions", name := "checkIndex", desc := "(IILjava/util/function/BiFunction;)I" } : Jvm.MethodName) jdk_41_method_11_code (3 : Nat) (Option.some Jvm.ClassFile.FieldType.int)).before args0 about1 = true := code_word (m := ⟨9, 1⟩) (meth := k9m1) (c := k9c1) (by decide +kernel) rfl rfl rfl (by decide +kernel)
set_option maxRecDepth 65536 in
theorem w_c9 : (Jvm.Cond.code ({ cls := "java/lang/String", name := "<init>", desc := "([C)V" } : Jvm.MethodName) jdk_42_method_3_code (2 : Nat) (Option.none : Option Jvm.ClassFile.FieldType)).before args0 about1 = true := code_word (m := ⟨7, 1⟩) (meth := k7m1) (c := k7c1) (by decide +kernel) rfl rfl rfl (by decide +kernel)
set_option maxRecDepth 65536 in
theorem w_c10 : (Jvm.Cond.code ({ cls := "java/lang/String", name := "<init>", desc := "([CIILjava/lang/Void;)V" } : Jvm.MethodName) jdk_42_method_149_code (6 : Nat) (Option.none : Option Jvm.ClassFile.FieldType)).before args0 about1 = true := code_word (m := ⟨7, 5⟩) (meth := k7m5) (c := k7c5) (by decide +kernel) rfl rfl rfl (by decide +kernel)
set_option maxRecDepth 65536 in
theorem w_c11 : (Jvm.Cond.code ({ cls := "java/lang/Object", name := "<init>", desc := "()V" } : Jvm.MethodName) object_method_1_code (1 : Nat) (Option.none : Option Jvm.ClassFile.FieldType)).before args0 about1 = true := code_word (m := ⟨0, 0⟩) (meth := k0m0) (c := k0c0) (by decide +kernel) rfl rfl rfl (by decide +kernel)
set_option maxRecDepth 65536 in
theorem w_c12 : (Jvm.Cond.code ({ cls := "java/lang/StringUTF16", name := "compress", desc := "([CII)[B" } : Jvm.MethodName) jdk_52_method_16_code (6 : Nat) (Option.some (Jvm.ClassFile.FieldType.array Jvm.ClassFile.FieldType.byte))).before args0 about1 = true := code_word (m := ⟨10, 2⟩) (meth := k10m2) (c := k10c2) (by decide +kernel) rfl rfl rfl (by decide +kernel)
set_option maxRecDepth 65536 in
theorem w_c13 : (Jvm.Cond.code ({ cls := "java/lang/StringUTF16", name := "compress", desc := "([CI[BII)I" } : Jvm.MethodName) jdk_52_method_21_code (7 : Nat) (Option.some Jvm.ClassFile.FieldType.int)).before args0 about1 = true := code_word (m := ⟨10, 3⟩) (meth := k10m3) (c := k10c3) (by decide +kernel) rfl rfl rfl (by decide +kernel)
set_option maxRecDepth 65536 in
theorem w_c14 : (Jvm.Cond.code ({ cls := "java/lang/StringUTF16", name := "coderFromArrayLen", desc := "([BI)B" } : Jvm.MethodName) jdk_52_method_15_code (2 : Nat) (Option.some Jvm.ClassFile.FieldType.byte)).before args0 about1 = true := code_word (m := ⟨10, 1⟩) (meth := k10m1) (c := k10c1) (by decide +kernel) rfl rfl rfl (by decide +kernel)
set_option maxRecDepth 65536 in
theorem w_c15 : (Jvm.Cond.code ({ cls := "org/succession/Event$Kind", name := "of", desc := "(Ljava/lang/String;)Lorg/succession/Event$Kind;" } : Jvm.MethodName) prog_8_method_5_code (5 : Nat) (Option.some (Jvm.ClassFile.FieldType.object "org/succession/Event$Kind"))).before args0 about1 = true := code_word (m := ⟨12, 1⟩) (meth := k12m1) (c := k12c1) (by decide +kernel) rfl rfl rfl (by decide +kernel)
set_option maxRecDepth 65536 in
theorem w_c16 : (Jvm.Cond.code ({ cls := "org/succession/Event$Kind", name := "values", desc := "()[Lorg/succession/Event$Kind;" } : Jvm.MethodName) prog_8_method_1_code (0 : Nat) (Option.some (Jvm.ClassFile.FieldType.array (Jvm.ClassFile.FieldType.object "org/succession/Event$Kind")))).before args0 about1 = true := code_word (m := ⟨12, 0⟩) (meth := k12m0) (c := k12c0) (by decide +kernel) rfl rfl rfl (by decide +kernel)
set_option maxRecDepth 65536 in
theorem w_c17 : (Jvm.Cond.code ({ cls := "java/lang/String", name := "equals", desc := "(Ljava/lang/Object;)Z" } : Jvm.MethodName) jdk_42_method_66_code (3 : Nat) (Option.some Jvm.ClassFile.FieldType.boolean)).before args0 about1 = true := code_word (m := ⟨7, 4⟩) (meth := k7m4) (c := k7c4) (by decide +kernel) rfl rfl rfl (by decide +kernel)
set_option maxRecDepth 65536 in
theorem w_c18 : (Jvm.Cond.code ({ cls := "java/lang/StringLatin1", name := "equals", desc := "([B[B)Z" } : Jvm.MethodName) jdk_43_method_13_code (3 : Nat) (Option.some Jvm.ClassFile.FieldType.boolean)).before args0 about1 = true := code_word (m := ⟨8, 2⟩) (meth := k8m2) (c := k8c2) (by decide +kernel) rfl rfl rfl (by decide +kernel)
def codes1 : List Jvm.Cond := [Jvm.Cond.code x code maxLocals ret, Jvm.Cond.code ({ cls := "org/succession/KindOfPinLaw", name := "put", desc := "([CILjava/lang/String;J)V" } : Jvm.MethodName) method_2_code (5 : Nat) (Option.none : Option Jvm.ClassFile.FieldType), Jvm.Cond.code ({ cls := "java/lang/String", name := "length", desc := "()I" } : Jvm.MethodName) jdk_42_method_54_code (1 : Nat) (Option.some Jvm.ClassFile.FieldType.int), Jvm.Cond.code ({ cls := "java/lang/String", name := "coder", desc := "()B" } : Jvm.MethodName) jdk_42_method_152_code (1 : Nat) (Option.some Jvm.ClassFile.FieldType.byte), Jvm.Cond.code ({ cls := "java/lang/String", name := "charAt", desc := "(I)C" } : Jvm.MethodName) jdk_42_method_56_code (2 : Nat) (Option.some Jvm.ClassFile.FieldType.char), Jvm.Cond.code ({ cls := "java/lang/String", name := "isLatin1", desc := "()Z" } : Jvm.MethodName) jdk_42_method_154_code (1 : Nat) (Option.some Jvm.ClassFile.FieldType.boolean), Jvm.Cond.code ({ cls := "java/lang/StringLatin1", name := "charAt", desc := "([BI)C" } : Jvm.MethodName) jdk_43_method_2_code (2 : Nat) (Option.some Jvm.ClassFile.FieldType.char), Jvm.Cond.code ({ cls := "java/lang/String", name := "checkIndex", desc := "(II)V" } : Jvm.MethodName) jdk_42_method_155_code (2 : Nat) (Option.none : Option Jvm.ClassFile.FieldType), Jvm.Cond.code ({ cls := "jdk/internal/util/Preconditions", name := "checkIndex", desc := "(IILjava/util/function/BiFunction;)I" } : Jvm.MethodName) jdk_41_method_11_code (3 : Nat) (Option.some Jvm.ClassFile.FieldType.int), Jvm.Cond.code ({ cls := "java/lang/String", name := "<init>", desc := "([C)V" } : Jvm.MethodName) jdk_42_method_3_code (2 : Nat) (Option.none : Option Jvm.ClassFile.FieldType), Jvm.Cond.code ({ cls := "java/lang/String", name := "<init>", desc := "([CIILjava/lang/Void;)V" } : Jvm.MethodName) jdk_42_method_149_code (6 : Nat) (Option.none : Option Jvm.ClassFile.FieldType), Jvm.Cond.code ({ cls := "java/lang/Object", name := "<init>", desc := "()V" } : Jvm.MethodName) object_method_1_code (1 : Nat) (Option.none : Option Jvm.ClassFile.FieldType), Jvm.Cond.code ({ cls := "java/lang/StringUTF16", name := "compress", desc := "([CII)[B" } : Jvm.MethodName) jdk_52_method_16_code (6 : Nat) (Option.some (Jvm.ClassFile.FieldType.array Jvm.ClassFile.FieldType.byte)), Jvm.Cond.code ({ cls := "java/lang/StringUTF16", name := "compress", desc := "([CI[BII)I" } : Jvm.MethodName) jdk_52_method_21_code (7 : Nat) (Option.some Jvm.ClassFile.FieldType.int), Jvm.Cond.code ({ cls := "java/lang/StringUTF16", name := "coderFromArrayLen", desc := "([BI)B" } : Jvm.MethodName) jdk_52_method_15_code (2 : Nat) (Option.some Jvm.ClassFile.FieldType.byte), Jvm.Cond.code ({ cls := "org/succession/Event$Kind", name := "of", desc := "(Ljava/lang/String;)Lorg/succession/Event$Kind;" } : Jvm.MethodName) prog_8_method_5_code (5 : Nat) (Option.some (Jvm.ClassFile.FieldType.object "org/succession/Event$Kind")), Jvm.Cond.code ({ cls := "org/succession/Event$Kind", name := "values", desc := "()[Lorg/succession/Event$Kind;" } : Jvm.MethodName) prog_8_method_1_code (0 : Nat) (Option.some (Jvm.ClassFile.FieldType.array (Jvm.ClassFile.FieldType.object "org/succession/Event$Kind"))), Jvm.Cond.code ({ cls := "java/lang/String", name := "equals", desc := "(Ljava/lang/Object;)Z" } : Jvm.MethodName) jdk_42_method_66_code (3 : Nat) (Option.some Jvm.ClassFile.FieldType.boolean), Jvm.Cond.code ({ cls := "java/lang/StringLatin1", name := "equals", desc := "([B[B)Z" } : Jvm.MethodName) jdk_43_method_13_code (3 : Nat) (Option.some Jvm.ClassFile.FieldType.boolean)]
set_option maxRecDepth 65536 in
theorem codes_eq : words1.filter isCode = codes1 := rfl
theorem w_codes : ∀ c ∈ words1.filter isCode, c.before args0 about1 = true := by
  rw [codes_eq]
  intro c hc
  simp only [codes1, List.mem_cons, List.not_mem_nil, or_false] at hc
  rcases hc with rfl | rfl | rfl | rfl | rfl | rfl | rfl | rfl | rfl | rfl | rfl | rfl | rfl | rfl | rfl | rfl | rfl | rfl | rfl
  · exact w_c0
  · exact w_c1
  · exact w_c2
  · exact w_c3
  · exact w_c4
  · exact w_c5
  · exact w_c6
  · exact w_c7
  · exact w_c8
  · exact w_c9
  · exact w_c10
  · exact w_c11
  · exact w_c12
  · exact w_c13
  · exact w_c14
  · exact w_c15
  · exact w_c16
  · exact w_c17
  · exact w_c18
set_option maxRecDepth 65536 in
theorem w_t1 : (words1.take 24).all (fun c => isCode c || c.before args0 about1) = true := by decide +kernel
set_option maxRecDepth 65536 in
theorem w_t2 : ((words1.drop 24).take 24).all (fun c => isCode c || c.before args0 about1) = true := by decide +kernel
set_option maxRecDepth 65536 in
theorem w_t3 : (((words1.drop 24).drop 24).take 24).all (fun c => isCode c || c.before args0 about1) = true := by decide +kernel
set_option maxRecDepth 65536 in
theorem w_t4 : ((((words1.drop 24).drop 24).drop 24).take 24).all (fun c => isCode c || c.before args0 about1) = true := by decide +kernel
set_option maxRecDepth 65536 in
theorem w_t5 : ((((words1.drop 24).drop 24).drop 24).drop 24).all (fun c => isCode c || c.before args0 about1) = true := by decide +kernel
theorem w_tables : (allAtoms (Jvm.Cond.code x code maxLocals ret :: tables_1)).before args0 about1 = true := by
  rw [allAtoms_all]
  show words1.all (fun c => c.before args0 about1) = true
  refine all_split ?_ w_codes
  rw [← List.take_append_drop 24 words1, List.all_append, w_t1, ← List.take_append_drop 24 (words1.drop 24), List.all_append, w_t2, ← List.take_append_drop 24 ((words1.drop 24).drop 24), List.all_append, w_t3, ← List.take_append_drop 24 (((words1.drop 24).drop 24).drop 24), List.all_append, w_t4, w_t5]
  rfl
set_option maxRecDepth 65536 in
theorem w_rest : rest_1_c.before args0 about1 = true := by decide +kernel
set_option maxRecDepth 65536 in
theorem w_case : (Jvm.Cond.and given_1 narrow_1).before args0 about1 = true := by decide +kernel
set_option maxRecDepth 65536 in
theorem w_consts : constsHeld consts_1 about1 := Jvm.Lit.constsHeldB_iff.mp (by decide +kernel)
theorem w_applies : (headSpec (Jvm.Cond.code x code maxLocals ret :: tables_1) room_1).applies x e0.platform about1 = true :=
  (Spec.applies_iff w_frames).mpr ⟨w_running, w_runnable, w_alone, w_named, w_hears, w_ripe, w_room, w_tables⟩
theorem atStart : AtStart classFile x code maxLocals ret World_1 tables_1 room_1 Calls_1 rest_1 Pre_1 launch0 p0 e0 about1 theMethod args0 below0 :=
  ⟨lists_1, trivial, launch0.admits_env _ _ _, launch0.least_env, fairChoices_fair.cas, fairChoices_fair.clock, w_frames, w_args, w_heap, w_applies, ⟨w_consts, trivial⟩, w_rest, w_case⟩
end start1
theorem witness_1 : WitnessClaimed_1 := ⟨start1.p0, start1.e0, start1.about1, start1.theMethod, start1.args0, start1.below0, start1.atStart⟩
end Jvm.Pilot.@@N@@
