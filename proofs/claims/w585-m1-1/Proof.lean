import JvmDerived
import JvmDerived.Pilot.@@N@@Statement
import JvmDerived.Pilot.@@N@@Code
set_option linter.unusedVariables false
set_option linter.unusedSimpArgs false
namespace Jvm.Pilot.@@N@@
open Jvm Jvm.ClassFile Sem Op Lib Jvm.Free Jvm.Stand Jvm.LawKit Jvm.RoadKit Bundle Jvm.Pilot.@@N@@.Jvm.D
section OwnRun
variable {p : Program} {l : Launch} {e : Env} {R : Room} {s : State} {m : MethodId} {args : Array Value} {below : List Frame} {meth : Method} {c : Code} {T : State} {locs : List Loc} {cells slots : Nat}
/-- from S the run comes to its end, and there Q holds -/
def Run (p : Program) (e : Env) (below : List Frame) (Q : State → Outcome → Prop) (S : State) : Prop := ∃ s₂ o, Steps p.tables e below S s₂ ∧ s₂.status = .running ∧ Ended s₂ below o ∧ Q s₂ o
def Ends (s : State) (Qb : Option Value → Heap → List Loc → Prop) (C S : Nat) : State → Outcome → Prop := fun s₂ o => ∃ v L, o = .returned v ∧ Qb v s₂.heap L ∧ FrameEnd s o s₂ L C S
theorem Run.st {Q : State → Outcome → Prop} {S S' : State} (h : ∀ t, Steps p.tables e below S' t → Steps p.tables e below S t) (r : Run p e below Q S') : Run p e below Q S := by
  obtain ⟨a, b, c, d⟩ := r
  exact ⟨a, b, h _ c, d⟩
theorem Run.out (X : Stand p l e R s m args below meth c T locs cells slots) (hx : p.tables.exec = Jvm.exec) {Qb : Option Value → Heap → List Loc → Prop} {C S : Nat} {pc : Nat} {Ls : Array Slot} {w : Value} {t : FieldType} {i : Instr} {rest : List Value} (hlocks : meth.locks = false) (hret : meth.sig.returnType = some t) (hn : narrow t w = w)
    (hi : (i = .ireturn ∧ (t = .int ∨ t = .boolean ∨ t = .byte ∨ t = .char ∨ t = .short) ∧ ∃ z, w = .int z) ∨ (i = .lreturn ∧ t = .long ∧ ∃ z, w = .long z) ∨ (i = .dreturn ∧ t = .double ∧ ∃ z, w = .double z) ∨ (i = .freturn ∧ t = .float ∧ ∃ z, w = .float z) ∨ (i = .areturn ∧ t.isReference = true ∧ w.isRef = true))
    (hd : decode c.code pc = .ok (i, 1)) (hC : cells ≤ C) (hS : slots ≤ S) (hq : Qb (some w) T.heap locs) : Run p e below (Ends s Qb C S) (T.setTop (mkF m pc Ls (w :: rest))) := by
  obtain ⟨fs, hr, hrun, hended, hW, hsame⟩ := X.leave (v := some w) (fun h => by rw [hret] at h; cases h) hlocks
  exact ⟨_, _, retOut X hx hret hn hi hd hr, hrun, hended, _, _, rfl, hq, ⟨_, rfl⟩, hW, hsame.mono hC hS⟩
theorem Run.outV (X : Stand p l e R s m args below meth c T locs cells slots) (hx : p.tables.exec = Jvm.exec) {Qb : Option Value → Heap → List Loc → Prop} {C S : Nat} {pc : Nat} {Ls : Array Slot} (hlocks : meth.locks = false) (hret : meth.sig.returnType = none)
    (hd : decode c.code pc = .ok (.return_, 1)) (hC : cells ≤ C) (hS : slots ≤ S) (hq : Qb none T.heap locs) : Run p e below (Ends s Qb C S) (T.setTop (mkF m pc Ls [])) := by
  obtain ⟨fs, hr, hrun, hended, hW, hsame⟩ := X.leave (v := none) (fun _ => rfl) hlocks
  exact ⟨_, _, X.returnOut hx hret hd hr, hrun, hended, _, _, rfl, hq, ⟨_, rfl⟩, hW, hsame.mono hC hS⟩
theorem lcYes {cd : ClassFile.Cond} {x y : Int64} {b : Bool} (h : ifCond.holds cd (Jvm.Free.XT.cmpL x y) = b) : ifCond.holds cd (lcmpW x y) = b := h
theorem nb01 {P : Prop} [Decidable P] : narrow .boolean (.int (if P then (1 : Int32) else (0 : Int32))) = .int (if P then (1 : Int32) else (0 : Int32)) := by split <;> rfl
theorem staK {Z : State} {h h' : Heap} {C n d : String} {v : Value} {ws : List Addr} (F : Sta Z h C n d v) (K : Keep h h' ws) (q : ∀ x ∈ ws, ∀ c : Cell, h[x]? = some c → c.vm.isStatics = false) : Sta Z h' C n d v := by
  obtain ⟨cf, i, k, f, st, cell, h1, h2, h3, h4, h5, h6, h7⟩ := F
  refine ⟨cf, i, k, f, st, cell, h1, h2, h3, h4, K.2.1 st cell h5 (fun m => ?_), h6, h7⟩
  have := q st m cell h5
  rw [h6] at this
  cases this
theorem exaP {Z : State} {h : Heap} {a : Addr} {C : String} (E : Exa Z h a C) : ∀ c : Cell, h[a]? = some c → c.vm.isStatics = false := fun c hc => by
  obtain ⟨cell, k, h1, -, -, h4, -⟩ := E
  cases h1.symm.trans hc
  exact h4
theorem arvP {Z : State} {h : Heap} {a : Addr} {k : ClassId} {ty : FieldType} {n : Int32} {vs : List Value} {d : Value} (E : Arv Z h a k ty n vs d) : ∀ c : Cell, h[a]? = some c → c.vm.isStatics = false := fun c hc => by
  obtain ⟨cell, A, -⟩ := E
  cases A.1.symm.trans hc
  exact A.plain
theorem selSelf {s : State} {args : Array Value} {y : MethodName} {n : Nat} (wi : (Jvm.Cond.instantiable y.cls n).before args s = true) (hp : s.PrivateAt y) (hi : (Jvm.Cond.instanceMethod y).before args s = true) (hy : y.cls ≠ "java/lang/invoke/MethodHandle" ∧ y.cls ≠ "java/lang/invoke/VarHandle") : (Jvm.Cond.selects y.cls y y).before args s = true := by
  obtain ⟨c, k, h1, h2, -, h4, -⟩ := Cond.instantiable_spec wi
  rw [Bool.or_eq_false_iff] at h4
  exact selects_self_of_private h1 h2 h4.1 hp hi hy
theorem own_lsw {tb : Tables} [Ours tb] {e : Env} {below : List Frame} {T target : State} {m : MethodId} {c : Code} {g : JFrame} (h : At T m c below) (hx : tb.exec = Jvm.exec) (hg : g.method = m) {dflt : Int} {ps : Array (Int × Int)} {len : Nat} {o : Int} {pc0 pc' : Nat} (hpc : g.pc = pc0) (hd : decode c.code g.pc = .ok (.lookupswitch dflt ps, len)) {i : Int32} {rest : List Value} (hs : g.stack = .int i :: rest)
    (hsort : ∀ q ∈ ps.toList.zip ps.toList.tail, q.1.1 < q.2.1) (hoff : lookupswitch.offset ps.toList dflt i.toInt = o) (ho : 0 ≤ (pc0 : Int) + o) (hp : ((pc0 : Int) + o).toNat = pc')
    (hr : Steps tb e below (T.setTop { g with pc := pc', stack := rest }) target) : Steps tb e below (T.setTop g) target := by
  subst hg hpc hp
  jvm_step h [h.top, hx, hd, hs, hoff, ho, lookupswitch.wp_chain]
  exact ⟨fun a b a1 b1 q => hsort _ q, hr⟩
theorem ord_v {args : Array Value} {s : State} {t : Term} {C n d : String} {k : Int32} {a : Addr} (ht : t.eval args s none [] s = some (.ref a)) (h : (Jvm.Cond.eq (.field t C n d) (.int k)).value args s none s [] = some true) : Fld s s.heap a C n d (.int k) := by
  refine Fld.start ?_
  rw [← fld_at (C := C) (n := n) (dd := d) ht]
  simp only [Cond.value] at h
  cases hv : (Term.field t C n d).eval args s none [] s with
  | none => simp [hv] at h
  | some v => cases v <;> simp_all [Term.eval]
theorem arr_len {args : Array Value} {s : State} {t : Term} {a : Addr} {cl : Cell} {ty : FieldType} {n : Int32} (ht : t.eval args s none [] s = some (.ref a)) (A : Arr s s.heap a cl ty) (h : (Jvm.Cond.eq (.length t) (.int n)).value args s none s [] = some true) : cl.slots.size < 2 ^ 31 ∧ cl.slots.size.toInt32 = n := by
  have ha := A.fin (Vm.Alike.refl s.vm)
  by_cases q : cl.slots.size < 2 ^ 31
  · refine ⟨q, ?_⟩
    have e := len_f ht ha q
    have e2 : (Term.int n).eval args s none [] s = some (.int n) := rfl
    simp only [Cond.value, e, e2] at h
    simpa using h
  · simp [Cond.value, Term.eval, ht, ha, q] at h
theorem arr_elR {args : Array Value} {s : State} {t u : Term} {a b : Addr} {cl : Cell} {ty : FieldType} {j : Int32} (ht : t.eval args s none [] s = some (.ref a)) (A : Arr s s.heap a cl ty) (h : (Jvm.Cond.eq (.elem t (.int j)) u).value args s none s [] = some true) (hu : u.eval args s none [] s = some (.ref b)) (hj : ¬ j < 0) : cl.slots[j.toNatClampNeg]? = some (.ref b) := by
  have ha := A.fin (Vm.Alike.refl s.vm)
  have e : (Term.elem t (.int j)).eval args s none [] s = cl.slots[j.toNatClampNeg]? := elem_f ht rfl ha hj
  simp only [Cond.value, hu, e] at h
  cases hv : cl.slots[j.toNatClampNeg]? with
  | none => simp [hv] at h
  | some v => cases v <;> simp_all
theorem arr_elI {args : Array Value} {s : State} {t : Term} {a : Addr} {cl : Cell} {ty : FieldType} {j k : Int32} (ht : t.eval args s none [] s = some (.ref a)) (A : Arr s s.heap a cl ty) (h : (Jvm.Cond.eq (.elem t (.int j)) (.int k)).value args s none s [] = some true) (hj : ¬ j < 0) : cl.slots[j.toNatClampNeg]? = some (.int k) := by
  have ha := A.fin (Vm.Alike.refl s.vm)
  have e : (Term.elem t (.int j)).eval args s none [] s = cl.slots[j.toNatClampNeg]? := elem_f ht rfl ha hj
  have e2 : (Term.int k).eval args s none [] s = some (.int k) := rfl
  simp only [Cond.value, e, e2] at h
  cases hv : cl.slots[j.toNatClampNeg]? with
  | none => simp [hv] at h
  | some v => cases v <;> simp_all
theorem inb32 {j z : Int32} {n : Int} (hz : z.toInt = n) (h0 : 0 ≤ j.toInt) (h1 : j.toInt < n) : ¬ j < 0 ∧ j < z := by
  rw [Int32.lt_iff_toInt_lt, Int32.lt_iff_toInt_lt, hz]
  have : (0 : Int32).toInt = 0 := by decide
  omega
theorem own_nn {n : Int32} (h : 0 ≤ n.toInt) : ¬ n < 0 := by
  rw [Int32.lt_iff_toInt_lt]
  have : (0 : Int32).toInt = 0 := by decide
  omega
theorem own_cap {n : Int32} {c : Nat} (h : n.toInt < (c : Int) + 1) : n.toNatClampNeg ≤ c := by
  simp only [Int32.toNatClampNeg]
  omega
theorem own_fin (x : Int32) (n : Nat) (hn : n < 2147483648) (h0 : 0 ≤ x.toInt) (h1 : x.toInt < n) : ∃ i : Fin n, x = Int32.ofNat i.1 := by
  refine ⟨⟨x.toInt.toNat, by omega⟩, Int32.toInt_inj.mp ?_⟩
  show x.toInt = (Int32.ofNat x.toInt.toNat).toInt
  rw [Int32.toInt_ofNat_small (by omega)]
  omega
end OwnRun
theorem d1_0 : decode prog_19_method_4_code 0 = .ok (.lload_n 2, 1) := by decide +kernel
theorem d1_1 : decode prog_19_method_4_code 1 = .ok (.ldc2_w 30, 3) := by decide +kernel
theorem d1_4 : decode prog_19_method_4_code 4 = .ok (.lload_n 0, 1) := by decide +kernel
theorem d1_5 : decode prog_19_method_4_code 5 = .ok (.lsub, 1) := by decide +kernel
theorem d1_6 : decode prog_19_method_4_code 6 = .ok (.lcmp, 1) := by decide +kernel
theorem d1_7 : decode prog_19_method_4_code 7 = .ok (.ifCond .lt 9, 3) := by decide +kernel
theorem d1_10 : decode prog_19_method_4_code 10 = .ok (.ldc2_w 30, 3) := by decide +kernel
theorem d1_13 : decode prog_19_method_4_code 13 = .ok (.goto 6, 3) := by decide +kernel
theorem d1_16 : decode prog_19_method_4_code 16 = .ok (.lload_n 0, 1) := by decide +kernel
theorem d1_17 : decode prog_19_method_4_code 17 = .ok (.lload_n 2, 1) := by decide +kernel
theorem d1_18 : decode prog_19_method_4_code 18 = .ok (.ladd, 1) := by decide +kernel
theorem d1_19 : decode prog_19_method_4_code 19 = .ok (.lreturn, 1) := by decide +kernel
theorem pn_0 : plainName "com/example/cohortbench/cohortbench/engine/SimTime" = true := by first | (simp [plainName, overriddenIn]; done) | decide +kernel
theorem ef_1 (m : MethodId) (q0 : Int64) (q1 : Int64) : entryFrame m #[(.long q0), (.long q1)] 4 = mkF m 0 #[.val (.long q0), .second, .val (.long q1), .second] [] := by first | (simp [entryFrame, mkF, argsToLocals, Value.category]; done) | rfl
def F1 (q0 : Int64) (q1 : Int64) : Int64 := (if q1 < ((9223372036854775807 : Int64) - q0) then (q0 + q1) else (9223372036854775807 : Int64))
def Q1 (Z : State) (q0 : Int64) (q1 : Int64) (h0 : Heap) (n0 : Nat) (v : Option Value) (h : Heap) (L : List Loc) : Prop := v = some (.long (F1 q0 q1)) ∧ Fr n0 L ∧ h = h0
set_option maxRecDepth 65536 in
set_option maxHeartbeats 40000000 in
theorem rm1 (l : Launch) (Z : State) (a0 : Array Value) (hw : ∀ d ∈ tables_1, d.before a0 Z = true) (ws : List Jvm.Cond) (q0 : Int64) (q1 : Int64) (h0 : Heap) (n0 : Nat) (Zn : n0 ≤ h0.size) :
    MetFree l (⟨"com/example/cohortbench/cohortbench/engine/SimTime", "plus", "(JJ)J"⟩ : MethodName) (head1 (Jvm.Cond.code (⟨"com/example/cohortbench/cohortbench/engine/SimTime", "plus", "(JJ)J"⟩ : MethodName) prog_19_method_4_code 4 (some .long) :: ws) ({ frames := 0, cells := 0, slots := 0, locals := 0 } : Room)) (fun a U => a = #[(.long q0), (.long q1)] ∧ Z.Warmed39 U.vm ∧ U.heap = h0) (fun _ _ _ _ _ => True) (fun _ U o U' => ∃ v L, o = .returned v ∧ Q1 Z q0 q1 h0 n0 v U'.heap L ∧ FrameEnd U o U' L ({ frames := 0, cells := 0, slots := 0, locals := 0 } : Room).cells ({ frames := 0, cells := 0, slots := 0, locals := 0 } : Room).slots) := by
  refine MetFree.of_bodySF (plainFor_of_name pn_0) hisR ?_
  intro p e s m args below meth c s₁ Bd hml0 hP hK
  obtain ⟨rfl, hZ, hh⟩ := hP
  have hx := Bd.exec
  have hby := Bd.bytes
  have hml : c.maxLocals = 4 := hml0
  have hown : s.vm.findClass "com/example/cohortbench/cohortbench/engine/SimTime" = some m.cls := findClass_of_methodNamed Bd.named
  have hnm := (name_of_methodNamed Bd.named Bd.method).1
  have X0 : Stand p l e ({ frames := 0, cells := 0, slots := 0, locals := 0 } : Room) s m #[(.long q0), (.long q1)] below meth c s₁ [] 0 0 := Stand.of_body Bd
  have e0 : s₁.heap = h0 := by rw [← hh, Bd.state]; rfl
  have N0 := Fr.nil n0
  have Kp := Keep.refl h0 []
  show Run p e below (Ends s (Q1 Z q0 q1 h0 n0) ({ frames := 0, cells := 0, slots := 0, locals := 0 } : Room).cells ({ frames := 0, cells := 0, slots := 0, locals := 0 } : Room).slots) _
  refine Run.st (S' := s₁.setTop (mkF m 0 #[.val (.long q0), .second, .val (.long q1), .second] [])) (fun t k => castTop (ef_1 m q0 q1) k) ?_
  refine Run.st (S' := s₁.setTop (mkF m 7 #[.val (.long q0), .second, .val (.long q1), .second] [(.int (lcmpW q1 ((9223372036854775807 : Int64) - q0)))])) (fun _ k => XS.lloadN X0.here hx rfl (hb hby d1_0) rfl (X0.ldc2Long hx hown (mvT hZ (hw _ (List.mem_of_getElem? (i := 5) rfl))) (g := (mkF m 1 #[.val (.long q0), .second, .val (.long q1), .second] [(.long q1)])) rfl (hb hby d1_1) _ (XS.lloadN X0.here hx rfl (hb hby d1_4) rfl (XS.lsub X0.here hx rfl (hb hby d1_5) rfl (XS.lcmp X0.here hx rfl (hb hby d1_6) rfl k))))) ?_
  by_cases hc7_1 : q1 < ((9223372036854775807 : Int64) - q0)
  · refine Run.st (S' := s₁.setTop (mkF m 19 #[.val (.long q0), .second, .val (.long q1), .second] [(.long (q0 + q1))])) (fun _ k => XS.ifYes X0.here hx rfl (pc0 := 7) (pc' := 16) rfl (hb hby d1_7) rfl (lcYes (Jvm.Free.XT.ll_lt_t hc7_1)) (by decide) (by decide) (XS.lloadN X0.here hx rfl (hb hby d1_16) rfl (XS.lloadN X0.here hx rfl (hb hby d1_17) rfl (XS.ladd X0.here hx rfl (hb hby d1_18) rfl k)))) ?_
    refine Run.out X0 hx Bd.notSynchronized Bd.returns rfl (Or.inr (Or.inl ⟨rfl, rfl, _, rfl⟩)) (hb hby d1_19) (by decide) (by decide) ?_
    rw [e0]
    exact ⟨by rw [F1, if_pos hc7_1], N0, rfl⟩
  · refine Run.st (S' := s₁.setTop (mkF m 19 #[.val (.long q0), .second, .val (.long q1), .second] [(.long (9223372036854775807 : Int64))])) (fun _ k => XS.ifNo X0.here hx rfl (hb hby d1_7) rfl (lcYes (Jvm.Free.XT.ll_lt_f hc7_1)) (X0.ldc2Long hx hown (mvT hZ (hw _ (List.mem_of_getElem? (i := 5) rfl))) (g := (mkF m 10 #[.val (.long q0), .second, .val (.long q1), .second] [])) rfl (hb hby d1_10) _ (XS.goto X0.here hx rfl (pc0 := 13) (pc' := 19) rfl (hb hby d1_13) (by decide) (by decide) k))) ?_
    refine Run.out X0 hx Bd.notSynchronized Bd.returns rfl (Or.inr (Or.inl ⟨rfl, rfl, _, rfl⟩)) (hb hby d1_19) (by decide) (by decide) ?_
    rw [e0]
    exact ⟨by rw [F1, if_neg hc7_1], N0, rfl⟩
theorem own_plus (a b : Int64) (ha : 0 ≤ a.toInt) (hb : 0 ≤ b.toInt) : ((a + b) < (0 : Int64) → F1 a b = (9223372036854775807 : Int64)) ∧ (¬ (a + b) < (0 : Int64) → F1 a b = (a + b)) := by
  have e1 := c_ladd a b
  have e2 := c_lsub (9223372036854775807 : Int64) a
  have e3 : (9223372036854775807 : Int64).toInt = 9223372036854775807 := by decide
  have e4 : (0 : Int64).toInt = 0 := by decide
  have r1 := rng64 a
  have r2 := rng64 b
  have r3 := rng64 (a + b)
  have r4 := rng64 ((9223372036854775807 : Int64) - a)
  unfold F1
  constructor <;> intro h
  · rw [Int64.lt_iff_toInt_lt] at h
    rw [if_neg]
    rw [Int64.lt_iff_toInt_lt]
    omega
  · rw [Int64.lt_iff_toInt_lt] at h
    by_cases q : b < ((9223372036854775807 : Int64) - a)
    · rw [if_pos q]
    · rw [if_neg q]
      rw [Int64.lt_iff_toInt_lt] at q
      apply Int64.toInt_inj.mp
      omega
theorem own_mask (q : Int64) : 0 ≤ (q &&& (9223372036854775807 : Int64)).toInt := by
  have := c_maskL q (9223372036854775807 : Int64) 63 (by decide) (by decide)
  omega
theorem own_base (a : Int64) (h : 0 ≤ a.toInt) : 0 ≤ ((9223372036854775807 : Int64) - a).toInt := by
  have e1 := c_lsub (9223372036854775807 : Int64) a
  have e2 : (9223372036854775807 : Int64).toInt = 9223372036854775807 := by decide
  have e3 := rng64 a
  have e4 := rng64 ((9223372036854775807 : Int64) - a)
  rw [e2] at e1
  generalize ((9223372036854775807 : Int64) - a).toInt = z at *
  omega
theorem own_sub (a b : Int64) (ha : 0 ≤ a.toInt) (hb : 0 ≤ b.toInt) (h : ¬ a < b) : 0 ≤ (a - b).toInt := by
  rw [Int64.lt_iff_toInt_lt] at h
  have e1 := c_lsub a b
  have e3 := rng64 a
  have e4 := rng64 (a - b)
  omega
theorem own_three (q : Int64) : 0 ≤ (q &&& (3 : Int64)).toInt := by
  have := c_maskL q (3 : Int64) 2 (by decide) (by decide)
  omega
theorem own_seven (q : Int64) : 0 ≤ (q &&& (7 : Int64)).toInt := by
  have := c_maskL q (7 : Int64) 3 (by decide) (by decide)
  omega
theorem own_nneg (q : Int64) (h : ¬ q < (0 : Int64)) : 0 ≤ q.toInt := by
  rw [Int64.lt_iff_toInt_lt] at h
  have : (0 : Int64).toInt = 0 := by decide
  omega
theorem own_max : 0 ≤ (9223372036854775807 : Int64).toInt := by decide
theorem pd_0 : parseMethodDescriptor "(JJ)J" = some ⟨[.long, .long], some .long⟩ := by decide +kernel
theorem pn_1 : plainName "com/example/cohortbench/cohortbench/engine/SimTimePlusPinLaw" = true := by first | (simp [plainName, overriddenIn]; done) | decide +kernel
theorem ef_0 (m : MethodId) (q0 : Int64) (q1 : Int64) (p2 : Int32) : entryFrame m #[(.long q0), (.long q1), (.int p2)] maxLocals = mkF m 0 #[.val (.long q0), .second, .val (.long q1), .second, .val (.int p2), .unset, .unset, .unset, .unset, .unset, .unset, .unset, .unset, .unset] [] := by first | (simp [entryFrame, mkF, argsToLocals, Value.category, maxLocals]; done) | rfl
def Q0 (Z : State) (q0 : Int64) (q1 : Int64) (p2 : Int32) (h0 : Heap) (n0 : Nat) (v : Option Value) (h : Heap) (L : List Loc) : Prop := v = some (.int 1) ∧ Fr n0 L
set_option maxRecDepth 65536 in
set_option maxHeartbeats 40000000 in
theorem rm0 (l : Launch) (Z : State) (a0 : Array Value) (hw : ∀ d ∈ tables_1, d.before a0 Z = true) (ws : List Jvm.Cond) (q0 : Int64) (q1 : Int64) (p2 : Int32) (h0 : Heap) (n0 : Nat) (Zn : n0 ≤ h0.size) :
    MetFree l x (head1 (Jvm.Cond.code x code maxLocals ret :: ws) room_1) (fun a U => a = #[(.long q0), (.long q1), (.int p2)] ∧ Z.Warmed39 U.vm ∧ U.heap = h0) (fun _ _ _ _ _ => True) (fun _ U o U' => ∃ v L, o = .returned v ∧ Q0 Z q0 q1 p2 h0 n0 v U'.heap L ∧ FrameEnd U o U' L room_1.cells room_1.slots) := by
  refine MetFree.of_bodySF (plainFor_of_name pn_1) hisR ?_
  intro p e s m args below meth c s₁ Bd hml0 hP hK
  obtain ⟨rfl, hZ, hh⟩ := hP
  have hx := Bd.exec
  have hby := Bd.bytes
  have hml : c.maxLocals = 14 := hml0
  have hown : s.vm.findClass "com/example/cohortbench/cohortbench/engine/SimTimePlusPinLaw" = some m.cls := findClass_of_methodNamed Bd.named
  have hnm := (name_of_methodNamed Bd.named Bd.method).1
  have X0 : Stand p l e room_1 s m #[(.long q0), (.long q1), (.int p2)] below meth c s₁ [] 0 0 := Stand.of_body Bd
  have e0 : s₁.heap = h0 := by rw [← hh, Bd.state]; rfl
  have N0 := Fr.nil n0
  have Kp := Keep.refl h0 []
  show Run p e below (Ends s (Q0 Z q0 q1 p2 h0 n0) room_1.cells room_1.slots) _
  refine Run.st (S' := s₁.setTop (mkF m 0 #[.val (.long q0), .second, .val (.long q1), .second, .val (.int p2), .unset, .unset, .unset, .unset, .unset, .unset, .unset, .unset, .unset] [])) (fun t k => castTop (ef_0 m q0 q1 p2) k) ?_
  refine Run.st (S' := s₁.setTop (mkF m 14 #[.val (.long q0), .second, .val (.long q1), .second, .val (.int p2), .val (.long (q0 &&& (9223372036854775807 : Int64))), .second, .val (.long (q1 &&& (9223372036854775807 : Int64))), .second, .unset, .unset, .unset, .unset, .unset] [])) (fun _ k => XS.lloadN X0.here hx rfl (hb hby at_0) rfl (X0.ldc2Long hx hown (mvT hZ (hw _ (List.mem_of_getElem? (i := 0) rfl))) (g := (mkF m 1 #[.val (.long q0), .second, .val (.long q1), .second, .val (.int p2), .unset, .unset, .unset, .unset, .unset, .unset, .unset, .unset, .unset] [(.long q0)])) rfl (hb hby at_1) _ (XS.land X0.here hx rfl (hb hby at_4) rfl (XS.lstore X0.here hx rfl (hb hby at_5) rfl (l' := #[.val (.long q0), .second, .val (.long q1), .second, .val (.int p2), .val (.long (q0 &&& (9223372036854775807 : Int64))), .second, .unset, .unset, .unset, .unset, .unset, .unset, .unset]) rfl (XS.lloadN X0.here hx rfl (hb hby at_7) rfl (X0.ldc2Long hx hown (mvT hZ (hw _ (List.mem_of_getElem? (i := 0) rfl))) (g := (mkF m 8 #[.val (.long q0), .second, .val (.long q1), .second, .val (.int p2), .val (.long (q0 &&& (9223372036854775807 : Int64))), .second, .unset, .unset, .unset, .unset, .unset, .unset, .unset] [(.long q1)])) rfl (hb hby at_8) _ (XS.land X0.here hx rfl (hb hby at_11) rfl (XS.lstore X0.here hx rfl (hb hby at_12) rfl (l' := #[.val (.long q0), .second, .val (.long q1), .second, .val (.int p2), .val (.long (q0 &&& (9223372036854775807 : Int64))), .second, .val (.long (q1 &&& (9223372036854775807 : Int64))), .second, .unset, .unset, .unset, .unset, .unset]) rfl k)))))))) ?_
  refine Run.st (S' := s₁.setTop (mkF m 23 #[.val (.long q0), .second, .val (.long q1), .second, .val (.int p2), .val (.long (q0 &&& (9223372036854775807 : Int64))), .second, .val (.long (q1 &&& (9223372036854775807 : Int64))), .second, .val (.int (p2 &&& (3 : Int32))), .unset, .unset, .unset, .unset] [(.int (1 : Int32)), (.int (p2 &&& (3 : Int32)))])) (fun _ k => XS.iload X0.here hx rfl (hb hby at_14) rfl (XS.iconst X0.here hx rfl (hb hby at_16) (XS.iand X0.here hx rfl (hb hby at_17) rfl (XS.istore X0.here hx rfl (hb hby at_18) rfl (l' := #[.val (.long q0), .second, .val (.long q1), .second, .val (.int p2), .val (.long (q0 &&& (9223372036854775807 : Int64))), .second, .val (.long (q1 &&& (9223372036854775807 : Int64))), .second, .val (.int (p2 &&& (3 : Int32))), .unset, .unset, .unset, .unset]) rfl (XS.iload X0.here hx rfl (hb hby at_20) rfl (XS.iconst X0.here hx rfl (hb hby at_22) k)))))) ?_
  by_cases hc23_1 : (p2 &&& (3 : Int32)) = (1 : Int32)
  · refine Run.st (S' := s₁.setTop (mkF m 39 #[.val (.long q0), .second, .val (.long q1), .second, .val (.int p2), .val (.long (q0 &&& (9223372036854775807 : Int64))), .second, .val (.long (q1 &&& (9223372036854775807 : Int64))), .second, .val (.int (p2 &&& (3 : Int32))), .val (.long ((9223372036854775807 : Int64) - (q0 &&& (9223372036854775807 : Int64)))), .second, .unset, .unset] [(.long (q1 &&& (3 : Int64)))])) (fun _ k => XS.icmpNo X0.here hx rfl (hb hby at_23) rfl (teq hc23_1).2 (X0.ldc2Long hx hown (mvT hZ (hw _ (List.mem_of_getElem? (i := 0) rfl))) (g := (mkF m 26 #[.val (.long q0), .second, .val (.long q1), .second, .val (.int p2), .val (.long (q0 &&& (9223372036854775807 : Int64))), .second, .val (.long (q1 &&& (9223372036854775807 : Int64))), .second, .val (.int (p2 &&& (3 : Int32))), .unset, .unset, .unset, .unset] [])) rfl (hb hby at_26) _ (XS.lload X0.here hx rfl (hb hby at_29) rfl (XS.lsub X0.here hx rfl (hb hby at_31) rfl (XS.lstore X0.here hx rfl (hb hby at_32) rfl (l' := #[.val (.long q0), .second, .val (.long q1), .second, .val (.int p2), .val (.long (q0 &&& (9223372036854775807 : Int64))), .second, .val (.long (q1 &&& (9223372036854775807 : Int64))), .second, .val (.int (p2 &&& (3 : Int32))), .val (.long ((9223372036854775807 : Int64) - (q0 &&& (9223372036854775807 : Int64)))), .second, .unset, .unset]) rfl (XS.lloadN X0.here hx rfl (hb hby at_34) rfl (X0.ldc2Long hx hown (mvT hZ (hw _ (List.mem_of_getElem? (i := 6) rfl))) (g := (mkF m 35 #[.val (.long q0), .second, .val (.long q1), .second, .val (.int p2), .val (.long (q0 &&& (9223372036854775807 : Int64))), .second, .val (.long (q1 &&& (9223372036854775807 : Int64))), .second, .val (.int (p2 &&& (3 : Int32))), .val (.long ((9223372036854775807 : Int64) - (q0 &&& (9223372036854775807 : Int64)))), .second, .unset, .unset] [(.long q1)])) rfl (hb hby at_35) _ (XS.land X0.here hx rfl (hb hby at_38) rfl k)))))))) ?_
    refine Run.st (S' := s₁.setTop (mkF m 46 #[.val (.long q0), .second, .val (.long q1), .second, .val (.int p2), .val (.long (q0 &&& (9223372036854775807 : Int64))), .second, .val (.long (q1 &&& (9223372036854775807 : Int64))), .second, .val (.int (p2 &&& (3 : Int32))), .val (.long ((9223372036854775807 : Int64) - (q0 &&& (9223372036854775807 : Int64)))), .second, .val (.long (q1 &&& (3 : Int64))), .second] [(.int (lcmpW ((9223372036854775807 : Int64) - (q0 &&& (9223372036854775807 : Int64))) (q1 &&& (3 : Int64))))])) (fun _ k => XS.lstore X0.here hx rfl (hb hby at_39) rfl (l' := #[.val (.long q0), .second, .val (.long q1), .second, .val (.int p2), .val (.long (q0 &&& (9223372036854775807 : Int64))), .second, .val (.long (q1 &&& (9223372036854775807 : Int64))), .second, .val (.int (p2 &&& (3 : Int32))), .val (.long ((9223372036854775807 : Int64) - (q0 &&& (9223372036854775807 : Int64)))), .second, .val (.long (q1 &&& (3 : Int64))), .second]) rfl (XS.lload X0.here hx rfl (hb hby at_41) rfl (XS.lload X0.here hx rfl (hb hby at_43) rfl (XS.lcmp X0.here hx rfl (hb hby at_45) rfl k)))) ?_
    by_cases hc46_2 : ((9223372036854775807 : Int64) - (q0 &&& (9223372036854775807 : Int64))) < (q1 &&& (3 : Int64))
    · refine Run.st (S' := s₁.setTop (mkF m 127 #[.val (.long q0), .second, .val (.long q1), .second, .val (.int p2), .val (.long (q0 &&& (9223372036854775807 : Int64))), .second, .val (.long ((9223372036854775807 : Int64) - (q0 &&& (9223372036854775807 : Int64)))), .second, .val (.int (p2 &&& (3 : Int32))), .val (.long ((9223372036854775807 : Int64) - (q0 &&& (9223372036854775807 : Int64)))), .second, .val (.long (q1 &&& (3 : Int64))), .second] [])) (fun _ k => XS.ifYes X0.here hx rfl (pc0 := 46) (pc' := 57) rfl (hb hby at_46) rfl (lcYes (Jvm.Free.XT.ll_lt_t hc46_2)) (by decide) (by decide) (XS.lload X0.here hx rfl (hb hby at_57) rfl (XS.lstore X0.here hx rfl (hb hby at_59) rfl (l' := #[.val (.long q0), .second, .val (.long q1), .second, .val (.int p2), .val (.long (q0 &&& (9223372036854775807 : Int64))), .second, .val (.long ((9223372036854775807 : Int64) - (q0 &&& (9223372036854775807 : Int64)))), .second, .val (.int (p2 &&& (3 : Int32))), .val (.long ((9223372036854775807 : Int64) - (q0 &&& (9223372036854775807 : Int64)))), .second, .val (.long (q1 &&& (3 : Int64))), .second]) rfl (XS.goto X0.here hx rfl (pc0 := 61) (pc' := 127) rfl (hb hby at_61) (by decide) (by decide) k)))) ?_
      have hT : 0 ≤ ((q0 &&& (9223372036854775807 : Int64))).toInt := (own_mask _)
      have hD : 0 ≤ (((9223372036854775807 : Int64) - (q0 &&& (9223372036854775807 : Int64)))).toInt := (own_base _ (own_mask _))
      refine Run.st (S' := s₁.setTop (mkF m 138 #[.val (.long q0), .second, .val (.long q1), .second, .val (.int p2), .val (.long (q0 &&& (9223372036854775807 : Int64))), .second, .val (.long ((9223372036854775807 : Int64) - (q0 &&& (9223372036854775807 : Int64)))), .second, .val (.int (p2 &&& (3 : Int32))), .val (.long ((q0 &&& (9223372036854775807 : Int64)) + ((9223372036854775807 : Int64) - (q0 &&& (9223372036854775807 : Int64))))), .second, .val (.long (q1 &&& (3 : Int64))), .second] [(.int (lcmpW ((q0 &&& (9223372036854775807 : Int64)) + ((9223372036854775807 : Int64) - (q0 &&& (9223372036854775807 : Int64)))) (0 : Int64)))])) (fun _ k => XS.lload X0.here hx rfl (hb hby at_127) rfl (XS.lload X0.here hx rfl (hb hby at_129) rfl (XS.ladd X0.here hx rfl (hb hby at_131) rfl (XS.lstore X0.here hx rfl (hb hby at_132) rfl (l' := #[.val (.long q0), .second, .val (.long q1), .second, .val (.int p2), .val (.long (q0 &&& (9223372036854775807 : Int64))), .second, .val (.long ((9223372036854775807 : Int64) - (q0 &&& (9223372036854775807 : Int64)))), .second, .val (.int (p2 &&& (3 : Int32))), .val (.long ((q0 &&& (9223372036854775807 : Int64)) + ((9223372036854775807 : Int64) - (q0 &&& (9223372036854775807 : Int64))))), .second, .val (.long (q1 &&& (3 : Int64))), .second]) rfl (XS.lload X0.here hx rfl (hb hby at_134) rfl (XS.lconst X0.here hx rfl (hb hby at_136) (XS.lcmp X0.here hx rfl (hb hby at_137) rfl k))))))) ?_
      by_cases hc138_3 : ((q0 &&& (9223372036854775807 : Int64)) + ((9223372036854775807 : Int64) - (q0 &&& (9223372036854775807 : Int64)))) < (0 : Int64)
      · refine Run.st (S' := s₁.setTop (mkF m 155 #[.val (.long q0), .second, .val (.long q1), .second, .val (.int p2), .val (.long (q0 &&& (9223372036854775807 : Int64))), .second, .val (.long ((9223372036854775807 : Int64) - (q0 &&& (9223372036854775807 : Int64)))), .second, .val (.int (p2 &&& (3 : Int32))), .val (.long ((q0 &&& (9223372036854775807 : Int64)) + ((9223372036854775807 : Int64) - (q0 &&& (9223372036854775807 : Int64))))), .second, .val (.long (9223372036854775807 : Int64)), .second] [(.long ((9223372036854775807 : Int64) - (q0 &&& (9223372036854775807 : Int64)))), (.long (q0 &&& (9223372036854775807 : Int64)))])) (fun _ k => XS.ifNo X0.here hx rfl (hb hby at_138) rfl (lcYes (Jvm.Free.XT.ll_ge_f hc138_3)) (X0.ldc2Long hx hown (mvT hZ (hw _ (List.mem_of_getElem? (i := 0) rfl))) (g := (mkF m 141 #[.val (.long q0), .second, .val (.long q1), .second, .val (.int p2), .val (.long (q0 &&& (9223372036854775807 : Int64))), .second, .val (.long ((9223372036854775807 : Int64) - (q0 &&& (9223372036854775807 : Int64)))), .second, .val (.int (p2 &&& (3 : Int32))), .val (.long ((q0 &&& (9223372036854775807 : Int64)) + ((9223372036854775807 : Int64) - (q0 &&& (9223372036854775807 : Int64))))), .second, .val (.long (q1 &&& (3 : Int64))), .second] [])) rfl (hb hby at_141) _ (XS.goto X0.here hx rfl (pc0 := 144) (pc' := 149) rfl (hb hby at_144) (by decide) (by decide) (XS.lstore X0.here hx rfl (hb hby at_149) rfl (l' := #[.val (.long q0), .second, .val (.long q1), .second, .val (.int p2), .val (.long (q0 &&& (9223372036854775807 : Int64))), .second, .val (.long ((9223372036854775807 : Int64) - (q0 &&& (9223372036854775807 : Int64)))), .second, .val (.int (p2 &&& (3 : Int32))), .val (.long ((q0 &&& (9223372036854775807 : Int64)) + ((9223372036854775807 : Int64) - (q0 &&& (9223372036854775807 : Int64))))), .second, .val (.long (9223372036854775807 : Int64)), .second]) rfl (XS.lload X0.here hx rfl (hb hby at_151) rfl (XS.lload X0.here hx rfl (hb hby at_153) rfl k)))))) ?_
        obtain ⟨_, _, ⟨T4, L4, k4, n4⟩, -, X4, ⟨Lc4, hQ4, l4, y4, z4⟩, st4⟩ := Jvm.LawKit.callS X0 hx (y := (⟨"com/example/cohortbench/cohortbench/engine/SimTime", "plus", "(JJ)J"⟩ : MethodName)) hown (mvT hZ (hw _ (List.mem_of_getElem? (i := 1) rfl))) (mvT hZ (hw _ (List.mem_of_getElem? (i := 2) rfl))) (mvT hZ (hw _ (List.mem_of_getElem? (i := 3) rfl))) (mvT hZ (hw _ (List.mem_of_getElem? (i := 4) rfl))) (by decide) (backOf (W := 0) (rm1 l Z a0 hw [] (q0 &&& (9223372036854775807 : Int64)) ((9223372036854775807 : Int64) - (q0 &&& (9223372036854775807 : Int64))) h0 n0 Zn ) hZ (hw _ (List.mem_of_getElem? (i := 4) rfl)) (hw _ (List.mem_of_getElem? (i := 3) rfl)) (by decide) (by decide)) (g := (mkF m 155 #[.val (.long q0), .second, .val (.long q1), .second, .val (.int p2), .val (.long (q0 &&& (9223372036854775807 : Int64))), .second, .val (.long ((9223372036854775807 : Int64) - (q0 &&& (9223372036854775807 : Int64)))), .second, .val (.int (p2 &&& (3 : Int32))), .val (.long ((q0 &&& (9223372036854775807 : Int64)) + ((9223372036854775807 : Int64) - (q0 &&& (9223372036854775807 : Int64))))), .second, .val (.long (9223372036854775807 : Int64)), .second] [(.long ((9223372036854775807 : Int64) - (q0 &&& (9223372036854775807 : Int64)))), (.long (q0 &&& (9223372036854775807 : Int64)))])) rfl (by rw [hml]; rfl) (argsL := [(.long (q0 &&& (9223372036854775807 : Int64))), (.long ((9223372036854775807 : Int64) - (q0 &&& (9223372036854775807 : Int64))))]) (rest := []) (lenOf pd_0 rfl) rfl (by show 2 * 0 + _ ≤ _; exact Nat.le_of_eq rfl) (hb hby at_155) (fun _ _ => ⟨rfl, e0, (by decide : 0 + 0 ≤ _), (by decide : 0 + 0 ≤ _)⟩)
        dsimp only [Pt.U, Pt.locs, Pt.cells, Pt.slots] at X4 l4 y4 z4 st4 hQ4
        subst l4 y4 z4
        obtain ⟨rfl, N4q, e4⟩ := hQ4
        have N4 := Fr.app N0 N4q
        refine Run.st (S' := T4.setTop (mkF m 169 #[.val (.long q0), .second, .val (.long q1), .second, .val (.int p2), .val (.long (q0 &&& (9223372036854775807 : Int64))), .second, .val (.long ((9223372036854775807 : Int64) - (q0 &&& (9223372036854775807 : Int64)))), .second, .val (.int (p2 &&& (3 : Int32))), .val (.long ((q0 &&& (9223372036854775807 : Int64)) + ((9223372036854775807 : Int64) - (q0 &&& (9223372036854775807 : Int64))))), .second, .val (.long (9223372036854775807 : Int64)), .second] [(.int (1 : Int32))])) (fun _ k => st4 _ (XS.lload X4.here hx rfl (hb hby at_158) rfl (XS.lcmp X4.here hx rfl (hb hby at_160) rfl (XS.ifNo X4.here hx rfl (hb hby at_161) rfl (lcYes (Jvm.Free.XT.ll_ne_f (show (F1 (q0 &&& (9223372036854775807 : Int64)) ((9223372036854775807 : Int64) - (q0 &&& (9223372036854775807 : Int64)))) = (9223372036854775807 : Int64) from ((own_plus _ _ hT hD).1 hc138_3)))) (XS.iconst X4.here hx rfl (hb hby at_164) (XS.goto X4.here hx rfl (pc0 := 165) (pc' := 169) rfl (hb hby at_165) (by decide) (by decide) k)))))) ?_
        refine Run.out X4 hx Bd.notSynchronized Bd.returns rfl (Or.inl ⟨rfl, by simp, _, rfl⟩) (hb hby at_169) (by decide) (by decide) ?_
        rw [e4]
        exact ⟨rfl, N4⟩
      · refine Run.st (S' := s₁.setTop (mkF m 155 #[.val (.long q0), .second, .val (.long q1), .second, .val (.int p2), .val (.long (q0 &&& (9223372036854775807 : Int64))), .second, .val (.long ((9223372036854775807 : Int64) - (q0 &&& (9223372036854775807 : Int64)))), .second, .val (.int (p2 &&& (3 : Int32))), .val (.long ((q0 &&& (9223372036854775807 : Int64)) + ((9223372036854775807 : Int64) - (q0 &&& (9223372036854775807 : Int64))))), .second, .val (.long ((q0 &&& (9223372036854775807 : Int64)) + ((9223372036854775807 : Int64) - (q0 &&& (9223372036854775807 : Int64))))), .second] [(.long ((9223372036854775807 : Int64) - (q0 &&& (9223372036854775807 : Int64)))), (.long (q0 &&& (9223372036854775807 : Int64)))])) (fun _ k => XS.ifYes X0.here hx rfl (pc0 := 138) (pc' := 147) rfl (hb hby at_138) rfl (lcYes (Jvm.Free.XT.ll_ge_t hc138_3)) (by decide) (by decide) (XS.lload X0.here hx rfl (hb hby at_147) rfl (XS.lstore X0.here hx rfl (hb hby at_149) rfl (l' := #[.val (.long q0), .second, .val (.long q1), .second, .val (.int p2), .val (.long (q0 &&& (9223372036854775807 : Int64))), .second, .val (.long ((9223372036854775807 : Int64) - (q0 &&& (9223372036854775807 : Int64)))), .second, .val (.int (p2 &&& (3 : Int32))), .val (.long ((q0 &&& (9223372036854775807 : Int64)) + ((9223372036854775807 : Int64) - (q0 &&& (9223372036854775807 : Int64))))), .second, .val (.long ((q0 &&& (9223372036854775807 : Int64)) + ((9223372036854775807 : Int64) - (q0 &&& (9223372036854775807 : Int64))))), .second]) rfl (XS.lload X0.here hx rfl (hb hby at_151) rfl (XS.lload X0.here hx rfl (hb hby at_153) rfl k))))) ?_
        obtain ⟨_, _, ⟨T5, L5, k5, n5⟩, -, X5, ⟨Lc5, hQ5, l5, y5, z5⟩, st5⟩ := Jvm.LawKit.callS X0 hx (y := (⟨"com/example/cohortbench/cohortbench/engine/SimTime", "plus", "(JJ)J"⟩ : MethodName)) hown (mvT hZ (hw _ (List.mem_of_getElem? (i := 1) rfl))) (mvT hZ (hw _ (List.mem_of_getElem? (i := 2) rfl))) (mvT hZ (hw _ (List.mem_of_getElem? (i := 3) rfl))) (mvT hZ (hw _ (List.mem_of_getElem? (i := 4) rfl))) (by decide) (backOf (W := 0) (rm1 l Z a0 hw [] (q0 &&& (9223372036854775807 : Int64)) ((9223372036854775807 : Int64) - (q0 &&& (9223372036854775807 : Int64))) h0 n0 Zn ) hZ (hw _ (List.mem_of_getElem? (i := 4) rfl)) (hw _ (List.mem_of_getElem? (i := 3) rfl)) (by decide) (by decide)) (g := (mkF m 155 #[.val (.long q0), .second, .val (.long q1), .second, .val (.int p2), .val (.long (q0 &&& (9223372036854775807 : Int64))), .second, .val (.long ((9223372036854775807 : Int64) - (q0 &&& (9223372036854775807 : Int64)))), .second, .val (.int (p2 &&& (3 : Int32))), .val (.long ((q0 &&& (9223372036854775807 : Int64)) + ((9223372036854775807 : Int64) - (q0 &&& (9223372036854775807 : Int64))))), .second, .val (.long ((q0 &&& (9223372036854775807 : Int64)) + ((9223372036854775807 : Int64) - (q0 &&& (9223372036854775807 : Int64))))), .second] [(.long ((9223372036854775807 : Int64) - (q0 &&& (9223372036854775807 : Int64)))), (.long (q0 &&& (9223372036854775807 : Int64)))])) rfl (by rw [hml]; rfl) (argsL := [(.long (q0 &&& (9223372036854775807 : Int64))), (.long ((9223372036854775807 : Int64) - (q0 &&& (9223372036854775807 : Int64))))]) (rest := []) (lenOf pd_0 rfl) rfl (by show 2 * 0 + _ ≤ _; exact Nat.le_of_eq rfl) (hb hby at_155) (fun _ _ => ⟨rfl, e0, (by decide : 0 + 0 ≤ _), (by decide : 0 + 0 ≤ _)⟩)
        dsimp only [Pt.U, Pt.locs, Pt.cells, Pt.slots] at X5 l5 y5 z5 st5 hQ5
        subst l5 y5 z5
        obtain ⟨rfl, N5q, e5⟩ := hQ5
        have N5 := Fr.app N0 N5q
        refine Run.st (S' := T5.setTop (mkF m 169 #[.val (.long q0), .second, .val (.long q1), .second, .val (.int p2), .val (.long (q0 &&& (9223372036854775807 : Int64))), .second, .val (.long ((9223372036854775807 : Int64) - (q0 &&& (9223372036854775807 : Int64)))), .second, .val (.int (p2 &&& (3 : Int32))), .val (.long ((q0 &&& (9223372036854775807 : Int64)) + ((9223372036854775807 : Int64) - (q0 &&& (9223372036854775807 : Int64))))), .second, .val (.long ((q0 &&& (9223372036854775807 : Int64)) + ((9223372036854775807 : Int64) - (q0 &&& (9223372036854775807 : Int64))))), .second] [(.int (1 : Int32))])) (fun _ k => st5 _ (XS.lload X5.here hx rfl (hb hby at_158) rfl (XS.lcmp X5.here hx rfl (hb hby at_160) rfl (XS.ifNo X5.here hx rfl (hb hby at_161) rfl (lcYes (Jvm.Free.XT.ll_ne_f (show (F1 (q0 &&& (9223372036854775807 : Int64)) ((9223372036854775807 : Int64) - (q0 &&& (9223372036854775807 : Int64)))) = ((q0 &&& (9223372036854775807 : Int64)) + ((9223372036854775807 : Int64) - (q0 &&& (9223372036854775807 : Int64)))) from ((own_plus _ _ hT hD).2 hc138_3)))) (XS.iconst X5.here hx rfl (hb hby at_164) (XS.goto X5.here hx rfl (pc0 := 165) (pc' := 169) rfl (hb hby at_165) (by decide) (by decide) k)))))) ?_
        refine Run.out X5 hx Bd.notSynchronized Bd.returns rfl (Or.inl ⟨rfl, by simp, _, rfl⟩) (hb hby at_169) (by decide) (by decide) ?_
        rw [e5]
        exact ⟨rfl, N5⟩
    · refine Run.st (S' := s₁.setTop (mkF m 127 #[.val (.long q0), .second, .val (.long q1), .second, .val (.int p2), .val (.long (q0 &&& (9223372036854775807 : Int64))), .second, .val (.long (((9223372036854775807 : Int64) - (q0 &&& (9223372036854775807 : Int64))) - (q1 &&& (3 : Int64)))), .second, .val (.int (p2 &&& (3 : Int32))), .val (.long ((9223372036854775807 : Int64) - (q0 &&& (9223372036854775807 : Int64)))), .second, .val (.long (q1 &&& (3 : Int64))), .second] [])) (fun _ k => XS.ifNo X0.here hx rfl (hb hby at_46) rfl (lcYes (Jvm.Free.XT.ll_lt_f hc46_2)) (XS.lload X0.here hx rfl (hb hby at_49) rfl (XS.lload X0.here hx rfl (hb hby at_51) rfl (XS.lsub X0.here hx rfl (hb hby at_53) rfl (XS.goto X0.here hx rfl (pc0 := 54) (pc' := 59) rfl (hb hby at_54) (by decide) (by decide) (XS.lstore X0.here hx rfl (hb hby at_59) rfl (l' := #[.val (.long q0), .second, .val (.long q1), .second, .val (.int p2), .val (.long (q0 &&& (9223372036854775807 : Int64))), .second, .val (.long (((9223372036854775807 : Int64) - (q0 &&& (9223372036854775807 : Int64))) - (q1 &&& (3 : Int64)))), .second, .val (.int (p2 &&& (3 : Int32))), .val (.long ((9223372036854775807 : Int64) - (q0 &&& (9223372036854775807 : Int64)))), .second, .val (.long (q1 &&& (3 : Int64))), .second]) rfl (XS.goto X0.here hx rfl (pc0 := 61) (pc' := 127) rfl (hb hby at_61) (by decide) (by decide) k))))))) ?_
      have hT : 0 ≤ ((q0 &&& (9223372036854775807 : Int64))).toInt := (own_mask _)
      have hD : 0 ≤ ((((9223372036854775807 : Int64) - (q0 &&& (9223372036854775807 : Int64))) - (q1 &&& (3 : Int64)))).toInt := (own_sub _ _ (own_base _ (own_mask _)) (own_three _) hc46_2)
      refine Run.st (S' := s₁.setTop (mkF m 138 #[.val (.long q0), .second, .val (.long q1), .second, .val (.int p2), .val (.long (q0 &&& (9223372036854775807 : Int64))), .second, .val (.long (((9223372036854775807 : Int64) - (q0 &&& (9223372036854775807 : Int64))) - (q1 &&& (3 : Int64)))), .second, .val (.int (p2 &&& (3 : Int32))), .val (.long ((q0 &&& (9223372036854775807 : Int64)) + (((9223372036854775807 : Int64) - (q0 &&& (9223372036854775807 : Int64))) - (q1 &&& (3 : Int64))))), .second, .val (.long (q1 &&& (3 : Int64))), .second] [(.int (lcmpW ((q0 &&& (9223372036854775807 : Int64)) + (((9223372036854775807 : Int64) - (q0 &&& (9223372036854775807 : Int64))) - (q1 &&& (3 : Int64)))) (0 : Int64)))])) (fun _ k => XS.lload X0.here hx rfl (hb hby at_127) rfl (XS.lload X0.here hx rfl (hb hby at_129) rfl (XS.ladd X0.here hx rfl (hb hby at_131) rfl (XS.lstore X0.here hx rfl (hb hby at_132) rfl (l' := #[.val (.long q0), .second, .val (.long q1), .second, .val (.int p2), .val (.long (q0 &&& (9223372036854775807 : Int64))), .second, .val (.long (((9223372036854775807 : Int64) - (q0 &&& (9223372036854775807 : Int64))) - (q1 &&& (3 : Int64)))), .second, .val (.int (p2 &&& (3 : Int32))), .val (.long ((q0 &&& (9223372036854775807 : Int64)) + (((9223372036854775807 : Int64) - (q0 &&& (9223372036854775807 : Int64))) - (q1 &&& (3 : Int64))))), .second, .val (.long (q1 &&& (3 : Int64))), .second]) rfl (XS.lload X0.here hx rfl (hb hby at_134) rfl (XS.lconst X0.here hx rfl (hb hby at_136) (XS.lcmp X0.here hx rfl (hb hby at_137) rfl k))))))) ?_
      by_cases hc138_6 : ((q0 &&& (9223372036854775807 : Int64)) + (((9223372036854775807 : Int64) - (q0 &&& (9223372036854775807 : Int64))) - (q1 &&& (3 : Int64)))) < (0 : Int64)
      · refine Run.st (S' := s₁.setTop (mkF m 155 #[.val (.long q0), .second, .val (.long q1), .second, .val (.int p2), .val (.long (q0 &&& (9223372036854775807 : Int64))), .second, .val (.long (((9223372036854775807 : Int64) - (q0 &&& (9223372036854775807 : Int64))) - (q1 &&& (3 : Int64)))), .second, .val (.int (p2 &&& (3 : Int32))), .val (.long ((q0 &&& (9223372036854775807 : Int64)) + (((9223372036854775807 : Int64) - (q0 &&& (9223372036854775807 : Int64))) - (q1 &&& (3 : Int64))))), .second, .val (.long (9223372036854775807 : Int64)), .second] [(.long (((9223372036854775807 : Int64) - (q0 &&& (9223372036854775807 : Int64))) - (q1 &&& (3 : Int64)))), (.long (q0 &&& (9223372036854775807 : Int64)))])) (fun _ k => XS.ifNo X0.here hx rfl (hb hby at_138) rfl (lcYes (Jvm.Free.XT.ll_ge_f hc138_6)) (X0.ldc2Long hx hown (mvT hZ (hw _ (List.mem_of_getElem? (i := 0) rfl))) (g := (mkF m 141 #[.val (.long q0), .second, .val (.long q1), .second, .val (.int p2), .val (.long (q0 &&& (9223372036854775807 : Int64))), .second, .val (.long (((9223372036854775807 : Int64) - (q0 &&& (9223372036854775807 : Int64))) - (q1 &&& (3 : Int64)))), .second, .val (.int (p2 &&& (3 : Int32))), .val (.long ((q0 &&& (9223372036854775807 : Int64)) + (((9223372036854775807 : Int64) - (q0 &&& (9223372036854775807 : Int64))) - (q1 &&& (3 : Int64))))), .second, .val (.long (q1 &&& (3 : Int64))), .second] [])) rfl (hb hby at_141) _ (XS.goto X0.here hx rfl (pc0 := 144) (pc' := 149) rfl (hb hby at_144) (by decide) (by decide) (XS.lstore X0.here hx rfl (hb hby at_149) rfl (l' := #[.val (.long q0), .second, .val (.long q1), .second, .val (.int p2), .val (.long (q0 &&& (9223372036854775807 : Int64))), .second, .val (.long (((9223372036854775807 : Int64) - (q0 &&& (9223372036854775807 : Int64))) - (q1 &&& (3 : Int64)))), .second, .val (.int (p2 &&& (3 : Int32))), .val (.long ((q0 &&& (9223372036854775807 : Int64)) + (((9223372036854775807 : Int64) - (q0 &&& (9223372036854775807 : Int64))) - (q1 &&& (3 : Int64))))), .second, .val (.long (9223372036854775807 : Int64)), .second]) rfl (XS.lload X0.here hx rfl (hb hby at_151) rfl (XS.lload X0.here hx rfl (hb hby at_153) rfl k)))))) ?_
        obtain ⟨_, _, ⟨T7, L7, k7, n7⟩, -, X7, ⟨Lc7, hQ7, l7, y7, z7⟩, st7⟩ := Jvm.LawKit.callS X0 hx (y := (⟨"com/example/cohortbench/cohortbench/engine/SimTime", "plus", "(JJ)J"⟩ : MethodName)) hown (mvT hZ (hw _ (List.mem_of_getElem? (i := 1) rfl))) (mvT hZ (hw _ (List.mem_of_getElem? (i := 2) rfl))) (mvT hZ (hw _ (List.mem_of_getElem? (i := 3) rfl))) (mvT hZ (hw _ (List.mem_of_getElem? (i := 4) rfl))) (by decide) (backOf (W := 0) (rm1 l Z a0 hw [] (q0 &&& (9223372036854775807 : Int64)) (((9223372036854775807 : Int64) - (q0 &&& (9223372036854775807 : Int64))) - (q1 &&& (3 : Int64))) h0 n0 Zn ) hZ (hw _ (List.mem_of_getElem? (i := 4) rfl)) (hw _ (List.mem_of_getElem? (i := 3) rfl)) (by decide) (by decide)) (g := (mkF m 155 #[.val (.long q0), .second, .val (.long q1), .second, .val (.int p2), .val (.long (q0 &&& (9223372036854775807 : Int64))), .second, .val (.long (((9223372036854775807 : Int64) - (q0 &&& (9223372036854775807 : Int64))) - (q1 &&& (3 : Int64)))), .second, .val (.int (p2 &&& (3 : Int32))), .val (.long ((q0 &&& (9223372036854775807 : Int64)) + (((9223372036854775807 : Int64) - (q0 &&& (9223372036854775807 : Int64))) - (q1 &&& (3 : Int64))))), .second, .val (.long (9223372036854775807 : Int64)), .second] [(.long (((9223372036854775807 : Int64) - (q0 &&& (9223372036854775807 : Int64))) - (q1 &&& (3 : Int64)))), (.long (q0 &&& (9223372036854775807 : Int64)))])) rfl (by rw [hml]; rfl) (argsL := [(.long (q0 &&& (9223372036854775807 : Int64))), (.long (((9223372036854775807 : Int64) - (q0 &&& (9223372036854775807 : Int64))) - (q1 &&& (3 : Int64))))]) (rest := []) (lenOf pd_0 rfl) rfl (by show 2 * 0 + _ ≤ _; exact Nat.le_of_eq rfl) (hb hby at_155) (fun _ _ => ⟨rfl, e0, (by decide : 0 + 0 ≤ _), (by decide : 0 + 0 ≤ _)⟩)
        dsimp only [Pt.U, Pt.locs, Pt.cells, Pt.slots] at X7 l7 y7 z7 st7 hQ7
        subst l7 y7 z7
        obtain ⟨rfl, N7q, e7⟩ := hQ7
        have N7 := Fr.app N0 N7q
        refine Run.st (S' := T7.setTop (mkF m 169 #[.val (.long q0), .second, .val (.long q1), .second, .val (.int p2), .val (.long (q0 &&& (9223372036854775807 : Int64))), .second, .val (.long (((9223372036854775807 : Int64) - (q0 &&& (9223372036854775807 : Int64))) - (q1 &&& (3 : Int64)))), .second, .val (.int (p2 &&& (3 : Int32))), .val (.long ((q0 &&& (9223372036854775807 : Int64)) + (((9223372036854775807 : Int64) - (q0 &&& (9223372036854775807 : Int64))) - (q1 &&& (3 : Int64))))), .second, .val (.long (9223372036854775807 : Int64)), .second] [(.int (1 : Int32))])) (fun _ k => st7 _ (XS.lload X7.here hx rfl (hb hby at_158) rfl (XS.lcmp X7.here hx rfl (hb hby at_160) rfl (XS.ifNo X7.here hx rfl (hb hby at_161) rfl (lcYes (Jvm.Free.XT.ll_ne_f (show (F1 (q0 &&& (9223372036854775807 : Int64)) (((9223372036854775807 : Int64) - (q0 &&& (9223372036854775807 : Int64))) - (q1 &&& (3 : Int64)))) = (9223372036854775807 : Int64) from ((own_plus _ _ hT hD).1 hc138_6)))) (XS.iconst X7.here hx rfl (hb hby at_164) (XS.goto X7.here hx rfl (pc0 := 165) (pc' := 169) rfl (hb hby at_165) (by decide) (by decide) k)))))) ?_
        refine Run.out X7 hx Bd.notSynchronized Bd.returns rfl (Or.inl ⟨rfl, by simp, _, rfl⟩) (hb hby at_169) (by decide) (by decide) ?_
        rw [e7]
        exact ⟨rfl, N7⟩
      · refine Run.st (S' := s₁.setTop (mkF m 155 #[.val (.long q0), .second, .val (.long q1), .second, .val (.int p2), .val (.long (q0 &&& (9223372036854775807 : Int64))), .second, .val (.long (((9223372036854775807 : Int64) - (q0 &&& (9223372036854775807 : Int64))) - (q1 &&& (3 : Int64)))), .second, .val (.int (p2 &&& (3 : Int32))), .val (.long ((q0 &&& (9223372036854775807 : Int64)) + (((9223372036854775807 : Int64) - (q0 &&& (9223372036854775807 : Int64))) - (q1 &&& (3 : Int64))))), .second, .val (.long ((q0 &&& (9223372036854775807 : Int64)) + (((9223372036854775807 : Int64) - (q0 &&& (9223372036854775807 : Int64))) - (q1 &&& (3 : Int64))))), .second] [(.long (((9223372036854775807 : Int64) - (q0 &&& (9223372036854775807 : Int64))) - (q1 &&& (3 : Int64)))), (.long (q0 &&& (9223372036854775807 : Int64)))])) (fun _ k => XS.ifYes X0.here hx rfl (pc0 := 138) (pc' := 147) rfl (hb hby at_138) rfl (lcYes (Jvm.Free.XT.ll_ge_t hc138_6)) (by decide) (by decide) (XS.lload X0.here hx rfl (hb hby at_147) rfl (XS.lstore X0.here hx rfl (hb hby at_149) rfl (l' := #[.val (.long q0), .second, .val (.long q1), .second, .val (.int p2), .val (.long (q0 &&& (9223372036854775807 : Int64))), .second, .val (.long (((9223372036854775807 : Int64) - (q0 &&& (9223372036854775807 : Int64))) - (q1 &&& (3 : Int64)))), .second, .val (.int (p2 &&& (3 : Int32))), .val (.long ((q0 &&& (9223372036854775807 : Int64)) + (((9223372036854775807 : Int64) - (q0 &&& (9223372036854775807 : Int64))) - (q1 &&& (3 : Int64))))), .second, .val (.long ((q0 &&& (9223372036854775807 : Int64)) + (((9223372036854775807 : Int64) - (q0 &&& (9223372036854775807 : Int64))) - (q1 &&& (3 : Int64))))), .second]) rfl (XS.lload X0.here hx rfl (hb hby at_151) rfl (XS.lload X0.here hx rfl (hb hby at_153) rfl k))))) ?_
        obtain ⟨_, _, ⟨T8, L8, k8, n8⟩, -, X8, ⟨Lc8, hQ8, l8, y8, z8⟩, st8⟩ := Jvm.LawKit.callS X0 hx (y := (⟨"com/example/cohortbench/cohortbench/engine/SimTime", "plus", "(JJ)J"⟩ : MethodName)) hown (mvT hZ (hw _ (List.mem_of_getElem? (i := 1) rfl))) (mvT hZ (hw _ (List.mem_of_getElem? (i := 2) rfl))) (mvT hZ (hw _ (List.mem_of_getElem? (i := 3) rfl))) (mvT hZ (hw _ (List.mem_of_getElem? (i := 4) rfl))) (by decide) (backOf (W := 0) (rm1 l Z a0 hw [] (q0 &&& (9223372036854775807 : Int64)) (((9223372036854775807 : Int64) - (q0 &&& (9223372036854775807 : Int64))) - (q1 &&& (3 : Int64))) h0 n0 Zn ) hZ (hw _ (List.mem_of_getElem? (i := 4) rfl)) (hw _ (List.mem_of_getElem? (i := 3) rfl)) (by decide) (by decide)) (g := (mkF m 155 #[.val (.long q0), .second, .val (.long q1), .second, .val (.int p2), .val (.long (q0 &&& (9223372036854775807 : Int64))), .second, .val (.long (((9223372036854775807 : Int64) - (q0 &&& (9223372036854775807 : Int64))) - (q1 &&& (3 : Int64)))), .second, .val (.int (p2 &&& (3 : Int32))), .val (.long ((q0 &&& (9223372036854775807 : Int64)) + (((9223372036854775807 : Int64) - (q0 &&& (9223372036854775807 : Int64))) - (q1 &&& (3 : Int64))))), .second, .val (.long ((q0 &&& (9223372036854775807 : Int64)) + (((9223372036854775807 : Int64) - (q0 &&& (9223372036854775807 : Int64))) - (q1 &&& (3 : Int64))))), .second] [(.long (((9223372036854775807 : Int64) - (q0 &&& (9223372036854775807 : Int64))) - (q1 &&& (3 : Int64)))), (.long (q0 &&& (9223372036854775807 : Int64)))])) rfl (by rw [hml]; rfl) (argsL := [(.long (q0 &&& (9223372036854775807 : Int64))), (.long (((9223372036854775807 : Int64) - (q0 &&& (9223372036854775807 : Int64))) - (q1 &&& (3 : Int64))))]) (rest := []) (lenOf pd_0 rfl) rfl (by show 2 * 0 + _ ≤ _; exact Nat.le_of_eq rfl) (hb hby at_155) (fun _ _ => ⟨rfl, e0, (by decide : 0 + 0 ≤ _), (by decide : 0 + 0 ≤ _)⟩)
        dsimp only [Pt.U, Pt.locs, Pt.cells, Pt.slots] at X8 l8 y8 z8 st8 hQ8
        subst l8 y8 z8
        obtain ⟨rfl, N8q, e8⟩ := hQ8
        have N8 := Fr.app N0 N8q
        refine Run.st (S' := T8.setTop (mkF m 169 #[.val (.long q0), .second, .val (.long q1), .second, .val (.int p2), .val (.long (q0 &&& (9223372036854775807 : Int64))), .second, .val (.long (((9223372036854775807 : Int64) - (q0 &&& (9223372036854775807 : Int64))) - (q1 &&& (3 : Int64)))), .second, .val (.int (p2 &&& (3 : Int32))), .val (.long ((q0 &&& (9223372036854775807 : Int64)) + (((9223372036854775807 : Int64) - (q0 &&& (9223372036854775807 : Int64))) - (q1 &&& (3 : Int64))))), .second, .val (.long ((q0 &&& (9223372036854775807 : Int64)) + (((9223372036854775807 : Int64) - (q0 &&& (9223372036854775807 : Int64))) - (q1 &&& (3 : Int64))))), .second] [(.int (1 : Int32))])) (fun _ k => st8 _ (XS.lload X8.here hx rfl (hb hby at_158) rfl (XS.lcmp X8.here hx rfl (hb hby at_160) rfl (XS.ifNo X8.here hx rfl (hb hby at_161) rfl (lcYes (Jvm.Free.XT.ll_ne_f (show (F1 (q0 &&& (9223372036854775807 : Int64)) (((9223372036854775807 : Int64) - (q0 &&& (9223372036854775807 : Int64))) - (q1 &&& (3 : Int64)))) = ((q0 &&& (9223372036854775807 : Int64)) + (((9223372036854775807 : Int64) - (q0 &&& (9223372036854775807 : Int64))) - (q1 &&& (3 : Int64)))) from ((own_plus _ _ hT hD).2 hc138_6)))) (XS.iconst X8.here hx rfl (hb hby at_164) (XS.goto X8.here hx rfl (pc0 := 165) (pc' := 169) rfl (hb hby at_165) (by decide) (by decide) k)))))) ?_
        refine Run.out X8 hx Bd.notSynchronized Bd.returns rfl (Or.inl ⟨rfl, by simp, _, rfl⟩) (hb hby at_169) (by decide) (by decide) ?_
        rw [e8]
        exact ⟨rfl, N8⟩
  · refine Run.st (S' := s₁.setTop (mkF m 67 #[.val (.long q0), .second, .val (.long q1), .second, .val (.int p2), .val (.long (q0 &&& (9223372036854775807 : Int64))), .second, .val (.long (q1 &&& (9223372036854775807 : Int64))), .second, .val (.int (p2 &&& (3 : Int32))), .unset, .unset, .unset, .unset] [(.int (2 : Int32)), (.int (p2 &&& (3 : Int32)))])) (fun _ k => XS.icmpYes X0.here hx rfl (pc0 := 23) (pc' := 64) rfl (hb hby at_23) rfl (feq hc23_1).2 (by decide) (by decide) (XS.iload X0.here hx rfl (hb hby at_64) rfl (XS.iconst X0.here hx rfl (hb hby at_66) k))) ?_
    by_cases hc67_9 : (p2 &&& (3 : Int32)) = (2 : Int32)
    · refine Run.st (S' := s₁.setTop (mkF m 84 #[.val (.long q0), .second, .val (.long q1), .second, .val (.int p2), .val (.long (q0 &&& (9223372036854775807 : Int64))), .second, .val (.long (q1 &&& (9223372036854775807 : Int64))), .second, .val (.int (p2 &&& (3 : Int32))), .val (.long ((9223372036854775807 : Int64) - (q0 &&& (9223372036854775807 : Int64)))), .second, .unset, .unset] [(.long (3 : Int64)), (.long q1), (.long ((9223372036854775807 : Int64) - (q0 &&& (9223372036854775807 : Int64))))])) (fun _ k => XS.icmpNo X0.here hx rfl (hb hby at_67) rfl (teq hc67_9).2 (X0.ldc2Long hx hown (mvT hZ (hw _ (List.mem_of_getElem? (i := 0) rfl))) (g := (mkF m 70 #[.val (.long q0), .second, .val (.long q1), .second, .val (.int p2), .val (.long (q0 &&& (9223372036854775807 : Int64))), .second, .val (.long (q1 &&& (9223372036854775807 : Int64))), .second, .val (.int (p2 &&& (3 : Int32))), .unset, .unset, .unset, .unset] [])) rfl (hb hby at_70) _ (XS.lload X0.here hx rfl (hb hby at_73) rfl (XS.lsub X0.here hx rfl (hb hby at_75) rfl (XS.lstore X0.here hx rfl (hb hby at_76) rfl (l' := #[.val (.long q0), .second, .val (.long q1), .second, .val (.int p2), .val (.long (q0 &&& (9223372036854775807 : Int64))), .second, .val (.long (q1 &&& (9223372036854775807 : Int64))), .second, .val (.int (p2 &&& (3 : Int32))), .val (.long ((9223372036854775807 : Int64) - (q0 &&& (9223372036854775807 : Int64)))), .second, .unset, .unset]) rfl (XS.lload X0.here hx rfl (hb hby at_78) rfl (XS.lloadN X0.here hx rfl (hb hby at_80) rfl (X0.ldc2Long hx hown (mvT hZ (hw _ (List.mem_of_getElem? (i := 6) rfl))) (g := (mkF m 81 #[.val (.long q0), .second, .val (.long q1), .second, .val (.int p2), .val (.long (q0 &&& (9223372036854775807 : Int64))), .second, .val (.long (q1 &&& (9223372036854775807 : Int64))), .second, .val (.int (p2 &&& (3 : Int32))), .val (.long ((9223372036854775807 : Int64) - (q0 &&& (9223372036854775807 : Int64)))), .second, .unset, .unset] [(.long q1), (.long ((9223372036854775807 : Int64) - (q0 &&& (9223372036854775807 : Int64))))])) rfl (hb hby at_81) _ k)))))))) ?_
      refine Run.st (S' := s₁.setTop (mkF m 92 #[.val (.long q0), .second, .val (.long q1), .second, .val (.int p2), .val (.long (q0 &&& (9223372036854775807 : Int64))), .second, .val (.long (((9223372036854775807 : Int64) - (q0 &&& (9223372036854775807 : Int64))) + (q1 &&& (3 : Int64)))), .second, .val (.int (p2 &&& (3 : Int32))), .val (.long ((9223372036854775807 : Int64) - (q0 &&& (9223372036854775807 : Int64)))), .second, .unset, .unset] [(.int (lcmpW (((9223372036854775807 : Int64) - (q0 &&& (9223372036854775807 : Int64))) + (q1 &&& (3 : Int64))) (0 : Int64)))])) (fun _ k => XS.land X0.here hx rfl (hb hby at_84) rfl (XS.ladd X0.here hx rfl (hb hby at_85) rfl (XS.lstore X0.here hx rfl (hb hby at_86) rfl (l' := #[.val (.long q0), .second, .val (.long q1), .second, .val (.int p2), .val (.long (q0 &&& (9223372036854775807 : Int64))), .second, .val (.long (((9223372036854775807 : Int64) - (q0 &&& (9223372036854775807 : Int64))) + (q1 &&& (3 : Int64)))), .second, .val (.int (p2 &&& (3 : Int32))), .val (.long ((9223372036854775807 : Int64) - (q0 &&& (9223372036854775807 : Int64)))), .second, .unset, .unset]) rfl (XS.lload X0.here hx rfl (hb hby at_88) rfl (XS.lconst X0.here hx rfl (hb hby at_90) (XS.lcmp X0.here hx rfl (hb hby at_91) rfl k)))))) ?_
      by_cases hc92_10 : (((9223372036854775807 : Int64) - (q0 &&& (9223372036854775807 : Int64))) + (q1 &&& (3 : Int64))) < (0 : Int64)
      · refine Run.st (S' := s₁.setTop (mkF m 127 #[.val (.long q0), .second, .val (.long q1), .second, .val (.int p2), .val (.long (q0 &&& (9223372036854775807 : Int64))), .second, .val (.long (9223372036854775807 : Int64)), .second, .val (.int (p2 &&& (3 : Int32))), .val (.long ((9223372036854775807 : Int64) - (q0 &&& (9223372036854775807 : Int64)))), .second, .unset, .unset] [])) (fun _ k => XS.ifNo X0.here hx rfl (hb hby at_92) rfl (lcYes (Jvm.Free.XT.ll_ge_f hc92_10)) (X0.ldc2Long hx hown (mvT hZ (hw _ (List.mem_of_getElem? (i := 0) rfl))) (g := (mkF m 95 #[.val (.long q0), .second, .val (.long q1), .second, .val (.int p2), .val (.long (q0 &&& (9223372036854775807 : Int64))), .second, .val (.long (((9223372036854775807 : Int64) - (q0 &&& (9223372036854775807 : Int64))) + (q1 &&& (3 : Int64)))), .second, .val (.int (p2 &&& (3 : Int32))), .val (.long ((9223372036854775807 : Int64) - (q0 &&& (9223372036854775807 : Int64)))), .second, .unset, .unset] [])) rfl (hb hby at_95) _ (XS.lstore X0.here hx rfl (hb hby at_98) rfl (l' := #[.val (.long q0), .second, .val (.long q1), .second, .val (.int p2), .val (.long (q0 &&& (9223372036854775807 : Int64))), .second, .val (.long (9223372036854775807 : Int64)), .second, .val (.int (p2 &&& (3 : Int32))), .val (.long ((9223372036854775807 : Int64) - (q0 &&& (9223372036854775807 : Int64)))), .second, .unset, .unset]) rfl (XS.goto X0.here hx rfl (pc0 := 100) (pc' := 127) rfl (hb hby at_100) (by decide) (by decide) k)))) ?_
        have hT : 0 ≤ ((q0 &&& (9223372036854775807 : Int64))).toInt := (own_mask _)
        have hD : 0 ≤ ((9223372036854775807 : Int64)).toInt := own_max
        refine Run.st (S' := s₁.setTop (mkF m 138 #[.val (.long q0), .second, .val (.long q1), .second, .val (.int p2), .val (.long (q0 &&& (9223372036854775807 : Int64))), .second, .val (.long (9223372036854775807 : Int64)), .second, .val (.int (p2 &&& (3 : Int32))), .val (.long ((q0 &&& (9223372036854775807 : Int64)) + (9223372036854775807 : Int64))), .second, .unset, .unset] [(.int (lcmpW ((q0 &&& (9223372036854775807 : Int64)) + (9223372036854775807 : Int64)) (0 : Int64)))])) (fun _ k => XS.lload X0.here hx rfl (hb hby at_127) rfl (XS.lload X0.here hx rfl (hb hby at_129) rfl (XS.ladd X0.here hx rfl (hb hby at_131) rfl (XS.lstore X0.here hx rfl (hb hby at_132) rfl (l' := #[.val (.long q0), .second, .val (.long q1), .second, .val (.int p2), .val (.long (q0 &&& (9223372036854775807 : Int64))), .second, .val (.long (9223372036854775807 : Int64)), .second, .val (.int (p2 &&& (3 : Int32))), .val (.long ((q0 &&& (9223372036854775807 : Int64)) + (9223372036854775807 : Int64))), .second, .unset, .unset]) rfl (XS.lload X0.here hx rfl (hb hby at_134) rfl (XS.lconst X0.here hx rfl (hb hby at_136) (XS.lcmp X0.here hx rfl (hb hby at_137) rfl k))))))) ?_
        by_cases hc138_11 : ((q0 &&& (9223372036854775807 : Int64)) + (9223372036854775807 : Int64)) < (0 : Int64)
        · refine Run.st (S' := s₁.setTop (mkF m 155 #[.val (.long q0), .second, .val (.long q1), .second, .val (.int p2), .val (.long (q0 &&& (9223372036854775807 : Int64))), .second, .val (.long (9223372036854775807 : Int64)), .second, .val (.int (p2 &&& (3 : Int32))), .val (.long ((q0 &&& (9223372036854775807 : Int64)) + (9223372036854775807 : Int64))), .second, .val (.long (9223372036854775807 : Int64)), .second] [(.long (9223372036854775807 : Int64)), (.long (q0 &&& (9223372036854775807 : Int64)))])) (fun _ k => XS.ifNo X0.here hx rfl (hb hby at_138) rfl (lcYes (Jvm.Free.XT.ll_ge_f hc138_11)) (X0.ldc2Long hx hown (mvT hZ (hw _ (List.mem_of_getElem? (i := 0) rfl))) (g := (mkF m 141 #[.val (.long q0), .second, .val (.long q1), .second, .val (.int p2), .val (.long (q0 &&& (9223372036854775807 : Int64))), .second, .val (.long (9223372036854775807 : Int64)), .second, .val (.int (p2 &&& (3 : Int32))), .val (.long ((q0 &&& (9223372036854775807 : Int64)) + (9223372036854775807 : Int64))), .second, .unset, .unset] [])) rfl (hb hby at_141) _ (XS.goto X0.here hx rfl (pc0 := 144) (pc' := 149) rfl (hb hby at_144) (by decide) (by decide) (XS.lstore X0.here hx rfl (hb hby at_149) rfl (l' := #[.val (.long q0), .second, .val (.long q1), .second, .val (.int p2), .val (.long (q0 &&& (9223372036854775807 : Int64))), .second, .val (.long (9223372036854775807 : Int64)), .second, .val (.int (p2 &&& (3 : Int32))), .val (.long ((q0 &&& (9223372036854775807 : Int64)) + (9223372036854775807 : Int64))), .second, .val (.long (9223372036854775807 : Int64)), .second]) rfl (XS.lload X0.here hx rfl (hb hby at_151) rfl (XS.lload X0.here hx rfl (hb hby at_153) rfl k)))))) ?_
          obtain ⟨_, _, ⟨T12, L12, k12, n12⟩, -, X12, ⟨Lc12, hQ12, l12, y12, z12⟩, st12⟩ := Jvm.LawKit.callS X0 hx (y := (⟨"com/example/cohortbench/cohortbench/engine/SimTime", "plus", "(JJ)J"⟩ : MethodName)) hown (mvT hZ (hw _ (List.mem_of_getElem? (i := 1) rfl))) (mvT hZ (hw _ (List.mem_of_getElem? (i := 2) rfl))) (mvT hZ (hw _ (List.mem_of_getElem? (i := 3) rfl))) (mvT hZ (hw _ (List.mem_of_getElem? (i := 4) rfl))) (by decide) (backOf (W := 0) (rm1 l Z a0 hw [] (q0 &&& (9223372036854775807 : Int64)) (9223372036854775807 : Int64) h0 n0 Zn ) hZ (hw _ (List.mem_of_getElem? (i := 4) rfl)) (hw _ (List.mem_of_getElem? (i := 3) rfl)) (by decide) (by decide)) (g := (mkF m 155 #[.val (.long q0), .second, .val (.long q1), .second, .val (.int p2), .val (.long (q0 &&& (9223372036854775807 : Int64))), .second, .val (.long (9223372036854775807 : Int64)), .second, .val (.int (p2 &&& (3 : Int32))), .val (.long ((q0 &&& (9223372036854775807 : Int64)) + (9223372036854775807 : Int64))), .second, .val (.long (9223372036854775807 : Int64)), .second] [(.long (9223372036854775807 : Int64)), (.long (q0 &&& (9223372036854775807 : Int64)))])) rfl (by rw [hml]; rfl) (argsL := [(.long (q0 &&& (9223372036854775807 : Int64))), (.long (9223372036854775807 : Int64))]) (rest := []) (lenOf pd_0 rfl) rfl (by show 2 * 0 + _ ≤ _; exact Nat.le_of_eq rfl) (hb hby at_155) (fun _ _ => ⟨rfl, e0, (by decide : 0 + 0 ≤ _), (by decide : 0 + 0 ≤ _)⟩)
          dsimp only [Pt.U, Pt.locs, Pt.cells, Pt.slots] at X12 l12 y12 z12 st12 hQ12
          subst l12 y12 z12
          obtain ⟨rfl, N12q, e12⟩ := hQ12
          have N12 := Fr.app N0 N12q
          refine Run.st (S' := T12.setTop (mkF m 169 #[.val (.long q0), .second, .val (.long q1), .second, .val (.int p2), .val (.long (q0 &&& (9223372036854775807 : Int64))), .second, .val (.long (9223372036854775807 : Int64)), .second, .val (.int (p2 &&& (3 : Int32))), .val (.long ((q0 &&& (9223372036854775807 : Int64)) + (9223372036854775807 : Int64))), .second, .val (.long (9223372036854775807 : Int64)), .second] [(.int (1 : Int32))])) (fun _ k => st12 _ (XS.lload X12.here hx rfl (hb hby at_158) rfl (XS.lcmp X12.here hx rfl (hb hby at_160) rfl (XS.ifNo X12.here hx rfl (hb hby at_161) rfl (lcYes (Jvm.Free.XT.ll_ne_f (show (F1 (q0 &&& (9223372036854775807 : Int64)) (9223372036854775807 : Int64)) = (9223372036854775807 : Int64) from ((own_plus _ _ hT hD).1 hc138_11)))) (XS.iconst X12.here hx rfl (hb hby at_164) (XS.goto X12.here hx rfl (pc0 := 165) (pc' := 169) rfl (hb hby at_165) (by decide) (by decide) k)))))) ?_
          refine Run.out X12 hx Bd.notSynchronized Bd.returns rfl (Or.inl ⟨rfl, by simp, _, rfl⟩) (hb hby at_169) (by decide) (by decide) ?_
          rw [e12]
          exact ⟨rfl, N12⟩
        · refine Run.st (S' := s₁.setTop (mkF m 155 #[.val (.long q0), .second, .val (.long q1), .second, .val (.int p2), .val (.long (q0 &&& (9223372036854775807 : Int64))), .second, .val (.long (9223372036854775807 : Int64)), .second, .val (.int (p2 &&& (3 : Int32))), .val (.long ((q0 &&& (9223372036854775807 : Int64)) + (9223372036854775807 : Int64))), .second, .val (.long ((q0 &&& (9223372036854775807 : Int64)) + (9223372036854775807 : Int64))), .second] [(.long (9223372036854775807 : Int64)), (.long (q0 &&& (9223372036854775807 : Int64)))])) (fun _ k => XS.ifYes X0.here hx rfl (pc0 := 138) (pc' := 147) rfl (hb hby at_138) rfl (lcYes (Jvm.Free.XT.ll_ge_t hc138_11)) (by decide) (by decide) (XS.lload X0.here hx rfl (hb hby at_147) rfl (XS.lstore X0.here hx rfl (hb hby at_149) rfl (l' := #[.val (.long q0), .second, .val (.long q1), .second, .val (.int p2), .val (.long (q0 &&& (9223372036854775807 : Int64))), .second, .val (.long (9223372036854775807 : Int64)), .second, .val (.int (p2 &&& (3 : Int32))), .val (.long ((q0 &&& (9223372036854775807 : Int64)) + (9223372036854775807 : Int64))), .second, .val (.long ((q0 &&& (9223372036854775807 : Int64)) + (9223372036854775807 : Int64))), .second]) rfl (XS.lload X0.here hx rfl (hb hby at_151) rfl (XS.lload X0.here hx rfl (hb hby at_153) rfl k))))) ?_
          obtain ⟨_, _, ⟨T13, L13, k13, n13⟩, -, X13, ⟨Lc13, hQ13, l13, y13, z13⟩, st13⟩ := Jvm.LawKit.callS X0 hx (y := (⟨"com/example/cohortbench/cohortbench/engine/SimTime", "plus", "(JJ)J"⟩ : MethodName)) hown (mvT hZ (hw _ (List.mem_of_getElem? (i := 1) rfl))) (mvT hZ (hw _ (List.mem_of_getElem? (i := 2) rfl))) (mvT hZ (hw _ (List.mem_of_getElem? (i := 3) rfl))) (mvT hZ (hw _ (List.mem_of_getElem? (i := 4) rfl))) (by decide) (backOf (W := 0) (rm1 l Z a0 hw [] (q0 &&& (9223372036854775807 : Int64)) (9223372036854775807 : Int64) h0 n0 Zn ) hZ (hw _ (List.mem_of_getElem? (i := 4) rfl)) (hw _ (List.mem_of_getElem? (i := 3) rfl)) (by decide) (by decide)) (g := (mkF m 155 #[.val (.long q0), .second, .val (.long q1), .second, .val (.int p2), .val (.long (q0 &&& (9223372036854775807 : Int64))), .second, .val (.long (9223372036854775807 : Int64)), .second, .val (.int (p2 &&& (3 : Int32))), .val (.long ((q0 &&& (9223372036854775807 : Int64)) + (9223372036854775807 : Int64))), .second, .val (.long ((q0 &&& (9223372036854775807 : Int64)) + (9223372036854775807 : Int64))), .second] [(.long (9223372036854775807 : Int64)), (.long (q0 &&& (9223372036854775807 : Int64)))])) rfl (by rw [hml]; rfl) (argsL := [(.long (q0 &&& (9223372036854775807 : Int64))), (.long (9223372036854775807 : Int64))]) (rest := []) (lenOf pd_0 rfl) rfl (by show 2 * 0 + _ ≤ _; exact Nat.le_of_eq rfl) (hb hby at_155) (fun _ _ => ⟨rfl, e0, (by decide : 0 + 0 ≤ _), (by decide : 0 + 0 ≤ _)⟩)
          dsimp only [Pt.U, Pt.locs, Pt.cells, Pt.slots] at X13 l13 y13 z13 st13 hQ13
          subst l13 y13 z13
          obtain ⟨rfl, N13q, e13⟩ := hQ13
          have N13 := Fr.app N0 N13q
          refine Run.st (S' := T13.setTop (mkF m 169 #[.val (.long q0), .second, .val (.long q1), .second, .val (.int p2), .val (.long (q0 &&& (9223372036854775807 : Int64))), .second, .val (.long (9223372036854775807 : Int64)), .second, .val (.int (p2 &&& (3 : Int32))), .val (.long ((q0 &&& (9223372036854775807 : Int64)) + (9223372036854775807 : Int64))), .second, .val (.long ((q0 &&& (9223372036854775807 : Int64)) + (9223372036854775807 : Int64))), .second] [(.int (1 : Int32))])) (fun _ k => st13 _ (XS.lload X13.here hx rfl (hb hby at_158) rfl (XS.lcmp X13.here hx rfl (hb hby at_160) rfl (XS.ifNo X13.here hx rfl (hb hby at_161) rfl (lcYes (Jvm.Free.XT.ll_ne_f (show (F1 (q0 &&& (9223372036854775807 : Int64)) (9223372036854775807 : Int64)) = ((q0 &&& (9223372036854775807 : Int64)) + (9223372036854775807 : Int64)) from ((own_plus _ _ hT hD).2 hc138_11)))) (XS.iconst X13.here hx rfl (hb hby at_164) (XS.goto X13.here hx rfl (pc0 := 165) (pc' := 169) rfl (hb hby at_165) (by decide) (by decide) k)))))) ?_
          refine Run.out X13 hx Bd.notSynchronized Bd.returns rfl (Or.inl ⟨rfl, by simp, _, rfl⟩) (hb hby at_169) (by decide) (by decide) ?_
          rw [e13]
          exact ⟨rfl, N13⟩
      · refine Run.st (S' := s₁.setTop (mkF m 127 #[.val (.long q0), .second, .val (.long q1), .second, .val (.int p2), .val (.long (q0 &&& (9223372036854775807 : Int64))), .second, .val (.long (((9223372036854775807 : Int64) - (q0 &&& (9223372036854775807 : Int64))) + (q1 &&& (3 : Int64)))), .second, .val (.int (p2 &&& (3 : Int32))), .val (.long ((9223372036854775807 : Int64) - (q0 &&& (9223372036854775807 : Int64)))), .second, .unset, .unset] [])) (fun _ k => XS.ifYes X0.here hx rfl (pc0 := 92) (pc' := 100) rfl (hb hby at_92) rfl (lcYes (Jvm.Free.XT.ll_ge_t hc92_10)) (by decide) (by decide) (XS.goto X0.here hx rfl (pc0 := 100) (pc' := 127) rfl (hb hby at_100) (by decide) (by decide) k)) ?_
        have hT : 0 ≤ ((q0 &&& (9223372036854775807 : Int64))).toInt := (own_mask _)
        have hD : 0 ≤ ((((9223372036854775807 : Int64) - (q0 &&& (9223372036854775807 : Int64))) + (q1 &&& (3 : Int64)))).toInt := (own_nneg _ hc92_10)
        refine Run.st (S' := s₁.setTop (mkF m 138 #[.val (.long q0), .second, .val (.long q1), .second, .val (.int p2), .val (.long (q0 &&& (9223372036854775807 : Int64))), .second, .val (.long (((9223372036854775807 : Int64) - (q0 &&& (9223372036854775807 : Int64))) + (q1 &&& (3 : Int64)))), .second, .val (.int (p2 &&& (3 : Int32))), .val (.long ((q0 &&& (9223372036854775807 : Int64)) + (((9223372036854775807 : Int64) - (q0 &&& (9223372036854775807 : Int64))) + (q1 &&& (3 : Int64))))), .second, .unset, .unset] [(.int (lcmpW ((q0 &&& (9223372036854775807 : Int64)) + (((9223372036854775807 : Int64) - (q0 &&& (9223372036854775807 : Int64))) + (q1 &&& (3 : Int64)))) (0 : Int64)))])) (fun _ k => XS.lload X0.here hx rfl (hb hby at_127) rfl (XS.lload X0.here hx rfl (hb hby at_129) rfl (XS.ladd X0.here hx rfl (hb hby at_131) rfl (XS.lstore X0.here hx rfl (hb hby at_132) rfl (l' := #[.val (.long q0), .second, .val (.long q1), .second, .val (.int p2), .val (.long (q0 &&& (9223372036854775807 : Int64))), .second, .val (.long (((9223372036854775807 : Int64) - (q0 &&& (9223372036854775807 : Int64))) + (q1 &&& (3 : Int64)))), .second, .val (.int (p2 &&& (3 : Int32))), .val (.long ((q0 &&& (9223372036854775807 : Int64)) + (((9223372036854775807 : Int64) - (q0 &&& (9223372036854775807 : Int64))) + (q1 &&& (3 : Int64))))), .second, .unset, .unset]) rfl (XS.lload X0.here hx rfl (hb hby at_134) rfl (XS.lconst X0.here hx rfl (hb hby at_136) (XS.lcmp X0.here hx rfl (hb hby at_137) rfl k))))))) ?_
        by_cases hc138_14 : ((q0 &&& (9223372036854775807 : Int64)) + (((9223372036854775807 : Int64) - (q0 &&& (9223372036854775807 : Int64))) + (q1 &&& (3 : Int64)))) < (0 : Int64)
        · refine Run.st (S' := s₁.setTop (mkF m 155 #[.val (.long q0), .second, .val (.long q1), .second, .val (.int p2), .val (.long (q0 &&& (9223372036854775807 : Int64))), .second, .val (.long (((9223372036854775807 : Int64) - (q0 &&& (9223372036854775807 : Int64))) + (q1 &&& (3 : Int64)))), .second, .val (.int (p2 &&& (3 : Int32))), .val (.long ((q0 &&& (9223372036854775807 : Int64)) + (((9223372036854775807 : Int64) - (q0 &&& (9223372036854775807 : Int64))) + (q1 &&& (3 : Int64))))), .second, .val (.long (9223372036854775807 : Int64)), .second] [(.long (((9223372036854775807 : Int64) - (q0 &&& (9223372036854775807 : Int64))) + (q1 &&& (3 : Int64)))), (.long (q0 &&& (9223372036854775807 : Int64)))])) (fun _ k => XS.ifNo X0.here hx rfl (hb hby at_138) rfl (lcYes (Jvm.Free.XT.ll_ge_f hc138_14)) (X0.ldc2Long hx hown (mvT hZ (hw _ (List.mem_of_getElem? (i := 0) rfl))) (g := (mkF m 141 #[.val (.long q0), .second, .val (.long q1), .second, .val (.int p2), .val (.long (q0 &&& (9223372036854775807 : Int64))), .second, .val (.long (((9223372036854775807 : Int64) - (q0 &&& (9223372036854775807 : Int64))) + (q1 &&& (3 : Int64)))), .second, .val (.int (p2 &&& (3 : Int32))), .val (.long ((q0 &&& (9223372036854775807 : Int64)) + (((9223372036854775807 : Int64) - (q0 &&& (9223372036854775807 : Int64))) + (q1 &&& (3 : Int64))))), .second, .unset, .unset] [])) rfl (hb hby at_141) _ (XS.goto X0.here hx rfl (pc0 := 144) (pc' := 149) rfl (hb hby at_144) (by decide) (by decide) (XS.lstore X0.here hx rfl (hb hby at_149) rfl (l' := #[.val (.long q0), .second, .val (.long q1), .second, .val (.int p2), .val (.long (q0 &&& (9223372036854775807 : Int64))), .second, .val (.long (((9223372036854775807 : Int64) - (q0 &&& (9223372036854775807 : Int64))) + (q1 &&& (3 : Int64)))), .second, .val (.int (p2 &&& (3 : Int32))), .val (.long ((q0 &&& (9223372036854775807 : Int64)) + (((9223372036854775807 : Int64) - (q0 &&& (9223372036854775807 : Int64))) + (q1 &&& (3 : Int64))))), .second, .val (.long (9223372036854775807 : Int64)), .second]) rfl (XS.lload X0.here hx rfl (hb hby at_151) rfl (XS.lload X0.here hx rfl (hb hby at_153) rfl k)))))) ?_
          obtain ⟨_, _, ⟨T15, L15, k15, n15⟩, -, X15, ⟨Lc15, hQ15, l15, y15, z15⟩, st15⟩ := Jvm.LawKit.callS X0 hx (y := (⟨"com/example/cohortbench/cohortbench/engine/SimTime", "plus", "(JJ)J"⟩ : MethodName)) hown (mvT hZ (hw _ (List.mem_of_getElem? (i := 1) rfl))) (mvT hZ (hw _ (List.mem_of_getElem? (i := 2) rfl))) (mvT hZ (hw _ (List.mem_of_getElem? (i := 3) rfl))) (mvT hZ (hw _ (List.mem_of_getElem? (i := 4) rfl))) (by decide) (backOf (W := 0) (rm1 l Z a0 hw [] (q0 &&& (9223372036854775807 : Int64)) (((9223372036854775807 : Int64) - (q0 &&& (9223372036854775807 : Int64))) + (q1 &&& (3 : Int64))) h0 n0 Zn ) hZ (hw _ (List.mem_of_getElem? (i := 4) rfl)) (hw _ (List.mem_of_getElem? (i := 3) rfl)) (by decide) (by decide)) (g := (mkF m 155 #[.val (.long q0), .second, .val (.long q1), .second, .val (.int p2), .val (.long (q0 &&& (9223372036854775807 : Int64))), .second, .val (.long (((9223372036854775807 : Int64) - (q0 &&& (9223372036854775807 : Int64))) + (q1 &&& (3 : Int64)))), .second, .val (.int (p2 &&& (3 : Int32))), .val (.long ((q0 &&& (9223372036854775807 : Int64)) + (((9223372036854775807 : Int64) - (q0 &&& (9223372036854775807 : Int64))) + (q1 &&& (3 : Int64))))), .second, .val (.long (9223372036854775807 : Int64)), .second] [(.long (((9223372036854775807 : Int64) - (q0 &&& (9223372036854775807 : Int64))) + (q1 &&& (3 : Int64)))), (.long (q0 &&& (9223372036854775807 : Int64)))])) rfl (by rw [hml]; rfl) (argsL := [(.long (q0 &&& (9223372036854775807 : Int64))), (.long (((9223372036854775807 : Int64) - (q0 &&& (9223372036854775807 : Int64))) + (q1 &&& (3 : Int64))))]) (rest := []) (lenOf pd_0 rfl) rfl (by show 2 * 0 + _ ≤ _; exact Nat.le_of_eq rfl) (hb hby at_155) (fun _ _ => ⟨rfl, e0, (by decide : 0 + 0 ≤ _), (by decide : 0 + 0 ≤ _)⟩)
          dsimp only [Pt.U, Pt.locs, Pt.cells, Pt.slots] at X15 l15 y15 z15 st15 hQ15
          subst l15 y15 z15
          obtain ⟨rfl, N15q, e15⟩ := hQ15
          have N15 := Fr.app N0 N15q
          refine Run.st (S' := T15.setTop (mkF m 169 #[.val (.long q0), .second, .val (.long q1), .second, .val (.int p2), .val (.long (q0 &&& (9223372036854775807 : Int64))), .second, .val (.long (((9223372036854775807 : Int64) - (q0 &&& (9223372036854775807 : Int64))) + (q1 &&& (3 : Int64)))), .second, .val (.int (p2 &&& (3 : Int32))), .val (.long ((q0 &&& (9223372036854775807 : Int64)) + (((9223372036854775807 : Int64) - (q0 &&& (9223372036854775807 : Int64))) + (q1 &&& (3 : Int64))))), .second, .val (.long (9223372036854775807 : Int64)), .second] [(.int (1 : Int32))])) (fun _ k => st15 _ (XS.lload X15.here hx rfl (hb hby at_158) rfl (XS.lcmp X15.here hx rfl (hb hby at_160) rfl (XS.ifNo X15.here hx rfl (hb hby at_161) rfl (lcYes (Jvm.Free.XT.ll_ne_f (show (F1 (q0 &&& (9223372036854775807 : Int64)) (((9223372036854775807 : Int64) - (q0 &&& (9223372036854775807 : Int64))) + (q1 &&& (3 : Int64)))) = (9223372036854775807 : Int64) from ((own_plus _ _ hT hD).1 hc138_14)))) (XS.iconst X15.here hx rfl (hb hby at_164) (XS.goto X15.here hx rfl (pc0 := 165) (pc' := 169) rfl (hb hby at_165) (by decide) (by decide) k)))))) ?_
          refine Run.out X15 hx Bd.notSynchronized Bd.returns rfl (Or.inl ⟨rfl, by simp, _, rfl⟩) (hb hby at_169) (by decide) (by decide) ?_
          rw [e15]
          exact ⟨rfl, N15⟩
        · refine Run.st (S' := s₁.setTop (mkF m 155 #[.val (.long q0), .second, .val (.long q1), .second, .val (.int p2), .val (.long (q0 &&& (9223372036854775807 : Int64))), .second, .val (.long (((9223372036854775807 : Int64) - (q0 &&& (9223372036854775807 : Int64))) + (q1 &&& (3 : Int64)))), .second, .val (.int (p2 &&& (3 : Int32))), .val (.long ((q0 &&& (9223372036854775807 : Int64)) + (((9223372036854775807 : Int64) - (q0 &&& (9223372036854775807 : Int64))) + (q1 &&& (3 : Int64))))), .second, .val (.long ((q0 &&& (9223372036854775807 : Int64)) + (((9223372036854775807 : Int64) - (q0 &&& (9223372036854775807 : Int64))) + (q1 &&& (3 : Int64))))), .second] [(.long (((9223372036854775807 : Int64) - (q0 &&& (9223372036854775807 : Int64))) + (q1 &&& (3 : Int64)))), (.long (q0 &&& (9223372036854775807 : Int64)))])) (fun _ k => XS.ifYes X0.here hx rfl (pc0 := 138) (pc' := 147) rfl (hb hby at_138) rfl (lcYes (Jvm.Free.XT.ll_ge_t hc138_14)) (by decide) (by decide) (XS.lload X0.here hx rfl (hb hby at_147) rfl (XS.lstore X0.here hx rfl (hb hby at_149) rfl (l' := #[.val (.long q0), .second, .val (.long q1), .second, .val (.int p2), .val (.long (q0 &&& (9223372036854775807 : Int64))), .second, .val (.long (((9223372036854775807 : Int64) - (q0 &&& (9223372036854775807 : Int64))) + (q1 &&& (3 : Int64)))), .second, .val (.int (p2 &&& (3 : Int32))), .val (.long ((q0 &&& (9223372036854775807 : Int64)) + (((9223372036854775807 : Int64) - (q0 &&& (9223372036854775807 : Int64))) + (q1 &&& (3 : Int64))))), .second, .val (.long ((q0 &&& (9223372036854775807 : Int64)) + (((9223372036854775807 : Int64) - (q0 &&& (9223372036854775807 : Int64))) + (q1 &&& (3 : Int64))))), .second]) rfl (XS.lload X0.here hx rfl (hb hby at_151) rfl (XS.lload X0.here hx rfl (hb hby at_153) rfl k))))) ?_
          obtain ⟨_, _, ⟨T16, L16, k16, n16⟩, -, X16, ⟨Lc16, hQ16, l16, y16, z16⟩, st16⟩ := Jvm.LawKit.callS X0 hx (y := (⟨"com/example/cohortbench/cohortbench/engine/SimTime", "plus", "(JJ)J"⟩ : MethodName)) hown (mvT hZ (hw _ (List.mem_of_getElem? (i := 1) rfl))) (mvT hZ (hw _ (List.mem_of_getElem? (i := 2) rfl))) (mvT hZ (hw _ (List.mem_of_getElem? (i := 3) rfl))) (mvT hZ (hw _ (List.mem_of_getElem? (i := 4) rfl))) (by decide) (backOf (W := 0) (rm1 l Z a0 hw [] (q0 &&& (9223372036854775807 : Int64)) (((9223372036854775807 : Int64) - (q0 &&& (9223372036854775807 : Int64))) + (q1 &&& (3 : Int64))) h0 n0 Zn ) hZ (hw _ (List.mem_of_getElem? (i := 4) rfl)) (hw _ (List.mem_of_getElem? (i := 3) rfl)) (by decide) (by decide)) (g := (mkF m 155 #[.val (.long q0), .second, .val (.long q1), .second, .val (.int p2), .val (.long (q0 &&& (9223372036854775807 : Int64))), .second, .val (.long (((9223372036854775807 : Int64) - (q0 &&& (9223372036854775807 : Int64))) + (q1 &&& (3 : Int64)))), .second, .val (.int (p2 &&& (3 : Int32))), .val (.long ((q0 &&& (9223372036854775807 : Int64)) + (((9223372036854775807 : Int64) - (q0 &&& (9223372036854775807 : Int64))) + (q1 &&& (3 : Int64))))), .second, .val (.long ((q0 &&& (9223372036854775807 : Int64)) + (((9223372036854775807 : Int64) - (q0 &&& (9223372036854775807 : Int64))) + (q1 &&& (3 : Int64))))), .second] [(.long (((9223372036854775807 : Int64) - (q0 &&& (9223372036854775807 : Int64))) + (q1 &&& (3 : Int64)))), (.long (q0 &&& (9223372036854775807 : Int64)))])) rfl (by rw [hml]; rfl) (argsL := [(.long (q0 &&& (9223372036854775807 : Int64))), (.long (((9223372036854775807 : Int64) - (q0 &&& (9223372036854775807 : Int64))) + (q1 &&& (3 : Int64))))]) (rest := []) (lenOf pd_0 rfl) rfl (by show 2 * 0 + _ ≤ _; exact Nat.le_of_eq rfl) (hb hby at_155) (fun _ _ => ⟨rfl, e0, (by decide : 0 + 0 ≤ _), (by decide : 0 + 0 ≤ _)⟩)
          dsimp only [Pt.U, Pt.locs, Pt.cells, Pt.slots] at X16 l16 y16 z16 st16 hQ16
          subst l16 y16 z16
          obtain ⟨rfl, N16q, e16⟩ := hQ16
          have N16 := Fr.app N0 N16q
          refine Run.st (S' := T16.setTop (mkF m 169 #[.val (.long q0), .second, .val (.long q1), .second, .val (.int p2), .val (.long (q0 &&& (9223372036854775807 : Int64))), .second, .val (.long (((9223372036854775807 : Int64) - (q0 &&& (9223372036854775807 : Int64))) + (q1 &&& (3 : Int64)))), .second, .val (.int (p2 &&& (3 : Int32))), .val (.long ((q0 &&& (9223372036854775807 : Int64)) + (((9223372036854775807 : Int64) - (q0 &&& (9223372036854775807 : Int64))) + (q1 &&& (3 : Int64))))), .second, .val (.long ((q0 &&& (9223372036854775807 : Int64)) + (((9223372036854775807 : Int64) - (q0 &&& (9223372036854775807 : Int64))) + (q1 &&& (3 : Int64))))), .second] [(.int (1 : Int32))])) (fun _ k => st16 _ (XS.lload X16.here hx rfl (hb hby at_158) rfl (XS.lcmp X16.here hx rfl (hb hby at_160) rfl (XS.ifNo X16.here hx rfl (hb hby at_161) rfl (lcYes (Jvm.Free.XT.ll_ne_f (show (F1 (q0 &&& (9223372036854775807 : Int64)) (((9223372036854775807 : Int64) - (q0 &&& (9223372036854775807 : Int64))) + (q1 &&& (3 : Int64)))) = ((q0 &&& (9223372036854775807 : Int64)) + (((9223372036854775807 : Int64) - (q0 &&& (9223372036854775807 : Int64))) + (q1 &&& (3 : Int64)))) from ((own_plus _ _ hT hD).2 hc138_14)))) (XS.iconst X16.here hx rfl (hb hby at_164) (XS.goto X16.here hx rfl (pc0 := 165) (pc' := 169) rfl (hb hby at_165) (by decide) (by decide) k)))))) ?_
          refine Run.out X16 hx Bd.notSynchronized Bd.returns rfl (Or.inl ⟨rfl, by simp, _, rfl⟩) (hb hby at_169) (by decide) (by decide) ?_
          rw [e16]
          exact ⟨rfl, N16⟩
    · refine Run.st (S' := s₁.setTop (mkF m 106 #[.val (.long q0), .second, .val (.long q1), .second, .val (.int p2), .val (.long (q0 &&& (9223372036854775807 : Int64))), .second, .val (.long (q1 &&& (9223372036854775807 : Int64))), .second, .val (.int (p2 &&& (3 : Int32))), .unset, .unset, .unset, .unset] [(.int (3 : Int32)), (.int (p2 &&& (3 : Int32)))])) (fun _ k => XS.icmpYes X0.here hx rfl (pc0 := 67) (pc' := 103) rfl (hb hby at_67) rfl (feq hc67_9).2 (by decide) (by decide) (XS.iload X0.here hx rfl (hb hby at_103) rfl (XS.iconst X0.here hx rfl (hb hby at_105) k))) ?_
      by_cases hc106_17 : (p2 &&& (3 : Int32)) = (3 : Int32)
      · refine Run.st (S' := s₁.setTop (mkF m 121 #[.val (.long q0), .second, .val (.long q1), .second, .val (.int p2), .val (.long ((9223372036854775807 : Int64) - (q0 &&& (3 : Int64)))), .second, .val (.long (q1 &&& (9223372036854775807 : Int64))), .second, .val (.int (p2 &&& (3 : Int32))), .unset, .unset, .unset, .unset] [(.long q1)])) (fun _ k => XS.icmpNo X0.here hx rfl (hb hby at_106) rfl (teq hc106_17).2 (X0.ldc2Long hx hown (mvT hZ (hw _ (List.mem_of_getElem? (i := 0) rfl))) (g := (mkF m 109 #[.val (.long q0), .second, .val (.long q1), .second, .val (.int p2), .val (.long (q0 &&& (9223372036854775807 : Int64))), .second, .val (.long (q1 &&& (9223372036854775807 : Int64))), .second, .val (.int (p2 &&& (3 : Int32))), .unset, .unset, .unset, .unset] [])) rfl (hb hby at_109) _ (XS.lloadN X0.here hx rfl (hb hby at_112) rfl (X0.ldc2Long hx hown (mvT hZ (hw _ (List.mem_of_getElem? (i := 6) rfl))) (g := (mkF m 113 #[.val (.long q0), .second, .val (.long q1), .second, .val (.int p2), .val (.long (q0 &&& (9223372036854775807 : Int64))), .second, .val (.long (q1 &&& (9223372036854775807 : Int64))), .second, .val (.int (p2 &&& (3 : Int32))), .unset, .unset, .unset, .unset] [(.long q0), (.long (9223372036854775807 : Int64))])) rfl (hb hby at_113) _ (XS.land X0.here hx rfl (hb hby at_116) rfl (XS.lsub X0.here hx rfl (hb hby at_117) rfl (XS.lstore X0.here hx rfl (hb hby at_118) rfl (l' := #[.val (.long q0), .second, .val (.long q1), .second, .val (.int p2), .val (.long ((9223372036854775807 : Int64) - (q0 &&& (3 : Int64)))), .second, .val (.long (q1 &&& (9223372036854775807 : Int64))), .second, .val (.int (p2 &&& (3 : Int32))), .unset, .unset, .unset, .unset]) rfl (XS.lloadN X0.here hx rfl (hb hby at_120) rfl k)))))))) ?_
        refine Run.st (S' := s₁.setTop (mkF m 127 #[.val (.long q0), .second, .val (.long q1), .second, .val (.int p2), .val (.long ((9223372036854775807 : Int64) - (q0 &&& (3 : Int64)))), .second, .val (.long (q1 &&& (7 : Int64))), .second, .val (.int (p2 &&& (3 : Int32))), .unset, .unset, .unset, .unset] [])) (fun _ k => X0.ldc2Long hx hown (mvT hZ (hw _ (List.mem_of_getElem? (i := 7) rfl))) (g := (mkF m 121 #[.val (.long q0), .second, .val (.long q1), .second, .val (.int p2), .val (.long ((9223372036854775807 : Int64) - (q0 &&& (3 : Int64)))), .second, .val (.long (q1 &&& (9223372036854775807 : Int64))), .second, .val (.int (p2 &&& (3 : Int32))), .unset, .unset, .unset, .unset] [(.long q1)])) rfl (hb hby at_121) _ (XS.land X0.here hx rfl (hb hby at_124) rfl (XS.lstore X0.here hx rfl (hb hby at_125) rfl (l' := #[.val (.long q0), .second, .val (.long q1), .second, .val (.int p2), .val (.long ((9223372036854775807 : Int64) - (q0 &&& (3 : Int64)))), .second, .val (.long (q1 &&& (7 : Int64))), .second, .val (.int (p2 &&& (3 : Int32))), .unset, .unset, .unset, .unset]) rfl k))) ?_
        have hT : 0 ≤ (((9223372036854775807 : Int64) - (q0 &&& (3 : Int64)))).toInt := (own_base _ (own_three _))
        have hD : 0 ≤ ((q1 &&& (7 : Int64))).toInt := (own_seven _)
        refine Run.st (S' := s₁.setTop (mkF m 138 #[.val (.long q0), .second, .val (.long q1), .second, .val (.int p2), .val (.long ((9223372036854775807 : Int64) - (q0 &&& (3 : Int64)))), .second, .val (.long (q1 &&& (7 : Int64))), .second, .val (.int (p2 &&& (3 : Int32))), .val (.long (((9223372036854775807 : Int64) - (q0 &&& (3 : Int64))) + (q1 &&& (7 : Int64)))), .second, .unset, .unset] [(.int (lcmpW (((9223372036854775807 : Int64) - (q0 &&& (3 : Int64))) + (q1 &&& (7 : Int64))) (0 : Int64)))])) (fun _ k => XS.lload X0.here hx rfl (hb hby at_127) rfl (XS.lload X0.here hx rfl (hb hby at_129) rfl (XS.ladd X0.here hx rfl (hb hby at_131) rfl (XS.lstore X0.here hx rfl (hb hby at_132) rfl (l' := #[.val (.long q0), .second, .val (.long q1), .second, .val (.int p2), .val (.long ((9223372036854775807 : Int64) - (q0 &&& (3 : Int64)))), .second, .val (.long (q1 &&& (7 : Int64))), .second, .val (.int (p2 &&& (3 : Int32))), .val (.long (((9223372036854775807 : Int64) - (q0 &&& (3 : Int64))) + (q1 &&& (7 : Int64)))), .second, .unset, .unset]) rfl (XS.lload X0.here hx rfl (hb hby at_134) rfl (XS.lconst X0.here hx rfl (hb hby at_136) (XS.lcmp X0.here hx rfl (hb hby at_137) rfl k))))))) ?_
        by_cases hc138_18 : (((9223372036854775807 : Int64) - (q0 &&& (3 : Int64))) + (q1 &&& (7 : Int64))) < (0 : Int64)
        · refine Run.st (S' := s₁.setTop (mkF m 155 #[.val (.long q0), .second, .val (.long q1), .second, .val (.int p2), .val (.long ((9223372036854775807 : Int64) - (q0 &&& (3 : Int64)))), .second, .val (.long (q1 &&& (7 : Int64))), .second, .val (.int (p2 &&& (3 : Int32))), .val (.long (((9223372036854775807 : Int64) - (q0 &&& (3 : Int64))) + (q1 &&& (7 : Int64)))), .second, .val (.long (9223372036854775807 : Int64)), .second] [(.long (q1 &&& (7 : Int64))), (.long ((9223372036854775807 : Int64) - (q0 &&& (3 : Int64))))])) (fun _ k => XS.ifNo X0.here hx rfl (hb hby at_138) rfl (lcYes (Jvm.Free.XT.ll_ge_f hc138_18)) (X0.ldc2Long hx hown (mvT hZ (hw _ (List.mem_of_getElem? (i := 0) rfl))) (g := (mkF m 141 #[.val (.long q0), .second, .val (.long q1), .second, .val (.int p2), .val (.long ((9223372036854775807 : Int64) - (q0 &&& (3 : Int64)))), .second, .val (.long (q1 &&& (7 : Int64))), .second, .val (.int (p2 &&& (3 : Int32))), .val (.long (((9223372036854775807 : Int64) - (q0 &&& (3 : Int64))) + (q1 &&& (7 : Int64)))), .second, .unset, .unset] [])) rfl (hb hby at_141) _ (XS.goto X0.here hx rfl (pc0 := 144) (pc' := 149) rfl (hb hby at_144) (by decide) (by decide) (XS.lstore X0.here hx rfl (hb hby at_149) rfl (l' := #[.val (.long q0), .second, .val (.long q1), .second, .val (.int p2), .val (.long ((9223372036854775807 : Int64) - (q0 &&& (3 : Int64)))), .second, .val (.long (q1 &&& (7 : Int64))), .second, .val (.int (p2 &&& (3 : Int32))), .val (.long (((9223372036854775807 : Int64) - (q0 &&& (3 : Int64))) + (q1 &&& (7 : Int64)))), .second, .val (.long (9223372036854775807 : Int64)), .second]) rfl (XS.lload X0.here hx rfl (hb hby at_151) rfl (XS.lload X0.here hx rfl (hb hby at_153) rfl k)))))) ?_
          obtain ⟨_, _, ⟨T19, L19, k19, n19⟩, -, X19, ⟨Lc19, hQ19, l19, y19, z19⟩, st19⟩ := Jvm.LawKit.callS X0 hx (y := (⟨"com/example/cohortbench/cohortbench/engine/SimTime", "plus", "(JJ)J"⟩ : MethodName)) hown (mvT hZ (hw _ (List.mem_of_getElem? (i := 1) rfl))) (mvT hZ (hw _ (List.mem_of_getElem? (i := 2) rfl))) (mvT hZ (hw _ (List.mem_of_getElem? (i := 3) rfl))) (mvT hZ (hw _ (List.mem_of_getElem? (i := 4) rfl))) (by decide) (backOf (W := 0) (rm1 l Z a0 hw [] ((9223372036854775807 : Int64) - (q0 &&& (3 : Int64))) (q1 &&& (7 : Int64)) h0 n0 Zn ) hZ (hw _ (List.mem_of_getElem? (i := 4) rfl)) (hw _ (List.mem_of_getElem? (i := 3) rfl)) (by decide) (by decide)) (g := (mkF m 155 #[.val (.long q0), .second, .val (.long q1), .second, .val (.int p2), .val (.long ((9223372036854775807 : Int64) - (q0 &&& (3 : Int64)))), .second, .val (.long (q1 &&& (7 : Int64))), .second, .val (.int (p2 &&& (3 : Int32))), .val (.long (((9223372036854775807 : Int64) - (q0 &&& (3 : Int64))) + (q1 &&& (7 : Int64)))), .second, .val (.long (9223372036854775807 : Int64)), .second] [(.long (q1 &&& (7 : Int64))), (.long ((9223372036854775807 : Int64) - (q0 &&& (3 : Int64))))])) rfl (by rw [hml]; rfl) (argsL := [(.long ((9223372036854775807 : Int64) - (q0 &&& (3 : Int64)))), (.long (q1 &&& (7 : Int64)))]) (rest := []) (lenOf pd_0 rfl) rfl (by show 2 * 0 + _ ≤ _; exact Nat.le_of_eq rfl) (hb hby at_155) (fun _ _ => ⟨rfl, e0, (by decide : 0 + 0 ≤ _), (by decide : 0 + 0 ≤ _)⟩)
          dsimp only [Pt.U, Pt.locs, Pt.cells, Pt.slots] at X19 l19 y19 z19 st19 hQ19
          subst l19 y19 z19
          obtain ⟨rfl, N19q, e19⟩ := hQ19
          have N19 := Fr.app N0 N19q
          refine Run.st (S' := T19.setTop (mkF m 169 #[.val (.long q0), .second, .val (.long q1), .second, .val (.int p2), .val (.long ((9223372036854775807 : Int64) - (q0 &&& (3 : Int64)))), .second, .val (.long (q1 &&& (7 : Int64))), .second, .val (.int (p2 &&& (3 : Int32))), .val (.long (((9223372036854775807 : Int64) - (q0 &&& (3 : Int64))) + (q1 &&& (7 : Int64)))), .second, .val (.long (9223372036854775807 : Int64)), .second] [(.int (1 : Int32))])) (fun _ k => st19 _ (XS.lload X19.here hx rfl (hb hby at_158) rfl (XS.lcmp X19.here hx rfl (hb hby at_160) rfl (XS.ifNo X19.here hx rfl (hb hby at_161) rfl (lcYes (Jvm.Free.XT.ll_ne_f (show (F1 ((9223372036854775807 : Int64) - (q0 &&& (3 : Int64))) (q1 &&& (7 : Int64))) = (9223372036854775807 : Int64) from ((own_plus _ _ hT hD).1 hc138_18)))) (XS.iconst X19.here hx rfl (hb hby at_164) (XS.goto X19.here hx rfl (pc0 := 165) (pc' := 169) rfl (hb hby at_165) (by decide) (by decide) k)))))) ?_
          refine Run.out X19 hx Bd.notSynchronized Bd.returns rfl (Or.inl ⟨rfl, by simp, _, rfl⟩) (hb hby at_169) (by decide) (by decide) ?_
          rw [e19]
          exact ⟨rfl, N19⟩
        · refine Run.st (S' := s₁.setTop (mkF m 155 #[.val (.long q0), .second, .val (.long q1), .second, .val (.int p2), .val (.long ((9223372036854775807 : Int64) - (q0 &&& (3 : Int64)))), .second, .val (.long (q1 &&& (7 : Int64))), .second, .val (.int (p2 &&& (3 : Int32))), .val (.long (((9223372036854775807 : Int64) - (q0 &&& (3 : Int64))) + (q1 &&& (7 : Int64)))), .second, .val (.long (((9223372036854775807 : Int64) - (q0 &&& (3 : Int64))) + (q1 &&& (7 : Int64)))), .second] [(.long (q1 &&& (7 : Int64))), (.long ((9223372036854775807 : Int64) - (q0 &&& (3 : Int64))))])) (fun _ k => XS.ifYes X0.here hx rfl (pc0 := 138) (pc' := 147) rfl (hb hby at_138) rfl (lcYes (Jvm.Free.XT.ll_ge_t hc138_18)) (by decide) (by decide) (XS.lload X0.here hx rfl (hb hby at_147) rfl (XS.lstore X0.here hx rfl (hb hby at_149) rfl (l' := #[.val (.long q0), .second, .val (.long q1), .second, .val (.int p2), .val (.long ((9223372036854775807 : Int64) - (q0 &&& (3 : Int64)))), .second, .val (.long (q1 &&& (7 : Int64))), .second, .val (.int (p2 &&& (3 : Int32))), .val (.long (((9223372036854775807 : Int64) - (q0 &&& (3 : Int64))) + (q1 &&& (7 : Int64)))), .second, .val (.long (((9223372036854775807 : Int64) - (q0 &&& (3 : Int64))) + (q1 &&& (7 : Int64)))), .second]) rfl (XS.lload X0.here hx rfl (hb hby at_151) rfl (XS.lload X0.here hx rfl (hb hby at_153) rfl k))))) ?_
          obtain ⟨_, _, ⟨T20, L20, k20, n20⟩, -, X20, ⟨Lc20, hQ20, l20, y20, z20⟩, st20⟩ := Jvm.LawKit.callS X0 hx (y := (⟨"com/example/cohortbench/cohortbench/engine/SimTime", "plus", "(JJ)J"⟩ : MethodName)) hown (mvT hZ (hw _ (List.mem_of_getElem? (i := 1) rfl))) (mvT hZ (hw _ (List.mem_of_getElem? (i := 2) rfl))) (mvT hZ (hw _ (List.mem_of_getElem? (i := 3) rfl))) (mvT hZ (hw _ (List.mem_of_getElem? (i := 4) rfl))) (by decide) (backOf (W := 0) (rm1 l Z a0 hw [] ((9223372036854775807 : Int64) - (q0 &&& (3 : Int64))) (q1 &&& (7 : Int64)) h0 n0 Zn ) hZ (hw _ (List.mem_of_getElem? (i := 4) rfl)) (hw _ (List.mem_of_getElem? (i := 3) rfl)) (by decide) (by decide)) (g := (mkF m 155 #[.val (.long q0), .second, .val (.long q1), .second, .val (.int p2), .val (.long ((9223372036854775807 : Int64) - (q0 &&& (3 : Int64)))), .second, .val (.long (q1 &&& (7 : Int64))), .second, .val (.int (p2 &&& (3 : Int32))), .val (.long (((9223372036854775807 : Int64) - (q0 &&& (3 : Int64))) + (q1 &&& (7 : Int64)))), .second, .val (.long (((9223372036854775807 : Int64) - (q0 &&& (3 : Int64))) + (q1 &&& (7 : Int64)))), .second] [(.long (q1 &&& (7 : Int64))), (.long ((9223372036854775807 : Int64) - (q0 &&& (3 : Int64))))])) rfl (by rw [hml]; rfl) (argsL := [(.long ((9223372036854775807 : Int64) - (q0 &&& (3 : Int64)))), (.long (q1 &&& (7 : Int64)))]) (rest := []) (lenOf pd_0 rfl) rfl (by show 2 * 0 + _ ≤ _; exact Nat.le_of_eq rfl) (hb hby at_155) (fun _ _ => ⟨rfl, e0, (by decide : 0 + 0 ≤ _), (by decide : 0 + 0 ≤ _)⟩)
          dsimp only [Pt.U, Pt.locs, Pt.cells, Pt.slots] at X20 l20 y20 z20 st20 hQ20
          subst l20 y20 z20
          obtain ⟨rfl, N20q, e20⟩ := hQ20
          have N20 := Fr.app N0 N20q
          refine Run.st (S' := T20.setTop (mkF m 169 #[.val (.long q0), .second, .val (.long q1), .second, .val (.int p2), .val (.long ((9223372036854775807 : Int64) - (q0 &&& (3 : Int64)))), .second, .val (.long (q1 &&& (7 : Int64))), .second, .val (.int (p2 &&& (3 : Int32))), .val (.long (((9223372036854775807 : Int64) - (q0 &&& (3 : Int64))) + (q1 &&& (7 : Int64)))), .second, .val (.long (((9223372036854775807 : Int64) - (q0 &&& (3 : Int64))) + (q1 &&& (7 : Int64)))), .second] [(.int (1 : Int32))])) (fun _ k => st20 _ (XS.lload X20.here hx rfl (hb hby at_158) rfl (XS.lcmp X20.here hx rfl (hb hby at_160) rfl (XS.ifNo X20.here hx rfl (hb hby at_161) rfl (lcYes (Jvm.Free.XT.ll_ne_f (show (F1 ((9223372036854775807 : Int64) - (q0 &&& (3 : Int64))) (q1 &&& (7 : Int64))) = (((9223372036854775807 : Int64) - (q0 &&& (3 : Int64))) + (q1 &&& (7 : Int64))) from ((own_plus _ _ hT hD).2 hc138_18)))) (XS.iconst X20.here hx rfl (hb hby at_164) (XS.goto X20.here hx rfl (pc0 := 165) (pc' := 169) rfl (hb hby at_165) (by decide) (by decide) k)))))) ?_
          refine Run.out X20 hx Bd.notSynchronized Bd.returns rfl (Or.inl ⟨rfl, by simp, _, rfl⟩) (hb hby at_169) (by decide) (by decide) ?_
          rw [e20]
          exact ⟨rfl, N20⟩
      · refine Run.st (S' := s₁.setTop (mkF m 127 #[.val (.long q0), .second, .val (.long q1), .second, .val (.int p2), .val (.long (q0 &&& (9223372036854775807 : Int64))), .second, .val (.long (q1 &&& (9223372036854775807 : Int64))), .second, .val (.int (p2 &&& (3 : Int32))), .unset, .unset, .unset, .unset] [])) (fun _ k => XS.icmpYes X0.here hx rfl (pc0 := 106) (pc' := 127) rfl (hb hby at_106) rfl (feq hc106_17).2 (by decide) (by decide) k) ?_
        have hT : 0 ≤ ((q0 &&& (9223372036854775807 : Int64))).toInt := (own_mask _)
        have hD : 0 ≤ ((q1 &&& (9223372036854775807 : Int64))).toInt := (own_mask _)
        refine Run.st (S' := s₁.setTop (mkF m 138 #[.val (.long q0), .second, .val (.long q1), .second, .val (.int p2), .val (.long (q0 &&& (9223372036854775807 : Int64))), .second, .val (.long (q1 &&& (9223372036854775807 : Int64))), .second, .val (.int (p2 &&& (3 : Int32))), .val (.long ((q0 &&& (9223372036854775807 : Int64)) + (q1 &&& (9223372036854775807 : Int64)))), .second, .unset, .unset] [(.int (lcmpW ((q0 &&& (9223372036854775807 : Int64)) + (q1 &&& (9223372036854775807 : Int64))) (0 : Int64)))])) (fun _ k => XS.lload X0.here hx rfl (hb hby at_127) rfl (XS.lload X0.here hx rfl (hb hby at_129) rfl (XS.ladd X0.here hx rfl (hb hby at_131) rfl (XS.lstore X0.here hx rfl (hb hby at_132) rfl (l' := #[.val (.long q0), .second, .val (.long q1), .second, .val (.int p2), .val (.long (q0 &&& (9223372036854775807 : Int64))), .second, .val (.long (q1 &&& (9223372036854775807 : Int64))), .second, .val (.int (p2 &&& (3 : Int32))), .val (.long ((q0 &&& (9223372036854775807 : Int64)) + (q1 &&& (9223372036854775807 : Int64)))), .second, .unset, .unset]) rfl (XS.lload X0.here hx rfl (hb hby at_134) rfl (XS.lconst X0.here hx rfl (hb hby at_136) (XS.lcmp X0.here hx rfl (hb hby at_137) rfl k))))))) ?_
        by_cases hc138_21 : ((q0 &&& (9223372036854775807 : Int64)) + (q1 &&& (9223372036854775807 : Int64))) < (0 : Int64)
        · refine Run.st (S' := s₁.setTop (mkF m 155 #[.val (.long q0), .second, .val (.long q1), .second, .val (.int p2), .val (.long (q0 &&& (9223372036854775807 : Int64))), .second, .val (.long (q1 &&& (9223372036854775807 : Int64))), .second, .val (.int (p2 &&& (3 : Int32))), .val (.long ((q0 &&& (9223372036854775807 : Int64)) + (q1 &&& (9223372036854775807 : Int64)))), .second, .val (.long (9223372036854775807 : Int64)), .second] [(.long (q1 &&& (9223372036854775807 : Int64))), (.long (q0 &&& (9223372036854775807 : Int64)))])) (fun _ k => XS.ifNo X0.here hx rfl (hb hby at_138) rfl (lcYes (Jvm.Free.XT.ll_ge_f hc138_21)) (X0.ldc2Long hx hown (mvT hZ (hw _ (List.mem_of_getElem? (i := 0) rfl))) (g := (mkF m 141 #[.val (.long q0), .second, .val (.long q1), .second, .val (.int p2), .val (.long (q0 &&& (9223372036854775807 : Int64))), .second, .val (.long (q1 &&& (9223372036854775807 : Int64))), .second, .val (.int (p2 &&& (3 : Int32))), .val (.long ((q0 &&& (9223372036854775807 : Int64)) + (q1 &&& (9223372036854775807 : Int64)))), .second, .unset, .unset] [])) rfl (hb hby at_141) _ (XS.goto X0.here hx rfl (pc0 := 144) (pc' := 149) rfl (hb hby at_144) (by decide) (by decide) (XS.lstore X0.here hx rfl (hb hby at_149) rfl (l' := #[.val (.long q0), .second, .val (.long q1), .second, .val (.int p2), .val (.long (q0 &&& (9223372036854775807 : Int64))), .second, .val (.long (q1 &&& (9223372036854775807 : Int64))), .second, .val (.int (p2 &&& (3 : Int32))), .val (.long ((q0 &&& (9223372036854775807 : Int64)) + (q1 &&& (9223372036854775807 : Int64)))), .second, .val (.long (9223372036854775807 : Int64)), .second]) rfl (XS.lload X0.here hx rfl (hb hby at_151) rfl (XS.lload X0.here hx rfl (hb hby at_153) rfl k)))))) ?_
          obtain ⟨_, _, ⟨T22, L22, k22, n22⟩, -, X22, ⟨Lc22, hQ22, l22, y22, z22⟩, st22⟩ := Jvm.LawKit.callS X0 hx (y := (⟨"com/example/cohortbench/cohortbench/engine/SimTime", "plus", "(JJ)J"⟩ : MethodName)) hown (mvT hZ (hw _ (List.mem_of_getElem? (i := 1) rfl))) (mvT hZ (hw _ (List.mem_of_getElem? (i := 2) rfl))) (mvT hZ (hw _ (List.mem_of_getElem? (i := 3) rfl))) (mvT hZ (hw _ (List.mem_of_getElem? (i := 4) rfl))) (by decide) (backOf (W := 0) (rm1 l Z a0 hw [] (q0 &&& (9223372036854775807 : Int64)) (q1 &&& (9223372036854775807 : Int64)) h0 n0 Zn ) hZ (hw _ (List.mem_of_getElem? (i := 4) rfl)) (hw _ (List.mem_of_getElem? (i := 3) rfl)) (by decide) (by decide)) (g := (mkF m 155 #[.val (.long q0), .second, .val (.long q1), .second, .val (.int p2), .val (.long (q0 &&& (9223372036854775807 : Int64))), .second, .val (.long (q1 &&& (9223372036854775807 : Int64))), .second, .val (.int (p2 &&& (3 : Int32))), .val (.long ((q0 &&& (9223372036854775807 : Int64)) + (q1 &&& (9223372036854775807 : Int64)))), .second, .val (.long (9223372036854775807 : Int64)), .second] [(.long (q1 &&& (9223372036854775807 : Int64))), (.long (q0 &&& (9223372036854775807 : Int64)))])) rfl (by rw [hml]; rfl) (argsL := [(.long (q0 &&& (9223372036854775807 : Int64))), (.long (q1 &&& (9223372036854775807 : Int64)))]) (rest := []) (lenOf pd_0 rfl) rfl (by show 2 * 0 + _ ≤ _; exact Nat.le_of_eq rfl) (hb hby at_155) (fun _ _ => ⟨rfl, e0, (by decide : 0 + 0 ≤ _), (by decide : 0 + 0 ≤ _)⟩)
          dsimp only [Pt.U, Pt.locs, Pt.cells, Pt.slots] at X22 l22 y22 z22 st22 hQ22
          subst l22 y22 z22
          obtain ⟨rfl, N22q, e22⟩ := hQ22
          have N22 := Fr.app N0 N22q
          refine Run.st (S' := T22.setTop (mkF m 169 #[.val (.long q0), .second, .val (.long q1), .second, .val (.int p2), .val (.long (q0 &&& (9223372036854775807 : Int64))), .second, .val (.long (q1 &&& (9223372036854775807 : Int64))), .second, .val (.int (p2 &&& (3 : Int32))), .val (.long ((q0 &&& (9223372036854775807 : Int64)) + (q1 &&& (9223372036854775807 : Int64)))), .second, .val (.long (9223372036854775807 : Int64)), .second] [(.int (1 : Int32))])) (fun _ k => st22 _ (XS.lload X22.here hx rfl (hb hby at_158) rfl (XS.lcmp X22.here hx rfl (hb hby at_160) rfl (XS.ifNo X22.here hx rfl (hb hby at_161) rfl (lcYes (Jvm.Free.XT.ll_ne_f (show (F1 (q0 &&& (9223372036854775807 : Int64)) (q1 &&& (9223372036854775807 : Int64))) = (9223372036854775807 : Int64) from ((own_plus _ _ hT hD).1 hc138_21)))) (XS.iconst X22.here hx rfl (hb hby at_164) (XS.goto X22.here hx rfl (pc0 := 165) (pc' := 169) rfl (hb hby at_165) (by decide) (by decide) k)))))) ?_
          refine Run.out X22 hx Bd.notSynchronized Bd.returns rfl (Or.inl ⟨rfl, by simp, _, rfl⟩) (hb hby at_169) (by decide) (by decide) ?_
          rw [e22]
          exact ⟨rfl, N22⟩
        · refine Run.st (S' := s₁.setTop (mkF m 155 #[.val (.long q0), .second, .val (.long q1), .second, .val (.int p2), .val (.long (q0 &&& (9223372036854775807 : Int64))), .second, .val (.long (q1 &&& (9223372036854775807 : Int64))), .second, .val (.int (p2 &&& (3 : Int32))), .val (.long ((q0 &&& (9223372036854775807 : Int64)) + (q1 &&& (9223372036854775807 : Int64)))), .second, .val (.long ((q0 &&& (9223372036854775807 : Int64)) + (q1 &&& (9223372036854775807 : Int64)))), .second] [(.long (q1 &&& (9223372036854775807 : Int64))), (.long (q0 &&& (9223372036854775807 : Int64)))])) (fun _ k => XS.ifYes X0.here hx rfl (pc0 := 138) (pc' := 147) rfl (hb hby at_138) rfl (lcYes (Jvm.Free.XT.ll_ge_t hc138_21)) (by decide) (by decide) (XS.lload X0.here hx rfl (hb hby at_147) rfl (XS.lstore X0.here hx rfl (hb hby at_149) rfl (l' := #[.val (.long q0), .second, .val (.long q1), .second, .val (.int p2), .val (.long (q0 &&& (9223372036854775807 : Int64))), .second, .val (.long (q1 &&& (9223372036854775807 : Int64))), .second, .val (.int (p2 &&& (3 : Int32))), .val (.long ((q0 &&& (9223372036854775807 : Int64)) + (q1 &&& (9223372036854775807 : Int64)))), .second, .val (.long ((q0 &&& (9223372036854775807 : Int64)) + (q1 &&& (9223372036854775807 : Int64)))), .second]) rfl (XS.lload X0.here hx rfl (hb hby at_151) rfl (XS.lload X0.here hx rfl (hb hby at_153) rfl k))))) ?_
          obtain ⟨_, _, ⟨T23, L23, k23, n23⟩, -, X23, ⟨Lc23, hQ23, l23, y23, z23⟩, st23⟩ := Jvm.LawKit.callS X0 hx (y := (⟨"com/example/cohortbench/cohortbench/engine/SimTime", "plus", "(JJ)J"⟩ : MethodName)) hown (mvT hZ (hw _ (List.mem_of_getElem? (i := 1) rfl))) (mvT hZ (hw _ (List.mem_of_getElem? (i := 2) rfl))) (mvT hZ (hw _ (List.mem_of_getElem? (i := 3) rfl))) (mvT hZ (hw _ (List.mem_of_getElem? (i := 4) rfl))) (by decide) (backOf (W := 0) (rm1 l Z a0 hw [] (q0 &&& (9223372036854775807 : Int64)) (q1 &&& (9223372036854775807 : Int64)) h0 n0 Zn ) hZ (hw _ (List.mem_of_getElem? (i := 4) rfl)) (hw _ (List.mem_of_getElem? (i := 3) rfl)) (by decide) (by decide)) (g := (mkF m 155 #[.val (.long q0), .second, .val (.long q1), .second, .val (.int p2), .val (.long (q0 &&& (9223372036854775807 : Int64))), .second, .val (.long (q1 &&& (9223372036854775807 : Int64))), .second, .val (.int (p2 &&& (3 : Int32))), .val (.long ((q0 &&& (9223372036854775807 : Int64)) + (q1 &&& (9223372036854775807 : Int64)))), .second, .val (.long ((q0 &&& (9223372036854775807 : Int64)) + (q1 &&& (9223372036854775807 : Int64)))), .second] [(.long (q1 &&& (9223372036854775807 : Int64))), (.long (q0 &&& (9223372036854775807 : Int64)))])) rfl (by rw [hml]; rfl) (argsL := [(.long (q0 &&& (9223372036854775807 : Int64))), (.long (q1 &&& (9223372036854775807 : Int64)))]) (rest := []) (lenOf pd_0 rfl) rfl (by show 2 * 0 + _ ≤ _; exact Nat.le_of_eq rfl) (hb hby at_155) (fun _ _ => ⟨rfl, e0, (by decide : 0 + 0 ≤ _), (by decide : 0 + 0 ≤ _)⟩)
          dsimp only [Pt.U, Pt.locs, Pt.cells, Pt.slots] at X23 l23 y23 z23 st23 hQ23
          subst l23 y23 z23
          obtain ⟨rfl, N23q, e23⟩ := hQ23
          have N23 := Fr.app N0 N23q
          refine Run.st (S' := T23.setTop (mkF m 169 #[.val (.long q0), .second, .val (.long q1), .second, .val (.int p2), .val (.long (q0 &&& (9223372036854775807 : Int64))), .second, .val (.long (q1 &&& (9223372036854775807 : Int64))), .second, .val (.int (p2 &&& (3 : Int32))), .val (.long ((q0 &&& (9223372036854775807 : Int64)) + (q1 &&& (9223372036854775807 : Int64)))), .second, .val (.long ((q0 &&& (9223372036854775807 : Int64)) + (q1 &&& (9223372036854775807 : Int64)))), .second] [(.int (1 : Int32))])) (fun _ k => st23 _ (XS.lload X23.here hx rfl (hb hby at_158) rfl (XS.lcmp X23.here hx rfl (hb hby at_160) rfl (XS.ifNo X23.here hx rfl (hb hby at_161) rfl (lcYes (Jvm.Free.XT.ll_ne_f (show (F1 (q0 &&& (9223372036854775807 : Int64)) (q1 &&& (9223372036854775807 : Int64))) = ((q0 &&& (9223372036854775807 : Int64)) + (q1 &&& (9223372036854775807 : Int64))) from ((own_plus _ _ hT hD).2 hc138_21)))) (XS.iconst X23.here hx rfl (hb hby at_164) (XS.goto X23.here hx rfl (pc0 := 165) (pc' := 169) rfl (hb hby at_165) (by decide) (by decide) k)))))) ?_
          refine Run.out X23 hx Bd.notSynchronized Bd.returns rfl (Or.inl ⟨rfl, by simp, _, rfl⟩) (hb hby at_169) (by decide) (by decide) ?_
          rw [e23]
          exact ⟨rfl, N23⟩
set_option maxRecDepth 65536 in
set_option maxHeartbeats 40000000 in
theorem comes_1 {Post : Tables → Env → Array Value → State → Outcome → State → Prop} (hpost : ∀ tb e args s v u, (limb_1_1.after args s (.returned v) u = true ∧ limb_1_2.after args s (.returned v) u = true ∧ True) → FrameEnd s (.returned v) u (Jvm.fieldLocs frame_1_writes args s ++ Jvm.arrayLocs frame_1_arrays args s ++ Jvm.staticLocs frame_1_statics s) 0 0 → Post tb e args s (.returned v) u) :
    ArmFor flags0 classFile x code maxLocals ret World_1 tables_1 room_1 Calls_1 rest_1 Pre_1 Post := by
  intro l hfl _ _ p e ha hc hk s m args below hf hA hF happ hP
  obtain ⟨hcalls, hrest, hpre⟩ := hP
  obtain ⟨-, -, -, hnamed, -, -, -, hat⟩ := (Spec.applies_iff hf).mp happ
  obtain ⟨hg, hn⟩ := and_e (Cond.before_iff.mp (show (Jvm.Cond.and given_1 narrow_1).before args s = true from hpre))
  obtain ⟨gv1, gv2⟩ := and_e hg
  obtain ⟨gv3, gv4⟩ := and_e gv2
  obtain ⟨gv5, gv6⟩ := and_e gv4
  obtain ⟨w0, w1, w2, rfl⟩ : ∃ w0 w1 w2 : Value, args = #[w0, w1, w2] := by
    have hs : args.size = 3 := by simpa [Cond.value, given_1] using gv1
    obtain ⟨L⟩ := args
    match L, hs with
    | [w0, w1, w2], _ => exact ⟨w0, w1, w2, rfl⟩
  have hw := fun d (hd : d ∈ tables_1) => atoms_spec (ws := Jvm.Cond.code x code maxLocals ret :: tables_1) hat d (List.mem_cons_of_mem _ hd)
  have hfit : Fit s := fun {y c} hc i hi => by
    obtain ⟨ha, rfl⟩ := Array.getElem?_eq_some_iff.mp hc
    have q := List.all_eq_true.mp ((Array.all_eq_true_iff_forall_mem.mp hF) _ (Array.getElem_mem ha)) i (List.mem_range.mpr hi)
    simpa [Array.getElem?_eq_getElem hi] using q
  obtain ⟨i0, ei0⟩ := isL_v gv3
  obtain rfl : w0 = (.long i0) := Option.some.inj ei0
  obtain ⟨i1, ei1⟩ := isL_v gv5
  obtain rfl : w1 = (.long i1) := Option.some.inj ei1
  obtain ⟨i2, ei2⟩ := is_v gv6
  obtain rfl : w2 = (.int i2) := Option.some.inj ei2
  obtain ⟨n, o, h1, h2, h3, _, L, rfl, ⟨rfl, N⟩, hq⟩ := rm0 l s _ hw tables_1 i0 i1 i2 s.heap s.heap.size (Nat.le_refl _)  p e ha hc hk s m _ below hf ((Spec.applies_iff_loose hf).mp happ).1 ⟨rfl, State.Warmed39.refl s, rfl⟩ trivial
  refine ⟨n, _, h1, h2, h3, hpost _ _ _ _ _ _ ⟨Cond.after_iff.mpr rfl, Cond.after_iff.mpr (eq_i res_at (Term.int_eval (1)) rfl), trivial⟩ ⟨hq.1, hq.2.1, (hq.2.2.sift fun y hy => Or.inr (N y hy)).mono (by decide) (by decide)⟩⟩
theorem main_1_1 : Claimed_1_1 := comes_1 fun _ _ _ _ _ _ h hF => ⟨h.1, hF⟩
theorem main_1_2 : Claimed_1_2 := comes_1 fun _ _ _ _ _ _ h hF => ⟨h.2.1, hF⟩
end Jvm.Pilot.@@N@@
namespace Jvm.Pilot.@@N@@
open Jvm Jvm.ClassFile Sem Op Lib Jvm.Free Jvm.Stand Jvm.Pilot.@@N@@.Jvm.D
/-! MADE BY PROGRAM (witnessworld.py) out of the Statement's table words and the real class files: 9 classes; the members and pool entries that the words name. The judged class is class 1, her method 1. -/
namespace start1
open Jvm.ClassFile
def u (s : String) : CpInfo := .utf8 (stringToUtf16 s)
/-- a pool by its gaps: so many unusable entries, then the entry; so many at the end -/
def gap : Nat → List CpInfo → List CpInfo
  | 0, r => r
  | n + 1, r => .unusable :: gap n r
def poolList (es : List (Nat × CpInfo)) (last : Nat) : List CpInfo := es.foldr (fun e r => gap e.1 (e.2 :: r)) (gap last [])
def pool (es : List (Nat × CpInfo)) (last : Nat) : Array CpInfo := ⟨poolList es last⟩
def fileOf (pool : Array CpInfo) (this : Nat) (attrs : Array Attribute := #[]) (ms : Array MethodInfo := #[]) (fl : Nat := 33) (sup : Nat := 0) (ifs : Array Nat := #[]) (fds : Array FieldInfo := #[]) : ClassFile where
  minorVersion := 0
  majorVersion := 65
  constantPool := pool
  accessFlags := fl
  thisClass := this
  superClass := sup
  interfaces := ifs
  fields := fds
  methods := ms
  attributes := attrs
def plain (name : String) (sup : Option ClassId) : Class where
  name := name
  kind := .ordinary
  loader := none
  accessFlags := 33
  super := sup
  interfaces := #[]
  cf := none
  fields := #[]
  methods := #[]
  instanceTypes := #[]
  staticTypes := #[]
  resolved := #[]
  callSites := []
  init := .initialized
  statics := none
  mirror := none

def pool0 : Array CpInfo := pool [(5, u "<init>"), (0, u "()V"), (1, .class_ 10), (1, u "java/lang/Object")] 113

def k0m0 : Method := { name := "<init>", desc := "()V", sig := { parameters := [], returnType := none }, accessFlags := 1, code := none }
/-- java/lang/Object -/
def k0 : Class := { plain "java/lang/Object" none with
  accessFlags := 33
  interfaces := #[]
  cf := some (fileOf pool0 8 #[] #[{ accessFlags := 1, nameIndex := 5, descriptorIndex := 6, attributes := #[] }] 33 0 #[] #[])
  fields := #[]
  methods := #[k0m0]
  instanceTypes := #[]
  staticTypes := #[]
  resolved := Array.replicate 124 none
  statics := none }

def pool1 : Array CpInfo := pool [(2, .class_ 4), (1, u "java/lang/Object"), (0, u "<init>"), (0, u "()V"), (2, .long 9223372036854775807), (1, .long 3), (1, .long 7), (1, .methodref 16 17), (0, .class_ 18), (0, .nameAndType 19 20), (0, u "com/example/cohortbench/cohortbench/engine/SimTime"), (0, u "plus"), (0, u "(JJ)J"), (0, .class_ 22), (0, u "com/example/cohortbench/cohortbench/engine/SimTimePlusPinLaw"), (2, u "law"), (0, u "(JJI)Z")] 3

def k1m0 : Method := { name := "<init>", desc := "()V", sig := { parameters := [], returnType := none }, accessFlags := 1, code := none }
def k1c1 : Code := { maxStack := 6, maxLocals := 14, code := code, exceptionTable := #[], attributes := #[] }
def k1m1 : Method := { name := "law", desc := "(JJI)Z", sig := { parameters := [.long, .long, .int], returnType := some .boolean }, accessFlags := 9, code := some k1c1 }
/-- com/example/cohortbench/cohortbench/engine/SimTimePlusPinLaw -/
def k1 : Class := { plain "com/example/cohortbench/cohortbench/engine/SimTimePlusPinLaw" (some 0) with
  accessFlags := 49
  interfaces := #[]
  cf := some (fileOf pool1 21 #[] #[{ accessFlags := 1, nameIndex := 5, descriptorIndex := 6, attributes := #[] }, { accessFlags := 9, nameIndex := 25, descriptorIndex := 26, attributes := #[] }] 49 2 #[] #[])
  fields := #[]
  methods := #[k1m0, k1m1]
  instanceTypes := #[]
  staticTypes := #[]
  resolved := Array.replicate 30 none
  statics := none }

def pool2 : Array CpInfo := pool [(4, .class_ 6), (1, u "java/lang/Object"), (0, u "<init>"), (0, u "()V"), (9, .class_ 19), (0, u "com/example/cohortbench/cohortbench/engine/SimTime"), (10, .long 9223372036854775807), (1, u "TICKS_PER_MS"), (0, u "J"), (3, u "NEVER"), (0, u "END"), (0, u "Ljava/lang/String;"), (9, u "plus"), (0, u "(JJ)J")] 17

def k2m0 : Method := { name := "<init>", desc := "()V", sig := { parameters := [], returnType := none }, accessFlags := 2, code := none }
def k2c1 : Code := { maxStack := 6, maxLocals := 4, code := prog_19_method_4_code, exceptionTable := #[], attributes := #[] }
def k2m1 : Method := { name := "plus", desc := "(JJ)J", sig := { parameters := [.long, .long], returnType := some .long }, accessFlags := 9, code := some k2c1 }
/-- com/example/cohortbench/cohortbench/engine/SimTime -/
def k2 : Class := { plain "com/example/cohortbench/cohortbench/engine/SimTime" (some 0) with
  accessFlags := 49
  interfaces := #[]
  cf := some (fileOf pool2 18 #[] #[{ accessFlags := 2, nameIndex := 7, descriptorIndex := 8, attributes := #[] }, { accessFlags := 9, nameIndex := 49, descriptorIndex := 50, attributes := #[] }] 49 4 #[] #[{ accessFlags := 25, nameIndex := 32, descriptorIndex := 33, attributes := #[] }, { accessFlags := 25, nameIndex := 37, descriptorIndex := 33, attributes := #[] }, { accessFlags := 24, nameIndex := 38, descriptorIndex := 39, attributes := #[] }])
  fields := #[{ name := "TICKS_PER_MS", type := .long, accessFlags := 25, slot := 0, constantValue := 0 }, { name := "NEVER", type := .long, accessFlags := 25, slot := 1, constantValue := 0 }, { name := "END", type := (.object "java/lang/String"), accessFlags := 24, slot := 2, constantValue := 0 }]
  methods := #[k2m0, k2m1]
  instanceTypes := #[]
  staticTypes := #[.long, .long, (.object "java/lang/String")]
  resolved := Array.replicate 68 none
  statics := none }

def pool3 : Array CpInfo := pool [(1, u "java/lang/Cloneable"), (0, .class_ 1), (0, u "java/lang/Object"), (0, .class_ 3)] 3

/-- java/lang/Cloneable -/
def k3 : Class := { plain "java/lang/Cloneable" (some 0) with
  accessFlags := 1537
  interfaces := #[]
  cf := some (fileOf pool3 2 #[] #[] 1537 4 #[] #[])
  fields := #[]
  methods := #[]
  instanceTypes := #[]
  staticTypes := #[]
  resolved := Array.replicate 8 none
  statics := none }

def pool4 : Array CpInfo := pool [(1, u "java/io/Serializable"), (0, .class_ 1), (0, u "java/lang/Object"), (0, .class_ 3)] 3

/-- java/io/Serializable -/
def k4 : Class := { plain "java/io/Serializable" (some 0) with
  accessFlags := 1537
  interfaces := #[]
  cf := some (fileOf pool4 2 #[] #[] 1537 4 #[] #[])
  fields := #[]
  methods := #[]
  instanceTypes := #[]
  staticTypes := #[]
  resolved := Array.replicate 8 none
  statics := none }

/-- the primitive byte -/
def k5 : Class := { plain "byte" none with kind := .primitive 'B', accessFlags := 0x411 }
/-- [B -/
def k6 : Class := { plain "[B" (some 0) with kind := .array 5 .byte, interfaces := #[3, 4], accessFlags := 1041 }

/-- the primitive int -/
def k7 : Class := { plain "int" none with kind := .primitive 'I', accessFlags := 0x411 }
/-- [I -/
def k8 : Class := { plain "[I" (some 0) with kind := .array 7 .int, interfaces := #[3, 4], accessFlags := 1041 }

def heap : Heap := #[]
def classes : Array Class := #[k0, k1, k2, k3, k4, k5, k6, k7, k8]
def interned : List (Array UInt16 × Addr) := []
def slotsUsed : Nat := 0
def theMethod : MethodId := ⟨1, 1⟩
def args0 : Array Value := #[.long 5, .long 7, .int 1]
def aboutOver (below : List Frame) : State where
  vm := { classes := classes, interned := interned.toArray }
  heap := heap
  slotsUsed := slotsUsed
  threads := #[{ frames := .invoking theMethod args0 :: below }]
def below0 : List Frame := [.native { method := ⟨0, 0⟩, args := #[] }]
def about1 : State := aboutOver below0
def p0 : Program := .bare "" "" ""
def e0 : Env := launch0.env 0 0 0
theorem w_frames : about1.frames = Frame.invoking theMethod args0 :: below0 := rfl
set_option maxRecDepth 65536 in
theorem w_args : argsFit about1.vm theMethod args0 = true := by decide +kernel
set_option maxRecDepth 65536 in
theorem w_heap : heapFits about1 = true := by decide +kernel
set_option maxRecDepth 65536 in
theorem w_runnable : about1.curStatus? = some .runnable := by decide +kernel
set_option maxRecDepth 65536 in
theorem w_alone : about1.alone = true := by decide +kernel
set_option maxRecDepth 65536 in
theorem w_named : about1.methodNamed? x = some theMethod := by decide +kernel
set_option maxRecDepth 65536 in
theorem w_hears : about1.hears theMethod below0 = true := by decide +kernel
set_option maxRecDepth 65536 in
theorem w_ripe : about1.ripe theMethod args0 below0 = true := by decide +kernel
theorem w_running : about1.status = .running := rfl
set_option maxRecDepth 65536 in
theorem w_room : about1.hasRoom e0.platform room_1 = true :=
  launch0.hasRoom_least _ room_1 (by decide +kernel) (by decide +kernel) (by decide +kernel) (by decide +kernel) (by decide +kernel) (by decide +kernel)
theorem allAtoms_all (ts : List Jvm.Cond) (a : Array Jvm.Value) (st : Jvm.State) : (allAtoms ts).before a st = ts.all (fun c => c.before a st) := by
  induction ts with
  | nil => rfl
  | cons c t ih =>
    show (Jvm.Cond.and c (allAtoms t)).before a st = _
    rw [Jvm.Cond.before_and, ih, List.all_cons]
def words1 : List Jvm.Cond := Jvm.Cond.code x code maxLocals ret :: tables_1
/-- a 'code' word, met by the world's own term for the bytes: nothing is compared byte by byte -/
theorem code_word {y : MethodName} {bytes : ByteArray} {mx : Nat} {rt : Option FieldType} {a : Array Value} {s : State} {m : MethodId} {meth : Method} {c : Code} (h1 : s.methodNamed? y = some m) (h2 : s.vm.method? m = some meth) (h3 : meth.code = some c) (h4 : c.code = bytes)
    (h5 : (c.maxLocals == mx && c.exceptionTable.isEmpty && decide (c.maxStack ≤ mostOperands) && decide (meth.sig.returnType = rt) && !meth.locks && decide (parseMethodDescriptor y.desc = some meth.sig)) = true) : (Jvm.Cond.code y bytes mx rt).before a s = true := by
  simp only [Bool.and_eq_true, beq_iff_eq, Bool.not_eq_true', decide_eq_true_eq] at h5
  obtain ⟨⟨⟨⟨⟨g1, g2⟩, g3⟩, g4⟩, g5⟩, g6⟩ := h5
  simp [Cond.before, Cond.holds, Cond.value, h1, h2, h3, h4, g1, g2, g3, g4, g5, g6]
def isCode : Jvm.Cond → Bool
  | .code _ _ _ _ => true
  | _ => false
theorem all_split {L : List Jvm.Cond} {P : Jvm.Cond → Bool} (h1 : L.all (fun c => isCode c || P c) = true) (h2 : ∀ c ∈ L.filter isCode, P c = true) : L.all P = true := by
  refine List.all_eq_true.mpr fun c hc => ?_
  have h := List.all_eq_true.mp h1 c hc
  rcases Bool.eq_false_or_eq_true (isCode c) with hi | hi
  · exact h2 c (List.mem_filter.mpr ⟨hc, hi⟩)
  · simpa [hi] using h
set_option maxRecDepth 65536 in
theorem w_c0 : (Jvm.Cond.code x code maxLocals ret).before args0 about1 = true := code_word (m := ⟨1, 1⟩) (meth := k1m1) (c := k1c1) (by decide +kernel) rfl rfl rfl (by decide +kernel)
set_option maxRecDepth 65536 in
theorem w_c1 : (Jvm.Cond.code ({ cls := "com/example/cohortbench/cohortbench/engine/SimTime", name := "plus", desc := "(JJ)J" } : Jvm.MethodName) prog_19_method_4_code (4 : Nat) (Option.some Jvm.ClassFile.FieldType.long)).before args0 about1 = true := code_word (m := ⟨2, 1⟩) (meth := k2m1) (c := k2c1) (by decide +kernel) rfl rfl rfl (by decide +kernel)
def codes1 : List Jvm.Cond := [Jvm.Cond.code x code maxLocals ret, Jvm.Cond.code ({ cls := "com/example/cohortbench/cohortbench/engine/SimTime", name := "plus", desc := "(JJ)J" } : Jvm.MethodName) prog_19_method_4_code (4 : Nat) (Option.some Jvm.ClassFile.FieldType.long)]
set_option maxRecDepth 65536 in
theorem codes_eq : words1.filter isCode = codes1 := rfl
theorem w_codes : ∀ c ∈ words1.filter isCode, c.before args0 about1 = true := by
  rw [codes_eq]
  intro c hc
  simp only [codes1, List.mem_cons, List.not_mem_nil, or_false] at hc
  rcases hc with rfl | rfl
  · exact w_c0
  · exact w_c1
set_option maxRecDepth 65536 in
theorem w_t1 : words1.all (fun c => isCode c || c.before args0 about1) = true := by decide +kernel
theorem w_tables : (allAtoms (Jvm.Cond.code x code maxLocals ret :: tables_1)).before args0 about1 = true := by
  rw [allAtoms_all]
  show words1.all (fun c => c.before args0 about1) = true
  refine all_split ?_ w_codes
  rw [w_t1]
set_option maxRecDepth 65536 in
theorem w_case : (Jvm.Cond.and given_1 narrow_1).before args0 about1 = true := by decide +kernel
theorem w_applies : (headSpec (Jvm.Cond.code x code maxLocals ret :: tables_1) room_1).applies x e0.platform about1 = true :=
  (Spec.applies_iff w_frames).mpr ⟨w_running, w_runnable, w_alone, w_named, w_hears, w_ripe, w_room, w_tables⟩
theorem atStart : AtStart classFile x code maxLocals ret World_1 tables_1 room_1 Calls_1 rest_1 Pre_1 launch0 p0 e0 about1 theMethod args0 below0 :=
  ⟨lists_1, trivial, launch0.admits_env _ _ _, launch0.least_env, fairChoices_fair.cas, fairChoices_fair.clock, w_frames, w_args, w_heap, w_applies, trivial, trivial, w_case⟩
end start1
theorem witness_1 : WitnessClaimed_1 := ⟨start1.p0, start1.e0, start1.about1, start1.theMethod, start1.args0, start1.below0, start1.atStart⟩
end Jvm.Pilot.@@N@@
