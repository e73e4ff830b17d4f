import JvmDerived
import JvmDerived.Pilot.@@N@@Statement
import JvmDerived.Pilot.@@N@@Code
set_option linter.unusedVariables false
set_option linter.unusedSimpArgs false
namespace Jvm.Pilot.@@N@@
open Jvm Jvm.ClassFile Sem Op Lib Jvm.Free Jvm.Stand Jvm.LawKit Jvm.RoadKit Bundle Jvm.Pilot.@@N@@.Jvm.D
section OwnRun
variable {p : Program} {l : Launch} {e : Env} {R : Room} {s : State} {m : MethodId} {args : Array Value} {below : List Frame} {meth : Method} {c : Code} {T : State} {locs : List Loc} {cells slots : Nat}
/-- from S the run comes to its end, and there Q holds -/
def Run (p : Program) (e : Env) (below : List Frame) (Q : State → Outcome → Prop) (S : State) : Prop := ∃ s₂ o, Steps p.tables e below S s₂ ∧ s₂.status = .running ∧ Ended s₂ below o ∧ Q s₂ o
def Ends (s : State) (Qb : Option Value → Heap → List Loc → Prop) (C S : Nat) : State → Outcome → Prop := fun s₂ o => ∃ v L, o = .returned v ∧ Qb v s₂.heap L ∧ FrameEnd s o s₂ L C S
theorem Run.st {Q : State → Outcome → Prop} {S S' : State} (h : ∀ t, Steps p.tables e below S' t → Steps p.tables e below S t) (r : Run p e below Q S') : Run p e below Q S := by
  obtain ⟨a, b, c, d⟩ := r
  exact ⟨a, b, h _ c, d⟩
theorem Run.out (X : Stand p l e R s m args below meth c T locs cells slots) (hx : p.tables.exec = Jvm.exec) {Qb : Option Value → Heap → List Loc → Prop} {C S : Nat} {pc : Nat} {Ls : Array Slot} {w : Value} {t : FieldType} {i : Instr} {rest : List Value} (hlocks : meth.locks = false) (hret : meth.sig.returnType = some t) (hn : narrow t w = w)
    (hi : (i = .ireturn ∧ (t = .int ∨ t = .boolean ∨ t = .byte ∨ t = .char ∨ t = .short) ∧ ∃ z, w = .int z) ∨ (i = .lreturn ∧ t = .long ∧ ∃ z, w = .long z) ∨ (i = .dreturn ∧ t = .double ∧ ∃ z, w = .double z) ∨ (i = .freturn ∧ t = .float ∧ ∃ z, w = .float z) ∨ (i = .areturn ∧ t.isReference = true ∧ w.isRef = true))
    (hd : decode c.code pc = .ok (i, 1)) (hC : cells ≤ C) (hS : slots ≤ S) (hq : Qb (some w) T.heap locs) : Run p e below (Ends s Qb C S) (T.setTop (mkF m pc Ls (w :: rest))) := by
  obtain ⟨fs, hr, hrun, hended, hW, hsame⟩ := X.leave (v := some w) (fun h => by rw [hret] at h; cases h) hlocks
  exact ⟨_, _, retOut X hx hret hn hi hd hr, hrun, hended, _, _, rfl, hq, ⟨_, rfl⟩, hW, hsame.mono hC hS⟩
theorem Run.outV (X : Stand p l e R s m args below meth c T locs cells slots) (hx : p.tables.exec = Jvm.exec) {Qb : Option Value → Heap → List Loc → Prop} {C S : Nat} {pc : Nat} {Ls : Array Slot} (hlocks : meth.locks = false) (hret : meth.sig.returnType = none)
    (hd : decode c.code pc = .ok (.return_, 1)) (hC : cells ≤ C) (hS : slots ≤ S) (hq : Qb none T.heap locs) : Run p e below (Ends s Qb C S) (T.setTop (mkF m pc Ls [])) := by
  obtain ⟨fs, hr, hrun, hended, hW, hsame⟩ := X.leave (v := none) (fun _ => rfl) hlocks
  exact ⟨_, _, X.returnOut hx hret hd hr, hrun, hended, _, _, rfl, hq, ⟨_, rfl⟩, hW, hsame.mono hC hS⟩
theorem lcYes {cd : ClassFile.Cond} {x y : Int64} {b : Bool} (h : ifCond.holds cd (Jvm.Free.XT.cmpL x y) = b) : ifCond.holds cd (lcmpW x y) = b := h
theorem nb01 {P : Prop} [Decidable P] : narrow .boolean (.int (if P then (1 : Int32) else (0 : Int32))) = .int (if P then (1 : Int32) else (0 : Int32)) := by split <;> rfl
theorem staK {Z : State} {h h' : Heap} {C n d : String} {v : Value} {ws : List Addr} (F : Sta Z h C n d v) (K : Keep h h' ws) (q : ∀ x ∈ ws, ∀ c : Cell, h[x]? = some c → c.vm.isStatics = false) : Sta Z h' C n d v := by
  obtain ⟨cf, i, k, f, st, cell, h1, h2, h3, h4, h5, h6, h7⟩ := F
  refine ⟨cf, i, k, f, st, cell, h1, h2, h3, h4, K.2.1 st cell h5 (fun m => ?_), h6, h7⟩
  have := q st m cell h5
  rw [h6] at this
  cases this
theorem exaP {Z : State} {h : Heap} {a : Addr} {C : String} (E : Exa Z h a C) : ∀ c : Cell, h[a]? = some c → c.vm.isStatics = false := fun c hc => by
  obtain ⟨cell, k, h1, -, -, h4, -⟩ := E
  cases h1.symm.trans hc
  exact h4
theorem arvP {Z : State} {h : Heap} {a : Addr} {k : ClassId} {ty : FieldType} {n : Int32} {vs : List Value} {d : Value} (E : Arv Z h a k ty n vs d) : ∀ c : Cell, h[a]? = some c → c.vm.isStatics = false := fun c hc => by
  obtain ⟨cell, A, -⟩ := E
  cases A.1.symm.trans hc
  exact A.plain
theorem selSelf {s : State} {args : Array Value} {y : MethodName} {n : Nat} (wi : (Jvm.Cond.instantiable y.cls n).before args s = true) (hp : s.PrivateAt y) (hi : (Jvm.Cond.instanceMethod y).before args s = true) (hy : y.cls ≠ "java/lang/invoke/MethodHandle" ∧ y.cls ≠ "java/lang/invoke/VarHandle") : (Jvm.Cond.selects y.cls y y).before args s = true := by
  obtain ⟨c, k, h1, h2, -, h4, -⟩ := Cond.instantiable_spec wi
  rw [Bool.or_eq_false_iff] at h4
  exact selects_self_of_private h1 h2 h4.1 hp hi hy
theorem own_lsw {tb : Tables} [Ours tb] {e : Env} {below : List Frame} {T target : State} {m : MethodId} {c : Code} {g : JFrame} (h : At T m c below) (hx : tb.exec = Jvm.exec) (hg : g.method = m) {dflt : Int} {ps : Array (Int × Int)} {len : Nat} {o : Int} {pc0 pc' : Nat} (hpc : g.pc = pc0) (hd : decode c.code g.pc = .ok (.lookupswitch dflt ps, len)) {i : Int32} {rest : List Value} (hs : g.stack = .int i :: rest)
    (hsort : ∀ q ∈ ps.toList.zip ps.toList.tail, q.1.1 < q.2.1) (hoff : lookupswitch.offset ps.toList dflt i.toInt = o) (ho : 0 ≤ (pc0 : Int) + o) (hp : ((pc0 : Int) + o).toNat = pc')
    (hr : Steps tb e below (T.setTop { g with pc := pc', stack := rest }) target) : Steps tb e below (T.setTop g) target := by
  subst hg hpc hp
  jvm_step h [h.top, hx, hd, hs, hoff, ho, lookupswitch.wp_chain]
  exact ⟨fun a b a1 b1 q => hsort _ q, hr⟩
theorem own_dupX2 {tb : Tables} [Ours tb] {e : Env} {below : List Frame} {T target : State} {m : MethodId} {c : Code} {g : JFrame} (h : At T m c below) (hx : tb.exec = Jvm.exec) (hg : g.method = m) {x y z : Value} {rest : List Value} (hd : decode c.code g.pc = .ok (.dup_x2, 1)) (hs : g.stack = x :: y :: z :: rest) (hc : x.category = 1) (hc' : y.category = 1) (hc'' : z.category = 1)
    (hr : Steps tb e below (T.setTop { g with pc := g.pc + 1, stack := x :: y :: z :: x :: rest }) target) : Steps tb e below (T.setTop g) target := by
  subst hg
  jvm_step h [h.top, hx, hd, hs, hc, hc', hc'']
  exact hr
theorem ord_v {args : Array Value} {s : State} {t : Term} {C n d : String} {k : Int32} {a : Addr} (ht : t.eval args s none [] s = some (.ref a)) (h : (Jvm.Cond.eq (.field t C n d) (.int k)).value args s none s [] = some true) : Fld s s.heap a C n d (.int k) := by
  refine Fld.start ?_
  rw [← fld_at (C := C) (n := n) (dd := d) ht]
  simp only [Cond.value] at h
  cases hv : (Term.field t C n d).eval args s none [] s with
  | none => simp [hv] at h
  | some v => cases v <;> simp_all [Term.eval]
theorem arr_len {args : Array Value} {s : State} {t : Term} {a : Addr} {cl : Cell} {ty : FieldType} {n : Int32} (ht : t.eval args s none [] s = some (.ref a)) (A : Arr s s.heap a cl ty) (h : (Jvm.Cond.eq (.length t) (.int n)).value args s none s [] = some true) : cl.slots.size < 2 ^ 31 ∧ cl.slots.size.toInt32 = n := by
  have ha := A.fin (Vm.Alike.refl s.vm)
  by_cases q : cl.slots.size < 2 ^ 31
  · refine ⟨q, ?_⟩
    have e := len_f ht ha q
    have e2 : (Term.int n).eval args s none [] s = some (.int n) := rfl
    simp only [Cond.value, e, e2] at h
    simpa using h
  · simp [Cond.value, Term.eval, ht, ha, q] at h
theorem arr_elR {args : Array Value} {s : State} {t u : Term} {a b : Addr} {cl : Cell} {ty : FieldType} {j : Int32} (ht : t.eval args s none [] s = some (.ref a)) (A : Arr s s.heap a cl ty) (h : (Jvm.Cond.eq (.elem t (.int j)) u).value args s none s [] = some true) (hu : u.eval args s none [] s = some (.ref b)) (hj : ¬ j < 0) : cl.slots[j.toNatClampNeg]? = some (.ref b) := by
  have ha := A.fin (Vm.Alike.refl s.vm)
  have e : (Term.elem t (.int j)).eval args s none [] s = cl.slots[j.toNatClampNeg]? := elem_f ht rfl ha hj
  simp only [Cond.value, hu, e] at h
  cases hv : cl.slots[j.toNatClampNeg]? with
  | none => simp [hv] at h
  | some v => cases v <;> simp_all
theorem arr_elI {args : Array Value} {s : State} {t : Term} {a : Addr} {cl : Cell} {ty : FieldType} {j k : Int32} (ht : t.eval args s none [] s = some (.ref a)) (A : Arr s s.heap a cl ty) (h : (Jvm.Cond.eq (.elem t (.int j)) (.int k)).value args s none s [] = some true) (hj : ¬ j < 0) : cl.slots[j.toNatClampNeg]? = some (.int k) := by
  have ha := A.fin (Vm.Alike.refl s.vm)
  have e : (Term.elem t (.int j)).eval args s none [] s = cl.slots[j.toNatClampNeg]? := elem_f ht rfl ha hj
  have e2 : (Term.int k).eval args s none [] s = some (.int k) := rfl
  simp only [Cond.value, e, e2] at h
  cases hv : cl.slots[j.toNatClampNeg]? with
  | none => simp [hv] at h
  | some v => cases v <;> simp_all
theorem own_get (vs : List Int32) (j : Nat) : (vs.map Value.int).getD j (.int (0 : Int32)) = .int (vs.getD j 0) := by
  simp only [List.getD_eq_getElem?_getD, List.getElem?_map]
  cases vs[j]? <;> rfl
theorem own_set (vs : List Int32) (j : Nat) (x : Int32) : (vs.map Value.int).set j (.int x) = (vs.set j x).map Value.int := by
  rw [List.map_set]
theorem own_ltm {vs : List Int32} {j : Nat} (h : j < vs.length) : j < (vs.map Value.int).length := by rw [List.length_map]; exact h
/-- where a run stands with this heap, whatever it has written among the new cells -/
def Good (p : Program) (l : Launch) (e : Env) (R : Room) (s : State) (m : MethodId) (args : Array Value) (below : List Frame) (meth : Method) (c : Code) (n0 cells slots : Nat) (H : Heap) (T : State) : Prop := ∃ locs, Stand p l e R s m args below meth c T locs cells slots ∧ Fr n0 locs ∧ T.heap = H
theorem inb32 {j z : Int32} {n : Int} (hz : z.toInt = n) (h0 : 0 ≤ j.toInt) (h1 : j.toInt < n) : ¬ j < 0 ∧ j < z := by
  rw [Int32.lt_iff_toInt_lt, Int32.lt_iff_toInt_lt, hz]
  have : (0 : Int32).toInt = 0 := by decide
  omega
theorem own_nn {n : Int32} (h : 0 ≤ n.toInt) : ¬ n < 0 := by
  rw [Int32.lt_iff_toInt_lt]
  have : (0 : Int32).toInt = 0 := by decide
  omega
theorem own_cap {n : Int32} {c : Nat} (h : n.toInt < (c : Int) + 1) : n.toNatClampNeg ≤ c := by
  simp only [Int32.toNatClampNeg]
  omega
theorem own_fin (x : Int32) (n : Nat) (hn : n < 2147483648) (h0 : 0 ≤ x.toInt) (h1 : x.toInt < n) : ∃ i : Fin n, x = Int32.ofNat i.1 := by
  refine ⟨⟨x.toInt.toNat, by omega⟩, Int32.toInt_inj.mp ?_⟩
  show x.toInt = (Int32.ofNat x.toInt.toNat).toInt
  rw [Int32.toInt_ofNat_small (by omega)]
  omega
def own_pl (x : Slot) : Prop := match x with | .second => False | .val y => y.category = 1 | .unset => True
theorem own_stl {ls ls' : Array Slot} {i : Nat} {x : Slot} {v : Value} (hx : ls[i]? = some x) (hv : v.category = 1) (h : own_pl x) (e : ls.setIfInBounds i (.val v) = ls' := by rfl) : storeLocals ls i v = some ls' := by
  subst e; refine storeLocals_cat1 hx hv ?_
  cases x with
  | second => exact h
  | unset => trivial
  | val y => exact h
theorem own_cat {v : Value} (h : v.isRef = true) : v.category = 1 := by
  rcases ref_cases h with rfl | ⟨_, rfl⟩ <;> rfl
end OwnRun
theorem hwi {aV : Array Value} {Z : State} (hw : ∀ d ∈ tables_1, d.before aV Z = true) (i : Nat) {d : Jvm.Cond} (e : tables_1[i]? = some d) : d.before aV Z = true := hw _ (List.mem_of_getElem? e)
theorem d6_0 : decode jdk_29_method_69_code 0 = .ok (.iload_n 0, 1) := by decide +kernel
theorem d6_1 : decode jdk_29_method_69_code 1 = .ok (.iload_n 1, 1) := by decide +kernel
theorem d6_2 : decode jdk_29_method_69_code 2 = .ok (.if_icmp .gt 7, 3) := by decide +kernel
theorem d6_5 : decode jdk_29_method_69_code 5 = .ok (.iload_n 0, 1) := by decide +kernel
theorem d6_6 : decode jdk_29_method_69_code 6 = .ok (.goto 4, 3) := by decide +kernel
theorem d6_9 : decode jdk_29_method_69_code 9 = .ok (.iload_n 1, 1) := by decide +kernel
theorem d6_10 : decode jdk_29_method_69_code 10 = .ok (.ireturn, 1) := by decide +kernel
theorem ef_Min (m : MethodId) (p0 : Int32) (p1 : Int32) : entryFrame m #[(.int p0), (.int p1)] 2 = mkF m 0 #[.val (.int p0), .val (.int p1)] [] := by first | (simp [entryFrame, mkF, argsToLocals, Value.category]; done) | rfl
def FMin (p0 : Int32) (p1 : Int32) : Int32 := (if p1 < p0 then p1 else p0)
def QMin (Z : State) (p0 : Int32) (p1 : Int32) (h0 : Heap) (n0 : Nat) (v : Option Value) (h : Heap) (L : List Loc) : Prop := v = some (.int (FMin p0 p1)) ∧ Fr n0 L ∧ h = h0
set_option maxRecDepth 65536 in
set_option maxHeartbeats 40000000 in
theorem rmMin (l : Launch) (Z : State) (aV : Array Value) (hw : ∀ d ∈ tables_1, d.before aV Z = true) (ws : List Jvm.Cond) (p0 : Int32) (p1 : Int32) (h0 : Heap) (n0 : Nat) (Zn : n0 ≤ h0.size) :
    MetFree l (⟨"java/lang/Math", "min", "(II)I"⟩ : MethodName) (head1 (Jvm.Cond.code (⟨"java/lang/Math", "min", "(II)I"⟩ : MethodName) jdk_29_method_69_code 2 (some .int) :: ws) ({ frames := 0, cells := 0, slots := 0, locals := 0 } : Room)) (fun a U => a = #[(.int p0), (.int p1)] ∧ Z.Warmed39 U.vm ∧ U.heap = h0) (fun _ _ _ _ _ => True) (fun _ U o U' => ∃ v L, o = .returned v ∧ QMin Z p0 p1 h0 n0 v U'.heap L ∧ FrameEnd U o U' L ({ frames := 0, cells := 0, slots := 0, locals := 0 } : Room).cells ({ frames := 0, cells := 0, slots := 0, locals := 0 } : Room).slots) := by
  refine MetFree.of_bodySF (Jvm.Free.JP.mathPlain rfl (by decide +kernel)) hisR ?_
  intro p e s m args below meth c s₁ Bd hml0 hP hK
  obtain ⟨rfl, hZ, hh⟩ := hP
  have hx := Bd.exec
  have hby := Bd.bytes
  have hml : c.maxLocals = 2 := hml0
  have hown : s.vm.findClass "java/lang/Math" = some m.cls := findClass_of_methodNamed Bd.named
  have hnm := (name_of_methodNamed Bd.named Bd.method).1
  have X0 : Stand p l e ({ frames := 0, cells := 0, slots := 0, locals := 0 } : Room) s m #[(.int p0), (.int p1)] below meth c s₁ [] 0 0 := Stand.of_body Bd
  have e0 : s₁.heap = h0 := by rw [← hh, Bd.state]; rfl
  have N0 := Fr.nil n0
  have Kp := Keep.refl h0 []
  show Run p e below (Ends s (QMin Z p0 p1 h0 n0) ({ frames := 0, cells := 0, slots := 0, locals := 0 } : Room).cells ({ frames := 0, cells := 0, slots := 0, locals := 0 } : Room).slots) _
  refine Run.st (S' := s₁.setTop (mkF m 0 #[.val (.int p0), .val (.int p1)] [])) (fun t k => castTop (ef_Min m p0 p1) k) ?_
  refine Run.st (S' := s₁.setTop (mkF m 2 #[.val (.int p0), .val (.int p1)] [(.int p1), (.int p0)])) (fun _ k => XS.iloadN X0.here hx rfl (hb hby d6_0) rfl (XS.iloadN X0.here hx rfl (hb hby d6_1) rfl k)) ?_
  by_cases hc2_1 : p1 < p0
  · refine Run.st (S' := s₁.setTop (mkF m 10 #[.val (.int p0), .val (.int p1)] [(.int p1)])) (fun _ k => XS.icmpYes X0.here hx rfl (pc0 := 2) (pc' := 9) rfl (hb hby d6_2) rfl (tlt hc2_1).2.2.1 (by decide) (by decide) (XS.iloadN X0.here hx rfl (hb hby d6_9) rfl k)) ?_
    refine Run.out X0 hx Bd.notSynchronized Bd.returns rfl (Or.inl ⟨rfl, by simp, _, rfl⟩) (hb hby d6_10) (by decide) (by decide) ?_
    rw [e0]
    exact ⟨by rw [FMin, if_pos hc2_1], N0, rfl⟩
  · refine Run.st (S' := s₁.setTop (mkF m 10 #[.val (.int p0), .val (.int p1)] [(.int p0)])) (fun _ k => XS.icmpNo X0.here hx rfl (hb hby d6_2) rfl (flt hc2_1).2.2.1 (XS.iloadN X0.here hx rfl (hb hby d6_5) rfl (XS.goto X0.here hx rfl (pc0 := 6) (pc' := 10) rfl (hb hby d6_6) (by decide) (by decide) k))) ?_
    refine Run.out X0 hx Bd.notSynchronized Bd.returns rfl (Or.inl ⟨rfl, by simp, _, rfl⟩) (hb hby d6_10) (by decide) (by decide) ?_
    rw [e0]
    exact ⟨by rw [FMin, if_neg hc2_1], N0, rfl⟩
theorem d7_0 : decode method_2_code 0 = .ok (.iload_n 0, 1) := by decide +kernel
theorem d7_1 : decode method_2_code 1 = .ok (.ifCond .eq 20, 3) := by decide +kernel
theorem d7_4 : decode method_2_code 4 = .ok (.iload_n 2, 1) := by decide +kernel
theorem d7_5 : decode method_2_code 5 = .ok (.bipush 10, 2) := by decide +kernel
theorem d7_7 : decode method_2_code 7 = .ok (.irem, 1) := by decide +kernel
theorem d7_8 : decode method_2_code 8 = .ok (.bipush 9, 2) := by decide +kernel
theorem d7_10 : decode method_2_code 10 = .ok (.if_icmp .ne 9, 3) := by decide +kernel
theorem d7_13 : decode method_2_code 13 = .ok (.iconst 4, 1) := by decide +kernel
theorem d7_14 : decode method_2_code 14 = .ok (.iload_n 1, 1) := by decide +kernel
theorem d7_15 : decode method_2_code 15 = .ok (.imul, 1) := by decide +kernel
theorem d7_16 : decode method_2_code 16 = .ok (.goto 4, 3) := by decide +kernel
theorem d7_19 : decode method_2_code 19 = .ok (.iload_n 1, 1) := by decide +kernel
theorem d7_20 : decode method_2_code 20 = .ok (.ireturn, 1) := by decide +kernel
theorem d7_21 : decode method_2_code 21 = .ok (.iload_n 2, 1) := by decide +kernel
theorem d7_22 : decode method_2_code 22 = .ok (.bipush 9, 2) := by decide +kernel
theorem d7_24 : decode method_2_code 24 = .ok (.if_icmp .ne 10, 3) := by decide +kernel
theorem d7_27 : decode method_2_code 27 = .ok (.bipush 16, 2) := by decide +kernel
theorem d7_29 : decode method_2_code 29 = .ok (.iload_n 1, 1) := by decide +kernel
theorem d7_30 : decode method_2_code 30 = .ok (.imul, 1) := by decide +kernel
theorem d7_31 : decode method_2_code 31 = .ok (.goto 6, 3) := by decide +kernel
theorem d7_34 : decode method_2_code 34 = .ok (.iconst 4, 1) := by decide +kernel
theorem d7_35 : decode method_2_code 35 = .ok (.iload_n 1, 1) := by decide +kernel
theorem d7_36 : decode method_2_code 36 = .ok (.imul, 1) := by decide +kernel
theorem d7_37 : decode method_2_code 37 = .ok (.ireturn, 1) := by decide +kernel
theorem pn_0 : plainName "com/example/sidewager/sidewager/analysis/ShoeHoldsPinLaw" = true := by first | (simp [plainName, overriddenIn]; done) | decide +kernel
theorem ef_Full (m : MethodId) (p0 : Int32) (p1 : Int32) (p2 : Int32) : entryFrame m #[(.int p0), (.int p1), (.int p2)] 3 = mkF m 0 #[.val (.int p0), .val (.int p1), .val (.int p2)] [] := by first | (simp [entryFrame, mkF, argsToLocals, Value.category]; done) | rfl
def FFull (p0 : Int32) (p1 : Int32) (p2 : Int32) : Int32 := (if p0 = (0 : Int32) then (if p2 = (9 : Int32) then ((16 : Int32) * p1) else ((4 : Int32) * p1)) else (if (p2 % (10 : Int32)) = (9 : Int32) then ((4 : Int32) * p1) else p1))
def QFull (Z : State) (p0 : Int32) (p1 : Int32) (p2 : Int32) (h0 : Heap) (n0 : Nat) (v : Option Value) (h : Heap) (L : List Loc) : Prop := v = some (.int (FFull p0 p1 p2)) ∧ Fr n0 L ∧ h = h0
set_option maxRecDepth 65536 in
set_option maxHeartbeats 40000000 in
theorem rmFull (l : Launch) (Z : State) (aV : Array Value) (hw : ∀ d ∈ tables_1, d.before aV Z = true) (ws : List Jvm.Cond) (p0 : Int32) (p1 : Int32) (p2 : Int32) (h0 : Heap) (n0 : Nat) (Zn : n0 ≤ h0.size) :
    MetFree l (⟨"com/example/sidewager/sidewager/analysis/ShoeHoldsPinLaw", "full", "(ZII)I"⟩ : MethodName) (head1 (Jvm.Cond.code (⟨"com/example/sidewager/sidewager/analysis/ShoeHoldsPinLaw", "full", "(ZII)I"⟩ : MethodName) method_2_code 3 (some .int) :: ws) ({ frames := 0, cells := 0, slots := 0, locals := 0 } : Room)) (fun a U => a = #[(.int p0), (.int p1), (.int p2)] ∧ Z.Warmed39 U.vm ∧ U.heap = h0) (fun _ _ _ _ _ => True) (fun _ U o U' => ∃ v L, o = .returned v ∧ QFull Z p0 p1 p2 h0 n0 v U'.heap L ∧ FrameEnd U o U' L ({ frames := 0, cells := 0, slots := 0, locals := 0 } : Room).cells ({ frames := 0, cells := 0, slots := 0, locals := 0 } : Room).slots) := by
  refine MetFree.of_bodySF (plainFor_of_name pn_0) hisR ?_
  intro p e s m args below meth c s₁ Bd hml0 hP hK
  obtain ⟨rfl, hZ, hh⟩ := hP
  have hx := Bd.exec
  have hby := Bd.bytes
  have hml : c.maxLocals = 3 := hml0
  have hown : s.vm.findClass "com/example/sidewager/sidewager/analysis/ShoeHoldsPinLaw" = some m.cls := findClass_of_methodNamed Bd.named
  have hnm := (name_of_methodNamed Bd.named Bd.method).1
  have X0 : Stand p l e ({ frames := 0, cells := 0, slots := 0, locals := 0 } : Room) s m #[(.int p0), (.int p1), (.int p2)] below meth c s₁ [] 0 0 := Stand.of_body Bd
  have e0 : s₁.heap = h0 := by rw [← hh, Bd.state]; rfl
  have N0 := Fr.nil n0
  have Kp := Keep.refl h0 []
  show Run p e below (Ends s (QFull Z p0 p1 p2 h0 n0) ({ frames := 0, cells := 0, slots := 0, locals := 0 } : Room).cells ({ frames := 0, cells := 0, slots := 0, locals := 0 } : Room).slots) _
  refine Run.st (S' := s₁.setTop (mkF m 0 #[.val (.int p0), .val (.int p1), .val (.int p2)] [])) (fun t k => castTop (ef_Full m p0 p1 p2) k) ?_
  refine Run.st (S' := s₁.setTop (mkF m 1 #[.val (.int p0), .val (.int p1), .val (.int p2)] [(.int p0)])) (fun _ k => XS.iloadN X0.here hx rfl (hb hby d7_0) rfl k) ?_
  by_cases hc1_1 : p0 = (0 : Int32)
  · refine Run.st (S' := s₁.setTop (mkF m 24 #[.val (.int p0), .val (.int p1), .val (.int p2)] [(.int (9 : Int32)), (.int p2)])) (fun _ k => XS.ifYes X0.here hx rfl (pc0 := 1) (pc' := 21) rfl (hb hby d7_1) rfl ((if0 _ _).trans (teq hc1_1).1) (by decide) (by decide) (XS.iloadN X0.here hx rfl (hb hby d7_21) rfl (XS.bipush X0.here hx rfl (hb hby d7_22) k))) ?_
    by_cases hc24_2 : p2 = (9 : Int32)
    · refine Run.st (S' := s₁.setTop (mkF m 37 #[.val (.int p0), .val (.int p1), .val (.int p2)] [(.int ((16 : Int32) * p1))])) (fun _ k => XS.icmpNo X0.here hx rfl (hb hby d7_24) rfl (teq hc24_2).2 (XS.bipush X0.here hx rfl (hb hby d7_27) (XS.iloadN X0.here hx rfl (hb hby d7_29) rfl (XS.imul X0.here hx rfl (hb hby d7_30) rfl (XS.goto X0.here hx rfl (pc0 := 31) (pc' := 37) rfl (hb hby d7_31) (by decide) (by decide) k))))) ?_
      refine Run.out X0 hx Bd.notSynchronized Bd.returns rfl (Or.inl ⟨rfl, by simp, _, rfl⟩) (hb hby d7_37) (by decide) (by decide) ?_
      rw [e0]
      exact ⟨by rw [FFull, if_pos hc1_1, if_pos hc24_2], N0, rfl⟩
    · refine Run.st (S' := s₁.setTop (mkF m 37 #[.val (.int p0), .val (.int p1), .val (.int p2)] [(.int ((4 : Int32) * p1))])) (fun _ k => XS.icmpYes X0.here hx rfl (pc0 := 24) (pc' := 34) rfl (hb hby d7_24) rfl (feq hc24_2).2 (by decide) (by decide) (XS.iconst X0.here hx rfl (hb hby d7_34) (XS.iloadN X0.here hx rfl (hb hby d7_35) rfl (XS.imul X0.here hx rfl (hb hby d7_36) rfl k)))) ?_
      refine Run.out X0 hx Bd.notSynchronized Bd.returns rfl (Or.inl ⟨rfl, by simp, _, rfl⟩) (hb hby d7_37) (by decide) (by decide) ?_
      rw [e0]
      exact ⟨by rw [FFull, if_pos hc1_1, if_neg hc24_2], N0, rfl⟩
  · refine Run.st (S' := s₁.setTop (mkF m 10 #[.val (.int p0), .val (.int p1), .val (.int p2)] [(.int (9 : Int32)), (.int (p2 % (10 : Int32)))])) (fun _ k => XS.ifNo X0.here hx rfl (hb hby d7_1) rfl ((if0 _ _).trans (feq hc1_1).1) (XS.iloadN X0.here hx rfl (hb hby d7_4) rfl (XS.bipush X0.here hx rfl (hb hby d7_5) (iremM X0 hx rfl (hb hby d7_7) rfl (by decide) (XS.bipush X0.here hx rfl (hb hby d7_8) k))))) ?_
    by_cases hc10_3 : (p2 % (10 : Int32)) = (9 : Int32)
    · refine Run.st (S' := s₁.setTop (mkF m 20 #[.val (.int p0), .val (.int p1), .val (.int p2)] [(.int ((4 : Int32) * p1))])) (fun _ k => XS.icmpNo X0.here hx rfl (hb hby d7_10) rfl (teq hc10_3).2 (XS.iconst X0.here hx rfl (hb hby d7_13) (XS.iloadN X0.here hx rfl (hb hby d7_14) rfl (XS.imul X0.here hx rfl (hb hby d7_15) rfl (XS.goto X0.here hx rfl (pc0 := 16) (pc' := 20) rfl (hb hby d7_16) (by decide) (by decide) k))))) ?_
      refine Run.out X0 hx Bd.notSynchronized Bd.returns rfl (Or.inl ⟨rfl, by simp, _, rfl⟩) (hb hby d7_20) (by decide) (by decide) ?_
      rw [e0]
      exact ⟨by rw [FFull, if_neg hc1_1, if_pos hc10_3], N0, rfl⟩
    · refine Run.st (S' := s₁.setTop (mkF m 20 #[.val (.int p0), .val (.int p1), .val (.int p2)] [(.int p1)])) (fun _ k => XS.icmpYes X0.here hx rfl (pc0 := 10) (pc' := 19) rfl (hb hby d7_10) rfl (feq hc10_3).2 (by decide) (by decide) (XS.iloadN X0.here hx rfl (hb hby d7_19) rfl k)) ?_
      refine Run.out X0 hx Bd.notSynchronized Bd.returns rfl (Or.inl ⟨rfl, by simp, _, rfl⟩) (hb hby d7_20) (by decide) (by decide) ?_
      rw [e0]
      exact ⟨by rw [FFull, if_neg hc1_1, if_neg hc10_3], N0, rfl⟩
theorem d10_0 : decode method_4_code 0 = .ok (.iconst 0, 1) := by decide +kernel
theorem d10_1 : decode method_4_code 1 = .ok (.istore 5, 2) := by decide +kernel
theorem d10_3 : decode method_4_code 3 = .ok (.iload_n 1, 1) := by decide +kernel
theorem d10_4 : decode method_4_code 4 = .ok (.ifCond .le 11, 3) := by decide +kernel
theorem d10_7 : decode method_4_code 7 = .ok (.iload_n 2, 1) := by decide +kernel
theorem d10_8 : decode method_4_code 8 = .ok (.iload_n 0, 1) := by decide +kernel
theorem d10_9 : decode method_4_code 9 = .ok (.if_icmp .ne 6, 3) := by decide +kernel
theorem d10_12 : decode method_4_code 12 = .ok (.iinc 5 1, 3) := by decide +kernel
theorem d10_15 : decode method_4_code 15 = .ok (.iload_n 1, 1) := by decide +kernel
theorem d10_16 : decode method_4_code 16 = .ok (.iconst 1, 1) := by decide +kernel
theorem d10_17 : decode method_4_code 17 = .ok (.if_icmp .le 11, 3) := by decide +kernel
theorem d10_20 : decode method_4_code 20 = .ok (.iload_n 3, 1) := by decide +kernel
theorem d10_21 : decode method_4_code 21 = .ok (.iload_n 0, 1) := by decide +kernel
theorem d10_22 : decode method_4_code 22 = .ok (.if_icmp .ne 6, 3) := by decide +kernel
theorem d10_25 : decode method_4_code 25 = .ok (.iinc 5 1, 3) := by decide +kernel
theorem d10_28 : decode method_4_code 28 = .ok (.iload_n 1, 1) := by decide +kernel
theorem d10_29 : decode method_4_code 29 = .ok (.iconst 2, 1) := by decide +kernel
theorem d10_30 : decode method_4_code 30 = .ok (.if_icmp .le 12, 3) := by decide +kernel
theorem d10_33 : decode method_4_code 33 = .ok (.iload 4, 2) := by decide +kernel
theorem d10_35 : decode method_4_code 35 = .ok (.iload_n 0, 1) := by decide +kernel
theorem d10_36 : decode method_4_code 36 = .ok (.if_icmp .ne 6, 3) := by decide +kernel
theorem d10_39 : decode method_4_code 39 = .ok (.iinc 5 1, 3) := by decide +kernel
theorem d10_42 : decode method_4_code 42 = .ok (.iload 5, 2) := by decide +kernel
theorem d10_44 : decode method_4_code 44 = .ok (.ireturn, 1) := by decide +kernel
theorem ef_Cnt (m : MethodId) (p0 : Int32) (p1 : Int32) (p2 : Int32) (p3 : Int32) (p4 : Int32) : entryFrame m #[(.int p0), (.int p1), (.int p2), (.int p3), (.int p4)] 6 = mkF m 0 #[.val (.int p0), .val (.int p1), .val (.int p2), .val (.int p3), .val (.int p4), .unset] [] := by first | (simp [entryFrame, mkF, argsToLocals, Value.category]; done) | rfl
def FCnt (p0 : Int32) (p1 : Int32) (p2 : Int32) (p3 : Int32) (p4 : Int32) : Int32 := (if (0 : Int32) < p1 then (if p2 = p0 then (if (1 : Int32) < p1 then (if p3 = p0 then (if (2 : Int32) < p1 then (if p4 = p0 then (3 : Int32) else (2 : Int32)) else (2 : Int32)) else (if (2 : Int32) < p1 then (if p4 = p0 then (2 : Int32) else (1 : Int32)) else (1 : Int32))) else (if (2 : Int32) < p1 then (if p4 = p0 then (2 : Int32) else (1 : Int32)) else (1 : Int32))) else (if (1 : Int32) < p1 then (if p3 = p0 then (if (2 : Int32) < p1 then (if p4 = p0 then (2 : Int32) else (1 : Int32)) else (1 : Int32)) else (if (2 : Int32) < p1 then (if p4 = p0 then (1 : Int32) else (0 : Int32)) else (0 : Int32))) else (if (2 : Int32) < p1 then (if p4 = p0 then (1 : Int32) else (0 : Int32)) else (0 : Int32)))) else (if (1 : Int32) < p1 then (if p3 = p0 then (if (2 : Int32) < p1 then (if p4 = p0 then (2 : Int32) else (1 : Int32)) else (1 : Int32)) else (if (2 : Int32) < p1 then (if p4 = p0 then (1 : Int32) else (0 : Int32)) else (0 : Int32))) else (if (2 : Int32) < p1 then (if p4 = p0 then (1 : Int32) else (0 : Int32)) else (0 : Int32))))
def QCnt (Z : State) (p0 : Int32) (p1 : Int32) (p2 : Int32) (p3 : Int32) (p4 : Int32) (h0 : Heap) (n0 : Nat) (v : Option Value) (h : Heap) (L : List Loc) : Prop := v = some (.int (FCnt p0 p1 p2 p3 p4)) ∧ Fr n0 L ∧ h = h0
set_option maxRecDepth 65536 in
set_option maxHeartbeats 40000000 in
theorem rmCnt (l : Launch) (Z : State) (aV : Array Value) (hw : ∀ d ∈ tables_1, d.before aV Z = true) (ws : List Jvm.Cond) (p0 : Int32) (p1 : Int32) (p2 : Int32) (p3 : Int32) (p4 : Int32) (h0 : Heap) (n0 : Nat) (Zn : n0 ≤ h0.size) :
    MetFree l (⟨"com/example/sidewager/sidewager/analysis/ShoeHoldsPinLaw", "cnt", "(IIIII)I"⟩ : MethodName) (head1 (Jvm.Cond.code (⟨"com/example/sidewager/sidewager/analysis/ShoeHoldsPinLaw", "cnt", "(IIIII)I"⟩ : MethodName) method_4_code 6 (some .int) :: ws) ({ frames := 0, cells := 0, slots := 0, locals := 0 } : Room)) (fun a U => a = #[(.int p0), (.int p1), (.int p2), (.int p3), (.int p4)] ∧ Z.Warmed39 U.vm ∧ U.heap = h0) (fun _ _ _ _ _ => True) (fun _ U o U' => ∃ v L, o = .returned v ∧ QCnt Z p0 p1 p2 p3 p4 h0 n0 v U'.heap L ∧ FrameEnd U o U' L ({ frames := 0, cells := 0, slots := 0, locals := 0 } : Room).cells ({ frames := 0, cells := 0, slots := 0, locals := 0 } : Room).slots) := by
  refine MetFree.of_bodySF (plainFor_of_name pn_0) hisR ?_
  intro p e s m args below meth c s₁ Bd hml0 hP hK
  obtain ⟨rfl, hZ, hh⟩ := hP
  have hx := Bd.exec
  have hby := Bd.bytes
  have hml : c.maxLocals = 6 := hml0
  have hown : s.vm.findClass "com/example/sidewager/sidewager/analysis/ShoeHoldsPinLaw" = some m.cls := findClass_of_methodNamed Bd.named
  have hnm := (name_of_methodNamed Bd.named Bd.method).1
  have X0 : Stand p l e ({ frames := 0, cells := 0, slots := 0, locals := 0 } : Room) s m #[(.int p0), (.int p1), (.int p2), (.int p3), (.int p4)] below meth c s₁ [] 0 0 := Stand.of_body Bd
  have e0 : s₁.heap = h0 := by rw [← hh, Bd.state]; rfl
  have N0 := Fr.nil n0
  have Kp := Keep.refl h0 []
  show Run p e below (Ends s (QCnt Z p0 p1 p2 p3 p4 h0 n0) ({ frames := 0, cells := 0, slots := 0, locals := 0 } : Room).cells ({ frames := 0, cells := 0, slots := 0, locals := 0 } : Room).slots) _
  refine Run.st (S' := s₁.setTop (mkF m 0 #[.val (.int p0), .val (.int p1), .val (.int p2), .val (.int p3), .val (.int p4), .unset] [])) (fun t k => castTop (ef_Cnt m p0 p1 p2 p3 p4) k) ?_
  refine Run.st (S' := s₁.setTop (mkF m 4 #[.val (.int p0), .val (.int p1), .val (.int p2), .val (.int p3), .val (.int p4), .val (.int (0 : Int32))] [(.int p1)])) (fun _ k => XS.iconst X0.here hx rfl (hb hby d10_0) (XS.istore X0.here hx rfl (hb hby d10_1) rfl (l' := #[.val (.int p0), .val (.int p1), .val (.int p2), .val (.int p3), .val (.int p4), .val (.int (0 : Int32))]) rfl (XS.iloadN X0.here hx rfl (hb hby d10_3) rfl k))) ?_
  by_cases hc4_1 : (0 : Int32) < p1
  · refine Run.st (S' := s₁.setTop (mkF m 9 #[.val (.int p0), .val (.int p1), .val (.int p2), .val (.int p3), .val (.int p4), .val (.int (0 : Int32))] [(.int p0), (.int p2)])) (fun _ k => XS.ifNo X0.here hx rfl (hb hby d10_4) rfl ((if0 _ _).trans (tlt hc4_1).2.2.2) (XS.iloadN X0.here hx rfl (hb hby d10_7) rfl (XS.iloadN X0.here hx rfl (hb hby d10_8) rfl k))) ?_
    by_cases hc9_2 : p2 = p0
    · refine Run.st (S' := s₁.setTop (mkF m 17 #[.val (.int p0), .val (.int p1), .val (.int p2), .val (.int p3), .val (.int p4), .val (.int (1 : Int32))] [(.int (1 : Int32)), (.int p1)])) (fun _ k => XS.icmpNo X0.here hx rfl (hb hby d10_9) rfl (teq hc9_2).2 (XS.iinc X0.here hx rfl (hb hby d10_12) rfl (l' := #[.val (.int p0), .val (.int p1), .val (.int p2), .val (.int p3), .val (.int p4), .val (.int (1 : Int32))]) rfl (XS.iloadN X0.here hx rfl (hb hby d10_15) rfl (XS.iconst X0.here hx rfl (hb hby d10_16) k)))) ?_
      by_cases hc17_3 : (1 : Int32) < p1
      · refine Run.st (S' := s₁.setTop (mkF m 22 #[.val (.int p0), .val (.int p1), .val (.int p2), .val (.int p3), .val (.int p4), .val (.int (1 : Int32))] [(.int p0), (.int p3)])) (fun _ k => XS.icmpNo X0.here hx rfl (hb hby d10_17) rfl (tlt hc17_3).2.2.2 (XS.iloadN X0.here hx rfl (hb hby d10_20) rfl (XS.iloadN X0.here hx rfl (hb hby d10_21) rfl k))) ?_
        by_cases hc22_4 : p3 = p0
        · refine Run.st (S' := s₁.setTop (mkF m 30 #[.val (.int p0), .val (.int p1), .val (.int p2), .val (.int p3), .val (.int p4), .val (.int (2 : Int32))] [(.int (2 : Int32)), (.int p1)])) (fun _ k => XS.icmpNo X0.here hx rfl (hb hby d10_22) rfl (teq hc22_4).2 (XS.iinc X0.here hx rfl (hb hby d10_25) rfl (l' := #[.val (.int p0), .val (.int p1), .val (.int p2), .val (.int p3), .val (.int p4), .val (.int (2 : Int32))]) rfl (XS.iloadN X0.here hx rfl (hb hby d10_28) rfl (XS.iconst X0.here hx rfl (hb hby d10_29) k)))) ?_
          by_cases hc30_5 : (2 : Int32) < p1
          · refine Run.st (S' := s₁.setTop (mkF m 36 #[.val (.int p0), .val (.int p1), .val (.int p2), .val (.int p3), .val (.int p4), .val (.int (2 : Int32))] [(.int p0), (.int p4)])) (fun _ k => XS.icmpNo X0.here hx rfl (hb hby d10_30) rfl (tlt hc30_5).2.2.2 (XS.iload X0.here hx rfl (hb hby d10_33) rfl (XS.iloadN X0.here hx rfl (hb hby d10_35) rfl k))) ?_
            by_cases hc36_6 : p4 = p0
            · refine Run.st (S' := s₁.setTop (mkF m 44 #[.val (.int p0), .val (.int p1), .val (.int p2), .val (.int p3), .val (.int p4), .val (.int (3 : Int32))] [(.int (3 : Int32))])) (fun _ k => XS.icmpNo X0.here hx rfl (hb hby d10_36) rfl (teq hc36_6).2 (XS.iinc X0.here hx rfl (hb hby d10_39) rfl (l' := #[.val (.int p0), .val (.int p1), .val (.int p2), .val (.int p3), .val (.int p4), .val (.int (3 : Int32))]) rfl (XS.iload X0.here hx rfl (hb hby d10_42) rfl k))) ?_
              refine Run.out X0 hx Bd.notSynchronized Bd.returns rfl (Or.inl ⟨rfl, by simp, _, rfl⟩) (hb hby d10_44) (by decide) (by decide) ?_
              rw [e0]
              exact ⟨by rw [FCnt, if_pos hc4_1, if_pos hc9_2, if_pos hc17_3, if_pos hc22_4, if_pos hc30_5, if_pos hc36_6], N0, rfl⟩
            · refine Run.st (S' := s₁.setTop (mkF m 44 #[.val (.int p0), .val (.int p1), .val (.int p2), .val (.int p3), .val (.int p4), .val (.int (2 : Int32))] [(.int (2 : Int32))])) (fun _ k => XS.icmpYes X0.here hx rfl (pc0 := 36) (pc' := 42) rfl (hb hby d10_36) rfl (feq hc36_6).2 (by decide) (by decide) (XS.iload X0.here hx rfl (hb hby d10_42) rfl k)) ?_
              refine Run.out X0 hx Bd.notSynchronized Bd.returns rfl (Or.inl ⟨rfl, by simp, _, rfl⟩) (hb hby d10_44) (by decide) (by decide) ?_
              rw [e0]
              exact ⟨by rw [FCnt, if_pos hc4_1, if_pos hc9_2, if_pos hc17_3, if_pos hc22_4, if_pos hc30_5, if_neg hc36_6], N0, rfl⟩
          · refine Run.st (S' := s₁.setTop (mkF m 44 #[.val (.int p0), .val (.int p1), .val (.int p2), .val (.int p3), .val (.int p4), .val (.int (2 : Int32))] [(.int (2 : Int32))])) (fun _ k => XS.icmpYes X0.here hx rfl (pc0 := 30) (pc' := 42) rfl (hb hby d10_30) rfl (flt hc30_5).2.2.2 (by decide) (by decide) (XS.iload X0.here hx rfl (hb hby d10_42) rfl k)) ?_
            refine Run.out X0 hx Bd.notSynchronized Bd.returns rfl (Or.inl ⟨rfl, by simp, _, rfl⟩) (hb hby d10_44) (by decide) (by decide) ?_
            rw [e0]
            exact ⟨by rw [FCnt, if_pos hc4_1, if_pos hc9_2, if_pos hc17_3, if_pos hc22_4, if_neg hc30_5], N0, rfl⟩
        · refine Run.st (S' := s₁.setTop (mkF m 30 #[.val (.int p0), .val (.int p1), .val (.int p2), .val (.int p3), .val (.int p4), .val (.int (1 : Int32))] [(.int (2 : Int32)), (.int p1)])) (fun _ k => XS.icmpYes X0.here hx rfl (pc0 := 22) (pc' := 28) rfl (hb hby d10_22) rfl (feq hc22_4).2 (by decide) (by decide) (XS.iloadN X0.here hx rfl (hb hby d10_28) rfl (XS.iconst X0.here hx rfl (hb hby d10_29) k))) ?_
          by_cases hc30_7 : (2 : Int32) < p1
          · refine Run.st (S' := s₁.setTop (mkF m 36 #[.val (.int p0), .val (.int p1), .val (.int p2), .val (.int p3), .val (.int p4), .val (.int (1 : Int32))] [(.int p0), (.int p4)])) (fun _ k => XS.icmpNo X0.here hx rfl (hb hby d10_30) rfl (tlt hc30_7).2.2.2 (XS.iload X0.here hx rfl (hb hby d10_33) rfl (XS.iloadN X0.here hx rfl (hb hby d10_35) rfl k))) ?_
            by_cases hc36_8 : p4 = p0
            · refine Run.st (S' := s₁.setTop (mkF m 44 #[.val (.int p0), .val (.int p1), .val (.int p2), .val (.int p3), .val (.int p4), .val (.int (2 : Int32))] [(.int (2 : Int32))])) (fun _ k => XS.icmpNo X0.here hx rfl (hb hby d10_36) rfl (teq hc36_8).2 (XS.iinc X0.here hx rfl (hb hby d10_39) rfl (l' := #[.val (.int p0), .val (.int p1), .val (.int p2), .val (.int p3), .val (.int p4), .val (.int (2 : Int32))]) rfl (XS.iload X0.here hx rfl (hb hby d10_42) rfl k))) ?_
              refine Run.out X0 hx Bd.notSynchronized Bd.returns rfl (Or.inl ⟨rfl, by simp, _, rfl⟩) (hb hby d10_44) (by decide) (by decide) ?_
              rw [e0]
              exact ⟨by rw [FCnt, if_pos hc4_1, if_pos hc9_2, if_pos hc17_3, if_neg hc22_4, if_pos hc30_7, if_pos hc36_8], N0, rfl⟩
            · refine Run.st (S' := s₁.setTop (mkF m 44 #[.val (.int p0), .val (.int p1), .val (.int p2), .val (.int p3), .val (.int p4), .val (.int (1 : Int32))] [(.int (1 : Int32))])) (fun _ k => XS.icmpYes X0.here hx rfl (pc0 := 36) (pc' := 42) rfl (hb hby d10_36) rfl (feq hc36_8).2 (by decide) (by decide) (XS.iload X0.here hx rfl (hb hby d10_42) rfl k)) ?_
              refine Run.out X0 hx Bd.notSynchronized Bd.returns rfl (Or.inl ⟨rfl, by simp, _, rfl⟩) (hb hby d10_44) (by decide) (by decide) ?_
              rw [e0]
              exact ⟨by rw [FCnt, if_pos hc4_1, if_pos hc9_2, if_pos hc17_3, if_neg hc22_4, if_pos hc30_7, if_neg hc36_8], N0, rfl⟩
          · refine Run.st (S' := s₁.setTop (mkF m 44 #[.val (.int p0), .val (.int p1), .val (.int p2), .val (.int p3), .val (.int p4), .val (.int (1 : Int32))] [(.int (1 : Int32))])) (fun _ k => XS.icmpYes X0.here hx rfl (pc0 := 30) (pc' := 42) rfl (hb hby d10_30) rfl (flt hc30_7).2.2.2 (by decide) (by decide) (XS.iload X0.here hx rfl (hb hby d10_42) rfl k)) ?_
            refine Run.out X0 hx Bd.notSynchronized Bd.returns rfl (Or.inl ⟨rfl, by simp, _, rfl⟩) (hb hby d10_44) (by decide) (by decide) ?_
            rw [e0]
            exact ⟨by rw [FCnt, if_pos hc4_1, if_pos hc9_2, if_pos hc17_3, if_neg hc22_4, if_neg hc30_7], N0, rfl⟩
      · refine Run.st (S' := s₁.setTop (mkF m 30 #[.val (.int p0), .val (.int p1), .val (.int p2), .val (.int p3), .val (.int p4), .val (.int (1 : Int32))] [(.int (2 : Int32)), (.int p1)])) (fun _ k => XS.icmpYes X0.here hx rfl (pc0 := 17) (pc' := 28) rfl (hb hby d10_17) rfl (flt hc17_3).2.2.2 (by decide) (by decide) (XS.iloadN X0.here hx rfl (hb hby d10_28) rfl (XS.iconst X0.here hx rfl (hb hby d10_29) k))) ?_
        by_cases hc30_9 : (2 : Int32) < p1
        · refine Run.st (S' := s₁.setTop (mkF m 36 #[.val (.int p0), .val (.int p1), .val (.int p2), .val (.int p3), .val (.int p4), .val (.int (1 : Int32))] [(.int p0), (.int p4)])) (fun _ k => XS.icmpNo X0.here hx rfl (hb hby d10_30) rfl (tlt hc30_9).2.2.2 (XS.iload X0.here hx rfl (hb hby d10_33) rfl (XS.iloadN X0.here hx rfl (hb hby d10_35) rfl k))) ?_
          by_cases hc36_10 : p4 = p0
          · refine Run.st (S' := s₁.setTop (mkF m 44 #[.val (.int p0), .val (.int p1), .val (.int p2), .val (.int p3), .val (.int p4), .val (.int (2 : Int32))] [(.int (2 : Int32))])) (fun _ k => XS.icmpNo X0.here hx rfl (hb hby d10_36) rfl (teq hc36_10).2 (XS.iinc X0.here hx rfl (hb hby d10_39) rfl (l' := #[.val (.int p0), .val (.int p1), .val (.int p2), .val (.int p3), .val (.int p4), .val (.int (2 : Int32))]) rfl (XS.iload X0.here hx rfl (hb hby d10_42) rfl k))) ?_
            refine Run.out X0 hx Bd.notSynchronized Bd.returns rfl (Or.inl ⟨rfl, by simp, _, rfl⟩) (hb hby d10_44) (by decide) (by decide) ?_
            rw [e0]
            exact ⟨by rw [FCnt, if_pos hc4_1, if_pos hc9_2, if_neg hc17_3, if_pos hc30_9, if_pos hc36_10], N0, rfl⟩
          · refine Run.st (S' := s₁.setTop (mkF m 44 #[.val (.int p0), .val (.int p1), .val (.int p2), .val (.int p3), .val (.int p4), .val (.int (1 : Int32))] [(.int (1 : Int32))])) (fun _ k => XS.icmpYes X0.here hx rfl (pc0 := 36) (pc' := 42) rfl (hb hby d10_36) rfl (feq hc36_10).2 (by decide) (by decide) (XS.iload X0.here hx rfl (hb hby d10_42) rfl k)) ?_
            refine Run.out X0 hx Bd.notSynchronized Bd.returns rfl (Or.inl ⟨rfl, by simp, _, rfl⟩) (hb hby d10_44) (by decide) (by decide) ?_
            rw [e0]
            exact ⟨by rw [FCnt, if_pos hc4_1, if_pos hc9_2, if_neg hc17_3, if_pos hc30_9, if_neg hc36_10], N0, rfl⟩
        · refine Run.st (S' := s₁.setTop (mkF m 44 #[.val (.int p0), .val (.int p1), .val (.int p2), .val (.int p3), .val (.int p4), .val (.int (1 : Int32))] [(.int (1 : Int32))])) (fun _ k => XS.icmpYes X0.here hx rfl (pc0 := 30) (pc' := 42) rfl (hb hby d10_30) rfl (flt hc30_9).2.2.2 (by decide) (by decide) (XS.iload X0.here hx rfl (hb hby d10_42) rfl k)) ?_
          refine Run.out X0 hx Bd.notSynchronized Bd.returns rfl (Or.inl ⟨rfl, by simp, _, rfl⟩) (hb hby d10_44) (by decide) (by decide) ?_
          rw [e0]
          exact ⟨by rw [FCnt, if_pos hc4_1, if_pos hc9_2, if_neg hc17_3, if_neg hc30_9], N0, rfl⟩
    · refine Run.st (S' := s₁.setTop (mkF m 17 #[.val (.int p0), .val (.int p1), .val (.int p2), .val (.int p3), .val (.int p4), .val (.int (0 : Int32))] [(.int (1 : Int32)), (.int p1)])) (fun _ k => XS.icmpYes X0.here hx rfl (pc0 := 9) (pc' := 15) rfl (hb hby d10_9) rfl (feq hc9_2).2 (by decide) (by decide) (XS.iloadN X0.here hx rfl (hb hby d10_15) rfl (XS.iconst X0.here hx rfl (hb hby d10_16) k))) ?_
      by_cases hc17_11 : (1 : Int32) < p1
      · refine Run.st (S' := s₁.setTop (mkF m 22 #[.val (.int p0), .val (.int p1), .val (.int p2), .val (.int p3), .val (.int p4), .val (.int (0 : Int32))] [(.int p0), (.int p3)])) (fun _ k => XS.icmpNo X0.here hx rfl (hb hby d10_17) rfl (tlt hc17_11).2.2.2 (XS.iloadN X0.here hx rfl (hb hby d10_20) rfl (XS.iloadN X0.here hx rfl (hb hby d10_21) rfl k))) ?_
        by_cases hc22_12 : p3 = p0
        · refine Run.st (S' := s₁.setTop (mkF m 30 #[.val (.int p0), .val (.int p1), .val (.int p2), .val (.int p3), .val (.int p4), .val (.int (1 : Int32))] [(.int (2 : Int32)), (.int p1)])) (fun _ k => XS.icmpNo X0.here hx rfl (hb hby d10_22) rfl (teq hc22_12).2 (XS.iinc X0.here hx rfl (hb hby d10_25) rfl (l' := #[.val (.int p0), .val (.int p1), .val (.int p2), .val (.int p3), .val (.int p4), .val (.int (1 : Int32))]) rfl (XS.iloadN X0.here hx rfl (hb hby d10_28) rfl (XS.iconst X0.here hx rfl (hb hby d10_29) k)))) ?_
          by_cases hc30_13 : (2 : Int32) < p1
          · refine Run.st (S' := s₁.setTop (mkF m 36 #[.val (.int p0), .val (.int p1), .val (.int p2), .val (.int p3), .val (.int p4), .val (.int (1 : Int32))] [(.int p0), (.int p4)])) (fun _ k => XS.icmpNo X0.here hx rfl (hb hby d10_30) rfl (tlt hc30_13).2.2.2 (XS.iload X0.here hx rfl (hb hby d10_33) rfl (XS.iloadN X0.here hx rfl (hb hby d10_35) rfl k))) ?_
            by_cases hc36_14 : p4 = p0
            · refine Run.st (S' := s₁.setTop (mkF m 44 #[.val (.int p0), .val (.int p1), .val (.int p2), .val (.int p3), .val (.int p4), .val (.int (2 : Int32))] [(.int (2 : Int32))])) (fun _ k => XS.icmpNo X0.here hx rfl (hb hby d10_36) rfl (teq hc36_14).2 (XS.iinc X0.here hx rfl (hb hby d10_39) rfl (l' := #[.val (.int p0), .val (.int p1), .val (.int p2), .val (.int p3), .val (.int p4), .val (.int (2 : Int32))]) rfl (XS.iload X0.here hx rfl (hb hby d10_42) rfl k))) ?_
              refine Run.out X0 hx Bd.notSynchronized Bd.returns rfl (Or.inl ⟨rfl, by simp, _, rfl⟩) (hb hby d10_44) (by decide) (by decide) ?_
              rw [e0]
              exact ⟨by rw [FCnt, if_pos hc4_1, if_neg hc9_2, if_pos hc17_11, if_pos hc22_12, if_pos hc30_13, if_pos hc36_14], N0, rfl⟩
            · refine Run.st (S' := s₁.setTop (mkF m 44 #[.val (.int p0), .val (.int p1), .val (.int p2), .val (.int p3), .val (.int p4), .val (.int (1 : Int32))] [(.int (1 : Int32))])) (fun _ k => XS.icmpYes X0.here hx rfl (pc0 := 36) (pc' := 42) rfl (hb hby d10_36) rfl (feq hc36_14).2 (by decide) (by decide) (XS.iload X0.here hx rfl (hb hby d10_42) rfl k)) ?_
              refine Run.out X0 hx Bd.notSynchronized Bd.returns rfl (Or.inl ⟨rfl, by simp, _, rfl⟩) (hb hby d10_44) (by decide) (by decide) ?_
              rw [e0]
              exact ⟨by rw [FCnt, if_pos hc4_1, if_neg hc9_2, if_pos hc17_11, if_pos hc22_12, if_pos hc30_13, if_neg hc36_14], N0, rfl⟩
          · refine Run.st (S' := s₁.setTop (mkF m 44 #[.val (.int p0), .val (.int p1), .val (.int p2), .val (.int p3), .val (.int p4), .val (.int (1 : Int32))] [(.int (1 : Int32))])) (fun _ k => XS.icmpYes X0.here hx rfl (pc0 := 30) (pc' := 42) rfl (hb hby d10_30) rfl (flt hc30_13).2.2.2 (by decide) (by decide) (XS.iload X0.here hx rfl (hb hby d10_42) rfl k)) ?_
            refine Run.out X0 hx Bd.notSynchronized Bd.returns rfl (Or.inl ⟨rfl, by simp, _, rfl⟩) (hb hby d10_44) (by decide) (by decide) ?_
            rw [e0]
            exact ⟨by rw [FCnt, if_pos hc4_1, if_neg hc9_2, if_pos hc17_11, if_pos hc22_12, if_neg hc30_13], N0, rfl⟩
        · refine Run.st (S' := s₁.setTop (mkF m 30 #[.val (.int p0), .val (.int p1), .val (.int p2), .val (.int p3), .val (.int p4), .val (.int (0 : Int32))] [(.int (2 : Int32)), (.int p1)])) (fun _ k => XS.icmpYes X0.here hx rfl (pc0 := 22) (pc' := 28) rfl (hb hby d10_22) rfl (feq hc22_12).2 (by decide) (by decide) (XS.iloadN X0.here hx rfl (hb hby d10_28) rfl (XS.iconst X0.here hx rfl (hb hby d10_29) k))) ?_
          by_cases hc30_15 : (2 : Int32) < p1
          · refine Run.st (S' := s₁.setTop (mkF m 36 #[.val (.int p0), .val (.int p1), .val (.int p2), .val (.int p3), .val (.int p4), .val (.int (0 : Int32))] [(.int p0), (.int p4)])) (fun _ k => XS.icmpNo X0.here hx rfl (hb hby d10_30) rfl (tlt hc30_15).2.2.2 (XS.iload X0.here hx rfl (hb hby d10_33) rfl (XS.iloadN X0.here hx rfl (hb hby d10_35) rfl k))) ?_
            by_cases hc36_16 : p4 = p0
            · refine Run.st (S' := s₁.setTop (mkF m 44 #[.val (.int p0), .val (.int p1), .val (.int p2), .val (.int p3), .val (.int p4), .val (.int (1 : Int32))] [(.int (1 : Int32))])) (fun _ k => XS.icmpNo X0.here hx rfl (hb hby d10_36) rfl (teq hc36_16).2 (XS.iinc X0.here hx rfl (hb hby d10_39) rfl (l' := #[.val (.int p0), .val (.int p1), .val (.int p2), .val (.int p3), .val (.int p4), .val (.int (1 : Int32))]) rfl (XS.iload X0.here hx rfl (hb hby d10_42) rfl k))) ?_
              refine Run.out X0 hx Bd.notSynchronized Bd.returns rfl (Or.inl ⟨rfl, by simp, _, rfl⟩) (hb hby d10_44) (by decide) (by decide) ?_
              rw [e0]
              exact ⟨by rw [FCnt, if_pos hc4_1, if_neg hc9_2, if_pos hc17_11, if_neg hc22_12, if_pos hc30_15, if_pos hc36_16], N0, rfl⟩
            · refine Run.st (S' := s₁.setTop (mkF m 44 #[.val (.int p0), .val (.int p1), .val (.int p2), .val (.int p3), .val (.int p4), .val (.int (0 : Int32))] [(.int (0 : Int32))])) (fun _ k => XS.icmpYes X0.here hx rfl (pc0 := 36) (pc' := 42) rfl (hb hby d10_36) rfl (feq hc36_16).2 (by decide) (by decide) (XS.iload X0.here hx rfl (hb hby d10_42) rfl k)) ?_
              refine Run.out X0 hx Bd.notSynchronized Bd.returns rfl (Or.inl ⟨rfl, by simp, _, rfl⟩) (hb hby d10_44) (by decide) (by decide) ?_
              rw [e0]
              exact ⟨by rw [FCnt, if_pos hc4_1, if_neg hc9_2, if_pos hc17_11, if_neg hc22_12, if_pos hc30_15, if_neg hc36_16], N0, rfl⟩
          · refine Run.st (S' := s₁.setTop (mkF m 44 #[.val (.int p0), .val (.int p1), .val (.int p2), .val (.int p3), .val (.int p4), .val (.int (0 : Int32))] [(.int (0 : Int32))])) (fun _ k => XS.icmpYes X0.here hx rfl (pc0 := 30) (pc' := 42) rfl (hb hby d10_30) rfl (flt hc30_15).2.2.2 (by decide) (by decide) (XS.iload X0.here hx rfl (hb hby d10_42) rfl k)) ?_
            refine Run.out X0 hx Bd.notSynchronized Bd.returns rfl (Or.inl ⟨rfl, by simp, _, rfl⟩) (hb hby d10_44) (by decide) (by decide) ?_
            rw [e0]
            exact ⟨by rw [FCnt, if_pos hc4_1, if_neg hc9_2, if_pos hc17_11, if_neg hc22_12, if_neg hc30_15], N0, rfl⟩
      · refine Run.st (S' := s₁.setTop (mkF m 30 #[.val (.int p0), .val (.int p1), .val (.int p2), .val (.int p3), .val (.int p4), .val (.int (0 : Int32))] [(.int (2 : Int32)), (.int p1)])) (fun _ k => XS.icmpYes X0.here hx rfl (pc0 := 17) (pc' := 28) rfl (hb hby d10_17) rfl (flt hc17_11).2.2.2 (by decide) (by decide) (XS.iloadN X0.here hx rfl (hb hby d10_28) rfl (XS.iconst X0.here hx rfl (hb hby d10_29) k))) ?_
        by_cases hc30_17 : (2 : Int32) < p1
        · refine Run.st (S' := s₁.setTop (mkF m 36 #[.val (.int p0), .val (.int p1), .val (.int p2), .val (.int p3), .val (.int p4), .val (.int (0 : Int32))] [(.int p0), (.int p4)])) (fun _ k => XS.icmpNo X0.here hx rfl (hb hby d10_30) rfl (tlt hc30_17).2.2.2 (XS.iload X0.here hx rfl (hb hby d10_33) rfl (XS.iloadN X0.here hx rfl (hb hby d10_35) rfl k))) ?_
          by_cases hc36_18 : p4 = p0
          · refine Run.st (S' := s₁.setTop (mkF m 44 #[.val (.int p0), .val (.int p1), .val (.int p2), .val (.int p3), .val (.int p4), .val (.int (1 : Int32))] [(.int (1 : Int32))])) (fun _ k => XS.icmpNo X0.here hx rfl (hb hby d10_36) rfl (teq hc36_18).2 (XS.iinc X0.here hx rfl (hb hby d10_39) rfl (l' := #[.val (.int p0), .val (.int p1), .val (.int p2), .val (.int p3), .val (.int p4), .val (.int (1 : Int32))]) rfl (XS.iload X0.here hx rfl (hb hby d10_42) rfl k))) ?_
            refine Run.out X0 hx Bd.notSynchronized Bd.returns rfl (Or.inl ⟨rfl, by simp, _, rfl⟩) (hb hby d10_44) (by decide) (by decide) ?_
            rw [e0]
            exact ⟨by rw [FCnt, if_pos hc4_1, if_neg hc9_2, if_neg hc17_11, if_pos hc30_17, if_pos hc36_18], N0, rfl⟩
          · refine Run.st (S' := s₁.setTop (mkF m 44 #[.val (.int p0), .val (.int p1), .val (.int p2), .val (.int p3), .val (.int p4), .val (.int (0 : Int32))] [(.int (0 : Int32))])) (fun _ k => XS.icmpYes X0.here hx rfl (pc0 := 36) (pc' := 42) rfl (hb hby d10_36) rfl (feq hc36_18).2 (by decide) (by decide) (XS.iload X0.here hx rfl (hb hby d10_42) rfl k)) ?_
            refine Run.out X0 hx Bd.notSynchronized Bd.returns rfl (Or.inl ⟨rfl, by simp, _, rfl⟩) (hb hby d10_44) (by decide) (by decide) ?_
            rw [e0]
            exact ⟨by rw [FCnt, if_pos hc4_1, if_neg hc9_2, if_neg hc17_11, if_pos hc30_17, if_neg hc36_18], N0, rfl⟩
        · refine Run.st (S' := s₁.setTop (mkF m 44 #[.val (.int p0), .val (.int p1), .val (.int p2), .val (.int p3), .val (.int p4), .val (.int (0 : Int32))] [(.int (0 : Int32))])) (fun _ k => XS.icmpYes X0.here hx rfl (pc0 := 30) (pc' := 42) rfl (hb hby d10_30) rfl (flt hc30_17).2.2.2 (by decide) (by decide) (XS.iload X0.here hx rfl (hb hby d10_42) rfl k)) ?_
          refine Run.out X0 hx Bd.notSynchronized Bd.returns rfl (Or.inl ⟨rfl, by simp, _, rfl⟩) (hb hby d10_44) (by decide) (by decide) ?_
          rw [e0]
          exact ⟨by rw [FCnt, if_pos hc4_1, if_neg hc9_2, if_neg hc17_11, if_neg hc30_17], N0, rfl⟩
  · refine Run.st (S' := s₁.setTop (mkF m 17 #[.val (.int p0), .val (.int p1), .val (.int p2), .val (.int p3), .val (.int p4), .val (.int (0 : Int32))] [(.int (1 : Int32)), (.int p1)])) (fun _ k => XS.ifYes X0.here hx rfl (pc0 := 4) (pc' := 15) rfl (hb hby d10_4) rfl ((if0 _ _).trans (flt hc4_1).2.2.2) (by decide) (by decide) (XS.iloadN X0.here hx rfl (hb hby d10_15) rfl (XS.iconst X0.here hx rfl (hb hby d10_16) k))) ?_
    by_cases hc17_19 : (1 : Int32) < p1
    · refine Run.st (S' := s₁.setTop (mkF m 22 #[.val (.int p0), .val (.int p1), .val (.int p2), .val (.int p3), .val (.int p4), .val (.int (0 : Int32))] [(.int p0), (.int p3)])) (fun _ k => XS.icmpNo X0.here hx rfl (hb hby d10_17) rfl (tlt hc17_19).2.2.2 (XS.iloadN X0.here hx rfl (hb hby d10_20) rfl (XS.iloadN X0.here hx rfl (hb hby d10_21) rfl k))) ?_
      by_cases hc22_20 : p3 = p0
      · refine Run.st (S' := s₁.setTop (mkF m 30 #[.val (.int p0), .val (.int p1), .val (.int p2), .val (.int p3), .val (.int p4), .val (.int (1 : Int32))] [(.int (2 : Int32)), (.int p1)])) (fun _ k => XS.icmpNo X0.here hx rfl (hb hby d10_22) rfl (teq hc22_20).2 (XS.iinc X0.here hx rfl (hb hby d10_25) rfl (l' := #[.val (.int p0), .val (.int p1), .val (.int p2), .val (.int p3), .val (.int p4), .val (.int (1 : Int32))]) rfl (XS.iloadN X0.here hx rfl (hb hby d10_28) rfl (XS.iconst X0.here hx rfl (hb hby d10_29) k)))) ?_
        by_cases hc30_21 : (2 : Int32) < p1
        · refine Run.st (S' := s₁.setTop (mkF m 36 #[.val (.int p0), .val (.int p1), .val (.int p2), .val (.int p3), .val (.int p4), .val (.int (1 : Int32))] [(.int p0), (.int p4)])) (fun _ k => XS.icmpNo X0.here hx rfl (hb hby d10_30) rfl (tlt hc30_21).2.2.2 (XS.iload X0.here hx rfl (hb hby d10_33) rfl (XS.iloadN X0.here hx rfl (hb hby d10_35) rfl k))) ?_
          by_cases hc36_22 : p4 = p0
          · refine Run.st (S' := s₁.setTop (mkF m 44 #[.val (.int p0), .val (.int p1), .val (.int p2), .val (.int p3), .val (.int p4), .val (.int (2 : Int32))] [(.int (2 : Int32))])) (fun _ k => XS.icmpNo X0.here hx rfl (hb hby d10_36) rfl (teq hc36_22).2 (XS.iinc X0.here hx rfl (hb hby d10_39) rfl (l' := #[.val (.int p0), .val (.int p1), .val (.int p2), .val (.int p3), .val (.int p4), .val (.int (2 : Int32))]) rfl (XS.iload X0.here hx rfl (hb hby d10_42) rfl k))) ?_
            refine Run.out X0 hx Bd.notSynchronized Bd.returns rfl (Or.inl ⟨rfl, by simp, _, rfl⟩) (hb hby d10_44) (by decide) (by decide) ?_
            rw [e0]
            exact ⟨by rw [FCnt, if_neg hc4_1, if_pos hc17_19, if_pos hc22_20, if_pos hc30_21, if_pos hc36_22], N0, rfl⟩
          · refine Run.st (S' := s₁.setTop (mkF m 44 #[.val (.int p0), .val (.int p1), .val (.int p2), .val (.int p3), .val (.int p4), .val (.int (1 : Int32))] [(.int (1 : Int32))])) (fun _ k => XS.icmpYes X0.here hx rfl (pc0 := 36) (pc' := 42) rfl (hb hby d10_36) rfl (feq hc36_22).2 (by decide) (by decide) (XS.iload X0.here hx rfl (hb hby d10_42) rfl k)) ?_
            refine Run.out X0 hx Bd.notSynchronized Bd.returns rfl (Or.inl ⟨rfl, by simp, _, rfl⟩) (hb hby d10_44) (by decide) (by decide) ?_
            rw [e0]
            exact ⟨by rw [FCnt, if_neg hc4_1, if_pos hc17_19, if_pos hc22_20, if_pos hc30_21, if_neg hc36_22], N0, rfl⟩
        · refine Run.st (S' := s₁.setTop (mkF m 44 #[.val (.int p0), .val (.int p1), .val (.int p2), .val (.int p3), .val (.int p4), .val (.int (1 : Int32))] [(.int (1 : Int32))])) (fun _ k => XS.icmpYes X0.here hx rfl (pc0 := 30) (pc' := 42) rfl (hb hby d10_30) rfl (flt hc30_21).2.2.2 (by decide) (by decide) (XS.iload X0.here hx rfl (hb hby d10_42) rfl k)) ?_
          refine Run.out X0 hx Bd.notSynchronized Bd.returns rfl (Or.inl ⟨rfl, by simp, _, rfl⟩) (hb hby d10_44) (by decide) (by decide) ?_
          rw [e0]
          exact ⟨by rw [FCnt, if_neg hc4_1, if_pos hc17_19, if_pos hc22_20, if_neg hc30_21], N0, rfl⟩
      · refine Run.st (S' := s₁.setTop (mkF m 30 #[.val (.int p0), .val (.int p1), .val (.int p2), .val (.int p3), .val (.int p4), .val (.int (0 : Int32))] [(.int (2 : Int32)), (.int p1)])) (fun _ k => XS.icmpYes X0.here hx rfl (pc0 := 22) (pc' := 28) rfl (hb hby d10_22) rfl (feq hc22_20).2 (by decide) (by decide) (XS.iloadN X0.here hx rfl (hb hby d10_28) rfl (XS.iconst X0.here hx rfl (hb hby d10_29) k))) ?_
        by_cases hc30_23 : (2 : Int32) < p1
        · refine Run.st (S' := s₁.setTop (mkF m 36 #[.val (.int p0), .val (.int p1), .val (.int p2), .val (.int p3), .val (.int p4), .val (.int (0 : Int32))] [(.int p0), (.int p4)])) (fun _ k => XS.icmpNo X0.here hx rfl (hb hby d10_30) rfl (tlt hc30_23).2.2.2 (XS.iload X0.here hx rfl (hb hby d10_33) rfl (XS.iloadN X0.here hx rfl (hb hby d10_35) rfl k))) ?_
          by_cases hc36_24 : p4 = p0
          · refine Run.st (S' := s₁.setTop (mkF m 44 #[.val (.int p0), .val (.int p1), .val (.int p2), .val (.int p3), .val (.int p4), .val (.int (1 : Int32))] [(.int (1 : Int32))])) (fun _ k => XS.icmpNo X0.here hx rfl (hb hby d10_36) rfl (teq hc36_24).2 (XS.iinc X0.here hx rfl (hb hby d10_39) rfl (l' := #[.val (.int p0), .val (.int p1), .val (.int p2), .val (.int p3), .val (.int p4), .val (.int (1 : Int32))]) rfl (XS.iload X0.here hx rfl (hb hby d10_42) rfl k))) ?_
            refine Run.out X0 hx Bd.notSynchronized Bd.returns rfl (Or.inl ⟨rfl, by simp, _, rfl⟩) (hb hby d10_44) (by decide) (by decide) ?_
            rw [e0]
            exact ⟨by rw [FCnt, if_neg hc4_1, if_pos hc17_19, if_neg hc22_20, if_pos hc30_23, if_pos hc36_24], N0, rfl⟩
          · refine Run.st (S' := s₁.setTop (mkF m 44 #[.val (.int p0), .val (.int p1), .val (.int p2), .val (.int p3), .val (.int p4), .val (.int (0 : Int32))] [(.int (0 : Int32))])) (fun _ k => XS.icmpYes X0.here hx rfl (pc0 := 36) (pc' := 42) rfl (hb hby d10_36) rfl (feq hc36_24).2 (by decide) (by decide) (XS.iload X0.here hx rfl (hb hby d10_42) rfl k)) ?_
            refine Run.out X0 hx Bd.notSynchronized Bd.returns rfl (Or.inl ⟨rfl, by simp, _, rfl⟩) (hb hby d10_44) (by decide) (by decide) ?_
            rw [e0]
            exact ⟨by rw [FCnt, if_neg hc4_1, if_pos hc17_19, if_neg hc22_20, if_pos hc30_23, if_neg hc36_24], N0, rfl⟩
        · refine Run.st (S' := s₁.setTop (mkF m 44 #[.val (.int p0), .val (.int p1), .val (.int p2), .val (.int p3), .val (.int p4), .val (.int (0 : Int32))] [(.int (0 : Int32))])) (fun _ k => XS.icmpYes X0.here hx rfl (pc0 := 30) (pc' := 42) rfl (hb hby d10_30) rfl (flt hc30_23).2.2.2 (by decide) (by decide) (XS.iload X0.here hx rfl (hb hby d10_42) rfl k)) ?_
          refine Run.out X0 hx Bd.notSynchronized Bd.returns rfl (Or.inl ⟨rfl, by simp, _, rfl⟩) (hb hby d10_44) (by decide) (by decide) ?_
          rw [e0]
          exact ⟨by rw [FCnt, if_neg hc4_1, if_pos hc17_19, if_neg hc22_20, if_neg hc30_23], N0, rfl⟩
    · refine Run.st (S' := s₁.setTop (mkF m 30 #[.val (.int p0), .val (.int p1), .val (.int p2), .val (.int p3), .val (.int p4), .val (.int (0 : Int32))] [(.int (2 : Int32)), (.int p1)])) (fun _ k => XS.icmpYes X0.here hx rfl (pc0 := 17) (pc' := 28) rfl (hb hby d10_17) rfl (flt hc17_19).2.2.2 (by decide) (by decide) (XS.iloadN X0.here hx rfl (hb hby d10_28) rfl (XS.iconst X0.here hx rfl (hb hby d10_29) k))) ?_
      by_cases hc30_25 : (2 : Int32) < p1
      · refine Run.st (S' := s₁.setTop (mkF m 36 #[.val (.int p0), .val (.int p1), .val (.int p2), .val (.int p3), .val (.int p4), .val (.int (0 : Int32))] [(.int p0), (.int p4)])) (fun _ k => XS.icmpNo X0.here hx rfl (hb hby d10_30) rfl (tlt hc30_25).2.2.2 (XS.iload X0.here hx rfl (hb hby d10_33) rfl (XS.iloadN X0.here hx rfl (hb hby d10_35) rfl k))) ?_
        by_cases hc36_26 : p4 = p0
        · refine Run.st (S' := s₁.setTop (mkF m 44 #[.val (.int p0), .val (.int p1), .val (.int p2), .val (.int p3), .val (.int p4), .val (.int (1 : Int32))] [(.int (1 : Int32))])) (fun _ k => XS.icmpNo X0.here hx rfl (hb hby d10_36) rfl (teq hc36_26).2 (XS.iinc X0.here hx rfl (hb hby d10_39) rfl (l' := #[.val (.int p0), .val (.int p1), .val (.int p2), .val (.int p3), .val (.int p4), .val (.int (1 : Int32))]) rfl (XS.iload X0.here hx rfl (hb hby d10_42) rfl k))) ?_
          refine Run.out X0 hx Bd.notSynchronized Bd.returns rfl (Or.inl ⟨rfl, by simp, _, rfl⟩) (hb hby d10_44) (by decide) (by decide) ?_
          rw [e0]
          exact ⟨by rw [FCnt, if_neg hc4_1, if_neg hc17_19, if_pos hc30_25, if_pos hc36_26], N0, rfl⟩
        · refine Run.st (S' := s₁.setTop (mkF m 44 #[.val (.int p0), .val (.int p1), .val (.int p2), .val (.int p3), .val (.int p4), .val (.int (0 : Int32))] [(.int (0 : Int32))])) (fun _ k => XS.icmpYes X0.here hx rfl (pc0 := 36) (pc' := 42) rfl (hb hby d10_36) rfl (feq hc36_26).2 (by decide) (by decide) (XS.iload X0.here hx rfl (hb hby d10_42) rfl k)) ?_
          refine Run.out X0 hx Bd.notSynchronized Bd.returns rfl (Or.inl ⟨rfl, by simp, _, rfl⟩) (hb hby d10_44) (by decide) (by decide) ?_
          rw [e0]
          exact ⟨by rw [FCnt, if_neg hc4_1, if_neg hc17_19, if_pos hc30_25, if_neg hc36_26], N0, rfl⟩
      · refine Run.st (S' := s₁.setTop (mkF m 44 #[.val (.int p0), .val (.int p1), .val (.int p2), .val (.int p3), .val (.int p4), .val (.int (0 : Int32))] [(.int (0 : Int32))])) (fun _ k => XS.icmpYes X0.here hx rfl (pc0 := 30) (pc' := 42) rfl (hb hby d10_30) rfl (flt hc30_25).2.2.2 (by decide) (by decide) (XS.iload X0.here hx rfl (hb hby d10_42) rfl k)) ?_
        refine Run.out X0 hx Bd.notSynchronized Bd.returns rfl (Or.inl ⟨rfl, by simp, _, rfl⟩) (hb hby d10_44) (by decide) (by decide) ?_
        rw [e0]
        exact ⟨by rw [FCnt, if_neg hc4_1, if_neg hc17_19, if_neg hc30_25], N0, rfl⟩
theorem pd_0 : parseMethodDescriptor "(ZII)I" = some ⟨[.boolean, .int, .int], some .int⟩ := by decide +kernel
theorem d11_0 : decode method_3_code 0 = .ok (.iload_n 0, 1) := by decide +kernel
theorem d11_1 : decode method_3_code 1 = .ok (.iload_n 1, 1) := by decide +kernel
theorem d11_2 : decode method_3_code 2 = .ok (.iload 4, 2) := by decide +kernel
theorem d11_4 : decode method_3_code 4 = .ok (.invokestatic 7, 3) := by decide +kernel
theorem d11_7 : decode method_3_code 7 = .ok (.iload 4, 2) := by decide +kernel
theorem d11_9 : decode method_3_code 9 = .ok (.iload_n 2, 1) := by decide +kernel
theorem d11_10 : decode method_3_code 10 = .ok (.if_icmp .ne 7, 3) := by decide +kernel
theorem d11_13 : decode method_3_code 13 = .ok (.iload_n 3, 1) := by decide +kernel
theorem d11_14 : decode method_3_code 14 = .ok (.goto 4, 3) := by decide +kernel
theorem d11_17 : decode method_3_code 17 = .ok (.iconst 0, 1) := by decide +kernel
theorem d11_18 : decode method_3_code 18 = .ok (.isub, 1) := by decide +kernel
theorem d11_19 : decode method_3_code 19 = .ok (.ireturn, 1) := by decide +kernel
theorem ef_Left (m : MethodId) (p0 : Int32) (p1 : Int32) (p2 : Int32) (p3 : Int32) (p4 : Int32) : entryFrame m #[(.int p0), (.int p1), (.int p2), (.int p3), (.int p4)] 5 = mkF m 0 #[.val (.int p0), .val (.int p1), .val (.int p2), .val (.int p3), .val (.int p4)] [] := by first | (simp [entryFrame, mkF, argsToLocals, Value.category]; done) | rfl
def FLeft (p0 : Int32) (p1 : Int32) (p2 : Int32) (p3 : Int32) (p4 : Int32) : Int32 := (if p4 = p2 then ((FFull p0 p1 p4) - p3) else ((FFull p0 p1 p4) - (0 : Int32)))
def QLeft (Z : State) (p0 : Int32) (p1 : Int32) (p2 : Int32) (p3 : Int32) (p4 : Int32) (h0 : Heap) (n0 : Nat) (v : Option Value) (h : Heap) (L : List Loc) : Prop := v = some (.int (FLeft p0 p1 p2 p3 p4)) ∧ Fr n0 L ∧ h = h0
set_option maxRecDepth 65536 in
set_option maxHeartbeats 40000000 in
theorem rmLeft (l : Launch) (Z : State) (aV : Array Value) (hw : ∀ d ∈ tables_1, d.before aV Z = true) (ws : List Jvm.Cond) (p0 : Int32) (p1 : Int32) (p2 : Int32) (p3 : Int32) (p4 : Int32) (h0 : Heap) (n0 : Nat) (Zn : n0 ≤ h0.size) :
    MetFree l (⟨"com/example/sidewager/sidewager/analysis/ShoeHoldsPinLaw", "left", "(ZIIII)I"⟩ : MethodName) (head1 (Jvm.Cond.code (⟨"com/example/sidewager/sidewager/analysis/ShoeHoldsPinLaw", "left", "(ZIIII)I"⟩ : MethodName) method_3_code 5 (some .int) :: ws) ({ frames := 1, cells := 0, slots := 0, locals := 14 } : Room)) (fun a U => a = #[(.int p0), (.int p1), (.int p2), (.int p3), (.int p4)] ∧ Z.Warmed39 U.vm ∧ U.heap = h0) (fun _ _ _ _ _ => True) (fun _ U o U' => ∃ v L, o = .returned v ∧ QLeft Z p0 p1 p2 p3 p4 h0 n0 v U'.heap L ∧ FrameEnd U o U' L ({ frames := 1, cells := 0, slots := 0, locals := 14 } : Room).cells ({ frames := 1, cells := 0, slots := 0, locals := 14 } : Room).slots) := by
  refine MetFree.of_bodySF (plainFor_of_name pn_0) hisR ?_
  intro p e s m args below meth c s₁ Bd hml0 hP hK
  obtain ⟨rfl, hZ, hh⟩ := hP
  have hx := Bd.exec
  have hby := Bd.bytes
  have hml : c.maxLocals = 5 := hml0
  have hown : s.vm.findClass "com/example/sidewager/sidewager/analysis/ShoeHoldsPinLaw" = some m.cls := findClass_of_methodNamed Bd.named
  have hnm := (name_of_methodNamed Bd.named Bd.method).1
  have X0 : Stand p l e ({ frames := 1, cells := 0, slots := 0, locals := 14 } : Room) s m #[(.int p0), (.int p1), (.int p2), (.int p3), (.int p4)] below meth c s₁ [] 0 0 := Stand.of_body Bd
  have e0 : s₁.heap = h0 := by rw [← hh, Bd.state]; rfl
  have N0 := Fr.nil n0
  have Kp := Keep.refl h0 []
  show Run p e below (Ends s (QLeft Z p0 p1 p2 p3 p4 h0 n0) ({ frames := 1, cells := 0, slots := 0, locals := 14 } : Room).cells ({ frames := 1, cells := 0, slots := 0, locals := 14 } : Room).slots) _
  refine Run.st (S' := s₁.setTop (mkF m 0 #[.val (.int p0), .val (.int p1), .val (.int p2), .val (.int p3), .val (.int p4)] [])) (fun t k => castTop (ef_Left m p0 p1 p2 p3 p4) k) ?_
  refine Run.st (S' := s₁.setTop (mkF m 4 #[.val (.int p0), .val (.int p1), .val (.int p2), .val (.int p3), .val (.int p4)] [(.int p4), (.int p1), (.int p0)])) (fun _ k => XS.iloadN X0.here hx rfl (hb hby d11_0) rfl (XS.iloadN X0.here hx rfl (hb hby d11_1) rfl (XS.iload X0.here hx rfl (hb hby d11_2) rfl k))) ?_
  obtain ⟨_, _, ⟨T1, L1, k1, n1⟩, -, X1, ⟨Lc1, hQ1, l1, y1, z1⟩, st1⟩ := Jvm.LawKit.callS X0 hx (y := (⟨"com/example/sidewager/sidewager/analysis/ShoeHoldsPinLaw", "full", "(ZII)I"⟩ : MethodName)) hown (mvT hZ (hwi hw 86 rfl)) (mvT hZ (hwi hw 87 rfl)) (mvT hZ (hwi hw 88 rfl)) (mvT hZ (hwi hw 89 rfl)) (by decide) (backOf (W := 0) (rmFull l Z aV hw [] p0 p1 p4 h0 n0 Zn ) hZ (hwi hw 89 rfl) (hwi hw 88 rfl) (by decide) (by decide)) (g := (mkF m 4 #[.val (.int p0), .val (.int p1), .val (.int p2), .val (.int p3), .val (.int p4)] [(.int p4), (.int p1), (.int p0)])) rfl (by rw [hml]; rfl) (argsL := [(.int p0), (.int p1), (.int p4)]) (rest := []) (lenOf pd_0 rfl) rfl (by show 2 * 0 + _ ≤ _; exact Nat.le_of_eq rfl) (hb hby d11_4) (fun _ _ => ⟨rfl, e0, (by decide : 0 + 0 ≤ _), (by decide : 0 + 0 ≤ _)⟩)
  dsimp only [Pt.U, Pt.locs, Pt.cells, Pt.slots] at X1 l1 y1 z1 st1 hQ1
  replace l1 := l1.symm; replace y1 := y1.symm; replace z1 := z1.symm; subst l1 y1 z1
  obtain ⟨rfl, N1q, e1⟩ := hQ1
  have N1 := Fr.app N0 N1q
  refine Run.st (S' := T1.setTop (mkF m 10 #[.val (.int p0), .val (.int p1), .val (.int p2), .val (.int p3), .val (.int p4)] [(.int p2), (.int p4), (.int (FFull p0 p1 p4))])) (fun _ k => st1 _ (XS.iload X1.here hx rfl (hb hby d11_7) rfl (XS.iloadN X1.here hx rfl (hb hby d11_9) rfl k))) ?_
  by_cases hc10_2 : p4 = p2
  · refine Run.st (S' := T1.setTop (mkF m 19 #[.val (.int p0), .val (.int p1), .val (.int p2), .val (.int p3), .val (.int p4)] [(.int ((FFull p0 p1 p4) - p3))])) (fun _ k => XS.icmpNo X1.here hx rfl (hb hby d11_10) rfl (teq hc10_2).2 (XS.iloadN X1.here hx rfl (hb hby d11_13) rfl (XS.goto X1.here hx rfl (pc0 := 14) (pc' := 18) rfl (hb hby d11_14) (by decide) (by decide) (XS.isub X1.here hx rfl (hb hby d11_18) rfl k)))) ?_
    refine Run.out X1 hx Bd.notSynchronized Bd.returns rfl (Or.inl ⟨rfl, by simp, _, rfl⟩) (hb hby d11_19) (by decide) (by decide) ?_
    rw [e1]
    exact ⟨by rw [FLeft, if_pos hc10_2], N1, rfl⟩
  · refine Run.st (S' := T1.setTop (mkF m 19 #[.val (.int p0), .val (.int p1), .val (.int p2), .val (.int p3), .val (.int p4)] [(.int ((FFull p0 p1 p4) - (0 : Int32)))])) (fun _ k => XS.icmpYes X1.here hx rfl (pc0 := 10) (pc' := 17) rfl (hb hby d11_10) rfl (feq hc10_2).2 (by decide) (by decide) (XS.iconst X1.here hx rfl (hb hby d11_17) (XS.isub X1.here hx rfl (hb hby d11_18) rfl k))) ?_
    refine Run.out X1 hx Bd.notSynchronized Bd.returns rfl (Or.inl ⟨rfl, by simp, _, rfl⟩) (hb hby d11_19) (by decide) (by decide) ?_
    rw [e1]
    exact ⟨by rw [FLeft, if_neg hc10_2], N1, rfl⟩
theorem d15_0 : decode prog_12_method_5_code 0 = .ok (.lconst 1, 1) := by decide +kernel
theorem d15_1 : decode prog_12_method_5_code 1 = .ok (.iconst 5, 1) := by decide +kernel
theorem d15_2 : decode prog_12_method_5_code 2 = .ok (.iload_n 0, 1) := by decide +kernel
theorem d15_3 : decode prog_12_method_5_code 3 = .ok (.imul, 1) := by decide +kernel
theorem d15_4 : decode prog_12_method_5_code 4 = .ok (.lshl, 1) := by decide +kernel
theorem d15_5 : decode prog_12_method_5_code 5 = .ok (.lreturn, 1) := by decide +kernel
theorem pn_1 : plainName "com/example/sidewager/sidewager/analysis/Shoe" = true := by first | (simp [plainName, overriddenIn]; done) | decide +kernel
theorem ef_Key (m : MethodId) (p0 : Int32) : entryFrame m #[(.int p0)] 1 = mkF m 0 #[.val (.int p0)] [] := by first | (simp [entryFrame, mkF, argsToLocals, Value.category]; done) | rfl
def FKey (p0 : Int32) : Int64 := ((1 : Int64) <<< (((5 : Int32) * p0) &&& 0x3f).toInt64)
def QKey (Z : State) (p0 : Int32) (h0 : Heap) (n0 : Nat) (v : Option Value) (h : Heap) (L : List Loc) : Prop := v = some (.long (FKey p0)) ∧ Fr n0 L ∧ h = h0
set_option maxRecDepth 65536 in
set_option maxHeartbeats 40000000 in
theorem rmKey (l : Launch) (Z : State) (aV : Array Value) (hw : ∀ d ∈ tables_1, d.before aV Z = true) (ws : List Jvm.Cond) (p0 : Int32) (h0 : Heap) (n0 : Nat) (Zn : n0 ≤ h0.size) :
    MetFree l (⟨"com/example/sidewager/sidewager/analysis/Shoe", "keyOf", "(I)J"⟩ : MethodName) (head1 (Jvm.Cond.code (⟨"com/example/sidewager/sidewager/analysis/Shoe", "keyOf", "(I)J"⟩ : MethodName) prog_12_method_5_code 1 (some .long) :: ws) ({ frames := 0, cells := 0, slots := 0, locals := 0 } : Room)) (fun a U => a = #[(.int p0)] ∧ Z.Warmed39 U.vm ∧ U.heap = h0) (fun _ _ _ _ _ => True) (fun _ U o U' => ∃ v L, o = .returned v ∧ QKey Z p0 h0 n0 v U'.heap L ∧ FrameEnd U o U' L ({ frames := 0, cells := 0, slots := 0, locals := 0 } : Room).cells ({ frames := 0, cells := 0, slots := 0, locals := 0 } : Room).slots) := by
  refine MetFree.of_bodySF (plainFor_of_name pn_1) hisR ?_
  intro p e s m args below meth c s₁ Bd hml0 hP hK
  obtain ⟨rfl, hZ, hh⟩ := hP
  have hx := Bd.exec
  have hby := Bd.bytes
  have hml : c.maxLocals = 1 := hml0
  have hown : s.vm.findClass "com/example/sidewager/sidewager/analysis/Shoe" = some m.cls := findClass_of_methodNamed Bd.named
  have hnm := (name_of_methodNamed Bd.named Bd.method).1
  have X0 : Stand p l e ({ frames := 0, cells := 0, slots := 0, locals := 0 } : Room) s m #[(.int p0)] below meth c s₁ [] 0 0 := Stand.of_body Bd
  have e0 : s₁.heap = h0 := by rw [← hh, Bd.state]; rfl
  have N0 := Fr.nil n0
  have Kp := Keep.refl h0 []
  show Run p e below (Ends s (QKey Z p0 h0 n0) ({ frames := 0, cells := 0, slots := 0, locals := 0 } : Room).cells ({ frames := 0, cells := 0, slots := 0, locals := 0 } : Room).slots) _
  refine Run.st (S' := s₁.setTop (mkF m 0 #[.val (.int p0)] [])) (fun t k => castTop (ef_Key m p0) k) ?_
  refine Run.st (S' := s₁.setTop (mkF m 5 #[.val (.int p0)] [(.long ((1 : Int64) <<< (((5 : Int32) * p0) &&& 0x3f).toInt64))])) (fun _ k => XS.lconst X0.here hx rfl (hb hby d15_0) (XS.iconst X0.here hx rfl (hb hby d15_1) (XS.iloadN X0.here hx rfl (hb hby d15_2) rfl (XS.imul X0.here hx rfl (hb hby d15_3) rfl (XS.lshl X0.here hx rfl (hb hby d15_4) rfl k))))) ?_
  refine Run.out X0 hx Bd.notSynchronized Bd.returns rfl (Or.inr (Or.inl ⟨rfl, rfl, _, rfl⟩)) (hb hby d15_5) (by decide) (by decide) ?_
  rw [e0]
  exact ⟨rfl, N0, rfl⟩
theorem d5_0 : decode jdk_37_method_2_code 0 = .ok (.aload_n 0, 1) := by decide +kernel
theorem d5_1 : decode jdk_37_method_2_code 1 = .ok (.getfield 7, 3) := by decide +kernel
theorem d5_4 : decode jdk_37_method_2_code 4 = .ok (.ireturn, 1) := by decide +kernel
theorem pn_2 : plainName "java/lang/Enum" = true := by first | (simp [plainName, overriddenIn]; done) | decide +kernel
theorem ef_Ord (m : MethodId) (a0 : Addr) : entryFrame m #[(.ref a0)] 1 = mkF m 0 #[.val (.ref a0)] [] := by first | (simp [entryFrame, mkF, argsToLocals, Value.category]; done) | rfl
def QOrd (Z : State) (a0 : Addr) (od : Int32) (h0 : Heap) (n0 : Nat) (v : Option Value) (h : Heap) (L : List Loc) : Prop := v = some (.int od) ∧ Fr n0 L ∧ h = h0
set_option maxRecDepth 65536 in
set_option maxHeartbeats 40000000 in
theorem rmOrd (l : Launch) (Z : State) (aV : Array Value) (hw : ∀ d ∈ tables_1, d.before aV Z = true) (ws : List Jvm.Cond) (a0 : Addr) (od : Int32) (h0 : Heap) (n0 : Nat) (Zn : n0 ≤ h0.size) (F_o : Fld Z h0 a0 "java/lang/Enum" "ordinal" "I" (.int od)) :
    MetFree l (⟨"java/lang/Enum", "ordinal", "()I"⟩ : MethodName) (head1 (Jvm.Cond.code (⟨"java/lang/Enum", "ordinal", "()I"⟩ : MethodName) jdk_37_method_2_code 1 (some .int) :: ws) ({ frames := 0, cells := 0, slots := 0, locals := 0 } : Room)) (fun a U => a = #[(.ref a0)] ∧ Z.Warmed39 U.vm ∧ U.heap = h0) (fun _ _ _ _ _ => True) (fun _ U o U' => ∃ v L, o = .returned v ∧ QOrd Z a0 od h0 n0 v U'.heap L ∧ FrameEnd U o U' L ({ frames := 0, cells := 0, slots := 0, locals := 0 } : Room).cells ({ frames := 0, cells := 0, slots := 0, locals := 0 } : Room).slots) := by
  refine MetFree.of_bodySF (plainFor_of_name pn_2) hisR ?_
  intro p e s m args below meth c s₁ Bd hml0 hP hK
  obtain ⟨rfl, hZ, hh⟩ := hP
  have hx := Bd.exec
  have hby := Bd.bytes
  have hml : c.maxLocals = 1 := hml0
  have hown : s.vm.findClass "java/lang/Enum" = some m.cls := findClass_of_methodNamed Bd.named
  have hnm := (name_of_methodNamed Bd.named Bd.method).1
  have X0 : Stand p l e ({ frames := 0, cells := 0, slots := 0, locals := 0 } : Room) s m #[(.ref a0)] below meth c s₁ [] 0 0 := Stand.of_body Bd
  have e0 : s₁.heap = h0 := by rw [← hh, Bd.state]; rfl
  have N0 := Fr.nil n0
  have Kp := Keep.refl h0 []
  show Run p e below (Ends s (QOrd Z a0 od h0 n0) ({ frames := 0, cells := 0, slots := 0, locals := 0 } : Room).cells ({ frames := 0, cells := 0, slots := 0, locals := 0 } : Room).slots) _
  refine Run.st (S' := s₁.setTop (mkF m 0 #[.val (.ref a0)] [])) (fun t k => castTop (ef_Ord m a0) k) ?_
  refine Run.st (S' := s₁.setTop (mkF m 1 #[.val (.ref a0)] [(.ref a0)])) (fun _ k => XS.aloadN X0.here hx rfl (hb hby d5_0) rfl rfl k) ?_
  obtain ⟨T1, X1, e1, st1⟩ := getF X0 hx hZ hown (host := "") (Or.inl (hwi hw 65 rfl)) Via.refl e0 F_o (g := (mkF m 1 #[.val (.ref a0)] [(.ref a0)])) rfl rfl (hb hby d5_1)
  refine Run.st (S' := T1.setTop (mkF m 4 #[.val (.ref a0)] [(.int od)])) (fun _ k => st1 _ k) ?_
  refine Run.out X1 hx Bd.notSynchronized Bd.returns rfl (Or.inl ⟨rfl, by simp, _, rfl⟩) (hb hby d5_4) (by decide) (by decide) ?_
  rw [e1]
  exact ⟨rfl, N0, rfl⟩
theorem pd_1 : parseMethodDescriptor "()I" = some ⟨[], some .int⟩ := by decide +kernel
theorem pd_2 : parseMethodDescriptor "(II)I" = some ⟨[.int, .int], some .int⟩ := by decide +kernel
theorem d4_0 : decode prog_12_method_3_code 0 = .ok (.aload_n 0, 1) := by decide +kernel
theorem d4_1 : decode prog_12_method_3_code 1 = .ok (.invokevirtual 83, 3) := by decide +kernel
theorem d4_4 : decode prog_12_method_3_code 4 = .ok (.bipush 9, 2) := by decide +kernel
theorem d4_6 : decode prog_12_method_3_code 6 = .ok (.invokestatic 87, 3) := by decide +kernel
theorem d4_9 : decode prog_12_method_3_code 9 = .ok (.ireturn, 1) := by decide +kernel
theorem ef_Kind (m : MethodId) (a0 : Addr) : entryFrame m #[(.ref a0)] 1 = mkF m 0 #[.val (.ref a0)] [] := by first | (simp [entryFrame, mkF, argsToLocals, Value.category]; done) | rfl
def FKind (a0 : Addr) (od : Int32) : Int32 := (FMin od (9 : Int32))
def QKind (Z : State) (a0 : Addr) (od : Int32) (h0 : Heap) (n0 : Nat) (v : Option Value) (h : Heap) (L : List Loc) : Prop := v = some (.int (FKind a0 od)) ∧ Fr n0 L ∧ h = h0
set_option maxRecDepth 65536 in
set_option maxHeartbeats 40000000 in
theorem rmKind (l : Launch) (Z : State) (aV : Array Value) (hw : ∀ d ∈ tables_1, d.before aV Z = true) (ws : List Jvm.Cond) (a0 : Addr) (od : Int32) (h0 : Heap) (n0 : Nat) (Zn : n0 ≤ h0.size) (E_a0 : Exa Z h0 a0 "com/example/sidewager/sidewager/cards/Rank") (F_o : Fld Z h0 a0 "java/lang/Enum" "ordinal" "I" (.int od)) :
    MetFree l (⟨"com/example/sidewager/sidewager/analysis/Shoe", "kindOf", "(Lcom/example/sidewager/sidewager/cards/Rank;)I"⟩ : MethodName) (head1 (Jvm.Cond.code (⟨"com/example/sidewager/sidewager/analysis/Shoe", "kindOf", "(Lcom/example/sidewager/sidewager/cards/Rank;)I"⟩ : MethodName) prog_12_method_3_code 1 (some .int) :: ws) ({ frames := 1, cells := 0, slots := 0, locals := 13 } : Room)) (fun a U => a = #[(.ref a0)] ∧ Z.Warmed39 U.vm ∧ U.heap = h0) (fun _ _ _ _ _ => True) (fun _ U o U' => ∃ v L, o = .returned v ∧ QKind Z a0 od h0 n0 v U'.heap L ∧ FrameEnd U o U' L ({ frames := 1, cells := 0, slots := 0, locals := 13 } : Room).cells ({ frames := 1, cells := 0, slots := 0, locals := 13 } : Room).slots) := by
  refine MetFree.of_bodySF (plainFor_of_name pn_1) hisR ?_
  intro p e s m args below meth c s₁ Bd hml0 hP hK
  obtain ⟨rfl, hZ, hh⟩ := hP
  have hx := Bd.exec
  have hby := Bd.bytes
  have hml : c.maxLocals = 1 := hml0
  have hown : s.vm.findClass "com/example/sidewager/sidewager/analysis/Shoe" = some m.cls := findClass_of_methodNamed Bd.named
  have hnm := (name_of_methodNamed Bd.named Bd.method).1
  have X0 : Stand p l e ({ frames := 1, cells := 0, slots := 0, locals := 13 } : Room) s m #[(.ref a0)] below meth c s₁ [] 0 0 := Stand.of_body Bd
  have e0 : s₁.heap = h0 := by rw [← hh, Bd.state]; rfl
  have N0 := Fr.nil n0
  have Kp := Keep.refl h0 []
  show Run p e below (Ends s (QKind Z a0 od h0 n0) ({ frames := 1, cells := 0, slots := 0, locals := 13 } : Room).cells ({ frames := 1, cells := 0, slots := 0, locals := 13 } : Room).slots) _
  refine Run.st (S' := s₁.setTop (mkF m 0 #[.val (.ref a0)] [])) (fun t k => castTop (ef_Kind m a0) k) ?_
  refine Run.st (S' := s₁.setTop (mkF m 1 #[.val (.ref a0)] [(.ref a0)])) (fun _ k => XS.aloadN X0.here hx rfl (hb hby d4_0) rfl rfl k) ?_
  obtain ⟨cq1, kq1, q1a, q1b, q1c⟩ := isOf hZ e0 E_a0
  obtain ⟨_, _, ⟨T1, L1, k1, n1⟩, -, X1, ⟨Lc1, hQ1, l1, y1, z1⟩, st1⟩ := X0.virtualBackUp hx (x := (⟨"com/example/sidewager/sidewager/cards/Rank", "ordinal", "()I"⟩ : MethodName)) (y := (⟨"java/lang/Enum", "ordinal", "()I"⟩ : MethodName)) (owner := "java/lang/Enum") hown (mvT hZ (hwi hw 58 rfl)) (mvT hZ (hwi hw 59 rfl)) (mvT hZ (hwi hw 60 rfl)) (by decide) (mvT hZ (hwi hw 62 rfl)) (mvT hZ (hwi hw 61 rfl)) (backOf (W := 0) (rmOrd l Z aV hw [] a0 od h0 n0 Zn F_o) hZ (hwi hw 64 rfl) (hwi hw 63 rfl) (by decide) (by decide)) q1a q1c (g := (mkF m 1 #[.val (.ref a0)] [(.ref a0)])) rfl (by rw [hml]; rfl) (Steps.refl _) (argsL := []) (rest := []) (lenOf pd_1 rfl) rfl (by show 2 * 0 + _ ≤ _; exact Nat.le_of_eq rfl) (hb hby d4_1) (fun _ _ => ⟨rfl, e0, (by decide : 0 + 0 ≤ _), (by decide : 0 + 0 ≤ _)⟩)
  dsimp only [Pt.U, Pt.locs, Pt.cells, Pt.slots] at X1 l1 y1 z1 st1 hQ1
  replace l1 := l1.symm; replace y1 := y1.symm; replace z1 := z1.symm; subst l1 y1 z1
  obtain ⟨rfl, N1q, e1⟩ := hQ1
  have N1 := Fr.app N0 N1q
  refine Run.st (S' := T1.setTop (mkF m 6 #[.val (.ref a0)] [(.int (9 : Int32)), (.int od)])) (fun _ k => st1.trans (XS.bipush X1.here hx rfl (hb hby d4_4) k)) ?_
  obtain ⟨_, _, ⟨T2, L2, k2, n2⟩, -, X2, ⟨Lc2, hQ2, l2, y2, z2⟩, st2⟩ := Jvm.LawKit.callS X1 hx (y := (⟨"java/lang/Math", "min", "(II)I"⟩ : MethodName)) hown (mvT hZ (hwi hw 67 rfl)) (mvT hZ (hwi hw 68 rfl)) (mvT hZ (hwi hw 69 rfl)) (mvT hZ (hwi hw 70 rfl)) (by decide) (backOf (W := 0) (rmMin l Z aV hw [] od (9 : Int32) h0 n0 Zn ) hZ (hwi hw 70 rfl) (hwi hw 69 rfl) (by decide) (by decide)) (g := (mkF m 6 #[.val (.ref a0)] [(.int (9 : Int32)), (.int od)])) rfl (by rw [hml]; rfl) (argsL := [(.int od), (.int (9 : Int32))]) (rest := []) (lenOf pd_2 rfl) rfl (by show 2 * 0 + _ ≤ _; exact Nat.le_of_eq rfl) (hb hby d4_6) (fun _ _ => ⟨rfl, e1, (by decide : 0 + 0 ≤ _), (by decide : 0 + 0 ≤ _)⟩)
  dsimp only [Pt.U, Pt.locs, Pt.cells, Pt.slots] at X2 l2 y2 z2 st2 hQ2
  replace l2 := l2.symm; replace y2 := y2.symm; replace z2 := z2.symm; subst l2 y2 z2
  obtain ⟨rfl, N2q, e2⟩ := hQ2
  have N2 := Fr.app N1 N2q
  refine Run.st (S' := T2.setTop (mkF m 9 #[.val (.ref a0)] [(.int (FMin od (9 : Int32)))])) (fun _ k => st2 _ k) ?_
  refine Run.out X2 hx Bd.notSynchronized Bd.returns rfl (Or.inl ⟨rfl, by simp, _, rfl⟩) (hb hby d4_9) (by decide) (by decide) ?_
  rw [e2]
  exact ⟨rfl, N2, rfl⟩
theorem d3_0 : decode prog_40_method_1_code 0 = .ok (.getstatic 43, 3) := by decide +kernel
theorem d3_3 : decode prog_40_method_1_code 3 = .ok (.invokevirtual 47, 3) := by decide +kernel
theorem d3_6 : decode prog_40_method_1_code 6 = .ok (.checkcast 48, 3) := by decide +kernel
theorem d3_9 : decode prog_40_method_1_code 9 = .ok (.areturn, 1) := by decide +kernel
theorem pn_3 : plainName "com/example/sidewager/sidewager/cards/Rank" = true := by first | (simp [plainName, overriddenIn]; done) | decide +kernel
theorem ef_Vals (m : MethodId)  : entryFrame m #[] 0 = mkF m 0 #[] [] := by first | (simp [entryFrame, mkF, argsToLocals, Value.category]; done) | rfl
def QVals (Z : State) (s_VALS : Addr) (kV : ClassId) (vsR : List Value) (h0 : Heap) (n0 : Nat) (v : Option Value) (h : Heap) (L : List Loc) : Prop := ∃ (y0 : Addr) (ky0 : ClassId), v = some (.ref y0) ∧ Fr n0 L ∧ Keep h0 h [] ∧ n0 ≤ y0 ∧ h0.size ≤ y0 ∧ Arv Z h y0 ky0 (.object "com/example/sidewager/sidewager/cards/Rank") (13 : Int32) vsR .null ∧ Exa Z h y0 "[Lcom/example/sidewager/sidewager/cards/Rank;"
set_option maxRecDepth 65536 in
set_option maxHeartbeats 40000000 in
theorem rmVals (l : Launch) (Z : State) (aV : Array Value) (hw : ∀ d ∈ tables_1, d.before aV Z = true) (ws : List Jvm.Cond) (s_VALS : Addr) (kV : ClassId) (vsR : List Value) (h0 : Heap) (n0 : Nat) (Zn : n0 ≤ h0.size) (OL : Old Z n0 h0) (S_VALS : Sta Z Z.heap "com/example/sidewager/sidewager/cards/Rank" "$VALUES" "[Lcom/example/sidewager/sidewager/cards/Rank;" (.ref s_VALS)) (V_VALS : Arv Z Z.heap s_VALS kV (.object "com/example/sidewager/sidewager/cards/Rank") (13 : Int32) vsR .null) (E_VALS : Exa Z Z.heap s_VALS "[Lcom/example/sidewager/sidewager/cards/Rank;") :
    MetFree l (⟨"com/example/sidewager/sidewager/cards/Rank", "values", "()[Lcom/example/sidewager/sidewager/cards/Rank;"⟩ : MethodName) (head1 (Jvm.Cond.code (⟨"com/example/sidewager/sidewager/cards/Rank", "values", "()[Lcom/example/sidewager/sidewager/cards/Rank;"⟩ : MethodName) prog_40_method_1_code 0 (some (.array (.object "com/example/sidewager/sidewager/cards/Rank"))) :: ws) ({ frames := 1, cells := 1, slots := 13, locals := 14 } : Room)) (fun a U => a = #[] ∧ Z.Warmed39 U.vm ∧ U.heap = h0) (fun _ _ _ _ _ => True) (fun _ U o U' => ∃ v L, o = .returned v ∧ QVals Z s_VALS kV vsR h0 n0 v U'.heap L ∧ FrameEnd U o U' L ({ frames := 1, cells := 1, slots := 13, locals := 14 } : Room).cells ({ frames := 1, cells := 1, slots := 13, locals := 14 } : Room).slots) := by
  refine MetFree.of_bodySF (plainFor_of_name pn_3) hisR ?_
  intro p e s m args below meth c s₁ Bd hml0 hP hK
  obtain ⟨rfl, hZ, hh⟩ := hP
  have hx := Bd.exec
  have hby := Bd.bytes
  have hml : c.maxLocals = 0 := hml0
  have hown : s.vm.findClass "com/example/sidewager/sidewager/cards/Rank" = some m.cls := findClass_of_methodNamed Bd.named
  have hnm := (name_of_methodNamed Bd.named Bd.method).1
  have X0 : Stand p l e ({ frames := 1, cells := 1, slots := 13, locals := 14 } : Room) s m #[] below meth c s₁ [] 0 0 := Stand.of_body Bd
  have e0 : s₁.heap = h0 := by rw [← hh, Bd.state]; rfl
  have N0 := Fr.nil n0
  have Kp := Keep.refl h0 []
  show Run p e below (Ends s (QVals Z s_VALS kV vsR h0 n0) ({ frames := 1, cells := 1, slots := 13, locals := 14 } : Room).cells ({ frames := 1, cells := 1, slots := 13, locals := 14 } : Room).slots) _
  refine Run.st (S' := s₁.setTop (mkF m 0 #[] [])) (fun t k => castTop (ef_Vals m ) k) ?_
  have u_S_VALS := S_VALS.ext OL.2
  obtain ⟨T1, X1, e1, st1⟩ := getS2 X0 hx hZ hown (host := "") (Or.inl (hwi hw 30 rfl)) Via.refl e0 u_S_VALS (g := (mkF m 0 #[] [])) rfl (hb hby d3_0)
  refine Run.st (S' := T1.setTop (mkF m 3 #[] [(.ref s_VALS)])) (fun _ k => st1 _ k) ?_
  have u_V_VALS := V_VALS.ext OL.2
  have u_E_VALS := E_VALS.ext OL.2
  obtain ⟨T2, h2, X2, e2, E2, V2, A2, st2⟩ := cloneH X1 hx hZ hown (ad := "[Lcom/example/sidewager/sidewager/cards/Rank;") (hwi hw 32 rfl) (hwi hw 33 rfl) (hwi hw 37 rfl) (hwi hw 35 rfl) (hwi hw 36 rfl) (hwi hw 38 rfl) e1 (Arv.arh u_V_VALS) u_E_VALS (g := (mkF m 3 #[] [(.ref s_VALS)])) rfl (by rw [hml]; rfl) rfl (hb hby d3_3) (by decide) (W := 0) (by show 2 * 0 + _ ≤ _; exact Nat.le_of_eq rfl) (by decide) (cap := 13) (by decide) (by decide) (by decide)
  obtain ⟨b2, g2⟩ : ∃ z, z = h0.size := ⟨_, rfl⟩
  rw [← g2] at V2 A2 st2
  have OL := OL.ext E2
  have g_b2 : n0 ≤ b2 := Nat.le_trans Zn (Nat.le_of_eq g2.symm)
  have Zn := Nat.le_trans Zn E2.1
  have sz_b2 : h0.size ≤ b2 := Nat.le_trans Kp.1 (Nat.le_of_eq g2.symm)
  have Kp := Kp.ext E2
  have V_b2 : Arv Z h2 b2 kV (.object "com/example/sidewager/sidewager/cards/Rank") (13 : Int32) vsR .null := V2
  have E_b2 := A2
  refine Run.st (S' := T2.setTop (mkF m 6 #[] [(.ref b2)])) (fun _ k => st2 _ k) ?_
  obtain ⟨T3, X3, e3, st3⟩ := castY X2 hx hZ hown (hwi hw 53 rfl) e2 (Ins.self E_b2) (g := (mkF m 6 #[] [(.ref b2)])) rfl rfl (hb hby d3_6)
  refine Run.st (S' := T3.setTop (mkF m 9 #[] [(.ref b2)])) (fun _ k => st3 _ k) ?_
  refine Run.out X3 hx Bd.notSynchronized Bd.returns rfl (Or.inr (Or.inr (Or.inr (Or.inr ⟨rfl, rfl, rfl⟩)))) (hb hby d3_9) (by decide) (by decide) ?_
  rw [e3]
  exact ⟨b2, kV, rfl, N0, Kp, g_b2, sz_b2, V_b2, E_b2⟩
def own_v (d k : Int32) : Int32 := ((d * (4 : Int32)) / k)
def own_fi (v kk : Int32) : Nat → Int32 → List Int32 → List Int32
  | 0, _, L => L
  | fu + 1, su, L => own_fi v kk fu (su + (1 : Int32)) (L.set (kk + ((10 : Int32) * su)).toNatClampNeg ((L.getD (kk + ((10 : Int32) * su)).toNatClampNeg 0) + v))
def own_fo (v : Int32) (K : Nat) : Nat → Int32 → List Int32 → List Int32
  | 0, _, L => L
  | fu + 1, r, L => own_fo v K fu (r + (1 : Int32)) (own_fi v (FMin r (9 : Int32)) K 0 L)
def own_full (v : Int32) (K : Nat) : List Int32 := own_fo v K 13 0 (List.replicate (10 * K) 0)
theorem own_nlt {r z : Int32} {n : Int} (hz : z.toInt = n) (h : r.toInt + ((0 : Nat) : Int) = n) : ¬ r < z := by
  rw [Int32.lt_iff_toInt_lt]; omega
theorem own_lt {r z : Int32} {n : Int} {fu : Nat} (hz : z.toInt = n) (h : r.toInt + ((fu + 1 : Nat) : Int) = n) : r < z := by
  rw [Int32.lt_iff_toInt_lt]; omega
theorem own_lti {r : Int32} {n : Int} {fu : Nat} (h : r.toInt + ((fu + 1 : Nat) : Int) = n) : r.toInt < n := by omega
theorem own_inc {r : Int32} {n : Int} {fu : Nat} (h0 : 0 ≤ r.toInt) (hn : n < 1000) (h : r.toInt + ((fu + 1 : Nat) : Int) = n) : (r + (1 : Int32)).toInt + (fu : Int) = n ∧ 0 ≤ (r + (1 : Int32)).toInt := by
  have e1 : (1 : Int32).toInt = 1 := by decide
  rw [Int32.toInt_add, e1]; simp only [Int.bmod]; omega
theorem own_k9 {a : Addr} {r x : Int32} (h0 : 0 ≤ r.toInt) (h : x = FKind a r) : 0 ≤ x.toInt ∧ x.toInt ≤ 9 := by
  have e9 : (9 : Int32).toInt = 9 := by decide
  subst h; unfold FKind FMin; split
  · rw [e9]; omega
  · rename_i hh; rw [Int32.lt_iff_toInt_lt, e9] at hh; omega
theorem own_idx {x su z : Int32} {n : Int} {fu : Nat} (hz : z.toInt = 10 * n) (hn : n < 1000) (hk : 0 ≤ x.toInt ∧ x.toInt ≤ 9) (h0 : 0 ≤ su.toInt) (h : su.toInt + ((fu + 1 : Nat) : Int) = n) : (¬ (x + ((10 : Int32) * su)) < 0 ∧ (x + ((10 : Int32) * su)) < z) := by
  have e10 : (10 : Int32).toInt = 10 := by decide
  have e0 : (0 : Int32).toInt = 0 := by decide
  have q : (x + ((10 : Int32) * su)).toInt = x.toInt + 10 * su.toInt := by
    rw [Int32.toInt_add, Int32.toInt_mul, e10]; simp only [Int.bmod]; omega
  rw [Int32.lt_iff_toInt_lt, Int32.lt_iff_toInt_lt, q, e0]; omega
theorem own_pos {x z : Int32} {L : List Int32} {n : Nat} (hz : z.toInt = n) (hl : L.length = n) (h : ¬ x < 0 ∧ x < z) : x.toNatClampNeg < (L.map Value.int).length := by
  have e0 : (0 : Int32).toInt = 0 := by decide
  rw [Int32.lt_iff_toInt_lt, Int32.lt_iff_toInt_lt, e0] at h
  rw [List.length_map, hl, Int32.toNatClampNeg]; omega
theorem own_c10 {x : Int32} (h : 0 ≤ x.toInt ∧ x.toInt < 10) : x = (0 : Int32) ∨ x = (1 : Int32) ∨ x = (2 : Int32) ∨ x = (3 : Int32) ∨ x = (4 : Int32) ∨ x = (5 : Int32) ∨ x = (6 : Int32) ∨ x = (7 : Int32) ∨ x = (8 : Int32) ∨ x = (9 : Int32) := by
  simp only [← Int32.toInt_inj]
  have e0 : (0 : Int32).toInt = 0 := by decide
  have e1 : (1 : Int32).toInt = 1 := by decide
  have e2 : (2 : Int32).toInt = 2 := by decide
  have e3 : (3 : Int32).toInt = 3 := by decide
  have e4 : (4 : Int32).toInt = 4 := by decide
  have e5 : (5 : Int32).toInt = 5 := by decide
  have e6 : (6 : Int32).toInt = 6 := by decide
  have e7 : (7 : Int32).toInt = 7 := by decide
  have e8 : (8 : Int32).toInt = 8 := by decide
  have e9 : (9 : Int32).toInt = 9 := by decide
  omega
theorem own_q10 {x : Int32} (h : 0 ≤ x.toInt ∧ x.toInt < 10) : x / (10 : Int32) = (0 : Int32) ∧ x % (10 : Int32) = x := by
  rcases own_c10 h with h | h | h | h | h | h | h | h | h | h <;> subst h <;> decide
theorem own_inL {x z : Int32} {n : Int} (hz : z.toInt = n) (hn : 10 ≤ n) (h : 0 ≤ x.toInt ∧ x.toInt < 10) : ¬ x < 0 ∧ x < z := inb32 hz h.1 (by omega)
theorem own_m10 {x : Int32} (h : 0 ≤ x.toInt ∧ x.toInt < 10) : 0 ≤ (x % (10 : Int32)).toInt ∧ (x % (10 : Int32)).toInt < 10 := by rw [(own_q10 h).2]; exact h
theorem own_d10 {x : Int32} (h : 0 ≤ x.toInt ∧ x.toInt < 10) : 0 ≤ (x / (10 : Int32)).toInt ∧ (x / (10 : Int32)).toInt < 4 := by rw [(own_q10 h).1]; decide
def own_w (ks : List Int32) : Nat → Int32 → List Int32 → List Int32
  | 0, _, W => W
  | fu + 1, i, W => own_w ks fu (i + (1 : Int32)) (W.set (ks.getD i.toNatClampNeg 0).toNatClampNeg ((W.getD (ks.getD i.toNatClampNeg 0).toNatClampNeg 0) + (1 : Int32)))
def own_h (W lf : List Int32) : Nat → Int32 → Int32 → Int32
  | 0, _, r => r
  | fu + 1, i, r => own_h W lf fu (i + (1 : Int32)) (if (lf.getD i.toNatClampNeg 0) < (W.getD i.toNatClampNeg 0) then (r &&& (0 : Int32)) else (r &&& (1 : Int32)))
def own_W (ks : List Int32) (nk : Int32) (N : Nat) : List Int32 := own_w ks nk.toNatClampNeg 0 (List.replicate N 0)
def own_H (ks : List Int32) (nk : Int32) (N : Nat) (lf : List Int32) : Int32 := own_h (own_W ks nk N) lf N 0 1
theorem own_nb {x : Int32} (h : x = 0 ∨ x = 1) : narrow .boolean (.int x) = .int x := by rcases h with h | h <;> subst h <;> rfl
theorem own_a0 {x : Int32} (h : x = 0 ∨ x = 1) : (x &&& (0 : Int32)) = 0 ∨ (x &&& (0 : Int32)) = 1 := by rcases h with h | h <;> subst h <;> decide
theorem own_a1 {x : Int32} (h : x = 0 ∨ x = 1) : (x &&& (1 : Int32)) = 0 ∨ (x &&& (1 : Int32)) = 1 := by rcases h with h | h <;> subst h <;> decide
theorem own_n0 {n : Int32} (h : 0 ≤ n.toInt) : (0 : Int32).toInt + (n.toNatClampNeg : Int) = n.toInt := by
  have e0 : (0 : Int32).toInt = 0 := by decide
  rw [e0, Int32.toNatClampNeg]; omega
theorem pd_3 : parseMethodDescriptor "()[Lcom/example/sidewager/sidewager/cards/Rank;" = some ⟨[], some (.array (.object "com/example/sidewager/sidewager/cards/Rank"))⟩ := by decide +kernel
theorem pd_4 : parseMethodDescriptor "(Lcom/example/sidewager/sidewager/cards/Rank;)I" = some ⟨[(.object "com/example/sidewager/sidewager/cards/Rank")], some .int⟩ := by decide +kernel
theorem d1_0 : decode prog_12_method_2_code 0 = .ok (.aload_n 0, 1) := by decide +kernel
theorem d1_1 : decode prog_12_method_2_code 1 = .ok (.invokespecial 13, 3) := by decide +kernel
theorem d1_4 : decode prog_12_method_2_code 4 = .ok (.aload_n 0, 1) := by decide +kernel
theorem d1_5 : decode prog_12_method_2_code 5 = .ok (.bipush 10, 2) := by decide +kernel
theorem d1_7 : decode prog_12_method_2_code 7 = .ok (.newarray .int, 2) := by decide +kernel
theorem d1_9 : decode prog_12_method_2_code 9 = .ok (.putfield 18, 3) := by decide +kernel
theorem d1_12 : decode prog_12_method_2_code 12 = .ok (.aload_n 0, 1) := by decide +kernel
theorem d1_13 : decode prog_12_method_2_code 13 = .ok (.getstatic 22, 3) := by decide +kernel
theorem d1_16 : decode prog_12_method_2_code 16 = .ok (.newarray .int, 2) := by decide +kernel
theorem d1_18 : decode prog_12_method_2_code 18 = .ok (.putfield 26, 3) := by decide +kernel
theorem d1_21 : decode prog_12_method_2_code 21 = .ok (.iload_n 1, 1) := by decide +kernel
theorem d1_22 : decode prog_12_method_2_code 22 = .ok (.iconst 1, 1) := by decide +kernel
theorem d1_23 : decode prog_12_method_2_code 23 = .ok (.if_icmp .ge 17, 3) := by decide +kernel
theorem d1_40 : decode prog_12_method_2_code 40 = .ok (.aload_n 0, 1) := by decide +kernel
theorem d1_41 : decode prog_12_method_2_code 41 = .ok (.aload_n 3, 1) := by decide +kernel
theorem d1_42 : decode prog_12_method_2_code 42 = .ok (.putfield 38, 3) := by decide +kernel
theorem d1_45 : decode prog_12_method_2_code 45 = .ok (.aload_n 3, 1) := by decide +kernel
theorem d1_46 : decode prog_12_method_2_code 46 = .ok (.getstatic 41, 3) := by decide +kernel
theorem d1_49 : decode prog_12_method_2_code 49 = .ok (.if_acmp .ne 9, 3) := by decide +kernel
theorem d1_58 : decode prog_12_method_2_code 58 = .ok (.iconst 1, 1) := by decide +kernel
theorem d1_59 : decode prog_12_method_2_code 59 = .ok (.istore 4, 2) := by decide +kernel
theorem d1_61 : decode prog_12_method_2_code 61 = .ok (.aload_n 0, 1) := by decide +kernel
theorem d1_62 : decode prog_12_method_2_code 62 = .ok (.bipush 10, 2) := by decide +kernel
theorem d1_64 : decode prog_12_method_2_code 64 = .ok (.iload 4, 2) := by decide +kernel
theorem d1_66 : decode prog_12_method_2_code 66 = .ok (.imul, 1) := by decide +kernel
theorem d1_67 : decode prog_12_method_2_code 67 = .ok (.newarray .int, 2) := by decide +kernel
theorem d1_69 : decode prog_12_method_2_code 69 = .ok (.putfield 44, 3) := by decide +kernel
theorem d1_72 : decode prog_12_method_2_code 72 = .ok (.iconst 0, 1) := by decide +kernel
theorem d1_73 : decode prog_12_method_2_code 73 = .ok (.istore 5, 2) := by decide +kernel
theorem d1_75 : decode prog_12_method_2_code 75 = .ok (.invokestatic 47, 3) := by decide +kernel
theorem d1_78 : decode prog_12_method_2_code 78 = .ok (.astore 6, 2) := by decide +kernel
theorem d1_80 : decode prog_12_method_2_code 80 = .ok (.aload 6, 2) := by decide +kernel
theorem d1_82 : decode prog_12_method_2_code 82 = .ok (.arraylength, 1) := by decide +kernel
theorem d1_83 : decode prog_12_method_2_code 83 = .ok (.istore 7, 2) := by decide +kernel
theorem d1_85 : decode prog_12_method_2_code 85 = .ok (.iconst 0, 1) := by decide +kernel
theorem d1_86 : decode prog_12_method_2_code 86 = .ok (.istore 8, 2) := by decide +kernel
theorem d1_88 : decode prog_12_method_2_code 88 = .ok (.iload 8, 2) := by decide +kernel
theorem d1_90 : decode prog_12_method_2_code 90 = .ok (.iload 7, 2) := by decide +kernel
theorem d1_92 : decode prog_12_method_2_code 92 = .ok (.if_icmp .ge 73, 3) := by decide +kernel
theorem d1_95 : decode prog_12_method_2_code 95 = .ok (.aload 6, 2) := by decide +kernel
theorem d1_97 : decode prog_12_method_2_code 97 = .ok (.iload 8, 2) := by decide +kernel
theorem d1_99 : decode prog_12_method_2_code 99 = .ok (.aaload, 1) := by decide +kernel
theorem d1_100 : decode prog_12_method_2_code 100 = .ok (.astore 9, 2) := by decide +kernel
theorem d1_102 : decode prog_12_method_2_code 102 = .ok (.aload 9, 2) := by decide +kernel
theorem d1_104 : decode prog_12_method_2_code 104 = .ok (.invokestatic 53, 3) := by decide +kernel
theorem d1_107 : decode prog_12_method_2_code 107 = .ok (.istore 10, 2) := by decide +kernel
theorem d1_109 : decode prog_12_method_2_code 109 = .ok (.iconst 0, 1) := by decide +kernel
theorem d1_110 : decode prog_12_method_2_code 110 = .ok (.istore 11, 2) := by decide +kernel
theorem d1_112 : decode prog_12_method_2_code 112 = .ok (.iload 11, 2) := by decide +kernel
theorem d1_114 : decode prog_12_method_2_code 114 = .ok (.iload 4, 2) := by decide +kernel
theorem d1_116 : decode prog_12_method_2_code 116 = .ok (.if_icmp .ge 33, 3) := by decide +kernel
theorem d1_119 : decode prog_12_method_2_code 119 = .ok (.aload_n 0, 1) := by decide +kernel
theorem d1_120 : decode prog_12_method_2_code 120 = .ok (.getfield 44, 3) := by decide +kernel
theorem d1_123 : decode prog_12_method_2_code 123 = .ok (.iload 10, 2) := by decide +kernel
theorem d1_125 : decode prog_12_method_2_code 125 = .ok (.bipush 10, 2) := by decide +kernel
theorem d1_127 : decode prog_12_method_2_code 127 = .ok (.iload 11, 2) := by decide +kernel
theorem d1_129 : decode prog_12_method_2_code 129 = .ok (.imul, 1) := by decide +kernel
theorem d1_130 : decode prog_12_method_2_code 130 = .ok (.iadd, 1) := by decide +kernel
theorem d1_131 : decode prog_12_method_2_code 131 = .ok (.dup2, 1) := by decide +kernel
theorem d1_132 : decode prog_12_method_2_code 132 = .ok (.iaload, 1) := by decide +kernel
theorem d1_133 : decode prog_12_method_2_code 133 = .ok (.iload_n 1, 1) := by decide +kernel
theorem d1_134 : decode prog_12_method_2_code 134 = .ok (.getstatic 22, 3) := by decide +kernel
theorem d1_137 : decode prog_12_method_2_code 137 = .ok (.imul, 1) := by decide +kernel
theorem d1_138 : decode prog_12_method_2_code 138 = .ok (.iload 4, 2) := by decide +kernel
theorem d1_140 : decode prog_12_method_2_code 140 = .ok (.idiv, 1) := by decide +kernel
theorem d1_141 : decode prog_12_method_2_code 141 = .ok (.iadd, 1) := by decide +kernel
theorem d1_142 : decode prog_12_method_2_code 142 = .ok (.iastore, 1) := by decide +kernel
theorem d1_143 : decode prog_12_method_2_code 143 = .ok (.iinc 11 1, 3) := by decide +kernel
theorem d1_146 : decode prog_12_method_2_code 146 = .ok (.goto (-34), 3) := by decide +kernel
theorem d1_149 : decode prog_12_method_2_code 149 = .ok (.iload 5, 2) := by decide +kernel
theorem d1_151 : decode prog_12_method_2_code 151 = .ok (.iload_n 1, 1) := by decide +kernel
theorem d1_152 : decode prog_12_method_2_code 152 = .ok (.getstatic 22, 3) := by decide +kernel
theorem d1_155 : decode prog_12_method_2_code 155 = .ok (.imul, 1) := by decide +kernel
theorem d1_156 : decode prog_12_method_2_code 156 = .ok (.iadd, 1) := by decide +kernel
theorem d1_157 : decode prog_12_method_2_code 157 = .ok (.istore 5, 2) := by decide +kernel
theorem d1_159 : decode prog_12_method_2_code 159 = .ok (.iinc 8 1, 3) := by decide +kernel
theorem d1_162 : decode prog_12_method_2_code 162 = .ok (.goto (-74), 3) := by decide +kernel
theorem d1_165 : decode prog_12_method_2_code 165 = .ok (.aload_n 0, 1) := by decide +kernel
theorem d1_166 : decode prog_12_method_2_code 166 = .ok (.aload_n 0, 1) := by decide +kernel
theorem d1_167 : decode prog_12_method_2_code 167 = .ok (.getfield 44, 3) := by decide +kernel
theorem d1_170 : decode prog_12_method_2_code 170 = .ok (.invokevirtual 57, 3) := by decide +kernel
theorem d1_173 : decode prog_12_method_2_code 173 = .ok (.checkcast 58, 3) := by decide +kernel
theorem d1_176 : decode prog_12_method_2_code 176 = .ok (.putfield 62, 3) := by decide +kernel
theorem d1_179 : decode prog_12_method_2_code 179 = .ok (.aload_n 0, 1) := by decide +kernel
theorem d1_180 : decode prog_12_method_2_code 180 = .ok (.iload_n 2, 1) := by decide +kernel
theorem d1_181 : decode prog_12_method_2_code 181 = .ok (.iconst 1, 1) := by decide +kernel
theorem d1_182 : decode prog_12_method_2_code 182 = .ok (.iadd, 1) := by decide +kernel
theorem d1_183 : decode prog_12_method_2_code 183 = .ok (.anewarray 65, 3) := by decide +kernel
theorem d1_186 : decode prog_12_method_2_code 186 = .ok (.putfield 67, 3) := by decide +kernel
theorem d1_189 : decode prog_12_method_2_code 189 = .ok (.aload_n 0, 1) := by decide +kernel
theorem d1_190 : decode prog_12_method_2_code 190 = .ok (.getfield 67, 3) := by decide +kernel
theorem d1_193 : decode prog_12_method_2_code 193 = .ok (.iload_n 2, 1) := by decide +kernel
theorem d1_194 : decode prog_12_method_2_code 194 = .ok (.getstatic 71, 3) := by decide +kernel
theorem d1_197 : decode prog_12_method_2_code 197 = .ok (.aastore, 1) := by decide +kernel
theorem d1_198 : decode prog_12_method_2_code 198 = .ok (.iload_n 2, 1) := by decide +kernel
theorem d1_199 : decode prog_12_method_2_code 199 = .ok (.iconst 1, 1) := by decide +kernel
theorem d1_200 : decode prog_12_method_2_code 200 = .ok (.isub, 1) := by decide +kernel
theorem d1_201 : decode prog_12_method_2_code 201 = .ok (.istore 6, 2) := by decide +kernel
theorem d1_203 : decode prog_12_method_2_code 203 = .ok (.iload 6, 2) := by decide +kernel
theorem d1_205 : decode prog_12_method_2_code 205 = .ok (.ifCond .lt 37, 3) := by decide +kernel
theorem d1_242 : decode prog_12_method_2_code 242 = .ok (.return_, 1) := by decide +kernel
theorem ef_CtI (m : MethodId) (a0 : Addr) (p1 : Int32) (u : Addr) : entryFrame m #[(.ref a0), (.int p1), (.int (0 : Int32)), (.ref u)] 12 = mkF m 0 #[.val (.ref a0), .val (.int p1), .val (.int (0 : Int32)), .val (.ref u), .unset, .unset, .unset, .unset, .unset, .unset, .unset, .unset] [] := by first | (simp [entryFrame, mkF, argsToLocals, Value.category]; done) | rfl
def QCtI (Z : State) (a0 : Addr) (p1 : Int32) (u : Addr) (s_MAT : Addr) (s_VALS : Addr) (kV : ClassId) (vsR : List Value) (s_ONE : Addr) (h0 : Heap) (n0 : Nat) (v : Option Value) (h : Heap) (L : List Loc) : Prop := ∃ (y0 : Addr) (ky0 : ClassId) (y1 : Addr) (ky1 : ClassId) (y2 : Addr) (ky2 : ClassId), v = none ∧ Fr n0 L ∧ Keep h0 h [a0] ∧ n0 ≤ y0 ∧ h0.size ≤ y0 ∧ n0 ≤ y1 ∧ h0.size ≤ y1 ∧ n0 ≤ y2 ∧ h0.size ≤ y2 ∧ y0 ≠ y1 ∧ y0 ≠ y2 ∧ y1 ≠ y2 ∧ Exa Z h a0 "com/example/sidewager/sidewager/analysis/Shoe" ∧ Fld Z h a0 "com/example/sidewager/sidewager/analysis/Shoe" "suits" "Lcom/example/sidewager/sidewager/analysis/Shoe$Suits;" (.ref u) ∧ Fld Z h a0 "com/example/sidewager/sidewager/analysis/Shoe" "left" "[I" (.ref y2) ∧ Fld Z h a0 "com/example/sidewager/sidewager/analysis/Shoe" "dealtOfRank" "[I" (.ref y0) ∧ Fld Z h a0 "com/example/sidewager/sidewager/analysis/Shoe" "dealtOfSuit" "[I" (.ref y1) ∧ Fld Z h a0 "com/example/sidewager/sidewager/analysis/Shoe" "suitsDealt" "I" (.int (0 : Int32)) ∧ Fld Z h a0 "com/example/sidewager/sidewager/analysis/Shoe" "dealt" "I" (.int (0 : Int32)) ∧ Fld Z h a0 "com/example/sidewager/sidewager/analysis/Shoe" "dealtKey" "J" (.long (0 : Int64)) ∧ Arv Z h y0 ky0 .int (10 : Int32) ((List.replicate 10 (0 : Int32)).map Value.int) (.int (0 : Int32)) ∧ Arv Z h y1 ky1 .int (4 : Int32) ((List.replicate 4 (0 : Int32)).map Value.int) (.int (0 : Int32)) ∧ Arv Z h y2 ky2 .int (10 : Int32) ((own_full (own_v p1 (1 : Int32)) 1).map Value.int) (.int (0 : Int32))
set_option maxRecDepth 65536 in
set_option maxHeartbeats 40000000 in
theorem rmCtI (l : Launch) (Z : State) (aV : Array Value) (hw : ∀ d ∈ tables_1, d.before aV Z = true) (ws : List Jvm.Cond) (a0 : Addr) (p1 : Int32) (u : Addr) (s_MAT : Addr) (s_VALS : Addr) (kV : ClassId) (vsR : List Value) (s_ONE : Addr) (h0 : Heap) (n0 : Nat) (Zn : n0 ≤ h0.size) (g_a0 : n0 ≤ a0) (hd1 : ¬ (p1 < (1 : Int32))) (OL : Old Z n0 h0) (HR : ∀ rr : Int32, 0 ≤ rr.toInt → rr.toInt < 13 → ∃ a : Addr, vsR.getD rr.toNatClampNeg .null = .ref a ∧ Exa Z Z.heap a "com/example/sidewager/sidewager/cards/Rank" ∧ Fld Z Z.heap a "java/lang/Enum" "ordinal" "I" (.int rr)) (hne : u ≠ s_MAT) (E_a0 : Exa Z h0 a0 "com/example/sidewager/sidewager/analysis/Shoe") (F_suits : Fld Z h0 a0 "com/example/sidewager/sidewager/analysis/Shoe" "suits" "Lcom/example/sidewager/sidewager/analysis/Shoe$Suits;" .null) (F_full : Fld Z h0 a0 "com/example/sidewager/sidewager/analysis/Shoe" "full" "[I" .null) (F_left : Fld Z h0 a0 "com/example/sidewager/sidewager/analysis/Shoe" "left" "[I" .null) (F_ord : Fld Z h0 a0 "com/example/sidewager/sidewager/analysis/Shoe" "orderingsAfter" "[Ljava/math/BigInteger;" .null) (F_dr : Fld Z h0 a0 "com/example/sidewager/sidewager/analysis/Shoe" "dealtOfRank" "[I" .null) (F_ds : Fld Z h0 a0 "com/example/sidewager/sidewager/analysis/Shoe" "dealtOfSuit" "[I" .null) (F_sd : Fld Z h0 a0 "com/example/sidewager/sidewager/analysis/Shoe" "suitsDealt" "I" (.int (0 : Int32))) (F_dt : Fld Z h0 a0 "com/example/sidewager/sidewager/analysis/Shoe" "dealt" "I" (.int (0 : Int32))) (F_dk : Fld Z h0 a0 "com/example/sidewager/sidewager/analysis/Shoe" "dealtKey" "J" (.long (0 : Int64))) (S_SUITS : Sta Z Z.heap "com/example/sidewager/sidewager/analysis/Shoe" "SUITS" "I" (.int (4 : Int32))) (S_MAT : Sta Z Z.heap "com/example/sidewager/sidewager/analysis/Shoe$Suits" "MATCHED" "Lcom/example/sidewager/sidewager/analysis/Shoe$Suits;" (.ref s_MAT)) (S_VALS : Sta Z Z.heap "com/example/sidewager/sidewager/cards/Rank" "$VALUES" "[Lcom/example/sidewager/sidewager/cards/Rank;" (.ref s_VALS)) (V_VALS : Arv Z Z.heap s_VALS kV (.object "com/example/sidewager/sidewager/cards/Rank") (13 : Int32) vsR .null) (E_VALS : Exa Z Z.heap s_VALS "[Lcom/example/sidewager/sidewager/cards/Rank;") (S_ONE : Sta Z Z.heap "java/math/BigInteger" "ONE" "Ljava/math/BigInteger;" (.ref s_ONE)) (E_ONE : Exa Z Z.heap s_ONE "java/math/BigInteger") :
    MetFree l (⟨"com/example/sidewager/sidewager/analysis/Shoe", "<init>", "(IILcom/example/sidewager/sidewager/analysis/Shoe$Suits;)V"⟩ : MethodName) (head1 (Jvm.Cond.code (⟨"com/example/sidewager/sidewager/analysis/Shoe", "<init>", "(IILcom/example/sidewager/sidewager/analysis/Shoe$Suits;)V"⟩ : MethodName) prog_12_method_2_code 12 none :: ws) ({ frames := 2, cells := 6, slots := 48, locals := 25 } : Room)) (fun a U => a = #[(.ref a0), (.int p1), (.int (0 : Int32)), (.ref u)] ∧ Z.Warmed39 U.vm ∧ U.heap = h0) (fun _ _ _ _ _ => True) (fun _ U o U' => ∃ v L, o = .returned v ∧ QCtI Z a0 p1 u s_MAT s_VALS kV vsR s_ONE h0 n0 v U'.heap L ∧ FrameEnd U o U' L ({ frames := 2, cells := 6, slots := 48, locals := 25 } : Room).cells ({ frames := 2, cells := 6, slots := 48, locals := 25 } : Room).slots) := by
  refine MetFree.of_bodySF (plainFor_of_name pn_1) hisR ?_
  intro p e s m args below meth c s₁ Bd hml0 hP hK
  obtain ⟨rfl, hZ, hh⟩ := hP
  have hx := Bd.exec
  have hby := Bd.bytes
  have hml : c.maxLocals = 12 := hml0
  have hown : s.vm.findClass "com/example/sidewager/sidewager/analysis/Shoe" = some m.cls := findClass_of_methodNamed Bd.named
  have hnm := (name_of_methodNamed Bd.named Bd.method).1
  have X0 : Stand p l e ({ frames := 2, cells := 6, slots := 48, locals := 25 } : Room) s m #[(.ref a0), (.int p1), (.int (0 : Int32)), (.ref u)] below meth c s₁ [] 0 0 := Stand.of_body Bd
  have e0 : s₁.heap = h0 := by rw [← hh, Bd.state]; rfl
  have N0 := Fr.nil n0
  have Kp := Keep.refl h0 [a0]
  show Run p e below (Ends s (QCtI Z a0 p1 u s_MAT s_VALS kV vsR s_ONE h0 n0) ({ frames := 2, cells := 6, slots := 48, locals := 25 } : Room).cells ({ frames := 2, cells := 6, slots := 48, locals := 25 } : Room).slots) _
  refine Run.st (S' := s₁.setTop (mkF m 0 #[.val (.ref a0), .val (.int p1), .val (.int (0 : Int32)), .val (.ref u), .unset, .unset, .unset, .unset, .unset, .unset, .unset, .unset] [])) (fun t k => castTop (ef_CtI m a0 p1 u) k) ?_
  refine Run.st (S' := s₁.setTop (mkF m 1 #[.val (.ref a0), .val (.int p1), .val (.int (0 : Int32)), .val (.ref u), .unset, .unset, .unset, .unset, .unset, .unset, .unset, .unset] [(.ref a0)])) (fun _ k => XS.aloadN X0.here hx rfl (hb hby d1_0) rfl rfl k) ?_
  obtain ⟨T1, X1, e1, st1⟩ := initO X0 hx hZ hown (hwi hw 10 rfl) (hwi hw 11 rfl) (hwi hw 12 rfl) e0 (g := (mkF m 1 #[.val (.ref a0), .val (.int p1), .val (.int (0 : Int32)), .val (.ref u), .unset, .unset, .unset, .unset, .unset, .unset, .unset, .unset] [(.ref a0)])) rfl (by rw [hml]; rfl) rfl (hb hby d1_1) (by decide) (W := 0) (by show 2 * 0 + _ ≤ _; exact Nat.le_of_eq rfl) (by decide)
  refine Run.st (S' := T1.setTop (mkF m 7 #[.val (.ref a0), .val (.int p1), .val (.int (0 : Int32)), .val (.ref u), .unset, .unset, .unset, .unset, .unset, .unset, .unset, .unset] [(.int (10 : Int32)), (.ref a0)])) (fun _ k => st1 _ (XS.aloadN X1.here hx rfl (hb hby d1_4) rfl rfl (XS.bipush X1.here hx rfl (hb hby d1_5) k))) ?_
  obtain ⟨T2, h2, k2, X2, e2, E2, A2, st2⟩ := newP X1 hx hZ (hwi hw 13 rfl) e1 (g := (mkF m 7 #[.val (.ref a0), .val (.int p1), .val (.int (0 : Int32)), .val (.ref u), .unset, .unset, .unset, .unset, .unset, .unset, .unset, .unset] [(.int (10 : Int32)), (.ref a0)])) rfl (hb hby d1_7) rfl (by decide) (cap := 10) (by decide) (by decide) (by decide) (by decide)
  obtain ⟨b2, g2⟩ : ∃ z, z = h0.size := ⟨_, rfl⟩
  rw [← g2] at A2 st2
  have ne_a0_b2 : a0 ≠ b2 := Nat.ne_of_lt (Nat.lt_of_lt_of_le E_a0.lt (Nat.le_of_eq g2.symm))
  have E_a0 := E_a0.ext E2
  have F_suits := F_suits.ext E2
  have F_full := F_full.ext E2
  have F_left := F_left.ext E2
  have F_ord := F_ord.ext E2
  have F_dr := F_dr.ext E2
  have F_ds := F_ds.ext E2
  have F_sd := F_sd.ext E2
  have F_dt := F_dt.ext E2
  have F_dk := F_dk.ext E2
  have OL := OL.ext E2
  have g_b2 : n0 ≤ b2 := Nat.le_trans Zn (Nat.le_of_eq g2.symm)
  have Zn := Nat.le_trans Zn E2.1
  have sz_b2 : h0.size ≤ b2 := Nat.le_trans Kp.1 (Nat.le_of_eq g2.symm)
  have Kp := Kp.ext E2
  have V_b2 : Arv Z h2 b2 k2 .int (10 : Int32) [(.int (0 : Int32)), (.int (0 : Int32)), (.int (0 : Int32)), (.int (0 : Int32)), (.int (0 : Int32)), (.int (0 : Int32)), (.int (0 : Int32)), (.int (0 : Int32)), (.int (0 : Int32)), (.int (0 : Int32))] (.int (0 : Int32)) := (Arv.new A2 (by decide)).pad (pad_rep [] (.int (0 : Int32)) 10)
  refine Run.st (S' := T2.setTop (mkF m 9 #[.val (.ref a0), .val (.int p1), .val (.int (0 : Int32)), .val (.ref u), .unset, .unset, .unset, .unset, .unset, .unset, .unset, .unset] [(.ref b2), (.ref a0)])) (fun _ k => st2 _ k) ?_
  obtain ⟨T3, h3, X3, e3, W3, st3⟩ := putF X2 hx hZ hown (host := "") (Or.inl (hwi hw 14 rfl)) Via.refl e2 F_dr E_a0 (Or.inr ⟨(hwi hw 15 rfl), rfl, hnm⟩) (hwi hw 2 rfl) (ty := (.array .int)) (by decide) rfl rfl (g := (mkF m 9 #[.val (.ref a0), .val (.int p1), .val (.int (0 : Int32)), .val (.ref u), .unset, .unset, .unset, .unset, .unset, .unset, .unset, .unset] [(.ref b2), (.ref a0)])) rfl rfl (hb hby d1_9)
  have F_dr := F_dr.same W3
  have OL := OL.wr W3 g_a0
  have E_a0 := E_a0.wr W3
  have F_suits := F_suits.other W3 (Or.inr (slot_ne (Or.inr (hwi hw 21 rfl)) (Or.inr (hwi hw 15 rfl)) (by decide) (t := (.object "com/example/sidewager/sidewager/analysis/Shoe$Suits")) (t' := (.array .int)) (by decide) (by decide)))
  have F_full := F_full.other W3 (Or.inr (slot_ne (Or.inr (hwi hw 25 rfl)) (Or.inr (hwi hw 15 rfl)) (by decide) (t := (.array .int)) (t' := (.array .int)) (by decide) (by decide)))
  have F_left := F_left.other W3 (Or.inr (slot_ne (Or.inr (hwi hw 78 rfl)) (Or.inr (hwi hw 15 rfl)) (by decide) (t := (.array .int)) (t' := (.array .int)) (by decide) (by decide)))
  have F_ord := F_ord.other W3 (Or.inr (slot_ne (Or.inr (hwi hw 82 rfl)) (Or.inr (hwi hw 15 rfl)) (by decide) (t := (.array (.object "java/math/BigInteger"))) (t' := (.array .int)) (by decide) (by decide)))
  have F_ds := F_ds.other W3 (Or.inr (slot_ne (Or.inr (hwi hw 19 rfl)) (Or.inr (hwi hw 15 rfl)) (by decide) (t := (.array .int)) (t' := (.array .int)) (by decide) (by decide)))
  have F_sd := F_sd.other W3 (Or.inr (slot_ne (Or.inl (hwi hw 131 rfl)) (Or.inr (hwi hw 15 rfl)) (by decide) (t := .int) (t' := (.array .int)) (by decide) (by decide)))
  have F_dt := F_dt.other W3 (Or.inr (slot_ne (Or.inl (hwi hw 102 rfl)) (Or.inr (hwi hw 15 rfl)) (by decide) (t := .int) (t' := (.array .int)) (by decide) (by decide)))
  have F_dk := F_dk.other W3 (Or.inr (slot_ne (Or.inl (hwi hw 126 rfl)) (Or.inr (hwi hw 15 rfl)) (by decide) (t := .long) (t' := (.array .int)) (by decide) (by decide)))
  have V_b2 := V_b2.other W3 (Ne.symm ne_a0_b2)
  have N3 := Fr.snoc X3 N0 g_a0
  have Kp := Kp.wr W3 (Or.inl (by simp))
  have Zn := Nat.le_trans Zn (Nat.le_of_eq W3.size.symm)
  refine Run.st (S' := T3.setTop (mkF m 13 #[.val (.ref a0), .val (.int p1), .val (.int (0 : Int32)), .val (.ref u), .unset, .unset, .unset, .unset, .unset, .unset, .unset, .unset] [(.ref a0)])) (fun _ k => st3 _ (XS.aloadN X3.here hx rfl (hb hby d1_12) rfl rfl k)) ?_
  have u_S_SUITS := S_SUITS.ext OL.2
  obtain ⟨T4, X4, e4, st4⟩ := getS2 X3 hx hZ hown (host := "") (Or.inl (hwi hw 16 rfl)) Via.refl e3 u_S_SUITS (g := (mkF m 13 #[.val (.ref a0), .val (.int p1), .val (.int (0 : Int32)), .val (.ref u), .unset, .unset, .unset, .unset, .unset, .unset, .unset, .unset] [(.ref a0)])) rfl (hb hby d1_13)
  refine Run.st (S' := T4.setTop (mkF m 16 #[.val (.ref a0), .val (.int p1), .val (.int (0 : Int32)), .val (.ref u), .unset, .unset, .unset, .unset, .unset, .unset, .unset, .unset] [(.int (4 : Int32)), (.ref a0)])) (fun _ k => st4 _ k) ?_
  obtain ⟨T5, h5, k5, X5, e5, E5, A5, st5⟩ := newP X4 hx hZ (hwi hw 13 rfl) e4 (g := (mkF m 16 #[.val (.ref a0), .val (.int p1), .val (.int (0 : Int32)), .val (.ref u), .unset, .unset, .unset, .unset, .unset, .unset, .unset, .unset] [(.int (4 : Int32)), (.ref a0)])) rfl (hb hby d1_16) rfl (by decide) (cap := 4) (by decide) (by decide) (by decide) (by decide)
  obtain ⟨b5, g5⟩ : ∃ z, z = h3.size := ⟨_, rfl⟩
  rw [← g5] at A5 st5
  have ne_a0_b5 : a0 ≠ b5 := Nat.ne_of_lt (Nat.lt_of_lt_of_le E_a0.lt (Nat.le_of_eq g5.symm))
  have ne_b2_b5 : b2 ≠ b5 := Nat.ne_of_lt (Nat.lt_of_lt_of_le V_b2.lt (Nat.le_of_eq g5.symm))
  have E_a0 := E_a0.ext E5
  have F_suits := F_suits.ext E5
  have F_full := F_full.ext E5
  have F_left := F_left.ext E5
  have F_ord := F_ord.ext E5
  have F_dr := F_dr.ext E5
  have F_ds := F_ds.ext E5
  have F_sd := F_sd.ext E5
  have F_dt := F_dt.ext E5
  have F_dk := F_dk.ext E5
  have V_b2 := V_b2.ext E5
  have OL := OL.ext E5
  have g_b5 : n0 ≤ b5 := Nat.le_trans Zn (Nat.le_of_eq g5.symm)
  have Zn := Nat.le_trans Zn E5.1
  have sz_b5 : h0.size ≤ b5 := Nat.le_trans Kp.1 (Nat.le_of_eq g5.symm)
  have Kp := Kp.ext E5
  have V_b5 : Arv Z h5 b5 k5 .int (4 : Int32) [(.int (0 : Int32)), (.int (0 : Int32)), (.int (0 : Int32)), (.int (0 : Int32))] (.int (0 : Int32)) := (Arv.new A5 (by decide)).pad (pad_rep [] (.int (0 : Int32)) 4)
  refine Run.st (S' := T5.setTop (mkF m 18 #[.val (.ref a0), .val (.int p1), .val (.int (0 : Int32)), .val (.ref u), .unset, .unset, .unset, .unset, .unset, .unset, .unset, .unset] [(.ref b5), (.ref a0)])) (fun _ k => st5 _ k) ?_
  obtain ⟨T6, h6, X6, e6, W6, st6⟩ := putF X5 hx hZ hown (host := "") (Or.inl (hwi hw 18 rfl)) Via.refl e5 F_ds E_a0 (Or.inr ⟨(hwi hw 19 rfl), rfl, hnm⟩) (hwi hw 2 rfl) (ty := (.array .int)) (by decide) rfl rfl (g := (mkF m 18 #[.val (.ref a0), .val (.int p1), .val (.int (0 : Int32)), .val (.ref u), .unset, .unset, .unset, .unset, .unset, .unset, .unset, .unset] [(.ref b5), (.ref a0)])) rfl rfl (hb hby d1_18)
  have F_ds := F_ds.same W6
  have OL := OL.wr W6 g_a0
  have E_a0 := E_a0.wr W6
  have F_suits := F_suits.other W6 (Or.inr (slot_ne (Or.inr (hwi hw 21 rfl)) (Or.inr (hwi hw 19 rfl)) (by decide) (t := (.object "com/example/sidewager/sidewager/analysis/Shoe$Suits")) (t' := (.array .int)) (by decide) (by decide)))
  have F_full := F_full.other W6 (Or.inr (slot_ne (Or.inr (hwi hw 25 rfl)) (Or.inr (hwi hw 19 rfl)) (by decide) (t := (.array .int)) (t' := (.array .int)) (by decide) (by decide)))
  have F_left := F_left.other W6 (Or.inr (slot_ne (Or.inr (hwi hw 78 rfl)) (Or.inr (hwi hw 19 rfl)) (by decide) (t := (.array .int)) (t' := (.array .int)) (by decide) (by decide)))
  have F_ord := F_ord.other W6 (Or.inr (slot_ne (Or.inr (hwi hw 82 rfl)) (Or.inr (hwi hw 19 rfl)) (by decide) (t := (.array (.object "java/math/BigInteger"))) (t' := (.array .int)) (by decide) (by decide)))
  have F_dr := F_dr.other W6 (Or.inr (slot_ne (Or.inr (hwi hw 15 rfl)) (Or.inr (hwi hw 19 rfl)) (by decide) (t := (.array .int)) (t' := (.array .int)) (by decide) (by decide)))
  have F_sd := F_sd.other W6 (Or.inr (slot_ne (Or.inl (hwi hw 131 rfl)) (Or.inr (hwi hw 19 rfl)) (by decide) (t := .int) (t' := (.array .int)) (by decide) (by decide)))
  have F_dt := F_dt.other W6 (Or.inr (slot_ne (Or.inl (hwi hw 102 rfl)) (Or.inr (hwi hw 19 rfl)) (by decide) (t := .int) (t' := (.array .int)) (by decide) (by decide)))
  have F_dk := F_dk.other W6 (Or.inr (slot_ne (Or.inl (hwi hw 126 rfl)) (Or.inr (hwi hw 19 rfl)) (by decide) (t := .long) (t' := (.array .int)) (by decide) (by decide)))
  have V_b2 := V_b2.other W6 (Ne.symm ne_a0_b2)
  have V_b5 := V_b5.other W6 (Ne.symm ne_a0_b5)
  have N6 := Fr.snoc X6 N3 g_a0
  have Kp := Kp.wr W6 (Or.inl (by simp))
  have Zn := Nat.le_trans Zn (Nat.le_of_eq W6.size.symm)
  refine Run.st (S' := T6.setTop (mkF m 42 #[.val (.ref a0), .val (.int p1), .val (.int (0 : Int32)), .val (.ref u), .unset, .unset, .unset, .unset, .unset, .unset, .unset, .unset] [(.ref u), (.ref a0)])) (fun _ k => st6 _ (XS.iloadN X6.here hx rfl (hb hby d1_21) rfl (XS.iconst X6.here hx rfl (hb hby d1_22) (XS.icmpYes X6.here hx rfl (pc0 := 23) (pc' := 40) rfl (hb hby d1_23) rfl (flt (show ¬ (p1 < (1 : Int32)) from hd1)).2.1 (by decide) (by decide) (XS.aloadN X6.here hx rfl (hb hby d1_40) rfl rfl (XS.aloadN X6.here hx rfl (hb hby d1_41) rfl rfl k)))))) ?_
  obtain ⟨T7, h7, X7, e7, W7, st7⟩ := putF X6 hx hZ hown (host := "") (Or.inl (hwi hw 20 rfl)) Via.refl e6 F_suits E_a0 (Or.inr ⟨(hwi hw 21 rfl), rfl, hnm⟩) (hwi hw 2 rfl) (ty := (.object "com/example/sidewager/sidewager/analysis/Shoe$Suits")) (by decide) rfl rfl (g := (mkF m 42 #[.val (.ref a0), .val (.int p1), .val (.int (0 : Int32)), .val (.ref u), .unset, .unset, .unset, .unset, .unset, .unset, .unset, .unset] [(.ref u), (.ref a0)])) rfl rfl (hb hby d1_42)
  have F_suits := F_suits.same W7
  have OL := OL.wr W7 g_a0
  have E_a0 := E_a0.wr W7
  have F_full := F_full.other W7 (Or.inr (slot_ne (Or.inr (hwi hw 25 rfl)) (Or.inr (hwi hw 21 rfl)) (by decide) (t := (.array .int)) (t' := (.object "com/example/sidewager/sidewager/analysis/Shoe$Suits")) (by decide) (by decide)))
  have F_left := F_left.other W7 (Or.inr (slot_ne (Or.inr (hwi hw 78 rfl)) (Or.inr (hwi hw 21 rfl)) (by decide) (t := (.array .int)) (t' := (.object "com/example/sidewager/sidewager/analysis/Shoe$Suits")) (by decide) (by decide)))
  have F_ord := F_ord.other W7 (Or.inr (slot_ne (Or.inr (hwi hw 82 rfl)) (Or.inr (hwi hw 21 rfl)) (by decide) (t := (.array (.object "java/math/BigInteger"))) (t' := (.object "com/example/sidewager/sidewager/analysis/Shoe$Suits")) (by decide) (by decide)))
  have F_dr := F_dr.other W7 (Or.inr (slot_ne (Or.inr (hwi hw 15 rfl)) (Or.inr (hwi hw 21 rfl)) (by decide) (t := (.array .int)) (t' := (.object "com/example/sidewager/sidewager/analysis/Shoe$Suits")) (by decide) (by decide)))
  have F_ds := F_ds.other W7 (Or.inr (slot_ne (Or.inr (hwi hw 19 rfl)) (Or.inr (hwi hw 21 rfl)) (by decide) (t := (.array .int)) (t' := (.object "com/example/sidewager/sidewager/analysis/Shoe$Suits")) (by decide) (by decide)))
  have F_sd := F_sd.other W7 (Or.inr (slot_ne (Or.inl (hwi hw 131 rfl)) (Or.inr (hwi hw 21 rfl)) (by decide) (t := .int) (t' := (.object "com/example/sidewager/sidewager/analysis/Shoe$Suits")) (by decide) (by decide)))
  have F_dt := F_dt.other W7 (Or.inr (slot_ne (Or.inl (hwi hw 102 rfl)) (Or.inr (hwi hw 21 rfl)) (by decide) (t := .int) (t' := (.object "com/example/sidewager/sidewager/analysis/Shoe$Suits")) (by decide) (by decide)))
  have F_dk := F_dk.other W7 (Or.inr (slot_ne (Or.inl (hwi hw 126 rfl)) (Or.inr (hwi hw 21 rfl)) (by decide) (t := .long) (t' := (.object "com/example/sidewager/sidewager/analysis/Shoe$Suits")) (by decide) (by decide)))
  have V_b2 := V_b2.other W7 (Ne.symm ne_a0_b2)
  have V_b5 := V_b5.other W7 (Ne.symm ne_a0_b5)
  have N7 := Fr.snoc X7 N6 g_a0
  have Kp := Kp.wr W7 (Or.inl (by simp))
  have Zn := Nat.le_trans Zn (Nat.le_of_eq W7.size.symm)
  refine Run.st (S' := T7.setTop (mkF m 46 #[.val (.ref a0), .val (.int p1), .val (.int (0 : Int32)), .val (.ref u), .unset, .unset, .unset, .unset, .unset, .unset, .unset, .unset] [(.ref u)])) (fun _ k => st7 _ (XS.aloadN X7.here hx rfl (hb hby d1_45) rfl rfl k)) ?_
  have u_S_MAT := S_MAT.ext OL.2
  obtain ⟨T8, X8, e8, st8⟩ := getS2 X7 hx hZ hown (host := "") (Or.inl (hwi hw 22 rfl)) Via.refl e7 u_S_MAT (g := (mkF m 46 #[.val (.ref a0), .val (.int p1), .val (.int (0 : Int32)), .val (.ref u), .unset, .unset, .unset, .unset, .unset, .unset, .unset, .unset] [(.ref u)])) rfl (hb hby d1_46)
  refine Run.st (S' := T8.setTop (mkF m 67 #[.val (.ref a0), .val (.int p1), .val (.int (0 : Int32)), .val (.ref u), .val (.int (1 : Int32)), .unset, .unset, .unset, .unset, .unset, .unset, .unset] [(.int (10 : Int32)), (.ref a0)])) (fun _ k => st8 _ (Jvm.RoadKit.acmp (g := (mkF m 49 #[.val (.ref a0), .val (.int p1), .val (.int (0 : Int32)), .val (.ref u), .unset, .unset, .unset, .unset, .unset, .unset, .unset, .unset] [(.ref s_MAT), (.ref u)])) X8 hx rfl rfl rfl (pc0 := 49) (pc' := 58) (same := false) rfl (hb hby d1_49) rfl (decide_eq_false fun q => hne (Value.ref.inj q)) (by decide) (by decide) (XS.iconst X8.here hx rfl (hb hby d1_58) (XS.istore X8.here hx rfl (hb hby d1_59) rfl (l' := #[.val (.ref a0), .val (.int p1), .val (.int (0 : Int32)), .val (.ref u), .val (.int (1 : Int32)), .unset, .unset, .unset, .unset, .unset, .unset, .unset]) rfl (XS.aloadN X8.here hx rfl (hb hby d1_61) rfl rfl (XS.bipush X8.here hx rfl (hb hby d1_62) (XS.iload X8.here hx rfl (hb hby d1_64) rfl (XS.imul X8.here hx rfl (hb hby d1_66) rfl k)))))))) ?_
  obtain ⟨T9, h9, k9, X9, e9, E9, A9, B9, st9⟩ := newPE X8 hx hZ (hwi hw 13 rfl) e8 (g := (mkF m 67 #[.val (.ref a0), .val (.int p1), .val (.int (0 : Int32)), .val (.ref u), .val (.int (1 : Int32)), .unset, .unset, .unset, .unset, .unset, .unset, .unset] [(.int (10 : Int32)), (.ref a0)])) rfl (hb hby d1_67) rfl (by decide) (cap := 10) (by decide) (by decide) (by decide) (by decide) (ad := "[I") (by decide)
  obtain ⟨b9, g9⟩ : ∃ z, z = h7.size := ⟨_, rfl⟩
  rw [← g9] at A9 B9 st9
  have ne_a0_b9 : a0 ≠ b9 := Nat.ne_of_lt (Nat.lt_of_lt_of_le E_a0.lt (Nat.le_of_eq g9.symm))
  have ne_b2_b9 : b2 ≠ b9 := Nat.ne_of_lt (Nat.lt_of_lt_of_le V_b2.lt (Nat.le_of_eq g9.symm))
  have ne_b5_b9 : b5 ≠ b9 := Nat.ne_of_lt (Nat.lt_of_lt_of_le V_b5.lt (Nat.le_of_eq g9.symm))
  have E_a0 := E_a0.ext E9
  have F_suits := F_suits.ext E9
  have F_full := F_full.ext E9
  have F_left := F_left.ext E9
  have F_ord := F_ord.ext E9
  have F_dr := F_dr.ext E9
  have F_ds := F_ds.ext E9
  have F_sd := F_sd.ext E9
  have F_dt := F_dt.ext E9
  have F_dk := F_dk.ext E9
  have V_b2 := V_b2.ext E9
  have V_b5 := V_b5.ext E9
  have OL := OL.ext E9
  have g_b9 : n0 ≤ b9 := Nat.le_trans Zn (Nat.le_of_eq g9.symm)
  have Zn := Nat.le_trans Zn E9.1
  have sz_b9 : h0.size ≤ b9 := Nat.le_trans Kp.1 (Nat.le_of_eq g9.symm)
  have Kp := Kp.ext E9
  have E_b9 := B9
  have V_b9 : Arv Z h9 b9 k9 .int (10 : Int32) [(.int (0 : Int32)), (.int (0 : Int32)), (.int (0 : Int32)), (.int (0 : Int32)), (.int (0 : Int32)), (.int (0 : Int32)), (.int (0 : Int32)), (.int (0 : Int32)), (.int (0 : Int32)), (.int (0 : Int32))] (.int (0 : Int32)) := (Arv.new A9 (by decide)).pad (pad_rep [] (.int (0 : Int32)) 10)
  refine Run.st (S' := T9.setTop (mkF m 69 #[.val (.ref a0), .val (.int p1), .val (.int (0 : Int32)), .val (.ref u), .val (.int (1 : Int32)), .unset, .unset, .unset, .unset, .unset, .unset, .unset] [(.ref b9), (.ref a0)])) (fun _ k => st9 _ k) ?_
  obtain ⟨T10, h10, X10, e10, W10, st10⟩ := putF X9 hx hZ hown (host := "") (Or.inl (hwi hw 24 rfl)) Via.refl e9 F_full E_a0 (Or.inr ⟨(hwi hw 25 rfl), rfl, hnm⟩) (hwi hw 2 rfl) (ty := (.array .int)) (by decide) rfl rfl (g := (mkF m 69 #[.val (.ref a0), .val (.int p1), .val (.int (0 : Int32)), .val (.ref u), .val (.int (1 : Int32)), .unset, .unset, .unset, .unset, .unset, .unset, .unset] [(.ref b9), (.ref a0)])) rfl rfl (hb hby d1_69)
  have F_full := F_full.same W10
  have OL := OL.wr W10 g_a0
  have E_a0 := E_a0.wr W10
  have F_suits := F_suits.other W10 (Or.inr (slot_ne (Or.inr (hwi hw 21 rfl)) (Or.inr (hwi hw 25 rfl)) (by decide) (t := (.object "com/example/sidewager/sidewager/analysis/Shoe$Suits")) (t' := (.array .int)) (by decide) (by decide)))
  have F_left := F_left.other W10 (Or.inr (slot_ne (Or.inr (hwi hw 78 rfl)) (Or.inr (hwi hw 25 rfl)) (by decide) (t := (.array .int)) (t' := (.array .int)) (by decide) (by decide)))
  have F_ord := F_ord.other W10 (Or.inr (slot_ne (Or.inr (hwi hw 82 rfl)) (Or.inr (hwi hw 25 rfl)) (by decide) (t := (.array (.object "java/math/BigInteger"))) (t' := (.array .int)) (by decide) (by decide)))
  have F_dr := F_dr.other W10 (Or.inr (slot_ne (Or.inr (hwi hw 15 rfl)) (Or.inr (hwi hw 25 rfl)) (by decide) (t := (.array .int)) (t' := (.array .int)) (by decide) (by decide)))
  have F_ds := F_ds.other W10 (Or.inr (slot_ne (Or.inr (hwi hw 19 rfl)) (Or.inr (hwi hw 25 rfl)) (by decide) (t := (.array .int)) (t' := (.array .int)) (by decide) (by decide)))
  have F_sd := F_sd.other W10 (Or.inr (slot_ne (Or.inl (hwi hw 131 rfl)) (Or.inr (hwi hw 25 rfl)) (by decide) (t := .int) (t' := (.array .int)) (by decide) (by decide)))
  have F_dt := F_dt.other W10 (Or.inr (slot_ne (Or.inl (hwi hw 102 rfl)) (Or.inr (hwi hw 25 rfl)) (by decide) (t := .int) (t' := (.array .int)) (by decide) (by decide)))
  have F_dk := F_dk.other W10 (Or.inr (slot_ne (Or.inl (hwi hw 126 rfl)) (Or.inr (hwi hw 25 rfl)) (by decide) (t := .long) (t' := (.array .int)) (by decide) (by decide)))
  have V_b2 := V_b2.other W10 (Ne.symm ne_a0_b2)
  have V_b5 := V_b5.other W10 (Ne.symm ne_a0_b5)
  have E_b9 := E_b9.wr W10
  have V_b9 := V_b9.other W10 (Ne.symm ne_a0_b9)
  have N10 := Fr.snoc X10 N7 g_a0
  have Kp := Kp.wr W10 (Or.inl (by simp))
  have Zn := Nat.le_trans Zn (Nat.le_of_eq W10.size.symm)
  refine Run.st (S' := T10.setTop (mkF m 75 #[.val (.ref a0), .val (.int p1), .val (.int (0 : Int32)), .val (.ref u), .val (.int (1 : Int32)), .val (.int (0 : Int32)), .unset, .unset, .unset, .unset, .unset, .unset] [])) (fun _ k => st10 _ (XS.iconst X10.here hx rfl (hb hby d1_72) (XS.istore X10.here hx rfl (hb hby d1_73) rfl (l' := #[.val (.ref a0), .val (.int p1), .val (.int (0 : Int32)), .val (.ref u), .val (.int (1 : Int32)), .val (.int (0 : Int32)), .unset, .unset, .unset, .unset, .unset, .unset]) rfl k))) ?_
  obtain ⟨_, _, ⟨T11, L11, k11, n11⟩, -, X11, ⟨Lc11, hQ11, l11, y11, z11⟩, st11⟩ := Jvm.LawKit.callS X10 hx (y := (⟨"com/example/sidewager/sidewager/cards/Rank", "values", "()[Lcom/example/sidewager/sidewager/cards/Rank;"⟩ : MethodName)) hown (mvT hZ (hwi hw 26 rfl)) (mvT hZ (hwi hw 27 rfl)) (mvT hZ (hwi hw 28 rfl)) (mvT hZ (hwi hw 29 rfl)) (by decide) (backOf (W := 0) (rmVals l Z aV hw [] s_VALS kV vsR h10 n0 Zn OL S_VALS V_VALS E_VALS) hZ (hwi hw 29 rfl) (hwi hw 28 rfl) (by decide) (by decide)) (g := (mkF m 75 #[.val (.ref a0), .val (.int p1), .val (.int (0 : Int32)), .val (.ref u), .val (.int (1 : Int32)), .val (.int (0 : Int32)), .unset, .unset, .unset, .unset, .unset, .unset] [])) rfl (by rw [hml]; rfl) (argsL := []) (rest := []) (lenOf pd_3 rfl) rfl (by show 2 * 0 + _ ≤ _; exact Nat.le_of_eq rfl) (hb hby d1_75) (fun _ _ => ⟨rfl, e10, (by decide : 3 + 1 ≤ _), (by decide : 24 + 13 ≤ _)⟩)
  dsimp only [Pt.U, Pt.locs, Pt.cells, Pt.slots] at X11 l11 y11 z11 st11 hQ11
  replace l11 := l11.symm; replace y11 := y11.symm; replace z11 := z11.symm; subst l11 y11 z11
  obtain ⟨b11, kb11, rfl, N11q, K11, g_b11, z_b11, q11_0, q11_1⟩ := hQ11
  have ne_a0_b11 : a0 ≠ b11 := Nat.ne_of_lt (Nat.lt_of_lt_of_le E_a0.lt z_b11)
  have ne_b2_b11 : b2 ≠ b11 := Nat.ne_of_lt (Nat.lt_of_lt_of_le V_b2.lt z_b11)
  have ne_b5_b11 : b5 ≠ b11 := Nat.ne_of_lt (Nat.lt_of_lt_of_le V_b5.lt z_b11)
  have ne_b9_b11 : b9 ≠ b11 := Nat.ne_of_lt (Nat.lt_of_lt_of_le E_b9.lt z_b11)
  have sz_b11 : h0.size ≤ b11 := Nat.le_trans Kp.1 z_b11
  have OL := OL.keep K11 all0
  have E_a0 := E_a0.keep K11
  have F_suits := F_suits.keep K11 nin0
  have F_full := F_full.keep K11 nin0
  have F_left := F_left.keep K11 nin0
  have F_ord := F_ord.keep K11 nin0
  have F_dr := F_dr.keep K11 nin0
  have F_ds := F_ds.keep K11 nin0
  have F_sd := F_sd.keep K11 nin0
  have F_dt := F_dt.keep K11 nin0
  have F_dk := F_dk.keep K11 nin0
  have V_b2 := V_b2.keep K11 nin0
  have V_b5 := V_b5.keep K11 nin0
  have E_b9 := E_b9.keep K11
  have V_b9 := V_b9.keep K11 nin0
  have V_b11 := q11_0
  have E_b11 := q11_1
  have Kp := Kp.trans K11 all0
  have Zn := Nat.le_trans Zn K11.1
  have N11 := Fr.app N10 N11q
  refine Run.st (S' := T11.setTop (mkF m 82 #[.val (.ref a0), .val (.int p1), .val (.int (0 : Int32)), .val (.ref u), .val (.int (1 : Int32)), .val (.int (0 : Int32)), .val (.ref b11), .unset, .unset, .unset, .unset, .unset] [(.ref b11)])) (fun _ k => st11 _ (XS.astore X11.here hx rfl (hb hby d1_78) rfl rfl (l' := #[.val (.ref a0), .val (.int p1), .val (.int (0 : Int32)), .val (.ref u), .val (.int (1 : Int32)), .val (.int (0 : Int32)), .val (.ref b11), .unset, .unset, .unset, .unset, .unset]) rfl (XS.aload X11.here hx rfl (hb hby d1_80) rfl rfl k))) ?_
  obtain ⟨cl12, Ar12, -, Sa12, Na12, -, -⟩ := id V_b11
  refine Run.st (S' := T11.setTop (mkF m 83 #[.val (.ref a0), .val (.int p1), .val (.int (0 : Int32)), .val (.ref u), .val (.int (1 : Int32)), .val (.int (0 : Int32)), .val (.ref b11), .unset, .unset, .unset, .unset, .unset] [(.int (13 : Int32))])) (fun _ k => X11.arraylength hx Ar12.1 (State.isArrayOf_alike hZ.alike Ar12.2.1) (g := (mkF m 82 #[.val (.ref a0), .val (.int p1), .val (.int (0 : Int32)), .val (.ref u), .val (.int (1 : Int32)), .val (.int (0 : Int32)), .val (.ref b11), .unset, .unset, .unset, .unset, .unset] [(.ref b11)])) rfl rfl (hb hby d1_82) _ (by rw [len_of Sa12 Na12]; exact k)) ?_
  refine Run.st (S' := T11.setTop (mkF m 88 #[.val (.ref a0), .val (.int p1), .val (.int (0 : Int32)), .val (.ref u), .val (.int (1 : Int32)), .val (.int (0 : Int32)), .val (.ref b11), .val (.int (13 : Int32)), .val (.int (0 : Int32)), .unset, .unset, .unset] [])) (fun _ k => XS.istore X11.here hx rfl (hb hby d1_83) rfl (l' := #[.val (.ref a0), .val (.int p1), .val (.int (0 : Int32)), .val (.ref u), .val (.int (1 : Int32)), .val (.int (0 : Int32)), .val (.ref b11), .val (.int (13 : Int32)), .unset, .unset, .unset, .unset]) rfl (XS.iconst X11.here hx rfl (hb hby d1_85) (XS.istore X11.here hx rfl (hb hby d1_86) rfl (l' := #[.val (.ref a0), .val (.int p1), .val (.int (0 : Int32)), .val (.ref u), .val (.int (1 : Int32)), .val (.int (0 : Int32)), .val (.ref b11), .val (.int (13 : Int32)), .val (.int (0 : Int32)), .unset, .unset, .unset]) rfl k))) ?_
  have V_b9 : Arv Z T11.heap b9 k9 .int (10 : Int32) ((List.replicate 10 (0 : Int32)).map Value.int) (.int (0 : Int32)) := V_b9
  have LP13 : ∀ (fuO : Nat) (rr : Int32) (cd : Int32) (x9 : Slot) (x10 : Slot) (x11 : Slot) (Lf : List Int32) (Tl13 : State) (Hl13 : Heap) (gl : Good p l e ({ frames := 2, cells := 6, slots := 48, locals := 25 } : Room) s m #[(.ref a0), (.int p1), (.int (0 : Int32)), (.ref u)] below meth c n0 4 37 Hl13 Tl13) (Zn : n0 ≤ Hl13.size) (Kp : Keep h0 Hl13 [a0]) (OL : Old Z n0 Hl13) (E_a0 : Exa Z Hl13 a0 "com/example/sidewager/sidewager/analysis/Shoe") (F_suits : Fld Z Hl13 a0 "com/example/sidewager/sidewager/analysis/Shoe" "suits" "Lcom/example/sidewager/sidewager/analysis/Shoe$Suits;" (.ref u)) (F_full : Fld Z Hl13 a0 "com/example/sidewager/sidewager/analysis/Shoe" "full" "[I" (.ref b9)) (F_left : Fld Z Hl13 a0 "com/example/sidewager/sidewager/analysis/Shoe" "left" "[I" .null) (F_ord : Fld Z Hl13 a0 "com/example/sidewager/sidewager/analysis/Shoe" "orderingsAfter" "[Ljava/math/BigInteger;" .null) (F_dr : Fld Z Hl13 a0 "com/example/sidewager/sidewager/analysis/Shoe" "dealtOfRank" "[I" (.ref b2)) (F_ds : Fld Z Hl13 a0 "com/example/sidewager/sidewager/analysis/Shoe" "dealtOfSuit" "[I" (.ref b5)) (F_sd : Fld Z Hl13 a0 "com/example/sidewager/sidewager/analysis/Shoe" "suitsDealt" "I" (.int (0 : Int32))) (F_dt : Fld Z Hl13 a0 "com/example/sidewager/sidewager/analysis/Shoe" "dealt" "I" (.int (0 : Int32))) (F_dk : Fld Z Hl13 a0 "com/example/sidewager/sidewager/analysis/Shoe" "dealtKey" "J" (.long (0 : Int64))) (V_b2 : Arv Z Hl13 b2 k2 .int (10 : Int32) [(.int (0 : Int32)), (.int (0 : Int32)), (.int (0 : Int32)), (.int (0 : Int32)), (.int (0 : Int32)), (.int (0 : Int32)), (.int (0 : Int32)), (.int (0 : Int32)), (.int (0 : Int32)), (.int (0 : Int32))] (.int (0 : Int32))) (V_b5 : Arv Z Hl13 b5 k5 .int (4 : Int32) [(.int (0 : Int32)), (.int (0 : Int32)), (.int (0 : Int32)), (.int (0 : Int32))] (.int (0 : Int32))) (E_b9 : Exa Z Hl13 b9 "[I") (V_b9 : Arv Z Hl13 b9 k9 .int (10 : Int32) (Lf.map Value.int) (.int (0 : Int32))) (V_b11 : Arv Z Hl13 b11 kb11 (.object "com/example/sidewager/sidewager/cards/Rank") (13 : Int32) vsR .null) (E_b11 : Exa Z Hl13 b11 "[Lcom/example/sidewager/sidewager/cards/Rank;"), (rr.toInt + (fuO : Int) = 13 ∧ 0 ≤ rr.toInt ∧ Lf.length = 10 ∧ own_fo (own_v p1 (1 : Int32)) 1 fuO rr Lf = (own_full (own_v p1 (1 : Int32)) 1) ∧ own_pl x9 ∧ own_pl x10 ∧ own_pl x11) → Run p e below (Ends s (QCtI Z a0 p1 u s_MAT s_VALS kV vsR s_ONE h0 n0) ({ frames := 2, cells := 6, slots := 48, locals := 25 } : Room).cells ({ frames := 2, cells := 6, slots := 48, locals := 25 } : Room).slots) (Tl13.setTop (mkF m 88 #[.val (.ref a0), .val (.int p1), .val (.int (0 : Int32)), .val (.ref u), .val (.int (1 : Int32)), .val (.int cd), .val (.ref b11), .val (.int (13 : Int32)), .val (.int rr), x9, x10, x11] [])) := by
    intro fuO
    induction fuO with
    | zero =>
      intro rr cd x9 x10 x11 Lf Tl13 Hl13 gl Zn Kp OL E_a0 F_suits F_full F_left F_ord F_dr F_ds F_sd F_dt F_dk V_b2 V_b5 E_b9 V_b9 V_b11 E_b11 hylO
      obtain ⟨lcs13, Xl13, Nl13, El13⟩ := gl
      refine Run.st (S' := Tl13.setTop (mkF m 165 #[.val (.ref a0), .val (.int p1), .val (.int (0 : Int32)), .val (.ref u), .val (.int (1 : Int32)), .val (.int cd), .val (.ref b11), .val (.int (13 : Int32)), .val (.int rr), x9, x10, x11] [])) (fun _ k => XS.iload Xl13.here hx rfl (hb hby d1_88) rfl (XS.iload Xl13.here hx rfl (hb hby d1_90) rfl (XS.icmpYes Xl13.here hx rfl (pc0 := 92) (pc' := 165) rfl (hb hby d1_92) rfl (flt (show ¬ (rr < (13 : Int32)) from own_nlt (show (13 : Int32).toInt = 13 from by decide) hylO.1)).2.1 (by decide) (by decide) k))) ?_
      rw [show Lf = (own_full (own_v p1 (1 : Int32)) 1) from hylO.2.2.2.1] at V_b9
      refine Run.st (S' := Tl13.setTop (mkF m 167 #[.val (.ref a0), .val (.int p1), .val (.int (0 : Int32)), .val (.ref u), .val (.int (1 : Int32)), .val (.int cd), .val (.ref b11), .val (.int (13 : Int32)), .val (.int rr), x9, x10, x11] [(.ref a0), (.ref a0)])) (fun _ k => XS.aloadN Xl13.here hx rfl (hb hby d1_165) rfl rfl (XS.aloadN Xl13.here hx rfl (hb hby d1_166) rfl rfl k)) ?_
      obtain ⟨T14, X14, e14, st14⟩ := getF Xl13 hx hZ hown (host := "") (Or.inl (hwi hw 24 rfl)) Via.refl El13 F_full (g := (mkF m 167 #[.val (.ref a0), .val (.int p1), .val (.int (0 : Int32)), .val (.ref u), .val (.int (1 : Int32)), .val (.int cd), .val (.ref b11), .val (.int (13 : Int32)), .val (.int rr), x9, x10, x11] [(.ref a0), (.ref a0)])) rfl rfl (hb hby d1_167)
      refine Run.st (S' := T14.setTop (mkF m 170 #[.val (.ref a0), .val (.int p1), .val (.int (0 : Int32)), .val (.ref u), .val (.int (1 : Int32)), .val (.int cd), .val (.ref b11), .val (.int (13 : Int32)), .val (.int rr), x9, x10, x11] [(.ref b9), (.ref a0)])) (fun _ k => st14 _ k) ?_
      obtain ⟨T15, h15, X15, e15, E15, V15, A15, st15⟩ := cloneH X14 hx hZ hown (ad := "[I") (hwi hw 71 rfl) (hwi hw 72 rfl) (hwi hw 37 rfl) (hwi hw 35 rfl) (hwi hw 73 rfl) (hwi hw 74 rfl) e14 (Arv.arh V_b9) E_b9 (g := (mkF m 170 #[.val (.ref a0), .val (.int p1), .val (.int (0 : Int32)), .val (.ref u), .val (.int (1 : Int32)), .val (.int cd), .val (.ref b11), .val (.int (13 : Int32)), .val (.int rr), x9, x10, x11] [(.ref b9), (.ref a0)])) rfl (by rw [hml]; rfl) rfl (hb hby d1_170) (by decide) (W := 1) (by show 2 * 0 + _ ≤ _; exact Nat.le_of_eq rfl) (by decide) (cap := 10) (by decide) (by decide) (by decide)
      obtain ⟨b15, g15⟩ : ∃ z, z = Hl13.size := ⟨_, rfl⟩
      rw [← g15] at V15 A15 st15
      have ne_a0_b15 : a0 ≠ b15 := Nat.ne_of_lt (Nat.lt_of_lt_of_le E_a0.lt (Nat.le_of_eq g15.symm))
      have ne_b2_b15 : b2 ≠ b15 := Nat.ne_of_lt (Nat.lt_of_lt_of_le V_b2.lt (Nat.le_of_eq g15.symm))
      have ne_b5_b15 : b5 ≠ b15 := Nat.ne_of_lt (Nat.lt_of_lt_of_le V_b5.lt (Nat.le_of_eq g15.symm))
      have ne_b9_b15 : b9 ≠ b15 := Nat.ne_of_lt (Nat.lt_of_lt_of_le E_b9.lt (Nat.le_of_eq g15.symm))
      have ne_b11_b15 : b11 ≠ b15 := Nat.ne_of_lt (Nat.lt_of_lt_of_le V_b11.lt (Nat.le_of_eq g15.symm))
      have E_a0 := E_a0.ext E15
      have F_suits := F_suits.ext E15
      have F_full := F_full.ext E15
      have F_left := F_left.ext E15
      have F_ord := F_ord.ext E15
      have F_dr := F_dr.ext E15
      have F_ds := F_ds.ext E15
      have F_sd := F_sd.ext E15
      have F_dt := F_dt.ext E15
      have F_dk := F_dk.ext E15
      have V_b2 := V_b2.ext E15
      have V_b5 := V_b5.ext E15
      have E_b9 := E_b9.ext E15
      have V_b9 := V_b9.ext E15
      have V_b11 := V_b11.ext E15
      have E_b11 := E_b11.ext E15
      have OL := OL.ext E15
      have g_b15 : n0 ≤ b15 := Nat.le_trans Zn (Nat.le_of_eq g15.symm)
      have Zn := Nat.le_trans Zn E15.1
      have sz_b15 : h0.size ≤ b15 := Nat.le_trans Kp.1 (Nat.le_of_eq g15.symm)
      have Kp := Kp.ext E15
      have V_b15 : Arv Z h15 b15 k9 .int (10 : Int32) ((own_full (own_v p1 (1 : Int32)) 1).map Value.int) (.int (0 : Int32)) := V15
      have E_b15 := A15
      refine Run.st (S' := T15.setTop (mkF m 173 #[.val (.ref a0), .val (.int p1), .val (.int (0 : Int32)), .val (.ref u), .val (.int (1 : Int32)), .val (.int cd), .val (.ref b11), .val (.int (13 : Int32)), .val (.int rr), x9, x10, x11] [(.ref b15), (.ref a0)])) (fun _ k => st15 _ k) ?_
      obtain ⟨T16, X16, e16, st16⟩ := castY X15 hx hZ hown (hwi hw 75 rfl) e15 (Ins.self E_b15) (g := (mkF m 173 #[.val (.ref a0), .val (.int p1), .val (.int (0 : Int32)), .val (.ref u), .val (.int (1 : Int32)), .val (.int cd), .val (.ref b11), .val (.int (13 : Int32)), .val (.int rr), x9, x10, x11] [(.ref b15), (.ref a0)])) rfl rfl (hb hby d1_173)
      refine Run.st (S' := T16.setTop (mkF m 176 #[.val (.ref a0), .val (.int p1), .val (.int (0 : Int32)), .val (.ref u), .val (.int (1 : Int32)), .val (.int cd), .val (.ref b11), .val (.int (13 : Int32)), .val (.int rr), x9, x10, x11] [(.ref b15), (.ref a0)])) (fun _ k => st16 _ k) ?_
      obtain ⟨T17, h17, X17, e17, W17, st17⟩ := putF X16 hx hZ hown (host := "") (Or.inl (hwi hw 77 rfl)) Via.refl e16 F_left E_a0 (Or.inr ⟨(hwi hw 78 rfl), rfl, hnm⟩) (hwi hw 2 rfl) (ty := (.array .int)) (by decide) rfl rfl (g := (mkF m 176 #[.val (.ref a0), .val (.int p1), .val (.int (0 : Int32)), .val (.ref u), .val (.int (1 : Int32)), .val (.int cd), .val (.ref b11), .val (.int (13 : Int32)), .val (.int rr), x9, x10, x11] [(.ref b15), (.ref a0)])) rfl rfl (hb hby d1_176)
      have F_left := F_left.same W17
      have OL := OL.wr W17 g_a0
      have E_a0 := E_a0.wr W17
      have F_suits := F_suits.other W17 (Or.inr (slot_ne (Or.inr (hwi hw 21 rfl)) (Or.inr (hwi hw 78 rfl)) (by decide) (t := (.object "com/example/sidewager/sidewager/analysis/Shoe$Suits")) (t' := (.array .int)) (by decide) (by decide)))
      have F_full := F_full.other W17 (Or.inr (slot_ne (Or.inr (hwi hw 25 rfl)) (Or.inr (hwi hw 78 rfl)) (by decide) (t := (.array .int)) (t' := (.array .int)) (by decide) (by decide)))
      have F_ord := F_ord.other W17 (Or.inr (slot_ne (Or.inr (hwi hw 82 rfl)) (Or.inr (hwi hw 78 rfl)) (by decide) (t := (.array (.object "java/math/BigInteger"))) (t' := (.array .int)) (by decide) (by decide)))
      have F_dr := F_dr.other W17 (Or.inr (slot_ne (Or.inr (hwi hw 15 rfl)) (Or.inr (hwi hw 78 rfl)) (by decide) (t := (.array .int)) (t' := (.array .int)) (by decide) (by decide)))
      have F_ds := F_ds.other W17 (Or.inr (slot_ne (Or.inr (hwi hw 19 rfl)) (Or.inr (hwi hw 78 rfl)) (by decide) (t := (.array .int)) (t' := (.array .int)) (by decide) (by decide)))
      have F_sd := F_sd.other W17 (Or.inr (slot_ne (Or.inl (hwi hw 131 rfl)) (Or.inr (hwi hw 78 rfl)) (by decide) (t := .int) (t' := (.array .int)) (by decide) (by decide)))
      have F_dt := F_dt.other W17 (Or.inr (slot_ne (Or.inl (hwi hw 102 rfl)) (Or.inr (hwi hw 78 rfl)) (by decide) (t := .int) (t' := (.array .int)) (by decide) (by decide)))
      have F_dk := F_dk.other W17 (Or.inr (slot_ne (Or.inl (hwi hw 126 rfl)) (Or.inr (hwi hw 78 rfl)) (by decide) (t := .long) (t' := (.array .int)) (by decide) (by decide)))
      have V_b2 := V_b2.other W17 (Ne.symm ne_a0_b2)
      have V_b5 := V_b5.other W17 (Ne.symm ne_a0_b5)
      have E_b9 := E_b9.wr W17
      have V_b9 := V_b9.other W17 (Ne.symm ne_a0_b9)
      have V_b11 := V_b11.other W17 (Ne.symm ne_a0_b11)
      have E_b11 := E_b11.wr W17
      have V_b15 := V_b15.other W17 (Ne.symm ne_a0_b15)
      have E_b15 := E_b15.wr W17
      have N17 := Fr.snoc X17 Nl13 g_a0
      have Kp := Kp.wr W17 (Or.inl (by simp))
      have Zn := Nat.le_trans Zn (Nat.le_of_eq W17.size.symm)
      refine Run.st (S' := T17.setTop (mkF m 183 #[.val (.ref a0), .val (.int p1), .val (.int (0 : Int32)), .val (.ref u), .val (.int (1 : Int32)), .val (.int cd), .val (.ref b11), .val (.int (13 : Int32)), .val (.int rr), x9, x10, x11] [(.int (1 : Int32)), (.ref a0)])) (fun _ k => st17 _ (XS.aloadN X17.here hx rfl (hb hby d1_179) rfl rfl (XS.iloadN X17.here hx rfl (hb hby d1_180) rfl (XS.iconst X17.here hx rfl (hb hby d1_181) (XS.iadd X17.here hx rfl (hb hby d1_182) rfl k))))) ?_
      obtain ⟨T18, h18, k18, X18, e18, E18, A18, O18, st18⟩ := newR X17 hx hZ hown (hwi hw 79 rfl) (hwi hw 80 rfl) e17 (g := (mkF m 183 #[.val (.ref a0), .val (.int p1), .val (.int (0 : Int32)), .val (.ref u), .val (.int (1 : Int32)), .val (.int cd), .val (.ref b11), .val (.int (13 : Int32)), .val (.int rr), x9, x10, x11] [(.int (1 : Int32)), (.ref a0)])) rfl (hb hby d1_183) rfl (by decide) (cap := 1) (by decide) (by decide) (by decide) (by decide)
      obtain ⟨b18, g18⟩ : ∃ z, z = h17.size := ⟨_, rfl⟩
      rw [← g18] at A18 st18
      have ne_a0_b18 : a0 ≠ b18 := Nat.ne_of_lt (Nat.lt_of_lt_of_le E_a0.lt (Nat.le_of_eq g18.symm))
      have ne_b2_b18 : b2 ≠ b18 := Nat.ne_of_lt (Nat.lt_of_lt_of_le V_b2.lt (Nat.le_of_eq g18.symm))
      have ne_b5_b18 : b5 ≠ b18 := Nat.ne_of_lt (Nat.lt_of_lt_of_le V_b5.lt (Nat.le_of_eq g18.symm))
      have ne_b9_b18 : b9 ≠ b18 := Nat.ne_of_lt (Nat.lt_of_lt_of_le E_b9.lt (Nat.le_of_eq g18.symm))
      have ne_b11_b18 : b11 ≠ b18 := Nat.ne_of_lt (Nat.lt_of_lt_of_le V_b11.lt (Nat.le_of_eq g18.symm))
      have ne_b15_b18 : b15 ≠ b18 := Nat.ne_of_lt (Nat.lt_of_lt_of_le V_b15.lt (Nat.le_of_eq g18.symm))
      have E_a0 := E_a0.ext E18
      have F_suits := F_suits.ext E18
      have F_full := F_full.ext E18
      have F_left := F_left.ext E18
      have F_ord := F_ord.ext E18
      have F_dr := F_dr.ext E18
      have F_ds := F_ds.ext E18
      have F_sd := F_sd.ext E18
      have F_dt := F_dt.ext E18
      have F_dk := F_dk.ext E18
      have V_b2 := V_b2.ext E18
      have V_b5 := V_b5.ext E18
      have E_b9 := E_b9.ext E18
      have V_b9 := V_b9.ext E18
      have V_b11 := V_b11.ext E18
      have E_b11 := E_b11.ext E18
      have V_b15 := V_b15.ext E18
      have E_b15 := E_b15.ext E18
      have OL := OL.ext E18
      have g_b18 : n0 ≤ b18 := Nat.le_trans Zn (Nat.le_of_eq g18.symm)
      have Zn := Nat.le_trans Zn E18.1
      have sz_b18 : h0.size ≤ b18 := Nat.le_trans Kp.1 (Nat.le_of_eq g18.symm)
      have Kp := Kp.ext E18
      have V_b18 : Arv Z h18 b18 k18 (.object "java/math/BigInteger") (1 : Int32) [.null] .null := (Arv.new A18 (by decide)).pad (pad_rep [] .null 1)
      refine Run.st (S' := T18.setTop (mkF m 186 #[.val (.ref a0), .val (.int p1), .val (.int (0 : Int32)), .val (.ref u), .val (.int (1 : Int32)), .val (.int cd), .val (.ref b11), .val (.int (13 : Int32)), .val (.int rr), x9, x10, x11] [(.ref b18), (.ref a0)])) (fun _ k => st18 _ k) ?_
      obtain ⟨T19, h19, X19, e19, W19, st19⟩ := putF X18 hx hZ hown (host := "") (Or.inl (hwi hw 81 rfl)) Via.refl e18 F_ord E_a0 (Or.inr ⟨(hwi hw 82 rfl), rfl, hnm⟩) (hwi hw 2 rfl) (ty := (.array (.object "java/math/BigInteger"))) (by decide) rfl rfl (g := (mkF m 186 #[.val (.ref a0), .val (.int p1), .val (.int (0 : Int32)), .val (.ref u), .val (.int (1 : Int32)), .val (.int cd), .val (.ref b11), .val (.int (13 : Int32)), .val (.int rr), x9, x10, x11] [(.ref b18), (.ref a0)])) rfl rfl (hb hby d1_186)
      have F_ord := F_ord.same W19
      have OL := OL.wr W19 g_a0
      have E_a0 := E_a0.wr W19
      have F_suits := F_suits.other W19 (Or.inr (slot_ne (Or.inr (hwi hw 21 rfl)) (Or.inr (hwi hw 82 rfl)) (by decide) (t := (.object "com/example/sidewager/sidewager/analysis/Shoe$Suits")) (t' := (.array (.object "java/math/BigInteger"))) (by decide) (by decide)))
      have F_full := F_full.other W19 (Or.inr (slot_ne (Or.inr (hwi hw 25 rfl)) (Or.inr (hwi hw 82 rfl)) (by decide) (t := (.array .int)) (t' := (.array (.object "java/math/BigInteger"))) (by decide) (by decide)))
      have F_left := F_left.other W19 (Or.inr (slot_ne (Or.inr (hwi hw 78 rfl)) (Or.inr (hwi hw 82 rfl)) (by decide) (t := (.array .int)) (t' := (.array (.object "java/math/BigInteger"))) (by decide) (by decide)))
      have F_dr := F_dr.other W19 (Or.inr (slot_ne (Or.inr (hwi hw 15 rfl)) (Or.inr (hwi hw 82 rfl)) (by decide) (t := (.array .int)) (t' := (.array (.object "java/math/BigInteger"))) (by decide) (by decide)))
      have F_ds := F_ds.other W19 (Or.inr (slot_ne (Or.inr (hwi hw 19 rfl)) (Or.inr (hwi hw 82 rfl)) (by decide) (t := (.array .int)) (t' := (.array (.object "java/math/BigInteger"))) (by decide) (by decide)))
      have F_sd := F_sd.other W19 (Or.inr (slot_ne (Or.inl (hwi hw 131 rfl)) (Or.inr (hwi hw 82 rfl)) (by decide) (t := .int) (t' := (.array (.object "java/math/BigInteger"))) (by decide) (by decide)))
      have F_dt := F_dt.other W19 (Or.inr (slot_ne (Or.inl (hwi hw 102 rfl)) (Or.inr (hwi hw 82 rfl)) (by decide) (t := .int) (t' := (.array (.object "java/math/BigInteger"))) (by decide) (by decide)))
      have F_dk := F_dk.other W19 (Or.inr (slot_ne (Or.inl (hwi hw 126 rfl)) (Or.inr (hwi hw 82 rfl)) (by decide) (t := .long) (t' := (.array (.object "java/math/BigInteger"))) (by decide) (by decide)))
      have V_b2 := V_b2.other W19 (Ne.symm ne_a0_b2)
      have V_b5 := V_b5.other W19 (Ne.symm ne_a0_b5)
      have E_b9 := E_b9.wr W19
      have V_b9 := V_b9.other W19 (Ne.symm ne_a0_b9)
      have V_b11 := V_b11.other W19 (Ne.symm ne_a0_b11)
      have E_b11 := E_b11.wr W19
      have V_b15 := V_b15.other W19 (Ne.symm ne_a0_b15)
      have E_b15 := E_b15.wr W19
      have V_b18 := V_b18.other W19 (Ne.symm ne_a0_b18)
      have N19 := Fr.snoc X19 N17 g_a0
      have Kp := Kp.wr W19 (Or.inl (by simp))
      have Zn := Nat.le_trans Zn (Nat.le_of_eq W19.size.symm)
      refine Run.st (S' := T19.setTop (mkF m 190 #[.val (.ref a0), .val (.int p1), .val (.int (0 : Int32)), .val (.ref u), .val (.int (1 : Int32)), .val (.int cd), .val (.ref b11), .val (.int (13 : Int32)), .val (.int rr), x9, x10, x11] [(.ref a0)])) (fun _ k => st19 _ (XS.aloadN X19.here hx rfl (hb hby d1_189) rfl rfl k)) ?_
      obtain ⟨T20, X20, e20, st20⟩ := getF X19 hx hZ hown (host := "") (Or.inl (hwi hw 81 rfl)) Via.refl e19 F_ord (g := (mkF m 190 #[.val (.ref a0), .val (.int p1), .val (.int (0 : Int32)), .val (.ref u), .val (.int (1 : Int32)), .val (.int cd), .val (.ref b11), .val (.int (13 : Int32)), .val (.int rr), x9, x10, x11] [(.ref a0)])) rfl rfl (hb hby d1_190)
      refine Run.st (S' := T20.setTop (mkF m 194 #[.val (.ref a0), .val (.int p1), .val (.int (0 : Int32)), .val (.ref u), .val (.int (1 : Int32)), .val (.int cd), .val (.ref b11), .val (.int (13 : Int32)), .val (.int rr), x9, x10, x11] [(.int (0 : Int32)), (.ref b18)])) (fun _ k => st20 _ (XS.iloadN X20.here hx rfl (hb hby d1_193) rfl k)) ?_
      have u_S_ONE := S_ONE.ext OL.2
      obtain ⟨T21, X21, e21, st21⟩ := getS2 X20 hx hZ hown (host := "") (Or.inl (hwi hw 83 rfl)) Via.refl e20 u_S_ONE (g := (mkF m 194 #[.val (.ref a0), .val (.int p1), .val (.int (0 : Int32)), .val (.ref u), .val (.int (1 : Int32)), .val (.int cd), .val (.ref b11), .val (.int (13 : Int32)), .val (.int rr), x9, x10, x11] [(.int (0 : Int32)), (.ref b18)])) rfl (hb hby d1_194)
      refine Run.st (S' := T21.setTop (mkF m 197 #[.val (.ref a0), .val (.int p1), .val (.int (0 : Int32)), .val (.ref u), .val (.int (1 : Int32)), .val (.int cd), .val (.ref b11), .val (.int (13 : Int32)), .val (.int rr), x9, x10, x11] [(.ref s_ONE), (.int (0 : Int32)), (.ref b18)])) (fun _ k => st21 _ k) ?_
      obtain ⟨cl22, Ar22, qa22, Sa22, Na22, Ha22, Ga22⟩ := V_b18
      have hin22 : ¬ ((0 : Int32) < 0 ∨ cl22.slots.size ≤ ((0 : Int32)).toNatClampNeg) := inb_of Sa22 ⟨by decide, by decide⟩
      have u_E_ONE := E_ONE.ext OL.2
      obtain ⟨T22, h22, X22, e22, W22, st22⟩ := stR X21 hx hZ e21 Ar22 (j := (0 : Int32)) hin22 rfl (Sto.ofV Ar22 qa22 O18 (Ins.self u_E_ONE)) (g := (mkF m 197 #[.val (.ref a0), .val (.int p1), .val (.int (0 : Int32)), .val (.ref u), .val (.int (1 : Int32)), .val (.int cd), .val (.ref b11), .val (.int (13 : Int32)), .val (.int rr), x9, x10, x11] [(.ref s_ONE), (.int (0 : Int32)), (.ref b18)])) rfl rfl (hb hby d1_197)
      have V_b18 := Arv.set Ar22 qa22 Sa22 Na22 Ha22 Ga22 rfl W22 0 rfl (Nat.le_of_ble_eq_true rfl)
      have V_b18 : Arv Z h22 b18 k18 (.object "java/math/BigInteger") (1 : Int32) [(.ref s_ONE)] .null := V_b18
      have OL := OL.wr W22 g_b18
      have E_a0 := E_a0.wr W22
      have F_suits := F_suits.other W22 (Or.inl ne_a0_b18)
      have F_full := F_full.other W22 (Or.inl ne_a0_b18)
      have F_left := F_left.other W22 (Or.inl ne_a0_b18)
      have F_ord := F_ord.other W22 (Or.inl ne_a0_b18)
      have F_dr := F_dr.other W22 (Or.inl ne_a0_b18)
      have F_ds := F_ds.other W22 (Or.inl ne_a0_b18)
      have F_sd := F_sd.other W22 (Or.inl ne_a0_b18)
      have F_dt := F_dt.other W22 (Or.inl ne_a0_b18)
      have F_dk := F_dk.other W22 (Or.inl ne_a0_b18)
      have V_b2 := V_b2.other W22 ne_b2_b18
      have V_b5 := V_b5.other W22 ne_b5_b18
      have E_b9 := E_b9.wr W22
      have V_b9 := V_b9.other W22 ne_b9_b18
      have V_b11 := V_b11.other W22 ne_b11_b18
      have E_b11 := E_b11.wr W22
      have V_b15 := V_b15.other W22 ne_b15_b18
      have E_b15 := E_b15.wr W22
      have N22 := Fr.snoc X22 N19 g_b18
      have Kp := Kp.wr W22 (Or.inr sz_b18)
      have Zn := Nat.le_trans Zn (Nat.le_of_eq W22.size.symm)
      refine Run.st (S' := T22.setTop (mkF m 242 #[.val (.ref a0), .val (.int p1), .val (.int (0 : Int32)), .val (.ref u), .val (.int (1 : Int32)), .val (.int cd), .val (.int (-1 : Int32)), .val (.int (13 : Int32)), .val (.int rr), x9, x10, x11] [])) (fun _ k => st22 _ (XS.iloadN X22.here hx rfl (hb hby d1_198) rfl (XS.iconst X22.here hx rfl (hb hby d1_199) (XS.isub X22.here hx rfl (hb hby d1_200) rfl (XS.istore X22.here hx rfl (hb hby d1_201) rfl (l' := #[.val (.ref a0), .val (.int p1), .val (.int (0 : Int32)), .val (.ref u), .val (.int (1 : Int32)), .val (.int cd), .val (.int (-1 : Int32)), .val (.int (13 : Int32)), .val (.int rr), x9, x10, x11]) rfl (XS.iload X22.here hx rfl (hb hby d1_203) rfl (XS.ifYes X22.here hx rfl (pc0 := 205) (pc' := 242) rfl (hb hby d1_205) rfl ((if0 _ _).trans (tlt (show (-1 : Int32) < (0 : Int32) from (by decide))).1) (by decide) (by decide) k))))))) ?_
      have V_b2 : Arv Z h22 b2 k2 .int (10 : Int32) ((List.replicate 10 (0 : Int32)).map Value.int) (.int (0 : Int32)) := V_b2
      have V_b5 : Arv Z h22 b5 k5 .int (4 : Int32) ((List.replicate 4 (0 : Int32)).map Value.int) (.int (0 : Int32)) := V_b5
      refine Run.outV X22 hx Bd.notSynchronized Bd.returns (hb hby d1_242) (by decide) (by decide) ?_
      rw [e22]
      exact ⟨b2, k2, b5, k5, b15, k9, rfl, N22, Kp, g_b2, sz_b2, g_b5, sz_b5, g_b15, sz_b15, ne_b2_b5, ne_b2_b15, ne_b5_b15, E_a0, F_suits, F_left, F_dr, F_ds, F_sd, F_dt, F_dk, V_b2, V_b5, V_b15⟩
    | succ fuO ihO =>
      intro rr cd x9 x10 x11 Lf Tl13 Hl13 gl Zn Kp OL E_a0 F_suits F_full F_left F_ord F_dr F_ds F_sd F_dt F_dk V_b2 V_b5 E_b9 V_b9 V_b11 E_b11 hylO
      obtain ⟨lcs13, Xl13, Nl13, El13⟩ := gl
      refine Run.st (S' := Tl13.setTop (mkF m 99 #[.val (.ref a0), .val (.int p1), .val (.int (0 : Int32)), .val (.ref u), .val (.int (1 : Int32)), .val (.int cd), .val (.ref b11), .val (.int (13 : Int32)), .val (.int rr), x9, x10, x11] [(.int rr), (.ref b11)])) (fun _ k => XS.iload Xl13.here hx rfl (hb hby d1_88) rfl (XS.iload Xl13.here hx rfl (hb hby d1_90) rfl (XS.icmpNo Xl13.here hx rfl (hb hby d1_92) rfl (tlt (show rr < (13 : Int32) from own_lt (show (13 : Int32).toInt = 13 from by decide) hylO.1)).2.1 (XS.aload Xl13.here hx rfl (hb hby d1_95) rfl rfl (XS.iload Xl13.here hx rfl (hb hby d1_97) rfl k))))) ?_
      obtain ⟨ra, ha1, E_ra, F_ra⟩ := HR rr hylO.2.1 (own_lti hylO.1)
      obtain ⟨cl23, Ar23, qa23, Sa23, Na23, Ha23, Ga23⟩ := id V_b11
      have hin23 : ¬ (rr < 0 ∨ cl23.slots.size ≤ (rr).toNatClampNeg) := inb_of Sa23 (inb32 (show (13 : Int32).toInt = 13 from by decide) hylO.2.1 (own_lti hylO.1))
      have hat23 : cl23.slots[(rr).toNatClampNeg]? = some (.ref ra) := Has.at Ha23 hin23 ha1
      refine Run.st (S' := Tl13.setTop (mkF m 104 #[.val (.ref a0), .val (.int p1), .val (.int (0 : Int32)), .val (.ref u), .val (.int (1 : Int32)), .val (.int cd), .val (.ref b11), .val (.int (13 : Int32)), .val (.int rr), .val (.ref ra), x10, x11] [(.ref ra)])) (fun _ k => Xl13.aaload hx (j := rr) (v := (.ref ra)) (by rw [El13]; exact Ar23.1) (State.isArrayOf_alike hZ.alike Ar23.2.1) rfl Ar23.2.2 hin23 hat23 (g := (mkF m 99 #[.val (.ref a0), .val (.int p1), .val (.int (0 : Int32)), .val (.ref u), .val (.int (1 : Int32)), .val (.int cd), .val (.ref b11), .val (.int (13 : Int32)), .val (.int rr), x9, x10, x11] [(.int rr), (.ref b11)])) rfl rfl (hb hby d1_99) _ (XS.astore Xl13.here hx rfl (hb hby d1_100) rfl rfl (l' := #[.val (.ref a0), .val (.int p1), .val (.int (0 : Int32)), .val (.ref u), .val (.int (1 : Int32)), .val (.int cd), .val (.ref b11), .val (.int (13 : Int32)), .val (.int rr), .val (.ref ra), x10, x11]) (own_stl (x := x9) rfl rfl hylO.2.2.2.2.1) (XS.aload Xl13.here hx rfl (hb hby d1_102) rfl rfl k))) ?_
      have u_E_ra := E_ra.ext OL.2
      have u_F_ra := F_ra.ext OL.2
      obtain ⟨_, _, ⟨T24, L24, k24, n24⟩, -, X24, ⟨Lc24, hQ24, l24, y24, z24⟩, st24⟩ := Jvm.LawKit.callS Xl13 hx (y := (⟨"com/example/sidewager/sidewager/analysis/Shoe", "kindOf", "(Lcom/example/sidewager/sidewager/cards/Rank;)I"⟩ : MethodName)) hown (mvT hZ (hwi hw 55 rfl)) (mvT hZ (hwi hw 56 rfl)) (mvT hZ (hwi hw 3 rfl)) (mvT hZ (hwi hw 57 rfl)) (by decide) (backOf (W := 0) (rmKind l Z aV hw [] ra rr Hl13 n0 Zn u_E_ra u_F_ra) hZ (hwi hw 57 rfl) (hwi hw 3 rfl) (by decide) (by decide)) (g := (mkF m 104 #[.val (.ref a0), .val (.int p1), .val (.int (0 : Int32)), .val (.ref u), .val (.int (1 : Int32)), .val (.int cd), .val (.ref b11), .val (.int (13 : Int32)), .val (.int rr), .val (.ref ra), x10, x11] [(.ref ra)])) rfl (by rw [hml]; rfl) (argsL := [(.ref ra)]) (rest := []) (lenOf pd_4 rfl) rfl (by show 2 * 0 + _ ≤ _; exact Nat.le_of_eq rfl) (hb hby d1_104) (fun _ _ => ⟨rfl, El13, (by decide : 4 + 0 ≤ _), (by decide : 37 + 0 ≤ _)⟩)
      dsimp only [Pt.U, Pt.locs, Pt.cells, Pt.slots] at X24 l24 y24 z24 st24 hQ24
      replace l24 := l24.symm; replace y24 := y24.symm; replace z24 := z24.symm; subst l24 y24 z24
      obtain ⟨rfl, N24q, e24⟩ := hQ24
      have N24 := Fr.app Nl13 N24q
      obtain ⟨kk, hkk⟩ : ∃ z, z = (FKind ra rr) := ⟨_, rfl⟩
      rw [← hkk] at st24
      have hk9 := own_k9 hylO.2.1 hkk
      refine Run.st (S' := T24.setTop (mkF m 112 #[.val (.ref a0), .val (.int p1), .val (.int (0 : Int32)), .val (.ref u), .val (.int (1 : Int32)), .val (.int cd), .val (.ref b11), .val (.int (13 : Int32)), .val (.int rr), .val (.ref ra), .val (.int kk), .val (.int (0 : Int32))] [])) (fun _ k => st24 _ (XS.istore X24.here hx rfl (hb hby d1_107) rfl (l' := #[.val (.ref a0), .val (.int p1), .val (.int (0 : Int32)), .val (.ref u), .val (.int (1 : Int32)), .val (.int cd), .val (.ref b11), .val (.int (13 : Int32)), .val (.int rr), .val (.ref ra), .val (.int kk), x11]) (own_stl (x := x10) rfl rfl hylO.2.2.2.2.2.1) (XS.iconst X24.here hx rfl (hb hby d1_109) (XS.istore X24.here hx rfl (hb hby d1_110) rfl (l' := #[.val (.ref a0), .val (.int p1), .val (.int (0 : Int32)), .val (.ref u), .val (.int (1 : Int32)), .val (.int cd), .val (.ref b11), .val (.int (13 : Int32)), .val (.int rr), .val (.ref ra), .val (.int kk), .val (.int (0 : Int32))]) (own_stl (x := x11) rfl rfl hylO.2.2.2.2.2.2) k)))) ?_
      have LP25 : ∀ (fuI : Nat) (su : Int32) (Li : List Int32) (Tl25 : State) (Hl25 : Heap) (gl : Good p l e ({ frames := 2, cells := 6, slots := 48, locals := 25 } : Room) s m #[(.ref a0), (.int p1), (.int (0 : Int32)), (.ref u)] below meth c n0 4 37 Hl25 Tl25) (Zn : n0 ≤ Hl25.size) (Kp : Keep h0 Hl25 [a0]) (OL : Old Z n0 Hl25) (E_a0 : Exa Z Hl25 a0 "com/example/sidewager/sidewager/analysis/Shoe") (F_suits : Fld Z Hl25 a0 "com/example/sidewager/sidewager/analysis/Shoe" "suits" "Lcom/example/sidewager/sidewager/analysis/Shoe$Suits;" (.ref u)) (F_full : Fld Z Hl25 a0 "com/example/sidewager/sidewager/analysis/Shoe" "full" "[I" (.ref b9)) (F_left : Fld Z Hl25 a0 "com/example/sidewager/sidewager/analysis/Shoe" "left" "[I" .null) (F_ord : Fld Z Hl25 a0 "com/example/sidewager/sidewager/analysis/Shoe" "orderingsAfter" "[Ljava/math/BigInteger;" .null) (F_dr : Fld Z Hl25 a0 "com/example/sidewager/sidewager/analysis/Shoe" "dealtOfRank" "[I" (.ref b2)) (F_ds : Fld Z Hl25 a0 "com/example/sidewager/sidewager/analysis/Shoe" "dealtOfSuit" "[I" (.ref b5)) (F_sd : Fld Z Hl25 a0 "com/example/sidewager/sidewager/analysis/Shoe" "suitsDealt" "I" (.int (0 : Int32))) (F_dt : Fld Z Hl25 a0 "com/example/sidewager/sidewager/analysis/Shoe" "dealt" "I" (.int (0 : Int32))) (F_dk : Fld Z Hl25 a0 "com/example/sidewager/sidewager/analysis/Shoe" "dealtKey" "J" (.long (0 : Int64))) (V_b2 : Arv Z Hl25 b2 k2 .int (10 : Int32) [(.int (0 : Int32)), (.int (0 : Int32)), (.int (0 : Int32)), (.int (0 : Int32)), (.int (0 : Int32)), (.int (0 : Int32)), (.int (0 : Int32)), (.int (0 : Int32)), (.int (0 : Int32)), (.int (0 : Int32))] (.int (0 : Int32))) (V_b5 : Arv Z Hl25 b5 k5 .int (4 : Int32) [(.int (0 : Int32)), (.int (0 : Int32)), (.int (0 : Int32)), (.int (0 : Int32))] (.int (0 : Int32))) (E_b9 : Exa Z Hl25 b9 "[I") (V_b9 : Arv Z Hl25 b9 k9 .int (10 : Int32) (Li.map Value.int) (.int (0 : Int32))) (V_b11 : Arv Z Hl25 b11 kb11 (.object "com/example/sidewager/sidewager/cards/Rank") (13 : Int32) vsR .null) (E_b11 : Exa Z Hl25 b11 "[Lcom/example/sidewager/sidewager/cards/Rank;"), (su.toInt + (fuI : Int) = 1 ∧ 0 ≤ su.toInt ∧ Li.length = 10 ∧ own_fo (own_v p1 (1 : Int32)) 1 fuO (rr + (1 : Int32)) (own_fi (own_v p1 (1 : Int32)) kk fuI su Li) = (own_full (own_v p1 (1 : Int32)) 1)) → Run p e below (Ends s (QCtI Z a0 p1 u s_MAT s_VALS kV vsR s_ONE h0 n0) ({ frames := 2, cells := 6, slots := 48, locals := 25 } : Room).cells ({ frames := 2, cells := 6, slots := 48, locals := 25 } : Room).slots) (Tl25.setTop (mkF m 112 #[.val (.ref a0), .val (.int p1), .val (.int (0 : Int32)), .val (.ref u), .val (.int (1 : Int32)), .val (.int cd), .val (.ref b11), .val (.int (13 : Int32)), .val (.int rr), .val (.ref ra), .val (.int kk), .val (.int su)] [])) := by
        intro fuI
        induction fuI with
        | zero =>
          intro su Li Tl25 Hl25 gl Zn Kp OL E_a0 F_suits F_full F_left F_ord F_dr F_ds F_sd F_dt F_dk V_b2 V_b5 E_b9 V_b9 V_b11 E_b11 hylI
          obtain ⟨lcs25, Xl25, Nl25, El25⟩ := gl
          refine Run.st (S' := Tl25.setTop (mkF m 152 #[.val (.ref a0), .val (.int p1), .val (.int (0 : Int32)), .val (.ref u), .val (.int (1 : Int32)), .val (.int cd), .val (.ref b11), .val (.int (13 : Int32)), .val (.int rr), .val (.ref ra), .val (.int kk), .val (.int su)] [(.int p1), (.int cd)])) (fun _ k => XS.iload Xl25.here hx rfl (hb hby d1_112) rfl (XS.iload Xl25.here hx rfl (hb hby d1_114) rfl (XS.icmpYes Xl25.here hx rfl (pc0 := 116) (pc' := 149) rfl (hb hby d1_116) rfl (flt (show ¬ (su < (1 : Int32)) from own_nlt (show (1 : Int32).toInt = 1 from by decide) hylI.1)).2.1 (by decide) (by decide) (XS.iload Xl25.here hx rfl (hb hby d1_149) rfl (XS.iloadN Xl25.here hx rfl (hb hby d1_151) rfl k))))) ?_
          have u_S_SUITS := S_SUITS.ext OL.2
          obtain ⟨T26, X26, e26, st26⟩ := getS2 Xl25 hx hZ hown (host := "") (Or.inl (hwi hw 16 rfl)) Via.refl El25 u_S_SUITS (g := (mkF m 152 #[.val (.ref a0), .val (.int p1), .val (.int (0 : Int32)), .val (.ref u), .val (.int (1 : Int32)), .val (.int cd), .val (.ref b11), .val (.int (13 : Int32)), .val (.int rr), .val (.ref ra), .val (.int kk), .val (.int su)] [(.int p1), (.int cd)])) rfl (hb hby d1_152)
          refine Run.st (S' := T26.setTop (mkF m 88 #[.val (.ref a0), .val (.int p1), .val (.int (0 : Int32)), .val (.ref u), .val (.int (1 : Int32)), .val (.int (cd + (p1 * (4 : Int32)))), .val (.ref b11), .val (.int (13 : Int32)), .val (.int (rr + (1 : Int32))), .val (.ref ra), .val (.int kk), .val (.int su)] [])) (fun _ k => st26 _ (XS.imul X26.here hx rfl (hb hby d1_155) rfl (XS.iadd X26.here hx rfl (hb hby d1_156) rfl (XS.istore X26.here hx rfl (hb hby d1_157) rfl (l' := #[.val (.ref a0), .val (.int p1), .val (.int (0 : Int32)), .val (.ref u), .val (.int (1 : Int32)), .val (.int (cd + (p1 * (4 : Int32)))), .val (.ref b11), .val (.int (13 : Int32)), .val (.int rr), .val (.ref ra), .val (.int kk), .val (.int su)]) rfl (XS.iinc X26.here hx rfl (hb hby d1_159) rfl (l' := #[.val (.ref a0), .val (.int p1), .val (.int (0 : Int32)), .val (.ref u), .val (.int (1 : Int32)), .val (.int (cd + (p1 * (4 : Int32)))), .val (.ref b11), .val (.int (13 : Int32)), .val (.int (rr + (1 : Int32))), .val (.ref ra), .val (.int kk), .val (.int su)]) rfl (XS.goto X26.here hx rfl (pc0 := 162) (pc' := 88) rfl (hb hby d1_162) (by decide) (by decide) k)))))) ?_
          exact ihO (rr + (1 : Int32)) (cd + (p1 * (4 : Int32))) (.val (.ref ra)) (.val (.int kk)) (.val (.int su)) Li _ _ ⟨_, X26, Nl25, e26⟩ Zn Kp OL E_a0 F_suits F_full F_left F_ord F_dr F_ds F_sd F_dt F_dk V_b2 V_b5 E_b9 V_b9 V_b11 E_b11 ⟨(own_inc hylO.2.1 (by decide) hylO.1).1, (own_inc hylO.2.1 (by decide) hylO.1).2, hylI.2.2.1, hylI.2.2.2, rfl, rfl, rfl⟩
        | succ fuI ihI =>
          intro su Li Tl25 Hl25 gl Zn Kp OL E_a0 F_suits F_full F_left F_ord F_dr F_ds F_sd F_dt F_dk V_b2 V_b5 E_b9 V_b9 V_b11 E_b11 hylI
          obtain ⟨lcs25, Xl25, Nl25, El25⟩ := gl
          refine Run.st (S' := Tl25.setTop (mkF m 120 #[.val (.ref a0), .val (.int p1), .val (.int (0 : Int32)), .val (.ref u), .val (.int (1 : Int32)), .val (.int cd), .val (.ref b11), .val (.int (13 : Int32)), .val (.int rr), .val (.ref ra), .val (.int kk), .val (.int su)] [(.ref a0)])) (fun _ k => XS.iload Xl25.here hx rfl (hb hby d1_112) rfl (XS.iload Xl25.here hx rfl (hb hby d1_114) rfl (XS.icmpNo Xl25.here hx rfl (hb hby d1_116) rfl (tlt (show su < (1 : Int32) from own_lt (show (1 : Int32).toInt = 1 from by decide) hylI.1)).2.1 (XS.aloadN Xl25.here hx rfl (hb hby d1_119) rfl rfl k)))) ?_
          obtain ⟨T27, X27, e27, st27⟩ := getF Xl25 hx hZ hown (host := "") (Or.inl (hwi hw 24 rfl)) Via.refl El25 F_full (g := (mkF m 120 #[.val (.ref a0), .val (.int p1), .val (.int (0 : Int32)), .val (.ref u), .val (.int (1 : Int32)), .val (.int cd), .val (.ref b11), .val (.int (13 : Int32)), .val (.int rr), .val (.ref ra), .val (.int kk), .val (.int su)] [(.ref a0)])) rfl rfl (hb hby d1_120)
          refine Run.st (S' := T27.setTop (mkF m 132 #[.val (.ref a0), .val (.int p1), .val (.int (0 : Int32)), .val (.ref u), .val (.int (1 : Int32)), .val (.int cd), .val (.ref b11), .val (.int (13 : Int32)), .val (.int rr), .val (.ref ra), .val (.int kk), .val (.int su)] [(.int (kk + ((10 : Int32) * su))), (.ref b9), (.int (kk + ((10 : Int32) * su))), (.ref b9)])) (fun _ k => st27 _ (XS.iload X27.here hx rfl (hb hby d1_123) rfl (XS.bipush X27.here hx rfl (hb hby d1_125) (XS.iload X27.here hx rfl (hb hby d1_127) rfl (XS.imul X27.here hx rfl (hb hby d1_129) rfl (XS.iadd X27.here hx rfl (hb hby d1_130) rfl (Jvm.Free.XT.dup2 X27.here hx rfl (hb hby d1_131) rfl rfl rfl k))))))) ?_
          obtain ⟨cl28, Ar28, qa28, Sa28, Na28, Ha28, Ga28⟩ := id V_b9
          have hin28 : ¬ ((kk + ((10 : Int32) * su)) < 0 ∨ cl28.slots.size ≤ ((kk + ((10 : Int32) * su))).toNatClampNeg) := inb_of Sa28 (own_idx (n := 1) (show (10 : Int32).toInt = 10 * 1 from by decide) (by decide) hk9 hylI.2.1 hylI.1)
          have hat28 : cl28.slots[((kk + ((10 : Int32) * su))).toNatClampNeg]? = some (.int (Li.getD ((kk + ((10 : Int32) * su))).toNatClampNeg 0)) := Has.at Ha28 hin28 (own_get _ _)
          refine Run.st (S' := T27.setTop (mkF m 134 #[.val (.ref a0), .val (.int p1), .val (.int (0 : Int32)), .val (.ref u), .val (.int (1 : Int32)), .val (.int cd), .val (.ref b11), .val (.int (13 : Int32)), .val (.int rr), .val (.ref ra), .val (.int kk), .val (.int su)] [(.int p1), (.int (Li.getD ((kk + ((10 : Int32) * su))).toNatClampNeg 0)), (.int (kk + ((10 : Int32) * su))), (.ref b9)])) (fun _ k => X27.iaload hx (j := (kk + ((10 : Int32) * su))) (v := (.int (Li.getD ((kk + ((10 : Int32) * su))).toNatClampNeg 0))) (by rw [e27]; exact Ar28.1) (State.isArrayOf_alike hZ.alike Ar28.2.1) Ar28.2.2 hin28 hat28 (g := (mkF m 132 #[.val (.ref a0), .val (.int p1), .val (.int (0 : Int32)), .val (.ref u), .val (.int (1 : Int32)), .val (.int cd), .val (.ref b11), .val (.int (13 : Int32)), .val (.int rr), .val (.ref ra), .val (.int kk), .val (.int su)] [(.int (kk + ((10 : Int32) * su))), (.ref b9), (.int (kk + ((10 : Int32) * su))), (.ref b9)])) rfl rfl (hb hby d1_132) _ (XS.iloadN X27.here hx rfl (hb hby d1_133) rfl k)) ?_
          have u_S_SUITS := S_SUITS.ext OL.2
          obtain ⟨T29, X29, e29, st29⟩ := getS2 X27 hx hZ hown (host := "") (Or.inl (hwi hw 16 rfl)) Via.refl e27 u_S_SUITS (g := (mkF m 134 #[.val (.ref a0), .val (.int p1), .val (.int (0 : Int32)), .val (.ref u), .val (.int (1 : Int32)), .val (.int cd), .val (.ref b11), .val (.int (13 : Int32)), .val (.int rr), .val (.ref ra), .val (.int kk), .val (.int su)] [(.int p1), (.int (Li.getD ((kk + ((10 : Int32) * su))).toNatClampNeg 0)), (.int (kk + ((10 : Int32) * su))), (.ref b9)])) rfl (hb hby d1_134)
          refine Run.st (S' := T29.setTop (mkF m 141 #[.val (.ref a0), .val (.int p1), .val (.int (0 : Int32)), .val (.ref u), .val (.int (1 : Int32)), .val (.int cd), .val (.ref b11), .val (.int (13 : Int32)), .val (.int rr), .val (.ref ra), .val (.int kk), .val (.int su)] [(.int ((p1 * (4 : Int32)) / (1 : Int32))), (.int (Li.getD ((kk + ((10 : Int32) * su))).toNatClampNeg 0)), (.int (kk + ((10 : Int32) * su))), (.ref b9)])) (fun _ k => st29 _ (XS.imul X29.here hx rfl (hb hby d1_137) rfl (XS.iload X29.here hx rfl (hb hby d1_138) rfl (XS.idiv X29.here hx rfl (hb hby d1_140) rfl (by decide) k)))) ?_
          show Run p e below _ (T29.setTop (mkF m 141 #[.val (.ref a0), .val (.int p1), .val (.int (0 : Int32)), .val (.ref u), .val (.int (1 : Int32)), .val (.int cd), .val (.ref b11), .val (.int (13 : Int32)), .val (.int rr), .val (.ref ra), .val (.int kk), .val (.int su)] [(.int (own_v p1 (1 : Int32))), (.int (Li.getD ((kk + ((10 : Int32) * su))).toNatClampNeg 0)), (.int (kk + ((10 : Int32) * su))), (.ref b9)]))
          refine Run.st (S' := T29.setTop (mkF m 142 #[.val (.ref a0), .val (.int p1), .val (.int (0 : Int32)), .val (.ref u), .val (.int (1 : Int32)), .val (.int cd), .val (.ref b11), .val (.int (13 : Int32)), .val (.int rr), .val (.ref ra), .val (.int kk), .val (.int su)] [(.int ((Li.getD ((kk + ((10 : Int32) * su))).toNatClampNeg 0) + (own_v p1 (1 : Int32)))), (.int (kk + ((10 : Int32) * su))), (.ref b9)])) (fun _ k => XS.iadd X29.here hx rfl (hb hby d1_141) rfl k) ?_
          obtain ⟨cl30, Ar30, qa30, Sa30, Na30, Ha30, Ga30⟩ := V_b9
          have hin30 : ¬ ((kk + ((10 : Int32) * su)) < 0 ∨ cl30.slots.size ≤ ((kk + ((10 : Int32) * su))).toNatClampNeg) := inb_of Sa30 (own_idx (n := 1) (show (10 : Int32).toInt = 10 * 1 from by decide) (by decide) hk9 hylI.2.1 hylI.1)
          obtain ⟨T30, h30, X30, e30, W30, st30⟩ := stI X29 hx hZ e29 Ar30 (j := (kk + ((10 : Int32) * su))) hin30 (g := (mkF m 142 #[.val (.ref a0), .val (.int p1), .val (.int (0 : Int32)), .val (.ref u), .val (.int (1 : Int32)), .val (.int cd), .val (.ref b11), .val (.int (13 : Int32)), .val (.int rr), .val (.ref ra), .val (.int kk), .val (.int su)] [(.int ((Li.getD ((kk + ((10 : Int32) * su))).toNatClampNeg 0) + (own_v p1 (1 : Int32)))), (.int (kk + ((10 : Int32) * su))), (.ref b9)])) rfl rfl (hb hby d1_142)
          have V_b9 := Arv.set Ar30 qa30 Sa30 Na30 Ha30 Ga30 rfl W30 ((kk + ((10 : Int32) * su))).toNatClampNeg rfl (own_pos (show (10 : Int32).toInt = (10 : Nat) from by decide) hylI.2.2.1 (own_idx (n := 1) (show (10 : Int32).toInt = 10 * 1 from by decide) (by decide) hk9 hylI.2.1 hylI.1))
          rw [own_set] at V_b9
          have OL := OL.wr W30 g_b9
          have E_a0 := E_a0.wr W30
          have F_suits := F_suits.other W30 (Or.inl ne_a0_b9)
          have F_full := F_full.other W30 (Or.inl ne_a0_b9)
          have F_left := F_left.other W30 (Or.inl ne_a0_b9)
          have F_ord := F_ord.other W30 (Or.inl ne_a0_b9)
          have F_dr := F_dr.other W30 (Or.inl ne_a0_b9)
          have F_ds := F_ds.other W30 (Or.inl ne_a0_b9)
          have F_sd := F_sd.other W30 (Or.inl ne_a0_b9)
          have F_dt := F_dt.other W30 (Or.inl ne_a0_b9)
          have F_dk := F_dk.other W30 (Or.inl ne_a0_b9)
          have V_b2 := V_b2.other W30 ne_b2_b9
          have V_b5 := V_b5.other W30 ne_b5_b9
          have E_b9 := E_b9.wr W30
          have V_b11 := V_b11.other W30 (Ne.symm ne_b9_b11)
          have E_b11 := E_b11.wr W30
          have N30 := Fr.snoc X30 Nl25 g_b9
          have Kp := Kp.wr W30 (Or.inr sz_b9)
          have Zn := Nat.le_trans Zn (Nat.le_of_eq W30.size.symm)
          refine Run.st (S' := T30.setTop (mkF m 112 #[.val (.ref a0), .val (.int p1), .val (.int (0 : Int32)), .val (.ref u), .val (.int (1 : Int32)), .val (.int cd), .val (.ref b11), .val (.int (13 : Int32)), .val (.int rr), .val (.ref ra), .val (.int kk), .val (.int (su + (1 : Int32)))] [])) (fun _ k => st30 _ (XS.iinc X30.here hx rfl (hb hby d1_143) rfl (l' := #[.val (.ref a0), .val (.int p1), .val (.int (0 : Int32)), .val (.ref u), .val (.int (1 : Int32)), .val (.int cd), .val (.ref b11), .val (.int (13 : Int32)), .val (.int rr), .val (.ref ra), .val (.int kk), .val (.int (su + (1 : Int32)))]) rfl (XS.goto X30.here hx rfl (pc0 := 146) (pc' := 112) rfl (hb hby d1_146) (by decide) (by decide) k))) ?_
          exact ihI (su + (1 : Int32)) (Li.set ((kk + ((10 : Int32) * su))).toNatClampNeg ((Li.getD ((kk + ((10 : Int32) * su))).toNatClampNeg 0) + (own_v p1 (1 : Int32)))) _ _ ⟨_, X30, N30, e30⟩ Zn Kp OL E_a0 F_suits F_full F_left F_ord F_dr F_ds F_sd F_dt F_dk V_b2 V_b5 E_b9 V_b9 V_b11 E_b11 ⟨(own_inc hylI.2.1 (by decide) hylI.1).1, (own_inc hylI.2.1 (by decide) hylI.1).2, (by rw [List.length_set]; exact hylI.2.2.1), hylI.2.2.2⟩
      exact LP25 1 (0 : Int32) Lf _ _ ⟨_, X24, N24, e24⟩ Zn Kp OL E_a0 F_suits F_full F_left F_ord F_dr F_ds F_sd F_dt F_dk V_b2 V_b5 E_b9 V_b9 V_b11 E_b11 ⟨by decide, by decide, hylO.2.2.1, (by rw [hkk]; exact hylO.2.2.2.1)⟩
  exact LP13 13 (0 : Int32) (0 : Int32) (.unset) (.unset) (.unset) (List.replicate 10 (0 : Int32)) _ _ ⟨_, X11, N11, rfl⟩ Zn Kp OL E_a0 F_suits F_full F_left F_ord F_dr F_ds F_sd F_dt F_dk V_b2 V_b5 E_b9 V_b9 V_b11 E_b11 ⟨by decide, by decide, by decide, rfl, trivial, trivial, trivial⟩
theorem d1_52 : decode prog_12_method_2_code 52 = .ok (.getstatic 22, 3) := by decide +kernel
theorem d1_55 : decode prog_12_method_2_code 55 = .ok (.goto 4, 3) := by decide +kernel
theorem ef_CtM (m : MethodId) (a0 : Addr) (p1 : Int32) (s_MAT : Addr) : entryFrame m #[(.ref a0), (.int p1), (.int (0 : Int32)), (.ref s_MAT)] 12 = mkF m 0 #[.val (.ref a0), .val (.int p1), .val (.int (0 : Int32)), .val (.ref s_MAT), .unset, .unset, .unset, .unset, .unset, .unset, .unset, .unset] [] := by first | (simp [entryFrame, mkF, argsToLocals, Value.category]; done) | rfl
def QCtM (Z : State) (a0 : Addr) (p1 : Int32) (s_MAT : Addr) (s_VALS : Addr) (kV : ClassId) (vsR : List Value) (s_ONE : Addr) (h0 : Heap) (n0 : Nat) (v : Option Value) (h : Heap) (L : List Loc) : Prop := ∃ (y0 : Addr) (ky0 : ClassId) (y1 : Addr) (ky1 : ClassId) (y2 : Addr) (ky2 : ClassId), v = none ∧ Fr n0 L ∧ Keep h0 h [a0] ∧ n0 ≤ y0 ∧ h0.size ≤ y0 ∧ n0 ≤ y1 ∧ h0.size ≤ y1 ∧ n0 ≤ y2 ∧ h0.size ≤ y2 ∧ y0 ≠ y1 ∧ y0 ≠ y2 ∧ y1 ≠ y2 ∧ Exa Z h a0 "com/example/sidewager/sidewager/analysis/Shoe" ∧ Fld Z h a0 "com/example/sidewager/sidewager/analysis/Shoe" "suits" "Lcom/example/sidewager/sidewager/analysis/Shoe$Suits;" (.ref s_MAT) ∧ Fld Z h a0 "com/example/sidewager/sidewager/analysis/Shoe" "left" "[I" (.ref y2) ∧ Fld Z h a0 "com/example/sidewager/sidewager/analysis/Shoe" "dealtOfRank" "[I" (.ref y0) ∧ Fld Z h a0 "com/example/sidewager/sidewager/analysis/Shoe" "dealtOfSuit" "[I" (.ref y1) ∧ Fld Z h a0 "com/example/sidewager/sidewager/analysis/Shoe" "suitsDealt" "I" (.int (0 : Int32)) ∧ Fld Z h a0 "com/example/sidewager/sidewager/analysis/Shoe" "dealt" "I" (.int (0 : Int32)) ∧ Fld Z h a0 "com/example/sidewager/sidewager/analysis/Shoe" "dealtKey" "J" (.long (0 : Int64)) ∧ Arv Z h y0 ky0 .int (10 : Int32) ((List.replicate 10 (0 : Int32)).map Value.int) (.int (0 : Int32)) ∧ Arv Z h y1 ky1 .int (4 : Int32) ((List.replicate 4 (0 : Int32)).map Value.int) (.int (0 : Int32)) ∧ Arv Z h y2 ky2 .int (40 : Int32) ((own_full (own_v p1 (4 : Int32)) 4).map Value.int) (.int (0 : Int32))
set_option maxRecDepth 65536 in
set_option maxHeartbeats 40000000 in
theorem rmCtM (l : Launch) (Z : State) (aV : Array Value) (hw : ∀ d ∈ tables_1, d.before aV Z = true) (ws : List Jvm.Cond) (a0 : Addr) (p1 : Int32) (s_MAT : Addr) (s_VALS : Addr) (kV : ClassId) (vsR : List Value) (s_ONE : Addr) (h0 : Heap) (n0 : Nat) (Zn : n0 ≤ h0.size) (g_a0 : n0 ≤ a0) (hd1 : ¬ (p1 < (1 : Int32))) (OL : Old Z n0 h0) (HR : ∀ rr : Int32, 0 ≤ rr.toInt → rr.toInt < 13 → ∃ a : Addr, vsR.getD rr.toNatClampNeg .null = .ref a ∧ Exa Z Z.heap a "com/example/sidewager/sidewager/cards/Rank" ∧ Fld Z Z.heap a "java/lang/Enum" "ordinal" "I" (.int rr)) (E_a0 : Exa Z h0 a0 "com/example/sidewager/sidewager/analysis/Shoe") (F_suits : Fld Z h0 a0 "com/example/sidewager/sidewager/analysis/Shoe" "suits" "Lcom/example/sidewager/sidewager/analysis/Shoe$Suits;" .null) (F_full : Fld Z h0 a0 "com/example/sidewager/sidewager/analysis/Shoe" "full" "[I" .null) (F_left : Fld Z h0 a0 "com/example/sidewager/sidewager/analysis/Shoe" "left" "[I" .null) (F_ord : Fld Z h0 a0 "com/example/sidewager/sidewager/analysis/Shoe" "orderingsAfter" "[Ljava/math/BigInteger;" .null) (F_dr : Fld Z h0 a0 "com/example/sidewager/sidewager/analysis/Shoe" "dealtOfRank" "[I" .null) (F_ds : Fld Z h0 a0 "com/example/sidewager/sidewager/analysis/Shoe" "dealtOfSuit" "[I" .null) (F_sd : Fld Z h0 a0 "com/example/sidewager/sidewager/analysis/Shoe" "suitsDealt" "I" (.int (0 : Int32))) (F_dt : Fld Z h0 a0 "com/example/sidewager/sidewager/analysis/Shoe" "dealt" "I" (.int (0 : Int32))) (F_dk : Fld Z h0 a0 "com/example/sidewager/sidewager/analysis/Shoe" "dealtKey" "J" (.long (0 : Int64))) (S_SUITS : Sta Z Z.heap "com/example/sidewager/sidewager/analysis/Shoe" "SUITS" "I" (.int (4 : Int32))) (S_MAT : Sta Z Z.heap "com/example/sidewager/sidewager/analysis/Shoe$Suits" "MATCHED" "Lcom/example/sidewager/sidewager/analysis/Shoe$Suits;" (.ref s_MAT)) (S_VALS : Sta Z Z.heap "com/example/sidewager/sidewager/cards/Rank" "$VALUES" "[Lcom/example/sidewager/sidewager/cards/Rank;" (.ref s_VALS)) (V_VALS : Arv Z Z.heap s_VALS kV (.object "com/example/sidewager/sidewager/cards/Rank") (13 : Int32) vsR .null) (E_VALS : Exa Z Z.heap s_VALS "[Lcom/example/sidewager/sidewager/cards/Rank;") (S_ONE : Sta Z Z.heap "java/math/BigInteger" "ONE" "Ljava/math/BigInteger;" (.ref s_ONE)) (E_ONE : Exa Z Z.heap s_ONE "java/math/BigInteger") :
    MetFree l (⟨"com/example/sidewager/sidewager/analysis/Shoe", "<init>", "(IILcom/example/sidewager/sidewager/analysis/Shoe$Suits;)V"⟩ : MethodName) (head1 (Jvm.Cond.code (⟨"com/example/sidewager/sidewager/analysis/Shoe", "<init>", "(IILcom/example/sidewager/sidewager/analysis/Shoe$Suits;)V"⟩ : MethodName) prog_12_method_2_code 12 none :: ws) ({ frames := 2, cells := 6, slots := 120, locals := 25 } : Room)) (fun a U => a = #[(.ref a0), (.int p1), (.int (0 : Int32)), (.ref s_MAT)] ∧ Z.Warmed39 U.vm ∧ U.heap = h0) (fun _ _ _ _ _ => True) (fun _ U o U' => ∃ v L, o = .returned v ∧ QCtM Z a0 p1 s_MAT s_VALS kV vsR s_ONE h0 n0 v U'.heap L ∧ FrameEnd U o U' L ({ frames := 2, cells := 6, slots := 120, locals := 25 } : Room).cells ({ frames := 2, cells := 6, slots := 120, locals := 25 } : Room).slots) := by
  refine MetFree.of_bodySF (plainFor_of_name pn_1) hisR ?_
  intro p e s m args below meth c s₁ Bd hml0 hP hK
  obtain ⟨rfl, hZ, hh⟩ := hP
  have hx := Bd.exec
  have hby := Bd.bytes
  have hml : c.maxLocals = 12 := hml0
  have hown : s.vm.findClass "com/example/sidewager/sidewager/analysis/Shoe" = some m.cls := findClass_of_methodNamed Bd.named
  have hnm := (name_of_methodNamed Bd.named Bd.method).1
  have X0 : Stand p l e ({ frames := 2, cells := 6, slots := 120, locals := 25 } : Room) s m #[(.ref a0), (.int p1), (.int (0 : Int32)), (.ref s_MAT)] below meth c s₁ [] 0 0 := Stand.of_body Bd
  have e0 : s₁.heap = h0 := by rw [← hh, Bd.state]; rfl
  have N0 := Fr.nil n0
  have Kp := Keep.refl h0 [a0]
  show Run p e below (Ends s (QCtM Z a0 p1 s_MAT s_VALS kV vsR s_ONE h0 n0) ({ frames := 2, cells := 6, slots := 120, locals := 25 } : Room).cells ({ frames := 2, cells := 6, slots := 120, locals := 25 } : Room).slots) _
  refine Run.st (S' := s₁.setTop (mkF m 0 #[.val (.ref a0), .val (.int p1), .val (.int (0 : Int32)), .val (.ref s_MAT), .unset, .unset, .unset, .unset, .unset, .unset, .unset, .unset] [])) (fun t k => castTop (ef_CtM m a0 p1 s_MAT) k) ?_
  refine Run.st (S' := s₁.setTop (mkF m 1 #[.val (.ref a0), .val (.int p1), .val (.int (0 : Int32)), .val (.ref s_MAT), .unset, .unset, .unset, .unset, .unset, .unset, .unset, .unset] [(.ref a0)])) (fun _ k => XS.aloadN X0.here hx rfl (hb hby d1_0) rfl rfl k) ?_
  obtain ⟨T1, X1, e1, st1⟩ := initO X0 hx hZ hown (hwi hw 10 rfl) (hwi hw 11 rfl) (hwi hw 12 rfl) e0 (g := (mkF m 1 #[.val (.ref a0), .val (.int p1), .val (.int (0 : Int32)), .val (.ref s_MAT), .unset, .unset, .unset, .unset, .unset, .unset, .unset, .unset] [(.ref a0)])) rfl (by rw [hml]; rfl) rfl (hb hby d1_1) (by decide) (W := 0) (by show 2 * 0 + _ ≤ _; exact Nat.le_of_eq rfl) (by decide)
  refine Run.st (S' := T1.setTop (mkF m 7 #[.val (.ref a0), .val (.int p1), .val (.int (0 : Int32)), .val (.ref s_MAT), .unset, .unset, .unset, .unset, .unset, .unset, .unset, .unset] [(.int (10 : Int32)), (.ref a0)])) (fun _ k => st1 _ (XS.aloadN X1.here hx rfl (hb hby d1_4) rfl rfl (XS.bipush X1.here hx rfl (hb hby d1_5) k))) ?_
  obtain ⟨T2, h2, k2, X2, e2, E2, A2, st2⟩ := newP X1 hx hZ (hwi hw 13 rfl) e1 (g := (mkF m 7 #[.val (.ref a0), .val (.int p1), .val (.int (0 : Int32)), .val (.ref s_MAT), .unset, .unset, .unset, .unset, .unset, .unset, .unset, .unset] [(.int (10 : Int32)), (.ref a0)])) rfl (hb hby d1_7) rfl (by decide) (cap := 10) (by decide) (by decide) (by decide) (by decide)
  obtain ⟨b2, g2⟩ : ∃ z, z = h0.size := ⟨_, rfl⟩
  rw [← g2] at A2 st2
  have ne_a0_b2 : a0 ≠ b2 := Nat.ne_of_lt (Nat.lt_of_lt_of_le E_a0.lt (Nat.le_of_eq g2.symm))
  have E_a0 := E_a0.ext E2
  have F_suits := F_suits.ext E2
  have F_full := F_full.ext E2
  have F_left := F_left.ext E2
  have F_ord := F_ord.ext E2
  have F_dr := F_dr.ext E2
  have F_ds := F_ds.ext E2
  have F_sd := F_sd.ext E2
  have F_dt := F_dt.ext E2
  have F_dk := F_dk.ext E2
  have OL := OL.ext E2
  have g_b2 : n0 ≤ b2 := Nat.le_trans Zn (Nat.le_of_eq g2.symm)
  have Zn := Nat.le_trans Zn E2.1
  have sz_b2 : h0.size ≤ b2 := Nat.le_trans Kp.1 (Nat.le_of_eq g2.symm)
  have Kp := Kp.ext E2
  have V_b2 : Arv Z h2 b2 k2 .int (10 : Int32) [(.int (0 : Int32)), (.int (0 : Int32)), (.int (0 : Int32)), (.int (0 : Int32)), (.int (0 : Int32)), (.int (0 : Int32)), (.int (0 : Int32)), (.int (0 : Int32)), (.int (0 : Int32)), (.int (0 : Int32))] (.int (0 : Int32)) := (Arv.new A2 (by decide)).pad (pad_rep [] (.int (0 : Int32)) 10)
  refine Run.st (S' := T2.setTop (mkF m 9 #[.val (.ref a0), .val (.int p1), .val (.int (0 : Int32)), .val (.ref s_MAT), .unset, .unset, .unset, .unset, .unset, .unset, .unset, .unset] [(.ref b2), (.ref a0)])) (fun _ k => st2 _ k) ?_
  obtain ⟨T3, h3, X3, e3, W3, st3⟩ := putF X2 hx hZ hown (host := "") (Or.inl (hwi hw 14 rfl)) Via.refl e2 F_dr E_a0 (Or.inr ⟨(hwi hw 15 rfl), rfl, hnm⟩) (hwi hw 2 rfl) (ty := (.array .int)) (by decide) rfl rfl (g := (mkF m 9 #[.val (.ref a0), .val (.int p1), .val (.int (0 : Int32)), .val (.ref s_MAT), .unset, .unset, .unset, .unset, .unset, .unset, .unset, .unset] [(.ref b2), (.ref a0)])) rfl rfl (hb hby d1_9)
  have F_dr := F_dr.same W3
  have OL := OL.wr W3 g_a0
  have E_a0 := E_a0.wr W3
  have F_suits := F_suits.other W3 (Or.inr (slot_ne (Or.inr (hwi hw 21 rfl)) (Or.inr (hwi hw 15 rfl)) (by decide) (t := (.object "com/example/sidewager/sidewager/analysis/Shoe$Suits")) (t' := (.array .int)) (by decide) (by decide)))
  have F_full := F_full.other W3 (Or.inr (slot_ne (Or.inr (hwi hw 25 rfl)) (Or.inr (hwi hw 15 rfl)) (by decide) (t := (.array .int)) (t' := (.array .int)) (by decide) (by decide)))
  have F_left := F_left.other W3 (Or.inr (slot_ne (Or.inr (hwi hw 78 rfl)) (Or.inr (hwi hw 15 rfl)) (by decide) (t := (.array .int)) (t' := (.array .int)) (by decide) (by decide)))
  have F_ord := F_ord.other W3 (Or.inr (slot_ne (Or.inr (hwi hw 82 rfl)) (Or.inr (hwi hw 15 rfl)) (by decide) (t := (.array (.object "java/math/BigInteger"))) (t' := (.array .int)) (by decide) (by decide)))
  have F_ds := F_ds.other W3 (Or.inr (slot_ne (Or.inr (hwi hw 19 rfl)) (Or.inr (hwi hw 15 rfl)) (by decide) (t := (.array .int)) (t' := (.array .int)) (by decide) (by decide)))
  have F_sd := F_sd.other W3 (Or.inr (slot_ne (Or.inl (hwi hw 131 rfl)) (Or.inr (hwi hw 15 rfl)) (by decide) (t := .int) (t' := (.array .int)) (by decide) (by decide)))
  have F_dt := F_dt.other W3 (Or.inr (slot_ne (Or.inl (hwi hw 102 rfl)) (Or.inr (hwi hw 15 rfl)) (by decide) (t := .int) (t' := (.array .int)) (by decide) (by decide)))
  have F_dk := F_dk.other W3 (Or.inr (slot_ne (Or.inl (hwi hw 126 rfl)) (Or.inr (hwi hw 15 rfl)) (by decide) (t := .long) (t' := (.array .int)) (by decide) (by decide)))
  have V_b2 := V_b2.other W3 (Ne.symm ne_a0_b2)
  have N3 := Fr.snoc X3 N0 g_a0
  have Kp := Kp.wr W3 (Or.inl (by simp))
  have Zn := Nat.le_trans Zn (Nat.le_of_eq W3.size.symm)
  refine Run.st (S' := T3.setTop (mkF m 13 #[.val (.ref a0), .val (.int p1), .val (.int (0 : Int32)), .val (.ref s_MAT), .unset, .unset, .unset, .unset, .unset, .unset, .unset, .unset] [(.ref a0)])) (fun _ k => st3 _ (XS.aloadN X3.here hx rfl (hb hby d1_12) rfl rfl k)) ?_
  have u_S_SUITS := S_SUITS.ext OL.2
  obtain ⟨T4, X4, e4, st4⟩ := getS2 X3 hx hZ hown (host := "") (Or.inl (hwi hw 16 rfl)) Via.refl e3 u_S_SUITS (g := (mkF m 13 #[.val (.ref a0), .val (.int p1), .val (.int (0 : Int32)), .val (.ref s_MAT), .unset, .unset, .unset, .unset, .unset, .unset, .unset, .unset] [(.ref a0)])) rfl (hb hby d1_13)
  refine Run.st (S' := T4.setTop (mkF m 16 #[.val (.ref a0), .val (.int p1), .val (.int (0 : Int32)), .val (.ref s_MAT), .unset, .unset, .unset, .unset, .unset, .unset, .unset, .unset] [(.int (4 : Int32)), (.ref a0)])) (fun _ k => st4 _ k) ?_
  obtain ⟨T5, h5, k5, X5, e5, E5, A5, st5⟩ := newP X4 hx hZ (hwi hw 13 rfl) e4 (g := (mkF m 16 #[.val (.ref a0), .val (.int p1), .val (.int (0 : Int32)), .val (.ref s_MAT), .unset, .unset, .unset, .unset, .unset, .unset, .unset, .unset] [(.int (4 : Int32)), (.ref a0)])) rfl (hb hby d1_16) rfl (by decide) (cap := 4) (by decide) (by decide) (by decide) (by decide)
  obtain ⟨b5, g5⟩ : ∃ z, z = h3.size := ⟨_, rfl⟩
  rw [← g5] at A5 st5
  have ne_a0_b5 : a0 ≠ b5 := Nat.ne_of_lt (Nat.lt_of_lt_of_le E_a0.lt (Nat.le_of_eq g5.symm))
  have ne_b2_b5 : b2 ≠ b5 := Nat.ne_of_lt (Nat.lt_of_lt_of_le V_b2.lt (Nat.le_of_eq g5.symm))
  have E_a0 := E_a0.ext E5
  have F_suits := F_suits.ext E5
  have F_full := F_full.ext E5
  have F_left := F_left.ext E5
  have F_ord := F_ord.ext E5
  have F_dr := F_dr.ext E5
  have F_ds := F_ds.ext E5
  have F_sd := F_sd.ext E5
  have F_dt := F_dt.ext E5
  have F_dk := F_dk.ext E5
  have V_b2 := V_b2.ext E5
  have OL := OL.ext E5
  have g_b5 : n0 ≤ b5 := Nat.le_trans Zn (Nat.le_of_eq g5.symm)
  have Zn := Nat.le_trans Zn E5.1
  have sz_b5 : h0.size ≤ b5 := Nat.le_trans Kp.1 (Nat.le_of_eq g5.symm)
  have Kp := Kp.ext E5
  have V_b5 : Arv Z h5 b5 k5 .int (4 : Int32) [(.int (0 : Int32)), (.int (0 : Int32)), (.int (0 : Int32)), (.int (0 : Int32))] (.int (0 : Int32)) := (Arv.new A5 (by decide)).pad (pad_rep [] (.int (0 : Int32)) 4)
  refine Run.st (S' := T5.setTop (mkF m 18 #[.val (.ref a0), .val (.int p1), .val (.int (0 : Int32)), .val (.ref s_MAT), .unset, .unset, .unset, .unset, .unset, .unset, .unset, .unset] [(.ref b5), (.ref a0)])) (fun _ k => st5 _ k) ?_
  obtain ⟨T6, h6, X6, e6, W6, st6⟩ := putF X5 hx hZ hown (host := "") (Or.inl (hwi hw 18 rfl)) Via.refl e5 F_ds E_a0 (Or.inr ⟨(hwi hw 19 rfl), rfl, hnm⟩) (hwi hw 2 rfl) (ty := (.array .int)) (by decide) rfl rfl (g := (mkF m 18 #[.val (.ref a0), .val (.int p1), .val (.int (0 : Int32)), .val (.ref s_MAT), .unset, .unset, .unset, .unset, .unset, .unset, .unset, .unset] [(.ref b5), (.ref a0)])) rfl rfl (hb hby d1_18)
  have F_ds := F_ds.same W6
  have OL := OL.wr W6 g_a0
  have E_a0 := E_a0.wr W6
  have F_suits := F_suits.other W6 (Or.inr (slot_ne (Or.inr (hwi hw 21 rfl)) (Or.inr (hwi hw 19 rfl)) (by decide) (t := (.object "com/example/sidewager/sidewager/analysis/Shoe$Suits")) (t' := (.array .int)) (by decide) (by decide)))
  have F_full := F_full.other W6 (Or.inr (slot_ne (Or.inr (hwi hw 25 rfl)) (Or.inr (hwi hw 19 rfl)) (by decide) (t := (.array .int)) (t' := (.array .int)) (by decide) (by decide)))
  have F_left := F_left.other W6 (Or.inr (slot_ne (Or.inr (hwi hw 78 rfl)) (Or.inr (hwi hw 19 rfl)) (by decide) (t := (.array .int)) (t' := (.array .int)) (by decide) (by decide)))
  have F_ord := F_ord.other W6 (Or.inr (slot_ne (Or.inr (hwi hw 82 rfl)) (Or.inr (hwi hw 19 rfl)) (by decide) (t := (.array (.object "java/math/BigInteger"))) (t' := (.array .int)) (by decide) (by decide)))
  have F_dr := F_dr.other W6 (Or.inr (slot_ne (Or.inr (hwi hw 15 rfl)) (Or.inr (hwi hw 19 rfl)) (by decide) (t := (.array .int)) (t' := (.array .int)) (by decide) (by decide)))
  have F_sd := F_sd.other W6 (Or.inr (slot_ne (Or.inl (hwi hw 131 rfl)) (Or.inr (hwi hw 19 rfl)) (by decide) (t := .int) (t' := (.array .int)) (by decide) (by decide)))
  have F_dt := F_dt.other W6 (Or.inr (slot_ne (Or.inl (hwi hw 102 rfl)) (Or.inr (hwi hw 19 rfl)) (by decide) (t := .int) (t' := (.array .int)) (by decide) (by decide)))
  have F_dk := F_dk.other W6 (Or.inr (slot_ne (Or.inl (hwi hw 126 rfl)) (Or.inr (hwi hw 19 rfl)) (by decide) (t := .long) (t' := (.array .int)) (by decide) (by decide)))
  have V_b2 := V_b2.other W6 (Ne.symm ne_a0_b2)
  have V_b5 := V_b5.other W6 (Ne.symm ne_a0_b5)
  have N6 := Fr.snoc X6 N3 g_a0
  have Kp := Kp.wr W6 (Or.inl (by simp))
  have Zn := Nat.le_trans Zn (Nat.le_of_eq W6.size.symm)
  refine Run.st (S' := T6.setTop (mkF m 42 #[.val (.ref a0), .val (.int p1), .val (.int (0 : Int32)), .val (.ref s_MAT), .unset, .unset, .unset, .unset, .unset, .unset, .unset, .unset] [(.ref s_MAT), (.ref a0)])) (fun _ k => st6 _ (XS.iloadN X6.here hx rfl (hb hby d1_21) rfl (XS.iconst X6.here hx rfl (hb hby d1_22) (XS.icmpYes X6.here hx rfl (pc0 := 23) (pc' := 40) rfl (hb hby d1_23) rfl (flt (show ¬ (p1 < (1 : Int32)) from hd1)).2.1 (by decide) (by decide) (XS.aloadN X6.here hx rfl (hb hby d1_40) rfl rfl (XS.aloadN X6.here hx rfl (hb hby d1_41) rfl rfl k)))))) ?_
  obtain ⟨T7, h7, X7, e7, W7, st7⟩ := putF X6 hx hZ hown (host := "") (Or.inl (hwi hw 20 rfl)) Via.refl e6 F_suits E_a0 (Or.inr ⟨(hwi hw 21 rfl), rfl, hnm⟩) (hwi hw 2 rfl) (ty := (.object "com/example/sidewager/sidewager/analysis/Shoe$Suits")) (by decide) rfl rfl (g := (mkF m 42 #[.val (.ref a0), .val (.int p1), .val (.int (0 : Int32)), .val (.ref s_MAT), .unset, .unset, .unset, .unset, .unset, .unset, .unset, .unset] [(.ref s_MAT), (.ref a0)])) rfl rfl (hb hby d1_42)
  have F_suits := F_suits.same W7
  have OL := OL.wr W7 g_a0
  have E_a0 := E_a0.wr W7
  have F_full := F_full.other W7 (Or.inr (slot_ne (Or.inr (hwi hw 25 rfl)) (Or.inr (hwi hw 21 rfl)) (by decide) (t := (.array .int)) (t' := (.object "com/example/sidewager/sidewager/analysis/Shoe$Suits")) (by decide) (by decide)))
  have F_left := F_left.other W7 (Or.inr (slot_ne (Or.inr (hwi hw 78 rfl)) (Or.inr (hwi hw 21 rfl)) (by decide) (t := (.array .int)) (t' := (.object "com/example/sidewager/sidewager/analysis/Shoe$Suits")) (by decide) (by decide)))
  have F_ord := F_ord.other W7 (Or.inr (slot_ne (Or.inr (hwi hw 82 rfl)) (Or.inr (hwi hw 21 rfl)) (by decide) (t := (.array (.object "java/math/BigInteger"))) (t' := (.object "com/example/sidewager/sidewager/analysis/Shoe$Suits")) (by decide) (by decide)))
  have F_dr := F_dr.other W7 (Or.inr (slot_ne (Or.inr (hwi hw 15 rfl)) (Or.inr (hwi hw 21 rfl)) (by decide) (t := (.array .int)) (t' := (.object "com/example/sidewager/sidewager/analysis/Shoe$Suits")) (by decide) (by decide)))
  have F_ds := F_ds.other W7 (Or.inr (slot_ne (Or.inr (hwi hw 19 rfl)) (Or.inr (hwi hw 21 rfl)) (by decide) (t := (.array .int)) (t' := (.object "com/example/sidewager/sidewager/analysis/Shoe$Suits")) (by decide) (by decide)))
  have F_sd := F_sd.other W7 (Or.inr (slot_ne (Or.inl (hwi hw 131 rfl)) (Or.inr (hwi hw 21 rfl)) (by decide) (t := .int) (t' := (.object "com/example/sidewager/sidewager/analysis/Shoe$Suits")) (by decide) (by decide)))
  have F_dt := F_dt.other W7 (Or.inr (slot_ne (Or.inl (hwi hw 102 rfl)) (Or.inr (hwi hw 21 rfl)) (by decide) (t := .int) (t' := (.object "com/example/sidewager/sidewager/analysis/Shoe$Suits")) (by decide) (by decide)))
  have F_dk := F_dk.other W7 (Or.inr (slot_ne (Or.inl (hwi hw 126 rfl)) (Or.inr (hwi hw 21 rfl)) (by decide) (t := .long) (t' := (.object "com/example/sidewager/sidewager/analysis/Shoe$Suits")) (by decide) (by decide)))
  have V_b2 := V_b2.other W7 (Ne.symm ne_a0_b2)
  have V_b5 := V_b5.other W7 (Ne.symm ne_a0_b5)
  have N7 := Fr.snoc X7 N6 g_a0
  have Kp := Kp.wr W7 (Or.inl (by simp))
  have Zn := Nat.le_trans Zn (Nat.le_of_eq W7.size.symm)
  refine Run.st (S' := T7.setTop (mkF m 46 #[.val (.ref a0), .val (.int p1), .val (.int (0 : Int32)), .val (.ref s_MAT), .unset, .unset, .unset, .unset, .unset, .unset, .unset, .unset] [(.ref s_MAT)])) (fun _ k => st7 _ (XS.aloadN X7.here hx rfl (hb hby d1_45) rfl rfl k)) ?_
  have u_S_MAT := S_MAT.ext OL.2
  obtain ⟨T8, X8, e8, st8⟩ := getS2 X7 hx hZ hown (host := "") (Or.inl (hwi hw 22 rfl)) Via.refl e7 u_S_MAT (g := (mkF m 46 #[.val (.ref a0), .val (.int p1), .val (.int (0 : Int32)), .val (.ref s_MAT), .unset, .unset, .unset, .unset, .unset, .unset, .unset, .unset] [(.ref s_MAT)])) rfl (hb hby d1_46)
  refine Run.st (S' := T8.setTop (mkF m 52 #[.val (.ref a0), .val (.int p1), .val (.int (0 : Int32)), .val (.ref s_MAT), .unset, .unset, .unset, .unset, .unset, .unset, .unset, .unset] [])) (fun _ k => st8 _ (Jvm.RoadKit.acmp (g := (mkF m 49 #[.val (.ref a0), .val (.int p1), .val (.int (0 : Int32)), .val (.ref s_MAT), .unset, .unset, .unset, .unset, .unset, .unset, .unset, .unset] [(.ref s_MAT), (.ref s_MAT)])) X8 hx rfl rfl rfl (pc0 := 49) (pc' := 52) (same := true) rfl (hb hby d1_49) rfl (decide_eq_true rfl) (by decide) (by decide) k)) ?_
  have u_S_SUITS := S_SUITS.ext OL.2
  obtain ⟨T9, X9, e9, st9⟩ := getS2 X8 hx hZ hown (host := "") (Or.inl (hwi hw 16 rfl)) Via.refl e8 u_S_SUITS (g := (mkF m 52 #[.val (.ref a0), .val (.int p1), .val (.int (0 : Int32)), .val (.ref s_MAT), .unset, .unset, .unset, .unset, .unset, .unset, .unset, .unset] [])) rfl (hb hby d1_52)
  refine Run.st (S' := T9.setTop (mkF m 67 #[.val (.ref a0), .val (.int p1), .val (.int (0 : Int32)), .val (.ref s_MAT), .val (.int (4 : Int32)), .unset, .unset, .unset, .unset, .unset, .unset, .unset] [(.int (40 : Int32)), (.ref a0)])) (fun _ k => st9 _ (XS.goto X9.here hx rfl (pc0 := 55) (pc' := 59) rfl (hb hby d1_55) (by decide) (by decide) (XS.istore X9.here hx rfl (hb hby d1_59) rfl (l' := #[.val (.ref a0), .val (.int p1), .val (.int (0 : Int32)), .val (.ref s_MAT), .val (.int (4 : Int32)), .unset, .unset, .unset, .unset, .unset, .unset, .unset]) rfl (XS.aloadN X9.here hx rfl (hb hby d1_61) rfl rfl (XS.bipush X9.here hx rfl (hb hby d1_62) (XS.iload X9.here hx rfl (hb hby d1_64) rfl (XS.imul X9.here hx rfl (hb hby d1_66) rfl k))))))) ?_
  obtain ⟨T10, h10, k10, X10, e10, E10, A10, B10, st10⟩ := newPE X9 hx hZ (hwi hw 13 rfl) e9 (g := (mkF m 67 #[.val (.ref a0), .val (.int p1), .val (.int (0 : Int32)), .val (.ref s_MAT), .val (.int (4 : Int32)), .unset, .unset, .unset, .unset, .unset, .unset, .unset] [(.int (40 : Int32)), (.ref a0)])) rfl (hb hby d1_67) rfl (by decide) (cap := 40) (by decide) (by decide) (by decide) (by decide) (ad := "[I") (by decide)
  obtain ⟨b10, g10⟩ : ∃ z, z = h7.size := ⟨_, rfl⟩
  rw [← g10] at A10 B10 st10
  have ne_a0_b10 : a0 ≠ b10 := Nat.ne_of_lt (Nat.lt_of_lt_of_le E_a0.lt (Nat.le_of_eq g10.symm))
  have ne_b2_b10 : b2 ≠ b10 := Nat.ne_of_lt (Nat.lt_of_lt_of_le V_b2.lt (Nat.le_of_eq g10.symm))
  have ne_b5_b10 : b5 ≠ b10 := Nat.ne_of_lt (Nat.lt_of_lt_of_le V_b5.lt (Nat.le_of_eq g10.symm))
  have E_a0 := E_a0.ext E10
  have F_suits := F_suits.ext E10
  have F_full := F_full.ext E10
  have F_left := F_left.ext E10
  have F_ord := F_ord.ext E10
  have F_dr := F_dr.ext E10
  have F_ds := F_ds.ext E10
  have F_sd := F_sd.ext E10
  have F_dt := F_dt.ext E10
  have F_dk := F_dk.ext E10
  have V_b2 := V_b2.ext E10
  have V_b5 := V_b5.ext E10
  have OL := OL.ext E10
  have g_b10 : n0 ≤ b10 := Nat.le_trans Zn (Nat.le_of_eq g10.symm)
  have Zn := Nat.le_trans Zn E10.1
  have sz_b10 : h0.size ≤ b10 := Nat.le_trans Kp.1 (Nat.le_of_eq g10.symm)
  have Kp := Kp.ext E10
  have E_b10 := B10
  have V_b10 : Arv Z h10 b10 k10 .int (40 : Int32) [(.int (0 : Int32)), (.int (0 : Int32)), (.int (0 : Int32)), (.int (0 : Int32)), (.int (0 : Int32)), (.int (0 : Int32)), (.int (0 : Int32)), (.int (0 : Int32)), (.int (0 : Int32)), (.int (0 : Int32)), (.int (0 : Int32)), (.int (0 : Int32)), (.int (0 : Int32)), (.int (0 : Int32)), (.int (0 : Int32)), (.int (0 : Int32)), (.int (0 : Int32)), (.int (0 : Int32)), (.int (0 : Int32)), (.int (0 : Int32)), (.int (0 : Int32)), (.int (0 : Int32)), (.int (0 : Int32)), (.int (0 : Int32)), (.int (0 : Int32)), (.int (0 : Int32)), (.int (0 : Int32)), (.int (0 : Int32)), (.int (0 : Int32)), (.int (0 : Int32)), (.int (0 : Int32)), (.int (0 : Int32)), (.int (0 : Int32)), (.int (0 : Int32)), (.int (0 : Int32)), (.int (0 : Int32)), (.int (0 : Int32)), (.int (0 : Int32)), (.int (0 : Int32)), (.int (0 : Int32))] (.int (0 : Int32)) := (Arv.new A10 (by decide)).pad (pad_rep [] (.int (0 : Int32)) 40)
  refine Run.st (S' := T10.setTop (mkF m 69 #[.val (.ref a0), .val (.int p1), .val (.int (0 : Int32)), .val (.ref s_MAT), .val (.int (4 : Int32)), .unset, .unset, .unset, .unset, .unset, .unset, .unset] [(.ref b10), (.ref a0)])) (fun _ k => st10 _ k) ?_
  obtain ⟨T11, h11, X11, e11, W11, st11⟩ := putF X10 hx hZ hown (host := "") (Or.inl (hwi hw 24 rfl)) Via.refl e10 F_full E_a0 (Or.inr ⟨(hwi hw 25 rfl), rfl, hnm⟩) (hwi hw 2 rfl) (ty := (.array .int)) (by decide) rfl rfl (g := (mkF m 69 #[.val (.ref a0), .val (.int p1), .val (.int (0 : Int32)), .val (.ref s_MAT), .val (.int (4 : Int32)), .unset, .unset, .unset, .unset, .unset, .unset, .unset] [(.ref b10), (.ref a0)])) rfl rfl (hb hby d1_69)
  have F_full := F_full.same W11
  have OL := OL.wr W11 g_a0
  have E_a0 := E_a0.wr W11
  have F_suits := F_suits.other W11 (Or.inr (slot_ne (Or.inr (hwi hw 21 rfl)) (Or.inr (hwi hw 25 rfl)) (by decide) (t := (.object "com/example/sidewager/sidewager/analysis/Shoe$Suits")) (t' := (.array .int)) (by decide) (by decide)))
  have F_left := F_left.other W11 (Or.inr (slot_ne (Or.inr (hwi hw 78 rfl)) (Or.inr (hwi hw 25 rfl)) (by decide) (t := (.array .int)) (t' := (.array .int)) (by decide) (by decide)))
  have F_ord := F_ord.other W11 (Or.inr (slot_ne (Or.inr (hwi hw 82 rfl)) (Or.inr (hwi hw 25 rfl)) (by decide) (t := (.array (.object "java/math/BigInteger"))) (t' := (.array .int)) (by decide) (by decide)))
  have F_dr := F_dr.other W11 (Or.inr (slot_ne (Or.inr (hwi hw 15 rfl)) (Or.inr (hwi hw 25 rfl)) (by decide) (t := (.array .int)) (t' := (.array .int)) (by decide) (by decide)))
  have F_ds := F_ds.other W11 (Or.inr (slot_ne (Or.inr (hwi hw 19 rfl)) (Or.inr (hwi hw 25 rfl)) (by decide) (t := (.array .int)) (t' := (.array .int)) (by decide) (by decide)))
  have F_sd := F_sd.other W11 (Or.inr (slot_ne (Or.inl (hwi hw 131 rfl)) (Or.inr (hwi hw 25 rfl)) (by decide) (t := .int) (t' := (.array .int)) (by decide) (by decide)))
  have F_dt := F_dt.other W11 (Or.inr (slot_ne (Or.inl (hwi hw 102 rfl)) (Or.inr (hwi hw 25 rfl)) (by decide) (t := .int) (t' := (.array .int)) (by decide) (by decide)))
  have F_dk := F_dk.other W11 (Or.inr (slot_ne (Or.inl (hwi hw 126 rfl)) (Or.inr (hwi hw 25 rfl)) (by decide) (t := .long) (t' := (.array .int)) (by decide) (by decide)))
  have V_b2 := V_b2.other W11 (Ne.symm ne_a0_b2)
  have V_b5 := V_b5.other W11 (Ne.symm ne_a0_b5)
  have E_b10 := E_b10.wr W11
  have V_b10 := V_b10.other W11 (Ne.symm ne_a0_b10)
  have N11 := Fr.snoc X11 N7 g_a0
  have Kp := Kp.wr W11 (Or.inl (by simp))
  have Zn := Nat.le_trans Zn (Nat.le_of_eq W11.size.symm)
  refine Run.st (S' := T11.setTop (mkF m 75 #[.val (.ref a0), .val (.int p1), .val (.int (0 : Int32)), .val (.ref s_MAT), .val (.int (4 : Int32)), .val (.int (0 : Int32)), .unset, .unset, .unset, .unset, .unset, .unset] [])) (fun _ k => st11 _ (XS.iconst X11.here hx rfl (hb hby d1_72) (XS.istore X11.here hx rfl (hb hby d1_73) rfl (l' := #[.val (.ref a0), .val (.int p1), .val (.int (0 : Int32)), .val (.ref s_MAT), .val (.int (4 : Int32)), .val (.int (0 : Int32)), .unset, .unset, .unset, .unset, .unset, .unset]) rfl k))) ?_
  obtain ⟨_, _, ⟨T12, L12, k12, n12⟩, -, X12, ⟨Lc12, hQ12, l12, y12, z12⟩, st12⟩ := Jvm.LawKit.callS X11 hx (y := (⟨"com/example/sidewager/sidewager/cards/Rank", "values", "()[Lcom/example/sidewager/sidewager/cards/Rank;"⟩ : MethodName)) hown (mvT hZ (hwi hw 26 rfl)) (mvT hZ (hwi hw 27 rfl)) (mvT hZ (hwi hw 28 rfl)) (mvT hZ (hwi hw 29 rfl)) (by decide) (backOf (W := 0) (rmVals l Z aV hw [] s_VALS kV vsR h11 n0 Zn OL S_VALS V_VALS E_VALS) hZ (hwi hw 29 rfl) (hwi hw 28 rfl) (by decide) (by decide)) (g := (mkF m 75 #[.val (.ref a0), .val (.int p1), .val (.int (0 : Int32)), .val (.ref s_MAT), .val (.int (4 : Int32)), .val (.int (0 : Int32)), .unset, .unset, .unset, .unset, .unset, .unset] [])) rfl (by rw [hml]; rfl) (argsL := []) (rest := []) (lenOf pd_3 rfl) rfl (by show 2 * 0 + _ ≤ _; exact Nat.le_of_eq rfl) (hb hby d1_75) (fun _ _ => ⟨rfl, e11, (by decide : 3 + 1 ≤ _), (by decide : 54 + 13 ≤ _)⟩)
  dsimp only [Pt.U, Pt.locs, Pt.cells, Pt.slots] at X12 l12 y12 z12 st12 hQ12
  replace l12 := l12.symm; replace y12 := y12.symm; replace z12 := z12.symm; subst l12 y12 z12
  obtain ⟨b12, kb12, rfl, N12q, K12, g_b12, z_b12, q12_0, q12_1⟩ := hQ12
  have ne_a0_b12 : a0 ≠ b12 := Nat.ne_of_lt (Nat.lt_of_lt_of_le E_a0.lt z_b12)
  have ne_b2_b12 : b2 ≠ b12 := Nat.ne_of_lt (Nat.lt_of_lt_of_le V_b2.lt z_b12)
  have ne_b5_b12 : b5 ≠ b12 := Nat.ne_of_lt (Nat.lt_of_lt_of_le V_b5.lt z_b12)
  have ne_b10_b12 : b10 ≠ b12 := Nat.ne_of_lt (Nat.lt_of_lt_of_le E_b10.lt z_b12)
  have sz_b12 : h0.size ≤ b12 := Nat.le_trans Kp.1 z_b12
  have OL := OL.keep K12 all0
  have E_a0 := E_a0.keep K12
  have F_suits := F_suits.keep K12 nin0
  have F_full := F_full.keep K12 nin0
  have F_left := F_left.keep K12 nin0
  have F_ord := F_ord.keep K12 nin0
  have F_dr := F_dr.keep K12 nin0
  have F_ds := F_ds.keep K12 nin0
  have F_sd := F_sd.keep K12 nin0
  have F_dt := F_dt.keep K12 nin0
  have F_dk := F_dk.keep K12 nin0
  have V_b2 := V_b2.keep K12 nin0
  have V_b5 := V_b5.keep K12 nin0
  have E_b10 := E_b10.keep K12
  have V_b10 := V_b10.keep K12 nin0
  have V_b12 := q12_0
  have E_b12 := q12_1
  have Kp := Kp.trans K12 all0
  have Zn := Nat.le_trans Zn K12.1
  have N12 := Fr.app N11 N12q
  refine Run.st (S' := T12.setTop (mkF m 82 #[.val (.ref a0), .val (.int p1), .val (.int (0 : Int32)), .val (.ref s_MAT), .val (.int (4 : Int32)), .val (.int (0 : Int32)), .val (.ref b12), .unset, .unset, .unset, .unset, .unset] [(.ref b12)])) (fun _ k => st12 _ (XS.astore X12.here hx rfl (hb hby d1_78) rfl rfl (l' := #[.val (.ref a0), .val (.int p1), .val (.int (0 : Int32)), .val (.ref s_MAT), .val (.int (4 : Int32)), .val (.int (0 : Int32)), .val (.ref b12), .unset, .unset, .unset, .unset, .unset]) rfl (XS.aload X12.here hx rfl (hb hby d1_80) rfl rfl k))) ?_
  obtain ⟨cl13, Ar13, -, Sa13, Na13, -, -⟩ := id V_b12
  refine Run.st (S' := T12.setTop (mkF m 83 #[.val (.ref a0), .val (.int p1), .val (.int (0 : Int32)), .val (.ref s_MAT), .val (.int (4 : Int32)), .val (.int (0 : Int32)), .val (.ref b12), .unset, .unset, .unset, .unset, .unset] [(.int (13 : Int32))])) (fun _ k => X12.arraylength hx Ar13.1 (State.isArrayOf_alike hZ.alike Ar13.2.1) (g := (mkF m 82 #[.val (.ref a0), .val (.int p1), .val (.int (0 : Int32)), .val (.ref s_MAT), .val (.int (4 : Int32)), .val (.int (0 : Int32)), .val (.ref b12), .unset, .unset, .unset, .unset, .unset] [(.ref b12)])) rfl rfl (hb hby d1_82) _ (by rw [len_of Sa13 Na13]; exact k)) ?_
  refine Run.st (S' := T12.setTop (mkF m 88 #[.val (.ref a0), .val (.int p1), .val (.int (0 : Int32)), .val (.ref s_MAT), .val (.int (4 : Int32)), .val (.int (0 : Int32)), .val (.ref b12), .val (.int (13 : Int32)), .val (.int (0 : Int32)), .unset, .unset, .unset] [])) (fun _ k => XS.istore X12.here hx rfl (hb hby d1_83) rfl (l' := #[.val (.ref a0), .val (.int p1), .val (.int (0 : Int32)), .val (.ref s_MAT), .val (.int (4 : Int32)), .val (.int (0 : Int32)), .val (.ref b12), .val (.int (13 : Int32)), .unset, .unset, .unset, .unset]) rfl (XS.iconst X12.here hx rfl (hb hby d1_85) (XS.istore X12.here hx rfl (hb hby d1_86) rfl (l' := #[.val (.ref a0), .val (.int p1), .val (.int (0 : Int32)), .val (.ref s_MAT), .val (.int (4 : Int32)), .val (.int (0 : Int32)), .val (.ref b12), .val (.int (13 : Int32)), .val (.int (0 : Int32)), .unset, .unset, .unset]) rfl k))) ?_
  have V_b10 : Arv Z T12.heap b10 k10 .int (40 : Int32) ((List.replicate 40 (0 : Int32)).map Value.int) (.int (0 : Int32)) := V_b10
  have LP14 : ∀ (fuO : Nat) (rr : Int32) (cd : Int32) (x9 : Slot) (x10 : Slot) (x11 : Slot) (Lf : List Int32) (Tl14 : State) (Hl14 : Heap) (gl : Good p l e ({ frames := 2, cells := 6, slots := 120, locals := 25 } : Room) s m #[(.ref a0), (.int p1), (.int (0 : Int32)), (.ref s_MAT)] below meth c n0 4 67 Hl14 Tl14) (Zn : n0 ≤ Hl14.size) (Kp : Keep h0 Hl14 [a0]) (OL : Old Z n0 Hl14) (E_a0 : Exa Z Hl14 a0 "com/example/sidewager/sidewager/analysis/Shoe") (F_suits : Fld Z Hl14 a0 "com/example/sidewager/sidewager/analysis/Shoe" "suits" "Lcom/example/sidewager/sidewager/analysis/Shoe$Suits;" (.ref s_MAT)) (F_full : Fld Z Hl14 a0 "com/example/sidewager/sidewager/analysis/Shoe" "full" "[I" (.ref b10)) (F_left : Fld Z Hl14 a0 "com/example/sidewager/sidewager/analysis/Shoe" "left" "[I" .null) (F_ord : Fld Z Hl14 a0 "com/example/sidewager/sidewager/analysis/Shoe" "orderingsAfter" "[Ljava/math/BigInteger;" .null) (F_dr : Fld Z Hl14 a0 "com/example/sidewager/sidewager/analysis/Shoe" "dealtOfRank" "[I" (.ref b2)) (F_ds : Fld Z Hl14 a0 "com/example/sidewager/sidewager/analysis/Shoe" "dealtOfSuit" "[I" (.ref b5)) (F_sd : Fld Z Hl14 a0 "com/example/sidewager/sidewager/analysis/Shoe" "suitsDealt" "I" (.int (0 : Int32))) (F_dt : Fld Z Hl14 a0 "com/example/sidewager/sidewager/analysis/Shoe" "dealt" "I" (.int (0 : Int32))) (F_dk : Fld Z Hl14 a0 "com/example/sidewager/sidewager/analysis/Shoe" "dealtKey" "J" (.long (0 : Int64))) (V_b2 : Arv Z Hl14 b2 k2 .int (10 : Int32) [(.int (0 : Int32)), (.int (0 : Int32)), (.int (0 : Int32)), (.int (0 : Int32)), (.int (0 : Int32)), (.int (0 : Int32)), (.int (0 : Int32)), (.int (0 : Int32)), (.int (0 : Int32)), (.int (0 : Int32))] (.int (0 : Int32))) (V_b5 : Arv Z Hl14 b5 k5 .int (4 : Int32) [(.int (0 : Int32)), (.int (0 : Int32)), (.int (0 : Int32)), (.int (0 : Int32))] (.int (0 : Int32))) (E_b10 : Exa Z Hl14 b10 "[I") (V_b10 : Arv Z Hl14 b10 k10 .int (40 : Int32) (Lf.map Value.int) (.int (0 : Int32))) (V_b12 : Arv Z Hl14 b12 kb12 (.object "com/example/sidewager/sidewager/cards/Rank") (13 : Int32) vsR .null) (E_b12 : Exa Z Hl14 b12 "[Lcom/example/sidewager/sidewager/cards/Rank;"), (rr.toInt + (fuO : Int) = 13 ∧ 0 ≤ rr.toInt ∧ Lf.length = 40 ∧ own_fo (own_v p1 (4 : Int32)) 4 fuO rr Lf = (own_full (own_v p1 (4 : Int32)) 4) ∧ own_pl x9 ∧ own_pl x10 ∧ own_pl x11) → Run p e below (Ends s (QCtM Z a0 p1 s_MAT s_VALS kV vsR s_ONE h0 n0) ({ frames := 2, cells := 6, slots := 120, locals := 25 } : Room).cells ({ frames := 2, cells := 6, slots := 120, locals := 25 } : Room).slots) (Tl14.setTop (mkF m 88 #[.val (.ref a0), .val (.int p1), .val (.int (0 : Int32)), .val (.ref s_MAT), .val (.int (4 : Int32)), .val (.int cd), .val (.ref b12), .val (.int (13 : Int32)), .val (.int rr), x9, x10, x11] [])) := by
    intro fuO
    induction fuO with
    | zero =>
      intro rr cd x9 x10 x11 Lf Tl14 Hl14 gl Zn Kp OL E_a0 F_suits F_full F_left F_ord F_dr F_ds F_sd F_dt F_dk V_b2 V_b5 E_b10 V_b10 V_b12 E_b12 hylO
      obtain ⟨lcs14, Xl14, Nl14, El14⟩ := gl
      refine Run.st (S' := Tl14.setTop (mkF m 165 #[.val (.ref a0), .val (.int p1), .val (.int (0 : Int32)), .val (.ref s_MAT), .val (.int (4 : Int32)), .val (.int cd), .val (.ref b12), .val (.int (13 : Int32)), .val (.int rr), x9, x10, x11] [])) (fun _ k => XS.iload Xl14.here hx rfl (hb hby d1_88) rfl (XS.iload Xl14.here hx rfl (hb hby d1_90) rfl (XS.icmpYes Xl14.here hx rfl (pc0 := 92) (pc' := 165) rfl (hb hby d1_92) rfl (flt (show ¬ (rr < (13 : Int32)) from own_nlt (show (13 : Int32).toInt = 13 from by decide) hylO.1)).2.1 (by decide) (by decide) k))) ?_
      rw [show Lf = (own_full (own_v p1 (4 : Int32)) 4) from hylO.2.2.2.1] at V_b10
      refine Run.st (S' := Tl14.setTop (mkF m 167 #[.val (.ref a0), .val (.int p1), .val (.int (0 : Int32)), .val (.ref s_MAT), .val (.int (4 : Int32)), .val (.int cd), .val (.ref b12), .val (.int (13 : Int32)), .val (.int rr), x9, x10, x11] [(.ref a0), (.ref a0)])) (fun _ k => XS.aloadN Xl14.here hx rfl (hb hby d1_165) rfl rfl (XS.aloadN Xl14.here hx rfl (hb hby d1_166) rfl rfl k)) ?_
      obtain ⟨T15, X15, e15, st15⟩ := getF Xl14 hx hZ hown (host := "") (Or.inl (hwi hw 24 rfl)) Via.refl El14 F_full (g := (mkF m 167 #[.val (.ref a0), .val (.int p1), .val (.int (0 : Int32)), .val (.ref s_MAT), .val (.int (4 : Int32)), .val (.int cd), .val (.ref b12), .val (.int (13 : Int32)), .val (.int rr), x9, x10, x11] [(.ref a0), (.ref a0)])) rfl rfl (hb hby d1_167)
      refine Run.st (S' := T15.setTop (mkF m 170 #[.val (.ref a0), .val (.int p1), .val (.int (0 : Int32)), .val (.ref s_MAT), .val (.int (4 : Int32)), .val (.int cd), .val (.ref b12), .val (.int (13 : Int32)), .val (.int rr), x9, x10, x11] [(.ref b10), (.ref a0)])) (fun _ k => st15 _ k) ?_
      obtain ⟨T16, h16, X16, e16, E16, V16, A16, st16⟩ := cloneH X15 hx hZ hown (ad := "[I") (hwi hw 71 rfl) (hwi hw 72 rfl) (hwi hw 37 rfl) (hwi hw 35 rfl) (hwi hw 73 rfl) (hwi hw 74 rfl) e15 (Arv.arh V_b10) E_b10 (g := (mkF m 170 #[.val (.ref a0), .val (.int p1), .val (.int (0 : Int32)), .val (.ref s_MAT), .val (.int (4 : Int32)), .val (.int cd), .val (.ref b12), .val (.int (13 : Int32)), .val (.int rr), x9, x10, x11] [(.ref b10), (.ref a0)])) rfl (by rw [hml]; rfl) rfl (hb hby d1_170) (by decide) (W := 1) (by show 2 * 0 + _ ≤ _; exact Nat.le_of_eq rfl) (by decide) (cap := 40) (by decide) (by decide) (by decide)
      obtain ⟨b16, g16⟩ : ∃ z, z = Hl14.size := ⟨_, rfl⟩
      rw [← g16] at V16 A16 st16
      have ne_a0_b16 : a0 ≠ b16 := Nat.ne_of_lt (Nat.lt_of_lt_of_le E_a0.lt (Nat.le_of_eq g16.symm))
      have ne_b2_b16 : b2 ≠ b16 := Nat.ne_of_lt (Nat.lt_of_lt_of_le V_b2.lt (Nat.le_of_eq g16.symm))
      have ne_b5_b16 : b5 ≠ b16 := Nat.ne_of_lt (Nat.lt_of_lt_of_le V_b5.lt (Nat.le_of_eq g16.symm))
      have ne_b10_b16 : b10 ≠ b16 := Nat.ne_of_lt (Nat.lt_of_lt_of_le E_b10.lt (Nat.le_of_eq g16.symm))
      have ne_b12_b16 : b12 ≠ b16 := Nat.ne_of_lt (Nat.lt_of_lt_of_le V_b12.lt (Nat.le_of_eq g16.symm))
      have E_a0 := E_a0.ext E16
      have F_suits := F_suits.ext E16
      have F_full := F_full.ext E16
      have F_left := F_left.ext E16
      have F_ord := F_ord.ext E16
      have F_dr := F_dr.ext E16
      have F_ds := F_ds.ext E16
      have F_sd := F_sd.ext E16
      have F_dt := F_dt.ext E16
      have F_dk := F_dk.ext E16
      have V_b2 := V_b2.ext E16
      have V_b5 := V_b5.ext E16
      have E_b10 := E_b10.ext E16
      have V_b10 := V_b10.ext E16
      have V_b12 := V_b12.ext E16
      have E_b12 := E_b12.ext E16
      have OL := OL.ext E16
      have g_b16 : n0 ≤ b16 := Nat.le_trans Zn (Nat.le_of_eq g16.symm)
      have Zn := Nat.le_trans Zn E16.1
      have sz_b16 : h0.size ≤ b16 := Nat.le_trans Kp.1 (Nat.le_of_eq g16.symm)
      have Kp := Kp.ext E16
      have V_b16 : Arv Z h16 b16 k10 .int (40 : Int32) ((own_full (own_v p1 (4 : Int32)) 4).map Value.int) (.int (0 : Int32)) := V16
      have E_b16 := A16
      refine Run.st (S' := T16.setTop (mkF m 173 #[.val (.ref a0), .val (.int p1), .val (.int (0 : Int32)), .val (.ref s_MAT), .val (.int (4 : Int32)), .val (.int cd), .val (.ref b12), .val (.int (13 : Int32)), .val (.int rr), x9, x10, x11] [(.ref b16), (.ref a0)])) (fun _ k => st16 _ k) ?_
      obtain ⟨T17, X17, e17, st17⟩ := castY X16 hx hZ hown (hwi hw 75 rfl) e16 (Ins.self E_b16) (g := (mkF m 173 #[.val (.ref a0), .val (.int p1), .val (.int (0 : Int32)), .val (.ref s_MAT), .val (.int (4 : Int32)), .val (.int cd), .val (.ref b12), .val (.int (13 : Int32)), .val (.int rr), x9, x10, x11] [(.ref b16), (.ref a0)])) rfl rfl (hb hby d1_173)
      refine Run.st (S' := T17.setTop (mkF m 176 #[.val (.ref a0), .val (.int p1), .val (.int (0 : Int32)), .val (.ref s_MAT), .val (.int (4 : Int32)), .val (.int cd), .val (.ref b12), .val (.int (13 : Int32)), .val (.int rr), x9, x10, x11] [(.ref b16), (.ref a0)])) (fun _ k => st17 _ k) ?_
      obtain ⟨T18, h18, X18, e18, W18, st18⟩ := putF X17 hx hZ hown (host := "") (Or.inl (hwi hw 77 rfl)) Via.refl e17 F_left E_a0 (Or.inr ⟨(hwi hw 78 rfl), rfl, hnm⟩) (hwi hw 2 rfl) (ty := (.array .int)) (by decide) rfl rfl (g := (mkF m 176 #[.val (.ref a0), .val (.int p1), .val (.int (0 : Int32)), .val (.ref s_MAT), .val (.int (4 : Int32)), .val (.int cd), .val (.ref b12), .val (.int (13 : Int32)), .val (.int rr), x9, x10, x11] [(.ref b16), (.ref a0)])) rfl rfl (hb hby d1_176)
      have F_left := F_left.same W18
      have OL := OL.wr W18 g_a0
      have E_a0 := E_a0.wr W18
      have F_suits := F_suits.other W18 (Or.inr (slot_ne (Or.inr (hwi hw 21 rfl)) (Or.inr (hwi hw 78 rfl)) (by decide) (t := (.object "com/example/sidewager/sidewager/analysis/Shoe$Suits")) (t' := (.array .int)) (by decide) (by decide)))
      have F_full := F_full.other W18 (Or.inr (slot_ne (Or.inr (hwi hw 25 rfl)) (Or.inr (hwi hw 78 rfl)) (by decide) (t := (.array .int)) (t' := (.array .int)) (by decide) (by decide)))
      have F_ord := F_ord.other W18 (Or.inr (slot_ne (Or.inr (hwi hw 82 rfl)) (Or.inr (hwi hw 78 rfl)) (by decide) (t := (.array (.object "java/math/BigInteger"))) (t' := (.array .int)) (by decide) (by decide)))
      have F_dr := F_dr.other W18 (Or.inr (slot_ne (Or.inr (hwi hw 15 rfl)) (Or.inr (hwi hw 78 rfl)) (by decide) (t := (.array .int)) (t' := (.array .int)) (by decide) (by decide)))
      have F_ds := F_ds.other W18 (Or.inr (slot_ne (Or.inr (hwi hw 19 rfl)) (Or.inr (hwi hw 78 rfl)) (by decide) (t := (.array .int)) (t' := (.array .int)) (by decide) (by decide)))
      have F_sd := F_sd.other W18 (Or.inr (slot_ne (Or.inl (hwi hw 131 rfl)) (Or.inr (hwi hw 78 rfl)) (by decide) (t := .int) (t' := (.array .int)) (by decide) (by decide)))
      have F_dt := F_dt.other W18 (Or.inr (slot_ne (Or.inl (hwi hw 102 rfl)) (Or.inr (hwi hw 78 rfl)) (by decide) (t := .int) (t' := (.array .int)) (by decide) (by decide)))
      have F_dk := F_dk.other W18 (Or.inr (slot_ne (Or.inl (hwi hw 126 rfl)) (Or.inr (hwi hw 78 rfl)) (by decide) (t := .long) (t' := (.array .int)) (by decide) (by decide)))
      have V_b2 := V_b2.other W18 (Ne.symm ne_a0_b2)
      have V_b5 := V_b5.other W18 (Ne.symm ne_a0_b5)
      have E_b10 := E_b10.wr W18
      have V_b10 := V_b10.other W18 (Ne.symm ne_a0_b10)
      have V_b12 := V_b12.other W18 (Ne.symm ne_a0_b12)
      have E_b12 := E_b12.wr W18
      have V_b16 := V_b16.other W18 (Ne.symm ne_a0_b16)
      have E_b16 := E_b16.wr W18
      have N18 := Fr.snoc X18 Nl14 g_a0
      have Kp := Kp.wr W18 (Or.inl (by simp))
      have Zn := Nat.le_trans Zn (Nat.le_of_eq W18.size.symm)
      refine Run.st (S' := T18.setTop (mkF m 183 #[.val (.ref a0), .val (.int p1), .val (.int (0 : Int32)), .val (.ref s_MAT), .val (.int (4 : Int32)), .val (.int cd), .val (.ref b12), .val (.int (13 : Int32)), .val (.int rr), x9, x10, x11] [(.int (1 : Int32)), (.ref a0)])) (fun _ k => st18 _ (XS.aloadN X18.here hx rfl (hb hby d1_179) rfl rfl (XS.iloadN X18.here hx rfl (hb hby d1_180) rfl (XS.iconst X18.here hx rfl (hb hby d1_181) (XS.iadd X18.here hx rfl (hb hby d1_182) rfl k))))) ?_
      obtain ⟨T19, h19, k19, X19, e19, E19, A19, O19, st19⟩ := newR X18 hx hZ hown (hwi hw 79 rfl) (hwi hw 80 rfl) e18 (g := (mkF m 183 #[.val (.ref a0), .val (.int p1), .val (.int (0 : Int32)), .val (.ref s_MAT), .val (.int (4 : Int32)), .val (.int cd), .val (.ref b12), .val (.int (13 : Int32)), .val (.int rr), x9, x10, x11] [(.int (1 : Int32)), (.ref a0)])) rfl (hb hby d1_183) rfl (by decide) (cap := 1) (by decide) (by decide) (by decide) (by decide)
      obtain ⟨b19, g19⟩ : ∃ z, z = h18.size := ⟨_, rfl⟩
      rw [← g19] at A19 st19
      have ne_a0_b19 : a0 ≠ b19 := Nat.ne_of_lt (Nat.lt_of_lt_of_le E_a0.lt (Nat.le_of_eq g19.symm))
      have ne_b2_b19 : b2 ≠ b19 := Nat.ne_of_lt (Nat.lt_of_lt_of_le V_b2.lt (Nat.le_of_eq g19.symm))
      have ne_b5_b19 : b5 ≠ b19 := Nat.ne_of_lt (Nat.lt_of_lt_of_le V_b5.lt (Nat.le_of_eq g19.symm))
      have ne_b10_b19 : b10 ≠ b19 := Nat.ne_of_lt (Nat.lt_of_lt_of_le E_b10.lt (Nat.le_of_eq g19.symm))
      have ne_b12_b19 : b12 ≠ b19 := Nat.ne_of_lt (Nat.lt_of_lt_of_le V_b12.lt (Nat.le_of_eq g19.symm))
      have ne_b16_b19 : b16 ≠ b19 := Nat.ne_of_lt (Nat.lt_of_lt_of_le V_b16.lt (Nat.le_of_eq g19.symm))
      have E_a0 := E_a0.ext E19
      have F_suits := F_suits.ext E19
      have F_full := F_full.ext E19
      have F_left := F_left.ext E19
      have F_ord := F_ord.ext E19
      have F_dr := F_dr.ext E19
      have F_ds := F_ds.ext E19
      have F_sd := F_sd.ext E19
      have F_dt := F_dt.ext E19
      have F_dk := F_dk.ext E19
      have V_b2 := V_b2.ext E19
      have V_b5 := V_b5.ext E19
      have E_b10 := E_b10.ext E19
      have V_b10 := V_b10.ext E19
      have V_b12 := V_b12.ext E19
      have E_b12 := E_b12.ext E19
      have V_b16 := V_b16.ext E19
      have E_b16 := E_b16.ext E19
      have OL := OL.ext E19
      have g_b19 : n0 ≤ b19 := Nat.le_trans Zn (Nat.le_of_eq g19.symm)
      have Zn := Nat.le_trans Zn E19.1
      have sz_b19 : h0.size ≤ b19 := Nat.le_trans Kp.1 (Nat.le_of_eq g19.symm)
      have Kp := Kp.ext E19
      have V_b19 : Arv Z h19 b19 k19 (.object "java/math/BigInteger") (1 : Int32) [.null] .null := (Arv.new A19 (by decide)).pad (pad_rep [] .null 1)
      refine Run.st (S' := T19.setTop (mkF m 186 #[.val (.ref a0), .val (.int p1), .val (.int (0 : Int32)), .val (.ref s_MAT), .val (.int (4 : Int32)), .val (.int cd), .val (.ref b12), .val (.int (13 : Int32)), .val (.int rr), x9, x10, x11] [(.ref b19), (.ref a0)])) (fun _ k => st19 _ k) ?_
      obtain ⟨T20, h20, X20, e20, W20, st20⟩ := putF X19 hx hZ hown (host := "") (Or.inl (hwi hw 81 rfl)) Via.refl e19 F_ord E_a0 (Or.inr ⟨(hwi hw 82 rfl), rfl, hnm⟩) (hwi hw 2 rfl) (ty := (.array (.object "java/math/BigInteger"))) (by decide) rfl rfl (g := (mkF m 186 #[.val (.ref a0), .val (.int p1), .val (.int (0 : Int32)), .val (.ref s_MAT), .val (.int (4 : Int32)), .val (.int cd), .val (.ref b12), .val (.int (13 : Int32)), .val (.int rr), x9, x10, x11] [(.ref b19), (.ref a0)])) rfl rfl (hb hby d1_186)
      have F_ord := F_ord.same W20
      have OL := OL.wr W20 g_a0
      have E_a0 := E_a0.wr W20
      have F_suits := F_suits.other W20 (Or.inr (slot_ne (Or.inr (hwi hw 21 rfl)) (Or.inr (hwi hw 82 rfl)) (by decide) (t := (.object "com/example/sidewager/sidewager/analysis/Shoe$Suits")) (t' := (.array (.object "java/math/BigInteger"))) (by decide) (by decide)))
      have F_full := F_full.other W20 (Or.inr (slot_ne (Or.inr (hwi hw 25 rfl)) (Or.inr (hwi hw 82 rfl)) (by decide) (t := (.array .int)) (t' := (.array (.object "java/math/BigInteger"))) (by decide) (by decide)))
      have F_left := F_left.other W20 (Or.inr (slot_ne (Or.inr (hwi hw 78 rfl)) (Or.inr (hwi hw 82 rfl)) (by decide) (t := (.array .int)) (t' := (.array (.object "java/math/BigInteger"))) (by decide) (by decide)))
      have F_dr := F_dr.other W20 (Or.inr (slot_ne (Or.inr (hwi hw 15 rfl)) (Or.inr (hwi hw 82 rfl)) (by decide) (t := (.array .int)) (t' := (.array (.object "java/math/BigInteger"))) (by decide) (by decide)))
      have F_ds := F_ds.other W20 (Or.inr (slot_ne (Or.inr (hwi hw 19 rfl)) (Or.inr (hwi hw 82 rfl)) (by decide) (t := (.array .int)) (t' := (.array (.object "java/math/BigInteger"))) (by decide) (by decide)))
      have F_sd := F_sd.other W20 (Or.inr (slot_ne (Or.inl (hwi hw 131 rfl)) (Or.inr (hwi hw 82 rfl)) (by decide) (t := .int) (t' := (.array (.object "java/math/BigInteger"))) (by decide) (by decide)))
      have F_dt := F_dt.other W20 (Or.inr (slot_ne (Or.inl (hwi hw 102 rfl)) (Or.inr (hwi hw 82 rfl)) (by decide) (t := .int) (t' := (.array (.object "java/math/BigInteger"))) (by decide) (by decide)))
      have F_dk := F_dk.other W20 (Or.inr (slot_ne (Or.inl (hwi hw 126 rfl)) (Or.inr (hwi hw 82 rfl)) (by decide) (t := .long) (t' := (.array (.object "java/math/BigInteger"))) (by decide) (by decide)))
      have V_b2 := V_b2.other W20 (Ne.symm ne_a0_b2)
      have V_b5 := V_b5.other W20 (Ne.symm ne_a0_b5)
      have E_b10 := E_b10.wr W20
      have V_b10 := V_b10.other W20 (Ne.symm ne_a0_b10)
      have V_b12 := V_b12.other W20 (Ne.symm ne_a0_b12)
      have E_b12 := E_b12.wr W20
      have V_b16 := V_b16.other W20 (Ne.symm ne_a0_b16)
      have E_b16 := E_b16.wr W20
      have V_b19 := V_b19.other W20 (Ne.symm ne_a0_b19)
      have N20 := Fr.snoc X20 N18 g_a0
      have Kp := Kp.wr W20 (Or.inl (by simp))
      have Zn := Nat.le_trans Zn (Nat.le_of_eq W20.size.symm)
      refine Run.st (S' := T20.setTop (mkF m 190 #[.val (.ref a0), .val (.int p1), .val (.int (0 : Int32)), .val (.ref s_MAT), .val (.int (4 : Int32)), .val (.int cd), .val (.ref b12), .val (.int (13 : Int32)), .val (.int rr), x9, x10, x11] [(.ref a0)])) (fun _ k => st20 _ (XS.aloadN X20.here hx rfl (hb hby d1_189) rfl rfl k)) ?_
      obtain ⟨T21, X21, e21, st21⟩ := getF X20 hx hZ hown (host := "") (Or.inl (hwi hw 81 rfl)) Via.refl e20 F_ord (g := (mkF m 190 #[.val (.ref a0), .val (.int p1), .val (.int (0 : Int32)), .val (.ref s_MAT), .val (.int (4 : Int32)), .val (.int cd), .val (.ref b12), .val (.int (13 : Int32)), .val (.int rr), x9, x10, x11] [(.ref a0)])) rfl rfl (hb hby d1_190)
      refine Run.st (S' := T21.setTop (mkF m 194 #[.val (.ref a0), .val (.int p1), .val (.int (0 : Int32)), .val (.ref s_MAT), .val (.int (4 : Int32)), .val (.int cd), .val (.ref b12), .val (.int (13 : Int32)), .val (.int rr), x9, x10, x11] [(.int (0 : Int32)), (.ref b19)])) (fun _ k => st21 _ (XS.iloadN X21.here hx rfl (hb hby d1_193) rfl k)) ?_
      have u_S_ONE := S_ONE.ext OL.2
      obtain ⟨T22, X22, e22, st22⟩ := getS2 X21 hx hZ hown (host := "") (Or.inl (hwi hw 83 rfl)) Via.refl e21 u_S_ONE (g := (mkF m 194 #[.val (.ref a0), .val (.int p1), .val (.int (0 : Int32)), .val (.ref s_MAT), .val (.int (4 : Int32)), .val (.int cd), .val (.ref b12), .val (.int (13 : Int32)), .val (.int rr), x9, x10, x11] [(.int (0 : Int32)), (.ref b19)])) rfl (hb hby d1_194)
      refine Run.st (S' := T22.setTop (mkF m 197 #[.val (.ref a0), .val (.int p1), .val (.int (0 : Int32)), .val (.ref s_MAT), .val (.int (4 : Int32)), .val (.int cd), .val (.ref b12), .val (.int (13 : Int32)), .val (.int rr), x9, x10, x11] [(.ref s_ONE), (.int (0 : Int32)), (.ref b19)])) (fun _ k => st22 _ k) ?_
      obtain ⟨cl23, Ar23, qa23, Sa23, Na23, Ha23, Ga23⟩ := V_b19
      have hin23 : ¬ ((0 : Int32) < 0 ∨ cl23.slots.size ≤ ((0 : Int32)).toNatClampNeg) := inb_of Sa23 ⟨by decide, by decide⟩
      have u_E_ONE := E_ONE.ext OL.2
      obtain ⟨T23, h23, X23, e23, W23, st23⟩ := stR X22 hx hZ e22 Ar23 (j := (0 : Int32)) hin23 rfl (Sto.ofV Ar23 qa23 O19 (Ins.self u_E_ONE)) (g := (mkF m 197 #[.val (.ref a0), .val (.int p1), .val (.int (0 : Int32)), .val (.ref s_MAT), .val (.int (4 : Int32)), .val (.int cd), .val (.ref b12), .val (.int (13 : Int32)), .val (.int rr), x9, x10, x11] [(.ref s_ONE), (.int (0 : Int32)), (.ref b19)])) rfl rfl (hb hby d1_197)
      have V_b19 := Arv.set Ar23 qa23 Sa23 Na23 Ha23 Ga23 rfl W23 0 rfl (Nat.le_of_ble_eq_true rfl)
      have V_b19 : Arv Z h23 b19 k19 (.object "java/math/BigInteger") (1 : Int32) [(.ref s_ONE)] .null := V_b19
      have OL := OL.wr W23 g_b19
      have E_a0 := E_a0.wr W23
      have F_suits := F_suits.other W23 (Or.inl ne_a0_b19)
      have F_full := F_full.other W23 (Or.inl ne_a0_b19)
      have F_left := F_left.other W23 (Or.inl ne_a0_b19)
      have F_ord := F_ord.other W23 (Or.inl ne_a0_b19)
      have F_dr := F_dr.other W23 (Or.inl ne_a0_b19)
      have F_ds := F_ds.other W23 (Or.inl ne_a0_b19)
      have F_sd := F_sd.other W23 (Or.inl ne_a0_b19)
      have F_dt := F_dt.other W23 (Or.inl ne_a0_b19)
      have F_dk := F_dk.other W23 (Or.inl ne_a0_b19)
      have V_b2 := V_b2.other W23 ne_b2_b19
      have V_b5 := V_b5.other W23 ne_b5_b19
      have E_b10 := E_b10.wr W23
      have V_b10 := V_b10.other W23 ne_b10_b19
      have V_b12 := V_b12.other W23 ne_b12_b19
      have E_b12 := E_b12.wr W23
      have V_b16 := V_b16.other W23 ne_b16_b19
      have E_b16 := E_b16.wr W23
      have N23 := Fr.snoc X23 N20 g_b19
      have Kp := Kp.wr W23 (Or.inr sz_b19)
      have Zn := Nat.le_trans Zn (Nat.le_of_eq W23.size.symm)
      refine Run.st (S' := T23.setTop (mkF m 242 #[.val (.ref a0), .val (.int p1), .val (.int (0 : Int32)), .val (.ref s_MAT), .val (.int (4 : Int32)), .val (.int cd), .val (.int (-1 : Int32)), .val (.int (13 : Int32)), .val (.int rr), x9, x10, x11] [])) (fun _ k => st23 _ (XS.iloadN X23.here hx rfl (hb hby d1_198) rfl (XS.iconst X23.here hx rfl (hb hby d1_199) (XS.isub X23.here hx rfl (hb hby d1_200) rfl (XS.istore X23.here hx rfl (hb hby d1_201) rfl (l' := #[.val (.ref a0), .val (.int p1), .val (.int (0 : Int32)), .val (.ref s_MAT), .val (.int (4 : Int32)), .val (.int cd), .val (.int (-1 : Int32)), .val (.int (13 : Int32)), .val (.int rr), x9, x10, x11]) rfl (XS.iload X23.here hx rfl (hb hby d1_203) rfl (XS.ifYes X23.here hx rfl (pc0 := 205) (pc' := 242) rfl (hb hby d1_205) rfl ((if0 _ _).trans (tlt (show (-1 : Int32) < (0 : Int32) from (by decide))).1) (by decide) (by decide) k))))))) ?_
      have V_b2 : Arv Z h23 b2 k2 .int (10 : Int32) ((List.replicate 10 (0 : Int32)).map Value.int) (.int (0 : Int32)) := V_b2
      have V_b5 : Arv Z h23 b5 k5 .int (4 : Int32) ((List.replicate 4 (0 : Int32)).map Value.int) (.int (0 : Int32)) := V_b5
      refine Run.outV X23 hx Bd.notSynchronized Bd.returns (hb hby d1_242) (by decide) (by decide) ?_
      rw [e23]
      exact ⟨b2, k2, b5, k5, b16, k10, rfl, N23, Kp, g_b2, sz_b2, g_b5, sz_b5, g_b16, sz_b16, ne_b2_b5, ne_b2_b16, ne_b5_b16, E_a0, F_suits, F_left, F_dr, F_ds, F_sd, F_dt, F_dk, V_b2, V_b5, V_b16⟩
    | succ fuO ihO =>
      intro rr cd x9 x10 x11 Lf Tl14 Hl14 gl Zn Kp OL E_a0 F_suits F_full F_left F_ord F_dr F_ds F_sd F_dt F_dk V_b2 V_b5 E_b10 V_b10 V_b12 E_b12 hylO
      obtain ⟨lcs14, Xl14, Nl14, El14⟩ := gl
      refine Run.st (S' := Tl14.setTop (mkF m 99 #[.val (.ref a0), .val (.int p1), .val (.int (0 : Int32)), .val (.ref s_MAT), .val (.int (4 : Int32)), .val (.int cd), .val (.ref b12), .val (.int (13 : Int32)), .val (.int rr), x9, x10, x11] [(.int rr), (.ref b12)])) (fun _ k => XS.iload Xl14.here hx rfl (hb hby d1_88) rfl (XS.iload Xl14.here hx rfl (hb hby d1_90) rfl (XS.icmpNo Xl14.here hx rfl (hb hby d1_92) rfl (tlt (show rr < (13 : Int32) from own_lt (show (13 : Int32).toInt = 13 from by decide) hylO.1)).2.1 (XS.aload Xl14.here hx rfl (hb hby d1_95) rfl rfl (XS.iload Xl14.here hx rfl (hb hby d1_97) rfl k))))) ?_
      obtain ⟨ra, ha1, E_ra, F_ra⟩ := HR rr hylO.2.1 (own_lti hylO.1)
      obtain ⟨cl24, Ar24, qa24, Sa24, Na24, Ha24, Ga24⟩ := id V_b12
      have hin24 : ¬ (rr < 0 ∨ cl24.slots.size ≤ (rr).toNatClampNeg) := inb_of Sa24 (inb32 (show (13 : Int32).toInt = 13 from by decide) hylO.2.1 (own_lti hylO.1))
      have hat24 : cl24.slots[(rr).toNatClampNeg]? = some (.ref ra) := Has.at Ha24 hin24 ha1
      refine Run.st (S' := Tl14.setTop (mkF m 104 #[.val (.ref a0), .val (.int p1), .val (.int (0 : Int32)), .val (.ref s_MAT), .val (.int (4 : Int32)), .val (.int cd), .val (.ref b12), .val (.int (13 : Int32)), .val (.int rr), .val (.ref ra), x10, x11] [(.ref ra)])) (fun _ k => Xl14.aaload hx (j := rr) (v := (.ref ra)) (by rw [El14]; exact Ar24.1) (State.isArrayOf_alike hZ.alike Ar24.2.1) rfl Ar24.2.2 hin24 hat24 (g := (mkF m 99 #[.val (.ref a0), .val (.int p1), .val (.int (0 : Int32)), .val (.ref s_MAT), .val (.int (4 : Int32)), .val (.int cd), .val (.ref b12), .val (.int (13 : Int32)), .val (.int rr), x9, x10, x11] [(.int rr), (.ref b12)])) rfl rfl (hb hby d1_99) _ (XS.astore Xl14.here hx rfl (hb hby d1_100) rfl rfl (l' := #[.val (.ref a0), .val (.int p1), .val (.int (0 : Int32)), .val (.ref s_MAT), .val (.int (4 : Int32)), .val (.int cd), .val (.ref b12), .val (.int (13 : Int32)), .val (.int rr), .val (.ref ra), x10, x11]) (own_stl (x := x9) rfl rfl hylO.2.2.2.2.1) (XS.aload Xl14.here hx rfl (hb hby d1_102) rfl rfl k))) ?_
      have u_E_ra := E_ra.ext OL.2
      have u_F_ra := F_ra.ext OL.2
      obtain ⟨_, _, ⟨T25, L25, k25, n25⟩, -, X25, ⟨Lc25, hQ25, l25, y25, z25⟩, st25⟩ := Jvm.LawKit.callS Xl14 hx (y := (⟨"com/example/sidewager/sidewager/analysis/Shoe", "kindOf", "(Lcom/example/sidewager/sidewager/cards/Rank;)I"⟩ : MethodName)) hown (mvT hZ (hwi hw 55 rfl)) (mvT hZ (hwi hw 56 rfl)) (mvT hZ (hwi hw 3 rfl)) (mvT hZ (hwi hw 57 rfl)) (by decide) (backOf (W := 0) (rmKind l Z aV hw [] ra rr Hl14 n0 Zn u_E_ra u_F_ra) hZ (hwi hw 57 rfl) (hwi hw 3 rfl) (by decide) (by decide)) (g := (mkF m 104 #[.val (.ref a0), .val (.int p1), .val (.int (0 : Int32)), .val (.ref s_MAT), .val (.int (4 : Int32)), .val (.int cd), .val (.ref b12), .val (.int (13 : Int32)), .val (.int rr), .val (.ref ra), x10, x11] [(.ref ra)])) rfl (by rw [hml]; rfl) (argsL := [(.ref ra)]) (rest := []) (lenOf pd_4 rfl) rfl (by show 2 * 0 + _ ≤ _; exact Nat.le_of_eq rfl) (hb hby d1_104) (fun _ _ => ⟨rfl, El14, (by decide : 4 + 0 ≤ _), (by decide : 67 + 0 ≤ _)⟩)
      dsimp only [Pt.U, Pt.locs, Pt.cells, Pt.slots] at X25 l25 y25 z25 st25 hQ25
      replace l25 := l25.symm; replace y25 := y25.symm; replace z25 := z25.symm; subst l25 y25 z25
      obtain ⟨rfl, N25q, e25⟩ := hQ25
      have N25 := Fr.app Nl14 N25q
      obtain ⟨kk, hkk⟩ : ∃ z, z = (FKind ra rr) := ⟨_, rfl⟩
      rw [← hkk] at st25
      have hk9 := own_k9 hylO.2.1 hkk
      refine Run.st (S' := T25.setTop (mkF m 112 #[.val (.ref a0), .val (.int p1), .val (.int (0 : Int32)), .val (.ref s_MAT), .val (.int (4 : Int32)), .val (.int cd), .val (.ref b12), .val (.int (13 : Int32)), .val (.int rr), .val (.ref ra), .val (.int kk), .val (.int (0 : Int32))] [])) (fun _ k => st25 _ (XS.istore X25.here hx rfl (hb hby d1_107) rfl (l' := #[.val (.ref a0), .val (.int p1), .val (.int (0 : Int32)), .val (.ref s_MAT), .val (.int (4 : Int32)), .val (.int cd), .val (.ref b12), .val (.int (13 : Int32)), .val (.int rr), .val (.ref ra), .val (.int kk), x11]) (own_stl (x := x10) rfl rfl hylO.2.2.2.2.2.1) (XS.iconst X25.here hx rfl (hb hby d1_109) (XS.istore X25.here hx rfl (hb hby d1_110) rfl (l' := #[.val (.ref a0), .val (.int p1), .val (.int (0 : Int32)), .val (.ref s_MAT), .val (.int (4 : Int32)), .val (.int cd), .val (.ref b12), .val (.int (13 : Int32)), .val (.int rr), .val (.ref ra), .val (.int kk), .val (.int (0 : Int32))]) (own_stl (x := x11) rfl rfl hylO.2.2.2.2.2.2) k)))) ?_
      have LP26 : ∀ (fuI : Nat) (su : Int32) (Li : List Int32) (Tl26 : State) (Hl26 : Heap) (gl : Good p l e ({ frames := 2, cells := 6, slots := 120, locals := 25 } : Room) s m #[(.ref a0), (.int p1), (.int (0 : Int32)), (.ref s_MAT)] below meth c n0 4 67 Hl26 Tl26) (Zn : n0 ≤ Hl26.size) (Kp : Keep h0 Hl26 [a0]) (OL : Old Z n0 Hl26) (E_a0 : Exa Z Hl26 a0 "com/example/sidewager/sidewager/analysis/Shoe") (F_suits : Fld Z Hl26 a0 "com/example/sidewager/sidewager/analysis/Shoe" "suits" "Lcom/example/sidewager/sidewager/analysis/Shoe$Suits;" (.ref s_MAT)) (F_full : Fld Z Hl26 a0 "com/example/sidewager/sidewager/analysis/Shoe" "full" "[I" (.ref b10)) (F_left : Fld Z Hl26 a0 "com/example/sidewager/sidewager/analysis/Shoe" "left" "[I" .null) (F_ord : Fld Z Hl26 a0 "com/example/sidewager/sidewager/analysis/Shoe" "orderingsAfter" "[Ljava/math/BigInteger;" .null) (F_dr : Fld Z Hl26 a0 "com/example/sidewager/sidewager/analysis/Shoe" "dealtOfRank" "[I" (.ref b2)) (F_ds : Fld Z Hl26 a0 "com/example/sidewager/sidewager/analysis/Shoe" "dealtOfSuit" "[I" (.ref b5)) (F_sd : Fld Z Hl26 a0 "com/example/sidewager/sidewager/analysis/Shoe" "suitsDealt" "I" (.int (0 : Int32))) (F_dt : Fld Z Hl26 a0 "com/example/sidewager/sidewager/analysis/Shoe" "dealt" "I" (.int (0 : Int32))) (F_dk : Fld Z Hl26 a0 "com/example/sidewager/sidewager/analysis/Shoe" "dealtKey" "J" (.long (0 : Int64))) (V_b2 : Arv Z Hl26 b2 k2 .int (10 : Int32) [(.int (0 : Int32)), (.int (0 : Int32)), (.int (0 : Int32)), (.int (0 : Int32)), (.int (0 : Int32)), (.int (0 : Int32)), (.int (0 : Int32)), (.int (0 : Int32)), (.int (0 : Int32)), (.int (0 : Int32))] (.int (0 : Int32))) (V_b5 : Arv Z Hl26 b5 k5 .int (4 : Int32) [(.int (0 : Int32)), (.int (0 : Int32)), (.int (0 : Int32)), (.int (0 : Int32))] (.int (0 : Int32))) (E_b10 : Exa Z Hl26 b10 "[I") (V_b10 : Arv Z Hl26 b10 k10 .int (40 : Int32) (Li.map Value.int) (.int (0 : Int32))) (V_b12 : Arv Z Hl26 b12 kb12 (.object "com/example/sidewager/sidewager/cards/Rank") (13 : Int32) vsR .null) (E_b12 : Exa Z Hl26 b12 "[Lcom/example/sidewager/sidewager/cards/Rank;"), (su.toInt + (fuI : Int) = 4 ∧ 0 ≤ su.toInt ∧ Li.length = 40 ∧ own_fo (own_v p1 (4 : Int32)) 4 fuO (rr + (1 : Int32)) (own_fi (own_v p1 (4 : Int32)) kk fuI su Li) = (own_full (own_v p1 (4 : Int32)) 4)) → Run p e below (Ends s (QCtM Z a0 p1 s_MAT s_VALS kV vsR s_ONE h0 n0) ({ frames := 2, cells := 6, slots := 120, locals := 25 } : Room).cells ({ frames := 2, cells := 6, slots := 120, locals := 25 } : Room).slots) (Tl26.setTop (mkF m 112 #[.val (.ref a0), .val (.int p1), .val (.int (0 : Int32)), .val (.ref s_MAT), .val (.int (4 : Int32)), .val (.int cd), .val (.ref b12), .val (.int (13 : Int32)), .val (.int rr), .val (.ref ra), .val (.int kk), .val (.int su)] [])) := by
        intro fuI
        induction fuI with
        | zero =>
          intro su Li Tl26 Hl26 gl Zn Kp OL E_a0 F_suits F_full F_left F_ord F_dr F_ds F_sd F_dt F_dk V_b2 V_b5 E_b10 V_b10 V_b12 E_b12 hylI
          obtain ⟨lcs26, Xl26, Nl26, El26⟩ := gl
          refine Run.st (S' := Tl26.setTop (mkF m 152 #[.val (.ref a0), .val (.int p1), .val (.int (0 : Int32)), .val (.ref s_MAT), .val (.int (4 : Int32)), .val (.int cd), .val (.ref b12), .val (.int (13 : Int32)), .val (.int rr), .val (.ref ra), .val (.int kk), .val (.int su)] [(.int p1), (.int cd)])) (fun _ k => XS.iload Xl26.here hx rfl (hb hby d1_112) rfl (XS.iload Xl26.here hx rfl (hb hby d1_114) rfl (XS.icmpYes Xl26.here hx rfl (pc0 := 116) (pc' := 149) rfl (hb hby d1_116) rfl (flt (show ¬ (su < (4 : Int32)) from own_nlt (show (4 : Int32).toInt = 4 from by decide) hylI.1)).2.1 (by decide) (by decide) (XS.iload Xl26.here hx rfl (hb hby d1_149) rfl (XS.iloadN Xl26.here hx rfl (hb hby d1_151) rfl k))))) ?_
          have u_S_SUITS := S_SUITS.ext OL.2
          obtain ⟨T27, X27, e27, st27⟩ := getS2 Xl26 hx hZ hown (host := "") (Or.inl (hwi hw 16 rfl)) Via.refl El26 u_S_SUITS (g := (mkF m 152 #[.val (.ref a0), .val (.int p1), .val (.int (0 : Int32)), .val (.ref s_MAT), .val (.int (4 : Int32)), .val (.int cd), .val (.ref b12), .val (.int (13 : Int32)), .val (.int rr), .val (.ref ra), .val (.int kk), .val (.int su)] [(.int p1), (.int cd)])) rfl (hb hby d1_152)
          refine Run.st (S' := T27.setTop (mkF m 88 #[.val (.ref a0), .val (.int p1), .val (.int (0 : Int32)), .val (.ref s_MAT), .val (.int (4 : Int32)), .val (.int (cd + (p1 * (4 : Int32)))), .val (.ref b12), .val (.int (13 : Int32)), .val (.int (rr + (1 : Int32))), .val (.ref ra), .val (.int kk), .val (.int su)] [])) (fun _ k => st27 _ (XS.imul X27.here hx rfl (hb hby d1_155) rfl (XS.iadd X27.here hx rfl (hb hby d1_156) rfl (XS.istore X27.here hx rfl (hb hby d1_157) rfl (l' := #[.val (.ref a0), .val (.int p1), .val (.int (0 : Int32)), .val (.ref s_MAT), .val (.int (4 : Int32)), .val (.int (cd + (p1 * (4 : Int32)))), .val (.ref b12), .val (.int (13 : Int32)), .val (.int rr), .val (.ref ra), .val (.int kk), .val (.int su)]) rfl (XS.iinc X27.here hx rfl (hb hby d1_159) rfl (l' := #[.val (.ref a0), .val (.int p1), .val (.int (0 : Int32)), .val (.ref s_MAT), .val (.int (4 : Int32)), .val (.int (cd + (p1 * (4 : Int32)))), .val (.ref b12), .val (.int (13 : Int32)), .val (.int (rr + (1 : Int32))), .val (.ref ra), .val (.int kk), .val (.int su)]) rfl (XS.goto X27.here hx rfl (pc0 := 162) (pc' := 88) rfl (hb hby d1_162) (by decide) (by decide) k)))))) ?_
          exact ihO (rr + (1 : Int32)) (cd + (p1 * (4 : Int32))) (.val (.ref ra)) (.val (.int kk)) (.val (.int su)) Li _ _ ⟨_, X27, Nl26, e27⟩ Zn Kp OL E_a0 F_suits F_full F_left F_ord F_dr F_ds F_sd F_dt F_dk V_b2 V_b5 E_b10 V_b10 V_b12 E_b12 ⟨(own_inc hylO.2.1 (by decide) hylO.1).1, (own_inc hylO.2.1 (by decide) hylO.1).2, hylI.2.2.1, hylI.2.2.2, rfl, rfl, rfl⟩
        | succ fuI ihI =>
          intro su Li Tl26 Hl26 gl Zn Kp OL E_a0 F_suits F_full F_left F_ord F_dr F_ds F_sd F_dt F_dk V_b2 V_b5 E_b10 V_b10 V_b12 E_b12 hylI
          obtain ⟨lcs26, Xl26, Nl26, El26⟩ := gl
          refine Run.st (S' := Tl26.setTop (mkF m 120 #[.val (.ref a0), .val (.int p1), .val (.int (0 : Int32)), .val (.ref s_MAT), .val (.int (4 : Int32)), .val (.int cd), .val (.ref b12), .val (.int (13 : Int32)), .val (.int rr), .val (.ref ra), .val (.int kk), .val (.int su)] [(.ref a0)])) (fun _ k => XS.iload Xl26.here hx rfl (hb hby d1_112) rfl (XS.iload Xl26.here hx rfl (hb hby d1_114) rfl (XS.icmpNo Xl26.here hx rfl (hb hby d1_116) rfl (tlt (show su < (4 : Int32) from own_lt (show (4 : Int32).toInt = 4 from by decide) hylI.1)).2.1 (XS.aloadN Xl26.here hx rfl (hb hby d1_119) rfl rfl k)))) ?_
          obtain ⟨T28, X28, e28, st28⟩ := getF Xl26 hx hZ hown (host := "") (Or.inl (hwi hw 24 rfl)) Via.refl El26 F_full (g := (mkF m 120 #[.val (.ref a0), .val (.int p1), .val (.int (0 : Int32)), .val (.ref s_MAT), .val (.int (4 : Int32)), .val (.int cd), .val (.ref b12), .val (.int (13 : Int32)), .val (.int rr), .val (.ref ra), .val (.int kk), .val (.int su)] [(.ref a0)])) rfl rfl (hb hby d1_120)
          refine Run.st (S' := T28.setTop (mkF m 132 #[.val (.ref a0), .val (.int p1), .val (.int (0 : Int32)), .val (.ref s_MAT), .val (.int (4 : Int32)), .val (.int cd), .val (.ref b12), .val (.int (13 : Int32)), .val (.int rr), .val (.ref ra), .val (.int kk), .val (.int su)] [(.int (kk + ((10 : Int32) * su))), (.ref b10), (.int (kk + ((10 : Int32) * su))), (.ref b10)])) (fun _ k => st28 _ (XS.iload X28.here hx rfl (hb hby d1_123) rfl (XS.bipush X28.here hx rfl (hb hby d1_125) (XS.iload X28.here hx rfl (hb hby d1_127) rfl (XS.imul X28.here hx rfl (hb hby d1_129) rfl (XS.iadd X28.here hx rfl (hb hby d1_130) rfl (Jvm.Free.XT.dup2 X28.here hx rfl (hb hby d1_131) rfl rfl rfl k))))))) ?_
          obtain ⟨cl29, Ar29, qa29, Sa29, Na29, Ha29, Ga29⟩ := id V_b10
          have hin29 : ¬ ((kk + ((10 : Int32) * su)) < 0 ∨ cl29.slots.size ≤ ((kk + ((10 : Int32) * su))).toNatClampNeg) := inb_of Sa29 (own_idx (n := 4) (show (40 : Int32).toInt = 10 * 4 from by decide) (by decide) hk9 hylI.2.1 hylI.1)
          have hat29 : cl29.slots[((kk + ((10 : Int32) * su))).toNatClampNeg]? = some (.int (Li.getD ((kk + ((10 : Int32) * su))).toNatClampNeg 0)) := Has.at Ha29 hin29 (own_get _ _)
          refine Run.st (S' := T28.setTop (mkF m 134 #[.val (.ref a0), .val (.int p1), .val (.int (0 : Int32)), .val (.ref s_MAT), .val (.int (4 : Int32)), .val (.int cd), .val (.ref b12), .val (.int (13 : Int32)), .val (.int rr), .val (.ref ra), .val (.int kk), .val (.int su)] [(.int p1), (.int (Li.getD ((kk + ((10 : Int32) * su))).toNatClampNeg 0)), (.int (kk + ((10 : Int32) * su))), (.ref b10)])) (fun _ k => X28.iaload hx (j := (kk + ((10 : Int32) * su))) (v := (.int (Li.getD ((kk + ((10 : Int32) * su))).toNatClampNeg 0))) (by rw [e28]; exact Ar29.1) (State.isArrayOf_alike hZ.alike Ar29.2.1) Ar29.2.2 hin29 hat29 (g := (mkF m 132 #[.val (.ref a0), .val (.int p1), .val (.int (0 : Int32)), .val (.ref s_MAT), .val (.int (4 : Int32)), .val (.int cd), .val (.ref b12), .val (.int (13 : Int32)), .val (.int rr), .val (.ref ra), .val (.int kk), .val (.int su)] [(.int (kk + ((10 : Int32) * su))), (.ref b10), (.int (kk + ((10 : Int32) * su))), (.ref b10)])) rfl rfl (hb hby d1_132) _ (XS.iloadN X28.here hx rfl (hb hby d1_133) rfl k)) ?_
          have u_S_SUITS := S_SUITS.ext OL.2
          obtain ⟨T30, X30, e30, st30⟩ := getS2 X28 hx hZ hown (host := "") (Or.inl (hwi hw 16 rfl)) Via.refl e28 u_S_SUITS (g := (mkF m 134 #[.val (.ref a0), .val (.int p1), .val (.int (0 : Int32)), .val (.ref s_MAT), .val (.int (4 : Int32)), .val (.int cd), .val (.ref b12), .val (.int (13 : Int32)), .val (.int rr), .val (.ref ra), .val (.int kk), .val (.int su)] [(.int p1), (.int (Li.getD ((kk + ((10 : Int32) * su))).toNatClampNeg 0)), (.int (kk + ((10 : Int32) * su))), (.ref b10)])) rfl (hb hby d1_134)
          refine Run.st (S' := T30.setTop (mkF m 141 #[.val (.ref a0), .val (.int p1), .val (.int (0 : Int32)), .val (.ref s_MAT), .val (.int (4 : Int32)), .val (.int cd), .val (.ref b12), .val (.int (13 : Int32)), .val (.int rr), .val (.ref ra), .val (.int kk), .val (.int su)] [(.int ((p1 * (4 : Int32)) / (4 : Int32))), (.int (Li.getD ((kk + ((10 : Int32) * su))).toNatClampNeg 0)), (.int (kk + ((10 : Int32) * su))), (.ref b10)])) (fun _ k => st30 _ (XS.imul X30.here hx rfl (hb hby d1_137) rfl (XS.iload X30.here hx rfl (hb hby d1_138) rfl (XS.idiv X30.here hx rfl (hb hby d1_140) rfl (by decide) k)))) ?_
          show Run p e below _ (T30.setTop (mkF m 141 #[.val (.ref a0), .val (.int p1), .val (.int (0 : Int32)), .val (.ref s_MAT), .val (.int (4 : Int32)), .val (.int cd), .val (.ref b12), .val (.int (13 : Int32)), .val (.int rr), .val (.ref ra), .val (.int kk), .val (.int su)] [(.int (own_v p1 (4 : Int32))), (.int (Li.getD ((kk + ((10 : Int32) * su))).toNatClampNeg 0)), (.int (kk + ((10 : Int32) * su))), (.ref b10)]))
          refine Run.st (S' := T30.setTop (mkF m 142 #[.val (.ref a0), .val (.int p1), .val (.int (0 : Int32)), .val (.ref s_MAT), .val (.int (4 : Int32)), .val (.int cd), .val (.ref b12), .val (.int (13 : Int32)), .val (.int rr), .val (.ref ra), .val (.int kk), .val (.int su)] [(.int ((Li.getD ((kk + ((10 : Int32) * su))).toNatClampNeg 0) + (own_v p1 (4 : Int32)))), (.int (kk + ((10 : Int32) * su))), (.ref b10)])) (fun _ k => XS.iadd X30.here hx rfl (hb hby d1_141) rfl k) ?_
          obtain ⟨cl31, Ar31, qa31, Sa31, Na31, Ha31, Ga31⟩ := V_b10
          have hin31 : ¬ ((kk + ((10 : Int32) * su)) < 0 ∨ cl31.slots.size ≤ ((kk + ((10 : Int32) * su))).toNatClampNeg) := inb_of Sa31 (own_idx (n := 4) (show (40 : Int32).toInt = 10 * 4 from by decide) (by decide) hk9 hylI.2.1 hylI.1)
          obtain ⟨T31, h31, X31, e31, W31, st31⟩ := stI X30 hx hZ e30 Ar31 (j := (kk + ((10 : Int32) * su))) hin31 (g := (mkF m 142 #[.val (.ref a0), .val (.int p1), .val (.int (0 : Int32)), .val (.ref s_MAT), .val (.int (4 : Int32)), .val (.int cd), .val (.ref b12), .val (.int (13 : Int32)), .val (.int rr), .val (.ref ra), .val (.int kk), .val (.int su)] [(.int ((Li.getD ((kk + ((10 : Int32) * su))).toNatClampNeg 0) + (own_v p1 (4 : Int32)))), (.int (kk + ((10 : Int32) * su))), (.ref b10)])) rfl rfl (hb hby d1_142)
          have V_b10 := Arv.set Ar31 qa31 Sa31 Na31 Ha31 Ga31 rfl W31 ((kk + ((10 : Int32) * su))).toNatClampNeg rfl (own_pos (show (40 : Int32).toInt = (40 : Nat) from by decide) hylI.2.2.1 (own_idx (n := 4) (show (40 : Int32).toInt = 10 * 4 from by decide) (by decide) hk9 hylI.2.1 hylI.1))
          rw [own_set] at V_b10
          have OL := OL.wr W31 g_b10
          have E_a0 := E_a0.wr W31
          have F_suits := F_suits.other W31 (Or.inl ne_a0_b10)
          have F_full := F_full.other W31 (Or.inl ne_a0_b10)
          have F_left := F_left.other W31 (Or.inl ne_a0_b10)
          have F_ord := F_ord.other W31 (Or.inl ne_a0_b10)
          have F_dr := F_dr.other W31 (Or.inl ne_a0_b10)
          have F_ds := F_ds.other W31 (Or.inl ne_a0_b10)
          have F_sd := F_sd.other W31 (Or.inl ne_a0_b10)
          have F_dt := F_dt.other W31 (Or.inl ne_a0_b10)
          have F_dk := F_dk.other W31 (Or.inl ne_a0_b10)
          have V_b2 := V_b2.other W31 ne_b2_b10
          have V_b5 := V_b5.other W31 ne_b5_b10
          have E_b10 := E_b10.wr W31
          have V_b12 := V_b12.other W31 (Ne.symm ne_b10_b12)
          have E_b12 := E_b12.wr W31
          have N31 := Fr.snoc X31 Nl26 g_b10
          have Kp := Kp.wr W31 (Or.inr sz_b10)
          have Zn := Nat.le_trans Zn (Nat.le_of_eq W31.size.symm)
          refine Run.st (S' := T31.setTop (mkF m 112 #[.val (.ref a0), .val (.int p1), .val (.int (0 : Int32)), .val (.ref s_MAT), .val (.int (4 : Int32)), .val (.int cd), .val (.ref b12), .val (.int (13 : Int32)), .val (.int rr), .val (.ref ra), .val (.int kk), .val (.int (su + (1 : Int32)))] [])) (fun _ k => st31 _ (XS.iinc X31.here hx rfl (hb hby d1_143) rfl (l' := #[.val (.ref a0), .val (.int p1), .val (.int (0 : Int32)), .val (.ref s_MAT), .val (.int (4 : Int32)), .val (.int cd), .val (.ref b12), .val (.int (13 : Int32)), .val (.int rr), .val (.ref ra), .val (.int kk), .val (.int (su + (1 : Int32)))]) rfl (XS.goto X31.here hx rfl (pc0 := 146) (pc' := 112) rfl (hb hby d1_146) (by decide) (by decide) k))) ?_
          exact ihI (su + (1 : Int32)) (Li.set ((kk + ((10 : Int32) * su))).toNatClampNeg ((Li.getD ((kk + ((10 : Int32) * su))).toNatClampNeg 0) + (own_v p1 (4 : Int32)))) _ _ ⟨_, X31, N31, e31⟩ Zn Kp OL E_a0 F_suits F_full F_left F_ord F_dr F_ds F_sd F_dt F_dk V_b2 V_b5 E_b10 V_b10 V_b12 E_b12 ⟨(own_inc hylI.2.1 (by decide) hylI.1).1, (own_inc hylI.2.1 (by decide) hylI.1).2, (by rw [List.length_set]; exact hylI.2.2.1), hylI.2.2.2⟩
      exact LP26 4 (0 : Int32) Lf _ _ ⟨_, X25, N25, e25⟩ Zn Kp OL E_a0 F_suits F_full F_left F_ord F_dr F_ds F_sd F_dt F_dk V_b2 V_b5 E_b10 V_b10 V_b12 E_b12 ⟨by decide, by decide, hylO.2.2.1, (by rw [hkk]; exact hylO.2.2.2.1)⟩
  exact LP14 13 (0 : Int32) (0 : Int32) (.unset) (.unset) (.unset) (List.replicate 40 (0 : Int32)) _ _ ⟨_, X12, N12, rfl⟩ Zn Kp OL E_a0 F_suits F_full F_left F_ord F_dr F_ds F_sd F_dt F_dk V_b2 V_b5 E_b10 V_b10 V_b12 E_b12 ⟨by decide, by decide, by decide, rfl, trivial, trivial, trivial⟩
theorem d14_0 : decode prog_12_method_15_code 0 = .ok (.iload_n 1, 1) := by decide +kernel
theorem d14_1 : decode prog_12_method_15_code 1 = .ok (.bipush 10, 2) := by decide +kernel
theorem d14_3 : decode prog_12_method_15_code 3 = .ok (.idiv, 1) := by decide +kernel
theorem d14_4 : decode prog_12_method_15_code 4 = .ok (.istore_n 2, 1) := by decide +kernel
theorem d14_5 : decode prog_12_method_15_code 5 = .ok (.aload_n 0, 1) := by decide +kernel
theorem d14_6 : decode prog_12_method_15_code 6 = .ok (.getfield 38, 3) := by decide +kernel
theorem d14_9 : decode prog_12_method_15_code 9 = .ok (.getstatic 3, 3) := by decide +kernel
theorem d14_12 : decode prog_12_method_15_code 12 = .ok (.if_acmp .eq 11, 3) := by decide +kernel
theorem d14_23 : decode prog_12_method_15_code 23 = .ok (.iconst 1, 1) := by decide +kernel
theorem d14_24 : decode prog_12_method_15_code 24 = .ok (.istore_n 3, 1) := by decide +kernel
theorem d14_25 : decode prog_12_method_15_code 25 = .ok (.goto 25, 3) := by decide +kernel
theorem d14_50 : decode prog_12_method_15_code 50 = .ok (.iload_n 3, 1) := by decide +kernel
theorem d14_51 : decode prog_12_method_15_code 51 = .ok (.ireturn, 1) := by decide +kernel
theorem ef_StI (m : MethodId) (a0 : Addr) (kd : Int32) : entryFrame m #[(.ref a0), (.int kd)] 4 = mkF m 0 #[.val (.ref a0), .val (.int kd), .unset, .unset] [] := by first | (simp [entryFrame, mkF, argsToLocals, Value.category]; done) | rfl
def FStI (a0 : Addr) (kd : Int32) (u : Addr) (s_MAT : Addr) (sd : Int32) : Int32 := (1 : Int32)
def QStI (Z : State) (a0 : Addr) (kd : Int32) (u : Addr) (s_MAT : Addr) (sd : Int32) (h0 : Heap) (n0 : Nat) (v : Option Value) (h : Heap) (L : List Loc) : Prop := v = some (.int (FStI a0 kd u s_MAT sd)) ∧ Fr n0 L ∧ h = h0
set_option maxRecDepth 65536 in
set_option maxHeartbeats 40000000 in
theorem rmStI (l : Launch) (Z : State) (aV : Array Value) (hw : ∀ d ∈ tables_1, d.before aV Z = true) (ws : List Jvm.Cond) (a0 : Addr) (kd : Int32) (u : Addr) (s_MAT : Addr) (sd : Int32) (h0 : Heap) (n0 : Nat) (Zn : n0 ≤ h0.size) (OL : Old Z n0 h0) (hne : u ≠ s_MAT) (F_suits : Fld Z h0 a0 "com/example/sidewager/sidewager/analysis/Shoe" "suits" "Lcom/example/sidewager/sidewager/analysis/Shoe$Suits;" (.ref u)) (S_IGN : Sta Z Z.heap "com/example/sidewager/sidewager/analysis/Shoe$Suits" "IGNORED" "Lcom/example/sidewager/sidewager/analysis/Shoe$Suits;" (.ref u)) (F_sd : Fld Z h0 a0 "com/example/sidewager/sidewager/analysis/Shoe" "suitsDealt" "I" (.int sd)) (S_SUITS : Sta Z Z.heap "com/example/sidewager/sidewager/analysis/Shoe" "SUITS" "I" (.int (4 : Int32))) :
    MetFree l (⟨"com/example/sidewager/sidewager/analysis/Shoe", "suitsStoodFor", "(I)I"⟩ : MethodName) (head1 (Jvm.Cond.code (⟨"com/example/sidewager/sidewager/analysis/Shoe", "suitsStoodFor", "(I)I"⟩ : MethodName) prog_12_method_15_code 4 (some .int) :: ws) ({ frames := 0, cells := 0, slots := 0, locals := 0 } : Room)) (fun a U => a = #[(.ref a0), (.int kd)] ∧ Z.Warmed39 U.vm ∧ U.heap = h0) (fun _ _ _ _ _ => True) (fun _ U o U' => ∃ v L, o = .returned v ∧ QStI Z a0 kd u s_MAT sd h0 n0 v U'.heap L ∧ FrameEnd U o U' L ({ frames := 0, cells := 0, slots := 0, locals := 0 } : Room).cells ({ frames := 0, cells := 0, slots := 0, locals := 0 } : Room).slots) := by
  refine MetFree.of_bodySF (plainFor_of_name pn_1) hisR ?_
  intro p e s m args below meth c s₁ Bd hml0 hP hK
  obtain ⟨rfl, hZ, hh⟩ := hP
  have hx := Bd.exec
  have hby := Bd.bytes
  have hml : c.maxLocals = 4 := hml0
  have hown : s.vm.findClass "com/example/sidewager/sidewager/analysis/Shoe" = some m.cls := findClass_of_methodNamed Bd.named
  have hnm := (name_of_methodNamed Bd.named Bd.method).1
  have X0 : Stand p l e ({ frames := 0, cells := 0, slots := 0, locals := 0 } : Room) s m #[(.ref a0), (.int kd)] below meth c s₁ [] 0 0 := Stand.of_body Bd
  have e0 : s₁.heap = h0 := by rw [← hh, Bd.state]; rfl
  have N0 := Fr.nil n0
  have Kp := Keep.refl h0 []
  show Run p e below (Ends s (QStI Z a0 kd u s_MAT sd h0 n0) ({ frames := 0, cells := 0, slots := 0, locals := 0 } : Room).cells ({ frames := 0, cells := 0, slots := 0, locals := 0 } : Room).slots) _
  refine Run.st (S' := s₁.setTop (mkF m 0 #[.val (.ref a0), .val (.int kd), .unset, .unset] [])) (fun t k => castTop (ef_StI m a0 kd) k) ?_
  refine Run.st (S' := s₁.setTop (mkF m 6 #[.val (.ref a0), .val (.int kd), .val (.int (kd / (10 : Int32))), .unset] [(.ref a0)])) (fun _ k => XS.iloadN X0.here hx rfl (hb hby d14_0) rfl (XS.bipush X0.here hx rfl (hb hby d14_1) (XS.idiv X0.here hx rfl (hb hby d14_3) rfl (by decide) (XS.istoreN X0.here hx rfl (hb hby d14_4) rfl (l' := #[.val (.ref a0), .val (.int kd), .val (.int (kd / (10 : Int32))), .unset]) rfl (XS.aloadN X0.here hx rfl (hb hby d14_5) rfl rfl k))))) ?_
  obtain ⟨T1, X1, e1, st1⟩ := getF X0 hx hZ hown (host := "") (Or.inl (hwi hw 20 rfl)) Via.refl e0 F_suits (g := (mkF m 6 #[.val (.ref a0), .val (.int kd), .val (.int (kd / (10 : Int32))), .unset] [(.ref a0)])) rfl rfl (hb hby d14_6)
  refine Run.st (S' := T1.setTop (mkF m 9 #[.val (.ref a0), .val (.int kd), .val (.int (kd / (10 : Int32))), .unset] [(.ref u)])) (fun _ k => st1 _ k) ?_
  have u_S_IGN := S_IGN.ext OL.2
  obtain ⟨T2, X2, e2, st2⟩ := getS2 X1 hx hZ hown (host := "") (Or.inl (hwi hw 124 rfl)) Via.refl e1 u_S_IGN (g := (mkF m 9 #[.val (.ref a0), .val (.int kd), .val (.int (kd / (10 : Int32))), .unset] [(.ref u)])) rfl (hb hby d14_9)
  refine Run.st (S' := T2.setTop (mkF m 51 #[.val (.ref a0), .val (.int kd), .val (.int (kd / (10 : Int32))), .val (.int (1 : Int32))] [(.int (1 : Int32))])) (fun _ k => st2 _ (Jvm.RoadKit.acmp (g := (mkF m 12 #[.val (.ref a0), .val (.int kd), .val (.int (kd / (10 : Int32))), .unset] [(.ref u), (.ref u)])) X2 hx rfl rfl rfl (pc0 := 12) (pc' := 23) (same := true) rfl (hb hby d14_12) rfl (decide_eq_true rfl) (by decide) (by decide) (XS.iconst X2.here hx rfl (hb hby d14_23) (XS.istoreN X2.here hx rfl (hb hby d14_24) rfl (l' := #[.val (.ref a0), .val (.int kd), .val (.int (kd / (10 : Int32))), .val (.int (1 : Int32))]) rfl (XS.goto X2.here hx rfl (pc0 := 25) (pc' := 50) rfl (hb hby d14_25) (by decide) (by decide) (XS.iloadN X2.here hx rfl (hb hby d14_50) rfl k)))))) ?_
  refine Run.out X2 hx Bd.notSynchronized Bd.returns rfl (Or.inl ⟨rfl, by simp, _, rfl⟩) (hb hby d14_51) (by decide) (by decide) ?_
  rw [e2]
  exact ⟨rfl, N0, rfl⟩
theorem pd_5 : parseMethodDescriptor "(I)I" = some ⟨[.int], some .int⟩ := by decide +kernel
theorem d13_0 : decode prog_12_method_14_code 0 = .ok (.aload_n 0, 1) := by decide +kernel
theorem d13_1 : decode prog_12_method_14_code 1 = .ok (.getfield 62, 3) := by decide +kernel
theorem d13_4 : decode prog_12_method_14_code 4 = .ok (.iload_n 1, 1) := by decide +kernel
theorem d13_5 : decode prog_12_method_14_code 5 = .ok (.iaload, 1) := by decide +kernel
theorem d13_6 : decode prog_12_method_14_code 6 = .ok (.aload_n 0, 1) := by decide +kernel
theorem d13_7 : decode prog_12_method_14_code 7 = .ok (.iload_n 1, 1) := by decide +kernel
theorem d13_8 : decode prog_12_method_14_code 8 = .ok (.invokevirtual 135, 3) := by decide +kernel
theorem d13_11 : decode prog_12_method_14_code 11 = .ok (.imul, 1) := by decide +kernel
theorem d13_12 : decode prog_12_method_14_code 12 = .ok (.ireturn, 1) := by decide +kernel
theorem ef_WaI (m : MethodId) (a0 : Addr) (kd : Int32) : entryFrame m #[(.ref a0), (.int kd)] 2 = mkF m 0 #[.val (.ref a0), .val (.int kd)] [] := by first | (simp [entryFrame, mkF, argsToLocals, Value.category]; done) | rfl
def FWaI (a0 : Addr) (kd : Int32) (u : Addr) (s_MAT : Addr) (sd : Int32) (aL : Addr) (kL : ClassId) (lf : List Int32) : Int32 := ((lf.getD (kd).toNatClampNeg 0) * (FStI a0 kd u s_MAT sd))
def QWaI (Z : State) (a0 : Addr) (kd : Int32) (u : Addr) (s_MAT : Addr) (sd : Int32) (aL : Addr) (kL : ClassId) (lf : List Int32) (h0 : Heap) (n0 : Nat) (v : Option Value) (h : Heap) (L : List Loc) : Prop := v = some (.int (FWaI a0 kd u s_MAT sd aL kL lf)) ∧ Fr n0 L ∧ h = h0
set_option maxRecDepth 65536 in
set_option maxHeartbeats 40000000 in
theorem rmWaI (l : Launch) (Z : State) (aV : Array Value) (hw : ∀ d ∈ tables_1, d.before aV Z = true) (ws : List Jvm.Cond) (a0 : Addr) (kd : Int32) (u : Addr) (s_MAT : Addr) (sd : Int32) (aL : Addr) (kL : ClassId) (lf : List Int32) (h0 : Heap) (n0 : Nat) (Zn : n0 ≤ h0.size) (OL : Old Z n0 h0) (hne : u ≠ s_MAT) (hkd : 0 ≤ kd.toInt ∧ kd.toInt < 10) (E_a0 : Exa Z h0 a0 "com/example/sidewager/sidewager/analysis/Shoe") (F_suits : Fld Z h0 a0 "com/example/sidewager/sidewager/analysis/Shoe" "suits" "Lcom/example/sidewager/sidewager/analysis/Shoe$Suits;" (.ref u)) (S_IGN : Sta Z Z.heap "com/example/sidewager/sidewager/analysis/Shoe$Suits" "IGNORED" "Lcom/example/sidewager/sidewager/analysis/Shoe$Suits;" (.ref u)) (F_sd : Fld Z h0 a0 "com/example/sidewager/sidewager/analysis/Shoe" "suitsDealt" "I" (.int sd)) (F_left : Fld Z h0 a0 "com/example/sidewager/sidewager/analysis/Shoe" "left" "[I" (.ref aL)) (V_left : Arv Z h0 aL kL .int (10 : Int32) (lf.map Value.int) (.int (0 : Int32))) (S_SUITS : Sta Z Z.heap "com/example/sidewager/sidewager/analysis/Shoe" "SUITS" "I" (.int (4 : Int32))) :
    MetFree l (⟨"com/example/sidewager/sidewager/analysis/Shoe", "ways", "(I)I"⟩ : MethodName) (head1 (Jvm.Cond.code (⟨"com/example/sidewager/sidewager/analysis/Shoe", "ways", "(I)I"⟩ : MethodName) prog_12_method_14_code 2 (some .int) :: ws) ({ frames := 1, cells := 0, slots := 0, locals := 16 } : Room)) (fun a U => a = #[(.ref a0), (.int kd)] ∧ Z.Warmed39 U.vm ∧ U.heap = h0) (fun _ _ _ _ _ => True) (fun _ U o U' => ∃ v L, o = .returned v ∧ QWaI Z a0 kd u s_MAT sd aL kL lf h0 n0 v U'.heap L ∧ FrameEnd U o U' L ({ frames := 1, cells := 0, slots := 0, locals := 16 } : Room).cells ({ frames := 1, cells := 0, slots := 0, locals := 16 } : Room).slots) := by
  refine MetFree.of_bodySF (plainFor_of_name pn_1) hisR ?_
  intro p e s m args below meth c s₁ Bd hml0 hP hK
  obtain ⟨rfl, hZ, hh⟩ := hP
  have hx := Bd.exec
  have hby := Bd.bytes
  have hml : c.maxLocals = 2 := hml0
  have hown : s.vm.findClass "com/example/sidewager/sidewager/analysis/Shoe" = some m.cls := findClass_of_methodNamed Bd.named
  have hnm := (name_of_methodNamed Bd.named Bd.method).1
  have X0 : Stand p l e ({ frames := 1, cells := 0, slots := 0, locals := 16 } : Room) s m #[(.ref a0), (.int kd)] below meth c s₁ [] 0 0 := Stand.of_body Bd
  have e0 : s₁.heap = h0 := by rw [← hh, Bd.state]; rfl
  have N0 := Fr.nil n0
  have Kp := Keep.refl h0 []
  show Run p e below (Ends s (QWaI Z a0 kd u s_MAT sd aL kL lf h0 n0) ({ frames := 1, cells := 0, slots := 0, locals := 16 } : Room).cells ({ frames := 1, cells := 0, slots := 0, locals := 16 } : Room).slots) _
  refine Run.st (S' := s₁.setTop (mkF m 0 #[.val (.ref a0), .val (.int kd)] [])) (fun t k => castTop (ef_WaI m a0 kd) k) ?_
  refine Run.st (S' := s₁.setTop (mkF m 1 #[.val (.ref a0), .val (.int kd)] [(.ref a0)])) (fun _ k => XS.aloadN X0.here hx rfl (hb hby d13_0) rfl rfl k) ?_
  obtain ⟨T1, X1, e1, st1⟩ := getF X0 hx hZ hown (host := "") (Or.inl (hwi hw 77 rfl)) Via.refl e0 F_left (g := (mkF m 1 #[.val (.ref a0), .val (.int kd)] [(.ref a0)])) rfl rfl (hb hby d13_1)
  refine Run.st (S' := T1.setTop (mkF m 5 #[.val (.ref a0), .val (.int kd)] [(.int kd), (.ref aL)])) (fun _ k => st1 _ (XS.iloadN X1.here hx rfl (hb hby d13_4) rfl k)) ?_
  obtain ⟨cl2, Ar2, qa2, Sa2, Na2, Ha2, Ga2⟩ := id V_left
  have hin2 : ¬ (kd < 0 ∨ cl2.slots.size ≤ (kd).toNatClampNeg) := inb_of Sa2 (own_inL (n := 10) (show (10 : Int32).toInt = 10 from by decide) (by decide) hkd)
  have hat2 : cl2.slots[(kd).toNatClampNeg]? = some (.int (lf.getD (kd).toNatClampNeg 0)) := Has.at Ha2 hin2 (own_get _ _)
  refine Run.st (S' := T1.setTop (mkF m 8 #[.val (.ref a0), .val (.int kd)] [(.int kd), (.ref a0), (.int (lf.getD (kd).toNatClampNeg 0))])) (fun _ k => X1.iaload hx (j := kd) (v := (.int (lf.getD (kd).toNatClampNeg 0))) (by rw [e1]; exact Ar2.1) (State.isArrayOf_alike hZ.alike Ar2.2.1) Ar2.2.2 hin2 hat2 (g := (mkF m 5 #[.val (.ref a0), .val (.int kd)] [(.int kd), (.ref aL)])) rfl rfl (hb hby d13_5) _ (XS.aloadN X1.here hx rfl (hb hby d13_6) rfl rfl (XS.iloadN X1.here hx rfl (hb hby d13_7) rfl k))) ?_
  obtain ⟨cq3, q3, q3'⟩ := E_a0.cell
  obtain ⟨_, _, ⟨T3, L3, k3, n3⟩, -, X3, ⟨Lc3, hQ3, l3, y3, z3⟩, st3⟩ := X1.privateBack hx (y := (⟨"com/example/sidewager/sidewager/analysis/Shoe", "suitsStoodFor", "(I)I"⟩ : MethodName)) hown (mvT hZ (hwi hw 120 rfl)) (mvT hZ (hwi hw 121 rfl)) (selSelf (y := (⟨"com/example/sidewager/sidewager/analysis/Shoe", "suitsStoodFor", "(I)I"⟩ : MethodName)) (mvT hZ (hwi hw 2 rfl)) (Cond.privateMethod_at (mvP hZ (hwi hw 122 rfl) (args := #[]))) (mvT hZ (hwi hw 121 rfl)) (by decide)) (Cond.privateMethod_at (mvP hZ (hwi hw 122 rfl) (args := #[]))) (mvT hZ (hwi hw 123 rfl)) (by decide) (backOf (W := 1) (rmStI l Z aV hw [] a0 kd u s_MAT sd h0 n0 Zn OL hne F_suits S_IGN F_sd S_SUITS) hZ (hwi hw 123 rfl) (hwi hw 3 rfl) (by decide) (by decide)) (g := (mkF m 8 #[.val (.ref a0), .val (.int kd)] [(.int kd), (.ref a0), (.int (lf.getD (kd).toNatClampNeg 0))])) rfl (by rw [hml]; rfl) (Steps.refl _) (a := a0) (by rw [e1]; exact q3) q3' (argsL := [(.int kd)]) (rest := [(.int (lf.getD (kd).toNatClampNeg 0))]) (lenOf pd_5 rfl) rfl (by show 2 * 0 + _ ≤ _; exact Nat.le_of_eq rfl) (hb hby d13_8) (fun _ _ => ⟨rfl, e1, (by decide : 0 + 0 ≤ _), (by decide : 0 + 0 ≤ _)⟩)
  dsimp only [Pt.U, Pt.locs, Pt.cells, Pt.slots] at X3 l3 y3 z3 st3 hQ3
  replace l3 := l3.symm; replace y3 := y3.symm; replace z3 := z3.symm; subst l3 y3 z3
  obtain ⟨rfl, N3q, e3⟩ := hQ3
  have N3 := Fr.app N0 N3q
  refine Run.st (S' := T3.setTop (mkF m 12 #[.val (.ref a0), .val (.int kd)] [(.int ((lf.getD (kd).toNatClampNeg 0) * (FStI a0 kd u s_MAT sd)))])) (fun _ k => st3.trans (XS.imul X3.here hx rfl (hb hby d13_11) rfl k)) ?_
  refine Run.out X3 hx Bd.notSynchronized Bd.returns rfl (Or.inl ⟨rfl, by simp, _, rfl⟩) (hb hby d13_12) (by decide) (by decide) ?_
  rw [e3]
  exact ⟨rfl, N3, rfl⟩
theorem d14_15 : decode prog_12_method_15_code 15 = .ok (.iload_n 2, 1) := by decide +kernel
theorem d14_16 : decode prog_12_method_15_code 16 = .ok (.aload_n 0, 1) := by decide +kernel
theorem d14_17 : decode prog_12_method_15_code 17 = .ok (.getfield 139, 3) := by decide +kernel
theorem d14_20 : decode prog_12_method_15_code 20 = .ok (.if_icmp .ge 8, 3) := by decide +kernel
theorem d14_28 : decode prog_12_method_15_code 28 = .ok (.iload_n 2, 1) := by decide +kernel
theorem d14_29 : decode prog_12_method_15_code 29 = .ok (.aload_n 0, 1) := by decide +kernel
theorem d14_30 : decode prog_12_method_15_code 30 = .ok (.getfield 139, 3) := by decide +kernel
theorem d14_33 : decode prog_12_method_15_code 33 = .ok (.if_icmp .ne 15, 3) := by decide +kernel
theorem d14_36 : decode prog_12_method_15_code 36 = .ok (.getstatic 22, 3) := by decide +kernel
theorem d14_39 : decode prog_12_method_15_code 39 = .ok (.aload_n 0, 1) := by decide +kernel
theorem d14_40 : decode prog_12_method_15_code 40 = .ok (.getfield 139, 3) := by decide +kernel
theorem d14_43 : decode prog_12_method_15_code 43 = .ok (.isub, 1) := by decide +kernel
theorem d14_44 : decode prog_12_method_15_code 44 = .ok (.istore_n 3, 1) := by decide +kernel
theorem d14_45 : decode prog_12_method_15_code 45 = .ok (.goto 5, 3) := by decide +kernel
theorem d14_48 : decode prog_12_method_15_code 48 = .ok (.iconst 0, 1) := by decide +kernel
theorem d14_49 : decode prog_12_method_15_code 49 = .ok (.istore_n 3, 1) := by decide +kernel
theorem ef_StM (m : MethodId) (a0 : Addr) (kd : Int32) : entryFrame m #[(.ref a0), (.int kd)] 4 = mkF m 0 #[.val (.ref a0), .val (.int kd), .unset, .unset] [] := by first | (simp [entryFrame, mkF, argsToLocals, Value.category]; done) | rfl
def FStM (a0 : Addr) (kd : Int32) (u : Addr) (s_MAT : Addr) (sd : Int32) : Int32 := (if (kd / (10 : Int32)) < sd then (1 : Int32) else (if (kd / (10 : Int32)) = sd then ((4 : Int32) - sd) else (0 : Int32)))
def QStM (Z : State) (a0 : Addr) (kd : Int32) (u : Addr) (s_MAT : Addr) (sd : Int32) (h0 : Heap) (n0 : Nat) (v : Option Value) (h : Heap) (L : List Loc) : Prop := v = some (.int (FStM a0 kd u s_MAT sd)) ∧ Fr n0 L ∧ h = h0
set_option maxRecDepth 65536 in
set_option maxHeartbeats 40000000 in
theorem rmStM (l : Launch) (Z : State) (aV : Array Value) (hw : ∀ d ∈ tables_1, d.before aV Z = true) (ws : List Jvm.Cond) (a0 : Addr) (kd : Int32) (u : Addr) (s_MAT : Addr) (sd : Int32) (h0 : Heap) (n0 : Nat) (Zn : n0 ≤ h0.size) (OL : Old Z n0 h0) (hne : u ≠ s_MAT) (F_suits : Fld Z h0 a0 "com/example/sidewager/sidewager/analysis/Shoe" "suits" "Lcom/example/sidewager/sidewager/analysis/Shoe$Suits;" (.ref s_MAT)) (S_IGN : Sta Z Z.heap "com/example/sidewager/sidewager/analysis/Shoe$Suits" "IGNORED" "Lcom/example/sidewager/sidewager/analysis/Shoe$Suits;" (.ref u)) (F_sd : Fld Z h0 a0 "com/example/sidewager/sidewager/analysis/Shoe" "suitsDealt" "I" (.int sd)) (S_SUITS : Sta Z Z.heap "com/example/sidewager/sidewager/analysis/Shoe" "SUITS" "I" (.int (4 : Int32))) :
    MetFree l (⟨"com/example/sidewager/sidewager/analysis/Shoe", "suitsStoodFor", "(I)I"⟩ : MethodName) (head1 (Jvm.Cond.code (⟨"com/example/sidewager/sidewager/analysis/Shoe", "suitsStoodFor", "(I)I"⟩ : MethodName) prog_12_method_15_code 4 (some .int) :: ws) ({ frames := 0, cells := 0, slots := 0, locals := 0 } : Room)) (fun a U => a = #[(.ref a0), (.int kd)] ∧ Z.Warmed39 U.vm ∧ U.heap = h0) (fun _ _ _ _ _ => True) (fun _ U o U' => ∃ v L, o = .returned v ∧ QStM Z a0 kd u s_MAT sd h0 n0 v U'.heap L ∧ FrameEnd U o U' L ({ frames := 0, cells := 0, slots := 0, locals := 0 } : Room).cells ({ frames := 0, cells := 0, slots := 0, locals := 0 } : Room).slots) := by
  refine MetFree.of_bodySF (plainFor_of_name pn_1) hisR ?_
  intro p e s m args below meth c s₁ Bd hml0 hP hK
  obtain ⟨rfl, hZ, hh⟩ := hP
  have hx := Bd.exec
  have hby := Bd.bytes
  have hml : c.maxLocals = 4 := hml0
  have hown : s.vm.findClass "com/example/sidewager/sidewager/analysis/Shoe" = some m.cls := findClass_of_methodNamed Bd.named
  have hnm := (name_of_methodNamed Bd.named Bd.method).1
  have X0 : Stand p l e ({ frames := 0, cells := 0, slots := 0, locals := 0 } : Room) s m #[(.ref a0), (.int kd)] below meth c s₁ [] 0 0 := Stand.of_body Bd
  have e0 : s₁.heap = h0 := by rw [← hh, Bd.state]; rfl
  have N0 := Fr.nil n0
  have Kp := Keep.refl h0 []
  show Run p e below (Ends s (QStM Z a0 kd u s_MAT sd h0 n0) ({ frames := 0, cells := 0, slots := 0, locals := 0 } : Room).cells ({ frames := 0, cells := 0, slots := 0, locals := 0 } : Room).slots) _
  refine Run.st (S' := s₁.setTop (mkF m 0 #[.val (.ref a0), .val (.int kd), .unset, .unset] [])) (fun t k => castTop (ef_StM m a0 kd) k) ?_
  refine Run.st (S' := s₁.setTop (mkF m 6 #[.val (.ref a0), .val (.int kd), .val (.int (kd / (10 : Int32))), .unset] [(.ref a0)])) (fun _ k => XS.iloadN X0.here hx rfl (hb hby d14_0) rfl (XS.bipush X0.here hx rfl (hb hby d14_1) (XS.idiv X0.here hx rfl (hb hby d14_3) rfl (by decide) (XS.istoreN X0.here hx rfl (hb hby d14_4) rfl (l' := #[.val (.ref a0), .val (.int kd), .val (.int (kd / (10 : Int32))), .unset]) rfl (XS.aloadN X0.here hx rfl (hb hby d14_5) rfl rfl k))))) ?_
  obtain ⟨T1, X1, e1, st1⟩ := getF X0 hx hZ hown (host := "") (Or.inl (hwi hw 20 rfl)) Via.refl e0 F_suits (g := (mkF m 6 #[.val (.ref a0), .val (.int kd), .val (.int (kd / (10 : Int32))), .unset] [(.ref a0)])) rfl rfl (hb hby d14_6)
  refine Run.st (S' := T1.setTop (mkF m 9 #[.val (.ref a0), .val (.int kd), .val (.int (kd / (10 : Int32))), .unset] [(.ref s_MAT)])) (fun _ k => st1 _ k) ?_
  have u_S_IGN := S_IGN.ext OL.2
  obtain ⟨T2, X2, e2, st2⟩ := getS2 X1 hx hZ hown (host := "") (Or.inl (hwi hw 124 rfl)) Via.refl e1 u_S_IGN (g := (mkF m 9 #[.val (.ref a0), .val (.int kd), .val (.int (kd / (10 : Int32))), .unset] [(.ref s_MAT)])) rfl (hb hby d14_9)
  refine Run.st (S' := T2.setTop (mkF m 17 #[.val (.ref a0), .val (.int kd), .val (.int (kd / (10 : Int32))), .unset] [(.ref a0), (.int (kd / (10 : Int32)))])) (fun _ k => st2 _ (Jvm.RoadKit.acmp (g := (mkF m 12 #[.val (.ref a0), .val (.int kd), .val (.int (kd / (10 : Int32))), .unset] [(.ref u), (.ref s_MAT)])) X2 hx rfl rfl rfl (pc0 := 12) (pc' := 15) (same := false) rfl (hb hby d14_12) rfl (decide_eq_false fun q => (Ne.symm hne) (Value.ref.inj q)) (by decide) (by decide) (XS.iloadN X2.here hx rfl (hb hby d14_15) rfl (XS.aloadN X2.here hx rfl (hb hby d14_16) rfl rfl k)))) ?_
  obtain ⟨T3, X3, e3, st3⟩ := getF X2 hx hZ hown (host := "") (Or.inl (hwi hw 130 rfl)) Via.refl e2 F_sd (g := (mkF m 17 #[.val (.ref a0), .val (.int kd), .val (.int (kd / (10 : Int32))), .unset] [(.ref a0), (.int (kd / (10 : Int32)))])) rfl rfl (hb hby d14_17)
  refine Run.st (S' := T3.setTop (mkF m 20 #[.val (.ref a0), .val (.int kd), .val (.int (kd / (10 : Int32))), .unset] [(.int sd), (.int (kd / (10 : Int32)))])) (fun _ k => st3 _ k) ?_
  by_cases hc20_4 : (kd / (10 : Int32)) < sd
  · refine Run.st (S' := T3.setTop (mkF m 51 #[.val (.ref a0), .val (.int kd), .val (.int (kd / (10 : Int32))), .val (.int (1 : Int32))] [(.int (1 : Int32))])) (fun _ k => XS.icmpNo X3.here hx rfl (hb hby d14_20) rfl (tlt hc20_4).2.1 (XS.iconst X3.here hx rfl (hb hby d14_23) (XS.istoreN X3.here hx rfl (hb hby d14_24) rfl (l' := #[.val (.ref a0), .val (.int kd), .val (.int (kd / (10 : Int32))), .val (.int (1 : Int32))]) rfl (XS.goto X3.here hx rfl (pc0 := 25) (pc' := 50) rfl (hb hby d14_25) (by decide) (by decide) (XS.iloadN X3.here hx rfl (hb hby d14_50) rfl k))))) ?_
    refine Run.out X3 hx Bd.notSynchronized Bd.returns rfl (Or.inl ⟨rfl, by simp, _, rfl⟩) (hb hby d14_51) (by decide) (by decide) ?_
    rw [e3]
    exact ⟨by rw [FStM, if_pos hc20_4], N0, rfl⟩
  · refine Run.st (S' := T3.setTop (mkF m 30 #[.val (.ref a0), .val (.int kd), .val (.int (kd / (10 : Int32))), .unset] [(.ref a0), (.int (kd / (10 : Int32)))])) (fun _ k => XS.icmpYes X3.here hx rfl (pc0 := 20) (pc' := 28) rfl (hb hby d14_20) rfl (flt hc20_4).2.1 (by decide) (by decide) (XS.iloadN X3.here hx rfl (hb hby d14_28) rfl (XS.aloadN X3.here hx rfl (hb hby d14_29) rfl rfl k))) ?_
    obtain ⟨T5, X5, e5, st5⟩ := getF X3 hx hZ hown (host := "") (Or.inl (hwi hw 130 rfl)) Via.refl e3 F_sd (g := (mkF m 30 #[.val (.ref a0), .val (.int kd), .val (.int (kd / (10 : Int32))), .unset] [(.ref a0), (.int (kd / (10 : Int32)))])) rfl rfl (hb hby d14_30)
    refine Run.st (S' := T5.setTop (mkF m 33 #[.val (.ref a0), .val (.int kd), .val (.int (kd / (10 : Int32))), .unset] [(.int sd), (.int (kd / (10 : Int32)))])) (fun _ k => st5 _ k) ?_
    by_cases hc33_6 : (kd / (10 : Int32)) = sd
    · refine Run.st (S' := T5.setTop (mkF m 36 #[.val (.ref a0), .val (.int kd), .val (.int (kd / (10 : Int32))), .unset] [])) (fun _ k => XS.icmpNo X5.here hx rfl (hb hby d14_33) rfl (teq hc33_6).2 k) ?_
      have u_S_SUITS := S_SUITS.ext OL.2
      obtain ⟨T7, X7, e7, st7⟩ := getS2 X5 hx hZ hown (host := "") (Or.inl (hwi hw 16 rfl)) Via.refl e5 u_S_SUITS (g := (mkF m 36 #[.val (.ref a0), .val (.int kd), .val (.int (kd / (10 : Int32))), .unset] [])) rfl (hb hby d14_36)
      refine Run.st (S' := T7.setTop (mkF m 40 #[.val (.ref a0), .val (.int kd), .val (.int (kd / (10 : Int32))), .unset] [(.ref a0), (.int (4 : Int32))])) (fun _ k => st7 _ (XS.aloadN X7.here hx rfl (hb hby d14_39) rfl rfl k)) ?_
      obtain ⟨T8, X8, e8, st8⟩ := getF X7 hx hZ hown (host := "") (Or.inl (hwi hw 130 rfl)) Via.refl e7 F_sd (g := (mkF m 40 #[.val (.ref a0), .val (.int kd), .val (.int (kd / (10 : Int32))), .unset] [(.ref a0), (.int (4 : Int32))])) rfl rfl (hb hby d14_40)
      refine Run.st (S' := T8.setTop (mkF m 51 #[.val (.ref a0), .val (.int kd), .val (.int (kd / (10 : Int32))), .val (.int ((4 : Int32) - sd))] [(.int ((4 : Int32) - sd))])) (fun _ k => st8 _ (XS.isub X8.here hx rfl (hb hby d14_43) rfl (XS.istoreN X8.here hx rfl (hb hby d14_44) rfl (l' := #[.val (.ref a0), .val (.int kd), .val (.int (kd / (10 : Int32))), .val (.int ((4 : Int32) - sd))]) rfl (XS.goto X8.here hx rfl (pc0 := 45) (pc' := 50) rfl (hb hby d14_45) (by decide) (by decide) (XS.iloadN X8.here hx rfl (hb hby d14_50) rfl k))))) ?_
      refine Run.out X8 hx Bd.notSynchronized Bd.returns rfl (Or.inl ⟨rfl, by simp, _, rfl⟩) (hb hby d14_51) (by decide) (by decide) ?_
      rw [e8]
      exact ⟨by rw [FStM, if_neg hc20_4, if_pos hc33_6], N0, rfl⟩
    · refine Run.st (S' := T5.setTop (mkF m 51 #[.val (.ref a0), .val (.int kd), .val (.int (kd / (10 : Int32))), .val (.int (0 : Int32))] [(.int (0 : Int32))])) (fun _ k => XS.icmpYes X5.here hx rfl (pc0 := 33) (pc' := 48) rfl (hb hby d14_33) rfl (feq hc33_6).2 (by decide) (by decide) (XS.iconst X5.here hx rfl (hb hby d14_48) (XS.istoreN X5.here hx rfl (hb hby d14_49) rfl (l' := #[.val (.ref a0), .val (.int kd), .val (.int (kd / (10 : Int32))), .val (.int (0 : Int32))]) rfl (XS.iloadN X5.here hx rfl (hb hby d14_50) rfl k)))) ?_
      refine Run.out X5 hx Bd.notSynchronized Bd.returns rfl (Or.inl ⟨rfl, by simp, _, rfl⟩) (hb hby d14_51) (by decide) (by decide) ?_
      rw [e5]
      exact ⟨by rw [FStM, if_neg hc20_4, if_neg hc33_6], N0, rfl⟩
theorem ef_WaM (m : MethodId) (a0 : Addr) (kd : Int32) : entryFrame m #[(.ref a0), (.int kd)] 2 = mkF m 0 #[.val (.ref a0), .val (.int kd)] [] := by first | (simp [entryFrame, mkF, argsToLocals, Value.category]; done) | rfl
def FWaM (a0 : Addr) (kd : Int32) (u : Addr) (s_MAT : Addr) (sd : Int32) (aL : Addr) (kL : ClassId) (lf : List Int32) : Int32 := ((lf.getD (kd).toNatClampNeg 0) * (FStM a0 kd u s_MAT sd))
def QWaM (Z : State) (a0 : Addr) (kd : Int32) (u : Addr) (s_MAT : Addr) (sd : Int32) (aL : Addr) (kL : ClassId) (lf : List Int32) (h0 : Heap) (n0 : Nat) (v : Option Value) (h : Heap) (L : List Loc) : Prop := v = some (.int (FWaM a0 kd u s_MAT sd aL kL lf)) ∧ Fr n0 L ∧ h = h0
set_option maxRecDepth 65536 in
set_option maxHeartbeats 40000000 in
theorem rmWaM (l : Launch) (Z : State) (aV : Array Value) (hw : ∀ d ∈ tables_1, d.before aV Z = true) (ws : List Jvm.Cond) (a0 : Addr) (kd : Int32) (u : Addr) (s_MAT : Addr) (sd : Int32) (aL : Addr) (kL : ClassId) (lf : List Int32) (h0 : Heap) (n0 : Nat) (Zn : n0 ≤ h0.size) (OL : Old Z n0 h0) (hne : u ≠ s_MAT) (hkd : 0 ≤ kd.toInt ∧ kd.toInt < 10) (E_a0 : Exa Z h0 a0 "com/example/sidewager/sidewager/analysis/Shoe") (F_suits : Fld Z h0 a0 "com/example/sidewager/sidewager/analysis/Shoe" "suits" "Lcom/example/sidewager/sidewager/analysis/Shoe$Suits;" (.ref s_MAT)) (S_IGN : Sta Z Z.heap "com/example/sidewager/sidewager/analysis/Shoe$Suits" "IGNORED" "Lcom/example/sidewager/sidewager/analysis/Shoe$Suits;" (.ref u)) (F_sd : Fld Z h0 a0 "com/example/sidewager/sidewager/analysis/Shoe" "suitsDealt" "I" (.int sd)) (F_left : Fld Z h0 a0 "com/example/sidewager/sidewager/analysis/Shoe" "left" "[I" (.ref aL)) (V_left : Arv Z h0 aL kL .int (40 : Int32) (lf.map Value.int) (.int (0 : Int32))) (S_SUITS : Sta Z Z.heap "com/example/sidewager/sidewager/analysis/Shoe" "SUITS" "I" (.int (4 : Int32))) :
    MetFree l (⟨"com/example/sidewager/sidewager/analysis/Shoe", "ways", "(I)I"⟩ : MethodName) (head1 (Jvm.Cond.code (⟨"com/example/sidewager/sidewager/analysis/Shoe", "ways", "(I)I"⟩ : MethodName) prog_12_method_14_code 2 (some .int) :: ws) ({ frames := 1, cells := 0, slots := 0, locals := 16 } : Room)) (fun a U => a = #[(.ref a0), (.int kd)] ∧ Z.Warmed39 U.vm ∧ U.heap = h0) (fun _ _ _ _ _ => True) (fun _ U o U' => ∃ v L, o = .returned v ∧ QWaM Z a0 kd u s_MAT sd aL kL lf h0 n0 v U'.heap L ∧ FrameEnd U o U' L ({ frames := 1, cells := 0, slots := 0, locals := 16 } : Room).cells ({ frames := 1, cells := 0, slots := 0, locals := 16 } : Room).slots) := by
  refine MetFree.of_bodySF (plainFor_of_name pn_1) hisR ?_
  intro p e s m args below meth c s₁ Bd hml0 hP hK
  obtain ⟨rfl, hZ, hh⟩ := hP
  have hx := Bd.exec
  have hby := Bd.bytes
  have hml : c.maxLocals = 2 := hml0
  have hown : s.vm.findClass "com/example/sidewager/sidewager/analysis/Shoe" = some m.cls := findClass_of_methodNamed Bd.named
  have hnm := (name_of_methodNamed Bd.named Bd.method).1
  have X0 : Stand p l e ({ frames := 1, cells := 0, slots := 0, locals := 16 } : Room) s m #[(.ref a0), (.int kd)] below meth c s₁ [] 0 0 := Stand.of_body Bd
  have e0 : s₁.heap = h0 := by rw [← hh, Bd.state]; rfl
  have N0 := Fr.nil n0
  have Kp := Keep.refl h0 []
  show Run p e below (Ends s (QWaM Z a0 kd u s_MAT sd aL kL lf h0 n0) ({ frames := 1, cells := 0, slots := 0, locals := 16 } : Room).cells ({ frames := 1, cells := 0, slots := 0, locals := 16 } : Room).slots) _
  refine Run.st (S' := s₁.setTop (mkF m 0 #[.val (.ref a0), .val (.int kd)] [])) (fun t k => castTop (ef_WaM m a0 kd) k) ?_
  refine Run.st (S' := s₁.setTop (mkF m 1 #[.val (.ref a0), .val (.int kd)] [(.ref a0)])) (fun _ k => XS.aloadN X0.here hx rfl (hb hby d13_0) rfl rfl k) ?_
  obtain ⟨T1, X1, e1, st1⟩ := getF X0 hx hZ hown (host := "") (Or.inl (hwi hw 77 rfl)) Via.refl e0 F_left (g := (mkF m 1 #[.val (.ref a0), .val (.int kd)] [(.ref a0)])) rfl rfl (hb hby d13_1)
  refine Run.st (S' := T1.setTop (mkF m 5 #[.val (.ref a0), .val (.int kd)] [(.int kd), (.ref aL)])) (fun _ k => st1 _ (XS.iloadN X1.here hx rfl (hb hby d13_4) rfl k)) ?_
  obtain ⟨cl2, Ar2, qa2, Sa2, Na2, Ha2, Ga2⟩ := id V_left
  have hin2 : ¬ (kd < 0 ∨ cl2.slots.size ≤ (kd).toNatClampNeg) := inb_of Sa2 (own_inL (n := 40) (show (40 : Int32).toInt = 40 from by decide) (by decide) hkd)
  have hat2 : cl2.slots[(kd).toNatClampNeg]? = some (.int (lf.getD (kd).toNatClampNeg 0)) := Has.at Ha2 hin2 (own_get _ _)
  refine Run.st (S' := T1.setTop (mkF m 8 #[.val (.ref a0), .val (.int kd)] [(.int kd), (.ref a0), (.int (lf.getD (kd).toNatClampNeg 0))])) (fun _ k => X1.iaload hx (j := kd) (v := (.int (lf.getD (kd).toNatClampNeg 0))) (by rw [e1]; exact Ar2.1) (State.isArrayOf_alike hZ.alike Ar2.2.1) Ar2.2.2 hin2 hat2 (g := (mkF m 5 #[.val (.ref a0), .val (.int kd)] [(.int kd), (.ref aL)])) rfl rfl (hb hby d13_5) _ (XS.aloadN X1.here hx rfl (hb hby d13_6) rfl rfl (XS.iloadN X1.here hx rfl (hb hby d13_7) rfl k))) ?_
  obtain ⟨cq3, q3, q3'⟩ := E_a0.cell
  obtain ⟨_, _, ⟨T3, L3, k3, n3⟩, -, X3, ⟨Lc3, hQ3, l3, y3, z3⟩, st3⟩ := X1.privateBack hx (y := (⟨"com/example/sidewager/sidewager/analysis/Shoe", "suitsStoodFor", "(I)I"⟩ : MethodName)) hown (mvT hZ (hwi hw 120 rfl)) (mvT hZ (hwi hw 121 rfl)) (selSelf (y := (⟨"com/example/sidewager/sidewager/analysis/Shoe", "suitsStoodFor", "(I)I"⟩ : MethodName)) (mvT hZ (hwi hw 2 rfl)) (Cond.privateMethod_at (mvP hZ (hwi hw 122 rfl) (args := #[]))) (mvT hZ (hwi hw 121 rfl)) (by decide)) (Cond.privateMethod_at (mvP hZ (hwi hw 122 rfl) (args := #[]))) (mvT hZ (hwi hw 123 rfl)) (by decide) (backOf (W := 1) (rmStM l Z aV hw [] a0 kd u s_MAT sd h0 n0 Zn OL hne F_suits S_IGN F_sd S_SUITS) hZ (hwi hw 123 rfl) (hwi hw 3 rfl) (by decide) (by decide)) (g := (mkF m 8 #[.val (.ref a0), .val (.int kd)] [(.int kd), (.ref a0), (.int (lf.getD (kd).toNatClampNeg 0))])) rfl (by rw [hml]; rfl) (Steps.refl _) (a := a0) (by rw [e1]; exact q3) q3' (argsL := [(.int kd)]) (rest := [(.int (lf.getD (kd).toNatClampNeg 0))]) (lenOf pd_5 rfl) rfl (by show 2 * 0 + _ ≤ _; exact Nat.le_of_eq rfl) (hb hby d13_8) (fun _ _ => ⟨rfl, e1, (by decide : 0 + 0 ≤ _), (by decide : 0 + 0 ≤ _)⟩)
  dsimp only [Pt.U, Pt.locs, Pt.cells, Pt.slots] at X3 l3 y3 z3 st3 hQ3
  replace l3 := l3.symm; replace y3 := y3.symm; replace z3 := z3.symm; subst l3 y3 z3
  obtain ⟨rfl, N3q, e3⟩ := hQ3
  have N3 := Fr.app N0 N3q
  refine Run.st (S' := T3.setTop (mkF m 12 #[.val (.ref a0), .val (.int kd)] [(.int ((lf.getD (kd).toNatClampNeg 0) * (FStM a0 kd u s_MAT sd)))])) (fun _ k => st3.trans (XS.imul X3.here hx rfl (hb hby d13_11) rfl k)) ?_
  refine Run.out X3 hx Bd.notSynchronized Bd.returns rfl (Or.inl ⟨rfl, by simp, _, rfl⟩) (hb hby d13_12) (by decide) (by decide) ?_
  rw [e3]
  exact ⟨rfl, N3, rfl⟩
theorem pd_6 : parseMethodDescriptor "(I)J" = some ⟨[.int], some .long⟩ := by decide +kernel
theorem d12_0 : decode prog_12_method_17_code 0 = .ok (.aload_n 0, 1) := by decide +kernel
theorem d12_1 : decode prog_12_method_17_code 1 = .ok (.iload_n 1, 1) := by decide +kernel
theorem d12_2 : decode prog_12_method_17_code 2 = .ok (.invokevirtual 142, 3) := by decide +kernel
theorem d12_5 : decode prog_12_method_17_code 5 = .ok (.ifCond .ne 47, 3) := by decide +kernel
theorem d12_52 : decode prog_12_method_17_code 52 = .ok (.iload_n 1, 1) := by decide +kernel
theorem d12_53 : decode prog_12_method_17_code 53 = .ok (.bipush 10, 2) := by decide +kernel
theorem d12_55 : decode prog_12_method_17_code 55 = .ok (.irem, 1) := by decide +kernel
theorem d12_56 : decode prog_12_method_17_code 56 = .ok (.istore_n 2, 1) := by decide +kernel
theorem d12_57 : decode prog_12_method_17_code 57 = .ok (.aload_n 0, 1) := by decide +kernel
theorem d12_58 : decode prog_12_method_17_code 58 = .ok (.getfield 18, 3) := by decide +kernel
theorem d12_61 : decode prog_12_method_17_code 61 = .ok (.iload_n 2, 1) := by decide +kernel
theorem d12_62 : decode prog_12_method_17_code 62 = .ok (.iaload, 1) := by decide +kernel
theorem d12_63 : decode prog_12_method_17_code 63 = .ok (.bipush 31, 2) := by decide +kernel
theorem d12_65 : decode prog_12_method_17_code 65 = .ok (.if_icmp .ne 23, 3) := by decide +kernel
theorem d12_88 : decode prog_12_method_17_code 88 = .ok (.aload_n 0, 1) := by decide +kernel
theorem d12_89 : decode prog_12_method_17_code 89 = .ok (.getfield 62, 3) := by decide +kernel
theorem d12_92 : decode prog_12_method_17_code 92 = .ok (.iload_n 1, 1) := by decide +kernel
theorem d12_93 : decode prog_12_method_17_code 93 = .ok (.dup2, 1) := by decide +kernel
theorem d12_94 : decode prog_12_method_17_code 94 = .ok (.iaload, 1) := by decide +kernel
theorem d12_95 : decode prog_12_method_17_code 95 = .ok (.iconst 1, 1) := by decide +kernel
theorem d12_96 : decode prog_12_method_17_code 96 = .ok (.isub, 1) := by decide +kernel
theorem d12_97 : decode prog_12_method_17_code 97 = .ok (.iastore, 1) := by decide +kernel
theorem d12_98 : decode prog_12_method_17_code 98 = .ok (.aload_n 0, 1) := by decide +kernel
theorem d12_99 : decode prog_12_method_17_code 99 = .ok (.getfield 18, 3) := by decide +kernel
theorem d12_102 : decode prog_12_method_17_code 102 = .ok (.iload_n 2, 1) := by decide +kernel
theorem d12_103 : decode prog_12_method_17_code 103 = .ok (.dup2, 1) := by decide +kernel
theorem d12_104 : decode prog_12_method_17_code 104 = .ok (.iaload, 1) := by decide +kernel
theorem d12_105 : decode prog_12_method_17_code 105 = .ok (.iconst 1, 1) := by decide +kernel
theorem d12_106 : decode prog_12_method_17_code 106 = .ok (.iadd, 1) := by decide +kernel
theorem d12_107 : decode prog_12_method_17_code 107 = .ok (.iastore, 1) := by decide +kernel
theorem d12_108 : decode prog_12_method_17_code 108 = .ok (.aload_n 0, 1) := by decide +kernel
theorem d12_109 : decode prog_12_method_17_code 109 = .ok (.getfield 38, 3) := by decide +kernel
theorem d12_112 : decode prog_12_method_17_code 112 = .ok (.getstatic 41, 3) := by decide +kernel
theorem d12_115 : decode prog_12_method_17_code 115 = .ok (.if_acmp .ne 30, 3) := by decide +kernel
theorem d12_145 : decode prog_12_method_17_code 145 = .ok (.aload_n 0, 1) := by decide +kernel
theorem d12_146 : decode prog_12_method_17_code 146 = .ok (.dup, 1) := by decide +kernel
theorem d12_147 : decode prog_12_method_17_code 147 = .ok (.getfield 101, 3) := by decide +kernel
theorem d12_150 : decode prog_12_method_17_code 150 = .ok (.iconst 1, 1) := by decide +kernel
theorem d12_151 : decode prog_12_method_17_code 151 = .ok (.iadd, 1) := by decide +kernel
theorem d12_152 : decode prog_12_method_17_code 152 = .ok (.putfield 101, 3) := by decide +kernel
theorem d12_155 : decode prog_12_method_17_code 155 = .ok (.aload_n 0, 1) := by decide +kernel
theorem d12_156 : decode prog_12_method_17_code 156 = .ok (.dup, 1) := by decide +kernel
theorem d12_157 : decode prog_12_method_17_code 157 = .ok (.getfield 164, 3) := by decide +kernel
theorem d12_160 : decode prog_12_method_17_code 160 = .ok (.iload_n 2, 1) := by decide +kernel
theorem d12_161 : decode prog_12_method_17_code 161 = .ok (.invokestatic 168, 3) := by decide +kernel
theorem d12_164 : decode prog_12_method_17_code 164 = .ok (.ladd, 1) := by decide +kernel
theorem d12_165 : decode prog_12_method_17_code 165 = .ok (.putfield 164, 3) := by decide +kernel
theorem d12_168 : decode prog_12_method_17_code 168 = .ok (.return_, 1) := by decide +kernel
theorem ef_DlI (m : MethodId) (a0 : Addr) (kd : Int32) : entryFrame m #[(.ref a0), (.int kd)] 3 = mkF m 0 #[.val (.ref a0), .val (.int kd), .unset] [] := by first | (simp [entryFrame, mkF, argsToLocals, Value.category]; done) | rfl
def QDlI (Z : State) (a0 : Addr) (kd : Int32) (u : Addr) (s_MAT : Addr) (aL : Addr) (kL : ClassId) (lf : List Int32) (aR : Addr) (kR : ClassId) (dr : List Int32) (aS : Addr) (kS : ClassId) (ds : List Int32) (dt : Int32) (dk : Int64) (h0 : Heap) (n0 : Nat) (v : Option Value) (h : Heap) (L : List Loc) : Prop := v = none ∧ Fr n0 L ∧ Keep h0 h [a0, aL, aR] ∧ Exa Z h a0 "com/example/sidewager/sidewager/analysis/Shoe" ∧ Fld Z h a0 "com/example/sidewager/sidewager/analysis/Shoe" "suits" "Lcom/example/sidewager/sidewager/analysis/Shoe$Suits;" (.ref u) ∧ Fld Z h a0 "com/example/sidewager/sidewager/analysis/Shoe" "left" "[I" (.ref aL) ∧ Fld Z h a0 "com/example/sidewager/sidewager/analysis/Shoe" "dealtOfRank" "[I" (.ref aR) ∧ Fld Z h a0 "com/example/sidewager/sidewager/analysis/Shoe" "dealtOfSuit" "[I" (.ref aS) ∧ Fld Z h a0 "com/example/sidewager/sidewager/analysis/Shoe" "suitsDealt" "I" (.int (0 : Int32)) ∧ Fld Z h a0 "com/example/sidewager/sidewager/analysis/Shoe" "dealt" "I" (.int (dt + (1 : Int32))) ∧ Fld Z h a0 "com/example/sidewager/sidewager/analysis/Shoe" "dealtKey" "J" (.long (dk + (FKey (kd % (10 : Int32))))) ∧ Arv Z h aL kL .int (10 : Int32) ((lf.set (kd).toNatClampNeg ((lf.getD (kd).toNatClampNeg 0) - (1 : Int32))).map Value.int) (.int (0 : Int32)) ∧ Arv Z h aR kR .int (10 : Int32) ((dr.set ((kd % (10 : Int32))).toNatClampNeg ((dr.getD ((kd % (10 : Int32))).toNatClampNeg 0) + (1 : Int32))).map Value.int) (.int (0 : Int32))
set_option maxRecDepth 65536 in
set_option maxHeartbeats 40000000 in
theorem rmDlI (l : Launch) (Z : State) (aV : Array Value) (hw : ∀ d ∈ tables_1, d.before aV Z = true) (ws : List Jvm.Cond) (a0 : Addr) (kd : Int32) (u : Addr) (s_MAT : Addr) (aL : Addr) (kL : ClassId) (lf : List Int32) (aR : Addr) (kR : ClassId) (dr : List Int32) (aS : Addr) (kS : ClassId) (ds : List Int32) (dt : Int32) (dk : Int64) (h0 : Heap) (n0 : Nat) (Zn : n0 ≤ h0.size) (OL : Old Z n0 h0) (hne : u ≠ s_MAT) (hkd : 0 ≤ kd.toInt ∧ kd.toInt < 10) (hll : lf.length = 10) (hlr : dr.length = 10) (hls : ds.length = 4) (hway : ¬ (FWaI a0 kd u s_MAT (0 : Int32) aL kL lf) = (0 : Int32)) (hdr : ¬ (dr.getD (kd % (10 : Int32)).toNatClampNeg 0) = (31 : Int32)) (g_a0 : n0 ≤ a0) (g_aL : n0 ≤ aL) (g_aR : n0 ≤ aR) (g_aS : n0 ≤ aS) (ne_a0__aL : a0 ≠ aL) (ne_a0__aR : a0 ≠ aR) (ne_a0__aS : a0 ≠ aS) (ne_aL__aR : aL ≠ aR) (ne_aL__aS : aL ≠ aS) (ne_aR__aS : aR ≠ aS) (E_a0 : Exa Z h0 a0 "com/example/sidewager/sidewager/analysis/Shoe") (F_suits : Fld Z h0 a0 "com/example/sidewager/sidewager/analysis/Shoe" "suits" "Lcom/example/sidewager/sidewager/analysis/Shoe$Suits;" (.ref u)) (F_left : Fld Z h0 a0 "com/example/sidewager/sidewager/analysis/Shoe" "left" "[I" (.ref aL)) (F_dr : Fld Z h0 a0 "com/example/sidewager/sidewager/analysis/Shoe" "dealtOfRank" "[I" (.ref aR)) (F_ds : Fld Z h0 a0 "com/example/sidewager/sidewager/analysis/Shoe" "dealtOfSuit" "[I" (.ref aS)) (F_sd : Fld Z h0 a0 "com/example/sidewager/sidewager/analysis/Shoe" "suitsDealt" "I" (.int (0 : Int32))) (F_dt : Fld Z h0 a0 "com/example/sidewager/sidewager/analysis/Shoe" "dealt" "I" (.int dt)) (F_dk : Fld Z h0 a0 "com/example/sidewager/sidewager/analysis/Shoe" "dealtKey" "J" (.long dk)) (V_left : Arv Z h0 aL kL .int (10 : Int32) (lf.map Value.int) (.int (0 : Int32))) (V_dr : Arv Z h0 aR kR .int (10 : Int32) (dr.map Value.int) (.int (0 : Int32))) (V_ds : Arv Z h0 aS kS .int (4 : Int32) (ds.map Value.int) (.int (0 : Int32))) (S_IGN : Sta Z Z.heap "com/example/sidewager/sidewager/analysis/Shoe$Suits" "IGNORED" "Lcom/example/sidewager/sidewager/analysis/Shoe$Suits;" (.ref u)) (S_MAT : Sta Z Z.heap "com/example/sidewager/sidewager/analysis/Shoe$Suits" "MATCHED" "Lcom/example/sidewager/sidewager/analysis/Shoe$Suits;" (.ref s_MAT)) (S_SUITS : Sta Z Z.heap "com/example/sidewager/sidewager/analysis/Shoe" "SUITS" "I" (.int (4 : Int32))) :
    MetFree l (⟨"com/example/sidewager/sidewager/analysis/Shoe", "deal", "(I)V"⟩ : MethodName) (head1 (Jvm.Cond.code (⟨"com/example/sidewager/sidewager/analysis/Shoe", "deal", "(I)V"⟩ : MethodName) prog_12_method_17_code 3 none :: ws) ({ frames := 2, cells := 0, slots := 0, locals := 29 } : Room)) (fun a U => a = #[(.ref a0), (.int kd)] ∧ Z.Warmed39 U.vm ∧ U.heap = h0) (fun _ _ _ _ _ => True) (fun _ U o U' => ∃ v L, o = .returned v ∧ QDlI Z a0 kd u s_MAT aL kL lf aR kR dr aS kS ds dt dk h0 n0 v U'.heap L ∧ FrameEnd U o U' L ({ frames := 2, cells := 0, slots := 0, locals := 29 } : Room).cells ({ frames := 2, cells := 0, slots := 0, locals := 29 } : Room).slots) := by
  refine MetFree.of_bodySF (plainFor_of_name pn_1) hisR ?_
  intro p e s m args below meth c s₁ Bd hml0 hP hK
  obtain ⟨rfl, hZ, hh⟩ := hP
  have hx := Bd.exec
  have hby := Bd.bytes
  have hml : c.maxLocals = 3 := hml0
  have hown : s.vm.findClass "com/example/sidewager/sidewager/analysis/Shoe" = some m.cls := findClass_of_methodNamed Bd.named
  have hnm := (name_of_methodNamed Bd.named Bd.method).1
  have X0 : Stand p l e ({ frames := 2, cells := 0, slots := 0, locals := 29 } : Room) s m #[(.ref a0), (.int kd)] below meth c s₁ [] 0 0 := Stand.of_body Bd
  have e0 : s₁.heap = h0 := by rw [← hh, Bd.state]; rfl
  have N0 := Fr.nil n0
  have Kp := Keep.refl h0 [a0, aL, aR]
  show Run p e below (Ends s (QDlI Z a0 kd u s_MAT aL kL lf aR kR dr aS kS ds dt dk h0 n0) ({ frames := 2, cells := 0, slots := 0, locals := 29 } : Room).cells ({ frames := 2, cells := 0, slots := 0, locals := 29 } : Room).slots) _
  refine Run.st (S' := s₁.setTop (mkF m 0 #[.val (.ref a0), .val (.int kd), .unset] [])) (fun t k => castTop (ef_DlI m a0 kd) k) ?_
  refine Run.st (S' := s₁.setTop (mkF m 2 #[.val (.ref a0), .val (.int kd), .unset] [(.int kd), (.ref a0)])) (fun _ k => XS.aloadN X0.here hx rfl (hb hby d12_0) rfl rfl (XS.iloadN X0.here hx rfl (hb hby d12_1) rfl k)) ?_
  obtain ⟨cq1, kq1, q1a, q1b, q1c⟩ := isOf hZ e0 E_a0
  obtain ⟨_, _, ⟨T1, L1, k1, n1⟩, -, X1, ⟨Lc1, hQ1, l1, y1, z1⟩, st1⟩ := X0.virtualBack hx (y := (⟨"com/example/sidewager/sidewager/analysis/Shoe", "ways", "(I)I"⟩ : MethodName)) (z := (⟨"com/example/sidewager/sidewager/analysis/Shoe", "ways", "(I)I"⟩ : MethodName)) hown (mvT hZ (hwi hw 115 rfl)) (mvT hZ (hwi hw 116 rfl)) (notFace_of_selects (args := #[]) (mvT hZ (hwi hw 118 rfl))) (mvT hZ (hwi hw 118 rfl)) (mvT hZ (hwi hw 117 rfl)) (by decide) (backOf (W := 0) (rmWaI l Z aV hw [] a0 kd u s_MAT (0 : Int32) aL kL lf h0 n0 Zn OL hne hkd E_a0 F_suits S_IGN F_sd F_left V_left S_SUITS) hZ (hwi hw 119 rfl) (hwi hw 3 rfl) (by decide) (by decide)) q1a q1c (g := (mkF m 2 #[.val (.ref a0), .val (.int kd), .unset] [(.int kd), (.ref a0)])) rfl (by rw [hml]; rfl) (Steps.refl _) (argsL := [(.int kd)]) (rest := []) (lenOf pd_5 rfl) rfl (by show 2 * 0 + _ ≤ _; exact Nat.le_of_eq rfl) (hb hby d12_2) (fun _ _ => ⟨rfl, e0, (by decide : 0 + 0 ≤ _), (by decide : 0 + 0 ≤ _)⟩)
  dsimp only [Pt.U, Pt.locs, Pt.cells, Pt.slots] at X1 l1 y1 z1 st1 hQ1
  replace l1 := l1.symm; replace y1 := y1.symm; replace z1 := z1.symm; subst l1 y1 z1
  obtain ⟨rfl, N1q, e1⟩ := hQ1
  have N1 := Fr.app N0 N1q
  refine Run.st (S' := T1.setTop (mkF m 58 #[.val (.ref a0), .val (.int kd), .val (.int (kd % (10 : Int32)))] [(.ref a0)])) (fun _ k => st1.trans (XS.ifYes X1.here hx rfl (pc0 := 5) (pc' := 52) rfl (hb hby d12_5) rfl ((if0 _ _).trans (feq (show ¬ ((FWaI a0 kd u s_MAT (0 : Int32) aL kL lf) = (0 : Int32)) from hway)).2) (by decide) (by decide) (XS.iloadN X1.here hx rfl (hb hby d12_52) rfl (XS.bipush X1.here hx rfl (hb hby d12_53) (iremM X1 hx rfl (hb hby d12_55) rfl (by decide) (XS.istoreN X1.here hx rfl (hb hby d12_56) rfl (l' := #[.val (.ref a0), .val (.int kd), .val (.int (kd % (10 : Int32)))]) rfl (XS.aloadN X1.here hx rfl (hb hby d12_57) rfl rfl k))))))) ?_
  obtain ⟨T2, X2, e2, st2⟩ := getF X1 hx hZ hown (host := "") (Or.inl (hwi hw 14 rfl)) Via.refl e1 F_dr (g := (mkF m 58 #[.val (.ref a0), .val (.int kd), .val (.int (kd % (10 : Int32)))] [(.ref a0)])) rfl rfl (hb hby d12_58)
  refine Run.st (S' := T2.setTop (mkF m 62 #[.val (.ref a0), .val (.int kd), .val (.int (kd % (10 : Int32)))] [(.int (kd % (10 : Int32))), (.ref aR)])) (fun _ k => st2 _ (XS.iloadN X2.here hx rfl (hb hby d12_61) rfl k)) ?_
  obtain ⟨cl3, Ar3, qa3, Sa3, Na3, Ha3, Ga3⟩ := id V_dr
  have hin3 : ¬ ((kd % (10 : Int32)) < 0 ∨ cl3.slots.size ≤ ((kd % (10 : Int32))).toNatClampNeg) := inb_of Sa3 (inb32 (show (10 : Int32).toInt = 10 from by decide) (own_m10 hkd).1 (own_m10 hkd).2)
  have hat3 : cl3.slots[((kd % (10 : Int32))).toNatClampNeg]? = some (.int (dr.getD ((kd % (10 : Int32))).toNatClampNeg 0)) := Has.at Ha3 hin3 (own_get _ _)
  refine Run.st (S' := T2.setTop (mkF m 89 #[.val (.ref a0), .val (.int kd), .val (.int (kd % (10 : Int32)))] [(.ref a0)])) (fun _ k => X2.iaload hx (j := (kd % (10 : Int32))) (v := (.int (dr.getD ((kd % (10 : Int32))).toNatClampNeg 0))) (by rw [e2]; exact Ar3.1) (State.isArrayOf_alike hZ.alike Ar3.2.1) Ar3.2.2 hin3 hat3 (g := (mkF m 62 #[.val (.ref a0), .val (.int kd), .val (.int (kd % (10 : Int32)))] [(.int (kd % (10 : Int32))), (.ref aR)])) rfl rfl (hb hby d12_62) _ (XS.bipush X2.here hx rfl (hb hby d12_63) (XS.icmpYes X2.here hx rfl (pc0 := 65) (pc' := 88) rfl (hb hby d12_65) rfl (feq (show ¬ ((dr.getD ((kd % (10 : Int32))).toNatClampNeg 0) = (31 : Int32)) from hdr)).2 (by decide) (by decide) (XS.aloadN X2.here hx rfl (hb hby d12_88) rfl rfl k)))) ?_
  obtain ⟨T4, X4, e4, st4⟩ := getF X2 hx hZ hown (host := "") (Or.inl (hwi hw 77 rfl)) Via.refl e2 F_left (g := (mkF m 89 #[.val (.ref a0), .val (.int kd), .val (.int (kd % (10 : Int32)))] [(.ref a0)])) rfl rfl (hb hby d12_89)
  refine Run.st (S' := T4.setTop (mkF m 94 #[.val (.ref a0), .val (.int kd), .val (.int (kd % (10 : Int32)))] [(.int kd), (.ref aL), (.int kd), (.ref aL)])) (fun _ k => st4 _ (XS.iloadN X4.here hx rfl (hb hby d12_92) rfl (Jvm.Free.XT.dup2 X4.here hx rfl (hb hby d12_93) rfl rfl rfl k))) ?_
  obtain ⟨cl5, Ar5, qa5, Sa5, Na5, Ha5, Ga5⟩ := id V_left
  have hin5 : ¬ (kd < 0 ∨ cl5.slots.size ≤ (kd).toNatClampNeg) := inb_of Sa5 (own_inL (n := 10) (show (10 : Int32).toInt = 10 from by decide) (by decide) hkd)
  have hat5 : cl5.slots[(kd).toNatClampNeg]? = some (.int (lf.getD (kd).toNatClampNeg 0)) := Has.at Ha5 hin5 (own_get _ _)
  refine Run.st (S' := T4.setTop (mkF m 97 #[.val (.ref a0), .val (.int kd), .val (.int (kd % (10 : Int32)))] [(.int ((lf.getD (kd).toNatClampNeg 0) - (1 : Int32))), (.int kd), (.ref aL)])) (fun _ k => X4.iaload hx (j := kd) (v := (.int (lf.getD (kd).toNatClampNeg 0))) (by rw [e4]; exact Ar5.1) (State.isArrayOf_alike hZ.alike Ar5.2.1) Ar5.2.2 hin5 hat5 (g := (mkF m 94 #[.val (.ref a0), .val (.int kd), .val (.int (kd % (10 : Int32)))] [(.int kd), (.ref aL), (.int kd), (.ref aL)])) rfl rfl (hb hby d12_94) _ (XS.iconst X4.here hx rfl (hb hby d12_95) (XS.isub X4.here hx rfl (hb hby d12_96) rfl k))) ?_
  obtain ⟨cl6, Ar6, qa6, Sa6, Na6, Ha6, Ga6⟩ := V_left
  have hin6 : ¬ (kd < 0 ∨ cl6.slots.size ≤ (kd).toNatClampNeg) := inb_of Sa6 (own_inL (n := 10) (show (10 : Int32).toInt = 10 from by decide) (by decide) hkd)
  obtain ⟨T6, h6, X6, e6, W6, st6⟩ := stI X4 hx hZ e4 Ar6 (j := kd) hin6 (g := (mkF m 97 #[.val (.ref a0), .val (.int kd), .val (.int (kd % (10 : Int32)))] [(.int ((lf.getD (kd).toNatClampNeg 0) - (1 : Int32))), (.int kd), (.ref aL)])) rfl rfl (hb hby d12_97)
  have V_left := Arv.set Ar6 qa6 Sa6 Na6 Ha6 Ga6 rfl W6 (kd).toNatClampNeg rfl (own_pos (show (10 : Int32).toInt = (10 : Nat) from by decide) hll (own_inL (n := 10) (show (10 : Int32).toInt = 10 from by decide) (by decide) hkd))
  rw [own_set] at V_left
  have OL := OL.wr W6 g_aL
  have E_a0 := E_a0.wr W6
  have F_suits := F_suits.other W6 (Or.inl ne_a0__aL)
  have F_left := F_left.other W6 (Or.inl ne_a0__aL)
  have F_dr := F_dr.other W6 (Or.inl ne_a0__aL)
  have F_ds := F_ds.other W6 (Or.inl ne_a0__aL)
  have F_sd := F_sd.other W6 (Or.inl ne_a0__aL)
  have F_dt := F_dt.other W6 (Or.inl ne_a0__aL)
  have F_dk := F_dk.other W6 (Or.inl ne_a0__aL)
  have V_dr := V_dr.other W6 (Ne.symm ne_aL__aR)
  have V_ds := V_ds.other W6 (Ne.symm ne_aL__aS)
  have N6 := Fr.snoc X6 N1 g_aL
  have Kp := Kp.wr W6 (Or.inl (by simp))
  have Zn := Nat.le_trans Zn (Nat.le_of_eq W6.size.symm)
  refine Run.st (S' := T6.setTop (mkF m 99 #[.val (.ref a0), .val (.int kd), .val (.int (kd % (10 : Int32)))] [(.ref a0)])) (fun _ k => st6 _ (XS.aloadN X6.here hx rfl (hb hby d12_98) rfl rfl k)) ?_
  obtain ⟨T7, X7, e7, st7⟩ := getF X6 hx hZ hown (host := "") (Or.inl (hwi hw 14 rfl)) Via.refl e6 F_dr (g := (mkF m 99 #[.val (.ref a0), .val (.int kd), .val (.int (kd % (10 : Int32)))] [(.ref a0)])) rfl rfl (hb hby d12_99)
  refine Run.st (S' := T7.setTop (mkF m 104 #[.val (.ref a0), .val (.int kd), .val (.int (kd % (10 : Int32)))] [(.int (kd % (10 : Int32))), (.ref aR), (.int (kd % (10 : Int32))), (.ref aR)])) (fun _ k => st7 _ (XS.iloadN X7.here hx rfl (hb hby d12_102) rfl (Jvm.Free.XT.dup2 X7.here hx rfl (hb hby d12_103) rfl rfl rfl k))) ?_
  obtain ⟨cl8, Ar8, qa8, Sa8, Na8, Ha8, Ga8⟩ := id V_dr
  have hin8 : ¬ ((kd % (10 : Int32)) < 0 ∨ cl8.slots.size ≤ ((kd % (10 : Int32))).toNatClampNeg) := inb_of Sa8 (inb32 (show (10 : Int32).toInt = 10 from by decide) (own_m10 hkd).1 (own_m10 hkd).2)
  have hat8 : cl8.slots[((kd % (10 : Int32))).toNatClampNeg]? = some (.int (dr.getD ((kd % (10 : Int32))).toNatClampNeg 0)) := Has.at Ha8 hin8 (own_get _ _)
  refine Run.st (S' := T7.setTop (mkF m 107 #[.val (.ref a0), .val (.int kd), .val (.int (kd % (10 : Int32)))] [(.int ((dr.getD ((kd % (10 : Int32))).toNatClampNeg 0) + (1 : Int32))), (.int (kd % (10 : Int32))), (.ref aR)])) (fun _ k => X7.iaload hx (j := (kd % (10 : Int32))) (v := (.int (dr.getD ((kd % (10 : Int32))).toNatClampNeg 0))) (by rw [e7]; exact Ar8.1) (State.isArrayOf_alike hZ.alike Ar8.2.1) Ar8.2.2 hin8 hat8 (g := (mkF m 104 #[.val (.ref a0), .val (.int kd), .val (.int (kd % (10 : Int32)))] [(.int (kd % (10 : Int32))), (.ref aR), (.int (kd % (10 : Int32))), (.ref aR)])) rfl rfl (hb hby d12_104) _ (XS.iconst X7.here hx rfl (hb hby d12_105) (XS.iadd X7.here hx rfl (hb hby d12_106) rfl k))) ?_
  obtain ⟨cl9, Ar9, qa9, Sa9, Na9, Ha9, Ga9⟩ := V_dr
  have hin9 : ¬ ((kd % (10 : Int32)) < 0 ∨ cl9.slots.size ≤ ((kd % (10 : Int32))).toNatClampNeg) := inb_of Sa9 (inb32 (show (10 : Int32).toInt = 10 from by decide) (own_m10 hkd).1 (own_m10 hkd).2)
  obtain ⟨T9, h9, X9, e9, W9, st9⟩ := stI X7 hx hZ e7 Ar9 (j := (kd % (10 : Int32))) hin9 (g := (mkF m 107 #[.val (.ref a0), .val (.int kd), .val (.int (kd % (10 : Int32)))] [(.int ((dr.getD ((kd % (10 : Int32))).toNatClampNeg 0) + (1 : Int32))), (.int (kd % (10 : Int32))), (.ref aR)])) rfl rfl (hb hby d12_107)
  have V_dr := Arv.set Ar9 qa9 Sa9 Na9 Ha9 Ga9 rfl W9 ((kd % (10 : Int32))).toNatClampNeg rfl (own_pos (show (10 : Int32).toInt = (10 : Nat) from by decide) hlr (inb32 (show (10 : Int32).toInt = 10 from by decide) (own_m10 hkd).1 (own_m10 hkd).2))
  rw [own_set] at V_dr
  have OL := OL.wr W9 g_aR
  have E_a0 := E_a0.wr W9
  have F_suits := F_suits.other W9 (Or.inl ne_a0__aR)
  have F_left := F_left.other W9 (Or.inl ne_a0__aR)
  have F_dr := F_dr.other W9 (Or.inl ne_a0__aR)
  have F_ds := F_ds.other W9 (Or.inl ne_a0__aR)
  have F_sd := F_sd.other W9 (Or.inl ne_a0__aR)
  have F_dt := F_dt.other W9 (Or.inl ne_a0__aR)
  have F_dk := F_dk.other W9 (Or.inl ne_a0__aR)
  have V_left := V_left.other W9 ne_aL__aR
  have V_ds := V_ds.other W9 (Ne.symm ne_aR__aS)
  have N9 := Fr.snoc X9 N6 g_aR
  have Kp := Kp.wr W9 (Or.inl (by simp))
  have Zn := Nat.le_trans Zn (Nat.le_of_eq W9.size.symm)
  refine Run.st (S' := T9.setTop (mkF m 109 #[.val (.ref a0), .val (.int kd), .val (.int (kd % (10 : Int32)))] [(.ref a0)])) (fun _ k => st9 _ (XS.aloadN X9.here hx rfl (hb hby d12_108) rfl rfl k)) ?_
  obtain ⟨T10, X10, e10, st10⟩ := getF X9 hx hZ hown (host := "") (Or.inl (hwi hw 20 rfl)) Via.refl e9 F_suits (g := (mkF m 109 #[.val (.ref a0), .val (.int kd), .val (.int (kd % (10 : Int32)))] [(.ref a0)])) rfl rfl (hb hby d12_109)
  refine Run.st (S' := T10.setTop (mkF m 112 #[.val (.ref a0), .val (.int kd), .val (.int (kd % (10 : Int32)))] [(.ref u)])) (fun _ k => st10 _ k) ?_
  have u_S_MAT := S_MAT.ext OL.2
  obtain ⟨T11, X11, e11, st11⟩ := getS2 X10 hx hZ hown (host := "") (Or.inl (hwi hw 22 rfl)) Via.refl e10 u_S_MAT (g := (mkF m 112 #[.val (.ref a0), .val (.int kd), .val (.int (kd % (10 : Int32)))] [(.ref u)])) rfl (hb hby d12_112)
  refine Run.st (S' := T11.setTop (mkF m 147 #[.val (.ref a0), .val (.int kd), .val (.int (kd % (10 : Int32)))] [(.ref a0), (.ref a0)])) (fun _ k => st11 _ (Jvm.RoadKit.acmp (g := (mkF m 115 #[.val (.ref a0), .val (.int kd), .val (.int (kd % (10 : Int32)))] [(.ref s_MAT), (.ref u)])) X11 hx rfl rfl rfl (pc0 := 115) (pc' := 145) (same := false) rfl (hb hby d12_115) rfl (decide_eq_false fun q => hne (Value.ref.inj q)) (by decide) (by decide) (XS.aloadN X11.here hx rfl (hb hby d12_145) rfl rfl (XS.dup X11.here hx rfl (hb hby d12_146) rfl rfl k)))) ?_
  obtain ⟨T12, X12, e12, st12⟩ := getF X11 hx hZ hown (host := "") (Or.inl (hwi hw 101 rfl)) Via.refl e11 F_dt (g := (mkF m 147 #[.val (.ref a0), .val (.int kd), .val (.int (kd % (10 : Int32)))] [(.ref a0), (.ref a0)])) rfl rfl (hb hby d12_147)
  refine Run.st (S' := T12.setTop (mkF m 152 #[.val (.ref a0), .val (.int kd), .val (.int (kd % (10 : Int32)))] [(.int (dt + (1 : Int32))), (.ref a0)])) (fun _ k => st12 _ (XS.iconst X12.here hx rfl (hb hby d12_150) (XS.iadd X12.here hx rfl (hb hby d12_151) rfl k))) ?_
  obtain ⟨T13, h13, X13, e13, W13, st13⟩ := putF X12 hx hZ hown (host := "") (Or.inl (hwi hw 101 rfl)) Via.refl e12 F_dt E_a0 (Or.inl (hwi hw 102 rfl)) (hwi hw 2 rfl) (ty := .int) (by decide) rfl rfl (g := (mkF m 152 #[.val (.ref a0), .val (.int kd), .val (.int (kd % (10 : Int32)))] [(.int (dt + (1 : Int32))), (.ref a0)])) rfl rfl (hb hby d12_152)
  have F_dt := F_dt.same W13
  have OL := OL.wr W13 g_a0
  have E_a0 := E_a0.wr W13
  have F_suits := F_suits.other W13 (Or.inr (slot_ne (Or.inr (hwi hw 21 rfl)) (Or.inl (hwi hw 102 rfl)) (by decide) (t := (.object "com/example/sidewager/sidewager/analysis/Shoe$Suits")) (t' := .int) (by decide) (by decide)))
  have F_left := F_left.other W13 (Or.inr (slot_ne (Or.inr (hwi hw 78 rfl)) (Or.inl (hwi hw 102 rfl)) (by decide) (t := (.array .int)) (t' := .int) (by decide) (by decide)))
  have F_dr := F_dr.other W13 (Or.inr (slot_ne (Or.inr (hwi hw 15 rfl)) (Or.inl (hwi hw 102 rfl)) (by decide) (t := (.array .int)) (t' := .int) (by decide) (by decide)))
  have F_ds := F_ds.other W13 (Or.inr (slot_ne (Or.inr (hwi hw 19 rfl)) (Or.inl (hwi hw 102 rfl)) (by decide) (t := (.array .int)) (t' := .int) (by decide) (by decide)))
  have F_sd := F_sd.other W13 (Or.inr (slot_ne (Or.inl (hwi hw 131 rfl)) (Or.inl (hwi hw 102 rfl)) (by decide) (t := .int) (t' := .int) (by decide) (by decide)))
  have F_dk := F_dk.other W13 (Or.inr (slot_ne (Or.inl (hwi hw 126 rfl)) (Or.inl (hwi hw 102 rfl)) (by decide) (t := .long) (t' := .int) (by decide) (by decide)))
  have V_left := V_left.other W13 (Ne.symm ne_a0__aL)
  have V_dr := V_dr.other W13 (Ne.symm ne_a0__aR)
  have V_ds := V_ds.other W13 (Ne.symm ne_a0__aS)
  have N13 := Fr.snoc X13 N9 g_a0
  have Kp := Kp.wr W13 (Or.inl (by simp))
  have Zn := Nat.le_trans Zn (Nat.le_of_eq W13.size.symm)
  refine Run.st (S' := T13.setTop (mkF m 157 #[.val (.ref a0), .val (.int kd), .val (.int (kd % (10 : Int32)))] [(.ref a0), (.ref a0)])) (fun _ k => st13 _ (XS.aloadN X13.here hx rfl (hb hby d12_155) rfl rfl (XS.dup X13.here hx rfl (hb hby d12_156) rfl rfl k))) ?_
  obtain ⟨T14, X14, e14, st14⟩ := getF X13 hx hZ hown (host := "") (Or.inl (hwi hw 125 rfl)) Via.refl e13 F_dk (g := (mkF m 157 #[.val (.ref a0), .val (.int kd), .val (.int (kd % (10 : Int32)))] [(.ref a0), (.ref a0)])) rfl rfl (hb hby d12_157)
  refine Run.st (S' := T14.setTop (mkF m 161 #[.val (.ref a0), .val (.int kd), .val (.int (kd % (10 : Int32)))] [(.int (kd % (10 : Int32))), (.long dk), (.ref a0)])) (fun _ k => st14 _ (XS.iloadN X14.here hx rfl (hb hby d12_160) rfl k)) ?_
  obtain ⟨_, _, ⟨T15, L15, k15, n15⟩, -, X15, ⟨Lc15, hQ15, l15, y15, z15⟩, st15⟩ := Jvm.LawKit.callS X14 hx (y := (⟨"com/example/sidewager/sidewager/analysis/Shoe", "keyOf", "(I)J"⟩ : MethodName)) hown (mvT hZ (hwi hw 127 rfl)) (mvT hZ (hwi hw 128 rfl)) (mvT hZ (hwi hw 3 rfl)) (mvT hZ (hwi hw 129 rfl)) (by decide) (backOf (W := 3) (rmKey l Z aV hw [] (kd % (10 : Int32)) h13 n0 Zn ) hZ (hwi hw 129 rfl) (hwi hw 3 rfl) (by decide) (by decide)) (g := (mkF m 161 #[.val (.ref a0), .val (.int kd), .val (.int (kd % (10 : Int32)))] [(.int (kd % (10 : Int32))), (.long dk), (.ref a0)])) rfl (by rw [hml]; rfl) (argsL := [(.int (kd % (10 : Int32)))]) (rest := [(.long dk), (.ref a0)]) (lenOf pd_6 rfl) rfl (by show 2 * 0 + _ ≤ _; exact Nat.le_of_eq rfl) (hb hby d12_161) (fun _ _ => ⟨rfl, e14, (by decide : 0 + 0 ≤ _), (by decide : 0 + 0 ≤ _)⟩)
  dsimp only [Pt.U, Pt.locs, Pt.cells, Pt.slots] at X15 l15 y15 z15 st15 hQ15
  replace l15 := l15.symm; replace y15 := y15.symm; replace z15 := z15.symm; subst l15 y15 z15
  obtain ⟨rfl, N15q, e15⟩ := hQ15
  have N15 := Fr.app N13 N15q
  refine Run.st (S' := T15.setTop (mkF m 165 #[.val (.ref a0), .val (.int kd), .val (.int (kd % (10 : Int32)))] [(.long (dk + (FKey (kd % (10 : Int32))))), (.ref a0)])) (fun _ k => st15 _ (XS.ladd X15.here hx rfl (hb hby d12_164) rfl k)) ?_
  obtain ⟨T16, h16, X16, e16, W16, st16⟩ := putF X15 hx hZ hown (host := "") (Or.inl (hwi hw 125 rfl)) Via.refl e15 F_dk E_a0 (Or.inl (hwi hw 126 rfl)) (hwi hw 2 rfl) (ty := .long) (by decide) rfl rfl (g := (mkF m 165 #[.val (.ref a0), .val (.int kd), .val (.int (kd % (10 : Int32)))] [(.long (dk + (FKey (kd % (10 : Int32))))), (.ref a0)])) rfl rfl (hb hby d12_165)
  have F_dk := F_dk.same W16
  have OL := OL.wr W16 g_a0
  have E_a0 := E_a0.wr W16
  have F_suits := F_suits.other W16 (Or.inr (slot_ne (Or.inr (hwi hw 21 rfl)) (Or.inl (hwi hw 126 rfl)) (by decide) (t := (.object "com/example/sidewager/sidewager/analysis/Shoe$Suits")) (t' := .long) (by decide) (by decide)))
  have F_left := F_left.other W16 (Or.inr (slot_ne (Or.inr (hwi hw 78 rfl)) (Or.inl (hwi hw 126 rfl)) (by decide) (t := (.array .int)) (t' := .long) (by decide) (by decide)))
  have F_dr := F_dr.other W16 (Or.inr (slot_ne (Or.inr (hwi hw 15 rfl)) (Or.inl (hwi hw 126 rfl)) (by decide) (t := (.array .int)) (t' := .long) (by decide) (by decide)))
  have F_ds := F_ds.other W16 (Or.inr (slot_ne (Or.inr (hwi hw 19 rfl)) (Or.inl (hwi hw 126 rfl)) (by decide) (t := (.array .int)) (t' := .long) (by decide) (by decide)))
  have F_sd := F_sd.other W16 (Or.inr (slot_ne (Or.inl (hwi hw 131 rfl)) (Or.inl (hwi hw 126 rfl)) (by decide) (t := .int) (t' := .long) (by decide) (by decide)))
  have F_dt := F_dt.other W16 (Or.inr (slot_ne (Or.inl (hwi hw 102 rfl)) (Or.inl (hwi hw 126 rfl)) (by decide) (t := .int) (t' := .long) (by decide) (by decide)))
  have V_left := V_left.other W16 (Ne.symm ne_a0__aL)
  have V_dr := V_dr.other W16 (Ne.symm ne_a0__aR)
  have V_ds := V_ds.other W16 (Ne.symm ne_a0__aS)
  have N16 := Fr.snoc X16 N15 g_a0
  have Kp := Kp.wr W16 (Or.inl (by simp))
  have Zn := Nat.le_trans Zn (Nat.le_of_eq W16.size.symm)
  refine Run.st (S' := T16.setTop (mkF m 168 #[.val (.ref a0), .val (.int kd), .val (.int (kd % (10 : Int32)))] [])) (fun _ k => st16 _ k) ?_
  refine Run.outV X16 hx Bd.notSynchronized Bd.returns (hb hby d12_168) (by decide) (by decide) ?_
  rw [e16]
  exact ⟨rfl, N16, Kp, E_a0, F_suits, F_left, F_dr, F_ds, F_sd, F_dt, F_dk, V_left, V_dr⟩
theorem d12_118 : decode prog_12_method_17_code 118 = .ok (.aload_n 0, 1) := by decide +kernel
theorem d12_119 : decode prog_12_method_17_code 119 = .ok (.getfield 26, 3) := by decide +kernel
theorem d12_122 : decode prog_12_method_17_code 122 = .ok (.iload_n 1, 1) := by decide +kernel
theorem d12_123 : decode prog_12_method_17_code 123 = .ok (.bipush 10, 2) := by decide +kernel
theorem d12_125 : decode prog_12_method_17_code 125 = .ok (.idiv, 1) := by decide +kernel
theorem d12_126 : decode prog_12_method_17_code 126 = .ok (.dup2, 1) := by decide +kernel
theorem d12_127 : decode prog_12_method_17_code 127 = .ok (.iaload, 1) := by decide +kernel
theorem d12_128 : decode prog_12_method_17_code 128 = .ok (.dup_x2, 1) := by decide +kernel
theorem d12_129 : decode prog_12_method_17_code 129 = .ok (.iconst 1, 1) := by decide +kernel
theorem d12_130 : decode prog_12_method_17_code 130 = .ok (.iadd, 1) := by decide +kernel
theorem d12_131 : decode prog_12_method_17_code 131 = .ok (.iastore, 1) := by decide +kernel
theorem d12_132 : decode prog_12_method_17_code 132 = .ok (.ifCond .ne 13, 3) := by decide +kernel
theorem d12_135 : decode prog_12_method_17_code 135 = .ok (.aload_n 0, 1) := by decide +kernel
theorem d12_136 : decode prog_12_method_17_code 136 = .ok (.dup, 1) := by decide +kernel
theorem d12_137 : decode prog_12_method_17_code 137 = .ok (.getfield 139, 3) := by decide +kernel
theorem d12_140 : decode prog_12_method_17_code 140 = .ok (.iconst 1, 1) := by decide +kernel
theorem d12_141 : decode prog_12_method_17_code 141 = .ok (.iadd, 1) := by decide +kernel
theorem d12_142 : decode prog_12_method_17_code 142 = .ok (.putfield 139, 3) := by decide +kernel
theorem ef_DlF (m : MethodId) (a0 : Addr) (kd : Int32) : entryFrame m #[(.ref a0), (.int kd)] 3 = mkF m 0 #[.val (.ref a0), .val (.int kd), .unset] [] := by first | (simp [entryFrame, mkF, argsToLocals, Value.category]; done) | rfl
def QDlF (Z : State) (a0 : Addr) (kd : Int32) (u : Addr) (s_MAT : Addr) (aL : Addr) (kL : ClassId) (lf : List Int32) (aR : Addr) (kR : ClassId) (dr : List Int32) (aS : Addr) (kS : ClassId) (ds : List Int32) (dt : Int32) (dk : Int64) (h0 : Heap) (n0 : Nat) (v : Option Value) (h : Heap) (L : List Loc) : Prop := v = none ∧ Fr n0 L ∧ Keep h0 h [a0, aL, aR, aS] ∧ Exa Z h a0 "com/example/sidewager/sidewager/analysis/Shoe" ∧ Fld Z h a0 "com/example/sidewager/sidewager/analysis/Shoe" "suits" "Lcom/example/sidewager/sidewager/analysis/Shoe$Suits;" (.ref s_MAT) ∧ Fld Z h a0 "com/example/sidewager/sidewager/analysis/Shoe" "left" "[I" (.ref aL) ∧ Fld Z h a0 "com/example/sidewager/sidewager/analysis/Shoe" "dealtOfRank" "[I" (.ref aR) ∧ Fld Z h a0 "com/example/sidewager/sidewager/analysis/Shoe" "dealtOfSuit" "[I" (.ref aS) ∧ Fld Z h a0 "com/example/sidewager/sidewager/analysis/Shoe" "suitsDealt" "I" (.int (1 : Int32)) ∧ Fld Z h a0 "com/example/sidewager/sidewager/analysis/Shoe" "dealt" "I" (.int (dt + (1 : Int32))) ∧ Fld Z h a0 "com/example/sidewager/sidewager/analysis/Shoe" "dealtKey" "J" (.long (dk + (FKey (kd % (10 : Int32))))) ∧ Arv Z h aL kL .int (40 : Int32) ((lf.set (kd).toNatClampNeg ((lf.getD (kd).toNatClampNeg 0) - (1 : Int32))).map Value.int) (.int (0 : Int32)) ∧ Arv Z h aR kR .int (10 : Int32) ((dr.set ((kd % (10 : Int32))).toNatClampNeg ((dr.getD ((kd % (10 : Int32))).toNatClampNeg 0) + (1 : Int32))).map Value.int) (.int (0 : Int32)) ∧ Arv Z h aS kS .int (4 : Int32) ((ds.set ((kd / (10 : Int32))).toNatClampNeg ((ds.getD ((kd / (10 : Int32))).toNatClampNeg 0) + (1 : Int32))).map Value.int) (.int (0 : Int32))
set_option maxRecDepth 65536 in
set_option maxHeartbeats 40000000 in
theorem rmDlF (l : Launch) (Z : State) (aV : Array Value) (hw : ∀ d ∈ tables_1, d.before aV Z = true) (ws : List Jvm.Cond) (a0 : Addr) (kd : Int32) (u : Addr) (s_MAT : Addr) (aL : Addr) (kL : ClassId) (lf : List Int32) (aR : Addr) (kR : ClassId) (dr : List Int32) (aS : Addr) (kS : ClassId) (ds : List Int32) (dt : Int32) (dk : Int64) (h0 : Heap) (n0 : Nat) (Zn : n0 ≤ h0.size) (OL : Old Z n0 h0) (hne : u ≠ s_MAT) (hkd : 0 ≤ kd.toInt ∧ kd.toInt < 10) (hll : lf.length = 40) (hlr : dr.length = 10) (hls : ds.length = 4) (hway : ¬ (FWaM a0 kd u s_MAT (0 : Int32) aL kL lf) = (0 : Int32)) (hdr : ¬ (dr.getD (kd % (10 : Int32)).toNatClampNeg 0) = (31 : Int32)) (g_a0 : n0 ≤ a0) (g_aL : n0 ≤ aL) (g_aR : n0 ≤ aR) (g_aS : n0 ≤ aS) (ne_a0__aL : a0 ≠ aL) (ne_a0__aR : a0 ≠ aR) (ne_a0__aS : a0 ≠ aS) (ne_aL__aR : aL ≠ aR) (ne_aL__aS : aL ≠ aS) (ne_aR__aS : aR ≠ aS) (hds : ((ds.getD (kd / (10 : Int32)).toNatClampNeg 0) = (0 : Int32))) (E_a0 : Exa Z h0 a0 "com/example/sidewager/sidewager/analysis/Shoe") (F_suits : Fld Z h0 a0 "com/example/sidewager/sidewager/analysis/Shoe" "suits" "Lcom/example/sidewager/sidewager/analysis/Shoe$Suits;" (.ref s_MAT)) (F_left : Fld Z h0 a0 "com/example/sidewager/sidewager/analysis/Shoe" "left" "[I" (.ref aL)) (F_dr : Fld Z h0 a0 "com/example/sidewager/sidewager/analysis/Shoe" "dealtOfRank" "[I" (.ref aR)) (F_ds : Fld Z h0 a0 "com/example/sidewager/sidewager/analysis/Shoe" "dealtOfSuit" "[I" (.ref aS)) (F_sd : Fld Z h0 a0 "com/example/sidewager/sidewager/analysis/Shoe" "suitsDealt" "I" (.int (0 : Int32))) (F_dt : Fld Z h0 a0 "com/example/sidewager/sidewager/analysis/Shoe" "dealt" "I" (.int dt)) (F_dk : Fld Z h0 a0 "com/example/sidewager/sidewager/analysis/Shoe" "dealtKey" "J" (.long dk)) (V_left : Arv Z h0 aL kL .int (40 : Int32) (lf.map Value.int) (.int (0 : Int32))) (V_dr : Arv Z h0 aR kR .int (10 : Int32) (dr.map Value.int) (.int (0 : Int32))) (V_ds : Arv Z h0 aS kS .int (4 : Int32) (ds.map Value.int) (.int (0 : Int32))) (S_IGN : Sta Z Z.heap "com/example/sidewager/sidewager/analysis/Shoe$Suits" "IGNORED" "Lcom/example/sidewager/sidewager/analysis/Shoe$Suits;" (.ref u)) (S_MAT : Sta Z Z.heap "com/example/sidewager/sidewager/analysis/Shoe$Suits" "MATCHED" "Lcom/example/sidewager/sidewager/analysis/Shoe$Suits;" (.ref s_MAT)) (S_SUITS : Sta Z Z.heap "com/example/sidewager/sidewager/analysis/Shoe" "SUITS" "I" (.int (4 : Int32))) :
    MetFree l (⟨"com/example/sidewager/sidewager/analysis/Shoe", "deal", "(I)V"⟩ : MethodName) (head1 (Jvm.Cond.code (⟨"com/example/sidewager/sidewager/analysis/Shoe", "deal", "(I)V"⟩ : MethodName) prog_12_method_17_code 3 none :: ws) ({ frames := 2, cells := 0, slots := 0, locals := 29 } : Room)) (fun a U => a = #[(.ref a0), (.int kd)] ∧ Z.Warmed39 U.vm ∧ U.heap = h0) (fun _ _ _ _ _ => True) (fun _ U o U' => ∃ v L, o = .returned v ∧ QDlF Z a0 kd u s_MAT aL kL lf aR kR dr aS kS ds dt dk h0 n0 v U'.heap L ∧ FrameEnd U o U' L ({ frames := 2, cells := 0, slots := 0, locals := 29 } : Room).cells ({ frames := 2, cells := 0, slots := 0, locals := 29 } : Room).slots) := by
  refine MetFree.of_bodySF (plainFor_of_name pn_1) hisR ?_
  intro p e s m args below meth c s₁ Bd hml0 hP hK
  obtain ⟨rfl, hZ, hh⟩ := hP
  have hx := Bd.exec
  have hby := Bd.bytes
  have hml : c.maxLocals = 3 := hml0
  have hown : s.vm.findClass "com/example/sidewager/sidewager/analysis/Shoe" = some m.cls := findClass_of_methodNamed Bd.named
  have hnm := (name_of_methodNamed Bd.named Bd.method).1
  have X0 : Stand p l e ({ frames := 2, cells := 0, slots := 0, locals := 29 } : Room) s m #[(.ref a0), (.int kd)] below meth c s₁ [] 0 0 := Stand.of_body Bd
  have e0 : s₁.heap = h0 := by rw [← hh, Bd.state]; rfl
  have N0 := Fr.nil n0
  have Kp := Keep.refl h0 [a0, aL, aR, aS]
  show Run p e below (Ends s (QDlF Z a0 kd u s_MAT aL kL lf aR kR dr aS kS ds dt dk h0 n0) ({ frames := 2, cells := 0, slots := 0, locals := 29 } : Room).cells ({ frames := 2, cells := 0, slots := 0, locals := 29 } : Room).slots) _
  refine Run.st (S' := s₁.setTop (mkF m 0 #[.val (.ref a0), .val (.int kd), .unset] [])) (fun t k => castTop (ef_DlF m a0 kd) k) ?_
  refine Run.st (S' := s₁.setTop (mkF m 2 #[.val (.ref a0), .val (.int kd), .unset] [(.int kd), (.ref a0)])) (fun _ k => XS.aloadN X0.here hx rfl (hb hby d12_0) rfl rfl (XS.iloadN X0.here hx rfl (hb hby d12_1) rfl k)) ?_
  obtain ⟨cq1, kq1, q1a, q1b, q1c⟩ := isOf hZ e0 E_a0
  obtain ⟨_, _, ⟨T1, L1, k1, n1⟩, -, X1, ⟨Lc1, hQ1, l1, y1, z1⟩, st1⟩ := X0.virtualBack hx (y := (⟨"com/example/sidewager/sidewager/analysis/Shoe", "ways", "(I)I"⟩ : MethodName)) (z := (⟨"com/example/sidewager/sidewager/analysis/Shoe", "ways", "(I)I"⟩ : MethodName)) hown (mvT hZ (hwi hw 115 rfl)) (mvT hZ (hwi hw 116 rfl)) (notFace_of_selects (args := #[]) (mvT hZ (hwi hw 118 rfl))) (mvT hZ (hwi hw 118 rfl)) (mvT hZ (hwi hw 117 rfl)) (by decide) (backOf (W := 0) (rmWaM l Z aV hw [] a0 kd u s_MAT (0 : Int32) aL kL lf h0 n0 Zn OL hne hkd E_a0 F_suits S_IGN F_sd F_left V_left S_SUITS) hZ (hwi hw 119 rfl) (hwi hw 3 rfl) (by decide) (by decide)) q1a q1c (g := (mkF m 2 #[.val (.ref a0), .val (.int kd), .unset] [(.int kd), (.ref a0)])) rfl (by rw [hml]; rfl) (Steps.refl _) (argsL := [(.int kd)]) (rest := []) (lenOf pd_5 rfl) rfl (by show 2 * 0 + _ ≤ _; exact Nat.le_of_eq rfl) (hb hby d12_2) (fun _ _ => ⟨rfl, e0, (by decide : 0 + 0 ≤ _), (by decide : 0 + 0 ≤ _)⟩)
  dsimp only [Pt.U, Pt.locs, Pt.cells, Pt.slots] at X1 l1 y1 z1 st1 hQ1
  replace l1 := l1.symm; replace y1 := y1.symm; replace z1 := z1.symm; subst l1 y1 z1
  obtain ⟨rfl, N1q, e1⟩ := hQ1
  have N1 := Fr.app N0 N1q
  refine Run.st (S' := T1.setTop (mkF m 58 #[.val (.ref a0), .val (.int kd), .val (.int (kd % (10 : Int32)))] [(.ref a0)])) (fun _ k => st1.trans (XS.ifYes X1.here hx rfl (pc0 := 5) (pc' := 52) rfl (hb hby d12_5) rfl ((if0 _ _).trans (feq (show ¬ ((FWaM a0 kd u s_MAT (0 : Int32) aL kL lf) = (0 : Int32)) from hway)).2) (by decide) (by decide) (XS.iloadN X1.here hx rfl (hb hby d12_52) rfl (XS.bipush X1.here hx rfl (hb hby d12_53) (iremM X1 hx rfl (hb hby d12_55) rfl (by decide) (XS.istoreN X1.here hx rfl (hb hby d12_56) rfl (l' := #[.val (.ref a0), .val (.int kd), .val (.int (kd % (10 : Int32)))]) rfl (XS.aloadN X1.here hx rfl (hb hby d12_57) rfl rfl k))))))) ?_
  obtain ⟨T2, X2, e2, st2⟩ := getF X1 hx hZ hown (host := "") (Or.inl (hwi hw 14 rfl)) Via.refl e1 F_dr (g := (mkF m 58 #[.val (.ref a0), .val (.int kd), .val (.int (kd % (10 : Int32)))] [(.ref a0)])) rfl rfl (hb hby d12_58)
  refine Run.st (S' := T2.setTop (mkF m 62 #[.val (.ref a0), .val (.int kd), .val (.int (kd % (10 : Int32)))] [(.int (kd % (10 : Int32))), (.ref aR)])) (fun _ k => st2 _ (XS.iloadN X2.here hx rfl (hb hby d12_61) rfl k)) ?_
  obtain ⟨cl3, Ar3, qa3, Sa3, Na3, Ha3, Ga3⟩ := id V_dr
  have hin3 : ¬ ((kd % (10 : Int32)) < 0 ∨ cl3.slots.size ≤ ((kd % (10 : Int32))).toNatClampNeg) := inb_of Sa3 (inb32 (show (10 : Int32).toInt = 10 from by decide) (own_m10 hkd).1 (own_m10 hkd).2)
  have hat3 : cl3.slots[((kd % (10 : Int32))).toNatClampNeg]? = some (.int (dr.getD ((kd % (10 : Int32))).toNatClampNeg 0)) := Has.at Ha3 hin3 (own_get _ _)
  refine Run.st (S' := T2.setTop (mkF m 89 #[.val (.ref a0), .val (.int kd), .val (.int (kd % (10 : Int32)))] [(.ref a0)])) (fun _ k => X2.iaload hx (j := (kd % (10 : Int32))) (v := (.int (dr.getD ((kd % (10 : Int32))).toNatClampNeg 0))) (by rw [e2]; exact Ar3.1) (State.isArrayOf_alike hZ.alike Ar3.2.1) Ar3.2.2 hin3 hat3 (g := (mkF m 62 #[.val (.ref a0), .val (.int kd), .val (.int (kd % (10 : Int32)))] [(.int (kd % (10 : Int32))), (.ref aR)])) rfl rfl (hb hby d12_62) _ (XS.bipush X2.here hx rfl (hb hby d12_63) (XS.icmpYes X2.here hx rfl (pc0 := 65) (pc' := 88) rfl (hb hby d12_65) rfl (feq (show ¬ ((dr.getD ((kd % (10 : Int32))).toNatClampNeg 0) = (31 : Int32)) from hdr)).2 (by decide) (by decide) (XS.aloadN X2.here hx rfl (hb hby d12_88) rfl rfl k)))) ?_
  obtain ⟨T4, X4, e4, st4⟩ := getF X2 hx hZ hown (host := "") (Or.inl (hwi hw 77 rfl)) Via.refl e2 F_left (g := (mkF m 89 #[.val (.ref a0), .val (.int kd), .val (.int (kd % (10 : Int32)))] [(.ref a0)])) rfl rfl (hb hby d12_89)
  refine Run.st (S' := T4.setTop (mkF m 94 #[.val (.ref a0), .val (.int kd), .val (.int (kd % (10 : Int32)))] [(.int kd), (.ref aL), (.int kd), (.ref aL)])) (fun _ k => st4 _ (XS.iloadN X4.here hx rfl (hb hby d12_92) rfl (Jvm.Free.XT.dup2 X4.here hx rfl (hb hby d12_93) rfl rfl rfl k))) ?_
  obtain ⟨cl5, Ar5, qa5, Sa5, Na5, Ha5, Ga5⟩ := id V_left
  have hin5 : ¬ (kd < 0 ∨ cl5.slots.size ≤ (kd).toNatClampNeg) := inb_of Sa5 (own_inL (n := 40) (show (40 : Int32).toInt = 40 from by decide) (by decide) hkd)
  have hat5 : cl5.slots[(kd).toNatClampNeg]? = some (.int (lf.getD (kd).toNatClampNeg 0)) := Has.at Ha5 hin5 (own_get _ _)
  refine Run.st (S' := T4.setTop (mkF m 97 #[.val (.ref a0), .val (.int kd), .val (.int (kd % (10 : Int32)))] [(.int ((lf.getD (kd).toNatClampNeg 0) - (1 : Int32))), (.int kd), (.ref aL)])) (fun _ k => X4.iaload hx (j := kd) (v := (.int (lf.getD (kd).toNatClampNeg 0))) (by rw [e4]; exact Ar5.1) (State.isArrayOf_alike hZ.alike Ar5.2.1) Ar5.2.2 hin5 hat5 (g := (mkF m 94 #[.val (.ref a0), .val (.int kd), .val (.int (kd % (10 : Int32)))] [(.int kd), (.ref aL), (.int kd), (.ref aL)])) rfl rfl (hb hby d12_94) _ (XS.iconst X4.here hx rfl (hb hby d12_95) (XS.isub X4.here hx rfl (hb hby d12_96) rfl k))) ?_
  obtain ⟨cl6, Ar6, qa6, Sa6, Na6, Ha6, Ga6⟩ := V_left
  have hin6 : ¬ (kd < 0 ∨ cl6.slots.size ≤ (kd).toNatClampNeg) := inb_of Sa6 (own_inL (n := 40) (show (40 : Int32).toInt = 40 from by decide) (by decide) hkd)
  obtain ⟨T6, h6, X6, e6, W6, st6⟩ := stI X4 hx hZ e4 Ar6 (j := kd) hin6 (g := (mkF m 97 #[.val (.ref a0), .val (.int kd), .val (.int (kd % (10 : Int32)))] [(.int ((lf.getD (kd).toNatClampNeg 0) - (1 : Int32))), (.int kd), (.ref aL)])) rfl rfl (hb hby d12_97)
  have V_left := Arv.set Ar6 qa6 Sa6 Na6 Ha6 Ga6 rfl W6 (kd).toNatClampNeg rfl (own_pos (show (40 : Int32).toInt = (40 : Nat) from by decide) hll (own_inL (n := 40) (show (40 : Int32).toInt = 40 from by decide) (by decide) hkd))
  rw [own_set] at V_left
  have OL := OL.wr W6 g_aL
  have E_a0 := E_a0.wr W6
  have F_suits := F_suits.other W6 (Or.inl ne_a0__aL)
  have F_left := F_left.other W6 (Or.inl ne_a0__aL)
  have F_dr := F_dr.other W6 (Or.inl ne_a0__aL)
  have F_ds := F_ds.other W6 (Or.inl ne_a0__aL)
  have F_sd := F_sd.other W6 (Or.inl ne_a0__aL)
  have F_dt := F_dt.other W6 (Or.inl ne_a0__aL)
  have F_dk := F_dk.other W6 (Or.inl ne_a0__aL)
  have V_dr := V_dr.other W6 (Ne.symm ne_aL__aR)
  have V_ds := V_ds.other W6 (Ne.symm ne_aL__aS)
  have N6 := Fr.snoc X6 N1 g_aL
  have Kp := Kp.wr W6 (Or.inl (by simp))
  have Zn := Nat.le_trans Zn (Nat.le_of_eq W6.size.symm)
  refine Run.st (S' := T6.setTop (mkF m 99 #[.val (.ref a0), .val (.int kd), .val (.int (kd % (10 : Int32)))] [(.ref a0)])) (fun _ k => st6 _ (XS.aloadN X6.here hx rfl (hb hby d12_98) rfl rfl k)) ?_
  obtain ⟨T7, X7, e7, st7⟩ := getF X6 hx hZ hown (host := "") (Or.inl (hwi hw 14 rfl)) Via.refl e6 F_dr (g := (mkF m 99 #[.val (.ref a0), .val (.int kd), .val (.int (kd % (10 : Int32)))] [(.ref a0)])) rfl rfl (hb hby d12_99)
  refine Run.st (S' := T7.setTop (mkF m 104 #[.val (.ref a0), .val (.int kd), .val (.int (kd % (10 : Int32)))] [(.int (kd % (10 : Int32))), (.ref aR), (.int (kd % (10 : Int32))), (.ref aR)])) (fun _ k => st7 _ (XS.iloadN X7.here hx rfl (hb hby d12_102) rfl (Jvm.Free.XT.dup2 X7.here hx rfl (hb hby d12_103) rfl rfl rfl k))) ?_
  obtain ⟨cl8, Ar8, qa8, Sa8, Na8, Ha8, Ga8⟩ := id V_dr
  have hin8 : ¬ ((kd % (10 : Int32)) < 0 ∨ cl8.slots.size ≤ ((kd % (10 : Int32))).toNatClampNeg) := inb_of Sa8 (inb32 (show (10 : Int32).toInt = 10 from by decide) (own_m10 hkd).1 (own_m10 hkd).2)
  have hat8 : cl8.slots[((kd % (10 : Int32))).toNatClampNeg]? = some (.int (dr.getD ((kd % (10 : Int32))).toNatClampNeg 0)) := Has.at Ha8 hin8 (own_get _ _)
  refine Run.st (S' := T7.setTop (mkF m 107 #[.val (.ref a0), .val (.int kd), .val (.int (kd % (10 : Int32)))] [(.int ((dr.getD ((kd % (10 : Int32))).toNatClampNeg 0) + (1 : Int32))), (.int (kd % (10 : Int32))), (.ref aR)])) (fun _ k => X7.iaload hx (j := (kd % (10 : Int32))) (v := (.int (dr.getD ((kd % (10 : Int32))).toNatClampNeg 0))) (by rw [e7]; exact Ar8.1) (State.isArrayOf_alike hZ.alike Ar8.2.1) Ar8.2.2 hin8 hat8 (g := (mkF m 104 #[.val (.ref a0), .val (.int kd), .val (.int (kd % (10 : Int32)))] [(.int (kd % (10 : Int32))), (.ref aR), (.int (kd % (10 : Int32))), (.ref aR)])) rfl rfl (hb hby d12_104) _ (XS.iconst X7.here hx rfl (hb hby d12_105) (XS.iadd X7.here hx rfl (hb hby d12_106) rfl k))) ?_
  obtain ⟨cl9, Ar9, qa9, Sa9, Na9, Ha9, Ga9⟩ := V_dr
  have hin9 : ¬ ((kd % (10 : Int32)) < 0 ∨ cl9.slots.size ≤ ((kd % (10 : Int32))).toNatClampNeg) := inb_of Sa9 (inb32 (show (10 : Int32).toInt = 10 from by decide) (own_m10 hkd).1 (own_m10 hkd).2)
  obtain ⟨T9, h9, X9, e9, W9, st9⟩ := stI X7 hx hZ e7 Ar9 (j := (kd % (10 : Int32))) hin9 (g := (mkF m 107 #[.val (.ref a0), .val (.int kd), .val (.int (kd % (10 : Int32)))] [(.int ((dr.getD ((kd % (10 : Int32))).toNatClampNeg 0) + (1 : Int32))), (.int (kd % (10 : Int32))), (.ref aR)])) rfl rfl (hb hby d12_107)
  have V_dr := Arv.set Ar9 qa9 Sa9 Na9 Ha9 Ga9 rfl W9 ((kd % (10 : Int32))).toNatClampNeg rfl (own_pos (show (10 : Int32).toInt = (10 : Nat) from by decide) hlr (inb32 (show (10 : Int32).toInt = 10 from by decide) (own_m10 hkd).1 (own_m10 hkd).2))
  rw [own_set] at V_dr
  have OL := OL.wr W9 g_aR
  have E_a0 := E_a0.wr W9
  have F_suits := F_suits.other W9 (Or.inl ne_a0__aR)
  have F_left := F_left.other W9 (Or.inl ne_a0__aR)
  have F_dr := F_dr.other W9 (Or.inl ne_a0__aR)
  have F_ds := F_ds.other W9 (Or.inl ne_a0__aR)
  have F_sd := F_sd.other W9 (Or.inl ne_a0__aR)
  have F_dt := F_dt.other W9 (Or.inl ne_a0__aR)
  have F_dk := F_dk.other W9 (Or.inl ne_a0__aR)
  have V_left := V_left.other W9 ne_aL__aR
  have V_ds := V_ds.other W9 (Ne.symm ne_aR__aS)
  have N9 := Fr.snoc X9 N6 g_aR
  have Kp := Kp.wr W9 (Or.inl (by simp))
  have Zn := Nat.le_trans Zn (Nat.le_of_eq W9.size.symm)
  refine Run.st (S' := T9.setTop (mkF m 109 #[.val (.ref a0), .val (.int kd), .val (.int (kd % (10 : Int32)))] [(.ref a0)])) (fun _ k => st9 _ (XS.aloadN X9.here hx rfl (hb hby d12_108) rfl rfl k)) ?_
  obtain ⟨T10, X10, e10, st10⟩ := getF X9 hx hZ hown (host := "") (Or.inl (hwi hw 20 rfl)) Via.refl e9 F_suits (g := (mkF m 109 #[.val (.ref a0), .val (.int kd), .val (.int (kd % (10 : Int32)))] [(.ref a0)])) rfl rfl (hb hby d12_109)
  refine Run.st (S' := T10.setTop (mkF m 112 #[.val (.ref a0), .val (.int kd), .val (.int (kd % (10 : Int32)))] [(.ref s_MAT)])) (fun _ k => st10 _ k) ?_
  have u_S_MAT := S_MAT.ext OL.2
  obtain ⟨T11, X11, e11, st11⟩ := getS2 X10 hx hZ hown (host := "") (Or.inl (hwi hw 22 rfl)) Via.refl e10 u_S_MAT (g := (mkF m 112 #[.val (.ref a0), .val (.int kd), .val (.int (kd % (10 : Int32)))] [(.ref s_MAT)])) rfl (hb hby d12_112)
  refine Run.st (S' := T11.setTop (mkF m 119 #[.val (.ref a0), .val (.int kd), .val (.int (kd % (10 : Int32)))] [(.ref a0)])) (fun _ k => st11 _ (Jvm.RoadKit.acmp (g := (mkF m 115 #[.val (.ref a0), .val (.int kd), .val (.int (kd % (10 : Int32)))] [(.ref s_MAT), (.ref s_MAT)])) X11 hx rfl rfl rfl (pc0 := 115) (pc' := 118) (same := true) rfl (hb hby d12_115) rfl (decide_eq_true rfl) (by decide) (by decide) (XS.aloadN X11.here hx rfl (hb hby d12_118) rfl rfl k))) ?_
  obtain ⟨T12, X12, e12, st12⟩ := getF X11 hx hZ hown (host := "") (Or.inl (hwi hw 18 rfl)) Via.refl e11 F_ds (g := (mkF m 119 #[.val (.ref a0), .val (.int kd), .val (.int (kd % (10 : Int32)))] [(.ref a0)])) rfl rfl (hb hby d12_119)
  refine Run.st (S' := T12.setTop (mkF m 127 #[.val (.ref a0), .val (.int kd), .val (.int (kd % (10 : Int32)))] [(.int (kd / (10 : Int32))), (.ref aS), (.int (kd / (10 : Int32))), (.ref aS)])) (fun _ k => st12 _ (XS.iloadN X12.here hx rfl (hb hby d12_122) rfl (XS.bipush X12.here hx rfl (hb hby d12_123) (XS.idiv X12.here hx rfl (hb hby d12_125) rfl (by decide) (Jvm.Free.XT.dup2 X12.here hx rfl (hb hby d12_126) rfl rfl rfl k))))) ?_
  obtain ⟨cl13, Ar13, qa13, Sa13, Na13, Ha13, Ga13⟩ := id V_ds
  have hin13 : ¬ ((kd / (10 : Int32)) < 0 ∨ cl13.slots.size ≤ ((kd / (10 : Int32))).toNatClampNeg) := inb_of Sa13 (inb32 (show (4 : Int32).toInt = 4 from by decide) (own_d10 hkd).1 (own_d10 hkd).2)
  have hat13 : cl13.slots[((kd / (10 : Int32))).toNatClampNeg]? = some (.int (ds.getD ((kd / (10 : Int32))).toNatClampNeg 0)) := Has.at Ha13 hin13 (own_get _ _)
  refine Run.st (S' := T12.setTop (mkF m 131 #[.val (.ref a0), .val (.int kd), .val (.int (kd % (10 : Int32)))] [(.int ((ds.getD ((kd / (10 : Int32))).toNatClampNeg 0) + (1 : Int32))), (.int (kd / (10 : Int32))), (.ref aS), (.int (ds.getD ((kd / (10 : Int32))).toNatClampNeg 0))])) (fun _ k => X12.iaload hx (j := (kd / (10 : Int32))) (v := (.int (ds.getD ((kd / (10 : Int32))).toNatClampNeg 0))) (by rw [e12]; exact Ar13.1) (State.isArrayOf_alike hZ.alike Ar13.2.1) Ar13.2.2 hin13 hat13 (g := (mkF m 127 #[.val (.ref a0), .val (.int kd), .val (.int (kd % (10 : Int32)))] [(.int (kd / (10 : Int32))), (.ref aS), (.int (kd / (10 : Int32))), (.ref aS)])) rfl rfl (hb hby d12_127) _ (own_dupX2 X12.here hx rfl (hb hby d12_128) rfl rfl rfl rfl (XS.iconst X12.here hx rfl (hb hby d12_129) (XS.iadd X12.here hx rfl (hb hby d12_130) rfl k)))) ?_
  obtain ⟨cl14, Ar14, qa14, Sa14, Na14, Ha14, Ga14⟩ := V_ds
  have hin14 : ¬ ((kd / (10 : Int32)) < 0 ∨ cl14.slots.size ≤ ((kd / (10 : Int32))).toNatClampNeg) := inb_of Sa14 (inb32 (show (4 : Int32).toInt = 4 from by decide) (own_d10 hkd).1 (own_d10 hkd).2)
  obtain ⟨T14, h14, X14, e14, W14, st14⟩ := stI X12 hx hZ e12 Ar14 (j := (kd / (10 : Int32))) hin14 (g := (mkF m 131 #[.val (.ref a0), .val (.int kd), .val (.int (kd % (10 : Int32)))] [(.int ((ds.getD ((kd / (10 : Int32))).toNatClampNeg 0) + (1 : Int32))), (.int (kd / (10 : Int32))), (.ref aS), (.int (ds.getD ((kd / (10 : Int32))).toNatClampNeg 0))])) rfl rfl (hb hby d12_131)
  have V_ds := Arv.set Ar14 qa14 Sa14 Na14 Ha14 Ga14 rfl W14 ((kd / (10 : Int32))).toNatClampNeg rfl (own_pos (show (4 : Int32).toInt = (4 : Nat) from by decide) hls (inb32 (show (4 : Int32).toInt = 4 from by decide) (own_d10 hkd).1 (own_d10 hkd).2))
  rw [own_set] at V_ds
  have OL := OL.wr W14 g_aS
  have E_a0 := E_a0.wr W14
  have F_suits := F_suits.other W14 (Or.inl ne_a0__aS)
  have F_left := F_left.other W14 (Or.inl ne_a0__aS)
  have F_dr := F_dr.other W14 (Or.inl ne_a0__aS)
  have F_ds := F_ds.other W14 (Or.inl ne_a0__aS)
  have F_sd := F_sd.other W14 (Or.inl ne_a0__aS)
  have F_dt := F_dt.other W14 (Or.inl ne_a0__aS)
  have F_dk := F_dk.other W14 (Or.inl ne_a0__aS)
  have V_left := V_left.other W14 ne_aL__aS
  have V_dr := V_dr.other W14 ne_aR__aS
  have N14 := Fr.snoc X14 N9 g_aS
  have Kp := Kp.wr W14 (Or.inl (by simp))
  have Zn := Nat.le_trans Zn (Nat.le_of_eq W14.size.symm)
  refine Run.st (S' := T14.setTop (mkF m 137 #[.val (.ref a0), .val (.int kd), .val (.int (kd % (10 : Int32)))] [(.ref a0), (.ref a0)])) (fun _ k => st14 _ (XS.ifNo X14.here hx rfl (hb hby d12_132) rfl ((if0 _ _).trans (teq (show (ds.getD ((kd / (10 : Int32))).toNatClampNeg 0) = (0 : Int32) from hds)).2) (XS.aloadN X14.here hx rfl (hb hby d12_135) rfl rfl (XS.dup X14.here hx rfl (hb hby d12_136) rfl rfl k)))) ?_
  obtain ⟨T15, X15, e15, st15⟩ := getF X14 hx hZ hown (host := "") (Or.inl (hwi hw 130 rfl)) Via.refl e14 F_sd (g := (mkF m 137 #[.val (.ref a0), .val (.int kd), .val (.int (kd % (10 : Int32)))] [(.ref a0), (.ref a0)])) rfl rfl (hb hby d12_137)
  refine Run.st (S' := T15.setTop (mkF m 142 #[.val (.ref a0), .val (.int kd), .val (.int (kd % (10 : Int32)))] [(.int (1 : Int32)), (.ref a0)])) (fun _ k => st15 _ (XS.iconst X15.here hx rfl (hb hby d12_140) (XS.iadd X15.here hx rfl (hb hby d12_141) rfl k))) ?_
  obtain ⟨T16, h16, X16, e16, W16, st16⟩ := putF X15 hx hZ hown (host := "") (Or.inl (hwi hw 130 rfl)) Via.refl e15 F_sd E_a0 (Or.inl (hwi hw 131 rfl)) (hwi hw 2 rfl) (ty := .int) (by decide) rfl rfl (g := (mkF m 142 #[.val (.ref a0), .val (.int kd), .val (.int (kd % (10 : Int32)))] [(.int (1 : Int32)), (.ref a0)])) rfl rfl (hb hby d12_142)
  have F_sd := F_sd.same W16
  have OL := OL.wr W16 g_a0
  have E_a0 := E_a0.wr W16
  have F_suits := F_suits.other W16 (Or.inr (slot_ne (Or.inr (hwi hw 21 rfl)) (Or.inl (hwi hw 131 rfl)) (by decide) (t := (.object "com/example/sidewager/sidewager/analysis/Shoe$Suits")) (t' := .int) (by decide) (by decide)))
  have F_left := F_left.other W16 (Or.inr (slot_ne (Or.inr (hwi hw 78 rfl)) (Or.inl (hwi hw 131 rfl)) (by decide) (t := (.array .int)) (t' := .int) (by decide) (by decide)))
  have F_dr := F_dr.other W16 (Or.inr (slot_ne (Or.inr (hwi hw 15 rfl)) (Or.inl (hwi hw 131 rfl)) (by decide) (t := (.array .int)) (t' := .int) (by decide) (by decide)))
  have F_ds := F_ds.other W16 (Or.inr (slot_ne (Or.inr (hwi hw 19 rfl)) (Or.inl (hwi hw 131 rfl)) (by decide) (t := (.array .int)) (t' := .int) (by decide) (by decide)))
  have F_dt := F_dt.other W16 (Or.inr (slot_ne (Or.inl (hwi hw 102 rfl)) (Or.inl (hwi hw 131 rfl)) (by decide) (t := .int) (t' := .int) (by decide) (by decide)))
  have F_dk := F_dk.other W16 (Or.inr (slot_ne (Or.inl (hwi hw 126 rfl)) (Or.inl (hwi hw 131 rfl)) (by decide) (t := .long) (t' := .int) (by decide) (by decide)))
  have V_left := V_left.other W16 (Ne.symm ne_a0__aL)
  have V_dr := V_dr.other W16 (Ne.symm ne_a0__aR)
  have V_ds := V_ds.other W16 (Ne.symm ne_a0__aS)
  have N16 := Fr.snoc X16 N14 g_a0
  have Kp := Kp.wr W16 (Or.inl (by simp))
  have Zn := Nat.le_trans Zn (Nat.le_of_eq W16.size.symm)
  refine Run.st (S' := T16.setTop (mkF m 147 #[.val (.ref a0), .val (.int kd), .val (.int (kd % (10 : Int32)))] [(.ref a0), (.ref a0)])) (fun _ k => st16 _ (XS.aloadN X16.here hx rfl (hb hby d12_145) rfl rfl (XS.dup X16.here hx rfl (hb hby d12_146) rfl rfl k))) ?_
  obtain ⟨T17, X17, e17, st17⟩ := getF X16 hx hZ hown (host := "") (Or.inl (hwi hw 101 rfl)) Via.refl e16 F_dt (g := (mkF m 147 #[.val (.ref a0), .val (.int kd), .val (.int (kd % (10 : Int32)))] [(.ref a0), (.ref a0)])) rfl rfl (hb hby d12_147)
  refine Run.st (S' := T17.setTop (mkF m 152 #[.val (.ref a0), .val (.int kd), .val (.int (kd % (10 : Int32)))] [(.int (dt + (1 : Int32))), (.ref a0)])) (fun _ k => st17 _ (XS.iconst X17.here hx rfl (hb hby d12_150) (XS.iadd X17.here hx rfl (hb hby d12_151) rfl k))) ?_
  obtain ⟨T18, h18, X18, e18, W18, st18⟩ := putF X17 hx hZ hown (host := "") (Or.inl (hwi hw 101 rfl)) Via.refl e17 F_dt E_a0 (Or.inl (hwi hw 102 rfl)) (hwi hw 2 rfl) (ty := .int) (by decide) rfl rfl (g := (mkF m 152 #[.val (.ref a0), .val (.int kd), .val (.int (kd % (10 : Int32)))] [(.int (dt + (1 : Int32))), (.ref a0)])) rfl rfl (hb hby d12_152)
  have F_dt := F_dt.same W18
  have OL := OL.wr W18 g_a0
  have E_a0 := E_a0.wr W18
  have F_suits := F_suits.other W18 (Or.inr (slot_ne (Or.inr (hwi hw 21 rfl)) (Or.inl (hwi hw 102 rfl)) (by decide) (t := (.object "com/example/sidewager/sidewager/analysis/Shoe$Suits")) (t' := .int) (by decide) (by decide)))
  have F_left := F_left.other W18 (Or.inr (slot_ne (Or.inr (hwi hw 78 rfl)) (Or.inl (hwi hw 102 rfl)) (by decide) (t := (.array .int)) (t' := .int) (by decide) (by decide)))
  have F_dr := F_dr.other W18 (Or.inr (slot_ne (Or.inr (hwi hw 15 rfl)) (Or.inl (hwi hw 102 rfl)) (by decide) (t := (.array .int)) (t' := .int) (by decide) (by decide)))
  have F_ds := F_ds.other W18 (Or.inr (slot_ne (Or.inr (hwi hw 19 rfl)) (Or.inl (hwi hw 102 rfl)) (by decide) (t := (.array .int)) (t' := .int) (by decide) (by decide)))
  have F_sd := F_sd.other W18 (Or.inr (slot_ne (Or.inl (hwi hw 131 rfl)) (Or.inl (hwi hw 102 rfl)) (by decide) (t := .int) (t' := .int) (by decide) (by decide)))
  have F_dk := F_dk.other W18 (Or.inr (slot_ne (Or.inl (hwi hw 126 rfl)) (Or.inl (hwi hw 102 rfl)) (by decide) (t := .long) (t' := .int) (by decide) (by decide)))
  have V_left := V_left.other W18 (Ne.symm ne_a0__aL)
  have V_dr := V_dr.other W18 (Ne.symm ne_a0__aR)
  have V_ds := V_ds.other W18 (Ne.symm ne_a0__aS)
  have N18 := Fr.snoc X18 N16 g_a0
  have Kp := Kp.wr W18 (Or.inl (by simp))
  have Zn := Nat.le_trans Zn (Nat.le_of_eq W18.size.symm)
  refine Run.st (S' := T18.setTop (mkF m 157 #[.val (.ref a0), .val (.int kd), .val (.int (kd % (10 : Int32)))] [(.ref a0), (.ref a0)])) (fun _ k => st18 _ (XS.aloadN X18.here hx rfl (hb hby d12_155) rfl rfl (XS.dup X18.here hx rfl (hb hby d12_156) rfl rfl k))) ?_
  obtain ⟨T19, X19, e19, st19⟩ := getF X18 hx hZ hown (host := "") (Or.inl (hwi hw 125 rfl)) Via.refl e18 F_dk (g := (mkF m 157 #[.val (.ref a0), .val (.int kd), .val (.int (kd % (10 : Int32)))] [(.ref a0), (.ref a0)])) rfl rfl (hb hby d12_157)
  refine Run.st (S' := T19.setTop (mkF m 161 #[.val (.ref a0), .val (.int kd), .val (.int (kd % (10 : Int32)))] [(.int (kd % (10 : Int32))), (.long dk), (.ref a0)])) (fun _ k => st19 _ (XS.iloadN X19.here hx rfl (hb hby d12_160) rfl k)) ?_
  obtain ⟨_, _, ⟨T20, L20, k20, n20⟩, -, X20, ⟨Lc20, hQ20, l20, y20, z20⟩, st20⟩ := Jvm.LawKit.callS X19 hx (y := (⟨"com/example/sidewager/sidewager/analysis/Shoe", "keyOf", "(I)J"⟩ : MethodName)) hown (mvT hZ (hwi hw 127 rfl)) (mvT hZ (hwi hw 128 rfl)) (mvT hZ (hwi hw 3 rfl)) (mvT hZ (hwi hw 129 rfl)) (by decide) (backOf (W := 3) (rmKey l Z aV hw [] (kd % (10 : Int32)) h18 n0 Zn ) hZ (hwi hw 129 rfl) (hwi hw 3 rfl) (by decide) (by decide)) (g := (mkF m 161 #[.val (.ref a0), .val (.int kd), .val (.int (kd % (10 : Int32)))] [(.int (kd % (10 : Int32))), (.long dk), (.ref a0)])) rfl (by rw [hml]; rfl) (argsL := [(.int (kd % (10 : Int32)))]) (rest := [(.long dk), (.ref a0)]) (lenOf pd_6 rfl) rfl (by show 2 * 0 + _ ≤ _; exact Nat.le_of_eq rfl) (hb hby d12_161) (fun _ _ => ⟨rfl, e19, (by decide : 0 + 0 ≤ _), (by decide : 0 + 0 ≤ _)⟩)
  dsimp only [Pt.U, Pt.locs, Pt.cells, Pt.slots] at X20 l20 y20 z20 st20 hQ20
  replace l20 := l20.symm; replace y20 := y20.symm; replace z20 := z20.symm; subst l20 y20 z20
  obtain ⟨rfl, N20q, e20⟩ := hQ20
  have N20 := Fr.app N18 N20q
  refine Run.st (S' := T20.setTop (mkF m 165 #[.val (.ref a0), .val (.int kd), .val (.int (kd % (10 : Int32)))] [(.long (dk + (FKey (kd % (10 : Int32))))), (.ref a0)])) (fun _ k => st20 _ (XS.ladd X20.here hx rfl (hb hby d12_164) rfl k)) ?_
  obtain ⟨T21, h21, X21, e21, W21, st21⟩ := putF X20 hx hZ hown (host := "") (Or.inl (hwi hw 125 rfl)) Via.refl e20 F_dk E_a0 (Or.inl (hwi hw 126 rfl)) (hwi hw 2 rfl) (ty := .long) (by decide) rfl rfl (g := (mkF m 165 #[.val (.ref a0), .val (.int kd), .val (.int (kd % (10 : Int32)))] [(.long (dk + (FKey (kd % (10 : Int32))))), (.ref a0)])) rfl rfl (hb hby d12_165)
  have F_dk := F_dk.same W21
  have OL := OL.wr W21 g_a0
  have E_a0 := E_a0.wr W21
  have F_suits := F_suits.other W21 (Or.inr (slot_ne (Or.inr (hwi hw 21 rfl)) (Or.inl (hwi hw 126 rfl)) (by decide) (t := (.object "com/example/sidewager/sidewager/analysis/Shoe$Suits")) (t' := .long) (by decide) (by decide)))
  have F_left := F_left.other W21 (Or.inr (slot_ne (Or.inr (hwi hw 78 rfl)) (Or.inl (hwi hw 126 rfl)) (by decide) (t := (.array .int)) (t' := .long) (by decide) (by decide)))
  have F_dr := F_dr.other W21 (Or.inr (slot_ne (Or.inr (hwi hw 15 rfl)) (Or.inl (hwi hw 126 rfl)) (by decide) (t := (.array .int)) (t' := .long) (by decide) (by decide)))
  have F_ds := F_ds.other W21 (Or.inr (slot_ne (Or.inr (hwi hw 19 rfl)) (Or.inl (hwi hw 126 rfl)) (by decide) (t := (.array .int)) (t' := .long) (by decide) (by decide)))
  have F_sd := F_sd.other W21 (Or.inr (slot_ne (Or.inl (hwi hw 131 rfl)) (Or.inl (hwi hw 126 rfl)) (by decide) (t := .int) (t' := .long) (by decide) (by decide)))
  have F_dt := F_dt.other W21 (Or.inr (slot_ne (Or.inl (hwi hw 102 rfl)) (Or.inl (hwi hw 126 rfl)) (by decide) (t := .int) (t' := .long) (by decide) (by decide)))
  have V_left := V_left.other W21 (Ne.symm ne_a0__aL)
  have V_dr := V_dr.other W21 (Ne.symm ne_a0__aR)
  have V_ds := V_ds.other W21 (Ne.symm ne_a0__aS)
  have N21 := Fr.snoc X21 N20 g_a0
  have Kp := Kp.wr W21 (Or.inl (by simp))
  have Zn := Nat.le_trans Zn (Nat.le_of_eq W21.size.symm)
  refine Run.st (S' := T21.setTop (mkF m 168 #[.val (.ref a0), .val (.int kd), .val (.int (kd % (10 : Int32)))] [])) (fun _ k => st21 _ k) ?_
  refine Run.outV X21 hx Bd.notSynchronized Bd.returns (hb hby d12_168) (by decide) (by decide) ?_
  rw [e21]
  exact ⟨rfl, N21, Kp, E_a0, F_suits, F_left, F_dr, F_ds, F_sd, F_dt, F_dk, V_left, V_dr, V_ds⟩
theorem ef_DlM (m : MethodId) (a0 : Addr) (kd : Int32) : entryFrame m #[(.ref a0), (.int kd)] 3 = mkF m 0 #[.val (.ref a0), .val (.int kd), .unset] [] := by first | (simp [entryFrame, mkF, argsToLocals, Value.category]; done) | rfl
def QDlM (Z : State) (a0 : Addr) (kd : Int32) (u : Addr) (s_MAT : Addr) (aL : Addr) (kL : ClassId) (lf : List Int32) (aR : Addr) (kR : ClassId) (dr : List Int32) (aS : Addr) (kS : ClassId) (ds : List Int32) (dt : Int32) (dk : Int64) (h0 : Heap) (n0 : Nat) (v : Option Value) (h : Heap) (L : List Loc) : Prop := v = none ∧ Fr n0 L ∧ Keep h0 h [a0, aL, aR, aS] ∧ Exa Z h a0 "com/example/sidewager/sidewager/analysis/Shoe" ∧ Fld Z h a0 "com/example/sidewager/sidewager/analysis/Shoe" "suits" "Lcom/example/sidewager/sidewager/analysis/Shoe$Suits;" (.ref s_MAT) ∧ Fld Z h a0 "com/example/sidewager/sidewager/analysis/Shoe" "left" "[I" (.ref aL) ∧ Fld Z h a0 "com/example/sidewager/sidewager/analysis/Shoe" "dealtOfRank" "[I" (.ref aR) ∧ Fld Z h a0 "com/example/sidewager/sidewager/analysis/Shoe" "dealtOfSuit" "[I" (.ref aS) ∧ Fld Z h a0 "com/example/sidewager/sidewager/analysis/Shoe" "suitsDealt" "I" (.int (1 : Int32)) ∧ Fld Z h a0 "com/example/sidewager/sidewager/analysis/Shoe" "dealt" "I" (.int (dt + (1 : Int32))) ∧ Fld Z h a0 "com/example/sidewager/sidewager/analysis/Shoe" "dealtKey" "J" (.long (dk + (FKey (kd % (10 : Int32))))) ∧ Arv Z h aL kL .int (40 : Int32) ((lf.set (kd).toNatClampNeg ((lf.getD (kd).toNatClampNeg 0) - (1 : Int32))).map Value.int) (.int (0 : Int32)) ∧ Arv Z h aR kR .int (10 : Int32) ((dr.set ((kd % (10 : Int32))).toNatClampNeg ((dr.getD ((kd % (10 : Int32))).toNatClampNeg 0) + (1 : Int32))).map Value.int) (.int (0 : Int32)) ∧ Arv Z h aS kS .int (4 : Int32) ((ds.set ((kd / (10 : Int32))).toNatClampNeg ((ds.getD ((kd / (10 : Int32))).toNatClampNeg 0) + (1 : Int32))).map Value.int) (.int (0 : Int32))
set_option maxRecDepth 65536 in
set_option maxHeartbeats 40000000 in
theorem rmDlM (l : Launch) (Z : State) (aV : Array Value) (hw : ∀ d ∈ tables_1, d.before aV Z = true) (ws : List Jvm.Cond) (a0 : Addr) (kd : Int32) (u : Addr) (s_MAT : Addr) (aL : Addr) (kL : ClassId) (lf : List Int32) (aR : Addr) (kR : ClassId) (dr : List Int32) (aS : Addr) (kS : ClassId) (ds : List Int32) (dt : Int32) (dk : Int64) (h0 : Heap) (n0 : Nat) (Zn : n0 ≤ h0.size) (OL : Old Z n0 h0) (hne : u ≠ s_MAT) (hkd : 0 ≤ kd.toInt ∧ kd.toInt < 10) (hll : lf.length = 40) (hlr : dr.length = 10) (hls : ds.length = 4) (hway : ¬ (FWaM a0 kd u s_MAT (1 : Int32) aL kL lf) = (0 : Int32)) (hdr : ¬ (dr.getD (kd % (10 : Int32)).toNatClampNeg 0) = (31 : Int32)) (g_a0 : n0 ≤ a0) (g_aL : n0 ≤ aL) (g_aR : n0 ≤ aR) (g_aS : n0 ≤ aS) (ne_a0__aL : a0 ≠ aL) (ne_a0__aR : a0 ≠ aR) (ne_a0__aS : a0 ≠ aS) (ne_aL__aR : aL ≠ aR) (ne_aL__aS : aL ≠ aS) (ne_aR__aS : aR ≠ aS) (hds : ¬ ((ds.getD (kd / (10 : Int32)).toNatClampNeg 0) = (0 : Int32))) (E_a0 : Exa Z h0 a0 "com/example/sidewager/sidewager/analysis/Shoe") (F_suits : Fld Z h0 a0 "com/example/sidewager/sidewager/analysis/Shoe" "suits" "Lcom/example/sidewager/sidewager/analysis/Shoe$Suits;" (.ref s_MAT)) (F_left : Fld Z h0 a0 "com/example/sidewager/sidewager/analysis/Shoe" "left" "[I" (.ref aL)) (F_dr : Fld Z h0 a0 "com/example/sidewager/sidewager/analysis/Shoe" "dealtOfRank" "[I" (.ref aR)) (F_ds : Fld Z h0 a0 "com/example/sidewager/sidewager/analysis/Shoe" "dealtOfSuit" "[I" (.ref aS)) (F_sd : Fld Z h0 a0 "com/example/sidewager/sidewager/analysis/Shoe" "suitsDealt" "I" (.int (1 : Int32))) (F_dt : Fld Z h0 a0 "com/example/sidewager/sidewager/analysis/Shoe" "dealt" "I" (.int dt)) (F_dk : Fld Z h0 a0 "com/example/sidewager/sidewager/analysis/Shoe" "dealtKey" "J" (.long dk)) (V_left : Arv Z h0 aL kL .int (40 : Int32) (lf.map Value.int) (.int (0 : Int32))) (V_dr : Arv Z h0 aR kR .int (10 : Int32) (dr.map Value.int) (.int (0 : Int32))) (V_ds : Arv Z h0 aS kS .int (4 : Int32) (ds.map Value.int) (.int (0 : Int32))) (S_IGN : Sta Z Z.heap "com/example/sidewager/sidewager/analysis/Shoe$Suits" "IGNORED" "Lcom/example/sidewager/sidewager/analysis/Shoe$Suits;" (.ref u)) (S_MAT : Sta Z Z.heap "com/example/sidewager/sidewager/analysis/Shoe$Suits" "MATCHED" "Lcom/example/sidewager/sidewager/analysis/Shoe$Suits;" (.ref s_MAT)) (S_SUITS : Sta Z Z.heap "com/example/sidewager/sidewager/analysis/Shoe" "SUITS" "I" (.int (4 : Int32))) :
    MetFree l (⟨"com/example/sidewager/sidewager/analysis/Shoe", "deal", "(I)V"⟩ : MethodName) (head1 (Jvm.Cond.code (⟨"com/example/sidewager/sidewager/analysis/Shoe", "deal", "(I)V"⟩ : MethodName) prog_12_method_17_code 3 none :: ws) ({ frames := 2, cells := 0, slots := 0, locals := 29 } : Room)) (fun a U => a = #[(.ref a0), (.int kd)] ∧ Z.Warmed39 U.vm ∧ U.heap = h0) (fun _ _ _ _ _ => True) (fun _ U o U' => ∃ v L, o = .returned v ∧ QDlM Z a0 kd u s_MAT aL kL lf aR kR dr aS kS ds dt dk h0 n0 v U'.heap L ∧ FrameEnd U o U' L ({ frames := 2, cells := 0, slots := 0, locals := 29 } : Room).cells ({ frames := 2, cells := 0, slots := 0, locals := 29 } : Room).slots) := by
  refine MetFree.of_bodySF (plainFor_of_name pn_1) hisR ?_
  intro p e s m args below meth c s₁ Bd hml0 hP hK
  obtain ⟨rfl, hZ, hh⟩ := hP
  have hx := Bd.exec
  have hby := Bd.bytes
  have hml : c.maxLocals = 3 := hml0
  have hown : s.vm.findClass "com/example/sidewager/sidewager/analysis/Shoe" = some m.cls := findClass_of_methodNamed Bd.named
  have hnm := (name_of_methodNamed Bd.named Bd.method).1
  have X0 : Stand p l e ({ frames := 2, cells := 0, slots := 0, locals := 29 } : Room) s m #[(.ref a0), (.int kd)] below meth c s₁ [] 0 0 := Stand.of_body Bd
  have e0 : s₁.heap = h0 := by rw [← hh, Bd.state]; rfl
  have N0 := Fr.nil n0
  have Kp := Keep.refl h0 [a0, aL, aR, aS]
  show Run p e below (Ends s (QDlM Z a0 kd u s_MAT aL kL lf aR kR dr aS kS ds dt dk h0 n0) ({ frames := 2, cells := 0, slots := 0, locals := 29 } : Room).cells ({ frames := 2, cells := 0, slots := 0, locals := 29 } : Room).slots) _
  refine Run.st (S' := s₁.setTop (mkF m 0 #[.val (.ref a0), .val (.int kd), .unset] [])) (fun t k => castTop (ef_DlM m a0 kd) k) ?_
  refine Run.st (S' := s₁.setTop (mkF m 2 #[.val (.ref a0), .val (.int kd), .unset] [(.int kd), (.ref a0)])) (fun _ k => XS.aloadN X0.here hx rfl (hb hby d12_0) rfl rfl (XS.iloadN X0.here hx rfl (hb hby d12_1) rfl k)) ?_
  obtain ⟨cq1, kq1, q1a, q1b, q1c⟩ := isOf hZ e0 E_a0
  obtain ⟨_, _, ⟨T1, L1, k1, n1⟩, -, X1, ⟨Lc1, hQ1, l1, y1, z1⟩, st1⟩ := X0.virtualBack hx (y := (⟨"com/example/sidewager/sidewager/analysis/Shoe", "ways", "(I)I"⟩ : MethodName)) (z := (⟨"com/example/sidewager/sidewager/analysis/Shoe", "ways", "(I)I"⟩ : MethodName)) hown (mvT hZ (hwi hw 115 rfl)) (mvT hZ (hwi hw 116 rfl)) (notFace_of_selects (args := #[]) (mvT hZ (hwi hw 118 rfl))) (mvT hZ (hwi hw 118 rfl)) (mvT hZ (hwi hw 117 rfl)) (by decide) (backOf (W := 0) (rmWaM l Z aV hw [] a0 kd u s_MAT (1 : Int32) aL kL lf h0 n0 Zn OL hne hkd E_a0 F_suits S_IGN F_sd F_left V_left S_SUITS) hZ (hwi hw 119 rfl) (hwi hw 3 rfl) (by decide) (by decide)) q1a q1c (g := (mkF m 2 #[.val (.ref a0), .val (.int kd), .unset] [(.int kd), (.ref a0)])) rfl (by rw [hml]; rfl) (Steps.refl _) (argsL := [(.int kd)]) (rest := []) (lenOf pd_5 rfl) rfl (by show 2 * 0 + _ ≤ _; exact Nat.le_of_eq rfl) (hb hby d12_2) (fun _ _ => ⟨rfl, e0, (by decide : 0 + 0 ≤ _), (by decide : 0 + 0 ≤ _)⟩)
  dsimp only [Pt.U, Pt.locs, Pt.cells, Pt.slots] at X1 l1 y1 z1 st1 hQ1
  replace l1 := l1.symm; replace y1 := y1.symm; replace z1 := z1.symm; subst l1 y1 z1
  obtain ⟨rfl, N1q, e1⟩ := hQ1
  have N1 := Fr.app N0 N1q
  refine Run.st (S' := T1.setTop (mkF m 58 #[.val (.ref a0), .val (.int kd), .val (.int (kd % (10 : Int32)))] [(.ref a0)])) (fun _ k => st1.trans (XS.ifYes X1.here hx rfl (pc0 := 5) (pc' := 52) rfl (hb hby d12_5) rfl ((if0 _ _).trans (feq (show ¬ ((FWaM a0 kd u s_MAT (1 : Int32) aL kL lf) = (0 : Int32)) from hway)).2) (by decide) (by decide) (XS.iloadN X1.here hx rfl (hb hby d12_52) rfl (XS.bipush X1.here hx rfl (hb hby d12_53) (iremM X1 hx rfl (hb hby d12_55) rfl (by decide) (XS.istoreN X1.here hx rfl (hb hby d12_56) rfl (l' := #[.val (.ref a0), .val (.int kd), .val (.int (kd % (10 : Int32)))]) rfl (XS.aloadN X1.here hx rfl (hb hby d12_57) rfl rfl k))))))) ?_
  obtain ⟨T2, X2, e2, st2⟩ := getF X1 hx hZ hown (host := "") (Or.inl (hwi hw 14 rfl)) Via.refl e1 F_dr (g := (mkF m 58 #[.val (.ref a0), .val (.int kd), .val (.int (kd % (10 : Int32)))] [(.ref a0)])) rfl rfl (hb hby d12_58)
  refine Run.st (S' := T2.setTop (mkF m 62 #[.val (.ref a0), .val (.int kd), .val (.int (kd % (10 : Int32)))] [(.int (kd % (10 : Int32))), (.ref aR)])) (fun _ k => st2 _ (XS.iloadN X2.here hx rfl (hb hby d12_61) rfl k)) ?_
  obtain ⟨cl3, Ar3, qa3, Sa3, Na3, Ha3, Ga3⟩ := id V_dr
  have hin3 : ¬ ((kd % (10 : Int32)) < 0 ∨ cl3.slots.size ≤ ((kd % (10 : Int32))).toNatClampNeg) := inb_of Sa3 (inb32 (show (10 : Int32).toInt = 10 from by decide) (own_m10 hkd).1 (own_m10 hkd).2)
  have hat3 : cl3.slots[((kd % (10 : Int32))).toNatClampNeg]? = some (.int (dr.getD ((kd % (10 : Int32))).toNatClampNeg 0)) := Has.at Ha3 hin3 (own_get _ _)
  refine Run.st (S' := T2.setTop (mkF m 89 #[.val (.ref a0), .val (.int kd), .val (.int (kd % (10 : Int32)))] [(.ref a0)])) (fun _ k => X2.iaload hx (j := (kd % (10 : Int32))) (v := (.int (dr.getD ((kd % (10 : Int32))).toNatClampNeg 0))) (by rw [e2]; exact Ar3.1) (State.isArrayOf_alike hZ.alike Ar3.2.1) Ar3.2.2 hin3 hat3 (g := (mkF m 62 #[.val (.ref a0), .val (.int kd), .val (.int (kd % (10 : Int32)))] [(.int (kd % (10 : Int32))), (.ref aR)])) rfl rfl (hb hby d12_62) _ (XS.bipush X2.here hx rfl (hb hby d12_63) (XS.icmpYes X2.here hx rfl (pc0 := 65) (pc' := 88) rfl (hb hby d12_65) rfl (feq (show ¬ ((dr.getD ((kd % (10 : Int32))).toNatClampNeg 0) = (31 : Int32)) from hdr)).2 (by decide) (by decide) (XS.aloadN X2.here hx rfl (hb hby d12_88) rfl rfl k)))) ?_
  obtain ⟨T4, X4, e4, st4⟩ := getF X2 hx hZ hown (host := "") (Or.inl (hwi hw 77 rfl)) Via.refl e2 F_left (g := (mkF m 89 #[.val (.ref a0), .val (.int kd), .val (.int (kd % (10 : Int32)))] [(.ref a0)])) rfl rfl (hb hby d12_89)
  refine Run.st (S' := T4.setTop (mkF m 94 #[.val (.ref a0), .val (.int kd), .val (.int (kd % (10 : Int32)))] [(.int kd), (.ref aL), (.int kd), (.ref aL)])) (fun _ k => st4 _ (XS.iloadN X4.here hx rfl (hb hby d12_92) rfl (Jvm.Free.XT.dup2 X4.here hx rfl (hb hby d12_93) rfl rfl rfl k))) ?_
  obtain ⟨cl5, Ar5, qa5, Sa5, Na5, Ha5, Ga5⟩ := id V_left
  have hin5 : ¬ (kd < 0 ∨ cl5.slots.size ≤ (kd).toNatClampNeg) := inb_of Sa5 (own_inL (n := 40) (show (40 : Int32).toInt = 40 from by decide) (by decide) hkd)
  have hat5 : cl5.slots[(kd).toNatClampNeg]? = some (.int (lf.getD (kd).toNatClampNeg 0)) := Has.at Ha5 hin5 (own_get _ _)
  refine Run.st (S' := T4.setTop (mkF m 97 #[.val (.ref a0), .val (.int kd), .val (.int (kd % (10 : Int32)))] [(.int ((lf.getD (kd).toNatClampNeg 0) - (1 : Int32))), (.int kd), (.ref aL)])) (fun _ k => X4.iaload hx (j := kd) (v := (.int (lf.getD (kd).toNatClampNeg 0))) (by rw [e4]; exact Ar5.1) (State.isArrayOf_alike hZ.alike Ar5.2.1) Ar5.2.2 hin5 hat5 (g := (mkF m 94 #[.val (.ref a0), .val (.int kd), .val (.int (kd % (10 : Int32)))] [(.int kd), (.ref aL), (.int kd), (.ref aL)])) rfl rfl (hb hby d12_94) _ (XS.iconst X4.here hx rfl (hb hby d12_95) (XS.isub X4.here hx rfl (hb hby d12_96) rfl k))) ?_
  obtain ⟨cl6, Ar6, qa6, Sa6, Na6, Ha6, Ga6⟩ := V_left
  have hin6 : ¬ (kd < 0 ∨ cl6.slots.size ≤ (kd).toNatClampNeg) := inb_of Sa6 (own_inL (n := 40) (show (40 : Int32).toInt = 40 from by decide) (by decide) hkd)
  obtain ⟨T6, h6, X6, e6, W6, st6⟩ := stI X4 hx hZ e4 Ar6 (j := kd) hin6 (g := (mkF m 97 #[.val (.ref a0), .val (.int kd), .val (.int (kd % (10 : Int32)))] [(.int ((lf.getD (kd).toNatClampNeg 0) - (1 : Int32))), (.int kd), (.ref aL)])) rfl rfl (hb hby d12_97)
  have V_left := Arv.set Ar6 qa6 Sa6 Na6 Ha6 Ga6 rfl W6 (kd).toNatClampNeg rfl (own_pos (show (40 : Int32).toInt = (40 : Nat) from by decide) hll (own_inL (n := 40) (show (40 : Int32).toInt = 40 from by decide) (by decide) hkd))
  rw [own_set] at V_left
  have OL := OL.wr W6 g_aL
  have E_a0 := E_a0.wr W6
  have F_suits := F_suits.other W6 (Or.inl ne_a0__aL)
  have F_left := F_left.other W6 (Or.inl ne_a0__aL)
  have F_dr := F_dr.other W6 (Or.inl ne_a0__aL)
  have F_ds := F_ds.other W6 (Or.inl ne_a0__aL)
  have F_sd := F_sd.other W6 (Or.inl ne_a0__aL)
  have F_dt := F_dt.other W6 (Or.inl ne_a0__aL)
  have F_dk := F_dk.other W6 (Or.inl ne_a0__aL)
  have V_dr := V_dr.other W6 (Ne.symm ne_aL__aR)
  have V_ds := V_ds.other W6 (Ne.symm ne_aL__aS)
  have N6 := Fr.snoc X6 N1 g_aL
  have Kp := Kp.wr W6 (Or.inl (by simp))
  have Zn := Nat.le_trans Zn (Nat.le_of_eq W6.size.symm)
  refine Run.st (S' := T6.setTop (mkF m 99 #[.val (.ref a0), .val (.int kd), .val (.int (kd % (10 : Int32)))] [(.ref a0)])) (fun _ k => st6 _ (XS.aloadN X6.here hx rfl (hb hby d12_98) rfl rfl k)) ?_
  obtain ⟨T7, X7, e7, st7⟩ := getF X6 hx hZ hown (host := "") (Or.inl (hwi hw 14 rfl)) Via.refl e6 F_dr (g := (mkF m 99 #[.val (.ref a0), .val (.int kd), .val (.int (kd % (10 : Int32)))] [(.ref a0)])) rfl rfl (hb hby d12_99)
  refine Run.st (S' := T7.setTop (mkF m 104 #[.val (.ref a0), .val (.int kd), .val (.int (kd % (10 : Int32)))] [(.int (kd % (10 : Int32))), (.ref aR), (.int (kd % (10 : Int32))), (.ref aR)])) (fun _ k => st7 _ (XS.iloadN X7.here hx rfl (hb hby d12_102) rfl (Jvm.Free.XT.dup2 X7.here hx rfl (hb hby d12_103) rfl rfl rfl k))) ?_
  obtain ⟨cl8, Ar8, qa8, Sa8, Na8, Ha8, Ga8⟩ := id V_dr
  have hin8 : ¬ ((kd % (10 : Int32)) < 0 ∨ cl8.slots.size ≤ ((kd % (10 : Int32))).toNatClampNeg) := inb_of Sa8 (inb32 (show (10 : Int32).toInt = 10 from by decide) (own_m10 hkd).1 (own_m10 hkd).2)
  have hat8 : cl8.slots[((kd % (10 : Int32))).toNatClampNeg]? = some (.int (dr.getD ((kd % (10 : Int32))).toNatClampNeg 0)) := Has.at Ha8 hin8 (own_get _ _)
  refine Run.st (S' := T7.setTop (mkF m 107 #[.val (.ref a0), .val (.int kd), .val (.int (kd % (10 : Int32)))] [(.int ((dr.getD ((kd % (10 : Int32))).toNatClampNeg 0) + (1 : Int32))), (.int (kd % (10 : Int32))), (.ref aR)])) (fun _ k => X7.iaload hx (j := (kd % (10 : Int32))) (v := (.int (dr.getD ((kd % (10 : Int32))).toNatClampNeg 0))) (by rw [e7]; exact Ar8.1) (State.isArrayOf_alike hZ.alike Ar8.2.1) Ar8.2.2 hin8 hat8 (g := (mkF m 104 #[.val (.ref a0), .val (.int kd), .val (.int (kd % (10 : Int32)))] [(.int (kd % (10 : Int32))), (.ref aR), (.int (kd % (10 : Int32))), (.ref aR)])) rfl rfl (hb hby d12_104) _ (XS.iconst X7.here hx rfl (hb hby d12_105) (XS.iadd X7.here hx rfl (hb hby d12_106) rfl k))) ?_
  obtain ⟨cl9, Ar9, qa9, Sa9, Na9, Ha9, Ga9⟩ := V_dr
  have hin9 : ¬ ((kd % (10 : Int32)) < 0 ∨ cl9.slots.size ≤ ((kd % (10 : Int32))).toNatClampNeg) := inb_of Sa9 (inb32 (show (10 : Int32).toInt = 10 from by decide) (own_m10 hkd).1 (own_m10 hkd).2)
  obtain ⟨T9, h9, X9, e9, W9, st9⟩ := stI X7 hx hZ e7 Ar9 (j := (kd % (10 : Int32))) hin9 (g := (mkF m 107 #[.val (.ref a0), .val (.int kd), .val (.int (kd % (10 : Int32)))] [(.int ((dr.getD ((kd % (10 : Int32))).toNatClampNeg 0) + (1 : Int32))), (.int (kd % (10 : Int32))), (.ref aR)])) rfl rfl (hb hby d12_107)
  have V_dr := Arv.set Ar9 qa9 Sa9 Na9 Ha9 Ga9 rfl W9 ((kd % (10 : Int32))).toNatClampNeg rfl (own_pos (show (10 : Int32).toInt = (10 : Nat) from by decide) hlr (inb32 (show (10 : Int32).toInt = 10 from by decide) (own_m10 hkd).1 (own_m10 hkd).2))
  rw [own_set] at V_dr
  have OL := OL.wr W9 g_aR
  have E_a0 := E_a0.wr W9
  have F_suits := F_suits.other W9 (Or.inl ne_a0__aR)
  have F_left := F_left.other W9 (Or.inl ne_a0__aR)
  have F_dr := F_dr.other W9 (Or.inl ne_a0__aR)
  have F_ds := F_ds.other W9 (Or.inl ne_a0__aR)
  have F_sd := F_sd.other W9 (Or.inl ne_a0__aR)
  have F_dt := F_dt.other W9 (Or.inl ne_a0__aR)
  have F_dk := F_dk.other W9 (Or.inl ne_a0__aR)
  have V_left := V_left.other W9 ne_aL__aR
  have V_ds := V_ds.other W9 (Ne.symm ne_aR__aS)
  have N9 := Fr.snoc X9 N6 g_aR
  have Kp := Kp.wr W9 (Or.inl (by simp))
  have Zn := Nat.le_trans Zn (Nat.le_of_eq W9.size.symm)
  refine Run.st (S' := T9.setTop (mkF m 109 #[.val (.ref a0), .val (.int kd), .val (.int (kd % (10 : Int32)))] [(.ref a0)])) (fun _ k => st9 _ (XS.aloadN X9.here hx rfl (hb hby d12_108) rfl rfl k)) ?_
  obtain ⟨T10, X10, e10, st10⟩ := getF X9 hx hZ hown (host := "") (Or.inl (hwi hw 20 rfl)) Via.refl e9 F_suits (g := (mkF m 109 #[.val (.ref a0), .val (.int kd), .val (.int (kd % (10 : Int32)))] [(.ref a0)])) rfl rfl (hb hby d12_109)
  refine Run.st (S' := T10.setTop (mkF m 112 #[.val (.ref a0), .val (.int kd), .val (.int (kd % (10 : Int32)))] [(.ref s_MAT)])) (fun _ k => st10 _ k) ?_
  have u_S_MAT := S_MAT.ext OL.2
  obtain ⟨T11, X11, e11, st11⟩ := getS2 X10 hx hZ hown (host := "") (Or.inl (hwi hw 22 rfl)) Via.refl e10 u_S_MAT (g := (mkF m 112 #[.val (.ref a0), .val (.int kd), .val (.int (kd % (10 : Int32)))] [(.ref s_MAT)])) rfl (hb hby d12_112)
  refine Run.st (S' := T11.setTop (mkF m 119 #[.val (.ref a0), .val (.int kd), .val (.int (kd % (10 : Int32)))] [(.ref a0)])) (fun _ k => st11 _ (Jvm.RoadKit.acmp (g := (mkF m 115 #[.val (.ref a0), .val (.int kd), .val (.int (kd % (10 : Int32)))] [(.ref s_MAT), (.ref s_MAT)])) X11 hx rfl rfl rfl (pc0 := 115) (pc' := 118) (same := true) rfl (hb hby d12_115) rfl (decide_eq_true rfl) (by decide) (by decide) (XS.aloadN X11.here hx rfl (hb hby d12_118) rfl rfl k))) ?_
  obtain ⟨T12, X12, e12, st12⟩ := getF X11 hx hZ hown (host := "") (Or.inl (hwi hw 18 rfl)) Via.refl e11 F_ds (g := (mkF m 119 #[.val (.ref a0), .val (.int kd), .val (.int (kd % (10 : Int32)))] [(.ref a0)])) rfl rfl (hb hby d12_119)
  refine Run.st (S' := T12.setTop (mkF m 127 #[.val (.ref a0), .val (.int kd), .val (.int (kd % (10 : Int32)))] [(.int (kd / (10 : Int32))), (.ref aS), (.int (kd / (10 : Int32))), (.ref aS)])) (fun _ k => st12 _ (XS.iloadN X12.here hx rfl (hb hby d12_122) rfl (XS.bipush X12.here hx rfl (hb hby d12_123) (XS.idiv X12.here hx rfl (hb hby d12_125) rfl (by decide) (Jvm.Free.XT.dup2 X12.here hx rfl (hb hby d12_126) rfl rfl rfl k))))) ?_
  obtain ⟨cl13, Ar13, qa13, Sa13, Na13, Ha13, Ga13⟩ := id V_ds
  have hin13 : ¬ ((kd / (10 : Int32)) < 0 ∨ cl13.slots.size ≤ ((kd / (10 : Int32))).toNatClampNeg) := inb_of Sa13 (inb32 (show (4 : Int32).toInt = 4 from by decide) (own_d10 hkd).1 (own_d10 hkd).2)
  have hat13 : cl13.slots[((kd / (10 : Int32))).toNatClampNeg]? = some (.int (ds.getD ((kd / (10 : Int32))).toNatClampNeg 0)) := Has.at Ha13 hin13 (own_get _ _)
  refine Run.st (S' := T12.setTop (mkF m 131 #[.val (.ref a0), .val (.int kd), .val (.int (kd % (10 : Int32)))] [(.int ((ds.getD ((kd / (10 : Int32))).toNatClampNeg 0) + (1 : Int32))), (.int (kd / (10 : Int32))), (.ref aS), (.int (ds.getD ((kd / (10 : Int32))).toNatClampNeg 0))])) (fun _ k => X12.iaload hx (j := (kd / (10 : Int32))) (v := (.int (ds.getD ((kd / (10 : Int32))).toNatClampNeg 0))) (by rw [e12]; exact Ar13.1) (State.isArrayOf_alike hZ.alike Ar13.2.1) Ar13.2.2 hin13 hat13 (g := (mkF m 127 #[.val (.ref a0), .val (.int kd), .val (.int (kd % (10 : Int32)))] [(.int (kd / (10 : Int32))), (.ref aS), (.int (kd / (10 : Int32))), (.ref aS)])) rfl rfl (hb hby d12_127) _ (own_dupX2 X12.here hx rfl (hb hby d12_128) rfl rfl rfl rfl (XS.iconst X12.here hx rfl (hb hby d12_129) (XS.iadd X12.here hx rfl (hb hby d12_130) rfl k)))) ?_
  obtain ⟨cl14, Ar14, qa14, Sa14, Na14, Ha14, Ga14⟩ := V_ds
  have hin14 : ¬ ((kd / (10 : Int32)) < 0 ∨ cl14.slots.size ≤ ((kd / (10 : Int32))).toNatClampNeg) := inb_of Sa14 (inb32 (show (4 : Int32).toInt = 4 from by decide) (own_d10 hkd).1 (own_d10 hkd).2)
  obtain ⟨T14, h14, X14, e14, W14, st14⟩ := stI X12 hx hZ e12 Ar14 (j := (kd / (10 : Int32))) hin14 (g := (mkF m 131 #[.val (.ref a0), .val (.int kd), .val (.int (kd % (10 : Int32)))] [(.int ((ds.getD ((kd / (10 : Int32))).toNatClampNeg 0) + (1 : Int32))), (.int (kd / (10 : Int32))), (.ref aS), (.int (ds.getD ((kd / (10 : Int32))).toNatClampNeg 0))])) rfl rfl (hb hby d12_131)
  have V_ds := Arv.set Ar14 qa14 Sa14 Na14 Ha14 Ga14 rfl W14 ((kd / (10 : Int32))).toNatClampNeg rfl (own_pos (show (4 : Int32).toInt = (4 : Nat) from by decide) hls (inb32 (show (4 : Int32).toInt = 4 from by decide) (own_d10 hkd).1 (own_d10 hkd).2))
  rw [own_set] at V_ds
  have OL := OL.wr W14 g_aS
  have E_a0 := E_a0.wr W14
  have F_suits := F_suits.other W14 (Or.inl ne_a0__aS)
  have F_left := F_left.other W14 (Or.inl ne_a0__aS)
  have F_dr := F_dr.other W14 (Or.inl ne_a0__aS)
  have F_ds := F_ds.other W14 (Or.inl ne_a0__aS)
  have F_sd := F_sd.other W14 (Or.inl ne_a0__aS)
  have F_dt := F_dt.other W14 (Or.inl ne_a0__aS)
  have F_dk := F_dk.other W14 (Or.inl ne_a0__aS)
  have V_left := V_left.other W14 ne_aL__aS
  have V_dr := V_dr.other W14 ne_aR__aS
  have N14 := Fr.snoc X14 N9 g_aS
  have Kp := Kp.wr W14 (Or.inl (by simp))
  have Zn := Nat.le_trans Zn (Nat.le_of_eq W14.size.symm)
  refine Run.st (S' := T14.setTop (mkF m 147 #[.val (.ref a0), .val (.int kd), .val (.int (kd % (10 : Int32)))] [(.ref a0), (.ref a0)])) (fun _ k => st14 _ (XS.ifYes X14.here hx rfl (pc0 := 132) (pc' := 145) rfl (hb hby d12_132) rfl ((if0 _ _).trans (feq (show ¬ ((ds.getD ((kd / (10 : Int32))).toNatClampNeg 0) = (0 : Int32)) from hds)).2) (by decide) (by decide) (XS.aloadN X14.here hx rfl (hb hby d12_145) rfl rfl (XS.dup X14.here hx rfl (hb hby d12_146) rfl rfl k)))) ?_
  obtain ⟨T15, X15, e15, st15⟩ := getF X14 hx hZ hown (host := "") (Or.inl (hwi hw 101 rfl)) Via.refl e14 F_dt (g := (mkF m 147 #[.val (.ref a0), .val (.int kd), .val (.int (kd % (10 : Int32)))] [(.ref a0), (.ref a0)])) rfl rfl (hb hby d12_147)
  refine Run.st (S' := T15.setTop (mkF m 152 #[.val (.ref a0), .val (.int kd), .val (.int (kd % (10 : Int32)))] [(.int (dt + (1 : Int32))), (.ref a0)])) (fun _ k => st15 _ (XS.iconst X15.here hx rfl (hb hby d12_150) (XS.iadd X15.here hx rfl (hb hby d12_151) rfl k))) ?_
  obtain ⟨T16, h16, X16, e16, W16, st16⟩ := putF X15 hx hZ hown (host := "") (Or.inl (hwi hw 101 rfl)) Via.refl e15 F_dt E_a0 (Or.inl (hwi hw 102 rfl)) (hwi hw 2 rfl) (ty := .int) (by decide) rfl rfl (g := (mkF m 152 #[.val (.ref a0), .val (.int kd), .val (.int (kd % (10 : Int32)))] [(.int (dt + (1 : Int32))), (.ref a0)])) rfl rfl (hb hby d12_152)
  have F_dt := F_dt.same W16
  have OL := OL.wr W16 g_a0
  have E_a0 := E_a0.wr W16
  have F_suits := F_suits.other W16 (Or.inr (slot_ne (Or.inr (hwi hw 21 rfl)) (Or.inl (hwi hw 102 rfl)) (by decide) (t := (.object "com/example/sidewager/sidewager/analysis/Shoe$Suits")) (t' := .int) (by decide) (by decide)))
  have F_left := F_left.other W16 (Or.inr (slot_ne (Or.inr (hwi hw 78 rfl)) (Or.inl (hwi hw 102 rfl)) (by decide) (t := (.array .int)) (t' := .int) (by decide) (by decide)))
  have F_dr := F_dr.other W16 (Or.inr (slot_ne (Or.inr (hwi hw 15 rfl)) (Or.inl (hwi hw 102 rfl)) (by decide) (t := (.array .int)) (t' := .int) (by decide) (by decide)))
  have F_ds := F_ds.other W16 (Or.inr (slot_ne (Or.inr (hwi hw 19 rfl)) (Or.inl (hwi hw 102 rfl)) (by decide) (t := (.array .int)) (t' := .int) (by decide) (by decide)))
  have F_sd := F_sd.other W16 (Or.inr (slot_ne (Or.inl (hwi hw 131 rfl)) (Or.inl (hwi hw 102 rfl)) (by decide) (t := .int) (t' := .int) (by decide) (by decide)))
  have F_dk := F_dk.other W16 (Or.inr (slot_ne (Or.inl (hwi hw 126 rfl)) (Or.inl (hwi hw 102 rfl)) (by decide) (t := .long) (t' := .int) (by decide) (by decide)))
  have V_left := V_left.other W16 (Ne.symm ne_a0__aL)
  have V_dr := V_dr.other W16 (Ne.symm ne_a0__aR)
  have V_ds := V_ds.other W16 (Ne.symm ne_a0__aS)
  have N16 := Fr.snoc X16 N14 g_a0
  have Kp := Kp.wr W16 (Or.inl (by simp))
  have Zn := Nat.le_trans Zn (Nat.le_of_eq W16.size.symm)
  refine Run.st (S' := T16.setTop (mkF m 157 #[.val (.ref a0), .val (.int kd), .val (.int (kd % (10 : Int32)))] [(.ref a0), (.ref a0)])) (fun _ k => st16 _ (XS.aloadN X16.here hx rfl (hb hby d12_155) rfl rfl (XS.dup X16.here hx rfl (hb hby d12_156) rfl rfl k))) ?_
  obtain ⟨T17, X17, e17, st17⟩ := getF X16 hx hZ hown (host := "") (Or.inl (hwi hw 125 rfl)) Via.refl e16 F_dk (g := (mkF m 157 #[.val (.ref a0), .val (.int kd), .val (.int (kd % (10 : Int32)))] [(.ref a0), (.ref a0)])) rfl rfl (hb hby d12_157)
  refine Run.st (S' := T17.setTop (mkF m 161 #[.val (.ref a0), .val (.int kd), .val (.int (kd % (10 : Int32)))] [(.int (kd % (10 : Int32))), (.long dk), (.ref a0)])) (fun _ k => st17 _ (XS.iloadN X17.here hx rfl (hb hby d12_160) rfl k)) ?_
  obtain ⟨_, _, ⟨T18, L18, k18, n18⟩, -, X18, ⟨Lc18, hQ18, l18, y18, z18⟩, st18⟩ := Jvm.LawKit.callS X17 hx (y := (⟨"com/example/sidewager/sidewager/analysis/Shoe", "keyOf", "(I)J"⟩ : MethodName)) hown (mvT hZ (hwi hw 127 rfl)) (mvT hZ (hwi hw 128 rfl)) (mvT hZ (hwi hw 3 rfl)) (mvT hZ (hwi hw 129 rfl)) (by decide) (backOf (W := 3) (rmKey l Z aV hw [] (kd % (10 : Int32)) h16 n0 Zn ) hZ (hwi hw 129 rfl) (hwi hw 3 rfl) (by decide) (by decide)) (g := (mkF m 161 #[.val (.ref a0), .val (.int kd), .val (.int (kd % (10 : Int32)))] [(.int (kd % (10 : Int32))), (.long dk), (.ref a0)])) rfl (by rw [hml]; rfl) (argsL := [(.int (kd % (10 : Int32)))]) (rest := [(.long dk), (.ref a0)]) (lenOf pd_6 rfl) rfl (by show 2 * 0 + _ ≤ _; exact Nat.le_of_eq rfl) (hb hby d12_161) (fun _ _ => ⟨rfl, e17, (by decide : 0 + 0 ≤ _), (by decide : 0 + 0 ≤ _)⟩)
  dsimp only [Pt.U, Pt.locs, Pt.cells, Pt.slots] at X18 l18 y18 z18 st18 hQ18
  replace l18 := l18.symm; replace y18 := y18.symm; replace z18 := z18.symm; subst l18 y18 z18
  obtain ⟨rfl, N18q, e18⟩ := hQ18
  have N18 := Fr.app N16 N18q
  refine Run.st (S' := T18.setTop (mkF m 165 #[.val (.ref a0), .val (.int kd), .val (.int (kd % (10 : Int32)))] [(.long (dk + (FKey (kd % (10 : Int32))))), (.ref a0)])) (fun _ k => st18 _ (XS.ladd X18.here hx rfl (hb hby d12_164) rfl k)) ?_
  obtain ⟨T19, h19, X19, e19, W19, st19⟩ := putF X18 hx hZ hown (host := "") (Or.inl (hwi hw 125 rfl)) Via.refl e18 F_dk E_a0 (Or.inl (hwi hw 126 rfl)) (hwi hw 2 rfl) (ty := .long) (by decide) rfl rfl (g := (mkF m 165 #[.val (.ref a0), .val (.int kd), .val (.int (kd % (10 : Int32)))] [(.long (dk + (FKey (kd % (10 : Int32))))), (.ref a0)])) rfl rfl (hb hby d12_165)
  have F_dk := F_dk.same W19
  have OL := OL.wr W19 g_a0
  have E_a0 := E_a0.wr W19
  have F_suits := F_suits.other W19 (Or.inr (slot_ne (Or.inr (hwi hw 21 rfl)) (Or.inl (hwi hw 126 rfl)) (by decide) (t := (.object "com/example/sidewager/sidewager/analysis/Shoe$Suits")) (t' := .long) (by decide) (by decide)))
  have F_left := F_left.other W19 (Or.inr (slot_ne (Or.inr (hwi hw 78 rfl)) (Or.inl (hwi hw 126 rfl)) (by decide) (t := (.array .int)) (t' := .long) (by decide) (by decide)))
  have F_dr := F_dr.other W19 (Or.inr (slot_ne (Or.inr (hwi hw 15 rfl)) (Or.inl (hwi hw 126 rfl)) (by decide) (t := (.array .int)) (t' := .long) (by decide) (by decide)))
  have F_ds := F_ds.other W19 (Or.inr (slot_ne (Or.inr (hwi hw 19 rfl)) (Or.inl (hwi hw 126 rfl)) (by decide) (t := (.array .int)) (t' := .long) (by decide) (by decide)))
  have F_sd := F_sd.other W19 (Or.inr (slot_ne (Or.inl (hwi hw 131 rfl)) (Or.inl (hwi hw 126 rfl)) (by decide) (t := .int) (t' := .long) (by decide) (by decide)))
  have F_dt := F_dt.other W19 (Or.inr (slot_ne (Or.inl (hwi hw 102 rfl)) (Or.inl (hwi hw 126 rfl)) (by decide) (t := .int) (t' := .long) (by decide) (by decide)))
  have V_left := V_left.other W19 (Ne.symm ne_a0__aL)
  have V_dr := V_dr.other W19 (Ne.symm ne_a0__aR)
  have V_ds := V_ds.other W19 (Ne.symm ne_a0__aS)
  have N19 := Fr.snoc X19 N18 g_a0
  have Kp := Kp.wr W19 (Or.inl (by simp))
  have Zn := Nat.le_trans Zn (Nat.le_of_eq W19.size.symm)
  refine Run.st (S' := T19.setTop (mkF m 168 #[.val (.ref a0), .val (.int kd), .val (.int (kd % (10 : Int32)))] [])) (fun _ k => st19 _ k) ?_
  refine Run.outV X19 hx Bd.notSynchronized Bd.returns (hb hby d12_168) (by decide) (by decide) ?_
  rw [e19]
  exact ⟨rfl, N19, Kp, E_a0, F_suits, F_left, F_dr, F_ds, F_sd, F_dt, F_dk, V_left, V_dr, V_ds⟩
theorem d9_0 : decode prog_12_method_13_code 0 = .ok (.aload_n 0, 1) := by decide +kernel
theorem d9_1 : decode prog_12_method_13_code 1 = .ok (.getfield 101, 3) := by decide +kernel
theorem d9_4 : decode prog_12_method_13_code 4 = .ok (.ireturn, 1) := by decide +kernel
theorem ef_Dt (m : MethodId) (a0 : Addr) : entryFrame m #[(.ref a0)] 1 = mkF m 0 #[.val (.ref a0)] [] := by first | (simp [entryFrame, mkF, argsToLocals, Value.category]; done) | rfl
def QDt (Z : State) (a0 : Addr) (dt : Int32) (h0 : Heap) (n0 : Nat) (v : Option Value) (h : Heap) (L : List Loc) : Prop := v = some (.int dt) ∧ Fr n0 L ∧ h = h0
set_option maxRecDepth 65536 in
set_option maxHeartbeats 40000000 in
theorem rmDt (l : Launch) (Z : State) (aV : Array Value) (hw : ∀ d ∈ tables_1, d.before aV Z = true) (ws : List Jvm.Cond) (a0 : Addr) (dt : Int32) (h0 : Heap) (n0 : Nat) (Zn : n0 ≤ h0.size) (F_dt : Fld Z h0 a0 "com/example/sidewager/sidewager/analysis/Shoe" "dealt" "I" (.int dt)) :
    MetFree l (⟨"com/example/sidewager/sidewager/analysis/Shoe", "dealt", "()I"⟩ : MethodName) (head1 (Jvm.Cond.code (⟨"com/example/sidewager/sidewager/analysis/Shoe", "dealt", "()I"⟩ : MethodName) prog_12_method_13_code 1 (some .int) :: ws) ({ frames := 0, cells := 0, slots := 0, locals := 0 } : Room)) (fun a U => a = #[(.ref a0)] ∧ Z.Warmed39 U.vm ∧ U.heap = h0) (fun _ _ _ _ _ => True) (fun _ U o U' => ∃ v L, o = .returned v ∧ QDt Z a0 dt h0 n0 v U'.heap L ∧ FrameEnd U o U' L ({ frames := 0, cells := 0, slots := 0, locals := 0 } : Room).cells ({ frames := 0, cells := 0, slots := 0, locals := 0 } : Room).slots) := by
  refine MetFree.of_bodySF (plainFor_of_name pn_1) hisR ?_
  intro p e s m args below meth c s₁ Bd hml0 hP hK
  obtain ⟨rfl, hZ, hh⟩ := hP
  have hx := Bd.exec
  have hby := Bd.bytes
  have hml : c.maxLocals = 1 := hml0
  have hown : s.vm.findClass "com/example/sidewager/sidewager/analysis/Shoe" = some m.cls := findClass_of_methodNamed Bd.named
  have hnm := (name_of_methodNamed Bd.named Bd.method).1
  have X0 : Stand p l e ({ frames := 0, cells := 0, slots := 0, locals := 0 } : Room) s m #[(.ref a0)] below meth c s₁ [] 0 0 := Stand.of_body Bd
  have e0 : s₁.heap = h0 := by rw [← hh, Bd.state]; rfl
  have N0 := Fr.nil n0
  have Kp := Keep.refl h0 []
  show Run p e below (Ends s (QDt Z a0 dt h0 n0) ({ frames := 0, cells := 0, slots := 0, locals := 0 } : Room).cells ({ frames := 0, cells := 0, slots := 0, locals := 0 } : Room).slots) _
  refine Run.st (S' := s₁.setTop (mkF m 0 #[.val (.ref a0)] [])) (fun t k => castTop (ef_Dt m a0) k) ?_
  refine Run.st (S' := s₁.setTop (mkF m 1 #[.val (.ref a0)] [(.ref a0)])) (fun _ k => XS.aloadN X0.here hx rfl (hb hby d9_0) rfl rfl k) ?_
  obtain ⟨T1, X1, e1, st1⟩ := getF X0 hx hZ hown (host := "") (Or.inl (hwi hw 101 rfl)) Via.refl e0 F_dt (g := (mkF m 1 #[.val (.ref a0)] [(.ref a0)])) rfl rfl (hb hby d9_1)
  refine Run.st (S' := T1.setTop (mkF m 4 #[.val (.ref a0)] [(.int dt)])) (fun _ k => st1 _ k) ?_
  refine Run.out X1 hx Bd.notSynchronized Bd.returns rfl (Or.inl ⟨rfl, by simp, _, rfl⟩) (hb hby d9_4) (by decide) (by decide) ?_
  rw [e1]
  exact ⟨rfl, N0, rfl⟩
theorem d8_0 : decode prog_12_method_16_code 0 = .ok (.aload_n 0, 1) := by decide +kernel
theorem d8_1 : decode prog_12_method_16_code 1 = .ok (.getfield 62, 3) := by decide +kernel
theorem d8_4 : decode prog_12_method_16_code 4 = .ok (.arraylength, 1) := by decide +kernel
theorem d8_5 : decode prog_12_method_16_code 5 = .ok (.newarray .int, 2) := by decide +kernel
theorem d8_7 : decode prog_12_method_16_code 7 = .ok (.astore_n 2, 1) := by decide +kernel
theorem d8_8 : decode prog_12_method_16_code 8 = .ok (.aload_n 1, 1) := by decide +kernel
theorem d8_9 : decode prog_12_method_16_code 9 = .ok (.astore_n 3, 1) := by decide +kernel
theorem d8_10 : decode prog_12_method_16_code 10 = .ok (.aload_n 3, 1) := by decide +kernel
theorem d8_11 : decode prog_12_method_16_code 11 = .ok (.arraylength, 1) := by decide +kernel
theorem d8_12 : decode prog_12_method_16_code 12 = .ok (.istore 4, 2) := by decide +kernel
theorem d8_14 : decode prog_12_method_16_code 14 = .ok (.iconst 0, 1) := by decide +kernel
theorem d8_15 : decode prog_12_method_16_code 15 = .ok (.istore 5, 2) := by decide +kernel
theorem d8_17 : decode prog_12_method_16_code 17 = .ok (.iload 5, 2) := by decide +kernel
theorem d8_19 : decode prog_12_method_16_code 19 = .ok (.iload 4, 2) := by decide +kernel
theorem d8_21 : decode prog_12_method_16_code 21 = .ok (.if_icmp .ge 23, 3) := by decide +kernel
theorem d8_24 : decode prog_12_method_16_code 24 = .ok (.aload_n 3, 1) := by decide +kernel
theorem d8_25 : decode prog_12_method_16_code 25 = .ok (.iload 5, 2) := by decide +kernel
theorem d8_27 : decode prog_12_method_16_code 27 = .ok (.iaload, 1) := by decide +kernel
theorem d8_28 : decode prog_12_method_16_code 28 = .ok (.istore 6, 2) := by decide +kernel
theorem d8_30 : decode prog_12_method_16_code 30 = .ok (.aload_n 2, 1) := by decide +kernel
theorem d8_31 : decode prog_12_method_16_code 31 = .ok (.iload 6, 2) := by decide +kernel
theorem d8_33 : decode prog_12_method_16_code 33 = .ok (.dup2, 1) := by decide +kernel
theorem d8_34 : decode prog_12_method_16_code 34 = .ok (.iaload, 1) := by decide +kernel
theorem d8_35 : decode prog_12_method_16_code 35 = .ok (.iconst 1, 1) := by decide +kernel
theorem d8_36 : decode prog_12_method_16_code 36 = .ok (.iadd, 1) := by decide +kernel
theorem d8_37 : decode prog_12_method_16_code 37 = .ok (.iastore, 1) := by decide +kernel
theorem d8_38 : decode prog_12_method_16_code 38 = .ok (.iinc 5 1, 3) := by decide +kernel
theorem d8_41 : decode prog_12_method_16_code 41 = .ok (.goto (-24), 3) := by decide +kernel
theorem d8_44 : decode prog_12_method_16_code 44 = .ok (.iconst 1, 1) := by decide +kernel
theorem d8_45 : decode prog_12_method_16_code 45 = .ok (.istore_n 3, 1) := by decide +kernel
theorem d8_46 : decode prog_12_method_16_code 46 = .ok (.iconst 0, 1) := by decide +kernel
theorem d8_47 : decode prog_12_method_16_code 47 = .ok (.istore 4, 2) := by decide +kernel
theorem d8_49 : decode prog_12_method_16_code 49 = .ok (.iload 4, 2) := by decide +kernel
theorem d8_51 : decode prog_12_method_16_code 51 = .ok (.aload_n 0, 1) := by decide +kernel
theorem d8_52 : decode prog_12_method_16_code 52 = .ok (.getfield 62, 3) := by decide +kernel
theorem d8_55 : decode prog_12_method_16_code 55 = .ok (.arraylength, 1) := by decide +kernel
theorem d8_56 : decode prog_12_method_16_code 56 = .ok (.if_icmp .ge 31, 3) := by decide +kernel
theorem d8_59 : decode prog_12_method_16_code 59 = .ok (.iload_n 3, 1) := by decide +kernel
theorem d8_60 : decode prog_12_method_16_code 60 = .ok (.aload_n 2, 1) := by decide +kernel
theorem d8_61 : decode prog_12_method_16_code 61 = .ok (.iload 4, 2) := by decide +kernel
theorem d8_63 : decode prog_12_method_16_code 63 = .ok (.iaload, 1) := by decide +kernel
theorem d8_64 : decode prog_12_method_16_code 64 = .ok (.aload_n 0, 1) := by decide +kernel
theorem d8_65 : decode prog_12_method_16_code 65 = .ok (.getfield 62, 3) := by decide +kernel
theorem d8_68 : decode prog_12_method_16_code 68 = .ok (.iload 4, 2) := by decide +kernel
theorem d8_70 : decode prog_12_method_16_code 70 = .ok (.iaload, 1) := by decide +kernel
theorem d8_71 : decode prog_12_method_16_code 71 = .ok (.if_icmp .gt 7, 3) := by decide +kernel
theorem d8_74 : decode prog_12_method_16_code 74 = .ok (.iconst 1, 1) := by decide +kernel
theorem d8_75 : decode prog_12_method_16_code 75 = .ok (.goto 4, 3) := by decide +kernel
theorem d8_78 : decode prog_12_method_16_code 78 = .ok (.iconst 0, 1) := by decide +kernel
theorem d8_79 : decode prog_12_method_16_code 79 = .ok (.iand, 1) := by decide +kernel
theorem d8_80 : decode prog_12_method_16_code 80 = .ok (.istore_n 3, 1) := by decide +kernel
theorem d8_81 : decode prog_12_method_16_code 81 = .ok (.iinc 4 1, 3) := by decide +kernel
theorem d8_84 : decode prog_12_method_16_code 84 = .ok (.goto (-35), 3) := by decide +kernel
theorem d8_87 : decode prog_12_method_16_code 87 = .ok (.iload_n 3, 1) := by decide +kernel
theorem d8_88 : decode prog_12_method_16_code 88 = .ok (.ireturn, 1) := by decide +kernel
theorem ef_HoI (m : MethodId) (a0 : Addr) (aK : Addr) : entryFrame m #[(.ref a0), (.ref aK)] 7 = mkF m 0 #[.val (.ref a0), .val (.ref aK), .unset, .unset, .unset, .unset, .unset] [] := by first | (simp [entryFrame, mkF, argsToLocals, Value.category]; done) | rfl
def QHoI (Z : State) (a0 : Addr) (aK : Addr) (aL : Addr) (kL : ClassId) (lf : List Int32) (kK : ClassId) (ks : List Int32) (nk : Int32) (h0 : Heap) (n0 : Nat) (v : Option Value) (h : Heap) (L : List Loc) : Prop := v = some (.int (own_H ks nk 10 lf)) ∧ Fr n0 L ∧ Keep h0 h []
set_option maxRecDepth 65536 in
set_option maxHeartbeats 40000000 in
theorem rmHoI (l : Launch) (Z : State) (aV : Array Value) (hw : ∀ d ∈ tables_1, d.before aV Z = true) (ws : List Jvm.Cond) (a0 : Addr) (aK : Addr) (aL : Addr) (kL : ClassId) (lf : List Int32) (kK : ClassId) (ks : List Int32) (nk : Int32) (h0 : Heap) (n0 : Nat) (Zn : n0 ≤ h0.size) (hn0 : 0 ≤ nk.toInt) (hn1 : nk.toInt < 1000) (hks : ∀ j : Int32, 0 ≤ j.toInt → j.toInt < nk.toInt → 0 ≤ (ks.getD j.toNatClampNeg 0).toInt ∧ (ks.getD j.toNatClampNeg 0).toInt < 10) (F_left : Fld Z h0 a0 "com/example/sidewager/sidewager/analysis/Shoe" "left" "[I" (.ref aL)) (V_left : Arv Z h0 aL kL .int (10 : Int32) (lf.map Value.int) (.int (0 : Int32))) (V_ks : Arv Z h0 aK kK .int nk (ks.map Value.int) (.int (0 : Int32))) :
    MetFree l (⟨"com/example/sidewager/sidewager/analysis/Shoe", "holds", "([I)Z"⟩ : MethodName) (head1 (Jvm.Cond.code (⟨"com/example/sidewager/sidewager/analysis/Shoe", "holds", "([I)Z"⟩ : MethodName) prog_12_method_16_code 7 (some .boolean) :: ws) ({ frames := 0, cells := 1, slots := 10, locals := 0 } : Room)) (fun a U => a = #[(.ref a0), (.ref aK)] ∧ Z.Warmed39 U.vm ∧ U.heap = h0) (fun _ _ _ _ _ => True) (fun _ U o U' => ∃ v L, o = .returned v ∧ QHoI Z a0 aK aL kL lf kK ks nk h0 n0 v U'.heap L ∧ FrameEnd U o U' L ({ frames := 0, cells := 1, slots := 10, locals := 0 } : Room).cells ({ frames := 0, cells := 1, slots := 10, locals := 0 } : Room).slots) := by
  refine MetFree.of_bodySF (plainFor_of_name pn_1) hisR ?_
  intro p e s m args below meth c s₁ Bd hml0 hP hK
  obtain ⟨rfl, hZ, hh⟩ := hP
  have hx := Bd.exec
  have hby := Bd.bytes
  have hml : c.maxLocals = 7 := hml0
  have hown : s.vm.findClass "com/example/sidewager/sidewager/analysis/Shoe" = some m.cls := findClass_of_methodNamed Bd.named
  have hnm := (name_of_methodNamed Bd.named Bd.method).1
  have X0 : Stand p l e ({ frames := 0, cells := 1, slots := 10, locals := 0 } : Room) s m #[(.ref a0), (.ref aK)] below meth c s₁ [] 0 0 := Stand.of_body Bd
  have e0 : s₁.heap = h0 := by rw [← hh, Bd.state]; rfl
  have N0 := Fr.nil n0
  have Kp := Keep.refl h0 []
  show Run p e below (Ends s (QHoI Z a0 aK aL kL lf kK ks nk h0 n0) ({ frames := 0, cells := 1, slots := 10, locals := 0 } : Room).cells ({ frames := 0, cells := 1, slots := 10, locals := 0 } : Room).slots) _
  refine Run.st (S' := s₁.setTop (mkF m 0 #[.val (.ref a0), .val (.ref aK), .unset, .unset, .unset, .unset, .unset] [])) (fun t k => castTop (ef_HoI m a0 aK) k) ?_
  refine Run.st (S' := s₁.setTop (mkF m 1 #[.val (.ref a0), .val (.ref aK), .unset, .unset, .unset, .unset, .unset] [(.ref a0)])) (fun _ k => XS.aloadN X0.here hx rfl (hb hby d8_0) rfl rfl k) ?_
  obtain ⟨T1, X1, e1, st1⟩ := getF X0 hx hZ hown (host := "") (Or.inl (hwi hw 77 rfl)) Via.refl e0 F_left (g := (mkF m 1 #[.val (.ref a0), .val (.ref aK), .unset, .unset, .unset, .unset, .unset] [(.ref a0)])) rfl rfl (hb hby d8_1)
  refine Run.st (S' := T1.setTop (mkF m 4 #[.val (.ref a0), .val (.ref aK), .unset, .unset, .unset, .unset, .unset] [(.ref aL)])) (fun _ k => st1 _ k) ?_
  obtain ⟨cl2, Ar2, -, Sa2, Na2, -, -⟩ := id V_left
  refine Run.st (S' := T1.setTop (mkF m 5 #[.val (.ref a0), .val (.ref aK), .unset, .unset, .unset, .unset, .unset] [(.int (10 : Int32))])) (fun _ k => X1.arraylength hx (by rw [e1]; exact Ar2.1) (State.isArrayOf_alike hZ.alike Ar2.2.1) (g := (mkF m 4 #[.val (.ref a0), .val (.ref aK), .unset, .unset, .unset, .unset, .unset] [(.ref aL)])) rfl rfl (hb hby d8_4) _ (by rw [len_of Sa2 Na2]; exact k)) ?_
  obtain ⟨T3, h3, k3, X3, e3, E3, A3, st3⟩ := newP X1 hx hZ (hwi hw 13 rfl) e1 (g := (mkF m 5 #[.val (.ref a0), .val (.ref aK), .unset, .unset, .unset, .unset, .unset] [(.int (10 : Int32))])) rfl (hb hby d8_5) rfl (by decide) (cap := 10) (by decide) (by decide) (by decide) (by decide)
  obtain ⟨b3, g3⟩ : ∃ z, z = h0.size := ⟨_, rfl⟩
  rw [← g3] at A3 st3
  have ne_a0_b3 : a0 ≠ b3 := Nat.ne_of_lt (Nat.lt_of_lt_of_le F_left.lt (Nat.le_of_eq g3.symm))
  have ne_aL_b3 : aL ≠ b3 := Nat.ne_of_lt (Nat.lt_of_lt_of_le V_left.lt (Nat.le_of_eq g3.symm))
  have ne_aK_b3 : aK ≠ b3 := Nat.ne_of_lt (Nat.lt_of_lt_of_le V_ks.lt (Nat.le_of_eq g3.symm))
  have F_left := F_left.ext E3
  have V_left := V_left.ext E3
  have V_ks := V_ks.ext E3
  have g_b3 : n0 ≤ b3 := Nat.le_trans Zn (Nat.le_of_eq g3.symm)
  have Zn := Nat.le_trans Zn E3.1
  have sz_b3 : h0.size ≤ b3 := Nat.le_trans Kp.1 (Nat.le_of_eq g3.symm)
  have Kp := Kp.ext E3
  have V_b3 : Arv Z h3 b3 k3 .int (10 : Int32) [(.int (0 : Int32)), (.int (0 : Int32)), (.int (0 : Int32)), (.int (0 : Int32)), (.int (0 : Int32)), (.int (0 : Int32)), (.int (0 : Int32)), (.int (0 : Int32)), (.int (0 : Int32)), (.int (0 : Int32))] (.int (0 : Int32)) := (Arv.new A3 (by decide)).pad (pad_rep [] (.int (0 : Int32)) 10)
  refine Run.st (S' := T3.setTop (mkF m 11 #[.val (.ref a0), .val (.ref aK), .val (.ref b3), .val (.ref aK), .unset, .unset, .unset] [(.ref aK)])) (fun _ k => st3 _ (XS.astoreN X3.here hx rfl (hb hby d8_7) rfl rfl (l' := #[.val (.ref a0), .val (.ref aK), .val (.ref b3), .unset, .unset, .unset, .unset]) rfl (XS.aloadN X3.here hx rfl (hb hby d8_8) rfl rfl (XS.astoreN X3.here hx rfl (hb hby d8_9) rfl rfl (l' := #[.val (.ref a0), .val (.ref aK), .val (.ref b3), .val (.ref aK), .unset, .unset, .unset]) rfl (XS.aloadN X3.here hx rfl (hb hby d8_10) rfl rfl k))))) ?_
  obtain ⟨cl4, Ar4, -, Sa4, Na4, -, -⟩ := id V_ks
  refine Run.st (S' := T3.setTop (mkF m 12 #[.val (.ref a0), .val (.ref aK), .val (.ref b3), .val (.ref aK), .unset, .unset, .unset] [(.int nk)])) (fun _ k => X3.arraylength hx (by rw [e3]; exact Ar4.1) (State.isArrayOf_alike hZ.alike Ar4.2.1) (g := (mkF m 11 #[.val (.ref a0), .val (.ref aK), .val (.ref b3), .val (.ref aK), .unset, .unset, .unset] [(.ref aK)])) rfl rfl (hb hby d8_11) _ (by rw [len_of Sa4 Na4]; exact k)) ?_
  refine Run.st (S' := T3.setTop (mkF m 17 #[.val (.ref a0), .val (.ref aK), .val (.ref b3), .val (.ref aK), .val (.int nk), .val (.int (0 : Int32)), .unset] [])) (fun _ k => XS.istore X3.here hx rfl (hb hby d8_12) rfl (l' := #[.val (.ref a0), .val (.ref aK), .val (.ref b3), .val (.ref aK), .val (.int nk), .unset, .unset]) rfl (XS.iconst X3.here hx rfl (hb hby d8_14) (XS.istore X3.here hx rfl (hb hby d8_15) rfl (l' := #[.val (.ref a0), .val (.ref aK), .val (.ref b3), .val (.ref aK), .val (.int nk), .val (.int (0 : Int32)), .unset]) rfl k))) ?_
  have V_b3 : Arv Z h3 b3 k3 .int (10 : Int32) ((List.replicate 10 (0 : Int32)).map Value.int) (.int (0 : Int32)) := V_b3
  have LP5 : ∀ (fuA : Nat) (iv : Int32) (x6 : Slot) (Wl : List Int32) (Tl5 : State) (Hl5 : Heap) (gl : Good p l e ({ frames := 0, cells := 1, slots := 10, locals := 0 } : Room) s m #[(.ref a0), (.ref aK)] below meth c n0 1 10 Hl5 Tl5) (Zn : n0 ≤ Hl5.size) (Kp : Keep h0 Hl5 []) (F_left : Fld Z Hl5 a0 "com/example/sidewager/sidewager/analysis/Shoe" "left" "[I" (.ref aL)) (V_left : Arv Z Hl5 aL kL .int (10 : Int32) (lf.map Value.int) (.int (0 : Int32))) (V_ks : Arv Z Hl5 aK kK .int nk (ks.map Value.int) (.int (0 : Int32))) (V_b3 : Arv Z Hl5 b3 k3 .int (10 : Int32) (Wl.map Value.int) (.int (0 : Int32))), (iv.toInt + (fuA : Int) = nk.toInt ∧ 0 ≤ iv.toInt ∧ Wl.length = 10 ∧ own_w ks fuA iv Wl = (own_W ks nk 10) ∧ own_pl x6) → Run p e below (Ends s (QHoI Z a0 aK aL kL lf kK ks nk h0 n0) ({ frames := 0, cells := 1, slots := 10, locals := 0 } : Room).cells ({ frames := 0, cells := 1, slots := 10, locals := 0 } : Room).slots) (Tl5.setTop (mkF m 17 #[.val (.ref a0), .val (.ref aK), .val (.ref b3), .val (.ref aK), .val (.int nk), .val (.int iv), x6] [])) := by
    intro fuA
    induction fuA with
    | zero =>
      intro iv x6 Wl Tl5 Hl5 gl Zn Kp F_left V_left V_ks V_b3 hylA
      obtain ⟨lcs5, Xl5, Nl5, El5⟩ := gl
      refine Run.st (S' := Tl5.setTop (mkF m 44 #[.val (.ref a0), .val (.ref aK), .val (.ref b3), .val (.ref aK), .val (.int nk), .val (.int iv), x6] [])) (fun _ k => XS.iload Xl5.here hx rfl (hb hby d8_17) rfl (XS.iload Xl5.here hx rfl (hb hby d8_19) rfl (XS.icmpYes Xl5.here hx rfl (pc0 := 21) (pc' := 44) rfl (hb hby d8_21) rfl (flt (show ¬ (iv < nk) from own_nlt (n := nk.toInt) rfl hylA.1)).2.1 (by decide) (by decide) k))) ?_
      rw [show Wl = (own_W ks nk 10) from hylA.2.2.2.1] at V_b3
      refine Run.st (S' := Tl5.setTop (mkF m 49 #[.val (.ref a0), .val (.ref aK), .val (.ref b3), .val (.int (1 : Int32)), .val (.int (0 : Int32)), .val (.int iv), x6] [])) (fun _ k => XS.iconst Xl5.here hx rfl (hb hby d8_44) (XS.istoreN Xl5.here hx rfl (hb hby d8_45) rfl (l' := #[.val (.ref a0), .val (.ref aK), .val (.ref b3), .val (.int (1 : Int32)), .val (.int nk), .val (.int iv), x6]) rfl (XS.iconst Xl5.here hx rfl (hb hby d8_46) (XS.istore Xl5.here hx rfl (hb hby d8_47) rfl (l' := #[.val (.ref a0), .val (.ref aK), .val (.ref b3), .val (.int (1 : Int32)), .val (.int (0 : Int32)), .val (.int iv), x6]) rfl k)))) ?_
      have LP6 : ∀ (fuB : Nat) (jv : Int32) (rv : Int32) (Tl6 : State) (Hl6 : Heap) (gl : Good p l e ({ frames := 0, cells := 1, slots := 10, locals := 0 } : Room) s m #[(.ref a0), (.ref aK)] below meth c n0 1 10 Hl6 Tl6) (Zn : n0 ≤ Hl6.size) (Kp : Keep h0 Hl6 []) (F_left : Fld Z Hl6 a0 "com/example/sidewager/sidewager/analysis/Shoe" "left" "[I" (.ref aL)) (V_left : Arv Z Hl6 aL kL .int (10 : Int32) (lf.map Value.int) (.int (0 : Int32))) (V_ks : Arv Z Hl6 aK kK .int nk (ks.map Value.int) (.int (0 : Int32))) (V_b3 : Arv Z Hl6 b3 k3 .int (10 : Int32) ((own_W ks nk 10).map Value.int) (.int (0 : Int32))), (jv.toInt + (fuB : Int) = 10 ∧ 0 ≤ jv.toInt ∧ (rv = 0 ∨ rv = 1) ∧ own_h (own_W ks nk 10) lf fuB jv rv = (own_H ks nk 10 lf)) → Run p e below (Ends s (QHoI Z a0 aK aL kL lf kK ks nk h0 n0) ({ frames := 0, cells := 1, slots := 10, locals := 0 } : Room).cells ({ frames := 0, cells := 1, slots := 10, locals := 0 } : Room).slots) (Tl6.setTop (mkF m 49 #[.val (.ref a0), .val (.ref aK), .val (.ref b3), .val (.int rv), .val (.int jv), .val (.int iv), x6] [])) := by
        intro fuB
        induction fuB with
        | zero =>
          intro jv rv Tl6 Hl6 gl Zn Kp F_left V_left V_ks V_b3 hylB
          obtain ⟨lcs6, Xl6, Nl6, El6⟩ := gl
          refine Run.st (S' := Tl6.setTop (mkF m 52 #[.val (.ref a0), .val (.ref aK), .val (.ref b3), .val (.int rv), .val (.int jv), .val (.int iv), x6] [(.ref a0), (.int jv)])) (fun _ k => XS.iload Xl6.here hx rfl (hb hby d8_49) rfl (XS.aloadN Xl6.here hx rfl (hb hby d8_51) rfl rfl k)) ?_
          obtain ⟨T7, X7, e7, st7⟩ := getF Xl6 hx hZ hown (host := "") (Or.inl (hwi hw 77 rfl)) Via.refl El6 F_left (g := (mkF m 52 #[.val (.ref a0), .val (.ref aK), .val (.ref b3), .val (.int rv), .val (.int jv), .val (.int iv), x6] [(.ref a0), (.int jv)])) rfl rfl (hb hby d8_52)
          refine Run.st (S' := T7.setTop (mkF m 55 #[.val (.ref a0), .val (.ref aK), .val (.ref b3), .val (.int rv), .val (.int jv), .val (.int iv), x6] [(.ref aL), (.int jv)])) (fun _ k => st7 _ k) ?_
          obtain ⟨cl8, Ar8, -, Sa8, Na8, -, -⟩ := id V_left
          refine Run.st (S' := T7.setTop (mkF m 56 #[.val (.ref a0), .val (.ref aK), .val (.ref b3), .val (.int rv), .val (.int jv), .val (.int iv), x6] [(.int (10 : Int32)), (.int jv)])) (fun _ k => X7.arraylength hx (by rw [e7]; exact Ar8.1) (State.isArrayOf_alike hZ.alike Ar8.2.1) (g := (mkF m 55 #[.val (.ref a0), .val (.ref aK), .val (.ref b3), .val (.int rv), .val (.int jv), .val (.int iv), x6] [(.ref aL), (.int jv)])) rfl rfl (hb hby d8_55) _ (by rw [len_of Sa8 Na8]; exact k)) ?_
          refine Run.st (S' := T7.setTop (mkF m 87 #[.val (.ref a0), .val (.ref aK), .val (.ref b3), .val (.int rv), .val (.int jv), .val (.int iv), x6] [])) (fun _ k => XS.icmpYes X7.here hx rfl (pc0 := 56) (pc' := 87) rfl (hb hby d8_56) rfl (flt (show ¬ (jv < (10 : Int32)) from own_nlt (show (10 : Int32).toInt = 10 from by decide) hylB.1)).2.1 (by decide) (by decide) k) ?_
          have hRv : (own_H ks nk 10 lf) = rv := hylB.2.2.2.symm
          subst hRv
          refine Run.st (S' := T7.setTop (mkF m 88 #[.val (.ref a0), .val (.ref aK), .val (.ref b3), .val (.int (own_H ks nk 10 lf)), .val (.int jv), .val (.int iv), x6] [(.int (own_H ks nk 10 lf))])) (fun _ k => XS.iloadN X7.here hx rfl (hb hby d8_87) rfl k) ?_
          refine Run.out X7 hx Bd.notSynchronized Bd.returns (own_nb hylB.2.2.1) (Or.inl ⟨rfl, by simp, _, rfl⟩) (hb hby d8_88) (by decide) (by decide) ?_
          rw [e7]
          exact ⟨rfl, Nl6, Kp⟩
        | succ fuB ihB =>
          intro jv rv Tl6 Hl6 gl Zn Kp F_left V_left V_ks V_b3 hylB
          obtain ⟨lcs6, Xl6, Nl6, El6⟩ := gl
          refine Run.st (S' := Tl6.setTop (mkF m 52 #[.val (.ref a0), .val (.ref aK), .val (.ref b3), .val (.int rv), .val (.int jv), .val (.int iv), x6] [(.ref a0), (.int jv)])) (fun _ k => XS.iload Xl6.here hx rfl (hb hby d8_49) rfl (XS.aloadN Xl6.here hx rfl (hb hby d8_51) rfl rfl k)) ?_
          obtain ⟨T9, X9, e9, st9⟩ := getF Xl6 hx hZ hown (host := "") (Or.inl (hwi hw 77 rfl)) Via.refl El6 F_left (g := (mkF m 52 #[.val (.ref a0), .val (.ref aK), .val (.ref b3), .val (.int rv), .val (.int jv), .val (.int iv), x6] [(.ref a0), (.int jv)])) rfl rfl (hb hby d8_52)
          refine Run.st (S' := T9.setTop (mkF m 55 #[.val (.ref a0), .val (.ref aK), .val (.ref b3), .val (.int rv), .val (.int jv), .val (.int iv), x6] [(.ref aL), (.int jv)])) (fun _ k => st9 _ k) ?_
          obtain ⟨cl10, Ar10, -, Sa10, Na10, -, -⟩ := id V_left
          refine Run.st (S' := T9.setTop (mkF m 56 #[.val (.ref a0), .val (.ref aK), .val (.ref b3), .val (.int rv), .val (.int jv), .val (.int iv), x6] [(.int (10 : Int32)), (.int jv)])) (fun _ k => X9.arraylength hx (by rw [e9]; exact Ar10.1) (State.isArrayOf_alike hZ.alike Ar10.2.1) (g := (mkF m 55 #[.val (.ref a0), .val (.ref aK), .val (.ref b3), .val (.int rv), .val (.int jv), .val (.int iv), x6] [(.ref aL), (.int jv)])) rfl rfl (hb hby d8_55) _ (by rw [len_of Sa10 Na10]; exact k)) ?_
          refine Run.st (S' := T9.setTop (mkF m 63 #[.val (.ref a0), .val (.ref aK), .val (.ref b3), .val (.int rv), .val (.int jv), .val (.int iv), x6] [(.int jv), (.ref b3), (.int rv)])) (fun _ k => XS.icmpNo X9.here hx rfl (hb hby d8_56) rfl (tlt (show jv < (10 : Int32) from own_lt (show (10 : Int32).toInt = 10 from by decide) hylB.1)).2.1 (XS.iloadN X9.here hx rfl (hb hby d8_59) rfl (XS.aloadN X9.here hx rfl (hb hby d8_60) rfl rfl (XS.iload X9.here hx rfl (hb hby d8_61) rfl k)))) ?_
          obtain ⟨cl11, Ar11, qa11, Sa11, Na11, Ha11, Ga11⟩ := id V_b3
          have hin11 : ¬ (jv < 0 ∨ cl11.slots.size ≤ (jv).toNatClampNeg) := inb_of Sa11 (inb32 (show (10 : Int32).toInt = 10 from by decide) hylB.2.1 (own_lti hylB.1))
          have hat11 : cl11.slots[(jv).toNatClampNeg]? = some (.int ((own_W ks nk 10).getD (jv).toNatClampNeg 0)) := Has.at Ha11 hin11 (own_get _ _)
          refine Run.st (S' := T9.setTop (mkF m 65 #[.val (.ref a0), .val (.ref aK), .val (.ref b3), .val (.int rv), .val (.int jv), .val (.int iv), x6] [(.ref a0), (.int ((own_W ks nk 10).getD (jv).toNatClampNeg 0)), (.int rv)])) (fun _ k => X9.iaload hx (j := jv) (v := (.int ((own_W ks nk 10).getD (jv).toNatClampNeg 0))) (by rw [e9]; exact Ar11.1) (State.isArrayOf_alike hZ.alike Ar11.2.1) Ar11.2.2 hin11 hat11 (g := (mkF m 63 #[.val (.ref a0), .val (.ref aK), .val (.ref b3), .val (.int rv), .val (.int jv), .val (.int iv), x6] [(.int jv), (.ref b3), (.int rv)])) rfl rfl (hb hby d8_63) _ (XS.aloadN X9.here hx rfl (hb hby d8_64) rfl rfl k)) ?_
          obtain ⟨T12, X12, e12, st12⟩ := getF X9 hx hZ hown (host := "") (Or.inl (hwi hw 77 rfl)) Via.refl e9 F_left (g := (mkF m 65 #[.val (.ref a0), .val (.ref aK), .val (.ref b3), .val (.int rv), .val (.int jv), .val (.int iv), x6] [(.ref a0), (.int ((own_W ks nk 10).getD (jv).toNatClampNeg 0)), (.int rv)])) rfl rfl (hb hby d8_65)
          refine Run.st (S' := T12.setTop (mkF m 70 #[.val (.ref a0), .val (.ref aK), .val (.ref b3), .val (.int rv), .val (.int jv), .val (.int iv), x6] [(.int jv), (.ref aL), (.int ((own_W ks nk 10).getD (jv).toNatClampNeg 0)), (.int rv)])) (fun _ k => st12 _ (XS.iload X12.here hx rfl (hb hby d8_68) rfl k)) ?_
          obtain ⟨cl13, Ar13, qa13, Sa13, Na13, Ha13, Ga13⟩ := id V_left
          have hin13 : ¬ (jv < 0 ∨ cl13.slots.size ≤ (jv).toNatClampNeg) := inb_of Sa13 (inb32 (show (10 : Int32).toInt = 10 from by decide) hylB.2.1 (own_lti hylB.1))
          have hat13 : cl13.slots[(jv).toNatClampNeg]? = some (.int (lf.getD (jv).toNatClampNeg 0)) := Has.at Ha13 hin13 (own_get _ _)
          refine Run.st (S' := T12.setTop (mkF m 71 #[.val (.ref a0), .val (.ref aK), .val (.ref b3), .val (.int rv), .val (.int jv), .val (.int iv), x6] [(.int (lf.getD (jv).toNatClampNeg 0)), (.int ((own_W ks nk 10).getD (jv).toNatClampNeg 0)), (.int rv)])) (fun _ k => X12.iaload hx (j := jv) (v := (.int (lf.getD (jv).toNatClampNeg 0))) (by rw [e12]; exact Ar13.1) (State.isArrayOf_alike hZ.alike Ar13.2.1) Ar13.2.2 hin13 hat13 (g := (mkF m 70 #[.val (.ref a0), .val (.ref aK), .val (.ref b3), .val (.int rv), .val (.int jv), .val (.int iv), x6] [(.int jv), (.ref aL), (.int ((own_W ks nk 10).getD (jv).toNatClampNeg 0)), (.int rv)])) rfl rfl (hb hby d8_70) _ k) ?_
          by_cases hc71_14 : (lf.getD (jv).toNatClampNeg 0) < ((own_W ks nk 10).getD (jv).toNatClampNeg 0)
          · refine Run.st (S' := T12.setTop (mkF m 49 #[.val (.ref a0), .val (.ref aK), .val (.ref b3), .val (.int (rv &&& (0 : Int32))), .val (.int (jv + (1 : Int32))), .val (.int iv), x6] [])) (fun _ k => XS.icmpYes X12.here hx rfl (pc0 := 71) (pc' := 78) rfl (hb hby d8_71) rfl (tlt hc71_14).2.2.1 (by decide) (by decide) (XS.iconst X12.here hx rfl (hb hby d8_78) (XS.iand X12.here hx rfl (hb hby d8_79) rfl (XS.istoreN X12.here hx rfl (hb hby d8_80) rfl (l' := #[.val (.ref a0), .val (.ref aK), .val (.ref b3), .val (.int (rv &&& (0 : Int32))), .val (.int jv), .val (.int iv), x6]) rfl (XS.iinc X12.here hx rfl (hb hby d8_81) rfl (l' := #[.val (.ref a0), .val (.ref aK), .val (.ref b3), .val (.int (rv &&& (0 : Int32))), .val (.int (jv + (1 : Int32))), .val (.int iv), x6]) rfl (XS.goto X12.here hx rfl (pc0 := 84) (pc' := 49) rfl (hb hby d8_84) (by decide) (by decide) k)))))) ?_
            exact ihB (jv + (1 : Int32)) (rv &&& (0 : Int32)) _ _ ⟨_, X12, Nl6, e12⟩ Zn Kp F_left V_left V_ks V_b3 ⟨(own_inc hylB.2.1 (by decide) hylB.1).1, (own_inc hylB.2.1 (by decide) hylB.1).2, own_a0 hylB.2.2.1, (by have q := hylB.2.2.2; rw [own_h, if_pos hc71_14] at q; exact q)⟩
          · refine Run.st (S' := T12.setTop (mkF m 49 #[.val (.ref a0), .val (.ref aK), .val (.ref b3), .val (.int (rv &&& (1 : Int32))), .val (.int (jv + (1 : Int32))), .val (.int iv), x6] [])) (fun _ k => XS.icmpNo X12.here hx rfl (hb hby d8_71) rfl (flt hc71_14).2.2.1 (XS.iconst X12.here hx rfl (hb hby d8_74) (XS.goto X12.here hx rfl (pc0 := 75) (pc' := 79) rfl (hb hby d8_75) (by decide) (by decide) (XS.iand X12.here hx rfl (hb hby d8_79) rfl (XS.istoreN X12.here hx rfl (hb hby d8_80) rfl (l' := #[.val (.ref a0), .val (.ref aK), .val (.ref b3), .val (.int (rv &&& (1 : Int32))), .val (.int jv), .val (.int iv), x6]) rfl (XS.iinc X12.here hx rfl (hb hby d8_81) rfl (l' := #[.val (.ref a0), .val (.ref aK), .val (.ref b3), .val (.int (rv &&& (1 : Int32))), .val (.int (jv + (1 : Int32))), .val (.int iv), x6]) rfl (XS.goto X12.here hx rfl (pc0 := 84) (pc' := 49) rfl (hb hby d8_84) (by decide) (by decide) k))))))) ?_
            exact ihB (jv + (1 : Int32)) (rv &&& (1 : Int32)) _ _ ⟨_, X12, Nl6, e12⟩ Zn Kp F_left V_left V_ks V_b3 ⟨(own_inc hylB.2.1 (by decide) hylB.1).1, (own_inc hylB.2.1 (by decide) hylB.1).2, own_a1 hylB.2.2.1, (by have q := hylB.2.2.2; rw [own_h, if_neg hc71_14] at q; exact q)⟩
      exact LP6 10 (0 : Int32) (1 : Int32) _ _ ⟨_, Xl5, Nl5, El5⟩ Zn Kp F_left V_left V_ks V_b3 ⟨by decide, by decide, Or.inr rfl, rfl⟩
    | succ fuA ihA =>
      intro iv x6 Wl Tl5 Hl5 gl Zn Kp F_left V_left V_ks V_b3 hylA
      obtain ⟨lcs5, Xl5, Nl5, El5⟩ := gl
      refine Run.st (S' := Tl5.setTop (mkF m 27 #[.val (.ref a0), .val (.ref aK), .val (.ref b3), .val (.ref aK), .val (.int nk), .val (.int iv), x6] [(.int iv), (.ref aK)])) (fun _ k => XS.iload Xl5.here hx rfl (hb hby d8_17) rfl (XS.iload Xl5.here hx rfl (hb hby d8_19) rfl (XS.icmpNo Xl5.here hx rfl (hb hby d8_21) rfl (tlt (show iv < nk from own_lt (n := nk.toInt) rfl hylA.1)).2.1 (XS.aloadN Xl5.here hx rfl (hb hby d8_24) rfl rfl (XS.iload Xl5.here hx rfl (hb hby d8_25) rfl k))))) ?_
      obtain ⟨cl15, Ar15, qa15, Sa15, Na15, Ha15, Ga15⟩ := id V_ks
      have hin15 : ¬ (iv < 0 ∨ cl15.slots.size ≤ (iv).toNatClampNeg) := inb_of Sa15 (inb32 (z := nk) rfl hylA.2.1 (own_lti hylA.1))
      have hat15 : cl15.slots[(iv).toNatClampNeg]? = some (.int (ks.getD (iv).toNatClampNeg 0)) := Has.at Ha15 hin15 (own_get _ _)
      refine Run.st (S' := Tl5.setTop (mkF m 34 #[.val (.ref a0), .val (.ref aK), .val (.ref b3), .val (.ref aK), .val (.int nk), .val (.int iv), .val (.int (ks.getD (iv).toNatClampNeg 0))] [(.int (ks.getD (iv).toNatClampNeg 0)), (.ref b3), (.int (ks.getD (iv).toNatClampNeg 0)), (.ref b3)])) (fun _ k => Xl5.iaload hx (j := iv) (v := (.int (ks.getD (iv).toNatClampNeg 0))) (by rw [El5]; exact Ar15.1) (State.isArrayOf_alike hZ.alike Ar15.2.1) Ar15.2.2 hin15 hat15 (g := (mkF m 27 #[.val (.ref a0), .val (.ref aK), .val (.ref b3), .val (.ref aK), .val (.int nk), .val (.int iv), x6] [(.int iv), (.ref aK)])) rfl rfl (hb hby d8_27) _ (XS.istore Xl5.here hx rfl (hb hby d8_28) rfl (l' := #[.val (.ref a0), .val (.ref aK), .val (.ref b3), .val (.ref aK), .val (.int nk), .val (.int iv), .val (.int (ks.getD (iv).toNatClampNeg 0))]) (own_stl (x := x6) rfl rfl hylA.2.2.2.2) (XS.aloadN Xl5.here hx rfl (hb hby d8_30) rfl rfl (XS.iload Xl5.here hx rfl (hb hby d8_31) rfl (Jvm.Free.XT.dup2 Xl5.here hx rfl (hb hby d8_33) rfl rfl rfl k))))) ?_
      obtain ⟨cl16, Ar16, qa16, Sa16, Na16, Ha16, Ga16⟩ := id V_b3
      have hin16 : ¬ ((ks.getD (iv).toNatClampNeg 0) < 0 ∨ cl16.slots.size ≤ ((ks.getD (iv).toNatClampNeg 0)).toNatClampNeg) := inb_of Sa16 (inb32 (show (10 : Int32).toInt = 10 from by decide) (hks iv hylA.2.1 (own_lti hylA.1)).1 (hks iv hylA.2.1 (own_lti hylA.1)).2)
      have hat16 : cl16.slots[((ks.getD (iv).toNatClampNeg 0)).toNatClampNeg]? = some (.int (Wl.getD ((ks.getD (iv).toNatClampNeg 0)).toNatClampNeg 0)) := Has.at Ha16 hin16 (own_get _ _)
      refine Run.st (S' := Tl5.setTop (mkF m 37 #[.val (.ref a0), .val (.ref aK), .val (.ref b3), .val (.ref aK), .val (.int nk), .val (.int iv), .val (.int (ks.getD (iv).toNatClampNeg 0))] [(.int ((Wl.getD ((ks.getD (iv).toNatClampNeg 0)).toNatClampNeg 0) + (1 : Int32))), (.int (ks.getD (iv).toNatClampNeg 0)), (.ref b3)])) (fun _ k => Xl5.iaload hx (j := (ks.getD (iv).toNatClampNeg 0)) (v := (.int (Wl.getD ((ks.getD (iv).toNatClampNeg 0)).toNatClampNeg 0))) (by rw [El5]; exact Ar16.1) (State.isArrayOf_alike hZ.alike Ar16.2.1) Ar16.2.2 hin16 hat16 (g := (mkF m 34 #[.val (.ref a0), .val (.ref aK), .val (.ref b3), .val (.ref aK), .val (.int nk), .val (.int iv), .val (.int (ks.getD (iv).toNatClampNeg 0))] [(.int (ks.getD (iv).toNatClampNeg 0)), (.ref b3), (.int (ks.getD (iv).toNatClampNeg 0)), (.ref b3)])) rfl rfl (hb hby d8_34) _ (XS.iconst Xl5.here hx rfl (hb hby d8_35) (XS.iadd Xl5.here hx rfl (hb hby d8_36) rfl k))) ?_
      obtain ⟨cl17, Ar17, qa17, Sa17, Na17, Ha17, Ga17⟩ := V_b3
      have hin17 : ¬ ((ks.getD (iv).toNatClampNeg 0) < 0 ∨ cl17.slots.size ≤ ((ks.getD (iv).toNatClampNeg 0)).toNatClampNeg) := inb_of Sa17 (inb32 (show (10 : Int32).toInt = 10 from by decide) (hks iv hylA.2.1 (own_lti hylA.1)).1 (hks iv hylA.2.1 (own_lti hylA.1)).2)
      obtain ⟨T17, h17, X17, e17, W17, st17⟩ := stI Xl5 hx hZ El5 Ar17 (j := (ks.getD (iv).toNatClampNeg 0)) hin17 (g := (mkF m 37 #[.val (.ref a0), .val (.ref aK), .val (.ref b3), .val (.ref aK), .val (.int nk), .val (.int iv), .val (.int (ks.getD (iv).toNatClampNeg 0))] [(.int ((Wl.getD ((ks.getD (iv).toNatClampNeg 0)).toNatClampNeg 0) + (1 : Int32))), (.int (ks.getD (iv).toNatClampNeg 0)), (.ref b3)])) rfl rfl (hb hby d8_37)
      have V_b3 := Arv.set Ar17 qa17 Sa17 Na17 Ha17 Ga17 rfl W17 ((ks.getD (iv).toNatClampNeg 0)).toNatClampNeg rfl (own_pos (show (10 : Int32).toInt = (10 : Nat) from by decide) hylA.2.2.1 (inb32 (show (10 : Int32).toInt = 10 from by decide) (hks iv hylA.2.1 (own_lti hylA.1)).1 (hks iv hylA.2.1 (own_lti hylA.1)).2))
      rw [own_set] at V_b3
      have F_left := F_left.other W17 (Or.inl ne_a0_b3)
      have V_left := V_left.other W17 ne_aL_b3
      have V_ks := V_ks.other W17 ne_aK_b3
      have N17 := Fr.snoc X17 Nl5 g_b3
      have Kp := Kp.wr W17 (Or.inr sz_b3)
      have Zn := Nat.le_trans Zn (Nat.le_of_eq W17.size.symm)
      refine Run.st (S' := T17.setTop (mkF m 17 #[.val (.ref a0), .val (.ref aK), .val (.ref b3), .val (.ref aK), .val (.int nk), .val (.int (iv + (1 : Int32))), .val (.int (ks.getD (iv).toNatClampNeg 0))] [])) (fun _ k => st17 _ (XS.iinc X17.here hx rfl (hb hby d8_38) rfl (l' := #[.val (.ref a0), .val (.ref aK), .val (.ref b3), .val (.ref aK), .val (.int nk), .val (.int (iv + (1 : Int32))), .val (.int (ks.getD (iv).toNatClampNeg 0))]) rfl (XS.goto X17.here hx rfl (pc0 := 41) (pc' := 17) rfl (hb hby d8_41) (by decide) (by decide) k))) ?_
      exact ihA (iv + (1 : Int32)) (.val (.int (ks.getD (iv).toNatClampNeg 0))) (Wl.set ((ks.getD (iv).toNatClampNeg 0)).toNatClampNeg ((Wl.getD ((ks.getD (iv).toNatClampNeg 0)).toNatClampNeg 0) + (1 : Int32))) _ _ ⟨_, X17, N17, e17⟩ Zn Kp F_left V_left V_ks V_b3 ⟨(own_inc hylA.2.1 hn1 hylA.1).1, (own_inc hylA.2.1 hn1 hylA.1).2, (by rw [List.length_set]; exact hylA.2.2.1), hylA.2.2.2.1, rfl⟩
  exact LP5 nk.toNatClampNeg (0 : Int32) (.unset) (List.replicate 10 (0 : Int32)) _ _ ⟨_, X3, N0, e3⟩ Zn Kp F_left V_left V_ks V_b3 ⟨own_n0 hn0, by decide, by decide, rfl, trivial⟩
theorem ef_HoM (m : MethodId) (a0 : Addr) (aK : Addr) : entryFrame m #[(.ref a0), (.ref aK)] 7 = mkF m 0 #[.val (.ref a0), .val (.ref aK), .unset, .unset, .unset, .unset, .unset] [] := by first | (simp [entryFrame, mkF, argsToLocals, Value.category]; done) | rfl
def QHoM (Z : State) (a0 : Addr) (aK : Addr) (aL : Addr) (kL : ClassId) (lf : List Int32) (kK : ClassId) (ks : List Int32) (nk : Int32) (h0 : Heap) (n0 : Nat) (v : Option Value) (h : Heap) (L : List Loc) : Prop := v = some (.int (own_H ks nk 40 lf)) ∧ Fr n0 L ∧ Keep h0 h []
set_option maxRecDepth 65536 in
set_option maxHeartbeats 40000000 in
theorem rmHoM (l : Launch) (Z : State) (aV : Array Value) (hw : ∀ d ∈ tables_1, d.before aV Z = true) (ws : List Jvm.Cond) (a0 : Addr) (aK : Addr) (aL : Addr) (kL : ClassId) (lf : List Int32) (kK : ClassId) (ks : List Int32) (nk : Int32) (h0 : Heap) (n0 : Nat) (Zn : n0 ≤ h0.size) (hn0 : 0 ≤ nk.toInt) (hn1 : nk.toInt < 1000) (hks : ∀ j : Int32, 0 ≤ j.toInt → j.toInt < nk.toInt → 0 ≤ (ks.getD j.toNatClampNeg 0).toInt ∧ (ks.getD j.toNatClampNeg 0).toInt < 40) (F_left : Fld Z h0 a0 "com/example/sidewager/sidewager/analysis/Shoe" "left" "[I" (.ref aL)) (V_left : Arv Z h0 aL kL .int (40 : Int32) (lf.map Value.int) (.int (0 : Int32))) (V_ks : Arv Z h0 aK kK .int nk (ks.map Value.int) (.int (0 : Int32))) :
    MetFree l (⟨"com/example/sidewager/sidewager/analysis/Shoe", "holds", "([I)Z"⟩ : MethodName) (head1 (Jvm.Cond.code (⟨"com/example/sidewager/sidewager/analysis/Shoe", "holds", "([I)Z"⟩ : MethodName) prog_12_method_16_code 7 (some .boolean) :: ws) ({ frames := 0, cells := 1, slots := 40, locals := 0 } : Room)) (fun a U => a = #[(.ref a0), (.ref aK)] ∧ Z.Warmed39 U.vm ∧ U.heap = h0) (fun _ _ _ _ _ => True) (fun _ U o U' => ∃ v L, o = .returned v ∧ QHoM Z a0 aK aL kL lf kK ks nk h0 n0 v U'.heap L ∧ FrameEnd U o U' L ({ frames := 0, cells := 1, slots := 40, locals := 0 } : Room).cells ({ frames := 0, cells := 1, slots := 40, locals := 0 } : Room).slots) := by
  refine MetFree.of_bodySF (plainFor_of_name pn_1) hisR ?_
  intro p e s m args below meth c s₁ Bd hml0 hP hK
  obtain ⟨rfl, hZ, hh⟩ := hP
  have hx := Bd.exec
  have hby := Bd.bytes
  have hml : c.maxLocals = 7 := hml0
  have hown : s.vm.findClass "com/example/sidewager/sidewager/analysis/Shoe" = some m.cls := findClass_of_methodNamed Bd.named
  have hnm := (name_of_methodNamed Bd.named Bd.method).1
  have X0 : Stand p l e ({ frames := 0, cells := 1, slots := 40, locals := 0 } : Room) s m #[(.ref a0), (.ref aK)] below meth c s₁ [] 0 0 := Stand.of_body Bd
  have e0 : s₁.heap = h0 := by rw [← hh, Bd.state]; rfl
  have N0 := Fr.nil n0
  have Kp := Keep.refl h0 []
  show Run p e below (Ends s (QHoM Z a0 aK aL kL lf kK ks nk h0 n0) ({ frames := 0, cells := 1, slots := 40, locals := 0 } : Room).cells ({ frames := 0, cells := 1, slots := 40, locals := 0 } : Room).slots) _
  refine Run.st (S' := s₁.setTop (mkF m 0 #[.val (.ref a0), .val (.ref aK), .unset, .unset, .unset, .unset, .unset] [])) (fun t k => castTop (ef_HoM m a0 aK) k) ?_
  refine Run.st (S' := s₁.setTop (mkF m 1 #[.val (.ref a0), .val (.ref aK), .unset, .unset, .unset, .unset, .unset] [(.ref a0)])) (fun _ k => XS.aloadN X0.here hx rfl (hb hby d8_0) rfl rfl k) ?_
  obtain ⟨T1, X1, e1, st1⟩ := getF X0 hx hZ hown (host := "") (Or.inl (hwi hw 77 rfl)) Via.refl e0 F_left (g := (mkF m 1 #[.val (.ref a0), .val (.ref aK), .unset, .unset, .unset, .unset, .unset] [(.ref a0)])) rfl rfl (hb hby d8_1)
  refine Run.st (S' := T1.setTop (mkF m 4 #[.val (.ref a0), .val (.ref aK), .unset, .unset, .unset, .unset, .unset] [(.ref aL)])) (fun _ k => st1 _ k) ?_
  obtain ⟨cl2, Ar2, -, Sa2, Na2, -, -⟩ := id V_left
  refine Run.st (S' := T1.setTop (mkF m 5 #[.val (.ref a0), .val (.ref aK), .unset, .unset, .unset, .unset, .unset] [(.int (40 : Int32))])) (fun _ k => X1.arraylength hx (by rw [e1]; exact Ar2.1) (State.isArrayOf_alike hZ.alike Ar2.2.1) (g := (mkF m 4 #[.val (.ref a0), .val (.ref aK), .unset, .unset, .unset, .unset, .unset] [(.ref aL)])) rfl rfl (hb hby d8_4) _ (by rw [len_of Sa2 Na2]; exact k)) ?_
  obtain ⟨T3, h3, k3, X3, e3, E3, A3, st3⟩ := newP X1 hx hZ (hwi hw 13 rfl) e1 (g := (mkF m 5 #[.val (.ref a0), .val (.ref aK), .unset, .unset, .unset, .unset, .unset] [(.int (40 : Int32))])) rfl (hb hby d8_5) rfl (by decide) (cap := 40) (by decide) (by decide) (by decide) (by decide)
  obtain ⟨b3, g3⟩ : ∃ z, z = h0.size := ⟨_, rfl⟩
  rw [← g3] at A3 st3
  have ne_a0_b3 : a0 ≠ b3 := Nat.ne_of_lt (Nat.lt_of_lt_of_le F_left.lt (Nat.le_of_eq g3.symm))
  have ne_aL_b3 : aL ≠ b3 := Nat.ne_of_lt (Nat.lt_of_lt_of_le V_left.lt (Nat.le_of_eq g3.symm))
  have ne_aK_b3 : aK ≠ b3 := Nat.ne_of_lt (Nat.lt_of_lt_of_le V_ks.lt (Nat.le_of_eq g3.symm))
  have F_left := F_left.ext E3
  have V_left := V_left.ext E3
  have V_ks := V_ks.ext E3
  have g_b3 : n0 ≤ b3 := Nat.le_trans Zn (Nat.le_of_eq g3.symm)
  have Zn := Nat.le_trans Zn E3.1
  have sz_b3 : h0.size ≤ b3 := Nat.le_trans Kp.1 (Nat.le_of_eq g3.symm)
  have Kp := Kp.ext E3
  have V_b3 : Arv Z h3 b3 k3 .int (40 : Int32) [(.int (0 : Int32)), (.int (0 : Int32)), (.int (0 : Int32)), (.int (0 : Int32)), (.int (0 : Int32)), (.int (0 : Int32)), (.int (0 : Int32)), (.int (0 : Int32)), (.int (0 : Int32)), (.int (0 : Int32)), (.int (0 : Int32)), (.int (0 : Int32)), (.int (0 : Int32)), (.int (0 : Int32)), (.int (0 : Int32)), (.int (0 : Int32)), (.int (0 : Int32)), (.int (0 : Int32)), (.int (0 : Int32)), (.int (0 : Int32)), (.int (0 : Int32)), (.int (0 : Int32)), (.int (0 : Int32)), (.int (0 : Int32)), (.int (0 : Int32)), (.int (0 : Int32)), (.int (0 : Int32)), (.int (0 : Int32)), (.int (0 : Int32)), (.int (0 : Int32)), (.int (0 : Int32)), (.int (0 : Int32)), (.int (0 : Int32)), (.int (0 : Int32)), (.int (0 : Int32)), (.int (0 : Int32)), (.int (0 : Int32)), (.int (0 : Int32)), (.int (0 : Int32)), (.int (0 : Int32))] (.int (0 : Int32)) := (Arv.new A3 (by decide)).pad (pad_rep [] (.int (0 : Int32)) 40)
  refine Run.st (S' := T3.setTop (mkF m 11 #[.val (.ref a0), .val (.ref aK), .val (.ref b3), .val (.ref aK), .unset, .unset, .unset] [(.ref aK)])) (fun _ k => st3 _ (XS.astoreN X3.here hx rfl (hb hby d8_7) rfl rfl (l' := #[.val (.ref a0), .val (.ref aK), .val (.ref b3), .unset, .unset, .unset, .unset]) rfl (XS.aloadN X3.here hx rfl (hb hby d8_8) rfl rfl (XS.astoreN X3.here hx rfl (hb hby d8_9) rfl rfl (l' := #[.val (.ref a0), .val (.ref aK), .val (.ref b3), .val (.ref aK), .unset, .unset, .unset]) rfl (XS.aloadN X3.here hx rfl (hb hby d8_10) rfl rfl k))))) ?_
  obtain ⟨cl4, Ar4, -, Sa4, Na4, -, -⟩ := id V_ks
  refine Run.st (S' := T3.setTop (mkF m 12 #[.val (.ref a0), .val (.ref aK), .val (.ref b3), .val (.ref aK), .unset, .unset, .unset] [(.int nk)])) (fun _ k => X3.arraylength hx (by rw [e3]; exact Ar4.1) (State.isArrayOf_alike hZ.alike Ar4.2.1) (g := (mkF m 11 #[.val (.ref a0), .val (.ref aK), .val (.ref b3), .val (.ref aK), .unset, .unset, .unset] [(.ref aK)])) rfl rfl (hb hby d8_11) _ (by rw [len_of Sa4 Na4]; exact k)) ?_
  refine Run.st (S' := T3.setTop (mkF m 17 #[.val (.ref a0), .val (.ref aK), .val (.ref b3), .val (.ref aK), .val (.int nk), .val (.int (0 : Int32)), .unset] [])) (fun _ k => XS.istore X3.here hx rfl (hb hby d8_12) rfl (l' := #[.val (.ref a0), .val (.ref aK), .val (.ref b3), .val (.ref aK), .val (.int nk), .unset, .unset]) rfl (XS.iconst X3.here hx rfl (hb hby d8_14) (XS.istore X3.here hx rfl (hb hby d8_15) rfl (l' := #[.val (.ref a0), .val (.ref aK), .val (.ref b3), .val (.ref aK), .val (.int nk), .val (.int (0 : Int32)), .unset]) rfl k))) ?_
  have V_b3 : Arv Z h3 b3 k3 .int (40 : Int32) ((List.replicate 40 (0 : Int32)).map Value.int) (.int (0 : Int32)) := V_b3
  have LP5 : ∀ (fuA : Nat) (iv : Int32) (x6 : Slot) (Wl : List Int32) (Tl5 : State) (Hl5 : Heap) (gl : Good p l e ({ frames := 0, cells := 1, slots := 40, locals := 0 } : Room) s m #[(.ref a0), (.ref aK)] below meth c n0 1 40 Hl5 Tl5) (Zn : n0 ≤ Hl5.size) (Kp : Keep h0 Hl5 []) (F_left : Fld Z Hl5 a0 "com/example/sidewager/sidewager/analysis/Shoe" "left" "[I" (.ref aL)) (V_left : Arv Z Hl5 aL kL .int (40 : Int32) (lf.map Value.int) (.int (0 : Int32))) (V_ks : Arv Z Hl5 aK kK .int nk (ks.map Value.int) (.int (0 : Int32))) (V_b3 : Arv Z Hl5 b3 k3 .int (40 : Int32) (Wl.map Value.int) (.int (0 : Int32))), (iv.toInt + (fuA : Int) = nk.toInt ∧ 0 ≤ iv.toInt ∧ Wl.length = 40 ∧ own_w ks fuA iv Wl = (own_W ks nk 40) ∧ own_pl x6) → Run p e below (Ends s (QHoM Z a0 aK aL kL lf kK ks nk h0 n0) ({ frames := 0, cells := 1, slots := 40, locals := 0 } : Room).cells ({ frames := 0, cells := 1, slots := 40, locals := 0 } : Room).slots) (Tl5.setTop (mkF m 17 #[.val (.ref a0), .val (.ref aK), .val (.ref b3), .val (.ref aK), .val (.int nk), .val (.int iv), x6] [])) := by
    intro fuA
    induction fuA with
    | zero =>
      intro iv x6 Wl Tl5 Hl5 gl Zn Kp F_left V_left V_ks V_b3 hylA
      obtain ⟨lcs5, Xl5, Nl5, El5⟩ := gl
      refine Run.st (S' := Tl5.setTop (mkF m 44 #[.val (.ref a0), .val (.ref aK), .val (.ref b3), .val (.ref aK), .val (.int nk), .val (.int iv), x6] [])) (fun _ k => XS.iload Xl5.here hx rfl (hb hby d8_17) rfl (XS.iload Xl5.here hx rfl (hb hby d8_19) rfl (XS.icmpYes Xl5.here hx rfl (pc0 := 21) (pc' := 44) rfl (hb hby d8_21) rfl (flt (show ¬ (iv < nk) from own_nlt (n := nk.toInt) rfl hylA.1)).2.1 (by decide) (by decide) k))) ?_
      rw [show Wl = (own_W ks nk 40) from hylA.2.2.2.1] at V_b3
      refine Run.st (S' := Tl5.setTop (mkF m 49 #[.val (.ref a0), .val (.ref aK), .val (.ref b3), .val (.int (1 : Int32)), .val (.int (0 : Int32)), .val (.int iv), x6] [])) (fun _ k => XS.iconst Xl5.here hx rfl (hb hby d8_44) (XS.istoreN Xl5.here hx rfl (hb hby d8_45) rfl (l' := #[.val (.ref a0), .val (.ref aK), .val (.ref b3), .val (.int (1 : Int32)), .val (.int nk), .val (.int iv), x6]) rfl (XS.iconst Xl5.here hx rfl (hb hby d8_46) (XS.istore Xl5.here hx rfl (hb hby d8_47) rfl (l' := #[.val (.ref a0), .val (.ref aK), .val (.ref b3), .val (.int (1 : Int32)), .val (.int (0 : Int32)), .val (.int iv), x6]) rfl k)))) ?_
      have LP6 : ∀ (fuB : Nat) (jv : Int32) (rv : Int32) (Tl6 : State) (Hl6 : Heap) (gl : Good p l e ({ frames := 0, cells := 1, slots := 40, locals := 0 } : Room) s m #[(.ref a0), (.ref aK)] below meth c n0 1 40 Hl6 Tl6) (Zn : n0 ≤ Hl6.size) (Kp : Keep h0 Hl6 []) (F_left : Fld Z Hl6 a0 "com/example/sidewager/sidewager/analysis/Shoe" "left" "[I" (.ref aL)) (V_left : Arv Z Hl6 aL kL .int (40 : Int32) (lf.map Value.int) (.int (0 : Int32))) (V_ks : Arv Z Hl6 aK kK .int nk (ks.map Value.int) (.int (0 : Int32))) (V_b3 : Arv Z Hl6 b3 k3 .int (40 : Int32) ((own_W ks nk 40).map Value.int) (.int (0 : Int32))), (jv.toInt + (fuB : Int) = 40 ∧ 0 ≤ jv.toInt ∧ (rv = 0 ∨ rv = 1) ∧ own_h (own_W ks nk 40) lf fuB jv rv = (own_H ks nk 40 lf)) → Run p e below (Ends s (QHoM Z a0 aK aL kL lf kK ks nk h0 n0) ({ frames := 0, cells := 1, slots := 40, locals := 0 } : Room).cells ({ frames := 0, cells := 1, slots := 40, locals := 0 } : Room).slots) (Tl6.setTop (mkF m 49 #[.val (.ref a0), .val (.ref aK), .val (.ref b3), .val (.int rv), .val (.int jv), .val (.int iv), x6] [])) := by
        intro fuB
        induction fuB with
        | zero =>
          intro jv rv Tl6 Hl6 gl Zn Kp F_left V_left V_ks V_b3 hylB
          obtain ⟨lcs6, Xl6, Nl6, El6⟩ := gl
          refine Run.st (S' := Tl6.setTop (mkF m 52 #[.val (.ref a0), .val (.ref aK), .val (.ref b3), .val (.int rv), .val (.int jv), .val (.int iv), x6] [(.ref a0), (.int jv)])) (fun _ k => XS.iload Xl6.here hx rfl (hb hby d8_49) rfl (XS.aloadN Xl6.here hx rfl (hb hby d8_51) rfl rfl k)) ?_
          obtain ⟨T7, X7, e7, st7⟩ := getF Xl6 hx hZ hown (host := "") (Or.inl (hwi hw 77 rfl)) Via.refl El6 F_left (g := (mkF m 52 #[.val (.ref a0), .val (.ref aK), .val (.ref b3), .val (.int rv), .val (.int jv), .val (.int iv), x6] [(.ref a0), (.int jv)])) rfl rfl (hb hby d8_52)
          refine Run.st (S' := T7.setTop (mkF m 55 #[.val (.ref a0), .val (.ref aK), .val (.ref b3), .val (.int rv), .val (.int jv), .val (.int iv), x6] [(.ref aL), (.int jv)])) (fun _ k => st7 _ k) ?_
          obtain ⟨cl8, Ar8, -, Sa8, Na8, -, -⟩ := id V_left
          refine Run.st (S' := T7.setTop (mkF m 56 #[.val (.ref a0), .val (.ref aK), .val (.ref b3), .val (.int rv), .val (.int jv), .val (.int iv), x6] [(.int (40 : Int32)), (.int jv)])) (fun _ k => X7.arraylength hx (by rw [e7]; exact Ar8.1) (State.isArrayOf_alike hZ.alike Ar8.2.1) (g := (mkF m 55 #[.val (.ref a0), .val (.ref aK), .val (.ref b3), .val (.int rv), .val (.int jv), .val (.int iv), x6] [(.ref aL), (.int jv)])) rfl rfl (hb hby d8_55) _ (by rw [len_of Sa8 Na8]; exact k)) ?_
          refine Run.st (S' := T7.setTop (mkF m 87 #[.val (.ref a0), .val (.ref aK), .val (.ref b3), .val (.int rv), .val (.int jv), .val (.int iv), x6] [])) (fun _ k => XS.icmpYes X7.here hx rfl (pc0 := 56) (pc' := 87) rfl (hb hby d8_56) rfl (flt (show ¬ (jv < (40 : Int32)) from own_nlt (show (40 : Int32).toInt = 40 from by decide) hylB.1)).2.1 (by decide) (by decide) k) ?_
          have hRv : (own_H ks nk 40 lf) = rv := hylB.2.2.2.symm
          subst hRv
          refine Run.st (S' := T7.setTop (mkF m 88 #[.val (.ref a0), .val (.ref aK), .val (.ref b3), .val (.int (own_H ks nk 40 lf)), .val (.int jv), .val (.int iv), x6] [(.int (own_H ks nk 40 lf))])) (fun _ k => XS.iloadN X7.here hx rfl (hb hby d8_87) rfl k) ?_
          refine Run.out X7 hx Bd.notSynchronized Bd.returns (own_nb hylB.2.2.1) (Or.inl ⟨rfl, by simp, _, rfl⟩) (hb hby d8_88) (by decide) (by decide) ?_
          rw [e7]
          exact ⟨rfl, Nl6, Kp⟩
        | succ fuB ihB =>
          intro jv rv Tl6 Hl6 gl Zn Kp F_left V_left V_ks V_b3 hylB
          obtain ⟨lcs6, Xl6, Nl6, El6⟩ := gl
          refine Run.st (S' := Tl6.setTop (mkF m 52 #[.val (.ref a0), .val (.ref aK), .val (.ref b3), .val (.int rv), .val (.int jv), .val (.int iv), x6] [(.ref a0), (.int jv)])) (fun _ k => XS.iload Xl6.here hx rfl (hb hby d8_49) rfl (XS.aloadN Xl6.here hx rfl (hb hby d8_51) rfl rfl k)) ?_
          obtain ⟨T9, X9, e9, st9⟩ := getF Xl6 hx hZ hown (host := "") (Or.inl (hwi hw 77 rfl)) Via.refl El6 F_left (g := (mkF m 52 #[.val (.ref a0), .val (.ref aK), .val (.ref b3), .val (.int rv), .val (.int jv), .val (.int iv), x6] [(.ref a0), (.int jv)])) rfl rfl (hb hby d8_52)
          refine Run.st (S' := T9.setTop (mkF m 55 #[.val (.ref a0), .val (.ref aK), .val (.ref b3), .val (.int rv), .val (.int jv), .val (.int iv), x6] [(.ref aL), (.int jv)])) (fun _ k => st9 _ k) ?_
          obtain ⟨cl10, Ar10, -, Sa10, Na10, -, -⟩ := id V_left
          refine Run.st (S' := T9.setTop (mkF m 56 #[.val (.ref a0), .val (.ref aK), .val (.ref b3), .val (.int rv), .val (.int jv), .val (.int iv), x6] [(.int (40 : Int32)), (.int jv)])) (fun _ k => X9.arraylength hx (by rw [e9]; exact Ar10.1) (State.isArrayOf_alike hZ.alike Ar10.2.1) (g := (mkF m 55 #[.val (.ref a0), .val (.ref aK), .val (.ref b3), .val (.int rv), .val (.int jv), .val (.int iv), x6] [(.ref aL), (.int jv)])) rfl rfl (hb hby d8_55) _ (by rw [len_of Sa10 Na10]; exact k)) ?_
          refine Run.st (S' := T9.setTop (mkF m 63 #[.val (.ref a0), .val (.ref aK), .val (.ref b3), .val (.int rv), .val (.int jv), .val (.int iv), x6] [(.int jv), (.ref b3), (.int rv)])) (fun _ k => XS.icmpNo X9.here hx rfl (hb hby d8_56) rfl (tlt (show jv < (40 : Int32) from own_lt (show (40 : Int32).toInt = 40 from by decide) hylB.1)).2.1 (XS.iloadN X9.here hx rfl (hb hby d8_59) rfl (XS.aloadN X9.here hx rfl (hb hby d8_60) rfl rfl (XS.iload X9.here hx rfl (hb hby d8_61) rfl k)))) ?_
          obtain ⟨cl11, Ar11, qa11, Sa11, Na11, Ha11, Ga11⟩ := id V_b3
          have hin11 : ¬ (jv < 0 ∨ cl11.slots.size ≤ (jv).toNatClampNeg) := inb_of Sa11 (inb32 (show (40 : Int32).toInt = 40 from by decide) hylB.2.1 (own_lti hylB.1))
          have hat11 : cl11.slots[(jv).toNatClampNeg]? = some (.int ((own_W ks nk 40).getD (jv).toNatClampNeg 0)) := Has.at Ha11 hin11 (own_get _ _)
          refine Run.st (S' := T9.setTop (mkF m 65 #[.val (.ref a0), .val (.ref aK), .val (.ref b3), .val (.int rv), .val (.int jv), .val (.int iv), x6] [(.ref a0), (.int ((own_W ks nk 40).getD (jv).toNatClampNeg 0)), (.int rv)])) (fun _ k => X9.iaload hx (j := jv) (v := (.int ((own_W ks nk 40).getD (jv).toNatClampNeg 0))) (by rw [e9]; exact Ar11.1) (State.isArrayOf_alike hZ.alike Ar11.2.1) Ar11.2.2 hin11 hat11 (g := (mkF m 63 #[.val (.ref a0), .val (.ref aK), .val (.ref b3), .val (.int rv), .val (.int jv), .val (.int iv), x6] [(.int jv), (.ref b3), (.int rv)])) rfl rfl (hb hby d8_63) _ (XS.aloadN X9.here hx rfl (hb hby d8_64) rfl rfl k)) ?_
          obtain ⟨T12, X12, e12, st12⟩ := getF X9 hx hZ hown (host := "") (Or.inl (hwi hw 77 rfl)) Via.refl e9 F_left (g := (mkF m 65 #[.val (.ref a0), .val (.ref aK), .val (.ref b3), .val (.int rv), .val (.int jv), .val (.int iv), x6] [(.ref a0), (.int ((own_W ks nk 40).getD (jv).toNatClampNeg 0)), (.int rv)])) rfl rfl (hb hby d8_65)
          refine Run.st (S' := T12.setTop (mkF m 70 #[.val (.ref a0), .val (.ref aK), .val (.ref b3), .val (.int rv), .val (.int jv), .val (.int iv), x6] [(.int jv), (.ref aL), (.int ((own_W ks nk 40).getD (jv).toNatClampNeg 0)), (.int rv)])) (fun _ k => st12 _ (XS.iload X12.here hx rfl (hb hby d8_68) rfl k)) ?_
          obtain ⟨cl13, Ar13, qa13, Sa13, Na13, Ha13, Ga13⟩ := id V_left
          have hin13 : ¬ (jv < 0 ∨ cl13.slots.size ≤ (jv).toNatClampNeg) := inb_of Sa13 (inb32 (show (40 : Int32).toInt = 40 from by decide) hylB.2.1 (own_lti hylB.1))
          have hat13 : cl13.slots[(jv).toNatClampNeg]? = some (.int (lf.getD (jv).toNatClampNeg 0)) := Has.at Ha13 hin13 (own_get _ _)
          refine Run.st (S' := T12.setTop (mkF m 71 #[.val (.ref a0), .val (.ref aK), .val (.ref b3), .val (.int rv), .val (.int jv), .val (.int iv), x6] [(.int (lf.getD (jv).toNatClampNeg 0)), (.int ((own_W ks nk 40).getD (jv).toNatClampNeg 0)), (.int rv)])) (fun _ k => X12.iaload hx (j := jv) (v := (.int (lf.getD (jv).toNatClampNeg 0))) (by rw [e12]; exact Ar13.1) (State.isArrayOf_alike hZ.alike Ar13.2.1) Ar13.2.2 hin13 hat13 (g := (mkF m 70 #[.val (.ref a0), .val (.ref aK), .val (.ref b3), .val (.int rv), .val (.int jv), .val (.int iv), x6] [(.int jv), (.ref aL), (.int ((own_W ks nk 40).getD (jv).toNatClampNeg 0)), (.int rv)])) rfl rfl (hb hby d8_70) _ k) ?_
          by_cases hc71_14 : (lf.getD (jv).toNatClampNeg 0) < ((own_W ks nk 40).getD (jv).toNatClampNeg 0)
          · refine Run.st (S' := T12.setTop (mkF m 49 #[.val (.ref a0), .val (.ref aK), .val (.ref b3), .val (.int (rv &&& (0 : Int32))), .val (.int (jv + (1 : Int32))), .val (.int iv), x6] [])) (fun _ k => XS.icmpYes X12.here hx rfl (pc0 := 71) (pc' := 78) rfl (hb hby d8_71) rfl (tlt hc71_14).2.2.1 (by decide) (by decide) (XS.iconst X12.here hx rfl (hb hby d8_78) (XS.iand X12.here hx rfl (hb hby d8_79) rfl (XS.istoreN X12.here hx rfl (hb hby d8_80) rfl (l' := #[.val (.ref a0), .val (.ref aK), .val (.ref b3), .val (.int (rv &&& (0 : Int32))), .val (.int jv), .val (.int iv), x6]) rfl (XS.iinc X12.here hx rfl (hb hby d8_81) rfl (l' := #[.val (.ref a0), .val (.ref aK), .val (.ref b3), .val (.int (rv &&& (0 : Int32))), .val (.int (jv + (1 : Int32))), .val (.int iv), x6]) rfl (XS.goto X12.here hx rfl (pc0 := 84) (pc' := 49) rfl (hb hby d8_84) (by decide) (by decide) k)))))) ?_
            exact ihB (jv + (1 : Int32)) (rv &&& (0 : Int32)) _ _ ⟨_, X12, Nl6, e12⟩ Zn Kp F_left V_left V_ks V_b3 ⟨(own_inc hylB.2.1 (by decide) hylB.1).1, (own_inc hylB.2.1 (by decide) hylB.1).2, own_a0 hylB.2.2.1, (by have q := hylB.2.2.2; rw [own_h, if_pos hc71_14] at q; exact q)⟩
          · refine Run.st (S' := T12.setTop (mkF m 49 #[.val (.ref a0), .val (.ref aK), .val (.ref b3), .val (.int (rv &&& (1 : Int32))), .val (.int (jv + (1 : Int32))), .val (.int iv), x6] [])) (fun _ k => XS.icmpNo X12.here hx rfl (hb hby d8_71) rfl (flt hc71_14).2.2.1 (XS.iconst X12.here hx rfl (hb hby d8_74) (XS.goto X12.here hx rfl (pc0 := 75) (pc' := 79) rfl (hb hby d8_75) (by decide) (by decide) (XS.iand X12.here hx rfl (hb hby d8_79) rfl (XS.istoreN X12.here hx rfl (hb hby d8_80) rfl (l' := #[.val (.ref a0), .val (.ref aK), .val (.ref b3), .val (.int (rv &&& (1 : Int32))), .val (.int jv), .val (.int iv), x6]) rfl (XS.iinc X12.here hx rfl (hb hby d8_81) rfl (l' := #[.val (.ref a0), .val (.ref aK), .val (.ref b3), .val (.int (rv &&& (1 : Int32))), .val (.int (jv + (1 : Int32))), .val (.int iv), x6]) rfl (XS.goto X12.here hx rfl (pc0 := 84) (pc' := 49) rfl (hb hby d8_84) (by decide) (by decide) k))))))) ?_
            exact ihB (jv + (1 : Int32)) (rv &&& (1 : Int32)) _ _ ⟨_, X12, Nl6, e12⟩ Zn Kp F_left V_left V_ks V_b3 ⟨(own_inc hylB.2.1 (by decide) hylB.1).1, (own_inc hylB.2.1 (by decide) hylB.1).2, own_a1 hylB.2.2.1, (by have q := hylB.2.2.2; rw [own_h, if_neg hc71_14] at q; exact q)⟩
      exact LP6 40 (0 : Int32) (1 : Int32) _ _ ⟨_, Xl5, Nl5, El5⟩ Zn Kp F_left V_left V_ks V_b3 ⟨by decide, by decide, Or.inr rfl, rfl⟩
    | succ fuA ihA =>
      intro iv x6 Wl Tl5 Hl5 gl Zn Kp F_left V_left V_ks V_b3 hylA
      obtain ⟨lcs5, Xl5, Nl5, El5⟩ := gl
      refine Run.st (S' := Tl5.setTop (mkF m 27 #[.val (.ref a0), .val (.ref aK), .val (.ref b3), .val (.ref aK), .val (.int nk), .val (.int iv), x6] [(.int iv), (.ref aK)])) (fun _ k => XS.iload Xl5.here hx rfl (hb hby d8_17) rfl (XS.iload Xl5.here hx rfl (hb hby d8_19) rfl (XS.icmpNo Xl5.here hx rfl (hb hby d8_21) rfl (tlt (show iv < nk from own_lt (n := nk.toInt) rfl hylA.1)).2.1 (XS.aloadN Xl5.here hx rfl (hb hby d8_24) rfl rfl (XS.iload Xl5.here hx rfl (hb hby d8_25) rfl k))))) ?_
      obtain ⟨cl15, Ar15, qa15, Sa15, Na15, Ha15, Ga15⟩ := id V_ks
      have hin15 : ¬ (iv < 0 ∨ cl15.slots.size ≤ (iv).toNatClampNeg) := inb_of Sa15 (inb32 (z := nk) rfl hylA.2.1 (own_lti hylA.1))
      have hat15 : cl15.slots[(iv).toNatClampNeg]? = some (.int (ks.getD (iv).toNatClampNeg 0)) := Has.at Ha15 hin15 (own_get _ _)
      refine Run.st (S' := Tl5.setTop (mkF m 34 #[.val (.ref a0), .val (.ref aK), .val (.ref b3), .val (.ref aK), .val (.int nk), .val (.int iv), .val (.int (ks.getD (iv).toNatClampNeg 0))] [(.int (ks.getD (iv).toNatClampNeg 0)), (.ref b3), (.int (ks.getD (iv).toNatClampNeg 0)), (.ref b3)])) (fun _ k => Xl5.iaload hx (j := iv) (v := (.int (ks.getD (iv).toNatClampNeg 0))) (by rw [El5]; exact Ar15.1) (State.isArrayOf_alike hZ.alike Ar15.2.1) Ar15.2.2 hin15 hat15 (g := (mkF m 27 #[.val (.ref a0), .val (.ref aK), .val (.ref b3), .val (.ref aK), .val (.int nk), .val (.int iv), x6] [(.int iv), (.ref aK)])) rfl rfl (hb hby d8_27) _ (XS.istore Xl5.here hx rfl (hb hby d8_28) rfl (l' := #[.val (.ref a0), .val (.ref aK), .val (.ref b3), .val (.ref aK), .val (.int nk), .val (.int iv), .val (.int (ks.getD (iv).toNatClampNeg 0))]) (own_stl (x := x6) rfl rfl hylA.2.2.2.2) (XS.aloadN Xl5.here hx rfl (hb hby d8_30) rfl rfl (XS.iload Xl5.here hx rfl (hb hby d8_31) rfl (Jvm.Free.XT.dup2 Xl5.here hx rfl (hb hby d8_33) rfl rfl rfl k))))) ?_
      obtain ⟨cl16, Ar16, qa16, Sa16, Na16, Ha16, Ga16⟩ := id V_b3
      have hin16 : ¬ ((ks.getD (iv).toNatClampNeg 0) < 0 ∨ cl16.slots.size ≤ ((ks.getD (iv).toNatClampNeg 0)).toNatClampNeg) := inb_of Sa16 (inb32 (show (40 : Int32).toInt = 40 from by decide) (hks iv hylA.2.1 (own_lti hylA.1)).1 (hks iv hylA.2.1 (own_lti hylA.1)).2)
      have hat16 : cl16.slots[((ks.getD (iv).toNatClampNeg 0)).toNatClampNeg]? = some (.int (Wl.getD ((ks.getD (iv).toNatClampNeg 0)).toNatClampNeg 0)) := Has.at Ha16 hin16 (own_get _ _)
      refine Run.st (S' := Tl5.setTop (mkF m 37 #[.val (.ref a0), .val (.ref aK), .val (.ref b3), .val (.ref aK), .val (.int nk), .val (.int iv), .val (.int (ks.getD (iv).toNatClampNeg 0))] [(.int ((Wl.getD ((ks.getD (iv).toNatClampNeg 0)).toNatClampNeg 0) + (1 : Int32))), (.int (ks.getD (iv).toNatClampNeg 0)), (.ref b3)])) (fun _ k => Xl5.iaload hx (j := (ks.getD (iv).toNatClampNeg 0)) (v := (.int (Wl.getD ((ks.getD (iv).toNatClampNeg 0)).toNatClampNeg 0))) (by rw [El5]; exact Ar16.1) (State.isArrayOf_alike hZ.alike Ar16.2.1) Ar16.2.2 hin16 hat16 (g := (mkF m 34 #[.val (.ref a0), .val (.ref aK), .val (.ref b3), .val (.ref aK), .val (.int nk), .val (.int iv), .val (.int (ks.getD (iv).toNatClampNeg 0))] [(.int (ks.getD (iv).toNatClampNeg 0)), (.ref b3), (.int (ks.getD (iv).toNatClampNeg 0)), (.ref b3)])) rfl rfl (hb hby d8_34) _ (XS.iconst Xl5.here hx rfl (hb hby d8_35) (XS.iadd Xl5.here hx rfl (hb hby d8_36) rfl k))) ?_
      obtain ⟨cl17, Ar17, qa17, Sa17, Na17, Ha17, Ga17⟩ := V_b3
      have hin17 : ¬ ((ks.getD (iv).toNatClampNeg 0) < 0 ∨ cl17.slots.size ≤ ((ks.getD (iv).toNatClampNeg 0)).toNatClampNeg) := inb_of Sa17 (inb32 (show (40 : Int32).toInt = 40 from by decide) (hks iv hylA.2.1 (own_lti hylA.1)).1 (hks iv hylA.2.1 (own_lti hylA.1)).2)
      obtain ⟨T17, h17, X17, e17, W17, st17⟩ := stI Xl5 hx hZ El5 Ar17 (j := (ks.getD (iv).toNatClampNeg 0)) hin17 (g := (mkF m 37 #[.val (.ref a0), .val (.ref aK), .val (.ref b3), .val (.ref aK), .val (.int nk), .val (.int iv), .val (.int (ks.getD (iv).toNatClampNeg 0))] [(.int ((Wl.getD ((ks.getD (iv).toNatClampNeg 0)).toNatClampNeg 0) + (1 : Int32))), (.int (ks.getD (iv).toNatClampNeg 0)), (.ref b3)])) rfl rfl (hb hby d8_37)
      have V_b3 := Arv.set Ar17 qa17 Sa17 Na17 Ha17 Ga17 rfl W17 ((ks.getD (iv).toNatClampNeg 0)).toNatClampNeg rfl (own_pos (show (40 : Int32).toInt = (40 : Nat) from by decide) hylA.2.2.1 (inb32 (show (40 : Int32).toInt = 40 from by decide) (hks iv hylA.2.1 (own_lti hylA.1)).1 (hks iv hylA.2.1 (own_lti hylA.1)).2))
      rw [own_set] at V_b3
      have F_left := F_left.other W17 (Or.inl ne_a0_b3)
      have V_left := V_left.other W17 ne_aL_b3
      have V_ks := V_ks.other W17 ne_aK_b3
      have N17 := Fr.snoc X17 Nl5 g_b3
      have Kp := Kp.wr W17 (Or.inr sz_b3)
      have Zn := Nat.le_trans Zn (Nat.le_of_eq W17.size.symm)
      refine Run.st (S' := T17.setTop (mkF m 17 #[.val (.ref a0), .val (.ref aK), .val (.ref b3), .val (.ref aK), .val (.int nk), .val (.int (iv + (1 : Int32))), .val (.int (ks.getD (iv).toNatClampNeg 0))] [])) (fun _ k => st17 _ (XS.iinc X17.here hx rfl (hb hby d8_38) rfl (l' := #[.val (.ref a0), .val (.ref aK), .val (.ref b3), .val (.ref aK), .val (.int nk), .val (.int (iv + (1 : Int32))), .val (.int (ks.getD (iv).toNatClampNeg 0))]) rfl (XS.goto X17.here hx rfl (pc0 := 41) (pc' := 17) rfl (hb hby d8_41) (by decide) (by decide) k))) ?_
      exact ihA (iv + (1 : Int32)) (.val (.int (ks.getD (iv).toNatClampNeg 0))) (Wl.set ((ks.getD (iv).toNatClampNeg 0)).toNatClampNeg ((Wl.getD ((ks.getD (iv).toNatClampNeg 0)).toNatClampNeg 0) + (1 : Int32))) _ _ ⟨_, X17, N17, e17⟩ Zn Kp F_left V_left V_ks V_b3 ⟨(own_inc hylA.2.1 hn1 hylA.1).1, (own_inc hylA.2.1 hn1 hylA.1).2, (by rw [List.length_set]; exact hylA.2.2.1), hylA.2.2.2.1, rfl⟩
  exact LP5 nk.toNatClampNeg (0 : Int32) (.unset) (List.replicate 40 (0 : Int32)) _ _ ⟨_, X3, N0, e3⟩ Zn Kp F_left V_left V_ks V_b3 ⟨own_n0 hn0, by decide, by decide, rfl, trivial⟩
def own_dl (k : Int32) (L : List Int32) : List Int32 := L.set k.toNatClampNeg ((L.getD k.toNatClampNeg 0) - (1 : Int32))
def own_it (k : Int32) : Nat → List Int32 → List Int32
  | 0, L => L
  | n + 1, L => own_dl k (own_it k n L)
def own_up (k : Int32) (L : List Int32) : List Int32 := L.set k.toNatClampNeg ((L.getD k.toNatClampNeg 0) + (1 : Int32))
def own_ir (k : Int32) : Nat → List Int32 → List Int32
  | 0, L => L
  | n + 1, L => own_up k (own_ir k n L)
def own_okb (m dd k1 dn : Int32) (N : Nat) (lf : List Int32) : Bool := (lf.length == N) && (List.range N).all fun j => (lf.getD j 0 == FLeft m dd k1 dn (Int32.ofNat j)) && decide (0 ≤ (lf.getD j 0).toInt)
def own_ok (m dd k1 dn : Int32) (N : Nat) (lf : List Int32) : Prop := lf.length = N ∧ ∀ j : Nat, j < N → lf.getD j 0 = FLeft m dd k1 dn (Int32.ofNat j) ∧ 0 ≤ (lf.getD j 0).toInt
theorem own_okb_ok {m dd k1 dn : Int32} {N : Nat} {lf : List Int32} (h : own_okb m dd k1 dn N lf = true) : own_ok m dd k1 dn N lf := by
  simp only [own_okb, Bool.and_eq_true, beq_iff_eq, List.all_eq_true, List.mem_range, decide_eq_true_eq] at h
  exact h
theorem own_kI : ∀ (d : Fin 5) (k : Fin 10) (j : Fin 4), 1 ≤ d.1 → own_okb 0 (Int32.ofNat d.1) (Int32.ofNat k.1) (Int32.ofNat j.1) 10 (own_it (Int32.ofNat k.1) j.1 (own_full (own_v (Int32.ofNat d.1) 1) 1)) = true ∧ (j.1 < 3 → ¬ (own_it (Int32.ofNat k.1) j.1 (own_full (own_v (Int32.ofNat d.1) 1) 1)).getD (Int32.ofNat k.1).toNatClampNeg 0 = 0) := by decide +kernel
theorem own_kM : ∀ (d : Fin 5) (k : Fin 10) (j : Fin 4), 1 ≤ d.1 → ((¬ FFull 1 (Int32.ofNat d.1) (Int32.ofNat k.1) < Int32.ofNat j.1) → own_okb 1 (Int32.ofNat d.1) (Int32.ofNat k.1) (Int32.ofNat j.1) 40 (own_it (Int32.ofNat k.1) j.1 (own_full (own_v (Int32.ofNat d.1) 4) 4)) = true) ∧ (Int32.ofNat j.1 < FFull 1 (Int32.ofNat d.1) (Int32.ofNat k.1) → ¬ (own_it (Int32.ofNat k.1) j.1 (own_full (own_v (Int32.ofNat d.1) 4) 4)).getD (Int32.ofNat k.1).toNatClampNeg 0 = 0) := by decide +kernel
theorem own_kM0 : ∀ (d : Fin 5) (k : Fin 40), 1 ≤ d.1 → own_okb 1 (Int32.ofNat d.1) (Int32.ofNat k.1) 0 40 (own_full (own_v (Int32.ofNat d.1) 4) 4) = true := by decide +kernel
theorem own_kR : ∀ (k : Fin 10) (j : Fin 4), (own_ir (Int32.ofNat k.1 % 10) j.1 (List.replicate 10 0)).length = 10 ∧ ¬ (own_ir (Int32.ofNat k.1 % 10) j.1 (List.replicate 10 0)).getD (Int32.ofNat k.1 % 10).toNatClampNeg 0 = 31 ∧ (own_ir (Int32.ofNat k.1 / 10) j.1 (List.replicate 4 0)).length = 4 ∧ ((own_ir (Int32.ofNat k.1 / 10) j.1 (List.replicate 4 0)).getD (Int32.ofNat k.1 / 10).toNatClampNeg 0 = 0 ↔ j.1 = 0) := by decide +kernel
theorem own_clamp (j : Nat) (h : j < 1000) : (Int32.ofNat j).toNatClampNeg = j ∧ (Int32.ofNat j).toInt = j := by
  have e : (Int32.ofNat j).toInt = j := by rw [Int32.toInt_ofNat_of_lt (by omega)]
  exact ⟨by rw [Int32.toNatClampNeg, e]; omega, e⟩
theorem own_ofN {k : Int32} {N : Nat} (hN : N < 1000) (h0 : 0 ≤ k.toInt) (h1 : k.toInt < N) : k.toNatClampNeg < N ∧ Int32.ofNat k.toNatClampNeg = k := by
  have q : k.toNatClampNeg < N := by rw [Int32.toNatClampNeg]; omega
  refine ⟨q, ?_⟩
  rw [← Int32.toInt_inj, (own_clamp _ (by omega)).2, Int32.toNatClampNeg]; omega
theorem own_hall (W lf : List Int32) (N : Nat) (hN : N < 1000) : ∀ (fu : Nat) (i r : Int32), i.toInt + (fu : Int) = N → 0 ≤ i.toInt → (r = 0 ∨ r = 1) → (own_h W lf fu i r = 0 ∨ own_h W lf fu i r = 1) ∧ (own_h W lf fu i r = 1 ↔ r = 1 ∧ ∀ j : Nat, i.toNatClampNeg ≤ j → j < N → ¬ lf.getD j 0 < W.getD j 0) := by
  intro fu
  induction fu with
  | zero =>
    intro i r h h0 hr
    refine ⟨hr, ⟨fun q => ⟨q, fun j a b => ?_⟩, fun q => q.1⟩⟩
    rw [Int32.toNatClampNeg] at a; omega
  | succ fu ih =>
    intro i r h h0 hr
    have e := own_inc (n := (N : Int)) h0 (by omega) h
    have ec : (i + (1 : Int32)).toNatClampNeg = i.toNatClampNeg + 1 := by
      have e1 := e.1; rw [Int32.toNatClampNeg, Int32.toNatClampNeg]; omega
    by_cases hc : (lf.getD i.toNatClampNeg 0) < (W.getD i.toNatClampNeg 0)
    · have q := ih (i + 1) (r &&& 0) e.1 e.2 (own_a0 hr)
      rw [own_h, if_pos hc]
      refine ⟨q.1, q.2.trans ⟨fun z => ?_, fun z => ?_⟩⟩
      · exfalso; have := z.1; rcases hr with hr | hr <;> subst hr <;> revert this <;> decide
      · exact absurd hc (z.2 _ (Nat.le_refl _) (by rw [Int32.toNatClampNeg]; omega))
    · have q := ih (i + 1) (r &&& 1) e.1 e.2 (own_a1 hr)
      have hr1 : (r &&& (1 : Int32)) = r := by rcases hr with hr | hr <;> subst hr <;> decide
      rw [own_h, if_neg hc]
      rw [hr1] at q ⊢
      refine ⟨q.1, q.2.trans ⟨fun z => ⟨z.1, fun j a b => ?_⟩, fun z => ⟨z.1, fun j a b => z.2 j (by omega) b⟩⟩⟩
      by_cases hj : j = i.toNatClampNeg
      · subst hj; exact hc
      · exact z.2 j (by omega) b
theorem own_main {N : Nat} {W lf : List Int32} (L C : Int32 → Int32) (hN : N < 1000) (hl : ∀ j, j < N → lf.getD j 0 = L (Int32.ofNat j) ∧ 0 ≤ (lf.getD j 0).toInt) (hw : ∀ j, j < N → W.getD j 0 = C (Int32.ofNat j)) (P : Prop) [Decidable P] (hyes : P → ∃ k : Int32, (0 ≤ k.toInt ∧ k.toInt < N) ∧ L k < C k) (hno : ¬ P → ∀ k : Int32, 0 ≤ (L k).toInt → ¬ L k < C k) : own_h W lf N 0 1 = if P then 0 else 1 := by
  have e0 : (0 : Int32).toInt = 0 := by decide
  have q := own_hall W lf N hN N 0 1 (by rw [e0]; omega) (by rw [e0]; omega) (Or.inr rfl)
  by_cases hP : P
  · rw [if_pos hP]
    rcases q.1 with h | h
    · exact h
    · exfalso
      obtain ⟨k, hk, hlt⟩ := hyes hP
      obtain ⟨a, b⟩ := own_ofN hN hk.1 hk.2
      have z := (q.2.mp h).2 k.toNatClampNeg (Nat.zero_le _) a
      rw [(hl _ a).1, hw _ a, b] at z; exact z hlt
  · rw [if_neg hP]
    refine q.2.mpr ⟨rfl, fun j _ b => ?_⟩
    have z := hl j b
    rw [z.1, hw j b]
    exact hno hP _ (by rw [← z.1]; exact z.2)
theorem own_upg (L : List Int32) (k j : Nat) (hk : k < L.length) : (L.set k ((L.getD k 0) + (1 : Int32))).getD j 0 = if k = j then L.getD j 0 + 1 else L.getD j 0 := by
  simp only [List.getD_eq_getElem?_getD, List.getElem?_set]
  by_cases h : k = j
  · subst h; simp [hk]
  · simp [h]
theorem own_repg (N j : Nat) : (List.replicate N (0 : Int32)).getD j 0 = 0 := by
  simp only [List.getD_eq_getElem?_getD, List.getElem?_replicate]; split <;> rfl
theorem own_eqN {k : Int32} {N j : Nat} (hN : N < 1000) (hk : 0 ≤ k.toInt ∧ k.toInt < N) (hj : j < N) : k.toNatClampNeg = j ↔ k = Int32.ofNat j := by
  constructor
  · intro h; subst h; exact (own_ofN hN hk.1 hk.2).2.symm
  · intro h; subst h; exact (own_clamp j (by omega)).1
theorem own_l01 : ((0 : Int32) < (1 : Int32)) = True := by first | (apply eq_true; decide) | (apply eq_false; decide)
theorem own_l02 : ((0 : Int32) < (2 : Int32)) = True := by first | (apply eq_true; decide) | (apply eq_false; decide)
theorem own_l03 : ((0 : Int32) < (3 : Int32)) = True := by first | (apply eq_true; decide) | (apply eq_false; decide)
theorem own_l11 : ((1 : Int32) < (1 : Int32)) = False := by first | (apply eq_true; decide) | (apply eq_false; decide)
theorem own_l12 : ((1 : Int32) < (2 : Int32)) = True := by first | (apply eq_true; decide) | (apply eq_false; decide)
theorem own_l13 : ((1 : Int32) < (3 : Int32)) = True := by first | (apply eq_true; decide) | (apply eq_false; decide)
theorem own_l21 : ((2 : Int32) < (1 : Int32)) = False := by first | (apply eq_true; decide) | (apply eq_false; decide)
theorem own_l22 : ((2 : Int32) < (2 : Int32)) = False := by first | (apply eq_true; decide) | (apply eq_false; decide)
theorem own_l23 : ((2 : Int32) < (3 : Int32)) = True := by first | (apply eq_true; decide) | (apply eq_false; decide)
theorem own_W0 (k1 k2 k3 : Int32) (N j : Nat) : (own_W [] 0 N).getD j 0 = FCnt (Int32.ofNat j) 0 k1 k2 k3 := by
  show (List.replicate N (0 : Int32)).getD j 0 = _
  rw [own_repg]; rfl
theorem own_W1 {k1 k2 k3 : Int32} {N j : Nat} (hN : N < 1000) (h1 : 0 ≤ k1.toInt ∧ k1.toInt < N) (hj : j < N) : (own_W [k1] 1 N).getD j 0 = FCnt (Int32.ofNat j) 1 k1 k2 k3 := by
  show ((List.replicate N (0 : Int32)).set k1.toNatClampNeg (((List.replicate N (0 : Int32)).getD k1.toNatClampNeg 0) + 1)).getD j 0 = _
  have a1 : k1.toNatClampNeg < (List.replicate N (0 : Int32)).length := by rw [List.length_replicate]; exact (own_ofN hN h1.1 h1.2).1
  rw [own_upg _ _ _ a1, own_repg]; simp only [own_eqN hN h1 hj]
  by_cases c1 : k1 = Int32.ofNat j <;> simp only [FCnt, c1, if_true, if_false, own_l01, own_l02, own_l03, own_l11, own_l12, own_l13, own_l21, own_l22, own_l23] <;> decide
theorem own_W2 {k1 k2 k3 : Int32} {N j : Nat} (hN : N < 1000) (h1 : 0 ≤ k1.toInt ∧ k1.toInt < N) (h2 : 0 ≤ k2.toInt ∧ k2.toInt < N) (hj : j < N) : (own_W [k1, k2] 2 N).getD j 0 = FCnt (Int32.ofNat j) 2 k1 k2 k3 := by
  obtain ⟨L1, e1⟩ : ∃ z, z = (List.replicate N (0 : Int32)).set k1.toNatClampNeg (((List.replicate N (0 : Int32)).getD k1.toNatClampNeg 0) + 1) := ⟨_, rfl⟩
  have a1 : k1.toNatClampNeg < (List.replicate N (0 : Int32)).length := by rw [List.length_replicate]; exact (own_ofN hN h1.1 h1.2).1
  have g1 : L1.getD j 0 = if k1.toNatClampNeg = j then 1 else 0 := by rw [e1, own_upg _ _ _ a1, own_repg]; rfl
  have a2 : k2.toNatClampNeg < L1.length := by rw [e1, List.length_set, List.length_replicate]; exact (own_ofN hN h2.1 h2.2).1
  show ((((List.replicate N (0 : Int32)).set k1.toNatClampNeg (((List.replicate N (0 : Int32)).getD k1.toNatClampNeg 0) + 1))).set k2.toNatClampNeg (((((List.replicate N (0 : Int32)).set k1.toNatClampNeg (((List.replicate N (0 : Int32)).getD k1.toNatClampNeg 0) + 1))).getD k2.toNatClampNeg 0) + 1)).getD j 0 = _
  rw [← e1, own_upg _ _ _ a2, g1]; simp only [own_eqN hN h1 hj, own_eqN hN h2 hj]
  by_cases c1 : k1 = Int32.ofNat j <;> by_cases c2 : k2 = Int32.ofNat j <;> simp only [FCnt, c1, c2, if_true, if_false, own_l01, own_l02, own_l03, own_l11, own_l12, own_l13, own_l21, own_l22, own_l23] <;> decide
theorem own_W3 {k1 k2 k3 : Int32} {N j : Nat} (hN : N < 1000) (h1 : 0 ≤ k1.toInt ∧ k1.toInt < N) (h2 : 0 ≤ k2.toInt ∧ k2.toInt < N) (h3 : 0 ≤ k3.toInt ∧ k3.toInt < N) (hj : j < N) : (own_W [k1, k2, k3] 3 N).getD j 0 = FCnt (Int32.ofNat j) 3 k1 k2 k3 := by
  obtain ⟨L1, e1⟩ : ∃ z, z = (List.replicate N (0 : Int32)).set k1.toNatClampNeg (((List.replicate N (0 : Int32)).getD k1.toNatClampNeg 0) + 1) := ⟨_, rfl⟩
  have a1 : k1.toNatClampNeg < (List.replicate N (0 : Int32)).length := by rw [List.length_replicate]; exact (own_ofN hN h1.1 h1.2).1
  have g1 : ∀ i, L1.getD i 0 = if k1.toNatClampNeg = i then 1 else 0 := fun i => by rw [e1, own_upg _ _ _ a1, own_repg]; rfl
  have a2 : k2.toNatClampNeg < L1.length := by rw [e1, List.length_set, List.length_replicate]; exact (own_ofN hN h2.1 h2.2).1
  obtain ⟨L2, e2⟩ : ∃ z, z = L1.set k2.toNatClampNeg ((L1.getD k2.toNatClampNeg 0) + 1) := ⟨_, rfl⟩
  have a3 : k3.toNatClampNeg < L2.length := by rw [e2, List.length_set, e1, List.length_set, List.length_replicate]; exact (own_ofN hN h3.1 h3.2).1
  have g2 : L2.getD j 0 = if k2.toNatClampNeg = j then L1.getD j 0 + 1 else L1.getD j 0 := by rw [e2, own_upg _ _ _ a2]
  have eW : own_W [k1, k2, k3] 3 N = L2.set k3.toNatClampNeg ((L2.getD k3.toNatClampNeg 0) + 1) := by rw [e2, e1]; rfl
  rw [eW, own_upg _ _ _ a3, g2, g1]; simp only [own_eqN hN h1 hj, own_eqN hN h2 hj, own_eqN hN h3 hj]
  by_cases c1 : k1 = Int32.ofNat j <;> by_cases c2 : k2 = Int32.ofNat j <;> by_cases c3 : k3 = Int32.ofNat j <;> simp only [FCnt, c1, c2, c3, if_true, if_false, own_l01, own_l02, own_l03, own_l11, own_l12, own_l13, own_l21, own_l22, own_l23] <;> decide
theorem own_c0 {J n k1 k2 k3 : Int32} (h1 : ¬ k1 = J) (h2 : ¬ k2 = J) (h3 : ¬ k3 = J) : FCnt J n k1 k2 k3 = 0 := by
  simp only [FCnt, h1, h2, h3, if_false, ite_self]
theorem own_c1n {J k1 k2 k3 : Int32} (h1 : ¬ k1 = J) : FCnt J 1 k1 k2 k3 = 0 := by
  simp only [FCnt, h1, if_true, if_false, ite_self, own_l01, own_l02, own_l03, own_l11, own_l12, own_l13, own_l21, own_l22, own_l23]
theorem own_c2n {J k1 k2 k3 : Int32} (h1 : ¬ k1 = J) (h2 : ¬ k2 = J) : FCnt J 2 k1 k2 k3 = 0 := by
  simp only [FCnt, h1, h2, if_true, if_false, ite_self, own_l01, own_l02, own_l03, own_l11, own_l12, own_l13, own_l21, own_l22, own_l23]
theorem own_n00 {x y : Int32} (h : 0 ≤ x.toInt) (e : y = 0) : ¬ x < y := by
  subst e; rw [Int32.lt_iff_toInt_lt]; have e0 : (0 : Int32).toInt = 0 := by decide
  omega
theorem own_E0 {m dd k1 k2 k3 dn : Int32} {N : Nat} {lf : List Int32} (hN : N < 1000) (O : own_ok m dd k1 dn N lf) : own_H [] 0 N lf = 1 := by
  have q := own_main (FLeft m dd k1 dn) (fun J => FCnt J 0 k1 k2 k3) hN O.2 (fun j hj => own_W0 k1 k2 k3 N j) False (fun z => z.elim) (fun _ J h => own_n00 h rfl)
  exact q
theorem own_E1 {m dd k1 k2 k3 dn : Int32} {N : Nat} {lf : List Int32} (hN : N < 1000) (h1 : 0 ≤ k1.toInt ∧ k1.toInt < N) (O : own_ok m dd k1 dn N lf) : own_H [k1] 1 N lf = if FLeft m dd k1 dn k1 < FCnt k1 1 k1 k2 k3 then 0 else 1 := by
  refine own_main (FLeft m dd k1 dn) (fun J => FCnt J 1 k1 k2 k3) hN O.2 (fun j hj => own_W1 hN h1 hj) _ (fun z => ⟨k1, h1, z⟩) (fun z J h => ?_)
  by_cases c1 : k1 = J
  · subst c1; exact z
  · exact own_n00 h (own_c1n c1)
theorem own_E2 {m dd k1 k2 k3 dn : Int32} {N : Nat} {lf : List Int32} (hN : N < 1000) (h1 : 0 ≤ k1.toInt ∧ k1.toInt < N) (h2 : 0 ≤ k2.toInt ∧ k2.toInt < N) (O : own_ok m dd k1 dn N lf) : own_H [k1, k2] 2 N lf = if FLeft m dd k1 dn k1 < FCnt k1 2 k1 k2 k3 ∨ FLeft m dd k1 dn k2 < FCnt k2 2 k1 k2 k3 then 0 else 1 := by
  refine own_main (FLeft m dd k1 dn) (fun J => FCnt J 2 k1 k2 k3) hN O.2 (fun j hj => own_W2 hN h1 h2 hj) _ (fun z => z.elim (fun z => ⟨k1, h1, z⟩) (fun z => ⟨k2, h2, z⟩)) (fun z J h => ?_)
  by_cases c1 : k1 = J
  · subst c1; exact fun y => z (Or.inl y)
  · by_cases c2 : k2 = J
    · subst c2; exact fun y => z (Or.inr y)
    · exact own_n00 h (own_c2n c1 c2)
theorem own_E3 {m dd k1 k2 k3 dn : Int32} {N : Nat} {lf : List Int32} (hN : N < 1000) (h1 : 0 ≤ k1.toInt ∧ k1.toInt < N) (h2 : 0 ≤ k2.toInt ∧ k2.toInt < N) (h3 : 0 ≤ k3.toInt ∧ k3.toInt < N) (O : own_ok m dd k1 dn N lf) : own_H [k1, k2, k3] 3 N lf = if FLeft m dd k1 dn k1 < FCnt k1 3 k1 k2 k3 ∨ FLeft m dd k1 dn k2 < FCnt k2 3 k1 k2 k3 ∨ FLeft m dd k1 dn k3 < FCnt k3 3 k1 k2 k3 then 0 else 1 := by
  refine own_main (FLeft m dd k1 dn) (fun J => FCnt J 3 k1 k2 k3) hN O.2 (fun j hj => own_W3 hN h1 h2 h3 hj) _ (fun z => z.elim (fun z => ⟨k1, h1, z⟩) (fun z => z.elim (fun z => ⟨k2, h2, z⟩) (fun z => ⟨k3, h3, z⟩))) (fun z J h => ?_)
  by_cases c1 : k1 = J
  · subst c1; exact fun y => z (Or.inl y)
  · by_cases c2 : k2 = J
    · subst c2; exact fun y => z (Or.inr (Or.inl y))
    · by_cases c3 : k3 = J
      · subst c3; exact fun y => z (Or.inr (Or.inr y))
      · exact own_n00 h (own_c0 c1 c2 c3)
theorem own_dd {x : Int32} (h : 1 ≤ x.toInt ∧ x.toInt < 5) : ∃ d : Fin 5, 1 ≤ d.1 ∧ x = Int32.ofNat d.1 := by
  obtain ⟨d, hd⟩ := own_fin x 5 (by decide) (by omega) (by omega)
  refine ⟨d, ?_, hd⟩
  have := (own_clamp d.1 (by omega)).2; rw [← hd] at this; omega
theorem own_okI {dd k1 : Int32} (j : Fin 4) (hd : 1 ≤ dd.toInt ∧ dd.toInt < 5) (hk : 0 ≤ k1.toInt ∧ k1.toInt < 10) : own_ok 0 dd k1 (Int32.ofNat j.1) 10 (own_it k1 j.1 (own_full (own_v dd 1) 1)) ∧ (j.1 < 3 → ¬ (own_it k1 j.1 (own_full (own_v dd 1) 1)).getD k1.toNatClampNeg 0 = 0) := by
  obtain ⟨d, h1, rfl⟩ := own_dd hd
  obtain ⟨k, rfl⟩ := own_fin k1 10 (by decide) hk.1 hk.2
  have q := own_kI d k j h1
  exact ⟨own_okb_ok q.1, q.2⟩
theorem own_okM {dd k1 : Int32} (j : Fin 4) (hd : 1 ≤ dd.toInt ∧ dd.toInt < 5) (hk : 0 ≤ k1.toInt ∧ k1.toInt < 10) : ((¬ FFull 1 dd k1 < Int32.ofNat j.1) → own_ok 1 dd k1 (Int32.ofNat j.1) 40 (own_it k1 j.1 (own_full (own_v dd 4) 4))) ∧ (Int32.ofNat j.1 < FFull 1 dd k1 → ¬ (own_it k1 j.1 (own_full (own_v dd 4) 4)).getD k1.toNatClampNeg 0 = 0) := by
  obtain ⟨d, h1, rfl⟩ := own_dd hd
  obtain ⟨k, rfl⟩ := own_fin k1 10 (by decide) hk.1 hk.2
  have q := own_kM d k j h1
  exact ⟨fun z => own_okb_ok (q.1 z), q.2⟩
theorem own_okM0 {dd k1 : Int32} (hd : 1 ≤ dd.toInt ∧ dd.toInt < 5) (hk : 0 ≤ k1.toInt ∧ k1.toInt < 40) : own_ok 1 dd k1 0 40 (own_full (own_v dd 4) 4) := by
  obtain ⟨d, h1, rfl⟩ := own_dd hd
  obtain ⟨k, rfl⟩ := own_fin k1 40 (by decide) hk.1 hk.2
  exact own_okb_ok (own_kM0 d k h1)
theorem own_okR {k1 : Int32} (j : Fin 4) (hk : 0 ≤ k1.toInt ∧ k1.toInt < 10) : (own_ir (k1 % 10) j.1 (List.replicate 10 0)).length = 10 ∧ ¬ (own_ir (k1 % 10) j.1 (List.replicate 10 0)).getD (k1 % 10).toNatClampNeg 0 = 31 ∧ (own_ir (k1 / 10) j.1 (List.replicate 4 0)).length = 4 ∧ ((own_ir (k1 / 10) j.1 (List.replicate 4 0)).getD (k1 / 10).toNatClampNeg 0 = 0 ↔ j.1 = 0) := by
  obtain ⟨k, rfl⟩ := own_fin k1 10 (by decide) hk.1 hk.2
  exact own_kR k j
theorem own_wI {a u s aL : Addr} {kL : ClassId} {k1 sd : Int32} {lf : List Int32} (h : ¬ lf.getD k1.toNatClampNeg 0 = 0) : ¬ FWaI a k1 u s sd aL kL lf = 0 := by
  show ¬ (lf.getD k1.toNatClampNeg 0) * 1 = 0
  rw [Int32.mul_one]; exact h
theorem own_m4 : ∀ (j : Fin 17), ¬ (Int32.ofNat j.1) = 0 → ¬ (Int32.ofNat j.1) * 4 = 0 := by decide +kernel
theorem own_wF {a u s aL : Addr} {kL : ClassId} {k1 : Int32} {lf : List Int32} (hk : 0 ≤ k1.toInt ∧ k1.toInt < 10) (h : ¬ lf.getD k1.toNatClampNeg 0 = 0) (h0 : 0 ≤ (lf.getD k1.toNatClampNeg 0).toInt) (h1 : (lf.getD k1.toNatClampNeg 0).toInt < 17) : ¬ FWaM a k1 u s 0 aL kL lf = 0 := by
  have e : FStM a k1 u s 0 = 4 := by unfold FStM; rw [(own_q10 hk).1]; decide
  unfold FWaM; rw [e]
  obtain ⟨j, hj⟩ := own_fin _ 17 (by decide) h0 h1
  rw [hj] at h ⊢; exact own_m4 j h
theorem own_wM {a u s aL : Addr} {kL : ClassId} {k1 : Int32} {lf : List Int32} (hk : 0 ≤ k1.toInt ∧ k1.toInt < 10) (h : ¬ lf.getD k1.toNatClampNeg 0 = 0) : ¬ FWaM a k1 u s 1 aL kL lf = 0 := by
  have e : FStM a k1 u s 1 = 1 := by unfold FStM; rw [(own_q10 hk).1]; decide
  unfold FWaM; rw [e, Int32.mul_one]; exact h
theorem own_kF : ∀ (d : Fin 5) (k : Fin 10), 1 ≤ d.1 → 0 ≤ ((own_full (own_v (Int32.ofNat d.1) 4) 4).getD (Int32.ofNat k.1).toNatClampNeg 0).toInt ∧ ((own_full (own_v (Int32.ofNat d.1) 4) 4).getD (Int32.ofNat k.1).toNatClampNeg 0).toInt < 17 := by decide +kernel
theorem own_okF {dd k1 : Int32} (hd : 1 ≤ dd.toInt ∧ dd.toInt < 5) (hk : 0 ≤ k1.toInt ∧ k1.toInt < 10) : 0 ≤ ((own_full (own_v dd 4) 4).getD k1.toNatClampNeg 0).toInt ∧ ((own_full (own_v dd 4) 4).getD k1.toNatClampNeg 0).toInt < 17 := by
  obtain ⟨d, h1, rfl⟩ := own_dd hd
  obtain ⟨k, rfl⟩ := own_fin k1 10 (by decide) hk.1 hk.2
  exact own_kF d k h1
theorem own_c4 {x : Int32} (h : 0 ≤ x.toInt ∧ x.toInt < 4) : x = (0 : Int32) ∨ x = (1 : Int32) ∨ x = (2 : Int32) ∨ x = (3 : Int32) := by
  simp only [← Int32.toInt_inj]
  have e0 : (0 : Int32).toInt = 0 := by decide
  have e1 : (1 : Int32).toInt = 1 := by decide
  have e2 : (2 : Int32).toInt = 2 := by decide
  have e3 : (3 : Int32).toInt = 3 := by decide
  omega
theorem own_dd1 {x : Int32} (h : 1 ≤ x.toInt ∧ x.toInt < 5) : ¬ (x < (1 : Int32)) := by
  have e1 : (1 : Int32).toInt = 1 := by decide
  rw [Int32.lt_iff_toInt_lt]; omega
theorem own_lt10 {x : Int32} (h : x < (10 : Int32)) : x.toInt < 10 := by
  have e1 : (10 : Int32).toInt = 10 := by decide
  rw [Int32.lt_iff_toInt_lt] at h; omega
theorem own_fpos {m d k : Int32} (h : 1 ≤ d.toInt ∧ d.toInt < 5) : 1 ≤ (FFull m d k).toInt := by
  obtain ⟨x, h1, rfl⟩ := own_dd h
  have q : ∀ x : Fin 5, 1 ≤ x.1 → 1 ≤ ((16 : Int32) * Int32.ofNat x.1).toInt ∧ 1 ≤ ((4 : Int32) * Int32.ofNat x.1).toInt ∧ 1 ≤ (Int32.ofNat x.1).toInt := by decide +kernel
  have z := q x h1
  unfold FFull; repeat' split
  all_goals first | exact z.1 | exact z.2.1 | exact z.2.2
theorem own_dnr {m d k q n : Int32} (h : 1 ≤ d.toInt ∧ d.toInt < 5) (hq : 0 ≤ q.toInt ∧ q.toInt < 4) (e : FMin q (FFull m d k) = n) : 0 ≤ n.toInt ∧ n.toInt < 4 := by
  have f := own_fpos (m := m) (k := k) h
  subst e; unfold FMin; split
  · rename_i hh; rw [Int32.lt_iff_toInt_lt] at hh; omega
  · exact hq
theorem own_dnF {m d k q n : Int32} (e : FMin q (FFull m d k) = n) : ¬ FFull m d k < n := by
  subst e; unfold FMin; split
  · rw [Int32.lt_iff_toInt_lt]; omega
  · assumption
theorem own_dnL {m d k q n j : Int32} (e : FMin q (FFull m d k) = n) (h : j < n) : j < FFull m d k := by
  have f := own_dnF e
  rw [Int32.lt_iff_toInt_lt] at *; omega
theorem own_itl (k : Int32) (n : Nat) (L : List Int32) {z : Nat} (h : L.length = z) : (own_it k n L).length = z := by
  induction n with
  | zero => exact h
  | succ n ih => show (List.set _ _ _).length = z; rw [List.length_set]; exact ih
theorem own_fil (v kk : Int32) : ∀ (fu : Nat) (su : Int32) (L : List Int32), (own_fi v kk fu su L).length = L.length := by
  intro fu; induction fu with
  | zero => intro su L; rfl
  | succ fu ih => intro su L; rw [own_fi, ih, List.length_set]
theorem own_fol (v : Int32) (K : Nat) : ∀ (fu : Nat) (r : Int32) (L : List Int32), (own_fo v K fu r L).length = L.length := by
  intro fu; induction fu with
  | zero => intro r L; rfl
  | succ fu ih => intro r L; rw [own_fo, ih, own_fil]
theorem own_fl1 (d : Int32) : (own_full (own_v d 1) 1).length = 10 := by unfold own_full; rw [own_fol, List.length_replicate]
theorem own_fl4 (d : Int32) : (own_full (own_v d 4) 4).length = 40 := by unfold own_full; rw [own_fol, List.length_replicate]
theorem own_x1 {x a b : Int32} (h : x = (if a < b then (0 : Int32) else (1 : Int32))) (h0 : ¬ x = (0 : Int32)) : ¬ a < b := fun z => h0 (h.trans (if_pos z))
theorem own_x0 {x a b : Int32} (h : x = (if a < b then (0 : Int32) else (1 : Int32))) (h0 : x = (0 : Int32)) : a < b := by
  by_cases z : a < b
  · exact z
  · rw [if_neg z, h0] at h; exact absurd h (by decide)
theorem own_hks0 {N : Int} : ∀ j : Int32, 0 ≤ j.toInt → j.toInt < (0 : Int32).toInt → 0 ≤ (([] : List Int32).getD j.toNatClampNeg 0).toInt ∧ (([] : List Int32).getD j.toNatClampNeg 0).toInt < N := by
  intro j a b; have e : (0 : Int32).toInt = 0 := by decide
  omega
theorem own_hks1 {N : Int} {a : Int32} (ha : 0 ≤ a.toInt ∧ a.toInt < N) : ∀ j : Int32, 0 ≤ j.toInt → j.toInt < (1 : Int32).toInt → 0 ≤ ([a].getD j.toNatClampNeg 0).toInt ∧ ([a].getD j.toNatClampNeg 0).toInt < N := by
  intro j x y; have e : (1 : Int32).toInt = 1 := by decide
  have q : j.toNatClampNeg = 0 := by rw [Int32.toNatClampNeg]; omega
  rw [q]; exact ha
theorem own_hks2 {N : Int} {a b : Int32} (ha : 0 ≤ a.toInt ∧ a.toInt < N) (hb : 0 ≤ b.toInt ∧ b.toInt < N) : ∀ j : Int32, 0 ≤ j.toInt → j.toInt < (2 : Int32).toInt → 0 ≤ ([a, b].getD j.toNatClampNeg 0).toInt ∧ ([a, b].getD j.toNatClampNeg 0).toInt < N := by
  intro j x y; have e : (2 : Int32).toInt = 2 := by decide
  have q : j.toNatClampNeg = 0 ∨ j.toNatClampNeg = 1 := by rw [Int32.toNatClampNeg]; omega
  rcases q with q | q <;> rw [q]
  · exact ha
  · exact hb
theorem own_hks3 {N : Int} {a b c : Int32} (ha : 0 ≤ a.toInt ∧ a.toInt < N) (hb : 0 ≤ b.toInt ∧ b.toInt < N) (hc : 0 ≤ c.toInt ∧ c.toInt < N) : ∀ j : Int32, 0 ≤ j.toInt → j.toInt < (3 : Int32).toInt → 0 ≤ ([a, b, c].getD j.toNatClampNeg 0).toInt ∧ ([a, b, c].getD j.toNatClampNeg 0).toInt < N := by
  intro j x y; have e : (3 : Int32).toInt = 3 := by decide
  have q : j.toNatClampNeg = 0 ∨ j.toNatClampNeg = 1 ∨ j.toNatClampNeg = 2 := by rw [Int32.toNatClampNeg]; omega
  rcases q with q | q | q <;> rw [q]
  · exact ha
  · exact hb
  · exact hc
theorem pd_7 : parseMethodDescriptor "(IILcom/example/sidewager/sidewager/analysis/Shoe$Suits;)V" = some ⟨[.int, .int, (.object "com/example/sidewager/sidewager/analysis/Shoe$Suits")], none⟩ := by decide +kernel
theorem pd_8 : parseMethodDescriptor "([I)Z" = some ⟨[(.array .int)], some .boolean⟩ := by decide +kernel
theorem pd_9 : parseMethodDescriptor "(IIIII)I" = some ⟨[.int, .int, .int, .int, .int], some .int⟩ := by decide +kernel
theorem pd_10 : parseMethodDescriptor "(ZIIII)I" = some ⟨[.boolean, .int, .int, .int, .int], some .int⟩ := by decide +kernel
theorem pd_11 : parseMethodDescriptor "(I)V" = some ⟨[.int], none⟩ := by decide +kernel
theorem ef_0 (m : MethodId) (p0 : Int32) (p1 : Int32) (p2 : Int32) (p3 : Int32) : entryFrame m #[(.int p0), (.int p1), (.int p2), (.int p3)] maxLocals = mkF m 0 #[.val (.int p0), .val (.int p1), .val (.int p2), .val (.int p3), .unset, .unset, .unset, .unset, .unset, .unset, .unset, .unset, .unset, .unset, .unset, .unset, .unset, .unset, .unset, .unset] [] := by first | (simp [entryFrame, mkF, argsToLocals, Value.category, maxLocals]; done) | rfl
def Q0 (Z : State) (p0 : Int32) (p1 : Int32) (p2 : Int32) (p3 : Int32) (u : Addr) (s_MAT : Addr) (s_VALS : Addr) (kV : ClassId) (vsR : List Value) (s_ONE : Addr) (h0 : Heap) (n0 : Nat) (v : Option Value) (h : Heap) (L : List Loc) : Prop := v = some (.int 1) ∧ Fr n0 L
set_option maxRecDepth 65536 in
set_option maxHeartbeats 40000000 in
theorem rm0 (l : Launch) (Z : State) (aV : Array Value) (hw : ∀ d ∈ tables_1, d.before aV Z = true) (ws : List Jvm.Cond) (p0 : Int32) (p1 : Int32) (p2 : Int32) (p3 : Int32) (u : Addr) (s_MAT : Addr) (s_VALS : Addr) (kV : ClassId) (vsR : List Value) (s_ONE : Addr) (h0 : Heap) (n0 : Nat) (Zn : n0 ≤ h0.size) (OL : Old Z n0 h0) (HR : ∀ rr : Int32, 0 ≤ rr.toInt → rr.toInt < 13 → ∃ a : Addr, vsR.getD rr.toNatClampNeg .null = .ref a ∧ Exa Z Z.heap a "com/example/sidewager/sidewager/cards/Rank" ∧ Fld Z Z.heap a "java/lang/Enum" "ordinal" "I" (.int rr)) (hne : u ≠ s_MAT) (S_SUITS : Sta Z Z.heap "com/example/sidewager/sidewager/analysis/Shoe" "SUITS" "I" (.int (4 : Int32))) (S_IGN : Sta Z Z.heap "com/example/sidewager/sidewager/analysis/Shoe$Suits" "IGNORED" "Lcom/example/sidewager/sidewager/analysis/Shoe$Suits;" (.ref u)) (S_MAT : Sta Z Z.heap "com/example/sidewager/sidewager/analysis/Shoe$Suits" "MATCHED" "Lcom/example/sidewager/sidewager/analysis/Shoe$Suits;" (.ref s_MAT)) (S_VALS : Sta Z Z.heap "com/example/sidewager/sidewager/cards/Rank" "$VALUES" "[Lcom/example/sidewager/sidewager/cards/Rank;" (.ref s_VALS)) (V_VALS : Arv Z Z.heap s_VALS kV (.object "com/example/sidewager/sidewager/cards/Rank") (13 : Int32) vsR .null) (E_VALS : Exa Z Z.heap s_VALS "[Lcom/example/sidewager/sidewager/cards/Rank;") (S_ONE : Sta Z Z.heap "java/math/BigInteger" "ONE" "Ljava/math/BigInteger;" (.ref s_ONE)) (E_ONE : Exa Z Z.heap s_ONE "java/math/BigInteger") :
    MetFree l x (head1 (Jvm.Cond.code x code maxLocals ret :: ws) room_1) (fun a U => a = #[(.int p0), (.int p1), (.int p2), (.int p3)] ∧ Z.Warmed39 U.vm ∧ U.heap = h0) (fun _ _ _ _ _ => True) (fun _ U o U' => ∃ v L, o = .returned v ∧ Q0 Z p0 p1 p2 p3 u s_MAT s_VALS kV vsR s_ONE h0 n0 v U'.heap L ∧ FrameEnd U o U' L room_1.cells room_1.slots) := by
  refine MetFree.of_bodySF (plainFor_of_name pn_0) hisR ?_
  intro p e s m args below meth c s₁ Bd hml0 hP hK
  obtain ⟨rfl, hZ, hh⟩ := hP
  have hx := Bd.exec
  have hby := Bd.bytes
  have hml : c.maxLocals = 20 := hml0
  have hown : s.vm.findClass "com/example/sidewager/sidewager/analysis/ShoeHoldsPinLaw" = some m.cls := findClass_of_methodNamed Bd.named
  have hnm := (name_of_methodNamed Bd.named Bd.method).1
  have X0 : Stand p l e room_1 s m #[(.int p0), (.int p1), (.int p2), (.int p3)] below meth c s₁ [] 0 0 := Stand.of_body Bd
  have e0 : s₁.heap = h0 := by rw [← hh, Bd.state]; rfl
  have N0 := Fr.nil n0
  have Kp := Keep.refl h0 []
  show Run p e below (Ends s (Q0 Z p0 p1 p2 p3 u s_MAT s_VALS kV vsR s_ONE h0 n0) room_1.cells room_1.slots) _
  refine Run.st (S' := s₁.setTop (mkF m 0 #[.val (.int p0), .val (.int p1), .val (.int p2), .val (.int p3), .unset, .unset, .unset, .unset, .unset, .unset, .unset, .unset, .unset, .unset, .unset, .unset, .unset, .unset, .unset, .unset] [])) (fun t k => castTop (ef_0 m p0 p1 p2 p3) k) ?_
  refine Run.st (S' := s₁.setTop (mkF m 3 #[.val (.int p0), .val (.int p1), .val (.int p2), .val (.int p3), .unset, .unset, .unset, .unset, .unset, .unset, .unset, .unset, .unset, .unset, .unset, .unset, .unset, .unset, .unset, .unset] [(.int (p0 &&& (1 : Int32)))])) (fun _ k => XS.iloadN X0.here hx rfl (hb hby at_0) rfl (XS.iconst X0.here hx rfl (hb hby at_1) (XS.iand X0.here hx rfl (hb hby at_2) rfl k))) ?_
  by_cases hc3_1 : (p0 &&& (1 : Int32)) = (0 : Int32)
  · refine Run.st (S' := s₁.setTop (mkF m 18 #[.val (.int p0), .val (.int p1), .val (.int p2), .val (.int p3), .val (.int (0 : Int32)), .unset, .unset, .unset, .unset, .unset, .unset, .unset, .unset, .unset, .unset, .unset, .unset, .unset, .unset, .unset] [(.int (3 : Int32)), (.int ((p0.toUInt32 >>> ((1 : Int32) &&& 31).toUInt32).toInt32)), (.int (1 : Int32))])) (fun _ k => XS.ifYes X0.here hx rfl (pc0 := 3) (pc' := 10) rfl (hb hby at_3) rfl ((if0 _ _).trans (teq hc3_1).1) (by decide) (by decide) (XS.iconst X0.here hx rfl (hb hby at_10) (XS.istore X0.here hx rfl (hb hby at_11) rfl (l' := #[.val (.int p0), .val (.int p1), .val (.int p2), .val (.int p3), .val (.int (0 : Int32)), .unset, .unset, .unset, .unset, .unset, .unset, .unset, .unset, .unset, .unset, .unset, .unset, .unset, .unset, .unset]) rfl (XS.iconst X0.here hx rfl (hb hby at_13) (XS.iloadN X0.here hx rfl (hb hby at_14) rfl (XS.iconst X0.here hx rfl (hb hby at_15) (XS.iushr X0.here hx rfl (hb hby at_16) rfl (XS.iconst X0.here hx rfl (hb hby at_17) k)))))))) ?_
    refine Run.st (S' := s₁.setTop (mkF m 22 #[.val (.int p0), .val (.int p1), .val (.int p2), .val (.int p3), .val (.int (0 : Int32)), .val (.int ((1 : Int32) + (((p0.toUInt32 >>> ((1 : Int32) &&& 31).toUInt32).toInt32) &&& (3 : Int32)))), .unset, .unset, .unset, .unset, .unset, .unset, .unset, .unset, .unset, .unset, .unset, .unset, .unset, .unset] [])) (fun _ k => XS.iand X0.here hx rfl (hb hby at_18) rfl (XS.iadd X0.here hx rfl (hb hby at_19) rfl (XS.istore X0.here hx rfl (hb hby at_20) rfl (l' := #[.val (.int p0), .val (.int p1), .val (.int p2), .val (.int p3), .val (.int (0 : Int32)), .val (.int ((1 : Int32) + (((p0.toUInt32 >>> ((1 : Int32) &&& 31).toUInt32).toInt32) &&& (3 : Int32)))), .unset, .unset, .unset, .unset, .unset, .unset, .unset, .unset, .unset, .unset, .unset, .unset, .unset, .unset]) rfl k))) ?_
    have hdd : 1 ≤ (((1 : Int32) + (((p0.toUInt32 >>> ((1 : Int32) &&& 31).toUInt32).toInt32) &&& (3 : Int32)))).toInt ∧ (((1 : Int32) + (((p0.toUInt32 >>> ((1 : Int32) &&& 31).toUInt32).toInt32) &&& (3 : Int32)))).toInt < 5 := (by have := rng32 ((1 : Int32) + (((p0.toUInt32 >>> ((1 : Int32) &&& 31).toUInt32).toInt32) &&& (3 : Int32))); have := c_iadd (1 : Int32) (((p0.toUInt32 >>> ((1 : Int32) &&& 31).toUInt32).toInt32) &&& (3 : Int32)); have := (by decide : ((1 : Int32)).toInt = 1); have := rng32 (((p0.toUInt32 >>> ((1 : Int32) &&& 31).toUInt32).toInt32) &&& (3 : Int32)); have := c_mask ((p0.toUInt32 >>> ((1 : Int32) &&& 31).toUInt32).toInt32) (3 : Int32) 2 (by decide) (by decide); have := rng32 ((p0.toUInt32 >>> ((1 : Int32) &&& 31).toUInt32).toInt32); have := c_iushr p0 (1 : Int32) 1 (by decide) (by decide); have := rng32 p0; (try simp only [Int32.lt_iff_toInt_lt, Int64.lt_iff_toInt_lt, Int32.le_iff_toInt_le, Int64.le_iff_toInt_le, ← Int32.toInt_inj, ← Int64.toInt_inj] at  ⊢); omega)
    generalize edd : ((1 : Int32) + (((p0.toUInt32 >>> ((1 : Int32) &&& 31).toUInt32).toInt32) &&& (3 : Int32))) = dd at hdd ⊢
    refine Run.st (S' := s₁.setTop (mkF m 29 #[.val (.int p0), .val (.int p1), .val (.int p2), .val (.int p3), .val (.int (0 : Int32)), .val (.int dd), .val (.int (((p0.toUInt32 >>> ((3 : Int32) &&& 31).toUInt32).toInt32) &&& (3 : Int32))), .unset, .unset, .unset, .unset, .unset, .unset, .unset, .unset, .unset, .unset, .unset, .unset, .unset] [])) (fun _ k => XS.iloadN X0.here hx rfl (hb hby at_22) rfl (XS.iconst X0.here hx rfl (hb hby at_23) (XS.iushr X0.here hx rfl (hb hby at_24) rfl (XS.iconst X0.here hx rfl (hb hby at_25) (XS.iand X0.here hx rfl (hb hby at_26) rfl (XS.istore X0.here hx rfl (hb hby at_27) rfl (l' := #[.val (.int p0), .val (.int p1), .val (.int p2), .val (.int p3), .val (.int (0 : Int32)), .val (.int dd), .val (.int (((p0.toUInt32 >>> ((3 : Int32) &&& 31).toUInt32).toInt32) &&& (3 : Int32))), .unset, .unset, .unset, .unset, .unset, .unset, .unset, .unset, .unset, .unset, .unset, .unset, .unset]) rfl k)))))) ?_
    have hnn : 0 ≤ ((((p0.toUInt32 >>> ((3 : Int32) &&& 31).toUInt32).toInt32) &&& (3 : Int32))).toInt ∧ ((((p0.toUInt32 >>> ((3 : Int32) &&& 31).toUInt32).toInt32) &&& (3 : Int32))).toInt < 4 := (by have := rng32 (((p0.toUInt32 >>> ((3 : Int32) &&& 31).toUInt32).toInt32) &&& (3 : Int32)); have := c_mask ((p0.toUInt32 >>> ((3 : Int32) &&& 31).toUInt32).toInt32) (3 : Int32) 2 (by decide) (by decide); have := rng32 ((p0.toUInt32 >>> ((3 : Int32) &&& 31).toUInt32).toInt32); have := c_iushr p0 (3 : Int32) 3 (by decide) (by decide); have := rng32 p0; (try simp only [Int32.lt_iff_toInt_lt, Int64.lt_iff_toInt_lt, Int32.le_iff_toInt_le, Int64.le_iff_toInt_le, ← Int32.toInt_inj, ← Int64.toInt_inj] at  ⊢); omega)
    generalize enn : (((p0.toUInt32 >>> ((3 : Int32) &&& 31).toUInt32).toInt32) &&& (3 : Int32)) = nn at hnn ⊢
    refine Run.st (S' := s₁.setTop (mkF m 36 #[.val (.int p0), .val (.int p1), .val (.int p2), .val (.int p3), .val (.int (0 : Int32)), .val (.int dd), .val (.int nn), .val (.int (((p0.toUInt32 >>> ((5 : Int32) &&& 31).toUInt32).toInt32) &&& (3 : Int32))), .unset, .unset, .unset, .unset, .unset, .unset, .unset, .unset, .unset, .unset, .unset, .unset] [])) (fun _ k => XS.iloadN X0.here hx rfl (hb hby at_29) rfl (XS.iconst X0.here hx rfl (hb hby at_30) (XS.iushr X0.here hx rfl (hb hby at_31) rfl (XS.iconst X0.here hx rfl (hb hby at_32) (XS.iand X0.here hx rfl (hb hby at_33) rfl (XS.istore X0.here hx rfl (hb hby at_34) rfl (l' := #[.val (.int p0), .val (.int p1), .val (.int p2), .val (.int p3), .val (.int (0 : Int32)), .val (.int dd), .val (.int nn), .val (.int (((p0.toUInt32 >>> ((5 : Int32) &&& 31).toUInt32).toInt32) &&& (3 : Int32))), .unset, .unset, .unset, .unset, .unset, .unset, .unset, .unset, .unset, .unset, .unset, .unset]) rfl k)))))) ?_
    have hqq : 0 ≤ ((((p0.toUInt32 >>> ((5 : Int32) &&& 31).toUInt32).toInt32) &&& (3 : Int32))).toInt ∧ ((((p0.toUInt32 >>> ((5 : Int32) &&& 31).toUInt32).toInt32) &&& (3 : Int32))).toInt < 4 := (by have := rng32 (((p0.toUInt32 >>> ((5 : Int32) &&& 31).toUInt32).toInt32) &&& (3 : Int32)); have := c_mask ((p0.toUInt32 >>> ((5 : Int32) &&& 31).toUInt32).toInt32) (3 : Int32) 2 (by decide) (by decide); have := rng32 ((p0.toUInt32 >>> ((5 : Int32) &&& 31).toUInt32).toInt32); have := c_iushr p0 (5 : Int32) 5 (by decide) (by decide); have := rng32 p0; (try simp only [Int32.lt_iff_toInt_lt, Int64.lt_iff_toInt_lt, Int32.le_iff_toInt_le, Int64.le_iff_toInt_le, ← Int32.toInt_inj, ← Int64.toInt_inj] at  ⊢); omega)
    generalize eqq : (((p0.toUInt32 >>> ((5 : Int32) &&& 31).toUInt32).toInt32) &&& (3 : Int32)) = qq at hqq ⊢
    refine Run.st (S' := s₁.setTop (mkF m 56 #[.val (.int p0), .val (.int p1), .val (.int p2), .val (.int p3), .val (.int (0 : Int32)), .val (.int dd), .val (.int nn), .val (.int qq), .val (.int (10 : Int32)), .unset, .unset, .unset, .unset, .unset, .unset, .unset, .unset, .unset, .unset, .unset] [(.int (10 : Int32)), (.int (p1 &&& (2147483647 : Int32)))])) (fun _ k => XS.iload X0.here hx rfl (hb hby at_36) rfl (XS.ifYes X0.here hx rfl (pc0 := 38) (pc' := 46) rfl (hb hby at_38) rfl ((if0 _ _).trans (teq (show (0 : Int32) = (0 : Int32) from (by decide))).1) (by decide) (by decide) (XS.bipush X0.here hx rfl (hb hby at_46) (XS.istore X0.here hx rfl (hb hby at_48) rfl (l' := #[.val (.int p0), .val (.int p1), .val (.int p2), .val (.int p3), .val (.int (0 : Int32)), .val (.int dd), .val (.int nn), .val (.int qq), .val (.int (10 : Int32)), .unset, .unset, .unset, .unset, .unset, .unset, .unset, .unset, .unset, .unset, .unset]) rfl (XS.iloadN X0.here hx rfl (hb hby at_50) rfl (X0.ldcInt hx hown (mvT hZ (hwi hw 0 rfl)) (g := (mkF m 51 #[.val (.int p0), .val (.int p1), .val (.int p2), .val (.int p3), .val (.int (0 : Int32)), .val (.int dd), .val (.int nn), .val (.int qq), .val (.int (10 : Int32)), .unset, .unset, .unset, .unset, .unset, .unset, .unset, .unset, .unset, .unset, .unset] [(.int p1)])) rfl (hb hby at_51) _ (XS.iand X0.here hx rfl (hb hby at_53) rfl (XS.iload X0.here hx rfl (hb hby at_54) rfl k)))))))) ?_
    refine Run.st (S' := s₁.setTop (mkF m 59 #[.val (.int p0), .val (.int p1), .val (.int p2), .val (.int p3), .val (.int (0 : Int32)), .val (.int dd), .val (.int nn), .val (.int qq), .val (.int (10 : Int32)), .val (.int ((p1 &&& (2147483647 : Int32)) % (10 : Int32))), .unset, .unset, .unset, .unset, .unset, .unset, .unset, .unset, .unset, .unset] [])) (fun _ k => iremM X0 hx rfl (hb hby at_56) rfl (by decide) (XS.istore X0.here hx rfl (hb hby at_57) rfl (l' := #[.val (.int p0), .val (.int p1), .val (.int p2), .val (.int p3), .val (.int (0 : Int32)), .val (.int dd), .val (.int nn), .val (.int qq), .val (.int (10 : Int32)), .val (.int ((p1 &&& (2147483647 : Int32)) % (10 : Int32))), .unset, .unset, .unset, .unset, .unset, .unset, .unset, .unset, .unset, .unset]) rfl k)) ?_
    have hk1 : 0 ≤ (((p1 &&& (2147483647 : Int32)) % (10 : Int32))).toInt ∧ (((p1 &&& (2147483647 : Int32)) % (10 : Int32))).toInt < 10 := (by have := rng32 ((p1 &&& (2147483647 : Int32)) % (10 : Int32)); have := c_irem (p1 &&& (2147483647 : Int32)) (10 : Int32) 10 (by decide); have := rng32 (p1 &&& (2147483647 : Int32)); have := c_mask p1 (2147483647 : Int32) 31 (by decide) (by decide); have := rng32 p1; (try simp only [Int32.lt_iff_toInt_lt, Int64.lt_iff_toInt_lt, Int32.le_iff_toInt_le, Int64.le_iff_toInt_le, ← Int32.toInt_inj, ← Int64.toInt_inj] at  ⊢); omega)
    generalize ek1 : ((p1 &&& (2147483647 : Int32)) % (10 : Int32)) = k1 at hk1 ⊢
    refine Run.st (S' := s₁.setTop (mkF m 68 #[.val (.int p0), .val (.int p1), .val (.int p2), .val (.int p3), .val (.int (0 : Int32)), .val (.int dd), .val (.int nn), .val (.int qq), .val (.int (10 : Int32)), .val (.int k1), .val (.int ((p2 &&& (2147483647 : Int32)) % (10 : Int32))), .unset, .unset, .unset, .unset, .unset, .unset, .unset, .unset, .unset] [])) (fun _ k => XS.iloadN X0.here hx rfl (hb hby at_59) rfl (X0.ldcInt hx hown (mvT hZ (hwi hw 0 rfl)) (g := (mkF m 60 #[.val (.int p0), .val (.int p1), .val (.int p2), .val (.int p3), .val (.int (0 : Int32)), .val (.int dd), .val (.int nn), .val (.int qq), .val (.int (10 : Int32)), .val (.int k1), .unset, .unset, .unset, .unset, .unset, .unset, .unset, .unset, .unset, .unset] [(.int p2)])) rfl (hb hby at_60) _ (XS.iand X0.here hx rfl (hb hby at_62) rfl (XS.iload X0.here hx rfl (hb hby at_63) rfl (iremM X0 hx rfl (hb hby at_65) rfl (by decide) (XS.istore X0.here hx rfl (hb hby at_66) rfl (l' := #[.val (.int p0), .val (.int p1), .val (.int p2), .val (.int p3), .val (.int (0 : Int32)), .val (.int dd), .val (.int nn), .val (.int qq), .val (.int (10 : Int32)), .val (.int k1), .val (.int ((p2 &&& (2147483647 : Int32)) % (10 : Int32))), .unset, .unset, .unset, .unset, .unset, .unset, .unset, .unset, .unset]) rfl k)))))) ?_
    have hk2 : 0 ≤ (((p2 &&& (2147483647 : Int32)) % (10 : Int32))).toInt ∧ (((p2 &&& (2147483647 : Int32)) % (10 : Int32))).toInt < 10 := (by have := rng32 ((p2 &&& (2147483647 : Int32)) % (10 : Int32)); have := c_irem (p2 &&& (2147483647 : Int32)) (10 : Int32) 10 (by decide); have := rng32 (p2 &&& (2147483647 : Int32)); have := c_mask p2 (2147483647 : Int32) 31 (by decide) (by decide); have := rng32 p2; (try simp only [Int32.lt_iff_toInt_lt, Int64.lt_iff_toInt_lt, Int32.le_iff_toInt_le, Int64.le_iff_toInt_le, ← Int32.toInt_inj, ← Int64.toInt_inj] at  ⊢); omega)
    generalize ek2 : ((p2 &&& (2147483647 : Int32)) % (10 : Int32)) = k2 at hk2 ⊢
    refine Run.st (S' := s₁.setTop (mkF m 77 #[.val (.int p0), .val (.int p1), .val (.int p2), .val (.int p3), .val (.int (0 : Int32)), .val (.int dd), .val (.int nn), .val (.int qq), .val (.int (10 : Int32)), .val (.int k1), .val (.int k2), .val (.int ((p3 &&& (2147483647 : Int32)) % (10 : Int32))), .unset, .unset, .unset, .unset, .unset, .unset, .unset, .unset] [])) (fun _ k => XS.iloadN X0.here hx rfl (hb hby at_68) rfl (X0.ldcInt hx hown (mvT hZ (hwi hw 0 rfl)) (g := (mkF m 69 #[.val (.int p0), .val (.int p1), .val (.int p2), .val (.int p3), .val (.int (0 : Int32)), .val (.int dd), .val (.int nn), .val (.int qq), .val (.int (10 : Int32)), .val (.int k1), .val (.int k2), .unset, .unset, .unset, .unset, .unset, .unset, .unset, .unset, .unset] [(.int p3)])) rfl (hb hby at_69) _ (XS.iand X0.here hx rfl (hb hby at_71) rfl (XS.iload X0.here hx rfl (hb hby at_72) rfl (iremM X0 hx rfl (hb hby at_74) rfl (by decide) (XS.istore X0.here hx rfl (hb hby at_75) rfl (l' := #[.val (.int p0), .val (.int p1), .val (.int p2), .val (.int p3), .val (.int (0 : Int32)), .val (.int dd), .val (.int nn), .val (.int qq), .val (.int (10 : Int32)), .val (.int k1), .val (.int k2), .val (.int ((p3 &&& (2147483647 : Int32)) % (10 : Int32))), .unset, .unset, .unset, .unset, .unset, .unset, .unset, .unset]) rfl k)))))) ?_
    have hk3 : 0 ≤ (((p3 &&& (2147483647 : Int32)) % (10 : Int32))).toInt ∧ (((p3 &&& (2147483647 : Int32)) % (10 : Int32))).toInt < 10 := (by have := rng32 ((p3 &&& (2147483647 : Int32)) % (10 : Int32)); have := c_irem (p3 &&& (2147483647 : Int32)) (10 : Int32) 10 (by decide); have := rng32 (p3 &&& (2147483647 : Int32)); have := c_mask p3 (2147483647 : Int32) 31 (by decide) (by decide); have := rng32 p3; (try simp only [Int32.lt_iff_toInt_lt, Int64.lt_iff_toInt_lt, Int32.le_iff_toInt_le, Int64.le_iff_toInt_le, ← Int32.toInt_inj, ← Int64.toInt_inj] at  ⊢); omega)
    generalize ek3 : ((p3 &&& (2147483647 : Int32)) % (10 : Int32)) = k3 at hk3 ⊢
    obtain ⟨T2, h2, X2, e2, E2, A2, D2, -, st2⟩ := newO X0 hx hZ hown (hwi hw 1 rfl) (hwi hw 2 rfl) (hwi hw 3 rfl) e0 (g := (mkF m 77 #[.val (.int p0), .val (.int p1), .val (.int p2), .val (.int p3), .val (.int (0 : Int32)), .val (.int dd), .val (.int nn), .val (.int qq), .val (.int (10 : Int32)), .val (.int k1), .val (.int k2), .val (.int k3), .unset, .unset, .unset, .unset, .unset, .unset, .unset, .unset] [])) rfl (hb hby at_77) (by decide) (by decide)
    obtain ⟨b2, g2⟩ : ∃ z, z = h0.size := ⟨_, rfl⟩
    rw [← g2] at A2 D2 st2
    have OL := OL.ext E2
    have g_b2 : n0 ≤ b2 := Nat.le_trans Zn (Nat.le_of_eq g2.symm)
    have Zn := Nat.le_trans Zn E2.1
    have sz_b2 : h0.size ≤ b2 := Nat.le_trans Kp.1 (Nat.le_of_eq g2.symm)
    have Kp := Kp.ext E2
    have E_b2 := A2
    have F_dealtOfRank_b2 : Fld Z h2 b2 "com/example/sidewager/sidewager/analysis/Shoe" "dealtOfRank" "[I" .null := D2 (Or.inr (hwi hw 15 rfl)) (ty := (.array .int)) (by decide)
    have F_dealtOfSuit_b2 : Fld Z h2 b2 "com/example/sidewager/sidewager/analysis/Shoe" "dealtOfSuit" "[I" .null := D2 (Or.inr (hwi hw 19 rfl)) (ty := (.array .int)) (by decide)
    have F_suits_b2 : Fld Z h2 b2 "com/example/sidewager/sidewager/analysis/Shoe" "suits" "Lcom/example/sidewager/sidewager/analysis/Shoe$Suits;" .null := D2 (Or.inr (hwi hw 21 rfl)) (ty := (.object "com/example/sidewager/sidewager/analysis/Shoe$Suits")) (by decide)
    have F_full_b2 : Fld Z h2 b2 "com/example/sidewager/sidewager/analysis/Shoe" "full" "[I" .null := D2 (Or.inr (hwi hw 25 rfl)) (ty := (.array .int)) (by decide)
    have F_left_b2 : Fld Z h2 b2 "com/example/sidewager/sidewager/analysis/Shoe" "left" "[I" .null := D2 (Or.inr (hwi hw 78 rfl)) (ty := (.array .int)) (by decide)
    have F_orderingsAfter_b2 : Fld Z h2 b2 "com/example/sidewager/sidewager/analysis/Shoe" "orderingsAfter" "[Ljava/math/BigInteger;" .null := D2 (Or.inr (hwi hw 82 rfl)) (ty := (.array (.object "java/math/BigInteger"))) (by decide)
    have F_dealt_b2 : Fld Z h2 b2 "com/example/sidewager/sidewager/analysis/Shoe" "dealt" "I" (.int (0 : Int32)) := D2 (Or.inl (hwi hw 102 rfl)) (ty := .int) (by decide)
    have F_dealtKey_b2 : Fld Z h2 b2 "com/example/sidewager/sidewager/analysis/Shoe" "dealtKey" "J" (.long (0 : Int64)) := D2 (Or.inl (hwi hw 126 rfl)) (ty := .long) (by decide)
    have F_suitsDealt_b2 : Fld Z h2 b2 "com/example/sidewager/sidewager/analysis/Shoe" "suitsDealt" "I" (.int (0 : Int32)) := D2 (Or.inl (hwi hw 131 rfl)) (ty := .int) (by decide)
    refine Run.st (S' := T2.setTop (mkF m 95 #[.val (.int p0), .val (.int p1), .val (.int p2), .val (.int p3), .val (.int (0 : Int32)), .val (.int dd), .val (.int nn), .val (.int qq), .val (.int (10 : Int32)), .val (.int k1), .val (.int k2), .val (.int k3), .unset, .unset, .unset, .unset, .unset, .unset, .unset, .unset] [(.int (0 : Int32)), (.int dd), (.ref b2), (.ref b2)])) (fun _ k => st2 _ (XS.dup X2.here hx rfl (hb hby at_80) rfl rfl (XS.iload X2.here hx rfl (hb hby at_81) rfl (XS.iconst X2.here hx rfl (hb hby at_83) (XS.iload X2.here hx rfl (hb hby at_84) rfl (XS.ifYes X2.here hx rfl (pc0 := 86) (pc' := 95) rfl (hb hby at_86) rfl ((if0 _ _).trans (teq (show (0 : Int32) = (0 : Int32) from (by decide))).1) (by decide) (by decide) k)))))) ?_
    have u_S_IGN := S_IGN.ext OL.2
    obtain ⟨T3, X3, e3, st3⟩ := getS2 X2 hx hZ hown (host := "") (Or.inl (hwi hw 4 rfl)) Via.refl e2 u_S_IGN (g := (mkF m 95 #[.val (.int p0), .val (.int p1), .val (.int p2), .val (.int p3), .val (.int (0 : Int32)), .val (.int dd), .val (.int nn), .val (.int qq), .val (.int (10 : Int32)), .val (.int k1), .val (.int k2), .val (.int k3), .unset, .unset, .unset, .unset, .unset, .unset, .unset, .unset] [(.int (0 : Int32)), (.int dd), (.ref b2), (.ref b2)])) rfl (hb hby at_95)
    refine Run.st (S' := T3.setTop (mkF m 98 #[.val (.int p0), .val (.int p1), .val (.int p2), .val (.int p3), .val (.int (0 : Int32)), .val (.int dd), .val (.int nn), .val (.int qq), .val (.int (10 : Int32)), .val (.int k1), .val (.int k2), .val (.int k3), .unset, .unset, .unset, .unset, .unset, .unset, .unset, .unset] [(.ref u), (.int (0 : Int32)), (.int dd), (.ref b2), (.ref b2)])) (fun _ k => st3 _ k) ?_
    have hd1 : ¬ (dd < (1 : Int32)) := own_dd1 hdd
    obtain ⟨_, _, ⟨T4, L4, k4, n4⟩, -, X4, ⟨Lc4, hQ4, l4, y4, z4⟩, st4⟩ := X3.specialBack hx (y := (⟨"com/example/sidewager/sidewager/analysis/Shoe", "<init>", "(IILcom/example/sidewager/sidewager/analysis/Shoe$Suits;)V"⟩ : MethodName)) rfl hown (mvT hZ (hwi hw 7 rfl)) (mvT hZ (hwi hw 8 rfl)) (mvT hZ (hwi hw 9 rfl)) (by decide) (backOf (W := 1) (rmCtI l Z aV hw [] b2 dd u s_MAT s_VALS kV vsR s_ONE h2 n0 Zn g_b2 hd1 OL HR hne E_b2 F_suits_b2 F_full_b2 F_left_b2 F_orderingsAfter_b2 F_dealtOfRank_b2 F_dealtOfSuit_b2 F_suitsDealt_b2 F_dealt_b2 F_dealtKey_b2 S_SUITS S_MAT S_VALS V_VALS E_VALS S_ONE E_ONE) hZ (hwi hw 9 rfl) (hwi hw 3 rfl) (by decide) (by decide)) (g := (mkF m 98 #[.val (.int p0), .val (.int p1), .val (.int p2), .val (.int p3), .val (.int (0 : Int32)), .val (.int dd), .val (.int nn), .val (.int qq), .val (.int (10 : Int32)), .val (.int k1), .val (.int k2), .val (.int k3), .unset, .unset, .unset, .unset, .unset, .unset, .unset, .unset] [(.ref u), (.int (0 : Int32)), (.int dd), (.ref b2), (.ref b2)])) rfl (by rw [hml]; rfl) (Steps.refl _) (a := b2) (argsL := [(.int dd), (.int (0 : Int32)), (.ref u)]) (rest := [(.ref b2)]) (lenOf pd_7 rfl) rfl (by show 2 * 0 + _ ≤ _; exact Nat.le_of_eq rfl) (hb hby at_98) (fun _ _ => ⟨rfl, e3, (by decide : 1 + 6 ≤ _), (by decide : 9 + 48 ≤ _)⟩)
    dsimp only [Pt.U, Pt.locs, Pt.cells, Pt.slots] at X4 l4 y4 z4 st4 hQ4
    replace l4 := l4.symm; replace y4 := y4.symm; replace z4 := z4.symm; subst l4 y4 z4
    obtain ⟨b4_0, kb4_0, b4_1, kb4_1, b4_2, kb4_2, rfl, N4q, K4, g_b4_0, z_b4_0, g_b4_1, z_b4_1, g_b4_2, z_b4_2, ne_b4_0_b4_1, ne_b4_0_b4_2, ne_b4_1_b4_2, q4_0, q4_1, q4_2, q4_3, q4_4, q4_5, q4_6, q4_7, q4_8, q4_9, q4_10⟩ := hQ4
    have ne_b2_b4_0 : b2 ≠ b4_0 := Nat.ne_of_lt (Nat.lt_of_lt_of_le E_b2.lt z_b4_0)
    have sz_b4_0 : h0.size ≤ b4_0 := Nat.le_trans Kp.1 z_b4_0
    have ne_b2_b4_1 : b2 ≠ b4_1 := Nat.ne_of_lt (Nat.lt_of_lt_of_le E_b2.lt z_b4_1)
    have sz_b4_1 : h0.size ≤ b4_1 := Nat.le_trans Kp.1 z_b4_1
    have ne_b2_b4_2 : b2 ≠ b4_2 := Nat.ne_of_lt (Nat.lt_of_lt_of_le E_b2.lt z_b4_2)
    have sz_b4_2 : h0.size ≤ b4_2 := Nat.le_trans Kp.1 z_b4_2
    have OL := OL.keep K4 (allS g_b2 all0)
    have E_b2 := q4_0
    have F_suits_b2 := q4_1
    have F_left_b2 := q4_2
    have F_dealtOfRank_b2 := q4_3
    have F_dealtOfSuit_b2 := q4_4
    have F_suitsDealt_b2 := q4_5
    have F_dealt_b2 := q4_6
    have F_dealtKey_b2 := q4_7
    have V_b4_0 := q4_8
    have V_b4_1 := q4_9
    have V_b4_2 := q4_10
    have Kp := Kp.trans K4 (allS (Or.inr sz_b2) all0)
    have Zn := Nat.le_trans Zn K4.1
    have N4 := Fr.app N0 N4q
    refine Run.st (S' := T4.setTop (mkF m 103 #[.val (.int p0), .val (.int p1), .val (.int p2), .val (.int p3), .val (.int (0 : Int32)), .val (.int dd), .val (.int nn), .val (.int qq), .val (.int (10 : Int32)), .val (.int k1), .val (.int k2), .val (.int k3), .val (.ref b2), .unset, .unset, .unset, .unset, .unset, .unset, .unset] [])) (fun _ k => st4.trans (XS.astore X4.here hx rfl (hb hby at_101) rfl rfl (l' := #[.val (.int p0), .val (.int p1), .val (.int p2), .val (.int p3), .val (.int (0 : Int32)), .val (.int dd), .val (.int nn), .val (.int qq), .val (.int (10 : Int32)), .val (.int k1), .val (.int k2), .val (.int k3), .val (.ref b2), .unset, .unset, .unset, .unset, .unset, .unset, .unset]) rfl k)) ?_
    have V_b4_2 : Arv Z T4.heap b4_2 kb4_2 .int (10 : Int32) ((own_it k1 0 (own_full (own_v dd (1 : Int32)) 1)).map Value.int) (.int (0 : Int32)) := V_b4_2
    have V_b4_0 : Arv Z T4.heap b4_0 kb4_0 .int (10 : Int32) ((own_ir (k1 % (10 : Int32)) 0 (List.replicate 10 (0 : Int32))).map Value.int) (.int (0 : Int32)) := V_b4_0
    have V_b4_1 : Arv Z T4.heap b4_1 kb4_1 .int (4 : Int32) ((own_ir (k1 / (10 : Int32)) 0 (List.replicate 4 (0 : Int32))).map Value.int) (.int (0 : Int32)) := V_b4_1
    have JH5 : ∀ (dn : Int32) (lf : List Int32) (Tl5 : State) (Hl5 : Heap) (gl : Good p l e room_1 s m #[(.int p0), (.int p1), (.int p2), (.int p3)] below meth c n0 7 57 Hl5 Tl5) (Zn : n0 ≤ Hl5.size) (Kp : Keep h0 Hl5 []) (OL : Old Z n0 Hl5) (E_b2 : Exa Z Hl5 b2 "com/example/sidewager/sidewager/analysis/Shoe") (F_left_b2 : Fld Z Hl5 b2 "com/example/sidewager/sidewager/analysis/Shoe" "left" "[I" (.ref b4_2)) (F_dealt_b2 : Fld Z Hl5 b2 "com/example/sidewager/sidewager/analysis/Shoe" "dealt" "I" (.int dn)) (V_b4_2 : Arv Z Hl5 b4_2 kb4_2 .int (10 : Int32) (lf.map Value.int) (.int (0 : Int32))), own_ok (0 : Int32) dd k1 dn 10 lf → Run p e below (Ends s (Q0 Z p0 p1 p2 p3 u s_MAT s_VALS kV vsR s_ONE h0 n0) room_1.cells room_1.slots) (Tl5.setTop (mkF m 173 #[.val (.int p0), .val (.int p1), .val (.int p2), .val (.int p3), .val (.int (0 : Int32)), .val (.int dd), .val (.int nn), .val (.int qq), .val (.int (10 : Int32)), .val (.int k1), .val (.int k2), .val (.int k3), .val (.ref b2), .val (.int dn), .unset, .unset, .unset, .unset, .unset, .unset] [])) := by
      intro dn lf Tl5 Hl5 gl Zn Kp OL E_b2 F_left_b2 F_dealt_b2 V_b4_2 hyJ
      obtain ⟨lcs5, Xl5, Nl5, El5⟩ := gl
      rcases own_c4 hnn with rfl | rfl | rfl | rfl
      · refine Run.st (S' := Tl5.setTop (mkF m 179 #[.val (.int p0), .val (.int p1), .val (.int p2), .val (.int p3), .val (.int (0 : Int32)), .val (.int dd), .val (.int (0 : Int32)), .val (.int qq), .val (.int (10 : Int32)), .val (.int k1), .val (.int k2), .val (.int k3), .val (.ref b2), .val (.int dn), .unset, .unset, .unset, .unset, .unset, .unset] [(.int (0 : Int32))])) (fun _ k => XS.iload Xl5.here hx rfl (hb hby at_173) rfl (XS.ifNo Xl5.here hx rfl (hb hby at_175) rfl ((if0 _ _).trans (teq (show (0 : Int32) = (0 : Int32) from (by decide))).2) (XS.iconst Xl5.here hx rfl (hb hby at_178) k))) ?_
        obtain ⟨T6, h6, k6, X6, e6, E6, A6, st6⟩ := newP Xl5 hx hZ (hwi hw 13 rfl) El5 (g := (mkF m 179 #[.val (.int p0), .val (.int p1), .val (.int p2), .val (.int p3), .val (.int (0 : Int32)), .val (.int dd), .val (.int (0 : Int32)), .val (.int qq), .val (.int (10 : Int32)), .val (.int k1), .val (.int k2), .val (.int k3), .val (.ref b2), .val (.int dn), .unset, .unset, .unset, .unset, .unset, .unset] [(.int (0 : Int32))])) rfl (hb hby at_179) rfl (by decide) (cap := 0) (by decide) (by decide) (by decide) (by decide)
        obtain ⟨b6, g6⟩ : ∃ z, z = Hl5.size := ⟨_, rfl⟩
        rw [← g6] at A6 st6
        have ne_b2_b6 : b2 ≠ b6 := Nat.ne_of_lt (Nat.lt_of_lt_of_le E_b2.lt (Nat.le_of_eq g6.symm))
        have ne_b4_2_b6 : b4_2 ≠ b6 := Nat.ne_of_lt (Nat.lt_of_lt_of_le V_b4_2.lt (Nat.le_of_eq g6.symm))
        have E_b2 := E_b2.ext E6
        have F_left_b2 := F_left_b2.ext E6
        have F_dealt_b2 := F_dealt_b2.ext E6
        have V_b4_2 := V_b4_2.ext E6
        have OL := OL.ext E6
        have g_b6 : n0 ≤ b6 := Nat.le_trans Zn (Nat.le_of_eq g6.symm)
        have Zn := Nat.le_trans Zn E6.1
        have sz_b6 : h0.size ≤ b6 := Nat.le_trans Kp.1 (Nat.le_of_eq g6.symm)
        have Kp := Kp.ext E6
        have V_b6 : Arv Z h6 b6 k6 .int (0 : Int32) [] (.int (0 : Int32)) := (Arv.new A6 (by decide)).pad (pad_rep [] (.int (0 : Int32)) 0)
        refine Run.st (S' := T6.setTop (mkF m 249 #[.val (.int p0), .val (.int p1), .val (.int p2), .val (.int p3), .val (.int (0 : Int32)), .val (.int dd), .val (.int (0 : Int32)), .val (.int qq), .val (.int (10 : Int32)), .val (.int k1), .val (.int k2), .val (.int k3), .val (.ref b2), .val (.int dn), .val (.ref b6), .unset, .unset, .unset, .unset, .unset] [])) (fun _ k => st6 _ (XS.astore X6.here hx rfl (hb hby at_181) rfl rfl (l' := #[.val (.int p0), .val (.int p1), .val (.int p2), .val (.int p3), .val (.int (0 : Int32)), .val (.int dd), .val (.int (0 : Int32)), .val (.int qq), .val (.int (10 : Int32)), .val (.int k1), .val (.int k2), .val (.int k3), .val (.ref b2), .val (.int dn), .val (.ref b6), .unset, .unset, .unset, .unset, .unset]) rfl (XS.goto X6.here hx rfl (pc0 := 183) (pc' := 249) rfl (hb hby at_183) (by decide) (by decide) k))) ?_
        have V_b6 : Arv Z h6 b6 k6 .int (0 : Int32) (([] : List Int32).map Value.int) (.int (0 : Int32)) := V_b6
        refine Run.st (S' := T6.setTop (mkF m 294 #[.val (.int p0), .val (.int p1), .val (.int p2), .val (.int p3), .val (.int (0 : Int32)), .val (.int dd), .val (.int (0 : Int32)), .val (.int qq), .val (.int (10 : Int32)), .val (.int k1), .val (.int k2), .val (.int k3), .val (.ref b2), .val (.int dn), .val (.ref b6), .val (.int (1 : Int32)), .unset, .unset, .unset, .unset] [(.int (2 : Int32)), (.int (0 : Int32))])) (fun _ k => XS.iload X6.here hx rfl (hb hby at_249) rfl (XS.iconst X6.here hx rfl (hb hby at_251) (XS.icmpYes X6.here hx rfl (pc0 := 252) (pc' := 284) rfl (hb hby at_252) rfl (tlt (show (0 : Int32) < (1 : Int32) from (by decide))).1 (by decide) (by decide) (XS.iconst X6.here hx rfl (hb hby at_284) (XS.goto X6.here hx rfl (pc0 := 285) (pc' := 289) rfl (hb hby at_285) (by decide) (by decide) (XS.istore X6.here hx rfl (hb hby at_289) rfl (l' := #[.val (.int p0), .val (.int p1), .val (.int p2), .val (.int p3), .val (.int (0 : Int32)), .val (.int dd), .val (.int (0 : Int32)), .val (.int qq), .val (.int (10 : Int32)), .val (.int k1), .val (.int k2), .val (.int k3), .val (.ref b2), .val (.int dn), .val (.ref b6), .val (.int (1 : Int32)), .unset, .unset, .unset, .unset]) rfl (XS.iload X6.here hx rfl (hb hby at_291) rfl (XS.iconst X6.here hx rfl (hb hby at_293) k)))))))) ?_
        refine Run.st (S' := T6.setTop (mkF m 369 #[.val (.int p0), .val (.int p1), .val (.int p2), .val (.int p3), .val (.int (0 : Int32)), .val (.int dd), .val (.int (0 : Int32)), .val (.int qq), .val (.int (10 : Int32)), .val (.int k1), .val (.int k2), .val (.int k3), .val (.ref b2), .val (.int dn), .val (.ref b6), .val (.int (1 : Int32)), .val (.int (1 : Int32)), .unset, .unset, .unset] [(.int (1 : Int32))])) (fun _ k => XS.icmpYes X6.here hx rfl (pc0 := 294) (pc' := 326) rfl (hb hby at_294) rfl (tlt (show (0 : Int32) < (2 : Int32) from (by decide))).1 (by decide) (by decide) (XS.iconst X6.here hx rfl (hb hby at_326) (XS.goto X6.here hx rfl (pc0 := 327) (pc' := 331) rfl (hb hby at_327) (by decide) (by decide) (XS.istore X6.here hx rfl (hb hby at_331) rfl (l' := #[.val (.int p0), .val (.int p1), .val (.int p2), .val (.int p3), .val (.int (0 : Int32)), .val (.int dd), .val (.int (0 : Int32)), .val (.int qq), .val (.int (10 : Int32)), .val (.int k1), .val (.int k2), .val (.int k3), .val (.ref b2), .val (.int dn), .val (.ref b6), .val (.int (1 : Int32)), .val (.int (1 : Int32)), .unset, .unset, .unset]) rfl (XS.iload X6.here hx rfl (hb hby at_333) rfl (XS.iconst X6.here hx rfl (hb hby at_335) (XS.icmpYes X6.here hx rfl (pc0 := 336) (pc' := 368) rfl (hb hby at_336) rfl (tlt (show (0 : Int32) < (3 : Int32) from (by decide))).1 (by decide) (by decide) (XS.iconst X6.here hx rfl (hb hby at_368) k)))))))) ?_
        refine Run.st (S' := T6.setTop (mkF m 390 #[.val (.int p0), .val (.int p1), .val (.int p2), .val (.int p3), .val (.int (0 : Int32)), .val (.int dd), .val (.int (0 : Int32)), .val (.int qq), .val (.int (10 : Int32)), .val (.int k1), .val (.int k2), .val (.int k3), .val (.ref b2), .val (.int dn), .val (.ref b6), .val (.int (1 : Int32)), .val (.int (1 : Int32)), .val (.int (1 : Int32)), .unset, .unset] [])) (fun _ k => XS.goto X6.here hx rfl (pc0 := 369) (pc' := 373) rfl (hb hby at_369) (by decide) (by decide) (XS.istore X6.here hx rfl (hb hby at_373) rfl (l' := #[.val (.int p0), .val (.int p1), .val (.int p2), .val (.int p3), .val (.int (0 : Int32)), .val (.int dd), .val (.int (0 : Int32)), .val (.int qq), .val (.int (10 : Int32)), .val (.int k1), .val (.int k2), .val (.int k3), .val (.ref b2), .val (.int dn), .val (.ref b6), .val (.int (1 : Int32)), .val (.int (1 : Int32)), .val (.int (1 : Int32)), .unset, .unset]) rfl (XS.iload X6.here hx rfl (hb hby at_375) rfl (XS.ifNo X6.here hx rfl (hb hby at_377) rfl ((if0 _ _).trans (feq (show ¬ ((1 : Int32) = (0 : Int32)) from (by decide))).1) (XS.iload X6.here hx rfl (hb hby at_380) rfl (XS.ifNo X6.here hx rfl (hb hby at_382) rfl ((if0 _ _).trans (feq (show ¬ ((1 : Int32) = (0 : Int32)) from (by decide))).1) (XS.iload X6.here hx rfl (hb hby at_385) rfl (XS.ifNo X6.here hx rfl (hb hby at_387) rfl ((if0 _ _).trans (feq (show ¬ ((1 : Int32) = (0 : Int32)) from (by decide))).1) k)))))))) ?_
        refine Run.st (S' := T6.setTop (mkF m 401 #[.val (.int p0), .val (.int p1), .val (.int p2), .val (.int p3), .val (.int (0 : Int32)), .val (.int dd), .val (.int (0 : Int32)), .val (.int qq), .val (.int (10 : Int32)), .val (.int k1), .val (.int k2), .val (.int k3), .val (.ref b2), .val (.int dn), .val (.ref b6), .val (.int (1 : Int32)), .val (.int (1 : Int32)), .val (.int (1 : Int32)), .val (.int (1 : Int32)), .unset] [(.ref b6), (.ref b2)])) (fun _ k => XS.iconst X6.here hx rfl (hb hby at_390) (XS.goto X6.here hx rfl (pc0 := 391) (pc' := 395) rfl (hb hby at_391) (by decide) (by decide) (XS.istore X6.here hx rfl (hb hby at_395) rfl (l' := #[.val (.int p0), .val (.int p1), .val (.int p2), .val (.int p3), .val (.int (0 : Int32)), .val (.int dd), .val (.int (0 : Int32)), .val (.int qq), .val (.int (10 : Int32)), .val (.int k1), .val (.int k2), .val (.int k3), .val (.ref b2), .val (.int dn), .val (.ref b6), .val (.int (1 : Int32)), .val (.int (1 : Int32)), .val (.int (1 : Int32)), .val (.int (1 : Int32)), .unset]) rfl (XS.aload X6.here hx rfl (hb hby at_397) rfl rfl (XS.aload X6.here hx rfl (hb hby at_399) rfl rfl k))))) ?_
        obtain ⟨cq7, kq7, q7a, q7b, q7c⟩ := isOf hZ e6 E_b2
        obtain ⟨_, _, ⟨T7, L7, k7, n7⟩, -, X7, ⟨Lc7, hQ7, l7, y7, z7⟩, st7⟩ := X6.virtualBack hx (y := (⟨"com/example/sidewager/sidewager/analysis/Shoe", "holds", "([I)Z"⟩ : MethodName)) (z := (⟨"com/example/sidewager/sidewager/analysis/Shoe", "holds", "([I)Z"⟩ : MethodName)) hown (mvT hZ (hwi hw 91 rfl)) (mvT hZ (hwi hw 92 rfl)) (notFace_of_selects (args := #[]) (mvT hZ (hwi hw 94 rfl))) (mvT hZ (hwi hw 94 rfl)) (mvT hZ (hwi hw 93 rfl)) (by decide) (backOf (W := 0) (rmHoI l Z aV hw [] b2 b6 b4_2 kb4_2 lf k6 ([] : List Int32) (0 : Int32) h6 n0 Zn (by decide) (by decide) (own_hks0) F_left_b2 V_b4_2 V_b6) hZ (hwi hw 95 rfl) (hwi hw 3 rfl) (by decide) (by decide)) q7a q7c (g := (mkF m 401 #[.val (.int p0), .val (.int p1), .val (.int p2), .val (.int p3), .val (.int (0 : Int32)), .val (.int dd), .val (.int (0 : Int32)), .val (.int qq), .val (.int (10 : Int32)), .val (.int k1), .val (.int k2), .val (.int k3), .val (.ref b2), .val (.int dn), .val (.ref b6), .val (.int (1 : Int32)), .val (.int (1 : Int32)), .val (.int (1 : Int32)), .val (.int (1 : Int32)), .unset] [(.ref b6), (.ref b2)])) rfl (by rw [hml]; rfl) (Steps.refl _) (argsL := [(.ref b6)]) (rest := []) (lenOf pd_8 rfl) rfl (by show 2 * 0 + _ ≤ _; exact Nat.le_of_eq rfl) (hb hby at_401) (fun _ _ => ⟨rfl, e6, (by decide : 8 + 1 ≤ _), (by decide : 57 + 10 ≤ _)⟩)
        dsimp only [Pt.U, Pt.locs, Pt.cells, Pt.slots] at X7 l7 y7 z7 st7 hQ7
        replace l7 := l7.symm; replace y7 := y7.symm; replace z7 := z7.symm; subst l7 y7 z7
        obtain ⟨rfl, N7q, K7⟩ := hQ7
        have OL := OL.keep K7 all0
        have E_b2 := E_b2.keep K7
        have F_left_b2 := F_left_b2.keep K7 nin0
        have F_dealt_b2 := F_dealt_b2.keep K7 nin0
        have V_b4_2 := V_b4_2.keep K7 nin0
        have V_b6 := V_b6.keep K7 nin0
        have Kp := Kp.trans K7 all0
        have Zn := Nat.le_trans Zn K7.1
        have N7 := Fr.app Nl5 N7q
        refine Run.st (S' := T7.setTop (mkF m 415 #[.val (.int p0), .val (.int p1), .val (.int p2), .val (.int p3), .val (.int (0 : Int32)), .val (.int dd), .val (.int (0 : Int32)), .val (.int qq), .val (.int (10 : Int32)), .val (.int k1), .val (.int k2), .val (.int k3), .val (.ref b2), .val (.int dn), .val (.ref b6), .val (.int (1 : Int32)), .val (.int (1 : Int32)), .val (.int (1 : Int32)), .val (.int (1 : Int32)), .val (.int (own_H ([] : List Int32) (0 : Int32) 10 lf))] [(.ref b2)])) (fun _ k => st7.trans (XS.istore X7.here hx rfl (hb hby at_404) rfl (l' := #[.val (.int p0), .val (.int p1), .val (.int p2), .val (.int p3), .val (.int (0 : Int32)), .val (.int dd), .val (.int (0 : Int32)), .val (.int qq), .val (.int (10 : Int32)), .val (.int k1), .val (.int k2), .val (.int k3), .val (.ref b2), .val (.int dn), .val (.ref b6), .val (.int (1 : Int32)), .val (.int (1 : Int32)), .val (.int (1 : Int32)), .val (.int (1 : Int32)), .val (.int (own_H ([] : List Int32) (0 : Int32) 10 lf))]) rfl (XS.iload X7.here hx rfl (hb hby at_406) rfl (XS.iload X7.here hx rfl (hb hby at_408) rfl (XS.icmpNo X7.here hx rfl (hb hby at_410) rfl (teq (show (own_H ([] : List Int32) (0 : Int32) 10 lf) = (1 : Int32) from own_E0 (k2 := k2) (k3 := k3) (N := 10) (by decide) hyJ)).2 (XS.aload X7.here hx rfl (hb hby at_413) rfl rfl k)))))) ?_
        obtain ⟨cq8, kq8, q8a, q8b, q8c⟩ := isOf hZ rfl E_b2
        obtain ⟨_, _, ⟨T8, L8, k8, n8⟩, -, X8, ⟨Lc8, hQ8, l8, y8, z8⟩, st8⟩ := X7.virtualBack hx (y := (⟨"com/example/sidewager/sidewager/analysis/Shoe", "dealt", "()I"⟩ : MethodName)) (z := (⟨"com/example/sidewager/sidewager/analysis/Shoe", "dealt", "()I"⟩ : MethodName)) hown (mvT hZ (hwi hw 96 rfl)) (mvT hZ (hwi hw 97 rfl)) (notFace_of_selects (args := #[]) (mvT hZ (hwi hw 99 rfl))) (mvT hZ (hwi hw 99 rfl)) (mvT hZ (hwi hw 98 rfl)) (by decide) (backOf (W := 0) (rmDt l Z aV hw [] b2 dn T7.heap n0 Zn F_dealt_b2) hZ (hwi hw 100 rfl) (hwi hw 3 rfl) (by decide) (by decide)) q8a q8c (g := (mkF m 415 #[.val (.int p0), .val (.int p1), .val (.int p2), .val (.int p3), .val (.int (0 : Int32)), .val (.int dd), .val (.int (0 : Int32)), .val (.int qq), .val (.int (10 : Int32)), .val (.int k1), .val (.int k2), .val (.int k3), .val (.ref b2), .val (.int dn), .val (.ref b6), .val (.int (1 : Int32)), .val (.int (1 : Int32)), .val (.int (1 : Int32)), .val (.int (1 : Int32)), .val (.int (own_H ([] : List Int32) (0 : Int32) 10 lf))] [(.ref b2)])) rfl (by rw [hml]; rfl) (Steps.refl _) (argsL := []) (rest := []) (lenOf pd_1 rfl) rfl (by show 2 * 0 + _ ≤ _; exact Nat.le_of_eq rfl) (hb hby at_415) (fun _ _ => ⟨rfl, rfl, (by decide : 9 + 0 ≤ _), (by decide : 67 + 0 ≤ _)⟩)
        dsimp only [Pt.U, Pt.locs, Pt.cells, Pt.slots] at X8 l8 y8 z8 st8 hQ8
        replace l8 := l8.symm; replace y8 := y8.symm; replace z8 := z8.symm; subst l8 y8 z8
        obtain ⟨rfl, N8q, e8⟩ := hQ8
        have N8 := Fr.app N7 N8q
        refine Run.st (S' := T8.setTop (mkF m 428 #[.val (.int p0), .val (.int p1), .val (.int p2), .val (.int p3), .val (.int (0 : Int32)), .val (.int dd), .val (.int (0 : Int32)), .val (.int qq), .val (.int (10 : Int32)), .val (.int k1), .val (.int k2), .val (.int k3), .val (.ref b2), .val (.int dn), .val (.ref b6), .val (.int (1 : Int32)), .val (.int (1 : Int32)), .val (.int (1 : Int32)), .val (.int (1 : Int32)), .val (.int (own_H ([] : List Int32) (0 : Int32) 10 lf))] [(.int (1 : Int32))])) (fun _ k => st8.trans (XS.iload X8.here hx rfl (hb hby at_418) rfl (XS.icmpNo X8.here hx rfl (hb hby at_420) rfl (teq (show dn = dn from rfl)).2 (XS.iconst X8.here hx rfl (hb hby at_423) (XS.goto X8.here hx rfl (pc0 := 424) (pc' := 428) rfl (hb hby at_424) (by decide) (by decide) k))))) ?_
        refine Run.out X8 hx Bd.notSynchronized Bd.returns rfl (Or.inl ⟨rfl, by simp, _, rfl⟩) (hb hby at_428) (by decide) (by decide) ?_
        rw [e8]
        exact ⟨rfl, N8⟩
      · refine Run.st (S' := Tl5.setTop (mkF m 193 #[.val (.int p0), .val (.int p1), .val (.int p2), .val (.int p3), .val (.int (0 : Int32)), .val (.int dd), .val (.int (1 : Int32)), .val (.int qq), .val (.int (10 : Int32)), .val (.int k1), .val (.int k2), .val (.int k3), .val (.ref b2), .val (.int dn), .unset, .unset, .unset, .unset, .unset, .unset] [(.int (1 : Int32))])) (fun _ k => XS.iload Xl5.here hx rfl (hb hby at_173) rfl (XS.ifYes Xl5.here hx rfl (pc0 := 175) (pc' := 186) rfl (hb hby at_175) rfl ((if0 _ _).trans (feq (show ¬ ((1 : Int32) = (0 : Int32)) from (by decide))).2) (by decide) (by decide) (XS.iload Xl5.here hx rfl (hb hby at_186) rfl (XS.iconst Xl5.here hx rfl (hb hby at_188) (XS.icmpNo Xl5.here hx rfl (hb hby at_189) rfl (teq (show (1 : Int32) = (1 : Int32) from (by decide))).2 (XS.iconst Xl5.here hx rfl (hb hby at_192) k)))))) ?_
        obtain ⟨T9, h9, k9, X9, e9, E9, A9, st9⟩ := newP Xl5 hx hZ (hwi hw 13 rfl) El5 (g := (mkF m 193 #[.val (.int p0), .val (.int p1), .val (.int p2), .val (.int p3), .val (.int (0 : Int32)), .val (.int dd), .val (.int (1 : Int32)), .val (.int qq), .val (.int (10 : Int32)), .val (.int k1), .val (.int k2), .val (.int k3), .val (.ref b2), .val (.int dn), .unset, .unset, .unset, .unset, .unset, .unset] [(.int (1 : Int32))])) rfl (hb hby at_193) rfl (by decide) (cap := 1) (by decide) (by decide) (by decide) (by decide)
        obtain ⟨b9, g9⟩ : ∃ z, z = Hl5.size := ⟨_, rfl⟩
        rw [← g9] at A9 st9
        have ne_b2_b9 : b2 ≠ b9 := Nat.ne_of_lt (Nat.lt_of_lt_of_le E_b2.lt (Nat.le_of_eq g9.symm))
        have ne_b4_2_b9 : b4_2 ≠ b9 := Nat.ne_of_lt (Nat.lt_of_lt_of_le V_b4_2.lt (Nat.le_of_eq g9.symm))
        have E_b2 := E_b2.ext E9
        have F_left_b2 := F_left_b2.ext E9
        have F_dealt_b2 := F_dealt_b2.ext E9
        have V_b4_2 := V_b4_2.ext E9
        have OL := OL.ext E9
        have g_b9 : n0 ≤ b9 := Nat.le_trans Zn (Nat.le_of_eq g9.symm)
        have Zn := Nat.le_trans Zn E9.1
        have sz_b9 : h0.size ≤ b9 := Nat.le_trans Kp.1 (Nat.le_of_eq g9.symm)
        have Kp := Kp.ext E9
        have V_b9 : Arv Z h9 b9 k9 .int (1 : Int32) [(.int (0 : Int32))] (.int (0 : Int32)) := (Arv.new A9 (by decide)).pad (pad_rep [] (.int (0 : Int32)) 1)
        refine Run.st (S' := T9.setTop (mkF m 199 #[.val (.int p0), .val (.int p1), .val (.int p2), .val (.int p3), .val (.int (0 : Int32)), .val (.int dd), .val (.int (1 : Int32)), .val (.int qq), .val (.int (10 : Int32)), .val (.int k1), .val (.int k2), .val (.int k3), .val (.ref b2), .val (.int dn), .unset, .unset, .unset, .unset, .unset, .unset] [(.int k1), (.int (0 : Int32)), (.ref b9), (.ref b9)])) (fun _ k => st9 _ (XS.dup X9.here hx rfl (hb hby at_195) rfl rfl (XS.iconst X9.here hx rfl (hb hby at_196) (XS.iload X9.here hx rfl (hb hby at_197) rfl k)))) ?_
        obtain ⟨cl10, Ar10, qa10, Sa10, Na10, Ha10, Ga10⟩ := V_b9
        have hin10 : ¬ ((0 : Int32) < 0 ∨ cl10.slots.size ≤ ((0 : Int32)).toNatClampNeg) := inb_of Sa10 ⟨by decide, by decide⟩
        obtain ⟨T10, h10, X10, e10, W10, st10⟩ := stI X9 hx hZ e9 Ar10 (j := (0 : Int32)) hin10 (g := (mkF m 199 #[.val (.int p0), .val (.int p1), .val (.int p2), .val (.int p3), .val (.int (0 : Int32)), .val (.int dd), .val (.int (1 : Int32)), .val (.int qq), .val (.int (10 : Int32)), .val (.int k1), .val (.int k2), .val (.int k3), .val (.ref b2), .val (.int dn), .unset, .unset, .unset, .unset, .unset, .unset] [(.int k1), (.int (0 : Int32)), (.ref b9), (.ref b9)])) rfl rfl (hb hby at_199)
        have V_b9 := Arv.set Ar10 qa10 Sa10 Na10 Ha10 Ga10 rfl W10 0 rfl (Nat.le_of_ble_eq_true rfl)
        have V_b9 : Arv Z h10 b9 k9 .int (1 : Int32) [(.int k1)] (.int (0 : Int32)) := V_b9
        have OL := OL.wr W10 g_b9
        have E_b2 := E_b2.wr W10
        have F_left_b2 := F_left_b2.other W10 (Or.inl ne_b2_b9)
        have F_dealt_b2 := F_dealt_b2.other W10 (Or.inl ne_b2_b9)
        have V_b4_2 := V_b4_2.other W10 ne_b4_2_b9
        have N10 := Fr.snoc X10 Nl5 g_b9
        have Kp := Kp.wr W10 (Or.inr sz_b9)
        have Zn := Nat.le_trans Zn (Nat.le_of_eq W10.size.symm)
        refine Run.st (S' := T10.setTop (mkF m 249 #[.val (.int p0), .val (.int p1), .val (.int p2), .val (.int p3), .val (.int (0 : Int32)), .val (.int dd), .val (.int (1 : Int32)), .val (.int qq), .val (.int (10 : Int32)), .val (.int k1), .val (.int k2), .val (.int k3), .val (.ref b2), .val (.int dn), .val (.ref b9), .unset, .unset, .unset, .unset, .unset] [])) (fun _ k => st10 _ (XS.astore X10.here hx rfl (hb hby at_200) rfl rfl (l' := #[.val (.int p0), .val (.int p1), .val (.int p2), .val (.int p3), .val (.int (0 : Int32)), .val (.int dd), .val (.int (1 : Int32)), .val (.int qq), .val (.int (10 : Int32)), .val (.int k1), .val (.int k2), .val (.int k3), .val (.ref b2), .val (.int dn), .val (.ref b9), .unset, .unset, .unset, .unset, .unset]) rfl (XS.goto X10.here hx rfl (pc0 := 202) (pc' := 249) rfl (hb hby at_202) (by decide) (by decide) k))) ?_
        have V_b9 : Arv Z h10 b9 k9 .int (1 : Int32) ([k1].map Value.int) (.int (0 : Int32)) := V_b9
        refine Run.st (S' := T10.setTop (mkF m 265 #[.val (.int p0), .val (.int p1), .val (.int p2), .val (.int p3), .val (.int (0 : Int32)), .val (.int dd), .val (.int (1 : Int32)), .val (.int qq), .val (.int (10 : Int32)), .val (.int k1), .val (.int k2), .val (.int k3), .val (.ref b2), .val (.int dn), .val (.ref b9), .unset, .unset, .unset, .unset, .unset] [(.int k3), (.int k2), (.int k1), (.int (1 : Int32)), (.int k1)])) (fun _ k => XS.iload X10.here hx rfl (hb hby at_249) rfl (XS.iconst X10.here hx rfl (hb hby at_251) (XS.icmpNo X10.here hx rfl (hb hby at_252) rfl (flt (show ¬ ((1 : Int32) < (1 : Int32)) from (by decide))).1 (XS.iload X10.here hx rfl (hb hby at_255) rfl (XS.iload X10.here hx rfl (hb hby at_257) rfl (XS.iload X10.here hx rfl (hb hby at_259) rfl (XS.iload X10.here hx rfl (hb hby at_261) rfl (XS.iload X10.here hx rfl (hb hby at_263) rfl k)))))))) ?_
        obtain ⟨_, _, ⟨T11, L11, k11, n11⟩, -, X11, ⟨Lc11, hQ11, l11, y11, z11⟩, st11⟩ := Jvm.LawKit.callS X10 hx (y := (⟨"com/example/sidewager/sidewager/analysis/ShoeHoldsPinLaw", "cnt", "(IIIII)I"⟩ : MethodName)) hown (mvT hZ (hwi hw 103 rfl)) (mvT hZ (hwi hw 104 rfl)) (mvT hZ (hwi hw 88 rfl)) (mvT hZ (hwi hw 105 rfl)) (by decide) (backOf (W := 0) (rmCnt l Z aV hw [] k1 (1 : Int32) k1 k2 k3 h10 n0 Zn ) hZ (hwi hw 105 rfl) (hwi hw 88 rfl) (by decide) (by decide)) (g := (mkF m 265 #[.val (.int p0), .val (.int p1), .val (.int p2), .val (.int p3), .val (.int (0 : Int32)), .val (.int dd), .val (.int (1 : Int32)), .val (.int qq), .val (.int (10 : Int32)), .val (.int k1), .val (.int k2), .val (.int k3), .val (.ref b2), .val (.int dn), .val (.ref b9), .unset, .unset, .unset, .unset, .unset] [(.int k3), (.int k2), (.int k1), (.int (1 : Int32)), (.int k1)])) rfl (by rw [hml]; rfl) (argsL := [(.int k1), (.int (1 : Int32)), (.int k1), (.int k2), (.int k3)]) (rest := []) (lenOf pd_9 rfl) rfl (by show 2 * 0 + _ ≤ _; exact Nat.le_of_eq rfl) (hb hby at_265) (fun _ _ => ⟨rfl, e10, (by decide : 8 + 0 ≤ _), (by decide : 58 + 0 ≤ _)⟩)
        dsimp only [Pt.U, Pt.locs, Pt.cells, Pt.slots] at X11 l11 y11 z11 st11 hQ11
        replace l11 := l11.symm; replace y11 := y11.symm; replace z11 := z11.symm; subst l11 y11 z11
        obtain ⟨rfl, N11q, e11⟩ := hQ11
        have N11 := Fr.app N10 N11q
        refine Run.st (S' := T11.setTop (mkF m 278 #[.val (.int p0), .val (.int p1), .val (.int p2), .val (.int p3), .val (.int (0 : Int32)), .val (.int dd), .val (.int (1 : Int32)), .val (.int qq), .val (.int (10 : Int32)), .val (.int k1), .val (.int k2), .val (.int k3), .val (.ref b2), .val (.int dn), .val (.ref b9), .unset, .unset, .unset, .unset, .unset] [(.int k1), (.int dn), (.int k1), (.int dd), (.int (0 : Int32)), (.int (FCnt k1 (1 : Int32) k1 k2 k3))])) (fun _ k => st11 _ (XS.iload X11.here hx rfl (hb hby at_268) rfl (XS.iload X11.here hx rfl (hb hby at_270) rfl (XS.iload X11.here hx rfl (hb hby at_272) rfl (XS.iload X11.here hx rfl (hb hby at_274) rfl (XS.iload X11.here hx rfl (hb hby at_276) rfl k)))))) ?_
        obtain ⟨_, _, ⟨T12, L12, k12, n12⟩, -, X12, ⟨Lc12, hQ12, l12, y12, z12⟩, st12⟩ := Jvm.LawKit.callS X11 hx (y := (⟨"com/example/sidewager/sidewager/analysis/ShoeHoldsPinLaw", "left", "(ZIIII)I"⟩ : MethodName)) hown (mvT hZ (hwi hw 106 rfl)) (mvT hZ (hwi hw 107 rfl)) (mvT hZ (hwi hw 88 rfl)) (mvT hZ (hwi hw 108 rfl)) (by decide) (backOf (W := 1) (rmLeft l Z aV hw [] (0 : Int32) dd k1 dn k1 h10 n0 Zn ) hZ (hwi hw 108 rfl) (hwi hw 88 rfl) (by decide) (by decide)) (g := (mkF m 278 #[.val (.int p0), .val (.int p1), .val (.int p2), .val (.int p3), .val (.int (0 : Int32)), .val (.int dd), .val (.int (1 : Int32)), .val (.int qq), .val (.int (10 : Int32)), .val (.int k1), .val (.int k2), .val (.int k3), .val (.ref b2), .val (.int dn), .val (.ref b9), .unset, .unset, .unset, .unset, .unset] [(.int k1), (.int dn), (.int k1), (.int dd), (.int (0 : Int32)), (.int (FCnt k1 (1 : Int32) k1 k2 k3))])) rfl (by rw [hml]; rfl) (argsL := [(.int (0 : Int32)), (.int dd), (.int k1), (.int dn), (.int k1)]) (rest := [(.int (FCnt k1 (1 : Int32) k1 k2 k3))]) (lenOf pd_10 rfl) rfl (by show 2 * 0 + _ ≤ _; exact Nat.le_of_eq rfl) (hb hby at_278) (fun _ _ => ⟨rfl, e11, (by decide : 8 + 0 ≤ _), (by decide : 58 + 0 ≤ _)⟩)
        dsimp only [Pt.U, Pt.locs, Pt.cells, Pt.slots] at X12 l12 y12 z12 st12 hQ12
        replace l12 := l12.symm; replace y12 := y12.symm; replace z12 := z12.symm; subst l12 y12 z12
        obtain ⟨rfl, N12q, e12⟩ := hQ12
        have N12 := Fr.app N11 N12q
        refine Run.st (S' := T12.setTop (mkF m 281 #[.val (.int p0), .val (.int p1), .val (.int p2), .val (.int p3), .val (.int (0 : Int32)), .val (.int dd), .val (.int (1 : Int32)), .val (.int qq), .val (.int (10 : Int32)), .val (.int k1), .val (.int k2), .val (.int k3), .val (.ref b2), .val (.int dn), .val (.ref b9), .unset, .unset, .unset, .unset, .unset] [(.int (FLeft (0 : Int32) dd k1 dn k1)), (.int (FCnt k1 (1 : Int32) k1 k2 k3))])) (fun _ k => st12 _ k) ?_
        have J291_13 : ∀ (x15 : Int32), x15 = (if (FLeft (0 : Int32) dd k1 dn k1) < (FCnt k1 (1 : Int32) k1 k2 k3) then (0 : Int32) else (1 : Int32)) → Run p e below (Ends s (Q0 Z p0 p1 p2 p3 u s_MAT s_VALS kV vsR s_ONE h0 n0) room_1.cells room_1.slots) (T12.setTop (mkF m 291 #[.val (.int p0), .val (.int p1), .val (.int p2), .val (.int p3), .val (.int (0 : Int32)), .val (.int dd), .val (.int (1 : Int32)), .val (.int qq), .val (.int (10 : Int32)), .val (.int k1), .val (.int k2), .val (.int k3), .val (.ref b2), .val (.int dn), .val (.ref b9), .val (.int x15), .unset, .unset, .unset, .unset] [])) := by
          intro x15 h_x15
          refine Run.st (S' := T12.setTop (mkF m 336 #[.val (.int p0), .val (.int p1), .val (.int p2), .val (.int p3), .val (.int (0 : Int32)), .val (.int dd), .val (.int (1 : Int32)), .val (.int qq), .val (.int (10 : Int32)), .val (.int k1), .val (.int k2), .val (.int k3), .val (.ref b2), .val (.int dn), .val (.ref b9), .val (.int x15), .val (.int (1 : Int32)), .unset, .unset, .unset] [(.int (3 : Int32)), (.int (1 : Int32))])) (fun _ k => XS.iload X12.here hx rfl (hb hby at_291) rfl (XS.iconst X12.here hx rfl (hb hby at_293) (XS.icmpYes X12.here hx rfl (pc0 := 294) (pc' := 326) rfl (hb hby at_294) rfl (tlt (show (1 : Int32) < (2 : Int32) from (by decide))).1 (by decide) (by decide) (XS.iconst X12.here hx rfl (hb hby at_326) (XS.goto X12.here hx rfl (pc0 := 327) (pc' := 331) rfl (hb hby at_327) (by decide) (by decide) (XS.istore X12.here hx rfl (hb hby at_331) rfl (l' := #[.val (.int p0), .val (.int p1), .val (.int p2), .val (.int p3), .val (.int (0 : Int32)), .val (.int dd), .val (.int (1 : Int32)), .val (.int qq), .val (.int (10 : Int32)), .val (.int k1), .val (.int k2), .val (.int k3), .val (.ref b2), .val (.int dn), .val (.ref b9), .val (.int x15), .val (.int (1 : Int32)), .unset, .unset, .unset]) rfl (XS.iload X12.here hx rfl (hb hby at_333) rfl (XS.iconst X12.here hx rfl (hb hby at_335) k)))))))) ?_
          refine Run.st (S' := T12.setTop (mkF m 377 #[.val (.int p0), .val (.int p1), .val (.int p2), .val (.int p3), .val (.int (0 : Int32)), .val (.int dd), .val (.int (1 : Int32)), .val (.int qq), .val (.int (10 : Int32)), .val (.int k1), .val (.int k2), .val (.int k3), .val (.ref b2), .val (.int dn), .val (.ref b9), .val (.int x15), .val (.int (1 : Int32)), .val (.int (1 : Int32)), .unset, .unset] [(.int x15)])) (fun _ k => XS.icmpYes X12.here hx rfl (pc0 := 336) (pc' := 368) rfl (hb hby at_336) rfl (tlt (show (1 : Int32) < (3 : Int32) from (by decide))).1 (by decide) (by decide) (XS.iconst X12.here hx rfl (hb hby at_368) (XS.goto X12.here hx rfl (pc0 := 369) (pc' := 373) rfl (hb hby at_369) (by decide) (by decide) (XS.istore X12.here hx rfl (hb hby at_373) rfl (l' := #[.val (.int p0), .val (.int p1), .val (.int p2), .val (.int p3), .val (.int (0 : Int32)), .val (.int dd), .val (.int (1 : Int32)), .val (.int qq), .val (.int (10 : Int32)), .val (.int k1), .val (.int k2), .val (.int k3), .val (.ref b2), .val (.int dn), .val (.ref b9), .val (.int x15), .val (.int (1 : Int32)), .val (.int (1 : Int32)), .unset, .unset]) rfl (XS.iload X12.here hx rfl (hb hby at_375) rfl k))))) ?_
          by_cases hc377_14 : x15 = (0 : Int32)
          · refine Run.st (S' := T12.setTop (mkF m 401 #[.val (.int p0), .val (.int p1), .val (.int p2), .val (.int p3), .val (.int (0 : Int32)), .val (.int dd), .val (.int (1 : Int32)), .val (.int qq), .val (.int (10 : Int32)), .val (.int k1), .val (.int k2), .val (.int k3), .val (.ref b2), .val (.int dn), .val (.ref b9), .val (.int x15), .val (.int (1 : Int32)), .val (.int (1 : Int32)), .val (.int (0 : Int32)), .unset] [(.ref b9), (.ref b2)])) (fun _ k => XS.ifYes X12.here hx rfl (pc0 := 377) (pc' := 394) rfl (hb hby at_377) rfl ((if0 _ _).trans (teq hc377_14).1) (by decide) (by decide) (XS.iconst X12.here hx rfl (hb hby at_394) (XS.istore X12.here hx rfl (hb hby at_395) rfl (l' := #[.val (.int p0), .val (.int p1), .val (.int p2), .val (.int p3), .val (.int (0 : Int32)), .val (.int dd), .val (.int (1 : Int32)), .val (.int qq), .val (.int (10 : Int32)), .val (.int k1), .val (.int k2), .val (.int k3), .val (.ref b2), .val (.int dn), .val (.ref b9), .val (.int x15), .val (.int (1 : Int32)), .val (.int (1 : Int32)), .val (.int (0 : Int32)), .unset]) rfl (XS.aload X12.here hx rfl (hb hby at_397) rfl rfl (XS.aload X12.here hx rfl (hb hby at_399) rfl rfl k))))) ?_
            obtain ⟨cq15, kq15, q15a, q15b, q15c⟩ := isOf hZ e12 E_b2
            obtain ⟨_, _, ⟨T15, L15, k15, n15⟩, -, X15, ⟨Lc15, hQ15, l15, y15, z15⟩, st15⟩ := X12.virtualBack hx (y := (⟨"com/example/sidewager/sidewager/analysis/Shoe", "holds", "([I)Z"⟩ : MethodName)) (z := (⟨"com/example/sidewager/sidewager/analysis/Shoe", "holds", "([I)Z"⟩ : MethodName)) hown (mvT hZ (hwi hw 91 rfl)) (mvT hZ (hwi hw 92 rfl)) (notFace_of_selects (args := #[]) (mvT hZ (hwi hw 94 rfl))) (mvT hZ (hwi hw 94 rfl)) (mvT hZ (hwi hw 93 rfl)) (by decide) (backOf (W := 0) (rmHoI l Z aV hw [] b2 b9 b4_2 kb4_2 lf k9 [k1] (1 : Int32) h10 n0 Zn (by decide) (by decide) (own_hks1 hk1) F_left_b2 V_b4_2 V_b9) hZ (hwi hw 95 rfl) (hwi hw 3 rfl) (by decide) (by decide)) q15a q15c (g := (mkF m 401 #[.val (.int p0), .val (.int p1), .val (.int p2), .val (.int p3), .val (.int (0 : Int32)), .val (.int dd), .val (.int (1 : Int32)), .val (.int qq), .val (.int (10 : Int32)), .val (.int k1), .val (.int k2), .val (.int k3), .val (.ref b2), .val (.int dn), .val (.ref b9), .val (.int x15), .val (.int (1 : Int32)), .val (.int (1 : Int32)), .val (.int (0 : Int32)), .unset] [(.ref b9), (.ref b2)])) rfl (by rw [hml]; rfl) (Steps.refl _) (argsL := [(.ref b9)]) (rest := []) (lenOf pd_8 rfl) rfl (by show 2 * 0 + _ ≤ _; exact Nat.le_of_eq rfl) (hb hby at_401) (fun _ _ => ⟨rfl, e12, (by decide : 8 + 1 ≤ _), (by decide : 58 + 10 ≤ _)⟩)
            dsimp only [Pt.U, Pt.locs, Pt.cells, Pt.slots] at X15 l15 y15 z15 st15 hQ15
            replace l15 := l15.symm; replace y15 := y15.symm; replace z15 := z15.symm; subst l15 y15 z15
            obtain ⟨rfl, N15q, K15⟩ := hQ15
            have OL := OL.keep K15 all0
            have E_b2 := E_b2.keep K15
            have F_left_b2 := F_left_b2.keep K15 nin0
            have F_dealt_b2 := F_dealt_b2.keep K15 nin0
            have V_b4_2 := V_b4_2.keep K15 nin0
            have V_b9 := V_b9.keep K15 nin0
            have Kp := Kp.trans K15 all0
            have Zn := Nat.le_trans Zn K15.1
            have N15 := Fr.app N12 N15q
            refine Run.st (S' := T15.setTop (mkF m 415 #[.val (.int p0), .val (.int p1), .val (.int p2), .val (.int p3), .val (.int (0 : Int32)), .val (.int dd), .val (.int (1 : Int32)), .val (.int qq), .val (.int (10 : Int32)), .val (.int k1), .val (.int k2), .val (.int k3), .val (.ref b2), .val (.int dn), .val (.ref b9), .val (.int x15), .val (.int (1 : Int32)), .val (.int (1 : Int32)), .val (.int (0 : Int32)), .val (.int (own_H [k1] (1 : Int32) 10 lf))] [(.ref b2)])) (fun _ k => st15.trans (XS.istore X15.here hx rfl (hb hby at_404) rfl (l' := #[.val (.int p0), .val (.int p1), .val (.int p2), .val (.int p3), .val (.int (0 : Int32)), .val (.int dd), .val (.int (1 : Int32)), .val (.int qq), .val (.int (10 : Int32)), .val (.int k1), .val (.int k2), .val (.int k3), .val (.ref b2), .val (.int dn), .val (.ref b9), .val (.int x15), .val (.int (1 : Int32)), .val (.int (1 : Int32)), .val (.int (0 : Int32)), .val (.int (own_H [k1] (1 : Int32) 10 lf))]) rfl (XS.iload X15.here hx rfl (hb hby at_406) rfl (XS.iload X15.here hx rfl (hb hby at_408) rfl (XS.icmpNo X15.here hx rfl (hb hby at_410) rfl (teq (show (own_H [k1] (1 : Int32) 10 lf) = (0 : Int32) from (own_E1 (k2 := k2) (k3 := k3) (N := 10) (by decide) hk1  hyJ).trans (if_pos (own_x0 h_x15 hc377_14)))).2 (XS.aload X15.here hx rfl (hb hby at_413) rfl rfl k)))))) ?_
            obtain ⟨cq16, kq16, q16a, q16b, q16c⟩ := isOf hZ rfl E_b2
            obtain ⟨_, _, ⟨T16, L16, k16, n16⟩, -, X16, ⟨Lc16, hQ16, l16, y16, z16⟩, st16⟩ := X15.virtualBack hx (y := (⟨"com/example/sidewager/sidewager/analysis/Shoe", "dealt", "()I"⟩ : MethodName)) (z := (⟨"com/example/sidewager/sidewager/analysis/Shoe", "dealt", "()I"⟩ : MethodName)) hown (mvT hZ (hwi hw 96 rfl)) (mvT hZ (hwi hw 97 rfl)) (notFace_of_selects (args := #[]) (mvT hZ (hwi hw 99 rfl))) (mvT hZ (hwi hw 99 rfl)) (mvT hZ (hwi hw 98 rfl)) (by decide) (backOf (W := 0) (rmDt l Z aV hw [] b2 dn T15.heap n0 Zn F_dealt_b2) hZ (hwi hw 100 rfl) (hwi hw 3 rfl) (by decide) (by decide)) q16a q16c (g := (mkF m 415 #[.val (.int p0), .val (.int p1), .val (.int p2), .val (.int p3), .val (.int (0 : Int32)), .val (.int dd), .val (.int (1 : Int32)), .val (.int qq), .val (.int (10 : Int32)), .val (.int k1), .val (.int k2), .val (.int k3), .val (.ref b2), .val (.int dn), .val (.ref b9), .val (.int x15), .val (.int (1 : Int32)), .val (.int (1 : Int32)), .val (.int (0 : Int32)), .val (.int (own_H [k1] (1 : Int32) 10 lf))] [(.ref b2)])) rfl (by rw [hml]; rfl) (Steps.refl _) (argsL := []) (rest := []) (lenOf pd_1 rfl) rfl (by show 2 * 0 + _ ≤ _; exact Nat.le_of_eq rfl) (hb hby at_415) (fun _ _ => ⟨rfl, rfl, (by decide : 9 + 0 ≤ _), (by decide : 68 + 0 ≤ _)⟩)
            dsimp only [Pt.U, Pt.locs, Pt.cells, Pt.slots] at X16 l16 y16 z16 st16 hQ16
            replace l16 := l16.symm; replace y16 := y16.symm; replace z16 := z16.symm; subst l16 y16 z16
            obtain ⟨rfl, N16q, e16⟩ := hQ16
            have N16 := Fr.app N15 N16q
            refine Run.st (S' := T16.setTop (mkF m 428 #[.val (.int p0), .val (.int p1), .val (.int p2), .val (.int p3), .val (.int (0 : Int32)), .val (.int dd), .val (.int (1 : Int32)), .val (.int qq), .val (.int (10 : Int32)), .val (.int k1), .val (.int k2), .val (.int k3), .val (.ref b2), .val (.int dn), .val (.ref b9), .val (.int x15), .val (.int (1 : Int32)), .val (.int (1 : Int32)), .val (.int (0 : Int32)), .val (.int (own_H [k1] (1 : Int32) 10 lf))] [(.int (1 : Int32))])) (fun _ k => st16.trans (XS.iload X16.here hx rfl (hb hby at_418) rfl (XS.icmpNo X16.here hx rfl (hb hby at_420) rfl (teq (show dn = dn from rfl)).2 (XS.iconst X16.here hx rfl (hb hby at_423) (XS.goto X16.here hx rfl (pc0 := 424) (pc' := 428) rfl (hb hby at_424) (by decide) (by decide) k))))) ?_
            refine Run.out X16 hx Bd.notSynchronized Bd.returns rfl (Or.inl ⟨rfl, by simp, _, rfl⟩) (hb hby at_428) (by decide) (by decide) ?_
            rw [e16]
            exact ⟨rfl, N16⟩
          · refine Run.st (S' := T12.setTop (mkF m 397 #[.val (.int p0), .val (.int p1), .val (.int p2), .val (.int p3), .val (.int (0 : Int32)), .val (.int dd), .val (.int (1 : Int32)), .val (.int qq), .val (.int (10 : Int32)), .val (.int k1), .val (.int k2), .val (.int k3), .val (.ref b2), .val (.int dn), .val (.ref b9), .val (.int x15), .val (.int (1 : Int32)), .val (.int (1 : Int32)), .val (.int (1 : Int32)), .unset] [])) (fun _ k => XS.ifNo X12.here hx rfl (hb hby at_377) rfl ((if0 _ _).trans (feq hc377_14).1) (XS.iload X12.here hx rfl (hb hby at_380) rfl (XS.ifNo X12.here hx rfl (hb hby at_382) rfl ((if0 _ _).trans (feq (show ¬ ((1 : Int32) = (0 : Int32)) from (by decide))).1) (XS.iload X12.here hx rfl (hb hby at_385) rfl (XS.ifNo X12.here hx rfl (hb hby at_387) rfl ((if0 _ _).trans (feq (show ¬ ((1 : Int32) = (0 : Int32)) from (by decide))).1) (XS.iconst X12.here hx rfl (hb hby at_390) (XS.goto X12.here hx rfl (pc0 := 391) (pc' := 395) rfl (hb hby at_391) (by decide) (by decide) (XS.istore X12.here hx rfl (hb hby at_395) rfl (l' := #[.val (.int p0), .val (.int p1), .val (.int p2), .val (.int p3), .val (.int (0 : Int32)), .val (.int dd), .val (.int (1 : Int32)), .val (.int qq), .val (.int (10 : Int32)), .val (.int k1), .val (.int k2), .val (.int k3), .val (.ref b2), .val (.int dn), .val (.ref b9), .val (.int x15), .val (.int (1 : Int32)), .val (.int (1 : Int32)), .val (.int (1 : Int32)), .unset]) rfl k)))))))) ?_
            refine Run.st (S' := T12.setTop (mkF m 401 #[.val (.int p0), .val (.int p1), .val (.int p2), .val (.int p3), .val (.int (0 : Int32)), .val (.int dd), .val (.int (1 : Int32)), .val (.int qq), .val (.int (10 : Int32)), .val (.int k1), .val (.int k2), .val (.int k3), .val (.ref b2), .val (.int dn), .val (.ref b9), .val (.int x15), .val (.int (1 : Int32)), .val (.int (1 : Int32)), .val (.int (1 : Int32)), .unset] [(.ref b9), (.ref b2)])) (fun _ k => XS.aload X12.here hx rfl (hb hby at_397) rfl rfl (XS.aload X12.here hx rfl (hb hby at_399) rfl rfl k)) ?_
            obtain ⟨cq17, kq17, q17a, q17b, q17c⟩ := isOf hZ e12 E_b2
            obtain ⟨_, _, ⟨T17, L17, k17, n17⟩, -, X17, ⟨Lc17, hQ17, l17, y17, z17⟩, st17⟩ := X12.virtualBack hx (y := (⟨"com/example/sidewager/sidewager/analysis/Shoe", "holds", "([I)Z"⟩ : MethodName)) (z := (⟨"com/example/sidewager/sidewager/analysis/Shoe", "holds", "([I)Z"⟩ : MethodName)) hown (mvT hZ (hwi hw 91 rfl)) (mvT hZ (hwi hw 92 rfl)) (notFace_of_selects (args := #[]) (mvT hZ (hwi hw 94 rfl))) (mvT hZ (hwi hw 94 rfl)) (mvT hZ (hwi hw 93 rfl)) (by decide) (backOf (W := 0) (rmHoI l Z aV hw [] b2 b9 b4_2 kb4_2 lf k9 [k1] (1 : Int32) h10 n0 Zn (by decide) (by decide) (own_hks1 hk1) F_left_b2 V_b4_2 V_b9) hZ (hwi hw 95 rfl) (hwi hw 3 rfl) (by decide) (by decide)) q17a q17c (g := (mkF m 401 #[.val (.int p0), .val (.int p1), .val (.int p2), .val (.int p3), .val (.int (0 : Int32)), .val (.int dd), .val (.int (1 : Int32)), .val (.int qq), .val (.int (10 : Int32)), .val (.int k1), .val (.int k2), .val (.int k3), .val (.ref b2), .val (.int dn), .val (.ref b9), .val (.int x15), .val (.int (1 : Int32)), .val (.int (1 : Int32)), .val (.int (1 : Int32)), .unset] [(.ref b9), (.ref b2)])) rfl (by rw [hml]; rfl) (Steps.refl _) (argsL := [(.ref b9)]) (rest := []) (lenOf pd_8 rfl) rfl (by show 2 * 0 + _ ≤ _; exact Nat.le_of_eq rfl) (hb hby at_401) (fun _ _ => ⟨rfl, e12, (by decide : 8 + 1 ≤ _), (by decide : 58 + 10 ≤ _)⟩)
            dsimp only [Pt.U, Pt.locs, Pt.cells, Pt.slots] at X17 l17 y17 z17 st17 hQ17
            replace l17 := l17.symm; replace y17 := y17.symm; replace z17 := z17.symm; subst l17 y17 z17
            obtain ⟨rfl, N17q, K17⟩ := hQ17
            have OL := OL.keep K17 all0
            have E_b2 := E_b2.keep K17
            have F_left_b2 := F_left_b2.keep K17 nin0
            have F_dealt_b2 := F_dealt_b2.keep K17 nin0
            have V_b4_2 := V_b4_2.keep K17 nin0
            have V_b9 := V_b9.keep K17 nin0
            have Kp := Kp.trans K17 all0
            have Zn := Nat.le_trans Zn K17.1
            have N17 := Fr.app N12 N17q
            refine Run.st (S' := T17.setTop (mkF m 415 #[.val (.int p0), .val (.int p1), .val (.int p2), .val (.int p3), .val (.int (0 : Int32)), .val (.int dd), .val (.int (1 : Int32)), .val (.int qq), .val (.int (10 : Int32)), .val (.int k1), .val (.int k2), .val (.int k3), .val (.ref b2), .val (.int dn), .val (.ref b9), .val (.int x15), .val (.int (1 : Int32)), .val (.int (1 : Int32)), .val (.int (1 : Int32)), .val (.int (own_H [k1] (1 : Int32) 10 lf))] [(.ref b2)])) (fun _ k => st17.trans (XS.istore X17.here hx rfl (hb hby at_404) rfl (l' := #[.val (.int p0), .val (.int p1), .val (.int p2), .val (.int p3), .val (.int (0 : Int32)), .val (.int dd), .val (.int (1 : Int32)), .val (.int qq), .val (.int (10 : Int32)), .val (.int k1), .val (.int k2), .val (.int k3), .val (.ref b2), .val (.int dn), .val (.ref b9), .val (.int x15), .val (.int (1 : Int32)), .val (.int (1 : Int32)), .val (.int (1 : Int32)), .val (.int (own_H [k1] (1 : Int32) 10 lf))]) rfl (XS.iload X17.here hx rfl (hb hby at_406) rfl (XS.iload X17.here hx rfl (hb hby at_408) rfl (XS.icmpNo X17.here hx rfl (hb hby at_410) rfl (teq (show (own_H [k1] (1 : Int32) 10 lf) = (1 : Int32) from (own_E1 (k2 := k2) (k3 := k3) (N := 10) (by decide) hk1  hyJ).trans (if_neg ((own_x1 h_x15 hc377_14))))).2 (XS.aload X17.here hx rfl (hb hby at_413) rfl rfl k)))))) ?_
            obtain ⟨cq18, kq18, q18a, q18b, q18c⟩ := isOf hZ rfl E_b2
            obtain ⟨_, _, ⟨T18, L18, k18, n18⟩, -, X18, ⟨Lc18, hQ18, l18, y18, z18⟩, st18⟩ := X17.virtualBack hx (y := (⟨"com/example/sidewager/sidewager/analysis/Shoe", "dealt", "()I"⟩ : MethodName)) (z := (⟨"com/example/sidewager/sidewager/analysis/Shoe", "dealt", "()I"⟩ : MethodName)) hown (mvT hZ (hwi hw 96 rfl)) (mvT hZ (hwi hw 97 rfl)) (notFace_of_selects (args := #[]) (mvT hZ (hwi hw 99 rfl))) (mvT hZ (hwi hw 99 rfl)) (mvT hZ (hwi hw 98 rfl)) (by decide) (backOf (W := 0) (rmDt l Z aV hw [] b2 dn T17.heap n0 Zn F_dealt_b2) hZ (hwi hw 100 rfl) (hwi hw 3 rfl) (by decide) (by decide)) q18a q18c (g := (mkF m 415 #[.val (.int p0), .val (.int p1), .val (.int p2), .val (.int p3), .val (.int (0 : Int32)), .val (.int dd), .val (.int (1 : Int32)), .val (.int qq), .val (.int (10 : Int32)), .val (.int k1), .val (.int k2), .val (.int k3), .val (.ref b2), .val (.int dn), .val (.ref b9), .val (.int x15), .val (.int (1 : Int32)), .val (.int (1 : Int32)), .val (.int (1 : Int32)), .val (.int (own_H [k1] (1 : Int32) 10 lf))] [(.ref b2)])) rfl (by rw [hml]; rfl) (Steps.refl _) (argsL := []) (rest := []) (lenOf pd_1 rfl) rfl (by show 2 * 0 + _ ≤ _; exact Nat.le_of_eq rfl) (hb hby at_415) (fun _ _ => ⟨rfl, rfl, (by decide : 9 + 0 ≤ _), (by decide : 68 + 0 ≤ _)⟩)
            dsimp only [Pt.U, Pt.locs, Pt.cells, Pt.slots] at X18 l18 y18 z18 st18 hQ18
            replace l18 := l18.symm; replace y18 := y18.symm; replace z18 := z18.symm; subst l18 y18 z18
            obtain ⟨rfl, N18q, e18⟩ := hQ18
            have N18 := Fr.app N17 N18q
            refine Run.st (S' := T18.setTop (mkF m 428 #[.val (.int p0), .val (.int p1), .val (.int p2), .val (.int p3), .val (.int (0 : Int32)), .val (.int dd), .val (.int (1 : Int32)), .val (.int qq), .val (.int (10 : Int32)), .val (.int k1), .val (.int k2), .val (.int k3), .val (.ref b2), .val (.int dn), .val (.ref b9), .val (.int x15), .val (.int (1 : Int32)), .val (.int (1 : Int32)), .val (.int (1 : Int32)), .val (.int (own_H [k1] (1 : Int32) 10 lf))] [(.int (1 : Int32))])) (fun _ k => st18.trans (XS.iload X18.here hx rfl (hb hby at_418) rfl (XS.icmpNo X18.here hx rfl (hb hby at_420) rfl (teq (show dn = dn from rfl)).2 (XS.iconst X18.here hx rfl (hb hby at_423) (XS.goto X18.here hx rfl (pc0 := 424) (pc' := 428) rfl (hb hby at_424) (by decide) (by decide) k))))) ?_
            refine Run.out X18 hx Bd.notSynchronized Bd.returns rfl (Or.inl ⟨rfl, by simp, _, rfl⟩) (hb hby at_428) (by decide) (by decide) ?_
            rw [e18]
            exact ⟨rfl, N18⟩
        by_cases hc281_19 : (FLeft (0 : Int32) dd k1 dn k1) < (FCnt k1 (1 : Int32) k1 k2 k3)
        · refine Run.st (S' := T12.setTop (mkF m 291 #[.val (.int p0), .val (.int p1), .val (.int p2), .val (.int p3), .val (.int (0 : Int32)), .val (.int dd), .val (.int (1 : Int32)), .val (.int qq), .val (.int (10 : Int32)), .val (.int k1), .val (.int k2), .val (.int k3), .val (.ref b2), .val (.int dn), .val (.ref b9), .val (.int (0 : Int32)), .unset, .unset, .unset, .unset] [])) (fun _ k => XS.icmpYes X12.here hx rfl (pc0 := 281) (pc' := 288) rfl (hb hby at_281) rfl (tlt hc281_19).2.2.1 (by decide) (by decide) (XS.iconst X12.here hx rfl (hb hby at_288) (XS.istore X12.here hx rfl (hb hby at_289) rfl (l' := #[.val (.int p0), .val (.int p1), .val (.int p2), .val (.int p3), .val (.int (0 : Int32)), .val (.int dd), .val (.int (1 : Int32)), .val (.int qq), .val (.int (10 : Int32)), .val (.int k1), .val (.int k2), .val (.int k3), .val (.ref b2), .val (.int dn), .val (.ref b9), .val (.int (0 : Int32)), .unset, .unset, .unset, .unset]) rfl k))) ?_
          exact J291_13 (0 : Int32) (if_pos hc281_19).symm
        · refine Run.st (S' := T12.setTop (mkF m 291 #[.val (.int p0), .val (.int p1), .val (.int p2), .val (.int p3), .val (.int (0 : Int32)), .val (.int dd), .val (.int (1 : Int32)), .val (.int qq), .val (.int (10 : Int32)), .val (.int k1), .val (.int k2), .val (.int k3), .val (.ref b2), .val (.int dn), .val (.ref b9), .val (.int (1 : Int32)), .unset, .unset, .unset, .unset] [])) (fun _ k => XS.icmpNo X12.here hx rfl (hb hby at_281) rfl (flt hc281_19).2.2.1 (XS.iconst X12.here hx rfl (hb hby at_284) (XS.goto X12.here hx rfl (pc0 := 285) (pc' := 289) rfl (hb hby at_285) (by decide) (by decide) (XS.istore X12.here hx rfl (hb hby at_289) rfl (l' := #[.val (.int p0), .val (.int p1), .val (.int p2), .val (.int p3), .val (.int (0 : Int32)), .val (.int dd), .val (.int (1 : Int32)), .val (.int qq), .val (.int (10 : Int32)), .val (.int k1), .val (.int k2), .val (.int k3), .val (.ref b2), .val (.int dn), .val (.ref b9), .val (.int (1 : Int32)), .unset, .unset, .unset, .unset]) rfl k)))) ?_
          exact J291_13 (1 : Int32) (if_neg hc281_19).symm
      · refine Run.st (S' := Tl5.setTop (mkF m 211 #[.val (.int p0), .val (.int p1), .val (.int p2), .val (.int p3), .val (.int (0 : Int32)), .val (.int dd), .val (.int (2 : Int32)), .val (.int qq), .val (.int (10 : Int32)), .val (.int k1), .val (.int k2), .val (.int k3), .val (.ref b2), .val (.int dn), .unset, .unset, .unset, .unset, .unset, .unset] [])) (fun _ k => XS.iload Xl5.here hx rfl (hb hby at_173) rfl (XS.ifYes Xl5.here hx rfl (pc0 := 175) (pc' := 186) rfl (hb hby at_175) rfl ((if0 _ _).trans (feq (show ¬ ((2 : Int32) = (0 : Int32)) from (by decide))).2) (by decide) (by decide) (XS.iload Xl5.here hx rfl (hb hby at_186) rfl (XS.iconst Xl5.here hx rfl (hb hby at_188) (XS.icmpYes Xl5.here hx rfl (pc0 := 189) (pc' := 205) rfl (hb hby at_189) rfl (feq (show ¬ ((2 : Int32) = (1 : Int32)) from (by decide))).2 (by decide) (by decide) (XS.iload Xl5.here hx rfl (hb hby at_205) rfl (XS.iconst Xl5.here hx rfl (hb hby at_207) (XS.icmpNo Xl5.here hx rfl (hb hby at_208) rfl (teq (show (2 : Int32) = (2 : Int32) from (by decide))).2 k)))))))) ?_
        refine Run.st (S' := Tl5.setTop (mkF m 212 #[.val (.int p0), .val (.int p1), .val (.int p2), .val (.int p3), .val (.int (0 : Int32)), .val (.int dd), .val (.int (2 : Int32)), .val (.int qq), .val (.int (10 : Int32)), .val (.int k1), .val (.int k2), .val (.int k3), .val (.ref b2), .val (.int dn), .unset, .unset, .unset, .unset, .unset, .unset] [(.int (2 : Int32))])) (fun _ k => XS.iconst Xl5.here hx rfl (hb hby at_211) k) ?_
        obtain ⟨T20, h20, k20, X20, e20, E20, A20, st20⟩ := newP Xl5 hx hZ (hwi hw 13 rfl) El5 (g := (mkF m 212 #[.val (.int p0), .val (.int p1), .val (.int p2), .val (.int p3), .val (.int (0 : Int32)), .val (.int dd), .val (.int (2 : Int32)), .val (.int qq), .val (.int (10 : Int32)), .val (.int k1), .val (.int k2), .val (.int k3), .val (.ref b2), .val (.int dn), .unset, .unset, .unset, .unset, .unset, .unset] [(.int (2 : Int32))])) rfl (hb hby at_212) rfl (by decide) (cap := 2) (by decide) (by decide) (by decide) (by decide)
        obtain ⟨b20, g20⟩ : ∃ z, z = Hl5.size := ⟨_, rfl⟩
        rw [← g20] at A20 st20
        have ne_b2_b20 : b2 ≠ b20 := Nat.ne_of_lt (Nat.lt_of_lt_of_le E_b2.lt (Nat.le_of_eq g20.symm))
        have ne_b4_2_b20 : b4_2 ≠ b20 := Nat.ne_of_lt (Nat.lt_of_lt_of_le V_b4_2.lt (Nat.le_of_eq g20.symm))
        have E_b2 := E_b2.ext E20
        have F_left_b2 := F_left_b2.ext E20
        have F_dealt_b2 := F_dealt_b2.ext E20
        have V_b4_2 := V_b4_2.ext E20
        have OL := OL.ext E20
        have g_b20 : n0 ≤ b20 := Nat.le_trans Zn (Nat.le_of_eq g20.symm)
        have Zn := Nat.le_trans Zn E20.1
        have sz_b20 : h0.size ≤ b20 := Nat.le_trans Kp.1 (Nat.le_of_eq g20.symm)
        have Kp := Kp.ext E20
        have V_b20 : Arv Z h20 b20 k20 .int (2 : Int32) [(.int (0 : Int32)), (.int (0 : Int32))] (.int (0 : Int32)) := (Arv.new A20 (by decide)).pad (pad_rep [] (.int (0 : Int32)) 2)
        refine Run.st (S' := T20.setTop (mkF m 218 #[.val (.int p0), .val (.int p1), .val (.int p2), .val (.int p3), .val (.int (0 : Int32)), .val (.int dd), .val (.int (2 : Int32)), .val (.int qq), .val (.int (10 : Int32)), .val (.int k1), .val (.int k2), .val (.int k3), .val (.ref b2), .val (.int dn), .unset, .unset, .unset, .unset, .unset, .unset] [(.int k1), (.int (0 : Int32)), (.ref b20), (.ref b20)])) (fun _ k => st20 _ (XS.dup X20.here hx rfl (hb hby at_214) rfl rfl (XS.iconst X20.here hx rfl (hb hby at_215) (XS.iload X20.here hx rfl (hb hby at_216) rfl k)))) ?_
        obtain ⟨cl21, Ar21, qa21, Sa21, Na21, Ha21, Ga21⟩ := V_b20
        have hin21 : ¬ ((0 : Int32) < 0 ∨ cl21.slots.size ≤ ((0 : Int32)).toNatClampNeg) := inb_of Sa21 ⟨by decide, by decide⟩
        obtain ⟨T21, h21, X21, e21, W21, st21⟩ := stI X20 hx hZ e20 Ar21 (j := (0 : Int32)) hin21 (g := (mkF m 218 #[.val (.int p0), .val (.int p1), .val (.int p2), .val (.int p3), .val (.int (0 : Int32)), .val (.int dd), .val (.int (2 : Int32)), .val (.int qq), .val (.int (10 : Int32)), .val (.int k1), .val (.int k2), .val (.int k3), .val (.ref b2), .val (.int dn), .unset, .unset, .unset, .unset, .unset, .unset] [(.int k1), (.int (0 : Int32)), (.ref b20), (.ref b20)])) rfl rfl (hb hby at_218)
        have V_b20 := Arv.set Ar21 qa21 Sa21 Na21 Ha21 Ga21 rfl W21 0 rfl (Nat.le_of_ble_eq_true rfl)
        have V_b20 : Arv Z h21 b20 k20 .int (2 : Int32) [(.int k1), (.int (0 : Int32))] (.int (0 : Int32)) := V_b20
        have OL := OL.wr W21 g_b20
        have E_b2 := E_b2.wr W21
        have F_left_b2 := F_left_b2.other W21 (Or.inl ne_b2_b20)
        have F_dealt_b2 := F_dealt_b2.other W21 (Or.inl ne_b2_b20)
        have V_b4_2 := V_b4_2.other W21 ne_b4_2_b20
        have N21 := Fr.snoc X21 Nl5 g_b20
        have Kp := Kp.wr W21 (Or.inr sz_b20)
        have Zn := Nat.le_trans Zn (Nat.le_of_eq W21.size.symm)
        refine Run.st (S' := T21.setTop (mkF m 223 #[.val (.int p0), .val (.int p1), .val (.int p2), .val (.int p3), .val (.int (0 : Int32)), .val (.int dd), .val (.int (2 : Int32)), .val (.int qq), .val (.int (10 : Int32)), .val (.int k1), .val (.int k2), .val (.int k3), .val (.ref b2), .val (.int dn), .unset, .unset, .unset, .unset, .unset, .unset] [(.int k2), (.int (1 : Int32)), (.ref b20), (.ref b20)])) (fun _ k => st21 _ (XS.dup X21.here hx rfl (hb hby at_219) rfl rfl (XS.iconst X21.here hx rfl (hb hby at_220) (XS.iload X21.here hx rfl (hb hby at_221) rfl k)))) ?_
        obtain ⟨cl22, Ar22, qa22, Sa22, Na22, Ha22, Ga22⟩ := V_b20
        have hin22 : ¬ ((1 : Int32) < 0 ∨ cl22.slots.size ≤ ((1 : Int32)).toNatClampNeg) := inb_of Sa22 ⟨by decide, by decide⟩
        obtain ⟨T22, h22, X22, e22, W22, st22⟩ := stI X21 hx hZ e21 Ar22 (j := (1 : Int32)) hin22 (g := (mkF m 223 #[.val (.int p0), .val (.int p1), .val (.int p2), .val (.int p3), .val (.int (0 : Int32)), .val (.int dd), .val (.int (2 : Int32)), .val (.int qq), .val (.int (10 : Int32)), .val (.int k1), .val (.int k2), .val (.int k3), .val (.ref b2), .val (.int dn), .unset, .unset, .unset, .unset, .unset, .unset] [(.int k2), (.int (1 : Int32)), (.ref b20), (.ref b20)])) rfl rfl (hb hby at_223)
        have V_b20 := Arv.set Ar22 qa22 Sa22 Na22 Ha22 Ga22 rfl W22 1 rfl (Nat.le_of_ble_eq_true rfl)
        have V_b20 : Arv Z h22 b20 k20 .int (2 : Int32) [(.int k1), (.int k2)] (.int (0 : Int32)) := V_b20
        have OL := OL.wr W22 g_b20
        have E_b2 := E_b2.wr W22
        have F_left_b2 := F_left_b2.other W22 (Or.inl ne_b2_b20)
        have F_dealt_b2 := F_dealt_b2.other W22 (Or.inl ne_b2_b20)
        have V_b4_2 := V_b4_2.other W22 ne_b4_2_b20
        have N22 := Fr.snoc X22 N21 g_b20
        have Kp := Kp.wr W22 (Or.inr sz_b20)
        have Zn := Nat.le_trans Zn (Nat.le_of_eq W22.size.symm)
        refine Run.st (S' := T22.setTop (mkF m 249 #[.val (.int p0), .val (.int p1), .val (.int p2), .val (.int p3), .val (.int (0 : Int32)), .val (.int dd), .val (.int (2 : Int32)), .val (.int qq), .val (.int (10 : Int32)), .val (.int k1), .val (.int k2), .val (.int k3), .val (.ref b2), .val (.int dn), .val (.ref b20), .unset, .unset, .unset, .unset, .unset] [])) (fun _ k => st22 _ (XS.astore X22.here hx rfl (hb hby at_224) rfl rfl (l' := #[.val (.int p0), .val (.int p1), .val (.int p2), .val (.int p3), .val (.int (0 : Int32)), .val (.int dd), .val (.int (2 : Int32)), .val (.int qq), .val (.int (10 : Int32)), .val (.int k1), .val (.int k2), .val (.int k3), .val (.ref b2), .val (.int dn), .val (.ref b20), .unset, .unset, .unset, .unset, .unset]) rfl (XS.goto X22.here hx rfl (pc0 := 226) (pc' := 249) rfl (hb hby at_226) (by decide) (by decide) k))) ?_
        have V_b20 : Arv Z h22 b20 k20 .int (2 : Int32) ([k1, k2].map Value.int) (.int (0 : Int32)) := V_b20
        refine Run.st (S' := T22.setTop (mkF m 265 #[.val (.int p0), .val (.int p1), .val (.int p2), .val (.int p3), .val (.int (0 : Int32)), .val (.int dd), .val (.int (2 : Int32)), .val (.int qq), .val (.int (10 : Int32)), .val (.int k1), .val (.int k2), .val (.int k3), .val (.ref b2), .val (.int dn), .val (.ref b20), .unset, .unset, .unset, .unset, .unset] [(.int k3), (.int k2), (.int k1), (.int (2 : Int32)), (.int k1)])) (fun _ k => XS.iload X22.here hx rfl (hb hby at_249) rfl (XS.iconst X22.here hx rfl (hb hby at_251) (XS.icmpNo X22.here hx rfl (hb hby at_252) rfl (flt (show ¬ ((2 : Int32) < (1 : Int32)) from (by decide))).1 (XS.iload X22.here hx rfl (hb hby at_255) rfl (XS.iload X22.here hx rfl (hb hby at_257) rfl (XS.iload X22.here hx rfl (hb hby at_259) rfl (XS.iload X22.here hx rfl (hb hby at_261) rfl (XS.iload X22.here hx rfl (hb hby at_263) rfl k)))))))) ?_
        obtain ⟨_, _, ⟨T23, L23, k23, n23⟩, -, X23, ⟨Lc23, hQ23, l23, y23, z23⟩, st23⟩ := Jvm.LawKit.callS X22 hx (y := (⟨"com/example/sidewager/sidewager/analysis/ShoeHoldsPinLaw", "cnt", "(IIIII)I"⟩ : MethodName)) hown (mvT hZ (hwi hw 103 rfl)) (mvT hZ (hwi hw 104 rfl)) (mvT hZ (hwi hw 88 rfl)) (mvT hZ (hwi hw 105 rfl)) (by decide) (backOf (W := 0) (rmCnt l Z aV hw [] k1 (2 : Int32) k1 k2 k3 h22 n0 Zn ) hZ (hwi hw 105 rfl) (hwi hw 88 rfl) (by decide) (by decide)) (g := (mkF m 265 #[.val (.int p0), .val (.int p1), .val (.int p2), .val (.int p3), .val (.int (0 : Int32)), .val (.int dd), .val (.int (2 : Int32)), .val (.int qq), .val (.int (10 : Int32)), .val (.int k1), .val (.int k2), .val (.int k3), .val (.ref b2), .val (.int dn), .val (.ref b20), .unset, .unset, .unset, .unset, .unset] [(.int k3), (.int k2), (.int k1), (.int (2 : Int32)), (.int k1)])) rfl (by rw [hml]; rfl) (argsL := [(.int k1), (.int (2 : Int32)), (.int k1), (.int k2), (.int k3)]) (rest := []) (lenOf pd_9 rfl) rfl (by show 2 * 0 + _ ≤ _; exact Nat.le_of_eq rfl) (hb hby at_265) (fun _ _ => ⟨rfl, e22, (by decide : 8 + 0 ≤ _), (by decide : 59 + 0 ≤ _)⟩)
        dsimp only [Pt.U, Pt.locs, Pt.cells, Pt.slots] at X23 l23 y23 z23 st23 hQ23
        replace l23 := l23.symm; replace y23 := y23.symm; replace z23 := z23.symm; subst l23 y23 z23
        obtain ⟨rfl, N23q, e23⟩ := hQ23
        have N23 := Fr.app N22 N23q
        refine Run.st (S' := T23.setTop (mkF m 278 #[.val (.int p0), .val (.int p1), .val (.int p2), .val (.int p3), .val (.int (0 : Int32)), .val (.int dd), .val (.int (2 : Int32)), .val (.int qq), .val (.int (10 : Int32)), .val (.int k1), .val (.int k2), .val (.int k3), .val (.ref b2), .val (.int dn), .val (.ref b20), .unset, .unset, .unset, .unset, .unset] [(.int k1), (.int dn), (.int k1), (.int dd), (.int (0 : Int32)), (.int (FCnt k1 (2 : Int32) k1 k2 k3))])) (fun _ k => st23 _ (XS.iload X23.here hx rfl (hb hby at_268) rfl (XS.iload X23.here hx rfl (hb hby at_270) rfl (XS.iload X23.here hx rfl (hb hby at_272) rfl (XS.iload X23.here hx rfl (hb hby at_274) rfl (XS.iload X23.here hx rfl (hb hby at_276) rfl k)))))) ?_
        obtain ⟨_, _, ⟨T24, L24, k24, n24⟩, -, X24, ⟨Lc24, hQ24, l24, y24, z24⟩, st24⟩ := Jvm.LawKit.callS X23 hx (y := (⟨"com/example/sidewager/sidewager/analysis/ShoeHoldsPinLaw", "left", "(ZIIII)I"⟩ : MethodName)) hown (mvT hZ (hwi hw 106 rfl)) (mvT hZ (hwi hw 107 rfl)) (mvT hZ (hwi hw 88 rfl)) (mvT hZ (hwi hw 108 rfl)) (by decide) (backOf (W := 1) (rmLeft l Z aV hw [] (0 : Int32) dd k1 dn k1 h22 n0 Zn ) hZ (hwi hw 108 rfl) (hwi hw 88 rfl) (by decide) (by decide)) (g := (mkF m 278 #[.val (.int p0), .val (.int p1), .val (.int p2), .val (.int p3), .val (.int (0 : Int32)), .val (.int dd), .val (.int (2 : Int32)), .val (.int qq), .val (.int (10 : Int32)), .val (.int k1), .val (.int k2), .val (.int k3), .val (.ref b2), .val (.int dn), .val (.ref b20), .unset, .unset, .unset, .unset, .unset] [(.int k1), (.int dn), (.int k1), (.int dd), (.int (0 : Int32)), (.int (FCnt k1 (2 : Int32) k1 k2 k3))])) rfl (by rw [hml]; rfl) (argsL := [(.int (0 : Int32)), (.int dd), (.int k1), (.int dn), (.int k1)]) (rest := [(.int (FCnt k1 (2 : Int32) k1 k2 k3))]) (lenOf pd_10 rfl) rfl (by show 2 * 0 + _ ≤ _; exact Nat.le_of_eq rfl) (hb hby at_278) (fun _ _ => ⟨rfl, e23, (by decide : 8 + 0 ≤ _), (by decide : 59 + 0 ≤ _)⟩)
        dsimp only [Pt.U, Pt.locs, Pt.cells, Pt.slots] at X24 l24 y24 z24 st24 hQ24
        replace l24 := l24.symm; replace y24 := y24.symm; replace z24 := z24.symm; subst l24 y24 z24
        obtain ⟨rfl, N24q, e24⟩ := hQ24
        have N24 := Fr.app N23 N24q
        refine Run.st (S' := T24.setTop (mkF m 281 #[.val (.int p0), .val (.int p1), .val (.int p2), .val (.int p3), .val (.int (0 : Int32)), .val (.int dd), .val (.int (2 : Int32)), .val (.int qq), .val (.int (10 : Int32)), .val (.int k1), .val (.int k2), .val (.int k3), .val (.ref b2), .val (.int dn), .val (.ref b20), .unset, .unset, .unset, .unset, .unset] [(.int (FLeft (0 : Int32) dd k1 dn k1)), (.int (FCnt k1 (2 : Int32) k1 k2 k3))])) (fun _ k => st24 _ k) ?_
        have J291_25 : ∀ (x15 : Int32), x15 = (if (FLeft (0 : Int32) dd k1 dn k1) < (FCnt k1 (2 : Int32) k1 k2 k3) then (0 : Int32) else (1 : Int32)) → Run p e below (Ends s (Q0 Z p0 p1 p2 p3 u s_MAT s_VALS kV vsR s_ONE h0 n0) room_1.cells room_1.slots) (T24.setTop (mkF m 291 #[.val (.int p0), .val (.int p1), .val (.int p2), .val (.int p3), .val (.int (0 : Int32)), .val (.int dd), .val (.int (2 : Int32)), .val (.int qq), .val (.int (10 : Int32)), .val (.int k1), .val (.int k2), .val (.int k3), .val (.ref b2), .val (.int dn), .val (.ref b20), .val (.int x15), .unset, .unset, .unset, .unset] [])) := by
          intro x15 h_x15
          refine Run.st (S' := T24.setTop (mkF m 307 #[.val (.int p0), .val (.int p1), .val (.int p2), .val (.int p3), .val (.int (0 : Int32)), .val (.int dd), .val (.int (2 : Int32)), .val (.int qq), .val (.int (10 : Int32)), .val (.int k1), .val (.int k2), .val (.int k3), .val (.ref b2), .val (.int dn), .val (.ref b20), .val (.int x15), .unset, .unset, .unset, .unset] [(.int k3), (.int k2), (.int k1), (.int (2 : Int32)), (.int k2)])) (fun _ k => XS.iload X24.here hx rfl (hb hby at_291) rfl (XS.iconst X24.here hx rfl (hb hby at_293) (XS.icmpNo X24.here hx rfl (hb hby at_294) rfl (flt (show ¬ ((2 : Int32) < (2 : Int32)) from (by decide))).1 (XS.iload X24.here hx rfl (hb hby at_297) rfl (XS.iload X24.here hx rfl (hb hby at_299) rfl (XS.iload X24.here hx rfl (hb hby at_301) rfl (XS.iload X24.here hx rfl (hb hby at_303) rfl (XS.iload X24.here hx rfl (hb hby at_305) rfl k)))))))) ?_
          obtain ⟨_, _, ⟨T26, L26, k26, n26⟩, -, X26, ⟨Lc26, hQ26, l26, y26, z26⟩, st26⟩ := Jvm.LawKit.callS X24 hx (y := (⟨"com/example/sidewager/sidewager/analysis/ShoeHoldsPinLaw", "cnt", "(IIIII)I"⟩ : MethodName)) hown (mvT hZ (hwi hw 103 rfl)) (mvT hZ (hwi hw 104 rfl)) (mvT hZ (hwi hw 88 rfl)) (mvT hZ (hwi hw 105 rfl)) (by decide) (backOf (W := 0) (rmCnt l Z aV hw [] k2 (2 : Int32) k1 k2 k3 h22 n0 Zn ) hZ (hwi hw 105 rfl) (hwi hw 88 rfl) (by decide) (by decide)) (g := (mkF m 307 #[.val (.int p0), .val (.int p1), .val (.int p2), .val (.int p3), .val (.int (0 : Int32)), .val (.int dd), .val (.int (2 : Int32)), .val (.int qq), .val (.int (10 : Int32)), .val (.int k1), .val (.int k2), .val (.int k3), .val (.ref b2), .val (.int dn), .val (.ref b20), .val (.int x15), .unset, .unset, .unset, .unset] [(.int k3), (.int k2), (.int k1), (.int (2 : Int32)), (.int k2)])) rfl (by rw [hml]; rfl) (argsL := [(.int k2), (.int (2 : Int32)), (.int k1), (.int k2), (.int k3)]) (rest := []) (lenOf pd_9 rfl) rfl (by show 2 * 0 + _ ≤ _; exact Nat.le_of_eq rfl) (hb hby at_307) (fun _ _ => ⟨rfl, e24, (by decide : 8 + 0 ≤ _), (by decide : 59 + 0 ≤ _)⟩)
          dsimp only [Pt.U, Pt.locs, Pt.cells, Pt.slots] at X26 l26 y26 z26 st26 hQ26
          replace l26 := l26.symm; replace y26 := y26.symm; replace z26 := z26.symm; subst l26 y26 z26
          obtain ⟨rfl, N26q, e26⟩ := hQ26
          have N26 := Fr.app N24 N26q
          refine Run.st (S' := T26.setTop (mkF m 320 #[.val (.int p0), .val (.int p1), .val (.int p2), .val (.int p3), .val (.int (0 : Int32)), .val (.int dd), .val (.int (2 : Int32)), .val (.int qq), .val (.int (10 : Int32)), .val (.int k1), .val (.int k2), .val (.int k3), .val (.ref b2), .val (.int dn), .val (.ref b20), .val (.int x15), .unset, .unset, .unset, .unset] [(.int k2), (.int dn), (.int k1), (.int dd), (.int (0 : Int32)), (.int (FCnt k2 (2 : Int32) k1 k2 k3))])) (fun _ k => st26 _ (XS.iload X26.here hx rfl (hb hby at_310) rfl (XS.iload X26.here hx rfl (hb hby at_312) rfl (XS.iload X26.here hx rfl (hb hby at_314) rfl (XS.iload X26.here hx rfl (hb hby at_316) rfl (XS.iload X26.here hx rfl (hb hby at_318) rfl k)))))) ?_
          obtain ⟨_, _, ⟨T27, L27, k27, n27⟩, -, X27, ⟨Lc27, hQ27, l27, y27, z27⟩, st27⟩ := Jvm.LawKit.callS X26 hx (y := (⟨"com/example/sidewager/sidewager/analysis/ShoeHoldsPinLaw", "left", "(ZIIII)I"⟩ : MethodName)) hown (mvT hZ (hwi hw 106 rfl)) (mvT hZ (hwi hw 107 rfl)) (mvT hZ (hwi hw 88 rfl)) (mvT hZ (hwi hw 108 rfl)) (by decide) (backOf (W := 1) (rmLeft l Z aV hw [] (0 : Int32) dd k1 dn k2 h22 n0 Zn ) hZ (hwi hw 108 rfl) (hwi hw 88 rfl) (by decide) (by decide)) (g := (mkF m 320 #[.val (.int p0), .val (.int p1), .val (.int p2), .val (.int p3), .val (.int (0 : Int32)), .val (.int dd), .val (.int (2 : Int32)), .val (.int qq), .val (.int (10 : Int32)), .val (.int k1), .val (.int k2), .val (.int k3), .val (.ref b2), .val (.int dn), .val (.ref b20), .val (.int x15), .unset, .unset, .unset, .unset] [(.int k2), (.int dn), (.int k1), (.int dd), (.int (0 : Int32)), (.int (FCnt k2 (2 : Int32) k1 k2 k3))])) rfl (by rw [hml]; rfl) (argsL := [(.int (0 : Int32)), (.int dd), (.int k1), (.int dn), (.int k2)]) (rest := [(.int (FCnt k2 (2 : Int32) k1 k2 k3))]) (lenOf pd_10 rfl) rfl (by show 2 * 0 + _ ≤ _; exact Nat.le_of_eq rfl) (hb hby at_320) (fun _ _ => ⟨rfl, e26, (by decide : 8 + 0 ≤ _), (by decide : 59 + 0 ≤ _)⟩)
          dsimp only [Pt.U, Pt.locs, Pt.cells, Pt.slots] at X27 l27 y27 z27 st27 hQ27
          replace l27 := l27.symm; replace y27 := y27.symm; replace z27 := z27.symm; subst l27 y27 z27
          obtain ⟨rfl, N27q, e27⟩ := hQ27
          have N27 := Fr.app N26 N27q
          refine Run.st (S' := T27.setTop (mkF m 323 #[.val (.int p0), .val (.int p1), .val (.int p2), .val (.int p3), .val (.int (0 : Int32)), .val (.int dd), .val (.int (2 : Int32)), .val (.int qq), .val (.int (10 : Int32)), .val (.int k1), .val (.int k2), .val (.int k3), .val (.ref b2), .val (.int dn), .val (.ref b20), .val (.int x15), .unset, .unset, .unset, .unset] [(.int (FLeft (0 : Int32) dd k1 dn k2)), (.int (FCnt k2 (2 : Int32) k1 k2 k3))])) (fun _ k => st27 _ k) ?_
          have J333_28 : ∀ (x16 : Int32), x16 = (if (FLeft (0 : Int32) dd k1 dn k2) < (FCnt k2 (2 : Int32) k1 k2 k3) then (0 : Int32) else (1 : Int32)) → Run p e below (Ends s (Q0 Z p0 p1 p2 p3 u s_MAT s_VALS kV vsR s_ONE h0 n0) room_1.cells room_1.slots) (T27.setTop (mkF m 333 #[.val (.int p0), .val (.int p1), .val (.int p2), .val (.int p3), .val (.int (0 : Int32)), .val (.int dd), .val (.int (2 : Int32)), .val (.int qq), .val (.int (10 : Int32)), .val (.int k1), .val (.int k2), .val (.int k3), .val (.ref b2), .val (.int dn), .val (.ref b20), .val (.int x15), .val (.int x16), .unset, .unset, .unset] [])) := by
            intro x16 h_x16
            refine Run.st (S' := T27.setTop (mkF m 377 #[.val (.int p0), .val (.int p1), .val (.int p2), .val (.int p3), .val (.int (0 : Int32)), .val (.int dd), .val (.int (2 : Int32)), .val (.int qq), .val (.int (10 : Int32)), .val (.int k1), .val (.int k2), .val (.int k3), .val (.ref b2), .val (.int dn), .val (.ref b20), .val (.int x15), .val (.int x16), .val (.int (1 : Int32)), .unset, .unset] [(.int x15)])) (fun _ k => XS.iload X27.here hx rfl (hb hby at_333) rfl (XS.iconst X27.here hx rfl (hb hby at_335) (XS.icmpYes X27.here hx rfl (pc0 := 336) (pc' := 368) rfl (hb hby at_336) rfl (tlt (show (2 : Int32) < (3 : Int32) from (by decide))).1 (by decide) (by decide) (XS.iconst X27.here hx rfl (hb hby at_368) (XS.goto X27.here hx rfl (pc0 := 369) (pc' := 373) rfl (hb hby at_369) (by decide) (by decide) (XS.istore X27.here hx rfl (hb hby at_373) rfl (l' := #[.val (.int p0), .val (.int p1), .val (.int p2), .val (.int p3), .val (.int (0 : Int32)), .val (.int dd), .val (.int (2 : Int32)), .val (.int qq), .val (.int (10 : Int32)), .val (.int k1), .val (.int k2), .val (.int k3), .val (.ref b2), .val (.int dn), .val (.ref b20), .val (.int x15), .val (.int x16), .val (.int (1 : Int32)), .unset, .unset]) rfl (XS.iload X27.here hx rfl (hb hby at_375) rfl k))))))) ?_
            by_cases hc377_29 : x15 = (0 : Int32)
            · refine Run.st (S' := T27.setTop (mkF m 401 #[.val (.int p0), .val (.int p1), .val (.int p2), .val (.int p3), .val (.int (0 : Int32)), .val (.int dd), .val (.int (2 : Int32)), .val (.int qq), .val (.int (10 : Int32)), .val (.int k1), .val (.int k2), .val (.int k3), .val (.ref b2), .val (.int dn), .val (.ref b20), .val (.int x15), .val (.int x16), .val (.int (1 : Int32)), .val (.int (0 : Int32)), .unset] [(.ref b20), (.ref b2)])) (fun _ k => XS.ifYes X27.here hx rfl (pc0 := 377) (pc' := 394) rfl (hb hby at_377) rfl ((if0 _ _).trans (teq hc377_29).1) (by decide) (by decide) (XS.iconst X27.here hx rfl (hb hby at_394) (XS.istore X27.here hx rfl (hb hby at_395) rfl (l' := #[.val (.int p0), .val (.int p1), .val (.int p2), .val (.int p3), .val (.int (0 : Int32)), .val (.int dd), .val (.int (2 : Int32)), .val (.int qq), .val (.int (10 : Int32)), .val (.int k1), .val (.int k2), .val (.int k3), .val (.ref b2), .val (.int dn), .val (.ref b20), .val (.int x15), .val (.int x16), .val (.int (1 : Int32)), .val (.int (0 : Int32)), .unset]) rfl (XS.aload X27.here hx rfl (hb hby at_397) rfl rfl (XS.aload X27.here hx rfl (hb hby at_399) rfl rfl k))))) ?_
              obtain ⟨cq30, kq30, q30a, q30b, q30c⟩ := isOf hZ e27 E_b2
              obtain ⟨_, _, ⟨T30, L30, k30, n30⟩, -, X30, ⟨Lc30, hQ30, l30, y30, z30⟩, st30⟩ := X27.virtualBack hx (y := (⟨"com/example/sidewager/sidewager/analysis/Shoe", "holds", "([I)Z"⟩ : MethodName)) (z := (⟨"com/example/sidewager/sidewager/analysis/Shoe", "holds", "([I)Z"⟩ : MethodName)) hown (mvT hZ (hwi hw 91 rfl)) (mvT hZ (hwi hw 92 rfl)) (notFace_of_selects (args := #[]) (mvT hZ (hwi hw 94 rfl))) (mvT hZ (hwi hw 94 rfl)) (mvT hZ (hwi hw 93 rfl)) (by decide) (backOf (W := 0) (rmHoI l Z aV hw [] b2 b20 b4_2 kb4_2 lf k20 ([k1, k2]) (2 : Int32) h22 n0 Zn (by decide) (by decide) (own_hks2 hk1 hk2) F_left_b2 V_b4_2 V_b20) hZ (hwi hw 95 rfl) (hwi hw 3 rfl) (by decide) (by decide)) q30a q30c (g := (mkF m 401 #[.val (.int p0), .val (.int p1), .val (.int p2), .val (.int p3), .val (.int (0 : Int32)), .val (.int dd), .val (.int (2 : Int32)), .val (.int qq), .val (.int (10 : Int32)), .val (.int k1), .val (.int k2), .val (.int k3), .val (.ref b2), .val (.int dn), .val (.ref b20), .val (.int x15), .val (.int x16), .val (.int (1 : Int32)), .val (.int (0 : Int32)), .unset] [(.ref b20), (.ref b2)])) rfl (by rw [hml]; rfl) (Steps.refl _) (argsL := [(.ref b20)]) (rest := []) (lenOf pd_8 rfl) rfl (by show 2 * 0 + _ ≤ _; exact Nat.le_of_eq rfl) (hb hby at_401) (fun _ _ => ⟨rfl, e27, (by decide : 8 + 1 ≤ _), (by decide : 59 + 10 ≤ _)⟩)
              dsimp only [Pt.U, Pt.locs, Pt.cells, Pt.slots] at X30 l30 y30 z30 st30 hQ30
              replace l30 := l30.symm; replace y30 := y30.symm; replace z30 := z30.symm; subst l30 y30 z30
              obtain ⟨rfl, N30q, K30⟩ := hQ30
              have OL := OL.keep K30 all0
              have E_b2 := E_b2.keep K30
              have F_left_b2 := F_left_b2.keep K30 nin0
              have F_dealt_b2 := F_dealt_b2.keep K30 nin0
              have V_b4_2 := V_b4_2.keep K30 nin0
              have V_b20 := V_b20.keep K30 nin0
              have Kp := Kp.trans K30 all0
              have Zn := Nat.le_trans Zn K30.1
              have N30 := Fr.app N27 N30q
              refine Run.st (S' := T30.setTop (mkF m 415 #[.val (.int p0), .val (.int p1), .val (.int p2), .val (.int p3), .val (.int (0 : Int32)), .val (.int dd), .val (.int (2 : Int32)), .val (.int qq), .val (.int (10 : Int32)), .val (.int k1), .val (.int k2), .val (.int k3), .val (.ref b2), .val (.int dn), .val (.ref b20), .val (.int x15), .val (.int x16), .val (.int (1 : Int32)), .val (.int (0 : Int32)), .val (.int (own_H [k1, k2] (2 : Int32) 10 lf))] [(.ref b2)])) (fun _ k => st30.trans (XS.istore X30.here hx rfl (hb hby at_404) rfl (l' := #[.val (.int p0), .val (.int p1), .val (.int p2), .val (.int p3), .val (.int (0 : Int32)), .val (.int dd), .val (.int (2 : Int32)), .val (.int qq), .val (.int (10 : Int32)), .val (.int k1), .val (.int k2), .val (.int k3), .val (.ref b2), .val (.int dn), .val (.ref b20), .val (.int x15), .val (.int x16), .val (.int (1 : Int32)), .val (.int (0 : Int32)), .val (.int (own_H [k1, k2] (2 : Int32) 10 lf))]) rfl (XS.iload X30.here hx rfl (hb hby at_406) rfl (XS.iload X30.here hx rfl (hb hby at_408) rfl (XS.icmpNo X30.here hx rfl (hb hby at_410) rfl (teq (show (own_H [k1, k2] (2 : Int32) 10 lf) = (0 : Int32) from (own_E2 (k2 := k2) (k3 := k3) (N := 10) (by decide) hk1 hk2 hyJ).trans (if_pos (Or.inl (own_x0 h_x15 hc377_29))))).2 (XS.aload X30.here hx rfl (hb hby at_413) rfl rfl k)))))) ?_
              obtain ⟨cq31, kq31, q31a, q31b, q31c⟩ := isOf hZ rfl E_b2
              obtain ⟨_, _, ⟨T31, L31, k31, n31⟩, -, X31, ⟨Lc31, hQ31, l31, y31, z31⟩, st31⟩ := X30.virtualBack hx (y := (⟨"com/example/sidewager/sidewager/analysis/Shoe", "dealt", "()I"⟩ : MethodName)) (z := (⟨"com/example/sidewager/sidewager/analysis/Shoe", "dealt", "()I"⟩ : MethodName)) hown (mvT hZ (hwi hw 96 rfl)) (mvT hZ (hwi hw 97 rfl)) (notFace_of_selects (args := #[]) (mvT hZ (hwi hw 99 rfl))) (mvT hZ (hwi hw 99 rfl)) (mvT hZ (hwi hw 98 rfl)) (by decide) (backOf (W := 0) (rmDt l Z aV hw [] b2 dn T30.heap n0 Zn F_dealt_b2) hZ (hwi hw 100 rfl) (hwi hw 3 rfl) (by decide) (by decide)) q31a q31c (g := (mkF m 415 #[.val (.int p0), .val (.int p1), .val (.int p2), .val (.int p3), .val (.int (0 : Int32)), .val (.int dd), .val (.int (2 : Int32)), .val (.int qq), .val (.int (10 : Int32)), .val (.int k1), .val (.int k2), .val (.int k3), .val (.ref b2), .val (.int dn), .val (.ref b20), .val (.int x15), .val (.int x16), .val (.int (1 : Int32)), .val (.int (0 : Int32)), .val (.int (own_H [k1, k2] (2 : Int32) 10 lf))] [(.ref b2)])) rfl (by rw [hml]; rfl) (Steps.refl _) (argsL := []) (rest := []) (lenOf pd_1 rfl) rfl (by show 2 * 0 + _ ≤ _; exact Nat.le_of_eq rfl) (hb hby at_415) (fun _ _ => ⟨rfl, rfl, (by decide : 9 + 0 ≤ _), (by decide : 69 + 0 ≤ _)⟩)
              dsimp only [Pt.U, Pt.locs, Pt.cells, Pt.slots] at X31 l31 y31 z31 st31 hQ31
              replace l31 := l31.symm; replace y31 := y31.symm; replace z31 := z31.symm; subst l31 y31 z31
              obtain ⟨rfl, N31q, e31⟩ := hQ31
              have N31 := Fr.app N30 N31q
              refine Run.st (S' := T31.setTop (mkF m 428 #[.val (.int p0), .val (.int p1), .val (.int p2), .val (.int p3), .val (.int (0 : Int32)), .val (.int dd), .val (.int (2 : Int32)), .val (.int qq), .val (.int (10 : Int32)), .val (.int k1), .val (.int k2), .val (.int k3), .val (.ref b2), .val (.int dn), .val (.ref b20), .val (.int x15), .val (.int x16), .val (.int (1 : Int32)), .val (.int (0 : Int32)), .val (.int (own_H [k1, k2] (2 : Int32) 10 lf))] [(.int (1 : Int32))])) (fun _ k => st31.trans (XS.iload X31.here hx rfl (hb hby at_418) rfl (XS.icmpNo X31.here hx rfl (hb hby at_420) rfl (teq (show dn = dn from rfl)).2 (XS.iconst X31.here hx rfl (hb hby at_423) (XS.goto X31.here hx rfl (pc0 := 424) (pc' := 428) rfl (hb hby at_424) (by decide) (by decide) k))))) ?_
              refine Run.out X31 hx Bd.notSynchronized Bd.returns rfl (Or.inl ⟨rfl, by simp, _, rfl⟩) (hb hby at_428) (by decide) (by decide) ?_
              rw [e31]
              exact ⟨rfl, N31⟩
            · refine Run.st (S' := T27.setTop (mkF m 382 #[.val (.int p0), .val (.int p1), .val (.int p2), .val (.int p3), .val (.int (0 : Int32)), .val (.int dd), .val (.int (2 : Int32)), .val (.int qq), .val (.int (10 : Int32)), .val (.int k1), .val (.int k2), .val (.int k3), .val (.ref b2), .val (.int dn), .val (.ref b20), .val (.int x15), .val (.int x16), .val (.int (1 : Int32)), .unset, .unset] [(.int x16)])) (fun _ k => XS.ifNo X27.here hx rfl (hb hby at_377) rfl ((if0 _ _).trans (feq hc377_29).1) (XS.iload X27.here hx rfl (hb hby at_380) rfl k)) ?_
              by_cases hc382_32 : x16 = (0 : Int32)
              · refine Run.st (S' := T27.setTop (mkF m 401 #[.val (.int p0), .val (.int p1), .val (.int p2), .val (.int p3), .val (.int (0 : Int32)), .val (.int dd), .val (.int (2 : Int32)), .val (.int qq), .val (.int (10 : Int32)), .val (.int k1), .val (.int k2), .val (.int k3), .val (.ref b2), .val (.int dn), .val (.ref b20), .val (.int x15), .val (.int x16), .val (.int (1 : Int32)), .val (.int (0 : Int32)), .unset] [(.ref b20), (.ref b2)])) (fun _ k => XS.ifYes X27.here hx rfl (pc0 := 382) (pc' := 394) rfl (hb hby at_382) rfl ((if0 _ _).trans (teq hc382_32).1) (by decide) (by decide) (XS.iconst X27.here hx rfl (hb hby at_394) (XS.istore X27.here hx rfl (hb hby at_395) rfl (l' := #[.val (.int p0), .val (.int p1), .val (.int p2), .val (.int p3), .val (.int (0 : Int32)), .val (.int dd), .val (.int (2 : Int32)), .val (.int qq), .val (.int (10 : Int32)), .val (.int k1), .val (.int k2), .val (.int k3), .val (.ref b2), .val (.int dn), .val (.ref b20), .val (.int x15), .val (.int x16), .val (.int (1 : Int32)), .val (.int (0 : Int32)), .unset]) rfl (XS.aload X27.here hx rfl (hb hby at_397) rfl rfl (XS.aload X27.here hx rfl (hb hby at_399) rfl rfl k))))) ?_
                obtain ⟨cq33, kq33, q33a, q33b, q33c⟩ := isOf hZ e27 E_b2
                obtain ⟨_, _, ⟨T33, L33, k33, n33⟩, -, X33, ⟨Lc33, hQ33, l33, y33, z33⟩, st33⟩ := X27.virtualBack hx (y := (⟨"com/example/sidewager/sidewager/analysis/Shoe", "holds", "([I)Z"⟩ : MethodName)) (z := (⟨"com/example/sidewager/sidewager/analysis/Shoe", "holds", "([I)Z"⟩ : MethodName)) hown (mvT hZ (hwi hw 91 rfl)) (mvT hZ (hwi hw 92 rfl)) (notFace_of_selects (args := #[]) (mvT hZ (hwi hw 94 rfl))) (mvT hZ (hwi hw 94 rfl)) (mvT hZ (hwi hw 93 rfl)) (by decide) (backOf (W := 0) (rmHoI l Z aV hw [] b2 b20 b4_2 kb4_2 lf k20 ([k1, k2]) (2 : Int32) h22 n0 Zn (by decide) (by decide) (own_hks2 hk1 hk2) F_left_b2 V_b4_2 V_b20) hZ (hwi hw 95 rfl) (hwi hw 3 rfl) (by decide) (by decide)) q33a q33c (g := (mkF m 401 #[.val (.int p0), .val (.int p1), .val (.int p2), .val (.int p3), .val (.int (0 : Int32)), .val (.int dd), .val (.int (2 : Int32)), .val (.int qq), .val (.int (10 : Int32)), .val (.int k1), .val (.int k2), .val (.int k3), .val (.ref b2), .val (.int dn), .val (.ref b20), .val (.int x15), .val (.int x16), .val (.int (1 : Int32)), .val (.int (0 : Int32)), .unset] [(.ref b20), (.ref b2)])) rfl (by rw [hml]; rfl) (Steps.refl _) (argsL := [(.ref b20)]) (rest := []) (lenOf pd_8 rfl) rfl (by show 2 * 0 + _ ≤ _; exact Nat.le_of_eq rfl) (hb hby at_401) (fun _ _ => ⟨rfl, e27, (by decide : 8 + 1 ≤ _), (by decide : 59 + 10 ≤ _)⟩)
                dsimp only [Pt.U, Pt.locs, Pt.cells, Pt.slots] at X33 l33 y33 z33 st33 hQ33
                replace l33 := l33.symm; replace y33 := y33.symm; replace z33 := z33.symm; subst l33 y33 z33
                obtain ⟨rfl, N33q, K33⟩ := hQ33
                have OL := OL.keep K33 all0
                have E_b2 := E_b2.keep K33
                have F_left_b2 := F_left_b2.keep K33 nin0
                have F_dealt_b2 := F_dealt_b2.keep K33 nin0
                have V_b4_2 := V_b4_2.keep K33 nin0
                have V_b20 := V_b20.keep K33 nin0
                have Kp := Kp.trans K33 all0
                have Zn := Nat.le_trans Zn K33.1
                have N33 := Fr.app N27 N33q
                refine Run.st (S' := T33.setTop (mkF m 415 #[.val (.int p0), .val (.int p1), .val (.int p2), .val (.int p3), .val (.int (0 : Int32)), .val (.int dd), .val (.int (2 : Int32)), .val (.int qq), .val (.int (10 : Int32)), .val (.int k1), .val (.int k2), .val (.int k3), .val (.ref b2), .val (.int dn), .val (.ref b20), .val (.int x15), .val (.int x16), .val (.int (1 : Int32)), .val (.int (0 : Int32)), .val (.int (own_H [k1, k2] (2 : Int32) 10 lf))] [(.ref b2)])) (fun _ k => st33.trans (XS.istore X33.here hx rfl (hb hby at_404) rfl (l' := #[.val (.int p0), .val (.int p1), .val (.int p2), .val (.int p3), .val (.int (0 : Int32)), .val (.int dd), .val (.int (2 : Int32)), .val (.int qq), .val (.int (10 : Int32)), .val (.int k1), .val (.int k2), .val (.int k3), .val (.ref b2), .val (.int dn), .val (.ref b20), .val (.int x15), .val (.int x16), .val (.int (1 : Int32)), .val (.int (0 : Int32)), .val (.int (own_H [k1, k2] (2 : Int32) 10 lf))]) rfl (XS.iload X33.here hx rfl (hb hby at_406) rfl (XS.iload X33.here hx rfl (hb hby at_408) rfl (XS.icmpNo X33.here hx rfl (hb hby at_410) rfl (teq (show (own_H [k1, k2] (2 : Int32) 10 lf) = (0 : Int32) from (own_E2 (k2 := k2) (k3 := k3) (N := 10) (by decide) hk1 hk2 hyJ).trans (if_pos (Or.inr (own_x0 h_x16 hc382_32))))).2 (XS.aload X33.here hx rfl (hb hby at_413) rfl rfl k)))))) ?_
                obtain ⟨cq34, kq34, q34a, q34b, q34c⟩ := isOf hZ rfl E_b2
                obtain ⟨_, _, ⟨T34, L34, k34, n34⟩, -, X34, ⟨Lc34, hQ34, l34, y34, z34⟩, st34⟩ := X33.virtualBack hx (y := (⟨"com/example/sidewager/sidewager/analysis/Shoe", "dealt", "()I"⟩ : MethodName)) (z := (⟨"com/example/sidewager/sidewager/analysis/Shoe", "dealt", "()I"⟩ : MethodName)) hown (mvT hZ (hwi hw 96 rfl)) (mvT hZ (hwi hw 97 rfl)) (notFace_of_selects (args := #[]) (mvT hZ (hwi hw 99 rfl))) (mvT hZ (hwi hw 99 rfl)) (mvT hZ (hwi hw 98 rfl)) (by decide) (backOf (W := 0) (rmDt l Z aV hw [] b2 dn T33.heap n0 Zn F_dealt_b2) hZ (hwi hw 100 rfl) (hwi hw 3 rfl) (by decide) (by decide)) q34a q34c (g := (mkF m 415 #[.val (.int p0), .val (.int p1), .val (.int p2), .val (.int p3), .val (.int (0 : Int32)), .val (.int dd), .val (.int (2 : Int32)), .val (.int qq), .val (.int (10 : Int32)), .val (.int k1), .val (.int k2), .val (.int k3), .val (.ref b2), .val (.int dn), .val (.ref b20), .val (.int x15), .val (.int x16), .val (.int (1 : Int32)), .val (.int (0 : Int32)), .val (.int (own_H [k1, k2] (2 : Int32) 10 lf))] [(.ref b2)])) rfl (by rw [hml]; rfl) (Steps.refl _) (argsL := []) (rest := []) (lenOf pd_1 rfl) rfl (by show 2 * 0 + _ ≤ _; exact Nat.le_of_eq rfl) (hb hby at_415) (fun _ _ => ⟨rfl, rfl, (by decide : 9 + 0 ≤ _), (by decide : 69 + 0 ≤ _)⟩)
                dsimp only [Pt.U, Pt.locs, Pt.cells, Pt.slots] at X34 l34 y34 z34 st34 hQ34
                replace l34 := l34.symm; replace y34 := y34.symm; replace z34 := z34.symm; subst l34 y34 z34
                obtain ⟨rfl, N34q, e34⟩ := hQ34
                have N34 := Fr.app N33 N34q
                refine Run.st (S' := T34.setTop (mkF m 428 #[.val (.int p0), .val (.int p1), .val (.int p2), .val (.int p3), .val (.int (0 : Int32)), .val (.int dd), .val (.int (2 : Int32)), .val (.int qq), .val (.int (10 : Int32)), .val (.int k1), .val (.int k2), .val (.int k3), .val (.ref b2), .val (.int dn), .val (.ref b20), .val (.int x15), .val (.int x16), .val (.int (1 : Int32)), .val (.int (0 : Int32)), .val (.int (own_H [k1, k2] (2 : Int32) 10 lf))] [(.int (1 : Int32))])) (fun _ k => st34.trans (XS.iload X34.here hx rfl (hb hby at_418) rfl (XS.icmpNo X34.here hx rfl (hb hby at_420) rfl (teq (show dn = dn from rfl)).2 (XS.iconst X34.here hx rfl (hb hby at_423) (XS.goto X34.here hx rfl (pc0 := 424) (pc' := 428) rfl (hb hby at_424) (by decide) (by decide) k))))) ?_
                refine Run.out X34 hx Bd.notSynchronized Bd.returns rfl (Or.inl ⟨rfl, by simp, _, rfl⟩) (hb hby at_428) (by decide) (by decide) ?_
                rw [e34]
                exact ⟨rfl, N34⟩
              · refine Run.st (S' := T27.setTop (mkF m 401 #[.val (.int p0), .val (.int p1), .val (.int p2), .val (.int p3), .val (.int (0 : Int32)), .val (.int dd), .val (.int (2 : Int32)), .val (.int qq), .val (.int (10 : Int32)), .val (.int k1), .val (.int k2), .val (.int k3), .val (.ref b2), .val (.int dn), .val (.ref b20), .val (.int x15), .val (.int x16), .val (.int (1 : Int32)), .val (.int (1 : Int32)), .unset] [(.ref b20), (.ref b2)])) (fun _ k => XS.ifNo X27.here hx rfl (hb hby at_382) rfl ((if0 _ _).trans (feq hc382_32).1) (XS.iload X27.here hx rfl (hb hby at_385) rfl (XS.ifNo X27.here hx rfl (hb hby at_387) rfl ((if0 _ _).trans (feq (show ¬ ((1 : Int32) = (0 : Int32)) from (by decide))).1) (XS.iconst X27.here hx rfl (hb hby at_390) (XS.goto X27.here hx rfl (pc0 := 391) (pc' := 395) rfl (hb hby at_391) (by decide) (by decide) (XS.istore X27.here hx rfl (hb hby at_395) rfl (l' := #[.val (.int p0), .val (.int p1), .val (.int p2), .val (.int p3), .val (.int (0 : Int32)), .val (.int dd), .val (.int (2 : Int32)), .val (.int qq), .val (.int (10 : Int32)), .val (.int k1), .val (.int k2), .val (.int k3), .val (.ref b2), .val (.int dn), .val (.ref b20), .val (.int x15), .val (.int x16), .val (.int (1 : Int32)), .val (.int (1 : Int32)), .unset]) rfl (XS.aload X27.here hx rfl (hb hby at_397) rfl rfl (XS.aload X27.here hx rfl (hb hby at_399) rfl rfl k)))))))) ?_
                obtain ⟨cq35, kq35, q35a, q35b, q35c⟩ := isOf hZ e27 E_b2
                obtain ⟨_, _, ⟨T35, L35, k35, n35⟩, -, X35, ⟨Lc35, hQ35, l35, y35, z35⟩, st35⟩ := X27.virtualBack hx (y := (⟨"com/example/sidewager/sidewager/analysis/Shoe", "holds", "([I)Z"⟩ : MethodName)) (z := (⟨"com/example/sidewager/sidewager/analysis/Shoe", "holds", "([I)Z"⟩ : MethodName)) hown (mvT hZ (hwi hw 91 rfl)) (mvT hZ (hwi hw 92 rfl)) (notFace_of_selects (args := #[]) (mvT hZ (hwi hw 94 rfl))) (mvT hZ (hwi hw 94 rfl)) (mvT hZ (hwi hw 93 rfl)) (by decide) (backOf (W := 0) (rmHoI l Z aV hw [] b2 b20 b4_2 kb4_2 lf k20 ([k1, k2]) (2 : Int32) h22 n0 Zn (by decide) (by decide) (own_hks2 hk1 hk2) F_left_b2 V_b4_2 V_b20) hZ (hwi hw 95 rfl) (hwi hw 3 rfl) (by decide) (by decide)) q35a q35c (g := (mkF m 401 #[.val (.int p0), .val (.int p1), .val (.int p2), .val (.int p3), .val (.int (0 : Int32)), .val (.int dd), .val (.int (2 : Int32)), .val (.int qq), .val (.int (10 : Int32)), .val (.int k1), .val (.int k2), .val (.int k3), .val (.ref b2), .val (.int dn), .val (.ref b20), .val (.int x15), .val (.int x16), .val (.int (1 : Int32)), .val (.int (1 : Int32)), .unset] [(.ref b20), (.ref b2)])) rfl (by rw [hml]; rfl) (Steps.refl _) (argsL := [(.ref b20)]) (rest := []) (lenOf pd_8 rfl) rfl (by show 2 * 0 + _ ≤ _; exact Nat.le_of_eq rfl) (hb hby at_401) (fun _ _ => ⟨rfl, e27, (by decide : 8 + 1 ≤ _), (by decide : 59 + 10 ≤ _)⟩)
                dsimp only [Pt.U, Pt.locs, Pt.cells, Pt.slots] at X35 l35 y35 z35 st35 hQ35
                replace l35 := l35.symm; replace y35 := y35.symm; replace z35 := z35.symm; subst l35 y35 z35
                obtain ⟨rfl, N35q, K35⟩ := hQ35
                have OL := OL.keep K35 all0
                have E_b2 := E_b2.keep K35
                have F_left_b2 := F_left_b2.keep K35 nin0
                have F_dealt_b2 := F_dealt_b2.keep K35 nin0
                have V_b4_2 := V_b4_2.keep K35 nin0
                have V_b20 := V_b20.keep K35 nin0
                have Kp := Kp.trans K35 all0
                have Zn := Nat.le_trans Zn K35.1
                have N35 := Fr.app N27 N35q
                refine Run.st (S' := T35.setTop (mkF m 415 #[.val (.int p0), .val (.int p1), .val (.int p2), .val (.int p3), .val (.int (0 : Int32)), .val (.int dd), .val (.int (2 : Int32)), .val (.int qq), .val (.int (10 : Int32)), .val (.int k1), .val (.int k2), .val (.int k3), .val (.ref b2), .val (.int dn), .val (.ref b20), .val (.int x15), .val (.int x16), .val (.int (1 : Int32)), .val (.int (1 : Int32)), .val (.int (own_H [k1, k2] (2 : Int32) 10 lf))] [(.ref b2)])) (fun _ k => st35.trans (XS.istore X35.here hx rfl (hb hby at_404) rfl (l' := #[.val (.int p0), .val (.int p1), .val (.int p2), .val (.int p3), .val (.int (0 : Int32)), .val (.int dd), .val (.int (2 : Int32)), .val (.int qq), .val (.int (10 : Int32)), .val (.int k1), .val (.int k2), .val (.int k3), .val (.ref b2), .val (.int dn), .val (.ref b20), .val (.int x15), .val (.int x16), .val (.int (1 : Int32)), .val (.int (1 : Int32)), .val (.int (own_H [k1, k2] (2 : Int32) 10 lf))]) rfl (XS.iload X35.here hx rfl (hb hby at_406) rfl (XS.iload X35.here hx rfl (hb hby at_408) rfl (XS.icmpNo X35.here hx rfl (hb hby at_410) rfl (teq (show (own_H [k1, k2] (2 : Int32) 10 lf) = (1 : Int32) from (own_E2 (k2 := k2) (k3 := k3) (N := 10) (by decide) hk1 hk2 hyJ).trans (if_neg (fun z => z.elim (own_x1 h_x15 hc377_29) (own_x1 h_x16 hc382_32))))).2 (XS.aload X35.here hx rfl (hb hby at_413) rfl rfl k)))))) ?_
                obtain ⟨cq36, kq36, q36a, q36b, q36c⟩ := isOf hZ rfl E_b2
                obtain ⟨_, _, ⟨T36, L36, k36, n36⟩, -, X36, ⟨Lc36, hQ36, l36, y36, z36⟩, st36⟩ := X35.virtualBack hx (y := (⟨"com/example/sidewager/sidewager/analysis/Shoe", "dealt", "()I"⟩ : MethodName)) (z := (⟨"com/example/sidewager/sidewager/analysis/Shoe", "dealt", "()I"⟩ : MethodName)) hown (mvT hZ (hwi hw 96 rfl)) (mvT hZ (hwi hw 97 rfl)) (notFace_of_selects (args := #[]) (mvT hZ (hwi hw 99 rfl))) (mvT hZ (hwi hw 99 rfl)) (mvT hZ (hwi hw 98 rfl)) (by decide) (backOf (W := 0) (rmDt l Z aV hw [] b2 dn T35.heap n0 Zn F_dealt_b2) hZ (hwi hw 100 rfl) (hwi hw 3 rfl) (by decide) (by decide)) q36a q36c (g := (mkF m 415 #[.val (.int p0), .val (.int p1), .val (.int p2), .val (.int p3), .val (.int (0 : Int32)), .val (.int dd), .val (.int (2 : Int32)), .val (.int qq), .val (.int (10 : Int32)), .val (.int k1), .val (.int k2), .val (.int k3), .val (.ref b2), .val (.int dn), .val (.ref b20), .val (.int x15), .val (.int x16), .val (.int (1 : Int32)), .val (.int (1 : Int32)), .val (.int (own_H [k1, k2] (2 : Int32) 10 lf))] [(.ref b2)])) rfl (by rw [hml]; rfl) (Steps.refl _) (argsL := []) (rest := []) (lenOf pd_1 rfl) rfl (by show 2 * 0 + _ ≤ _; exact Nat.le_of_eq rfl) (hb hby at_415) (fun _ _ => ⟨rfl, rfl, (by decide : 9 + 0 ≤ _), (by decide : 69 + 0 ≤ _)⟩)
                dsimp only [Pt.U, Pt.locs, Pt.cells, Pt.slots] at X36 l36 y36 z36 st36 hQ36
                replace l36 := l36.symm; replace y36 := y36.symm; replace z36 := z36.symm; subst l36 y36 z36
                obtain ⟨rfl, N36q, e36⟩ := hQ36
                have N36 := Fr.app N35 N36q
                refine Run.st (S' := T36.setTop (mkF m 428 #[.val (.int p0), .val (.int p1), .val (.int p2), .val (.int p3), .val (.int (0 : Int32)), .val (.int dd), .val (.int (2 : Int32)), .val (.int qq), .val (.int (10 : Int32)), .val (.int k1), .val (.int k2), .val (.int k3), .val (.ref b2), .val (.int dn), .val (.ref b20), .val (.int x15), .val (.int x16), .val (.int (1 : Int32)), .val (.int (1 : Int32)), .val (.int (own_H [k1, k2] (2 : Int32) 10 lf))] [(.int (1 : Int32))])) (fun _ k => st36.trans (XS.iload X36.here hx rfl (hb hby at_418) rfl (XS.icmpNo X36.here hx rfl (hb hby at_420) rfl (teq (show dn = dn from rfl)).2 (XS.iconst X36.here hx rfl (hb hby at_423) (XS.goto X36.here hx rfl (pc0 := 424) (pc' := 428) rfl (hb hby at_424) (by decide) (by decide) k))))) ?_
                refine Run.out X36 hx Bd.notSynchronized Bd.returns rfl (Or.inl ⟨rfl, by simp, _, rfl⟩) (hb hby at_428) (by decide) (by decide) ?_
                rw [e36]
                exact ⟨rfl, N36⟩
          by_cases hc323_37 : (FLeft (0 : Int32) dd k1 dn k2) < (FCnt k2 (2 : Int32) k1 k2 k3)
          · refine Run.st (S' := T27.setTop (mkF m 333 #[.val (.int p0), .val (.int p1), .val (.int p2), .val (.int p3), .val (.int (0 : Int32)), .val (.int dd), .val (.int (2 : Int32)), .val (.int qq), .val (.int (10 : Int32)), .val (.int k1), .val (.int k2), .val (.int k3), .val (.ref b2), .val (.int dn), .val (.ref b20), .val (.int x15), .val (.int (0 : Int32)), .unset, .unset, .unset] [])) (fun _ k => XS.icmpYes X27.here hx rfl (pc0 := 323) (pc' := 330) rfl (hb hby at_323) rfl (tlt hc323_37).2.2.1 (by decide) (by decide) (XS.iconst X27.here hx rfl (hb hby at_330) (XS.istore X27.here hx rfl (hb hby at_331) rfl (l' := #[.val (.int p0), .val (.int p1), .val (.int p2), .val (.int p3), .val (.int (0 : Int32)), .val (.int dd), .val (.int (2 : Int32)), .val (.int qq), .val (.int (10 : Int32)), .val (.int k1), .val (.int k2), .val (.int k3), .val (.ref b2), .val (.int dn), .val (.ref b20), .val (.int x15), .val (.int (0 : Int32)), .unset, .unset, .unset]) rfl k))) ?_
            exact J333_28 (0 : Int32) (if_pos hc323_37).symm
          · refine Run.st (S' := T27.setTop (mkF m 333 #[.val (.int p0), .val (.int p1), .val (.int p2), .val (.int p3), .val (.int (0 : Int32)), .val (.int dd), .val (.int (2 : Int32)), .val (.int qq), .val (.int (10 : Int32)), .val (.int k1), .val (.int k2), .val (.int k3), .val (.ref b2), .val (.int dn), .val (.ref b20), .val (.int x15), .val (.int (1 : Int32)), .unset, .unset, .unset] [])) (fun _ k => XS.icmpNo X27.here hx rfl (hb hby at_323) rfl (flt hc323_37).2.2.1 (XS.iconst X27.here hx rfl (hb hby at_326) (XS.goto X27.here hx rfl (pc0 := 327) (pc' := 331) rfl (hb hby at_327) (by decide) (by decide) (XS.istore X27.here hx rfl (hb hby at_331) rfl (l' := #[.val (.int p0), .val (.int p1), .val (.int p2), .val (.int p3), .val (.int (0 : Int32)), .val (.int dd), .val (.int (2 : Int32)), .val (.int qq), .val (.int (10 : Int32)), .val (.int k1), .val (.int k2), .val (.int k3), .val (.ref b2), .val (.int dn), .val (.ref b20), .val (.int x15), .val (.int (1 : Int32)), .unset, .unset, .unset]) rfl k)))) ?_
            exact J333_28 (1 : Int32) (if_neg hc323_37).symm
        by_cases hc281_38 : (FLeft (0 : Int32) dd k1 dn k1) < (FCnt k1 (2 : Int32) k1 k2 k3)
        · refine Run.st (S' := T24.setTop (mkF m 291 #[.val (.int p0), .val (.int p1), .val (.int p2), .val (.int p3), .val (.int (0 : Int32)), .val (.int dd), .val (.int (2 : Int32)), .val (.int qq), .val (.int (10 : Int32)), .val (.int k1), .val (.int k2), .val (.int k3), .val (.ref b2), .val (.int dn), .val (.ref b20), .val (.int (0 : Int32)), .unset, .unset, .unset, .unset] [])) (fun _ k => XS.icmpYes X24.here hx rfl (pc0 := 281) (pc' := 288) rfl (hb hby at_281) rfl (tlt hc281_38).2.2.1 (by decide) (by decide) (XS.iconst X24.here hx rfl (hb hby at_288) (XS.istore X24.here hx rfl (hb hby at_289) rfl (l' := #[.val (.int p0), .val (.int p1), .val (.int p2), .val (.int p3), .val (.int (0 : Int32)), .val (.int dd), .val (.int (2 : Int32)), .val (.int qq), .val (.int (10 : Int32)), .val (.int k1), .val (.int k2), .val (.int k3), .val (.ref b2), .val (.int dn), .val (.ref b20), .val (.int (0 : Int32)), .unset, .unset, .unset, .unset]) rfl k))) ?_
          exact J291_25 (0 : Int32) (if_pos hc281_38).symm
        · refine Run.st (S' := T24.setTop (mkF m 291 #[.val (.int p0), .val (.int p1), .val (.int p2), .val (.int p3), .val (.int (0 : Int32)), .val (.int dd), .val (.int (2 : Int32)), .val (.int qq), .val (.int (10 : Int32)), .val (.int k1), .val (.int k2), .val (.int k3), .val (.ref b2), .val (.int dn), .val (.ref b20), .val (.int (1 : Int32)), .unset, .unset, .unset, .unset] [])) (fun _ k => XS.icmpNo X24.here hx rfl (hb hby at_281) rfl (flt hc281_38).2.2.1 (XS.iconst X24.here hx rfl (hb hby at_284) (XS.goto X24.here hx rfl (pc0 := 285) (pc' := 289) rfl (hb hby at_285) (by decide) (by decide) (XS.istore X24.here hx rfl (hb hby at_289) rfl (l' := #[.val (.int p0), .val (.int p1), .val (.int p2), .val (.int p3), .val (.int (0 : Int32)), .val (.int dd), .val (.int (2 : Int32)), .val (.int qq), .val (.int (10 : Int32)), .val (.int k1), .val (.int k2), .val (.int k3), .val (.ref b2), .val (.int dn), .val (.ref b20), .val (.int (1 : Int32)), .unset, .unset, .unset, .unset]) rfl k)))) ?_
          exact J291_25 (1 : Int32) (if_neg hc281_38).symm
      · refine Run.st (S' := Tl5.setTop (mkF m 229 #[.val (.int p0), .val (.int p1), .val (.int p2), .val (.int p3), .val (.int (0 : Int32)), .val (.int dd), .val (.int (3 : Int32)), .val (.int qq), .val (.int (10 : Int32)), .val (.int k1), .val (.int k2), .val (.int k3), .val (.ref b2), .val (.int dn), .unset, .unset, .unset, .unset, .unset, .unset] [])) (fun _ k => XS.iload Xl5.here hx rfl (hb hby at_173) rfl (XS.ifYes Xl5.here hx rfl (pc0 := 175) (pc' := 186) rfl (hb hby at_175) rfl ((if0 _ _).trans (feq (show ¬ ((3 : Int32) = (0 : Int32)) from (by decide))).2) (by decide) (by decide) (XS.iload Xl5.here hx rfl (hb hby at_186) rfl (XS.iconst Xl5.here hx rfl (hb hby at_188) (XS.icmpYes Xl5.here hx rfl (pc0 := 189) (pc' := 205) rfl (hb hby at_189) rfl (feq (show ¬ ((3 : Int32) = (1 : Int32)) from (by decide))).2 (by decide) (by decide) (XS.iload Xl5.here hx rfl (hb hby at_205) rfl (XS.iconst Xl5.here hx rfl (hb hby at_207) (XS.icmpYes Xl5.here hx rfl (pc0 := 208) (pc' := 229) rfl (hb hby at_208) rfl (feq (show ¬ ((3 : Int32) = (2 : Int32)) from (by decide))).2 (by decide) (by decide) k)))))))) ?_
        refine Run.st (S' := Tl5.setTop (mkF m 230 #[.val (.int p0), .val (.int p1), .val (.int p2), .val (.int p3), .val (.int (0 : Int32)), .val (.int dd), .val (.int (3 : Int32)), .val (.int qq), .val (.int (10 : Int32)), .val (.int k1), .val (.int k2), .val (.int k3), .val (.ref b2), .val (.int dn), .unset, .unset, .unset, .unset, .unset, .unset] [(.int (3 : Int32))])) (fun _ k => XS.iconst Xl5.here hx rfl (hb hby at_229) k) ?_
        obtain ⟨T39, h39, k39, X39, e39, E39, A39, st39⟩ := newP Xl5 hx hZ (hwi hw 13 rfl) El5 (g := (mkF m 230 #[.val (.int p0), .val (.int p1), .val (.int p2), .val (.int p3), .val (.int (0 : Int32)), .val (.int dd), .val (.int (3 : Int32)), .val (.int qq), .val (.int (10 : Int32)), .val (.int k1), .val (.int k2), .val (.int k3), .val (.ref b2), .val (.int dn), .unset, .unset, .unset, .unset, .unset, .unset] [(.int (3 : Int32))])) rfl (hb hby at_230) rfl (by decide) (cap := 3) (by decide) (by decide) (by decide) (by decide)
        obtain ⟨b39, g39⟩ : ∃ z, z = Hl5.size := ⟨_, rfl⟩
        rw [← g39] at A39 st39
        have ne_b2_b39 : b2 ≠ b39 := Nat.ne_of_lt (Nat.lt_of_lt_of_le E_b2.lt (Nat.le_of_eq g39.symm))
        have ne_b4_2_b39 : b4_2 ≠ b39 := Nat.ne_of_lt (Nat.lt_of_lt_of_le V_b4_2.lt (Nat.le_of_eq g39.symm))
        have E_b2 := E_b2.ext E39
        have F_left_b2 := F_left_b2.ext E39
        have F_dealt_b2 := F_dealt_b2.ext E39
        have V_b4_2 := V_b4_2.ext E39
        have OL := OL.ext E39
        have g_b39 : n0 ≤ b39 := Nat.le_trans Zn (Nat.le_of_eq g39.symm)
        have Zn := Nat.le_trans Zn E39.1
        have sz_b39 : h0.size ≤ b39 := Nat.le_trans Kp.1 (Nat.le_of_eq g39.symm)
        have Kp := Kp.ext E39
        have V_b39 : Arv Z h39 b39 k39 .int (3 : Int32) [(.int (0 : Int32)), (.int (0 : Int32)), (.int (0 : Int32))] (.int (0 : Int32)) := (Arv.new A39 (by decide)).pad (pad_rep [] (.int (0 : Int32)) 3)
        refine Run.st (S' := T39.setTop (mkF m 236 #[.val (.int p0), .val (.int p1), .val (.int p2), .val (.int p3), .val (.int (0 : Int32)), .val (.int dd), .val (.int (3 : Int32)), .val (.int qq), .val (.int (10 : Int32)), .val (.int k1), .val (.int k2), .val (.int k3), .val (.ref b2), .val (.int dn), .unset, .unset, .unset, .unset, .unset, .unset] [(.int k1), (.int (0 : Int32)), (.ref b39), (.ref b39)])) (fun _ k => st39 _ (XS.dup X39.here hx rfl (hb hby at_232) rfl rfl (XS.iconst X39.here hx rfl (hb hby at_233) (XS.iload X39.here hx rfl (hb hby at_234) rfl k)))) ?_
        obtain ⟨cl40, Ar40, qa40, Sa40, Na40, Ha40, Ga40⟩ := V_b39
        have hin40 : ¬ ((0 : Int32) < 0 ∨ cl40.slots.size ≤ ((0 : Int32)).toNatClampNeg) := inb_of Sa40 ⟨by decide, by decide⟩
        obtain ⟨T40, h40, X40, e40, W40, st40⟩ := stI X39 hx hZ e39 Ar40 (j := (0 : Int32)) hin40 (g := (mkF m 236 #[.val (.int p0), .val (.int p1), .val (.int p2), .val (.int p3), .val (.int (0 : Int32)), .val (.int dd), .val (.int (3 : Int32)), .val (.int qq), .val (.int (10 : Int32)), .val (.int k1), .val (.int k2), .val (.int k3), .val (.ref b2), .val (.int dn), .unset, .unset, .unset, .unset, .unset, .unset] [(.int k1), (.int (0 : Int32)), (.ref b39), (.ref b39)])) rfl rfl (hb hby at_236)
        have V_b39 := Arv.set Ar40 qa40 Sa40 Na40 Ha40 Ga40 rfl W40 0 rfl (Nat.le_of_ble_eq_true rfl)
        have V_b39 : Arv Z h40 b39 k39 .int (3 : Int32) [(.int k1), (.int (0 : Int32)), (.int (0 : Int32))] (.int (0 : Int32)) := V_b39
        have OL := OL.wr W40 g_b39
        have E_b2 := E_b2.wr W40
        have F_left_b2 := F_left_b2.other W40 (Or.inl ne_b2_b39)
        have F_dealt_b2 := F_dealt_b2.other W40 (Or.inl ne_b2_b39)
        have V_b4_2 := V_b4_2.other W40 ne_b4_2_b39
        have N40 := Fr.snoc X40 Nl5 g_b39
        have Kp := Kp.wr W40 (Or.inr sz_b39)
        have Zn := Nat.le_trans Zn (Nat.le_of_eq W40.size.symm)
        refine Run.st (S' := T40.setTop (mkF m 241 #[.val (.int p0), .val (.int p1), .val (.int p2), .val (.int p3), .val (.int (0 : Int32)), .val (.int dd), .val (.int (3 : Int32)), .val (.int qq), .val (.int (10 : Int32)), .val (.int k1), .val (.int k2), .val (.int k3), .val (.ref b2), .val (.int dn), .unset, .unset, .unset, .unset, .unset, .unset] [(.int k2), (.int (1 : Int32)), (.ref b39), (.ref b39)])) (fun _ k => st40 _ (XS.dup X40.here hx rfl (hb hby at_237) rfl rfl (XS.iconst X40.here hx rfl (hb hby at_238) (XS.iload X40.here hx rfl (hb hby at_239) rfl k)))) ?_
        obtain ⟨cl41, Ar41, qa41, Sa41, Na41, Ha41, Ga41⟩ := V_b39
        have hin41 : ¬ ((1 : Int32) < 0 ∨ cl41.slots.size ≤ ((1 : Int32)).toNatClampNeg) := inb_of Sa41 ⟨by decide, by decide⟩
        obtain ⟨T41, h41, X41, e41, W41, st41⟩ := stI X40 hx hZ e40 Ar41 (j := (1 : Int32)) hin41 (g := (mkF m 241 #[.val (.int p0), .val (.int p1), .val (.int p2), .val (.int p3), .val (.int (0 : Int32)), .val (.int dd), .val (.int (3 : Int32)), .val (.int qq), .val (.int (10 : Int32)), .val (.int k1), .val (.int k2), .val (.int k3), .val (.ref b2), .val (.int dn), .unset, .unset, .unset, .unset, .unset, .unset] [(.int k2), (.int (1 : Int32)), (.ref b39), (.ref b39)])) rfl rfl (hb hby at_241)
        have V_b39 := Arv.set Ar41 qa41 Sa41 Na41 Ha41 Ga41 rfl W41 1 rfl (Nat.le_of_ble_eq_true rfl)
        have V_b39 : Arv Z h41 b39 k39 .int (3 : Int32) [(.int k1), (.int k2), (.int (0 : Int32))] (.int (0 : Int32)) := V_b39
        have OL := OL.wr W41 g_b39
        have E_b2 := E_b2.wr W41
        have F_left_b2 := F_left_b2.other W41 (Or.inl ne_b2_b39)
        have F_dealt_b2 := F_dealt_b2.other W41 (Or.inl ne_b2_b39)
        have V_b4_2 := V_b4_2.other W41 ne_b4_2_b39
        have N41 := Fr.snoc X41 N40 g_b39
        have Kp := Kp.wr W41 (Or.inr sz_b39)
        have Zn := Nat.le_trans Zn (Nat.le_of_eq W41.size.symm)
        refine Run.st (S' := T41.setTop (mkF m 246 #[.val (.int p0), .val (.int p1), .val (.int p2), .val (.int p3), .val (.int (0 : Int32)), .val (.int dd), .val (.int (3 : Int32)), .val (.int qq), .val (.int (10 : Int32)), .val (.int k1), .val (.int k2), .val (.int k3), .val (.ref b2), .val (.int dn), .unset, .unset, .unset, .unset, .unset, .unset] [(.int k3), (.int (2 : Int32)), (.ref b39), (.ref b39)])) (fun _ k => st41 _ (XS.dup X41.here hx rfl (hb hby at_242) rfl rfl (XS.iconst X41.here hx rfl (hb hby at_243) (XS.iload X41.here hx rfl (hb hby at_244) rfl k)))) ?_
        obtain ⟨cl42, Ar42, qa42, Sa42, Na42, Ha42, Ga42⟩ := V_b39
        have hin42 : ¬ ((2 : Int32) < 0 ∨ cl42.slots.size ≤ ((2 : Int32)).toNatClampNeg) := inb_of Sa42 ⟨by decide, by decide⟩
        obtain ⟨T42, h42, X42, e42, W42, st42⟩ := stI X41 hx hZ e41 Ar42 (j := (2 : Int32)) hin42 (g := (mkF m 246 #[.val (.int p0), .val (.int p1), .val (.int p2), .val (.int p3), .val (.int (0 : Int32)), .val (.int dd), .val (.int (3 : Int32)), .val (.int qq), .val (.int (10 : Int32)), .val (.int k1), .val (.int k2), .val (.int k3), .val (.ref b2), .val (.int dn), .unset, .unset, .unset, .unset, .unset, .unset] [(.int k3), (.int (2 : Int32)), (.ref b39), (.ref b39)])) rfl rfl (hb hby at_246)
        have V_b39 := Arv.set Ar42 qa42 Sa42 Na42 Ha42 Ga42 rfl W42 2 rfl (Nat.le_of_ble_eq_true rfl)
        have V_b39 : Arv Z h42 b39 k39 .int (3 : Int32) [(.int k1), (.int k2), (.int k3)] (.int (0 : Int32)) := V_b39
        have OL := OL.wr W42 g_b39
        have E_b2 := E_b2.wr W42
        have F_left_b2 := F_left_b2.other W42 (Or.inl ne_b2_b39)
        have F_dealt_b2 := F_dealt_b2.other W42 (Or.inl ne_b2_b39)
        have V_b4_2 := V_b4_2.other W42 ne_b4_2_b39
        have N42 := Fr.snoc X42 N41 g_b39
        have Kp := Kp.wr W42 (Or.inr sz_b39)
        have Zn := Nat.le_trans Zn (Nat.le_of_eq W42.size.symm)
        refine Run.st (S' := T42.setTop (mkF m 249 #[.val (.int p0), .val (.int p1), .val (.int p2), .val (.int p3), .val (.int (0 : Int32)), .val (.int dd), .val (.int (3 : Int32)), .val (.int qq), .val (.int (10 : Int32)), .val (.int k1), .val (.int k2), .val (.int k3), .val (.ref b2), .val (.int dn), .val (.ref b39), .unset, .unset, .unset, .unset, .unset] [])) (fun _ k => st42 _ (XS.astore X42.here hx rfl (hb hby at_247) rfl rfl (l' := #[.val (.int p0), .val (.int p1), .val (.int p2), .val (.int p3), .val (.int (0 : Int32)), .val (.int dd), .val (.int (3 : Int32)), .val (.int qq), .val (.int (10 : Int32)), .val (.int k1), .val (.int k2), .val (.int k3), .val (.ref b2), .val (.int dn), .val (.ref b39), .unset, .unset, .unset, .unset, .unset]) rfl k)) ?_
        have V_b39 : Arv Z h42 b39 k39 .int (3 : Int32) ([k1, k2, k3].map Value.int) (.int (0 : Int32)) := V_b39
        refine Run.st (S' := T42.setTop (mkF m 265 #[.val (.int p0), .val (.int p1), .val (.int p2), .val (.int p3), .val (.int (0 : Int32)), .val (.int dd), .val (.int (3 : Int32)), .val (.int qq), .val (.int (10 : Int32)), .val (.int k1), .val (.int k2), .val (.int k3), .val (.ref b2), .val (.int dn), .val (.ref b39), .unset, .unset, .unset, .unset, .unset] [(.int k3), (.int k2), (.int k1), (.int (3 : Int32)), (.int k1)])) (fun _ k => XS.iload X42.here hx rfl (hb hby at_249) rfl (XS.iconst X42.here hx rfl (hb hby at_251) (XS.icmpNo X42.here hx rfl (hb hby at_252) rfl (flt (show ¬ ((3 : Int32) < (1 : Int32)) from (by decide))).1 (XS.iload X42.here hx rfl (hb hby at_255) rfl (XS.iload X42.here hx rfl (hb hby at_257) rfl (XS.iload X42.here hx rfl (hb hby at_259) rfl (XS.iload X42.here hx rfl (hb hby at_261) rfl (XS.iload X42.here hx rfl (hb hby at_263) rfl k)))))))) ?_
        obtain ⟨_, _, ⟨T43, L43, k43, n43⟩, -, X43, ⟨Lc43, hQ43, l43, y43, z43⟩, st43⟩ := Jvm.LawKit.callS X42 hx (y := (⟨"com/example/sidewager/sidewager/analysis/ShoeHoldsPinLaw", "cnt", "(IIIII)I"⟩ : MethodName)) hown (mvT hZ (hwi hw 103 rfl)) (mvT hZ (hwi hw 104 rfl)) (mvT hZ (hwi hw 88 rfl)) (mvT hZ (hwi hw 105 rfl)) (by decide) (backOf (W := 0) (rmCnt l Z aV hw [] k1 (3 : Int32) k1 k2 k3 h42 n0 Zn ) hZ (hwi hw 105 rfl) (hwi hw 88 rfl) (by decide) (by decide)) (g := (mkF m 265 #[.val (.int p0), .val (.int p1), .val (.int p2), .val (.int p3), .val (.int (0 : Int32)), .val (.int dd), .val (.int (3 : Int32)), .val (.int qq), .val (.int (10 : Int32)), .val (.int k1), .val (.int k2), .val (.int k3), .val (.ref b2), .val (.int dn), .val (.ref b39), .unset, .unset, .unset, .unset, .unset] [(.int k3), (.int k2), (.int k1), (.int (3 : Int32)), (.int k1)])) rfl (by rw [hml]; rfl) (argsL := [(.int k1), (.int (3 : Int32)), (.int k1), (.int k2), (.int k3)]) (rest := []) (lenOf pd_9 rfl) rfl (by show 2 * 0 + _ ≤ _; exact Nat.le_of_eq rfl) (hb hby at_265) (fun _ _ => ⟨rfl, e42, (by decide : 8 + 0 ≤ _), (by decide : 60 + 0 ≤ _)⟩)
        dsimp only [Pt.U, Pt.locs, Pt.cells, Pt.slots] at X43 l43 y43 z43 st43 hQ43
        replace l43 := l43.symm; replace y43 := y43.symm; replace z43 := z43.symm; subst l43 y43 z43
        obtain ⟨rfl, N43q, e43⟩ := hQ43
        have N43 := Fr.app N42 N43q
        refine Run.st (S' := T43.setTop (mkF m 278 #[.val (.int p0), .val (.int p1), .val (.int p2), .val (.int p3), .val (.int (0 : Int32)), .val (.int dd), .val (.int (3 : Int32)), .val (.int qq), .val (.int (10 : Int32)), .val (.int k1), .val (.int k2), .val (.int k3), .val (.ref b2), .val (.int dn), .val (.ref b39), .unset, .unset, .unset, .unset, .unset] [(.int k1), (.int dn), (.int k1), (.int dd), (.int (0 : Int32)), (.int (FCnt k1 (3 : Int32) k1 k2 k3))])) (fun _ k => st43 _ (XS.iload X43.here hx rfl (hb hby at_268) rfl (XS.iload X43.here hx rfl (hb hby at_270) rfl (XS.iload X43.here hx rfl (hb hby at_272) rfl (XS.iload X43.here hx rfl (hb hby at_274) rfl (XS.iload X43.here hx rfl (hb hby at_276) rfl k)))))) ?_
        obtain ⟨_, _, ⟨T44, L44, k44, n44⟩, -, X44, ⟨Lc44, hQ44, l44, y44, z44⟩, st44⟩ := Jvm.LawKit.callS X43 hx (y := (⟨"com/example/sidewager/sidewager/analysis/ShoeHoldsPinLaw", "left", "(ZIIII)I"⟩ : MethodName)) hown (mvT hZ (hwi hw 106 rfl)) (mvT hZ (hwi hw 107 rfl)) (mvT hZ (hwi hw 88 rfl)) (mvT hZ (hwi hw 108 rfl)) (by decide) (backOf (W := 1) (rmLeft l Z aV hw [] (0 : Int32) dd k1 dn k1 h42 n0 Zn ) hZ (hwi hw 108 rfl) (hwi hw 88 rfl) (by decide) (by decide)) (g := (mkF m 278 #[.val (.int p0), .val (.int p1), .val (.int p2), .val (.int p3), .val (.int (0 : Int32)), .val (.int dd), .val (.int (3 : Int32)), .val (.int qq), .val (.int (10 : Int32)), .val (.int k1), .val (.int k2), .val (.int k3), .val (.ref b2), .val (.int dn), .val (.ref b39), .unset, .unset, .unset, .unset, .unset] [(.int k1), (.int dn), (.int k1), (.int dd), (.int (0 : Int32)), (.int (FCnt k1 (3 : Int32) k1 k2 k3))])) rfl (by rw [hml]; rfl) (argsL := [(.int (0 : Int32)), (.int dd), (.int k1), (.int dn), (.int k1)]) (rest := [(.int (FCnt k1 (3 : Int32) k1 k2 k3))]) (lenOf pd_10 rfl) rfl (by show 2 * 0 + _ ≤ _; exact Nat.le_of_eq rfl) (hb hby at_278) (fun _ _ => ⟨rfl, e43, (by decide : 8 + 0 ≤ _), (by decide : 60 + 0 ≤ _)⟩)
        dsimp only [Pt.U, Pt.locs, Pt.cells, Pt.slots] at X44 l44 y44 z44 st44 hQ44
        replace l44 := l44.symm; replace y44 := y44.symm; replace z44 := z44.symm; subst l44 y44 z44
        obtain ⟨rfl, N44q, e44⟩ := hQ44
        have N44 := Fr.app N43 N44q
        refine Run.st (S' := T44.setTop (mkF m 281 #[.val (.int p0), .val (.int p1), .val (.int p2), .val (.int p3), .val (.int (0 : Int32)), .val (.int dd), .val (.int (3 : Int32)), .val (.int qq), .val (.int (10 : Int32)), .val (.int k1), .val (.int k2), .val (.int k3), .val (.ref b2), .val (.int dn), .val (.ref b39), .unset, .unset, .unset, .unset, .unset] [(.int (FLeft (0 : Int32) dd k1 dn k1)), (.int (FCnt k1 (3 : Int32) k1 k2 k3))])) (fun _ k => st44 _ k) ?_
        have J291_45 : ∀ (x15 : Int32), x15 = (if (FLeft (0 : Int32) dd k1 dn k1) < (FCnt k1 (3 : Int32) k1 k2 k3) then (0 : Int32) else (1 : Int32)) → Run p e below (Ends s (Q0 Z p0 p1 p2 p3 u s_MAT s_VALS kV vsR s_ONE h0 n0) room_1.cells room_1.slots) (T44.setTop (mkF m 291 #[.val (.int p0), .val (.int p1), .val (.int p2), .val (.int p3), .val (.int (0 : Int32)), .val (.int dd), .val (.int (3 : Int32)), .val (.int qq), .val (.int (10 : Int32)), .val (.int k1), .val (.int k2), .val (.int k3), .val (.ref b2), .val (.int dn), .val (.ref b39), .val (.int x15), .unset, .unset, .unset, .unset] [])) := by
          intro x15 h_x15
          refine Run.st (S' := T44.setTop (mkF m 307 #[.val (.int p0), .val (.int p1), .val (.int p2), .val (.int p3), .val (.int (0 : Int32)), .val (.int dd), .val (.int (3 : Int32)), .val (.int qq), .val (.int (10 : Int32)), .val (.int k1), .val (.int k2), .val (.int k3), .val (.ref b2), .val (.int dn), .val (.ref b39), .val (.int x15), .unset, .unset, .unset, .unset] [(.int k3), (.int k2), (.int k1), (.int (3 : Int32)), (.int k2)])) (fun _ k => XS.iload X44.here hx rfl (hb hby at_291) rfl (XS.iconst X44.here hx rfl (hb hby at_293) (XS.icmpNo X44.here hx rfl (hb hby at_294) rfl (flt (show ¬ ((3 : Int32) < (2 : Int32)) from (by decide))).1 (XS.iload X44.here hx rfl (hb hby at_297) rfl (XS.iload X44.here hx rfl (hb hby at_299) rfl (XS.iload X44.here hx rfl (hb hby at_301) rfl (XS.iload X44.here hx rfl (hb hby at_303) rfl (XS.iload X44.here hx rfl (hb hby at_305) rfl k)))))))) ?_
          obtain ⟨_, _, ⟨T46, L46, k46, n46⟩, -, X46, ⟨Lc46, hQ46, l46, y46, z46⟩, st46⟩ := Jvm.LawKit.callS X44 hx (y := (⟨"com/example/sidewager/sidewager/analysis/ShoeHoldsPinLaw", "cnt", "(IIIII)I"⟩ : MethodName)) hown (mvT hZ (hwi hw 103 rfl)) (mvT hZ (hwi hw 104 rfl)) (mvT hZ (hwi hw 88 rfl)) (mvT hZ (hwi hw 105 rfl)) (by decide) (backOf (W := 0) (rmCnt l Z aV hw [] k2 (3 : Int32) k1 k2 k3 h42 n0 Zn ) hZ (hwi hw 105 rfl) (hwi hw 88 rfl) (by decide) (by decide)) (g := (mkF m 307 #[.val (.int p0), .val (.int p1), .val (.int p2), .val (.int p3), .val (.int (0 : Int32)), .val (.int dd), .val (.int (3 : Int32)), .val (.int qq), .val (.int (10 : Int32)), .val (.int k1), .val (.int k2), .val (.int k3), .val (.ref b2), .val (.int dn), .val (.ref b39), .val (.int x15), .unset, .unset, .unset, .unset] [(.int k3), (.int k2), (.int k1), (.int (3 : Int32)), (.int k2)])) rfl (by rw [hml]; rfl) (argsL := [(.int k2), (.int (3 : Int32)), (.int k1), (.int k2), (.int k3)]) (rest := []) (lenOf pd_9 rfl) rfl (by show 2 * 0 + _ ≤ _; exact Nat.le_of_eq rfl) (hb hby at_307) (fun _ _ => ⟨rfl, e44, (by decide : 8 + 0 ≤ _), (by decide : 60 + 0 ≤ _)⟩)
          dsimp only [Pt.U, Pt.locs, Pt.cells, Pt.slots] at X46 l46 y46 z46 st46 hQ46
          replace l46 := l46.symm; replace y46 := y46.symm; replace z46 := z46.symm; subst l46 y46 z46
          obtain ⟨rfl, N46q, e46⟩ := hQ46
          have N46 := Fr.app N44 N46q
          refine Run.st (S' := T46.setTop (mkF m 320 #[.val (.int p0), .val (.int p1), .val (.int p2), .val (.int p3), .val (.int (0 : Int32)), .val (.int dd), .val (.int (3 : Int32)), .val (.int qq), .val (.int (10 : Int32)), .val (.int k1), .val (.int k2), .val (.int k3), .val (.ref b2), .val (.int dn), .val (.ref b39), .val (.int x15), .unset, .unset, .unset, .unset] [(.int k2), (.int dn), (.int k1), (.int dd), (.int (0 : Int32)), (.int (FCnt k2 (3 : Int32) k1 k2 k3))])) (fun _ k => st46 _ (XS.iload X46.here hx rfl (hb hby at_310) rfl (XS.iload X46.here hx rfl (hb hby at_312) rfl (XS.iload X46.here hx rfl (hb hby at_314) rfl (XS.iload X46.here hx rfl (hb hby at_316) rfl (XS.iload X46.here hx rfl (hb hby at_318) rfl k)))))) ?_
          obtain ⟨_, _, ⟨T47, L47, k47, n47⟩, -, X47, ⟨Lc47, hQ47, l47, y47, z47⟩, st47⟩ := Jvm.LawKit.callS X46 hx (y := (⟨"com/example/sidewager/sidewager/analysis/ShoeHoldsPinLaw", "left", "(ZIIII)I"⟩ : MethodName)) hown (mvT hZ (hwi hw 106 rfl)) (mvT hZ (hwi hw 107 rfl)) (mvT hZ (hwi hw 88 rfl)) (mvT hZ (hwi hw 108 rfl)) (by decide) (backOf (W := 1) (rmLeft l Z aV hw [] (0 : Int32) dd k1 dn k2 h42 n0 Zn ) hZ (hwi hw 108 rfl) (hwi hw 88 rfl) (by decide) (by decide)) (g := (mkF m 320 #[.val (.int p0), .val (.int p1), .val (.int p2), .val (.int p3), .val (.int (0 : Int32)), .val (.int dd), .val (.int (3 : Int32)), .val (.int qq), .val (.int (10 : Int32)), .val (.int k1), .val (.int k2), .val (.int k3), .val (.ref b2), .val (.int dn), .val (.ref b39), .val (.int x15), .unset, .unset, .unset, .unset] [(.int k2), (.int dn), (.int k1), (.int dd), (.int (0 : Int32)), (.int (FCnt k2 (3 : Int32) k1 k2 k3))])) rfl (by rw [hml]; rfl) (argsL := [(.int (0 : Int32)), (.int dd), (.int k1), (.int dn), (.int k2)]) (rest := [(.int (FCnt k2 (3 : Int32) k1 k2 k3))]) (lenOf pd_10 rfl) rfl (by show 2 * 0 + _ ≤ _; exact Nat.le_of_eq rfl) (hb hby at_320) (fun _ _ => ⟨rfl, e46, (by decide : 8 + 0 ≤ _), (by decide : 60 + 0 ≤ _)⟩)
          dsimp only [Pt.U, Pt.locs, Pt.cells, Pt.slots] at X47 l47 y47 z47 st47 hQ47
          replace l47 := l47.symm; replace y47 := y47.symm; replace z47 := z47.symm; subst l47 y47 z47
          obtain ⟨rfl, N47q, e47⟩ := hQ47
          have N47 := Fr.app N46 N47q
          refine Run.st (S' := T47.setTop (mkF m 323 #[.val (.int p0), .val (.int p1), .val (.int p2), .val (.int p3), .val (.int (0 : Int32)), .val (.int dd), .val (.int (3 : Int32)), .val (.int qq), .val (.int (10 : Int32)), .val (.int k1), .val (.int k2), .val (.int k3), .val (.ref b2), .val (.int dn), .val (.ref b39), .val (.int x15), .unset, .unset, .unset, .unset] [(.int (FLeft (0 : Int32) dd k1 dn k2)), (.int (FCnt k2 (3 : Int32) k1 k2 k3))])) (fun _ k => st47 _ k) ?_
          have J333_48 : ∀ (x16 : Int32), x16 = (if (FLeft (0 : Int32) dd k1 dn k2) < (FCnt k2 (3 : Int32) k1 k2 k3) then (0 : Int32) else (1 : Int32)) → Run p e below (Ends s (Q0 Z p0 p1 p2 p3 u s_MAT s_VALS kV vsR s_ONE h0 n0) room_1.cells room_1.slots) (T47.setTop (mkF m 333 #[.val (.int p0), .val (.int p1), .val (.int p2), .val (.int p3), .val (.int (0 : Int32)), .val (.int dd), .val (.int (3 : Int32)), .val (.int qq), .val (.int (10 : Int32)), .val (.int k1), .val (.int k2), .val (.int k3), .val (.ref b2), .val (.int dn), .val (.ref b39), .val (.int x15), .val (.int x16), .unset, .unset, .unset] [])) := by
            intro x16 h_x16
            refine Run.st (S' := T47.setTop (mkF m 349 #[.val (.int p0), .val (.int p1), .val (.int p2), .val (.int p3), .val (.int (0 : Int32)), .val (.int dd), .val (.int (3 : Int32)), .val (.int qq), .val (.int (10 : Int32)), .val (.int k1), .val (.int k2), .val (.int k3), .val (.ref b2), .val (.int dn), .val (.ref b39), .val (.int x15), .val (.int x16), .unset, .unset, .unset] [(.int k3), (.int k2), (.int k1), (.int (3 : Int32)), (.int k3)])) (fun _ k => XS.iload X47.here hx rfl (hb hby at_333) rfl (XS.iconst X47.here hx rfl (hb hby at_335) (XS.icmpNo X47.here hx rfl (hb hby at_336) rfl (flt (show ¬ ((3 : Int32) < (3 : Int32)) from (by decide))).1 (XS.iload X47.here hx rfl (hb hby at_339) rfl (XS.iload X47.here hx rfl (hb hby at_341) rfl (XS.iload X47.here hx rfl (hb hby at_343) rfl (XS.iload X47.here hx rfl (hb hby at_345) rfl (XS.iload X47.here hx rfl (hb hby at_347) rfl k)))))))) ?_
            obtain ⟨_, _, ⟨T49, L49, k49, n49⟩, -, X49, ⟨Lc49, hQ49, l49, y49, z49⟩, st49⟩ := Jvm.LawKit.callS X47 hx (y := (⟨"com/example/sidewager/sidewager/analysis/ShoeHoldsPinLaw", "cnt", "(IIIII)I"⟩ : MethodName)) hown (mvT hZ (hwi hw 103 rfl)) (mvT hZ (hwi hw 104 rfl)) (mvT hZ (hwi hw 88 rfl)) (mvT hZ (hwi hw 105 rfl)) (by decide) (backOf (W := 0) (rmCnt l Z aV hw [] k3 (3 : Int32) k1 k2 k3 h42 n0 Zn ) hZ (hwi hw 105 rfl) (hwi hw 88 rfl) (by decide) (by decide)) (g := (mkF m 349 #[.val (.int p0), .val (.int p1), .val (.int p2), .val (.int p3), .val (.int (0 : Int32)), .val (.int dd), .val (.int (3 : Int32)), .val (.int qq), .val (.int (10 : Int32)), .val (.int k1), .val (.int k2), .val (.int k3), .val (.ref b2), .val (.int dn), .val (.ref b39), .val (.int x15), .val (.int x16), .unset, .unset, .unset] [(.int k3), (.int k2), (.int k1), (.int (3 : Int32)), (.int k3)])) rfl (by rw [hml]; rfl) (argsL := [(.int k3), (.int (3 : Int32)), (.int k1), (.int k2), (.int k3)]) (rest := []) (lenOf pd_9 rfl) rfl (by show 2 * 0 + _ ≤ _; exact Nat.le_of_eq rfl) (hb hby at_349) (fun _ _ => ⟨rfl, e47, (by decide : 8 + 0 ≤ _), (by decide : 60 + 0 ≤ _)⟩)
            dsimp only [Pt.U, Pt.locs, Pt.cells, Pt.slots] at X49 l49 y49 z49 st49 hQ49
            replace l49 := l49.symm; replace y49 := y49.symm; replace z49 := z49.symm; subst l49 y49 z49
            obtain ⟨rfl, N49q, e49⟩ := hQ49
            have N49 := Fr.app N47 N49q
            refine Run.st (S' := T49.setTop (mkF m 362 #[.val (.int p0), .val (.int p1), .val (.int p2), .val (.int p3), .val (.int (0 : Int32)), .val (.int dd), .val (.int (3 : Int32)), .val (.int qq), .val (.int (10 : Int32)), .val (.int k1), .val (.int k2), .val (.int k3), .val (.ref b2), .val (.int dn), .val (.ref b39), .val (.int x15), .val (.int x16), .unset, .unset, .unset] [(.int k3), (.int dn), (.int k1), (.int dd), (.int (0 : Int32)), (.int (FCnt k3 (3 : Int32) k1 k2 k3))])) (fun _ k => st49 _ (XS.iload X49.here hx rfl (hb hby at_352) rfl (XS.iload X49.here hx rfl (hb hby at_354) rfl (XS.iload X49.here hx rfl (hb hby at_356) rfl (XS.iload X49.here hx rfl (hb hby at_358) rfl (XS.iload X49.here hx rfl (hb hby at_360) rfl k)))))) ?_
            obtain ⟨_, _, ⟨T50, L50, k50, n50⟩, -, X50, ⟨Lc50, hQ50, l50, y50, z50⟩, st50⟩ := Jvm.LawKit.callS X49 hx (y := (⟨"com/example/sidewager/sidewager/analysis/ShoeHoldsPinLaw", "left", "(ZIIII)I"⟩ : MethodName)) hown (mvT hZ (hwi hw 106 rfl)) (mvT hZ (hwi hw 107 rfl)) (mvT hZ (hwi hw 88 rfl)) (mvT hZ (hwi hw 108 rfl)) (by decide) (backOf (W := 1) (rmLeft l Z aV hw [] (0 : Int32) dd k1 dn k3 h42 n0 Zn ) hZ (hwi hw 108 rfl) (hwi hw 88 rfl) (by decide) (by decide)) (g := (mkF m 362 #[.val (.int p0), .val (.int p1), .val (.int p2), .val (.int p3), .val (.int (0 : Int32)), .val (.int dd), .val (.int (3 : Int32)), .val (.int qq), .val (.int (10 : Int32)), .val (.int k1), .val (.int k2), .val (.int k3), .val (.ref b2), .val (.int dn), .val (.ref b39), .val (.int x15), .val (.int x16), .unset, .unset, .unset] [(.int k3), (.int dn), (.int k1), (.int dd), (.int (0 : Int32)), (.int (FCnt k3 (3 : Int32) k1 k2 k3))])) rfl (by rw [hml]; rfl) (argsL := [(.int (0 : Int32)), (.int dd), (.int k1), (.int dn), (.int k3)]) (rest := [(.int (FCnt k3 (3 : Int32) k1 k2 k3))]) (lenOf pd_10 rfl) rfl (by show 2 * 0 + _ ≤ _; exact Nat.le_of_eq rfl) (hb hby at_362) (fun _ _ => ⟨rfl, e49, (by decide : 8 + 0 ≤ _), (by decide : 60 + 0 ≤ _)⟩)
            dsimp only [Pt.U, Pt.locs, Pt.cells, Pt.slots] at X50 l50 y50 z50 st50 hQ50
            replace l50 := l50.symm; replace y50 := y50.symm; replace z50 := z50.symm; subst l50 y50 z50
            obtain ⟨rfl, N50q, e50⟩ := hQ50
            have N50 := Fr.app N49 N50q
            refine Run.st (S' := T50.setTop (mkF m 365 #[.val (.int p0), .val (.int p1), .val (.int p2), .val (.int p3), .val (.int (0 : Int32)), .val (.int dd), .val (.int (3 : Int32)), .val (.int qq), .val (.int (10 : Int32)), .val (.int k1), .val (.int k2), .val (.int k3), .val (.ref b2), .val (.int dn), .val (.ref b39), .val (.int x15), .val (.int x16), .unset, .unset, .unset] [(.int (FLeft (0 : Int32) dd k1 dn k3)), (.int (FCnt k3 (3 : Int32) k1 k2 k3))])) (fun _ k => st50 _ k) ?_
            have J375_51 : ∀ (x17 : Int32), x17 = (if (FLeft (0 : Int32) dd k1 dn k3) < (FCnt k3 (3 : Int32) k1 k2 k3) then (0 : Int32) else (1 : Int32)) → Run p e below (Ends s (Q0 Z p0 p1 p2 p3 u s_MAT s_VALS kV vsR s_ONE h0 n0) room_1.cells room_1.slots) (T50.setTop (mkF m 375 #[.val (.int p0), .val (.int p1), .val (.int p2), .val (.int p3), .val (.int (0 : Int32)), .val (.int dd), .val (.int (3 : Int32)), .val (.int qq), .val (.int (10 : Int32)), .val (.int k1), .val (.int k2), .val (.int k3), .val (.ref b2), .val (.int dn), .val (.ref b39), .val (.int x15), .val (.int x16), .val (.int x17), .unset, .unset] [])) := by
              intro x17 h_x17
              refine Run.st (S' := T50.setTop (mkF m 377 #[.val (.int p0), .val (.int p1), .val (.int p2), .val (.int p3), .val (.int (0 : Int32)), .val (.int dd), .val (.int (3 : Int32)), .val (.int qq), .val (.int (10 : Int32)), .val (.int k1), .val (.int k2), .val (.int k3), .val (.ref b2), .val (.int dn), .val (.ref b39), .val (.int x15), .val (.int x16), .val (.int x17), .unset, .unset] [(.int x15)])) (fun _ k => XS.iload X50.here hx rfl (hb hby at_375) rfl k) ?_
              by_cases hc377_52 : x15 = (0 : Int32)
              · refine Run.st (S' := T50.setTop (mkF m 401 #[.val (.int p0), .val (.int p1), .val (.int p2), .val (.int p3), .val (.int (0 : Int32)), .val (.int dd), .val (.int (3 : Int32)), .val (.int qq), .val (.int (10 : Int32)), .val (.int k1), .val (.int k2), .val (.int k3), .val (.ref b2), .val (.int dn), .val (.ref b39), .val (.int x15), .val (.int x16), .val (.int x17), .val (.int (0 : Int32)), .unset] [(.ref b39), (.ref b2)])) (fun _ k => XS.ifYes X50.here hx rfl (pc0 := 377) (pc' := 394) rfl (hb hby at_377) rfl ((if0 _ _).trans (teq hc377_52).1) (by decide) (by decide) (XS.iconst X50.here hx rfl (hb hby at_394) (XS.istore X50.here hx rfl (hb hby at_395) rfl (l' := #[.val (.int p0), .val (.int p1), .val (.int p2), .val (.int p3), .val (.int (0 : Int32)), .val (.int dd), .val (.int (3 : Int32)), .val (.int qq), .val (.int (10 : Int32)), .val (.int k1), .val (.int k2), .val (.int k3), .val (.ref b2), .val (.int dn), .val (.ref b39), .val (.int x15), .val (.int x16), .val (.int x17), .val (.int (0 : Int32)), .unset]) rfl (XS.aload X50.here hx rfl (hb hby at_397) rfl rfl (XS.aload X50.here hx rfl (hb hby at_399) rfl rfl k))))) ?_
                obtain ⟨cq53, kq53, q53a, q53b, q53c⟩ := isOf hZ e50 E_b2
                obtain ⟨_, _, ⟨T53, L53, k53, n53⟩, -, X53, ⟨Lc53, hQ53, l53, y53, z53⟩, st53⟩ := X50.virtualBack hx (y := (⟨"com/example/sidewager/sidewager/analysis/Shoe", "holds", "([I)Z"⟩ : MethodName)) (z := (⟨"com/example/sidewager/sidewager/analysis/Shoe", "holds", "([I)Z"⟩ : MethodName)) hown (mvT hZ (hwi hw 91 rfl)) (mvT hZ (hwi hw 92 rfl)) (notFace_of_selects (args := #[]) (mvT hZ (hwi hw 94 rfl))) (mvT hZ (hwi hw 94 rfl)) (mvT hZ (hwi hw 93 rfl)) (by decide) (backOf (W := 0) (rmHoI l Z aV hw [] b2 b39 b4_2 kb4_2 lf k39 ([k1, k2, k3]) (3 : Int32) h42 n0 Zn (by decide) (by decide) (own_hks3 hk1 hk2 hk3) F_left_b2 V_b4_2 V_b39) hZ (hwi hw 95 rfl) (hwi hw 3 rfl) (by decide) (by decide)) q53a q53c (g := (mkF m 401 #[.val (.int p0), .val (.int p1), .val (.int p2), .val (.int p3), .val (.int (0 : Int32)), .val (.int dd), .val (.int (3 : Int32)), .val (.int qq), .val (.int (10 : Int32)), .val (.int k1), .val (.int k2), .val (.int k3), .val (.ref b2), .val (.int dn), .val (.ref b39), .val (.int x15), .val (.int x16), .val (.int x17), .val (.int (0 : Int32)), .unset] [(.ref b39), (.ref b2)])) rfl (by rw [hml]; rfl) (Steps.refl _) (argsL := [(.ref b39)]) (rest := []) (lenOf pd_8 rfl) rfl (by show 2 * 0 + _ ≤ _; exact Nat.le_of_eq rfl) (hb hby at_401) (fun _ _ => ⟨rfl, e50, (by decide : 8 + 1 ≤ _), (by decide : 60 + 10 ≤ _)⟩)
                dsimp only [Pt.U, Pt.locs, Pt.cells, Pt.slots] at X53 l53 y53 z53 st53 hQ53
                replace l53 := l53.symm; replace y53 := y53.symm; replace z53 := z53.symm; subst l53 y53 z53
                obtain ⟨rfl, N53q, K53⟩ := hQ53
                have OL := OL.keep K53 all0
                have E_b2 := E_b2.keep K53
                have F_left_b2 := F_left_b2.keep K53 nin0
                have F_dealt_b2 := F_dealt_b2.keep K53 nin0
                have V_b4_2 := V_b4_2.keep K53 nin0
                have V_b39 := V_b39.keep K53 nin0
                have Kp := Kp.trans K53 all0
                have Zn := Nat.le_trans Zn K53.1
                have N53 := Fr.app N50 N53q
                refine Run.st (S' := T53.setTop (mkF m 415 #[.val (.int p0), .val (.int p1), .val (.int p2), .val (.int p3), .val (.int (0 : Int32)), .val (.int dd), .val (.int (3 : Int32)), .val (.int qq), .val (.int (10 : Int32)), .val (.int k1), .val (.int k2), .val (.int k3), .val (.ref b2), .val (.int dn), .val (.ref b39), .val (.int x15), .val (.int x16), .val (.int x17), .val (.int (0 : Int32)), .val (.int (own_H [k1, k2, k3] (3 : Int32) 10 lf))] [(.ref b2)])) (fun _ k => st53.trans (XS.istore X53.here hx rfl (hb hby at_404) rfl (l' := #[.val (.int p0), .val (.int p1), .val (.int p2), .val (.int p3), .val (.int (0 : Int32)), .val (.int dd), .val (.int (3 : Int32)), .val (.int qq), .val (.int (10 : Int32)), .val (.int k1), .val (.int k2), .val (.int k3), .val (.ref b2), .val (.int dn), .val (.ref b39), .val (.int x15), .val (.int x16), .val (.int x17), .val (.int (0 : Int32)), .val (.int (own_H [k1, k2, k3] (3 : Int32) 10 lf))]) rfl (XS.iload X53.here hx rfl (hb hby at_406) rfl (XS.iload X53.here hx rfl (hb hby at_408) rfl (XS.icmpNo X53.here hx rfl (hb hby at_410) rfl (teq (show (own_H [k1, k2, k3] (3 : Int32) 10 lf) = (0 : Int32) from (own_E3 (k2 := k2) (k3 := k3) (N := 10) (by decide) hk1 hk2 hk3 hyJ).trans (if_pos (Or.inl (own_x0 h_x15 hc377_52))))).2 (XS.aload X53.here hx rfl (hb hby at_413) rfl rfl k)))))) ?_
                obtain ⟨cq54, kq54, q54a, q54b, q54c⟩ := isOf hZ rfl E_b2
                obtain ⟨_, _, ⟨T54, L54, k54, n54⟩, -, X54, ⟨Lc54, hQ54, l54, y54, z54⟩, st54⟩ := X53.virtualBack hx (y := (⟨"com/example/sidewager/sidewager/analysis/Shoe", "dealt", "()I"⟩ : MethodName)) (z := (⟨"com/example/sidewager/sidewager/analysis/Shoe", "dealt", "()I"⟩ : MethodName)) hown (mvT hZ (hwi hw 96 rfl)) (mvT hZ (hwi hw 97 rfl)) (notFace_of_selects (args := #[]) (mvT hZ (hwi hw 99 rfl))) (mvT hZ (hwi hw 99 rfl)) (mvT hZ (hwi hw 98 rfl)) (by decide) (backOf (W := 0) (rmDt l Z aV hw [] b2 dn T53.heap n0 Zn F_dealt_b2) hZ (hwi hw 100 rfl) (hwi hw 3 rfl) (by decide) (by decide)) q54a q54c (g := (mkF m 415 #[.val (.int p0), .val (.int p1), .val (.int p2), .val (.int p3), .val (.int (0 : Int32)), .val (.int dd), .val (.int (3 : Int32)), .val (.int qq), .val (.int (10 : Int32)), .val (.int k1), .val (.int k2), .val (.int k3), .val (.ref b2), .val (.int dn), .val (.ref b39), .val (.int x15), .val (.int x16), .val (.int x17), .val (.int (0 : Int32)), .val (.int (own_H [k1, k2, k3] (3 : Int32) 10 lf))] [(.ref b2)])) rfl (by rw [hml]; rfl) (Steps.refl _) (argsL := []) (rest := []) (lenOf pd_1 rfl) rfl (by show 2 * 0 + _ ≤ _; exact Nat.le_of_eq rfl) (hb hby at_415) (fun _ _ => ⟨rfl, rfl, (by decide : 9 + 0 ≤ _), (by decide : 70 + 0 ≤ _)⟩)
                dsimp only [Pt.U, Pt.locs, Pt.cells, Pt.slots] at X54 l54 y54 z54 st54 hQ54
                replace l54 := l54.symm; replace y54 := y54.symm; replace z54 := z54.symm; subst l54 y54 z54
                obtain ⟨rfl, N54q, e54⟩ := hQ54
                have N54 := Fr.app N53 N54q
                refine Run.st (S' := T54.setTop (mkF m 428 #[.val (.int p0), .val (.int p1), .val (.int p2), .val (.int p3), .val (.int (0 : Int32)), .val (.int dd), .val (.int (3 : Int32)), .val (.int qq), .val (.int (10 : Int32)), .val (.int k1), .val (.int k2), .val (.int k3), .val (.ref b2), .val (.int dn), .val (.ref b39), .val (.int x15), .val (.int x16), .val (.int x17), .val (.int (0 : Int32)), .val (.int (own_H [k1, k2, k3] (3 : Int32) 10 lf))] [(.int (1 : Int32))])) (fun _ k => st54.trans (XS.iload X54.here hx rfl (hb hby at_418) rfl (XS.icmpNo X54.here hx rfl (hb hby at_420) rfl (teq (show dn = dn from rfl)).2 (XS.iconst X54.here hx rfl (hb hby at_423) (XS.goto X54.here hx rfl (pc0 := 424) (pc' := 428) rfl (hb hby at_424) (by decide) (by decide) k))))) ?_
                refine Run.out X54 hx Bd.notSynchronized Bd.returns rfl (Or.inl ⟨rfl, by simp, _, rfl⟩) (hb hby at_428) (by decide) (by decide) ?_
                rw [e54]
                exact ⟨rfl, N54⟩
              · refine Run.st (S' := T50.setTop (mkF m 382 #[.val (.int p0), .val (.int p1), .val (.int p2), .val (.int p3), .val (.int (0 : Int32)), .val (.int dd), .val (.int (3 : Int32)), .val (.int qq), .val (.int (10 : Int32)), .val (.int k1), .val (.int k2), .val (.int k3), .val (.ref b2), .val (.int dn), .val (.ref b39), .val (.int x15), .val (.int x16), .val (.int x17), .unset, .unset] [(.int x16)])) (fun _ k => XS.ifNo X50.here hx rfl (hb hby at_377) rfl ((if0 _ _).trans (feq hc377_52).1) (XS.iload X50.here hx rfl (hb hby at_380) rfl k)) ?_
                by_cases hc382_55 : x16 = (0 : Int32)
                · refine Run.st (S' := T50.setTop (mkF m 401 #[.val (.int p0), .val (.int p1), .val (.int p2), .val (.int p3), .val (.int (0 : Int32)), .val (.int dd), .val (.int (3 : Int32)), .val (.int qq), .val (.int (10 : Int32)), .val (.int k1), .val (.int k2), .val (.int k3), .val (.ref b2), .val (.int dn), .val (.ref b39), .val (.int x15), .val (.int x16), .val (.int x17), .val (.int (0 : Int32)), .unset] [(.ref b39), (.ref b2)])) (fun _ k => XS.ifYes X50.here hx rfl (pc0 := 382) (pc' := 394) rfl (hb hby at_382) rfl ((if0 _ _).trans (teq hc382_55).1) (by decide) (by decide) (XS.iconst X50.here hx rfl (hb hby at_394) (XS.istore X50.here hx rfl (hb hby at_395) rfl (l' := #[.val (.int p0), .val (.int p1), .val (.int p2), .val (.int p3), .val (.int (0 : Int32)), .val (.int dd), .val (.int (3 : Int32)), .val (.int qq), .val (.int (10 : Int32)), .val (.int k1), .val (.int k2), .val (.int k3), .val (.ref b2), .val (.int dn), .val (.ref b39), .val (.int x15), .val (.int x16), .val (.int x17), .val (.int (0 : Int32)), .unset]) rfl (XS.aload X50.here hx rfl (hb hby at_397) rfl rfl (XS.aload X50.here hx rfl (hb hby at_399) rfl rfl k))))) ?_
                  obtain ⟨cq56, kq56, q56a, q56b, q56c⟩ := isOf hZ e50 E_b2
                  obtain ⟨_, _, ⟨T56, L56, k56, n56⟩, -, X56, ⟨Lc56, hQ56, l56, y56, z56⟩, st56⟩ := X50.virtualBack hx (y := (⟨"com/example/sidewager/sidewager/analysis/Shoe", "holds", "([I)Z"⟩ : MethodName)) (z := (⟨"com/example/sidewager/sidewager/analysis/Shoe", "holds", "([I)Z"⟩ : MethodName)) hown (mvT hZ (hwi hw 91 rfl)) (mvT hZ (hwi hw 92 rfl)) (notFace_of_selects (args := #[]) (mvT hZ (hwi hw 94 rfl))) (mvT hZ (hwi hw 94 rfl)) (mvT hZ (hwi hw 93 rfl)) (by decide) (backOf (W := 0) (rmHoI l Z aV hw [] b2 b39 b4_2 kb4_2 lf k39 ([k1, k2, k3]) (3 : Int32) h42 n0 Zn (by decide) (by decide) (own_hks3 hk1 hk2 hk3) F_left_b2 V_b4_2 V_b39) hZ (hwi hw 95 rfl) (hwi hw 3 rfl) (by decide) (by decide)) q56a q56c (g := (mkF m 401 #[.val (.int p0), .val (.int p1), .val (.int p2), .val (.int p3), .val (.int (0 : Int32)), .val (.int dd), .val (.int (3 : Int32)), .val (.int qq), .val (.int (10 : Int32)), .val (.int k1), .val (.int k2), .val (.int k3), .val (.ref b2), .val (.int dn), .val (.ref b39), .val (.int x15), .val (.int x16), .val (.int x17), .val (.int (0 : Int32)), .unset] [(.ref b39), (.ref b2)])) rfl (by rw [hml]; rfl) (Steps.refl _) (argsL := [(.ref b39)]) (rest := []) (lenOf pd_8 rfl) rfl (by show 2 * 0 + _ ≤ _; exact Nat.le_of_eq rfl) (hb hby at_401) (fun _ _ => ⟨rfl, e50, (by decide : 8 + 1 ≤ _), (by decide : 60 + 10 ≤ _)⟩)
                  dsimp only [Pt.U, Pt.locs, Pt.cells, Pt.slots] at X56 l56 y56 z56 st56 hQ56
                  replace l56 := l56.symm; replace y56 := y56.symm; replace z56 := z56.symm; subst l56 y56 z56
                  obtain ⟨rfl, N56q, K56⟩ := hQ56
                  have OL := OL.keep K56 all0
                  have E_b2 := E_b2.keep K56
                  have F_left_b2 := F_left_b2.keep K56 nin0
                  have F_dealt_b2 := F_dealt_b2.keep K56 nin0
                  have V_b4_2 := V_b4_2.keep K56 nin0
                  have V_b39 := V_b39.keep K56 nin0
                  have Kp := Kp.trans K56 all0
                  have Zn := Nat.le_trans Zn K56.1
                  have N56 := Fr.app N50 N56q
                  refine Run.st (S' := T56.setTop (mkF m 415 #[.val (.int p0), .val (.int p1), .val (.int p2), .val (.int p3), .val (.int (0 : Int32)), .val (.int dd), .val (.int (3 : Int32)), .val (.int qq), .val (.int (10 : Int32)), .val (.int k1), .val (.int k2), .val (.int k3), .val (.ref b2), .val (.int dn), .val (.ref b39), .val (.int x15), .val (.int x16), .val (.int x17), .val (.int (0 : Int32)), .val (.int (own_H [k1, k2, k3] (3 : Int32) 10 lf))] [(.ref b2)])) (fun _ k => st56.trans (XS.istore X56.here hx rfl (hb hby at_404) rfl (l' := #[.val (.int p0), .val (.int p1), .val (.int p2), .val (.int p3), .val (.int (0 : Int32)), .val (.int dd), .val (.int (3 : Int32)), .val (.int qq), .val (.int (10 : Int32)), .val (.int k1), .val (.int k2), .val (.int k3), .val (.ref b2), .val (.int dn), .val (.ref b39), .val (.int x15), .val (.int x16), .val (.int x17), .val (.int (0 : Int32)), .val (.int (own_H [k1, k2, k3] (3 : Int32) 10 lf))]) rfl (XS.iload X56.here hx rfl (hb hby at_406) rfl (XS.iload X56.here hx rfl (hb hby at_408) rfl (XS.icmpNo X56.here hx rfl (hb hby at_410) rfl (teq (show (own_H [k1, k2, k3] (3 : Int32) 10 lf) = (0 : Int32) from (own_E3 (k2 := k2) (k3 := k3) (N := 10) (by decide) hk1 hk2 hk3 hyJ).trans (if_pos (Or.inr (Or.inl (own_x0 h_x16 hc382_55)))))).2 (XS.aload X56.here hx rfl (hb hby at_413) rfl rfl k)))))) ?_
                  obtain ⟨cq57, kq57, q57a, q57b, q57c⟩ := isOf hZ rfl E_b2
                  obtain ⟨_, _, ⟨T57, L57, k57, n57⟩, -, X57, ⟨Lc57, hQ57, l57, y57, z57⟩, st57⟩ := X56.virtualBack hx (y := (⟨"com/example/sidewager/sidewager/analysis/Shoe", "dealt", "()I"⟩ : MethodName)) (z := (⟨"com/example/sidewager/sidewager/analysis/Shoe", "dealt", "()I"⟩ : MethodName)) hown (mvT hZ (hwi hw 96 rfl)) (mvT hZ (hwi hw 97 rfl)) (notFace_of_selects (args := #[]) (mvT hZ (hwi hw 99 rfl))) (mvT hZ (hwi hw 99 rfl)) (mvT hZ (hwi hw 98 rfl)) (by decide) (backOf (W := 0) (rmDt l Z aV hw [] b2 dn T56.heap n0 Zn F_dealt_b2) hZ (hwi hw 100 rfl) (hwi hw 3 rfl) (by decide) (by decide)) q57a q57c (g := (mkF m 415 #[.val (.int p0), .val (.int p1), .val (.int p2), .val (.int p3), .val (.int (0 : Int32)), .val (.int dd), .val (.int (3 : Int32)), .val (.int qq), .val (.int (10 : Int32)), .val (.int k1), .val (.int k2), .val (.int k3), .val (.ref b2), .val (.int dn), .val (.ref b39), .val (.int x15), .val (.int x16), .val (.int x17), .val (.int (0 : Int32)), .val (.int (own_H [k1, k2, k3] (3 : Int32) 10 lf))] [(.ref b2)])) rfl (by rw [hml]; rfl) (Steps.refl _) (argsL := []) (rest := []) (lenOf pd_1 rfl) rfl (by show 2 * 0 + _ ≤ _; exact Nat.le_of_eq rfl) (hb hby at_415) (fun _ _ => ⟨rfl, rfl, (by decide : 9 + 0 ≤ _), (by decide : 70 + 0 ≤ _)⟩)
                  dsimp only [Pt.U, Pt.locs, Pt.cells, Pt.slots] at X57 l57 y57 z57 st57 hQ57
                  replace l57 := l57.symm; replace y57 := y57.symm; replace z57 := z57.symm; subst l57 y57 z57
                  obtain ⟨rfl, N57q, e57⟩ := hQ57
                  have N57 := Fr.app N56 N57q
                  refine Run.st (S' := T57.setTop (mkF m 428 #[.val (.int p0), .val (.int p1), .val (.int p2), .val (.int p3), .val (.int (0 : Int32)), .val (.int dd), .val (.int (3 : Int32)), .val (.int qq), .val (.int (10 : Int32)), .val (.int k1), .val (.int k2), .val (.int k3), .val (.ref b2), .val (.int dn), .val (.ref b39), .val (.int x15), .val (.int x16), .val (.int x17), .val (.int (0 : Int32)), .val (.int (own_H [k1, k2, k3] (3 : Int32) 10 lf))] [(.int (1 : Int32))])) (fun _ k => st57.trans (XS.iload X57.here hx rfl (hb hby at_418) rfl (XS.icmpNo X57.here hx rfl (hb hby at_420) rfl (teq (show dn = dn from rfl)).2 (XS.iconst X57.here hx rfl (hb hby at_423) (XS.goto X57.here hx rfl (pc0 := 424) (pc' := 428) rfl (hb hby at_424) (by decide) (by decide) k))))) ?_
                  refine Run.out X57 hx Bd.notSynchronized Bd.returns rfl (Or.inl ⟨rfl, by simp, _, rfl⟩) (hb hby at_428) (by decide) (by decide) ?_
                  rw [e57]
                  exact ⟨rfl, N57⟩
                · refine Run.st (S' := T50.setTop (mkF m 387 #[.val (.int p0), .val (.int p1), .val (.int p2), .val (.int p3), .val (.int (0 : Int32)), .val (.int dd), .val (.int (3 : Int32)), .val (.int qq), .val (.int (10 : Int32)), .val (.int k1), .val (.int k2), .val (.int k3), .val (.ref b2), .val (.int dn), .val (.ref b39), .val (.int x15), .val (.int x16), .val (.int x17), .unset, .unset] [(.int x17)])) (fun _ k => XS.ifNo X50.here hx rfl (hb hby at_382) rfl ((if0 _ _).trans (feq hc382_55).1) (XS.iload X50.here hx rfl (hb hby at_385) rfl k)) ?_
                  by_cases hc387_58 : x17 = (0 : Int32)
                  · refine Run.st (S' := T50.setTop (mkF m 401 #[.val (.int p0), .val (.int p1), .val (.int p2), .val (.int p3), .val (.int (0 : Int32)), .val (.int dd), .val (.int (3 : Int32)), .val (.int qq), .val (.int (10 : Int32)), .val (.int k1), .val (.int k2), .val (.int k3), .val (.ref b2), .val (.int dn), .val (.ref b39), .val (.int x15), .val (.int x16), .val (.int x17), .val (.int (0 : Int32)), .unset] [(.ref b39), (.ref b2)])) (fun _ k => XS.ifYes X50.here hx rfl (pc0 := 387) (pc' := 394) rfl (hb hby at_387) rfl ((if0 _ _).trans (teq hc387_58).1) (by decide) (by decide) (XS.iconst X50.here hx rfl (hb hby at_394) (XS.istore X50.here hx rfl (hb hby at_395) rfl (l' := #[.val (.int p0), .val (.int p1), .val (.int p2), .val (.int p3), .val (.int (0 : Int32)), .val (.int dd), .val (.int (3 : Int32)), .val (.int qq), .val (.int (10 : Int32)), .val (.int k1), .val (.int k2), .val (.int k3), .val (.ref b2), .val (.int dn), .val (.ref b39), .val (.int x15), .val (.int x16), .val (.int x17), .val (.int (0 : Int32)), .unset]) rfl (XS.aload X50.here hx rfl (hb hby at_397) rfl rfl (XS.aload X50.here hx rfl (hb hby at_399) rfl rfl k))))) ?_
                    obtain ⟨cq59, kq59, q59a, q59b, q59c⟩ := isOf hZ e50 E_b2
                    obtain ⟨_, _, ⟨T59, L59, k59, n59⟩, -, X59, ⟨Lc59, hQ59, l59, y59, z59⟩, st59⟩ := X50.virtualBack hx (y := (⟨"com/example/sidewager/sidewager/analysis/Shoe", "holds", "([I)Z"⟩ : MethodName)) (z := (⟨"com/example/sidewager/sidewager/analysis/Shoe", "holds", "([I)Z"⟩ : MethodName)) hown (mvT hZ (hwi hw 91 rfl)) (mvT hZ (hwi hw 92 rfl)) (notFace_of_selects (args := #[]) (mvT hZ (hwi hw 94 rfl))) (mvT hZ (hwi hw 94 rfl)) (mvT hZ (hwi hw 93 rfl)) (by decide) (backOf (W := 0) (rmHoI l Z aV hw [] b2 b39 b4_2 kb4_2 lf k39 ([k1, k2, k3]) (3 : Int32) h42 n0 Zn (by decide) (by decide) (own_hks3 hk1 hk2 hk3) F_left_b2 V_b4_2 V_b39) hZ (hwi hw 95 rfl) (hwi hw 3 rfl) (by decide) (by decide)) q59a q59c (g := (mkF m 401 #[.val (.int p0), .val (.int p1), .val (.int p2), .val (.int p3), .val (.int (0 : Int32)), .val (.int dd), .val (.int (3 : Int32)), .val (.int qq), .val (.int (10 : Int32)), .val (.int k1), .val (.int k2), .val (.int k3), .val (.ref b2), .val (.int dn), .val (.ref b39), .val (.int x15), .val (.int x16), .val (.int x17), .val (.int (0 : Int32)), .unset] [(.ref b39), (.ref b2)])) rfl (by rw [hml]; rfl) (Steps.refl _) (argsL := [(.ref b39)]) (rest := []) (lenOf pd_8 rfl) rfl (by show 2 * 0 + _ ≤ _; exact Nat.le_of_eq rfl) (hb hby at_401) (fun _ _ => ⟨rfl, e50, (by decide : 8 + 1 ≤ _), (by decide : 60 + 10 ≤ _)⟩)
                    dsimp only [Pt.U, Pt.locs, Pt.cells, Pt.slots] at X59 l59 y59 z59 st59 hQ59
                    replace l59 := l59.symm; replace y59 := y59.symm; replace z59 := z59.symm; subst l59 y59 z59
                    obtain ⟨rfl, N59q, K59⟩ := hQ59
                    have OL := OL.keep K59 all0
                    have E_b2 := E_b2.keep K59
                    have F_left_b2 := F_left_b2.keep K59 nin0
                    have F_dealt_b2 := F_dealt_b2.keep K59 nin0
                    have V_b4_2 := V_b4_2.keep K59 nin0
                    have V_b39 := V_b39.keep K59 nin0
                    have Kp := Kp.trans K59 all0
                    have Zn := Nat.le_trans Zn K59.1
                    have N59 := Fr.app N50 N59q
                    refine Run.st (S' := T59.setTop (mkF m 415 #[.val (.int p0), .val (.int p1), .val (.int p2), .val (.int p3), .val (.int (0 : Int32)), .val (.int dd), .val (.int (3 : Int32)), .val (.int qq), .val (.int (10 : Int32)), .val (.int k1), .val (.int k2), .val (.int k3), .val (.ref b2), .val (.int dn), .val (.ref b39), .val (.int x15), .val (.int x16), .val (.int x17), .val (.int (0 : Int32)), .val (.int (own_H [k1, k2, k3] (3 : Int32) 10 lf))] [(.ref b2)])) (fun _ k => st59.trans (XS.istore X59.here hx rfl (hb hby at_404) rfl (l' := #[.val (.int p0), .val (.int p1), .val (.int p2), .val (.int p3), .val (.int (0 : Int32)), .val (.int dd), .val (.int (3 : Int32)), .val (.int qq), .val (.int (10 : Int32)), .val (.int k1), .val (.int k2), .val (.int k3), .val (.ref b2), .val (.int dn), .val (.ref b39), .val (.int x15), .val (.int x16), .val (.int x17), .val (.int (0 : Int32)), .val (.int (own_H [k1, k2, k3] (3 : Int32) 10 lf))]) rfl (XS.iload X59.here hx rfl (hb hby at_406) rfl (XS.iload X59.here hx rfl (hb hby at_408) rfl (XS.icmpNo X59.here hx rfl (hb hby at_410) rfl (teq (show (own_H [k1, k2, k3] (3 : Int32) 10 lf) = (0 : Int32) from (own_E3 (k2 := k2) (k3 := k3) (N := 10) (by decide) hk1 hk2 hk3 hyJ).trans (if_pos (Or.inr (Or.inr (own_x0 h_x17 hc387_58)))))).2 (XS.aload X59.here hx rfl (hb hby at_413) rfl rfl k)))))) ?_
                    obtain ⟨cq60, kq60, q60a, q60b, q60c⟩ := isOf hZ rfl E_b2
                    obtain ⟨_, _, ⟨T60, L60, k60, n60⟩, -, X60, ⟨Lc60, hQ60, l60, y60, z60⟩, st60⟩ := X59.virtualBack hx (y := (⟨"com/example/sidewager/sidewager/analysis/Shoe", "dealt", "()I"⟩ : MethodName)) (z := (⟨"com/example/sidewager/sidewager/analysis/Shoe", "dealt", "()I"⟩ : MethodName)) hown (mvT hZ (hwi hw 96 rfl)) (mvT hZ (hwi hw 97 rfl)) (notFace_of_selects (args := #[]) (mvT hZ (hwi hw 99 rfl))) (mvT hZ (hwi hw 99 rfl)) (mvT hZ (hwi hw 98 rfl)) (by decide) (backOf (W := 0) (rmDt l Z aV hw [] b2 dn T59.heap n0 Zn F_dealt_b2) hZ (hwi hw 100 rfl) (hwi hw 3 rfl) (by decide) (by decide)) q60a q60c (g := (mkF m 415 #[.val (.int p0), .val (.int p1), .val (.int p2), .val (.int p3), .val (.int (0 : Int32)), .val (.int dd), .val (.int (3 : Int32)), .val (.int qq), .val (.int (10 : Int32)), .val (.int k1), .val (.int k2), .val (.int k3), .val (.ref b2), .val (.int dn), .val (.ref b39), .val (.int x15), .val (.int x16), .val (.int x17), .val (.int (0 : Int32)), .val (.int (own_H [k1, k2, k3] (3 : Int32) 10 lf))] [(.ref b2)])) rfl (by rw [hml]; rfl) (Steps.refl _) (argsL := []) (rest := []) (lenOf pd_1 rfl) rfl (by show 2 * 0 + _ ≤ _; exact Nat.le_of_eq rfl) (hb hby at_415) (fun _ _ => ⟨rfl, rfl, (by decide : 9 + 0 ≤ _), (by decide : 70 + 0 ≤ _)⟩)
                    dsimp only [Pt.U, Pt.locs, Pt.cells, Pt.slots] at X60 l60 y60 z60 st60 hQ60
                    replace l60 := l60.symm; replace y60 := y60.symm; replace z60 := z60.symm; subst l60 y60 z60
                    obtain ⟨rfl, N60q, e60⟩ := hQ60
                    have N60 := Fr.app N59 N60q
                    refine Run.st (S' := T60.setTop (mkF m 428 #[.val (.int p0), .val (.int p1), .val (.int p2), .val (.int p3), .val (.int (0 : Int32)), .val (.int dd), .val (.int (3 : Int32)), .val (.int qq), .val (.int (10 : Int32)), .val (.int k1), .val (.int k2), .val (.int k3), .val (.ref b2), .val (.int dn), .val (.ref b39), .val (.int x15), .val (.int x16), .val (.int x17), .val (.int (0 : Int32)), .val (.int (own_H [k1, k2, k3] (3 : Int32) 10 lf))] [(.int (1 : Int32))])) (fun _ k => st60.trans (XS.iload X60.here hx rfl (hb hby at_418) rfl (XS.icmpNo X60.here hx rfl (hb hby at_420) rfl (teq (show dn = dn from rfl)).2 (XS.iconst X60.here hx rfl (hb hby at_423) (XS.goto X60.here hx rfl (pc0 := 424) (pc' := 428) rfl (hb hby at_424) (by decide) (by decide) k))))) ?_
                    refine Run.out X60 hx Bd.notSynchronized Bd.returns rfl (Or.inl ⟨rfl, by simp, _, rfl⟩) (hb hby at_428) (by decide) (by decide) ?_
                    rw [e60]
                    exact ⟨rfl, N60⟩
                  · refine Run.st (S' := T50.setTop (mkF m 401 #[.val (.int p0), .val (.int p1), .val (.int p2), .val (.int p3), .val (.int (0 : Int32)), .val (.int dd), .val (.int (3 : Int32)), .val (.int qq), .val (.int (10 : Int32)), .val (.int k1), .val (.int k2), .val (.int k3), .val (.ref b2), .val (.int dn), .val (.ref b39), .val (.int x15), .val (.int x16), .val (.int x17), .val (.int (1 : Int32)), .unset] [(.ref b39), (.ref b2)])) (fun _ k => XS.ifNo X50.here hx rfl (hb hby at_387) rfl ((if0 _ _).trans (feq hc387_58).1) (XS.iconst X50.here hx rfl (hb hby at_390) (XS.goto X50.here hx rfl (pc0 := 391) (pc' := 395) rfl (hb hby at_391) (by decide) (by decide) (XS.istore X50.here hx rfl (hb hby at_395) rfl (l' := #[.val (.int p0), .val (.int p1), .val (.int p2), .val (.int p3), .val (.int (0 : Int32)), .val (.int dd), .val (.int (3 : Int32)), .val (.int qq), .val (.int (10 : Int32)), .val (.int k1), .val (.int k2), .val (.int k3), .val (.ref b2), .val (.int dn), .val (.ref b39), .val (.int x15), .val (.int x16), .val (.int x17), .val (.int (1 : Int32)), .unset]) rfl (XS.aload X50.here hx rfl (hb hby at_397) rfl rfl (XS.aload X50.here hx rfl (hb hby at_399) rfl rfl k)))))) ?_
                    obtain ⟨cq61, kq61, q61a, q61b, q61c⟩ := isOf hZ e50 E_b2
                    obtain ⟨_, _, ⟨T61, L61, k61, n61⟩, -, X61, ⟨Lc61, hQ61, l61, y61, z61⟩, st61⟩ := X50.virtualBack hx (y := (⟨"com/example/sidewager/sidewager/analysis/Shoe", "holds", "([I)Z"⟩ : MethodName)) (z := (⟨"com/example/sidewager/sidewager/analysis/Shoe", "holds", "([I)Z"⟩ : MethodName)) hown (mvT hZ (hwi hw 91 rfl)) (mvT hZ (hwi hw 92 rfl)) (notFace_of_selects (args := #[]) (mvT hZ (hwi hw 94 rfl))) (mvT hZ (hwi hw 94 rfl)) (mvT hZ (hwi hw 93 rfl)) (by decide) (backOf (W := 0) (rmHoI l Z aV hw [] b2 b39 b4_2 kb4_2 lf k39 ([k1, k2, k3]) (3 : Int32) h42 n0 Zn (by decide) (by decide) (own_hks3 hk1 hk2 hk3) F_left_b2 V_b4_2 V_b39) hZ (hwi hw 95 rfl) (hwi hw 3 rfl) (by decide) (by decide)) q61a q61c (g := (mkF m 401 #[.val (.int p0), .val (.int p1), .val (.int p2), .val (.int p3), .val (.int (0 : Int32)), .val (.int dd), .val (.int (3 : Int32)), .val (.int qq), .val (.int (10 : Int32)), .val (.int k1), .val (.int k2), .val (.int k3), .val (.ref b2), .val (.int dn), .val (.ref b39), .val (.int x15), .val (.int x16), .val (.int x17), .val (.int (1 : Int32)), .unset] [(.ref b39), (.ref b2)])) rfl (by rw [hml]; rfl) (Steps.refl _) (argsL := [(.ref b39)]) (rest := []) (lenOf pd_8 rfl) rfl (by show 2 * 0 + _ ≤ _; exact Nat.le_of_eq rfl) (hb hby at_401) (fun _ _ => ⟨rfl, e50, (by decide : 8 + 1 ≤ _), (by decide : 60 + 10 ≤ _)⟩)
                    dsimp only [Pt.U, Pt.locs, Pt.cells, Pt.slots] at X61 l61 y61 z61 st61 hQ61
                    replace l61 := l61.symm; replace y61 := y61.symm; replace z61 := z61.symm; subst l61 y61 z61
                    obtain ⟨rfl, N61q, K61⟩ := hQ61
                    have OL := OL.keep K61 all0
                    have E_b2 := E_b2.keep K61
                    have F_left_b2 := F_left_b2.keep K61 nin0
                    have F_dealt_b2 := F_dealt_b2.keep K61 nin0
                    have V_b4_2 := V_b4_2.keep K61 nin0
                    have V_b39 := V_b39.keep K61 nin0
                    have Kp := Kp.trans K61 all0
                    have Zn := Nat.le_trans Zn K61.1
                    have N61 := Fr.app N50 N61q
                    refine Run.st (S' := T61.setTop (mkF m 415 #[.val (.int p0), .val (.int p1), .val (.int p2), .val (.int p3), .val (.int (0 : Int32)), .val (.int dd), .val (.int (3 : Int32)), .val (.int qq), .val (.int (10 : Int32)), .val (.int k1), .val (.int k2), .val (.int k3), .val (.ref b2), .val (.int dn), .val (.ref b39), .val (.int x15), .val (.int x16), .val (.int x17), .val (.int (1 : Int32)), .val (.int (own_H [k1, k2, k3] (3 : Int32) 10 lf))] [(.ref b2)])) (fun _ k => st61.trans (XS.istore X61.here hx rfl (hb hby at_404) rfl (l' := #[.val (.int p0), .val (.int p1), .val (.int p2), .val (.int p3), .val (.int (0 : Int32)), .val (.int dd), .val (.int (3 : Int32)), .val (.int qq), .val (.int (10 : Int32)), .val (.int k1), .val (.int k2), .val (.int k3), .val (.ref b2), .val (.int dn), .val (.ref b39), .val (.int x15), .val (.int x16), .val (.int x17), .val (.int (1 : Int32)), .val (.int (own_H [k1, k2, k3] (3 : Int32) 10 lf))]) rfl (XS.iload X61.here hx rfl (hb hby at_406) rfl (XS.iload X61.here hx rfl (hb hby at_408) rfl (XS.icmpNo X61.here hx rfl (hb hby at_410) rfl (teq (show (own_H [k1, k2, k3] (3 : Int32) 10 lf) = (1 : Int32) from (own_E3 (k2 := k2) (k3 := k3) (N := 10) (by decide) hk1 hk2 hk3 hyJ).trans (if_neg (fun z => z.elim (own_x1 h_x15 hc377_52) (fun z => z.elim (own_x1 h_x16 hc382_55) (own_x1 h_x17 hc387_58)))))).2 (XS.aload X61.here hx rfl (hb hby at_413) rfl rfl k)))))) ?_
                    obtain ⟨cq62, kq62, q62a, q62b, q62c⟩ := isOf hZ rfl E_b2
                    obtain ⟨_, _, ⟨T62, L62, k62, n62⟩, -, X62, ⟨Lc62, hQ62, l62, y62, z62⟩, st62⟩ := X61.virtualBack hx (y := (⟨"com/example/sidewager/sidewager/analysis/Shoe", "dealt", "()I"⟩ : MethodName)) (z := (⟨"com/example/sidewager/sidewager/analysis/Shoe", "dealt", "()I"⟩ : MethodName)) hown (mvT hZ (hwi hw 96 rfl)) (mvT hZ (hwi hw 97 rfl)) (notFace_of_selects (args := #[]) (mvT hZ (hwi hw 99 rfl))) (mvT hZ (hwi hw 99 rfl)) (mvT hZ (hwi hw 98 rfl)) (by decide) (backOf (W := 0) (rmDt l Z aV hw [] b2 dn T61.heap n0 Zn F_dealt_b2) hZ (hwi hw 100 rfl) (hwi hw 3 rfl) (by decide) (by decide)) q62a q62c (g := (mkF m 415 #[.val (.int p0), .val (.int p1), .val (.int p2), .val (.int p3), .val (.int (0 : Int32)), .val (.int dd), .val (.int (3 : Int32)), .val (.int qq), .val (.int (10 : Int32)), .val (.int k1), .val (.int k2), .val (.int k3), .val (.ref b2), .val (.int dn), .val (.ref b39), .val (.int x15), .val (.int x16), .val (.int x17), .val (.int (1 : Int32)), .val (.int (own_H [k1, k2, k3] (3 : Int32) 10 lf))] [(.ref b2)])) rfl (by rw [hml]; rfl) (Steps.refl _) (argsL := []) (rest := []) (lenOf pd_1 rfl) rfl (by show 2 * 0 + _ ≤ _; exact Nat.le_of_eq rfl) (hb hby at_415) (fun _ _ => ⟨rfl, rfl, (by decide : 9 + 0 ≤ _), (by decide : 70 + 0 ≤ _)⟩)
                    dsimp only [Pt.U, Pt.locs, Pt.cells, Pt.slots] at X62 l62 y62 z62 st62 hQ62
                    replace l62 := l62.symm; replace y62 := y62.symm; replace z62 := z62.symm; subst l62 y62 z62
                    obtain ⟨rfl, N62q, e62⟩ := hQ62
                    have N62 := Fr.app N61 N62q
                    refine Run.st (S' := T62.setTop (mkF m 428 #[.val (.int p0), .val (.int p1), .val (.int p2), .val (.int p3), .val (.int (0 : Int32)), .val (.int dd), .val (.int (3 : Int32)), .val (.int qq), .val (.int (10 : Int32)), .val (.int k1), .val (.int k2), .val (.int k3), .val (.ref b2), .val (.int dn), .val (.ref b39), .val (.int x15), .val (.int x16), .val (.int x17), .val (.int (1 : Int32)), .val (.int (own_H [k1, k2, k3] (3 : Int32) 10 lf))] [(.int (1 : Int32))])) (fun _ k => st62.trans (XS.iload X62.here hx rfl (hb hby at_418) rfl (XS.icmpNo X62.here hx rfl (hb hby at_420) rfl (teq (show dn = dn from rfl)).2 (XS.iconst X62.here hx rfl (hb hby at_423) (XS.goto X62.here hx rfl (pc0 := 424) (pc' := 428) rfl (hb hby at_424) (by decide) (by decide) k))))) ?_
                    refine Run.out X62 hx Bd.notSynchronized Bd.returns rfl (Or.inl ⟨rfl, by simp, _, rfl⟩) (hb hby at_428) (by decide) (by decide) ?_
                    rw [e62]
                    exact ⟨rfl, N62⟩
            by_cases hc365_63 : (FLeft (0 : Int32) dd k1 dn k3) < (FCnt k3 (3 : Int32) k1 k2 k3)
            · refine Run.st (S' := T50.setTop (mkF m 375 #[.val (.int p0), .val (.int p1), .val (.int p2), .val (.int p3), .val (.int (0 : Int32)), .val (.int dd), .val (.int (3 : Int32)), .val (.int qq), .val (.int (10 : Int32)), .val (.int k1), .val (.int k2), .val (.int k3), .val (.ref b2), .val (.int dn), .val (.ref b39), .val (.int x15), .val (.int x16), .val (.int (0 : Int32)), .unset, .unset] [])) (fun _ k => XS.icmpYes X50.here hx rfl (pc0 := 365) (pc' := 372) rfl (hb hby at_365) rfl (tlt hc365_63).2.2.1 (by decide) (by decide) (XS.iconst X50.here hx rfl (hb hby at_372) (XS.istore X50.here hx rfl (hb hby at_373) rfl (l' := #[.val (.int p0), .val (.int p1), .val (.int p2), .val (.int p3), .val (.int (0 : Int32)), .val (.int dd), .val (.int (3 : Int32)), .val (.int qq), .val (.int (10 : Int32)), .val (.int k1), .val (.int k2), .val (.int k3), .val (.ref b2), .val (.int dn), .val (.ref b39), .val (.int x15), .val (.int x16), .val (.int (0 : Int32)), .unset, .unset]) rfl k))) ?_
              exact J375_51 (0 : Int32) (if_pos hc365_63).symm
            · refine Run.st (S' := T50.setTop (mkF m 375 #[.val (.int p0), .val (.int p1), .val (.int p2), .val (.int p3), .val (.int (0 : Int32)), .val (.int dd), .val (.int (3 : Int32)), .val (.int qq), .val (.int (10 : Int32)), .val (.int k1), .val (.int k2), .val (.int k3), .val (.ref b2), .val (.int dn), .val (.ref b39), .val (.int x15), .val (.int x16), .val (.int (1 : Int32)), .unset, .unset] [])) (fun _ k => XS.icmpNo X50.here hx rfl (hb hby at_365) rfl (flt hc365_63).2.2.1 (XS.iconst X50.here hx rfl (hb hby at_368) (XS.goto X50.here hx rfl (pc0 := 369) (pc' := 373) rfl (hb hby at_369) (by decide) (by decide) (XS.istore X50.here hx rfl (hb hby at_373) rfl (l' := #[.val (.int p0), .val (.int p1), .val (.int p2), .val (.int p3), .val (.int (0 : Int32)), .val (.int dd), .val (.int (3 : Int32)), .val (.int qq), .val (.int (10 : Int32)), .val (.int k1), .val (.int k2), .val (.int k3), .val (.ref b2), .val (.int dn), .val (.ref b39), .val (.int x15), .val (.int x16), .val (.int (1 : Int32)), .unset, .unset]) rfl k)))) ?_
              exact J375_51 (1 : Int32) (if_neg hc365_63).symm
          by_cases hc323_64 : (FLeft (0 : Int32) dd k1 dn k2) < (FCnt k2 (3 : Int32) k1 k2 k3)
          · refine Run.st (S' := T47.setTop (mkF m 333 #[.val (.int p0), .val (.int p1), .val (.int p2), .val (.int p3), .val (.int (0 : Int32)), .val (.int dd), .val (.int (3 : Int32)), .val (.int qq), .val (.int (10 : Int32)), .val (.int k1), .val (.int k2), .val (.int k3), .val (.ref b2), .val (.int dn), .val (.ref b39), .val (.int x15), .val (.int (0 : Int32)), .unset, .unset, .unset] [])) (fun _ k => XS.icmpYes X47.here hx rfl (pc0 := 323) (pc' := 330) rfl (hb hby at_323) rfl (tlt hc323_64).2.2.1 (by decide) (by decide) (XS.iconst X47.here hx rfl (hb hby at_330) (XS.istore X47.here hx rfl (hb hby at_331) rfl (l' := #[.val (.int p0), .val (.int p1), .val (.int p2), .val (.int p3), .val (.int (0 : Int32)), .val (.int dd), .val (.int (3 : Int32)), .val (.int qq), .val (.int (10 : Int32)), .val (.int k1), .val (.int k2), .val (.int k3), .val (.ref b2), .val (.int dn), .val (.ref b39), .val (.int x15), .val (.int (0 : Int32)), .unset, .unset, .unset]) rfl k))) ?_
            exact J333_48 (0 : Int32) (if_pos hc323_64).symm
          · refine Run.st (S' := T47.setTop (mkF m 333 #[.val (.int p0), .val (.int p1), .val (.int p2), .val (.int p3), .val (.int (0 : Int32)), .val (.int dd), .val (.int (3 : Int32)), .val (.int qq), .val (.int (10 : Int32)), .val (.int k1), .val (.int k2), .val (.int k3), .val (.ref b2), .val (.int dn), .val (.ref b39), .val (.int x15), .val (.int (1 : Int32)), .unset, .unset, .unset] [])) (fun _ k => XS.icmpNo X47.here hx rfl (hb hby at_323) rfl (flt hc323_64).2.2.1 (XS.iconst X47.here hx rfl (hb hby at_326) (XS.goto X47.here hx rfl (pc0 := 327) (pc' := 331) rfl (hb hby at_327) (by decide) (by decide) (XS.istore X47.here hx rfl (hb hby at_331) rfl (l' := #[.val (.int p0), .val (.int p1), .val (.int p2), .val (.int p3), .val (.int (0 : Int32)), .val (.int dd), .val (.int (3 : Int32)), .val (.int qq), .val (.int (10 : Int32)), .val (.int k1), .val (.int k2), .val (.int k3), .val (.ref b2), .val (.int dn), .val (.ref b39), .val (.int x15), .val (.int (1 : Int32)), .unset, .unset, .unset]) rfl k)))) ?_
            exact J333_48 (1 : Int32) (if_neg hc323_64).symm
        by_cases hc281_65 : (FLeft (0 : Int32) dd k1 dn k1) < (FCnt k1 (3 : Int32) k1 k2 k3)
        · refine Run.st (S' := T44.setTop (mkF m 291 #[.val (.int p0), .val (.int p1), .val (.int p2), .val (.int p3), .val (.int (0 : Int32)), .val (.int dd), .val (.int (3 : Int32)), .val (.int qq), .val (.int (10 : Int32)), .val (.int k1), .val (.int k2), .val (.int k3), .val (.ref b2), .val (.int dn), .val (.ref b39), .val (.int (0 : Int32)), .unset, .unset, .unset, .unset] [])) (fun _ k => XS.icmpYes X44.here hx rfl (pc0 := 281) (pc' := 288) rfl (hb hby at_281) rfl (tlt hc281_65).2.2.1 (by decide) (by decide) (XS.iconst X44.here hx rfl (hb hby at_288) (XS.istore X44.here hx rfl (hb hby at_289) rfl (l' := #[.val (.int p0), .val (.int p1), .val (.int p2), .val (.int p3), .val (.int (0 : Int32)), .val (.int dd), .val (.int (3 : Int32)), .val (.int qq), .val (.int (10 : Int32)), .val (.int k1), .val (.int k2), .val (.int k3), .val (.ref b2), .val (.int dn), .val (.ref b39), .val (.int (0 : Int32)), .unset, .unset, .unset, .unset]) rfl k))) ?_
          exact J291_45 (0 : Int32) (if_pos hc281_65).symm
        · refine Run.st (S' := T44.setTop (mkF m 291 #[.val (.int p0), .val (.int p1), .val (.int p2), .val (.int p3), .val (.int (0 : Int32)), .val (.int dd), .val (.int (3 : Int32)), .val (.int qq), .val (.int (10 : Int32)), .val (.int k1), .val (.int k2), .val (.int k3), .val (.ref b2), .val (.int dn), .val (.ref b39), .val (.int (1 : Int32)), .unset, .unset, .unset, .unset] [])) (fun _ k => XS.icmpNo X44.here hx rfl (hb hby at_281) rfl (flt hc281_65).2.2.1 (XS.iconst X44.here hx rfl (hb hby at_284) (XS.goto X44.here hx rfl (pc0 := 285) (pc' := 289) rfl (hb hby at_285) (by decide) (by decide) (XS.istore X44.here hx rfl (hb hby at_289) rfl (l' := #[.val (.int p0), .val (.int p1), .val (.int p2), .val (.int p3), .val (.int (0 : Int32)), .val (.int dd), .val (.int (3 : Int32)), .val (.int qq), .val (.int (10 : Int32)), .val (.int k1), .val (.int k2), .val (.int k3), .val (.ref b2), .val (.int dn), .val (.ref b39), .val (.int (1 : Int32)), .unset, .unset, .unset, .unset]) rfl k)))) ?_
          exact J291_45 (1 : Int32) (if_neg hc281_65).symm
    refine Run.st (S' := T4.setTop (mkF m 118 #[.val (.int p0), .val (.int p1), .val (.int p2), .val (.int p3), .val (.int (0 : Int32)), .val (.int dd), .val (.int nn), .val (.int qq), .val (.int (10 : Int32)), .val (.int k1), .val (.int k2), .val (.int k3), .val (.ref b2), .val (.int (0 : Int32)), .unset, .unset, .unset, .unset, .unset, .unset] [])) (fun _ k => XS.iconst X4.here hx rfl (hb hby at_103) (XS.istore X4.here hx rfl (hb hby at_104) rfl (l' := #[.val (.int p0), .val (.int p1), .val (.int p2), .val (.int p3), .val (.int (0 : Int32)), .val (.int dd), .val (.int nn), .val (.int qq), .val (.int (10 : Int32)), .val (.int k1), .val (.int k2), .val (.int k3), .val (.ref b2), .val (.int (0 : Int32)), .unset, .unset, .unset, .unset, .unset, .unset]) rfl (XS.iload X4.here hx rfl (hb hby at_106) rfl (XS.ifYes X4.here hx rfl (pc0 := 108) (pc' := 118) rfl (hb hby at_108) rfl ((if0 _ _).trans (teq (show (0 : Int32) = (0 : Int32) from (by decide))).1) (by decide) (by decide) k)))) ?_
    have hk10 := hk1
    refine Run.st (S' := T4.setTop (mkF m 126 #[.val (.int p0), .val (.int p1), .val (.int p2), .val (.int p3), .val (.int (0 : Int32)), .val (.int dd), .val (.int nn), .val (.int qq), .val (.int (10 : Int32)), .val (.int k1), .val (.int k2), .val (.int k3), .val (.ref b2), .val (.int (0 : Int32)), .unset, .unset, .unset, .unset, .unset, .unset] [(.int k1), (.int dd), (.int (0 : Int32)), (.int qq)])) (fun _ k => XS.iload X4.here hx rfl (hb hby at_118) rfl (XS.iload X4.here hx rfl (hb hby at_120) rfl (XS.iload X4.here hx rfl (hb hby at_122) rfl (XS.iload X4.here hx rfl (hb hby at_124) rfl k)))) ?_
    obtain ⟨_, _, ⟨T66, L66, k66, n66⟩, -, X66, ⟨Lc66, hQ66, l66, y66, z66⟩, st66⟩ := Jvm.LawKit.callS X4 hx (y := (⟨"com/example/sidewager/sidewager/analysis/ShoeHoldsPinLaw", "full", "(ZII)I"⟩ : MethodName)) hown (mvT hZ (hwi hw 86 rfl)) (mvT hZ (hwi hw 87 rfl)) (mvT hZ (hwi hw 88 rfl)) (mvT hZ (hwi hw 89 rfl)) (by decide) (backOf (W := 1) (rmFull l Z aV hw [] (0 : Int32) dd k1 T4.heap n0 Zn ) hZ (hwi hw 89 rfl) (hwi hw 88 rfl) (by decide) (by decide)) (g := (mkF m 126 #[.val (.int p0), .val (.int p1), .val (.int p2), .val (.int p3), .val (.int (0 : Int32)), .val (.int dd), .val (.int nn), .val (.int qq), .val (.int (10 : Int32)), .val (.int k1), .val (.int k2), .val (.int k3), .val (.ref b2), .val (.int (0 : Int32)), .unset, .unset, .unset, .unset, .unset, .unset] [(.int k1), (.int dd), (.int (0 : Int32)), (.int qq)])) rfl (by rw [hml]; rfl) (argsL := [(.int (0 : Int32)), (.int dd), (.int k1)]) (rest := [(.int qq)]) (lenOf pd_0 rfl) rfl (by show 2 * 0 + _ ≤ _; exact Nat.le_of_eq rfl) (hb hby at_126) (fun _ _ => ⟨rfl, rfl, (by decide : 7 + 0 ≤ _), (by decide : 57 + 0 ≤ _)⟩)
    dsimp only [Pt.U, Pt.locs, Pt.cells, Pt.slots] at X66 l66 y66 z66 st66 hQ66
    replace l66 := l66.symm; replace y66 := y66.symm; replace z66 := z66.symm; subst l66 y66 z66
    obtain ⟨rfl, N66q, e66⟩ := hQ66
    have N66 := Fr.app N4 N66q
    refine Run.st (S' := T66.setTop (mkF m 129 #[.val (.int p0), .val (.int p1), .val (.int p2), .val (.int p3), .val (.int (0 : Int32)), .val (.int dd), .val (.int nn), .val (.int qq), .val (.int (10 : Int32)), .val (.int k1), .val (.int k2), .val (.int k3), .val (.ref b2), .val (.int (0 : Int32)), .unset, .unset, .unset, .unset, .unset, .unset] [(.int (FFull (0 : Int32) dd k1)), (.int qq)])) (fun _ k => st66 _ k) ?_
    obtain ⟨_, _, ⟨T67, L67, k67, n67⟩, -, X67, ⟨Lc67, hQ67, l67, y67, z67⟩, st67⟩ := Jvm.LawKit.callS X66 hx (y := (⟨"java/lang/Math", "min", "(II)I"⟩ : MethodName)) hown (mvT hZ (hwi hw 90 rfl)) (mvT hZ (hwi hw 68 rfl)) (mvT hZ (hwi hw 69 rfl)) (mvT hZ (hwi hw 70 rfl)) (by decide) (backOf (W := 0) (rmMin l Z aV hw [] qq (FFull (0 : Int32) dd k1) T4.heap n0 Zn ) hZ (hwi hw 70 rfl) (hwi hw 69 rfl) (by decide) (by decide)) (g := (mkF m 129 #[.val (.int p0), .val (.int p1), .val (.int p2), .val (.int p3), .val (.int (0 : Int32)), .val (.int dd), .val (.int nn), .val (.int qq), .val (.int (10 : Int32)), .val (.int k1), .val (.int k2), .val (.int k3), .val (.ref b2), .val (.int (0 : Int32)), .unset, .unset, .unset, .unset, .unset, .unset] [(.int (FFull (0 : Int32) dd k1)), (.int qq)])) rfl (by rw [hml]; rfl) (argsL := [(.int qq), (.int (FFull (0 : Int32) dd k1))]) (rest := []) (lenOf pd_2 rfl) rfl (by show 2 * 0 + _ ≤ _; exact Nat.le_of_eq rfl) (hb hby at_129) (fun _ _ => ⟨rfl, e66, (by decide : 7 + 0 ≤ _), (by decide : 57 + 0 ≤ _)⟩)
    dsimp only [Pt.U, Pt.locs, Pt.cells, Pt.slots] at X67 l67 y67 z67 st67 hQ67
    replace l67 := l67.symm; replace y67 := y67.symm; replace z67 := z67.symm; subst l67 y67 z67
    obtain ⟨rfl, N67q, e67⟩ := hQ67
    have N67 := Fr.app N66 N67q
    refine Run.st (S' := T67.setTop (mkF m 134 #[.val (.int p0), .val (.int p1), .val (.int p2), .val (.int p3), .val (.int (0 : Int32)), .val (.int dd), .val (.int nn), .val (.int qq), .val (.int (10 : Int32)), .val (.int k1), .val (.int k2), .val (.int k3), .val (.ref b2), .val (.int (FMin qq (FFull (0 : Int32) dd k1))), .unset, .unset, .unset, .unset, .unset, .unset] [])) (fun _ k => st67 _ (XS.istore X67.here hx rfl (hb hby at_132) rfl (l' := #[.val (.int p0), .val (.int p1), .val (.int p2), .val (.int p3), .val (.int (0 : Int32)), .val (.int dd), .val (.int nn), .val (.int qq), .val (.int (10 : Int32)), .val (.int k1), .val (.int k2), .val (.int k3), .val (.ref b2), .val (.int (FMin qq (FFull (0 : Int32) dd k1))), .unset, .unset, .unset, .unset, .unset, .unset]) rfl k)) ?_
    generalize edn : (FMin qq (FFull (0 : Int32) dd k1)) = dn
    have hdn : 0 ≤ dn.toInt ∧ dn.toInt < 4 := own_dnr hdd hqq edn
    rcases own_c4 hdn with rfl | rfl | rfl | rfl
    · refine Run.st (S' := T67.setTop (mkF m 163 #[.val (.int p0), .val (.int p1), .val (.int p2), .val (.int p3), .val (.int (0 : Int32)), .val (.int dd), .val (.int nn), .val (.int qq), .val (.int (10 : Int32)), .val (.int k1), .val (.int k2), .val (.int k3), .val (.ref b2), .val (.int (0 : Int32)), .unset, .unset, .unset, .unset, .unset, .unset] [(.int (3 : Int32)), (.int (0 : Int32))])) (fun _ k => XS.iload X67.here hx rfl (hb hby at_134) rfl (XS.iconst X67.here hx rfl (hb hby at_136) (XS.icmpYes X67.here hx rfl (pc0 := 137) (pc' := 147) rfl (hb hby at_137) rfl (tlt (show (0 : Int32) < (1 : Int32) from (by decide))).1 (by decide) (by decide) (XS.iload X67.here hx rfl (hb hby at_147) rfl (XS.iconst X67.here hx rfl (hb hby at_149) (XS.icmpYes X67.here hx rfl (pc0 := 150) (pc' := 160) rfl (hb hby at_150) rfl (tlt (show (0 : Int32) < (2 : Int32) from (by decide))).1 (by decide) (by decide) (XS.iload X67.here hx rfl (hb hby at_160) rfl (XS.iconst X67.here hx rfl (hb hby at_162) k)))))))) ?_
      refine Run.st (S' := T67.setTop (mkF m 173 #[.val (.int p0), .val (.int p1), .val (.int p2), .val (.int p3), .val (.int (0 : Int32)), .val (.int dd), .val (.int nn), .val (.int qq), .val (.int (10 : Int32)), .val (.int k1), .val (.int k2), .val (.int k3), .val (.ref b2), .val (.int (0 : Int32)), .unset, .unset, .unset, .unset, .unset, .unset] [])) (fun _ k => XS.icmpYes X67.here hx rfl (pc0 := 163) (pc' := 173) rfl (hb hby at_163) rfl (tlt (show (0 : Int32) < (3 : Int32) from (by decide))).1 (by decide) (by decide) k) ?_
      exact JH5 (0 : Int32) (own_it k1 0 (own_full (own_v dd (1 : Int32)) 1)) _ _ ⟨_, X67, N67, e67⟩ Zn Kp OL E_b2 F_left_b2 F_dealt_b2 V_b4_2 (own_okI 0 hdd hk1).1
    · refine Run.st (S' := T67.setTop (mkF m 144 #[.val (.int p0), .val (.int p1), .val (.int p2), .val (.int p3), .val (.int (0 : Int32)), .val (.int dd), .val (.int nn), .val (.int qq), .val (.int (10 : Int32)), .val (.int k1), .val (.int k2), .val (.int k3), .val (.ref b2), .val (.int (1 : Int32)), .unset, .unset, .unset, .unset, .unset, .unset] [(.int k1), (.ref b2)])) (fun _ k => XS.iload X67.here hx rfl (hb hby at_134) rfl (XS.iconst X67.here hx rfl (hb hby at_136) (XS.icmpNo X67.here hx rfl (hb hby at_137) rfl (flt (show ¬ ((1 : Int32) < (1 : Int32)) from (by decide))).1 (XS.aload X67.here hx rfl (hb hby at_140) rfl rfl (XS.iload X67.here hx rfl (hb hby at_142) rfl k))))) ?_
      obtain ⟨cq68, kq68, q68a, q68b, q68c⟩ := isOf hZ e67 E_b2
      obtain ⟨_, _, ⟨T68, L68, k68, n68⟩, -, X68, ⟨Lc68, hQ68, l68, y68, z68⟩, st68⟩ := X67.virtualBack hx (y := (⟨"com/example/sidewager/sidewager/analysis/Shoe", "deal", "(I)V"⟩ : MethodName)) (z := (⟨"com/example/sidewager/sidewager/analysis/Shoe", "deal", "(I)V"⟩ : MethodName)) hown (mvT hZ (hwi hw 110 rfl)) (mvT hZ (hwi hw 111 rfl)) (notFace_of_selects (args := #[]) (mvT hZ (hwi hw 113 rfl))) (mvT hZ (hwi hw 113 rfl)) (mvT hZ (hwi hw 112 rfl)) (by decide) (backOf (W := 0) (rmDlI l Z aV hw [] b2 k1 u s_MAT b4_2 kb4_2 (own_it k1 0 (own_full (own_v dd (1 : Int32)) 1)) b4_0 kb4_0 (own_ir (k1 % (10 : Int32)) 0 (List.replicate 10 (0 : Int32))) b4_1 kb4_1 (own_ir (k1 / (10 : Int32)) 0 (List.replicate 4 (0 : Int32))) (0 : Int32) (0 : Int64) T4.heap n0 Zn OL hne hk10 (own_itl _ _ _ (own_fl1 dd)) (own_okR 0 hk10).1 (own_okR 0 hk10).2.2.1 (own_wI ((own_okI 0 hdd hk10).2 (by decide))) (own_okR 0 hk10).2.1 g_b2 g_b4_2 g_b4_0 g_b4_1 ne_b2_b4_2 ne_b2_b4_0 ne_b2_b4_1 (Ne.symm ne_b4_0_b4_2) (Ne.symm ne_b4_1_b4_2) ne_b4_0_b4_1 E_b2 F_suits_b2 F_left_b2 F_dealtOfRank_b2 F_dealtOfSuit_b2 F_suitsDealt_b2 F_dealt_b2 F_dealtKey_b2 V_b4_2 V_b4_0 V_b4_1 S_IGN S_MAT S_SUITS) hZ (hwi hw 114 rfl) (hwi hw 3 rfl) (by decide) (by decide)) q68a q68c (g := (mkF m 144 #[.val (.int p0), .val (.int p1), .val (.int p2), .val (.int p3), .val (.int (0 : Int32)), .val (.int dd), .val (.int nn), .val (.int qq), .val (.int (10 : Int32)), .val (.int k1), .val (.int k2), .val (.int k3), .val (.ref b2), .val (.int (1 : Int32)), .unset, .unset, .unset, .unset, .unset, .unset] [(.int k1), (.ref b2)])) rfl (by rw [hml]; rfl) (Steps.refl _) (argsL := [(.int k1)]) (rest := []) (lenOf pd_11 rfl) rfl (by show 2 * 0 + _ ≤ _; exact Nat.le_of_eq rfl) (hb hby at_144) (fun _ _ => ⟨rfl, e67, (by decide : 7 + 0 ≤ _), (by decide : 57 + 0 ≤ _)⟩)
      dsimp only [Pt.U, Pt.locs, Pt.cells, Pt.slots] at X68 l68 y68 z68 st68 hQ68
      replace l68 := l68.symm; replace y68 := y68.symm; replace z68 := z68.symm; subst l68 y68 z68
      obtain ⟨rfl, N68q, K68, q68_0, q68_1, q68_2, q68_3, q68_4, q68_5, q68_6, q68_7, q68_8, q68_9⟩ := hQ68
      have OL := OL.keep K68 (allS g_b2 (allS g_b4_2 (allS g_b4_0 all0)))
      have V_b4_1 := V_b4_1.keep K68 (ninS (Ne.symm ne_b2_b4_1) (ninS ne_b4_1_b4_2 (ninS (Ne.symm ne_b4_0_b4_1) nin0)))
      have E_b2 := q68_0
      have F_suits_b2 := q68_1
      have F_left_b2 := q68_2
      have F_dealtOfRank_b2 := q68_3
      have F_dealtOfSuit_b2 := q68_4
      have F_suitsDealt_b2 := q68_5
      have F_dealt_b2 := q68_6
      have F_dealtKey_b2 := q68_7
      have V_b4_2 := q68_8
      have V_b4_0 := q68_9
      have Kp := Kp.trans K68 (allS (Or.inr sz_b2) (allS (Or.inr sz_b4_2) (allS (Or.inr sz_b4_0) all0)))
      have Zn := Nat.le_trans Zn K68.1
      have N68 := Fr.app N67 N68q
      refine Run.st (S' := T68.setTop (mkF m 147 #[.val (.int p0), .val (.int p1), .val (.int p2), .val (.int p3), .val (.int (0 : Int32)), .val (.int dd), .val (.int nn), .val (.int qq), .val (.int (10 : Int32)), .val (.int k1), .val (.int k2), .val (.int k3), .val (.ref b2), .val (.int (1 : Int32)), .unset, .unset, .unset, .unset, .unset, .unset] [])) (fun _ k => st68.trans k) ?_
      have V_b4_2 : Arv Z T68.heap b4_2 kb4_2 .int (10 : Int32) ((own_it k1 1 (own_full (own_v dd (1 : Int32)) 1)).map Value.int) (.int (0 : Int32)) := V_b4_2
      have V_b4_0 : Arv Z T68.heap b4_0 kb4_0 .int (10 : Int32) ((own_ir (k1 % (10 : Int32)) 1 (List.replicate 10 (0 : Int32))).map Value.int) (.int (0 : Int32)) := V_b4_0
      have V_b4_1 : Arv Z T68.heap b4_1 kb4_1 .int (4 : Int32) ((own_ir (k1 / (10 : Int32)) 0 (List.replicate 4 (0 : Int32))).map Value.int) (.int (0 : Int32)) := V_b4_1
      refine Run.st (S' := T68.setTop (mkF m 173 #[.val (.int p0), .val (.int p1), .val (.int p2), .val (.int p3), .val (.int (0 : Int32)), .val (.int dd), .val (.int nn), .val (.int qq), .val (.int (10 : Int32)), .val (.int k1), .val (.int k2), .val (.int k3), .val (.ref b2), .val (.int (1 : Int32)), .unset, .unset, .unset, .unset, .unset, .unset] [])) (fun _ k => XS.iload X68.here hx rfl (hb hby at_147) rfl (XS.iconst X68.here hx rfl (hb hby at_149) (XS.icmpYes X68.here hx rfl (pc0 := 150) (pc' := 160) rfl (hb hby at_150) rfl (tlt (show (1 : Int32) < (2 : Int32) from (by decide))).1 (by decide) (by decide) (XS.iload X68.here hx rfl (hb hby at_160) rfl (XS.iconst X68.here hx rfl (hb hby at_162) (XS.icmpYes X68.here hx rfl (pc0 := 163) (pc' := 173) rfl (hb hby at_163) rfl (tlt (show (1 : Int32) < (3 : Int32) from (by decide))).1 (by decide) (by decide) k)))))) ?_
      exact JH5 (1 : Int32) (own_it k1 1 (own_full (own_v dd (1 : Int32)) 1)) _ _ ⟨_, X68, N68, rfl⟩ Zn Kp OL E_b2 F_left_b2 F_dealt_b2 V_b4_2 (own_okI 1 hdd hk1).1
    · refine Run.st (S' := T67.setTop (mkF m 144 #[.val (.int p0), .val (.int p1), .val (.int p2), .val (.int p3), .val (.int (0 : Int32)), .val (.int dd), .val (.int nn), .val (.int qq), .val (.int (10 : Int32)), .val (.int k1), .val (.int k2), .val (.int k3), .val (.ref b2), .val (.int (2 : Int32)), .unset, .unset, .unset, .unset, .unset, .unset] [(.int k1), (.ref b2)])) (fun _ k => XS.iload X67.here hx rfl (hb hby at_134) rfl (XS.iconst X67.here hx rfl (hb hby at_136) (XS.icmpNo X67.here hx rfl (hb hby at_137) rfl (flt (show ¬ ((2 : Int32) < (1 : Int32)) from (by decide))).1 (XS.aload X67.here hx rfl (hb hby at_140) rfl rfl (XS.iload X67.here hx rfl (hb hby at_142) rfl k))))) ?_
      obtain ⟨cq69, kq69, q69a, q69b, q69c⟩ := isOf hZ e67 E_b2
      obtain ⟨_, _, ⟨T69, L69, k69, n69⟩, -, X69, ⟨Lc69, hQ69, l69, y69, z69⟩, st69⟩ := X67.virtualBack hx (y := (⟨"com/example/sidewager/sidewager/analysis/Shoe", "deal", "(I)V"⟩ : MethodName)) (z := (⟨"com/example/sidewager/sidewager/analysis/Shoe", "deal", "(I)V"⟩ : MethodName)) hown (mvT hZ (hwi hw 110 rfl)) (mvT hZ (hwi hw 111 rfl)) (notFace_of_selects (args := #[]) (mvT hZ (hwi hw 113 rfl))) (mvT hZ (hwi hw 113 rfl)) (mvT hZ (hwi hw 112 rfl)) (by decide) (backOf (W := 0) (rmDlI l Z aV hw [] b2 k1 u s_MAT b4_2 kb4_2 (own_it k1 0 (own_full (own_v dd (1 : Int32)) 1)) b4_0 kb4_0 (own_ir (k1 % (10 : Int32)) 0 (List.replicate 10 (0 : Int32))) b4_1 kb4_1 (own_ir (k1 / (10 : Int32)) 0 (List.replicate 4 (0 : Int32))) (0 : Int32) (0 : Int64) T4.heap n0 Zn OL hne hk10 (own_itl _ _ _ (own_fl1 dd)) (own_okR 0 hk10).1 (own_okR 0 hk10).2.2.1 (own_wI ((own_okI 0 hdd hk10).2 (by decide))) (own_okR 0 hk10).2.1 g_b2 g_b4_2 g_b4_0 g_b4_1 ne_b2_b4_2 ne_b2_b4_0 ne_b2_b4_1 (Ne.symm ne_b4_0_b4_2) (Ne.symm ne_b4_1_b4_2) ne_b4_0_b4_1 E_b2 F_suits_b2 F_left_b2 F_dealtOfRank_b2 F_dealtOfSuit_b2 F_suitsDealt_b2 F_dealt_b2 F_dealtKey_b2 V_b4_2 V_b4_0 V_b4_1 S_IGN S_MAT S_SUITS) hZ (hwi hw 114 rfl) (hwi hw 3 rfl) (by decide) (by decide)) q69a q69c (g := (mkF m 144 #[.val (.int p0), .val (.int p1), .val (.int p2), .val (.int p3), .val (.int (0 : Int32)), .val (.int dd), .val (.int nn), .val (.int qq), .val (.int (10 : Int32)), .val (.int k1), .val (.int k2), .val (.int k3), .val (.ref b2), .val (.int (2 : Int32)), .unset, .unset, .unset, .unset, .unset, .unset] [(.int k1), (.ref b2)])) rfl (by rw [hml]; rfl) (Steps.refl _) (argsL := [(.int k1)]) (rest := []) (lenOf pd_11 rfl) rfl (by show 2 * 0 + _ ≤ _; exact Nat.le_of_eq rfl) (hb hby at_144) (fun _ _ => ⟨rfl, e67, (by decide : 7 + 0 ≤ _), (by decide : 57 + 0 ≤ _)⟩)
      dsimp only [Pt.U, Pt.locs, Pt.cells, Pt.slots] at X69 l69 y69 z69 st69 hQ69
      replace l69 := l69.symm; replace y69 := y69.symm; replace z69 := z69.symm; subst l69 y69 z69
      obtain ⟨rfl, N69q, K69, q69_0, q69_1, q69_2, q69_3, q69_4, q69_5, q69_6, q69_7, q69_8, q69_9⟩ := hQ69
      have OL := OL.keep K69 (allS g_b2 (allS g_b4_2 (allS g_b4_0 all0)))
      have V_b4_1 := V_b4_1.keep K69 (ninS (Ne.symm ne_b2_b4_1) (ninS ne_b4_1_b4_2 (ninS (Ne.symm ne_b4_0_b4_1) nin0)))
      have E_b2 := q69_0
      have F_suits_b2 := q69_1
      have F_left_b2 := q69_2
      have F_dealtOfRank_b2 := q69_3
      have F_dealtOfSuit_b2 := q69_4
      have F_suitsDealt_b2 := q69_5
      have F_dealt_b2 := q69_6
      have F_dealtKey_b2 := q69_7
      have V_b4_2 := q69_8
      have V_b4_0 := q69_9
      have Kp := Kp.trans K69 (allS (Or.inr sz_b2) (allS (Or.inr sz_b4_2) (allS (Or.inr sz_b4_0) all0)))
      have Zn := Nat.le_trans Zn K69.1
      have N69 := Fr.app N67 N69q
      refine Run.st (S' := T69.setTop (mkF m 147 #[.val (.int p0), .val (.int p1), .val (.int p2), .val (.int p3), .val (.int (0 : Int32)), .val (.int dd), .val (.int nn), .val (.int qq), .val (.int (10 : Int32)), .val (.int k1), .val (.int k2), .val (.int k3), .val (.ref b2), .val (.int (2 : Int32)), .unset, .unset, .unset, .unset, .unset, .unset] [])) (fun _ k => st69.trans k) ?_
      have V_b4_2 : Arv Z T69.heap b4_2 kb4_2 .int (10 : Int32) ((own_it k1 1 (own_full (own_v dd (1 : Int32)) 1)).map Value.int) (.int (0 : Int32)) := V_b4_2
      have V_b4_0 : Arv Z T69.heap b4_0 kb4_0 .int (10 : Int32) ((own_ir (k1 % (10 : Int32)) 1 (List.replicate 10 (0 : Int32))).map Value.int) (.int (0 : Int32)) := V_b4_0
      have V_b4_1 : Arv Z T69.heap b4_1 kb4_1 .int (4 : Int32) ((own_ir (k1 / (10 : Int32)) 0 (List.replicate 4 (0 : Int32))).map Value.int) (.int (0 : Int32)) := V_b4_1
      refine Run.st (S' := T69.setTop (mkF m 157 #[.val (.int p0), .val (.int p1), .val (.int p2), .val (.int p3), .val (.int (0 : Int32)), .val (.int dd), .val (.int nn), .val (.int qq), .val (.int (10 : Int32)), .val (.int k1), .val (.int k2), .val (.int k3), .val (.ref b2), .val (.int (2 : Int32)), .unset, .unset, .unset, .unset, .unset, .unset] [(.int k1), (.ref b2)])) (fun _ k => XS.iload X69.here hx rfl (hb hby at_147) rfl (XS.iconst X69.here hx rfl (hb hby at_149) (XS.icmpNo X69.here hx rfl (hb hby at_150) rfl (flt (show ¬ ((2 : Int32) < (2 : Int32)) from (by decide))).1 (XS.aload X69.here hx rfl (hb hby at_153) rfl rfl (XS.iload X69.here hx rfl (hb hby at_155) rfl k))))) ?_
      obtain ⟨cq70, kq70, q70a, q70b, q70c⟩ := isOf hZ rfl E_b2
      obtain ⟨_, _, ⟨T70, L70, k70, n70⟩, -, X70, ⟨Lc70, hQ70, l70, y70, z70⟩, st70⟩ := X69.virtualBack hx (y := (⟨"com/example/sidewager/sidewager/analysis/Shoe", "deal", "(I)V"⟩ : MethodName)) (z := (⟨"com/example/sidewager/sidewager/analysis/Shoe", "deal", "(I)V"⟩ : MethodName)) hown (mvT hZ (hwi hw 110 rfl)) (mvT hZ (hwi hw 111 rfl)) (notFace_of_selects (args := #[]) (mvT hZ (hwi hw 113 rfl))) (mvT hZ (hwi hw 113 rfl)) (mvT hZ (hwi hw 112 rfl)) (by decide) (backOf (W := 0) (rmDlI l Z aV hw [] b2 k1 u s_MAT b4_2 kb4_2 (own_it k1 1 (own_full (own_v dd (1 : Int32)) 1)) b4_0 kb4_0 (own_ir (k1 % (10 : Int32)) 1 (List.replicate 10 (0 : Int32))) b4_1 kb4_1 (own_ir (k1 / (10 : Int32)) 0 (List.replicate 4 (0 : Int32))) ((0 : Int32) + (1 : Int32)) ((0 : Int64) + (FKey (k1 % (10 : Int32)))) T69.heap n0 Zn OL hne hk10 (own_itl _ _ _ (own_fl1 dd)) (own_okR 1 hk10).1 (own_okR 0 hk10).2.2.1 (own_wI ((own_okI 1 hdd hk10).2 (by decide))) (own_okR 1 hk10).2.1 g_b2 g_b4_2 g_b4_0 g_b4_1 ne_b2_b4_2 ne_b2_b4_0 ne_b2_b4_1 (Ne.symm ne_b4_0_b4_2) (Ne.symm ne_b4_1_b4_2) ne_b4_0_b4_1 E_b2 F_suits_b2 F_left_b2 F_dealtOfRank_b2 F_dealtOfSuit_b2 F_suitsDealt_b2 F_dealt_b2 F_dealtKey_b2 V_b4_2 V_b4_0 V_b4_1 S_IGN S_MAT S_SUITS) hZ (hwi hw 114 rfl) (hwi hw 3 rfl) (by decide) (by decide)) q70a q70c (g := (mkF m 157 #[.val (.int p0), .val (.int p1), .val (.int p2), .val (.int p3), .val (.int (0 : Int32)), .val (.int dd), .val (.int nn), .val (.int qq), .val (.int (10 : Int32)), .val (.int k1), .val (.int k2), .val (.int k3), .val (.ref b2), .val (.int (2 : Int32)), .unset, .unset, .unset, .unset, .unset, .unset] [(.int k1), (.ref b2)])) rfl (by rw [hml]; rfl) (Steps.refl _) (argsL := [(.int k1)]) (rest := []) (lenOf pd_11 rfl) rfl (by show 2 * 0 + _ ≤ _; exact Nat.le_of_eq rfl) (hb hby at_157) (fun _ _ => ⟨rfl, rfl, (by decide : 7 + 0 ≤ _), (by decide : 57 + 0 ≤ _)⟩)
      dsimp only [Pt.U, Pt.locs, Pt.cells, Pt.slots] at X70 l70 y70 z70 st70 hQ70
      replace l70 := l70.symm; replace y70 := y70.symm; replace z70 := z70.symm; subst l70 y70 z70
      obtain ⟨rfl, N70q, K70, q70_0, q70_1, q70_2, q70_3, q70_4, q70_5, q70_6, q70_7, q70_8, q70_9⟩ := hQ70
      have OL := OL.keep K70 (allS g_b2 (allS g_b4_2 (allS g_b4_0 all0)))
      have V_b4_1 := V_b4_1.keep K70 (ninS (Ne.symm ne_b2_b4_1) (ninS ne_b4_1_b4_2 (ninS (Ne.symm ne_b4_0_b4_1) nin0)))
      have E_b2 := q70_0
      have F_suits_b2 := q70_1
      have F_left_b2 := q70_2
      have F_dealtOfRank_b2 := q70_3
      have F_dealtOfSuit_b2 := q70_4
      have F_suitsDealt_b2 := q70_5
      have F_dealt_b2 := q70_6
      have F_dealtKey_b2 := q70_7
      have V_b4_2 := q70_8
      have V_b4_0 := q70_9
      have Kp := Kp.trans K70 (allS (Or.inr sz_b2) (allS (Or.inr sz_b4_2) (allS (Or.inr sz_b4_0) all0)))
      have Zn := Nat.le_trans Zn K70.1
      have N70 := Fr.app N69 N70q
      refine Run.st (S' := T70.setTop (mkF m 160 #[.val (.int p0), .val (.int p1), .val (.int p2), .val (.int p3), .val (.int (0 : Int32)), .val (.int dd), .val (.int nn), .val (.int qq), .val (.int (10 : Int32)), .val (.int k1), .val (.int k2), .val (.int k3), .val (.ref b2), .val (.int (2 : Int32)), .unset, .unset, .unset, .unset, .unset, .unset] [])) (fun _ k => st70.trans k) ?_
      have V_b4_2 : Arv Z T70.heap b4_2 kb4_2 .int (10 : Int32) ((own_it k1 2 (own_full (own_v dd (1 : Int32)) 1)).map Value.int) (.int (0 : Int32)) := V_b4_2
      have V_b4_0 : Arv Z T70.heap b4_0 kb4_0 .int (10 : Int32) ((own_ir (k1 % (10 : Int32)) 2 (List.replicate 10 (0 : Int32))).map Value.int) (.int (0 : Int32)) := V_b4_0
      have V_b4_1 : Arv Z T70.heap b4_1 kb4_1 .int (4 : Int32) ((own_ir (k1 / (10 : Int32)) 0 (List.replicate 4 (0 : Int32))).map Value.int) (.int (0 : Int32)) := V_b4_1
      refine Run.st (S' := T70.setTop (mkF m 173 #[.val (.int p0), .val (.int p1), .val (.int p2), .val (.int p3), .val (.int (0 : Int32)), .val (.int dd), .val (.int nn), .val (.int qq), .val (.int (10 : Int32)), .val (.int k1), .val (.int k2), .val (.int k3), .val (.ref b2), .val (.int (2 : Int32)), .unset, .unset, .unset, .unset, .unset, .unset] [])) (fun _ k => XS.iload X70.here hx rfl (hb hby at_160) rfl (XS.iconst X70.here hx rfl (hb hby at_162) (XS.icmpYes X70.here hx rfl (pc0 := 163) (pc' := 173) rfl (hb hby at_163) rfl (tlt (show (2 : Int32) < (3 : Int32) from (by decide))).1 (by decide) (by decide) k))) ?_
      exact JH5 (2 : Int32) (own_it k1 2 (own_full (own_v dd (1 : Int32)) 1)) _ _ ⟨_, X70, N70, rfl⟩ Zn Kp OL E_b2 F_left_b2 F_dealt_b2 V_b4_2 (own_okI 2 hdd hk1).1
    · refine Run.st (S' := T67.setTop (mkF m 144 #[.val (.int p0), .val (.int p1), .val (.int p2), .val (.int p3), .val (.int (0 : Int32)), .val (.int dd), .val (.int nn), .val (.int qq), .val (.int (10 : Int32)), .val (.int k1), .val (.int k2), .val (.int k3), .val (.ref b2), .val (.int (3 : Int32)), .unset, .unset, .unset, .unset, .unset, .unset] [(.int k1), (.ref b2)])) (fun _ k => XS.iload X67.here hx rfl (hb hby at_134) rfl (XS.iconst X67.here hx rfl (hb hby at_136) (XS.icmpNo X67.here hx rfl (hb hby at_137) rfl (flt (show ¬ ((3 : Int32) < (1 : Int32)) from (by decide))).1 (XS.aload X67.here hx rfl (hb hby at_140) rfl rfl (XS.iload X67.here hx rfl (hb hby at_142) rfl k))))) ?_
      obtain ⟨cq71, kq71, q71a, q71b, q71c⟩ := isOf hZ e67 E_b2
      obtain ⟨_, _, ⟨T71, L71, k71, n71⟩, -, X71, ⟨Lc71, hQ71, l71, y71, z71⟩, st71⟩ := X67.virtualBack hx (y := (⟨"com/example/sidewager/sidewager/analysis/Shoe", "deal", "(I)V"⟩ : MethodName)) (z := (⟨"com/example/sidewager/sidewager/analysis/Shoe", "deal", "(I)V"⟩ : MethodName)) hown (mvT hZ (hwi hw 110 rfl)) (mvT hZ (hwi hw 111 rfl)) (notFace_of_selects (args := #[]) (mvT hZ (hwi hw 113 rfl))) (mvT hZ (hwi hw 113 rfl)) (mvT hZ (hwi hw 112 rfl)) (by decide) (backOf (W := 0) (rmDlI l Z aV hw [] b2 k1 u s_MAT b4_2 kb4_2 (own_it k1 0 (own_full (own_v dd (1 : Int32)) 1)) b4_0 kb4_0 (own_ir (k1 % (10 : Int32)) 0 (List.replicate 10 (0 : Int32))) b4_1 kb4_1 (own_ir (k1 / (10 : Int32)) 0 (List.replicate 4 (0 : Int32))) (0 : Int32) (0 : Int64) T4.heap n0 Zn OL hne hk10 (own_itl _ _ _ (own_fl1 dd)) (own_okR 0 hk10).1 (own_okR 0 hk10).2.2.1 (own_wI ((own_okI 0 hdd hk10).2 (by decide))) (own_okR 0 hk10).2.1 g_b2 g_b4_2 g_b4_0 g_b4_1 ne_b2_b4_2 ne_b2_b4_0 ne_b2_b4_1 (Ne.symm ne_b4_0_b4_2) (Ne.symm ne_b4_1_b4_2) ne_b4_0_b4_1 E_b2 F_suits_b2 F_left_b2 F_dealtOfRank_b2 F_dealtOfSuit_b2 F_suitsDealt_b2 F_dealt_b2 F_dealtKey_b2 V_b4_2 V_b4_0 V_b4_1 S_IGN S_MAT S_SUITS) hZ (hwi hw 114 rfl) (hwi hw 3 rfl) (by decide) (by decide)) q71a q71c (g := (mkF m 144 #[.val (.int p0), .val (.int p1), .val (.int p2), .val (.int p3), .val (.int (0 : Int32)), .val (.int dd), .val (.int nn), .val (.int qq), .val (.int (10 : Int32)), .val (.int k1), .val (.int k2), .val (.int k3), .val (.ref b2), .val (.int (3 : Int32)), .unset, .unset, .unset, .unset, .unset, .unset] [(.int k1), (.ref b2)])) rfl (by rw [hml]; rfl) (Steps.refl _) (argsL := [(.int k1)]) (rest := []) (lenOf pd_11 rfl) rfl (by show 2 * 0 + _ ≤ _; exact Nat.le_of_eq rfl) (hb hby at_144) (fun _ _ => ⟨rfl, e67, (by decide : 7 + 0 ≤ _), (by decide : 57 + 0 ≤ _)⟩)
      dsimp only [Pt.U, Pt.locs, Pt.cells, Pt.slots] at X71 l71 y71 z71 st71 hQ71
      replace l71 := l71.symm; replace y71 := y71.symm; replace z71 := z71.symm; subst l71 y71 z71
      obtain ⟨rfl, N71q, K71, q71_0, q71_1, q71_2, q71_3, q71_4, q71_5, q71_6, q71_7, q71_8, q71_9⟩ := hQ71
      have OL := OL.keep K71 (allS g_b2 (allS g_b4_2 (allS g_b4_0 all0)))
      have V_b4_1 := V_b4_1.keep K71 (ninS (Ne.symm ne_b2_b4_1) (ninS ne_b4_1_b4_2 (ninS (Ne.symm ne_b4_0_b4_1) nin0)))
      have E_b2 := q71_0
      have F_suits_b2 := q71_1
      have F_left_b2 := q71_2
      have F_dealtOfRank_b2 := q71_3
      have F_dealtOfSuit_b2 := q71_4
      have F_suitsDealt_b2 := q71_5
      have F_dealt_b2 := q71_6
      have F_dealtKey_b2 := q71_7
      have V_b4_2 := q71_8
      have V_b4_0 := q71_9
      have Kp := Kp.trans K71 (allS (Or.inr sz_b2) (allS (Or.inr sz_b4_2) (allS (Or.inr sz_b4_0) all0)))
      have Zn := Nat.le_trans Zn K71.1
      have N71 := Fr.app N67 N71q
      refine Run.st (S' := T71.setTop (mkF m 147 #[.val (.int p0), .val (.int p1), .val (.int p2), .val (.int p3), .val (.int (0 : Int32)), .val (.int dd), .val (.int nn), .val (.int qq), .val (.int (10 : Int32)), .val (.int k1), .val (.int k2), .val (.int k3), .val (.ref b2), .val (.int (3 : Int32)), .unset, .unset, .unset, .unset, .unset, .unset] [])) (fun _ k => st71.trans k) ?_
      have V_b4_2 : Arv Z T71.heap b4_2 kb4_2 .int (10 : Int32) ((own_it k1 1 (own_full (own_v dd (1 : Int32)) 1)).map Value.int) (.int (0 : Int32)) := V_b4_2
      have V_b4_0 : Arv Z T71.heap b4_0 kb4_0 .int (10 : Int32) ((own_ir (k1 % (10 : Int32)) 1 (List.replicate 10 (0 : Int32))).map Value.int) (.int (0 : Int32)) := V_b4_0
      have V_b4_1 : Arv Z T71.heap b4_1 kb4_1 .int (4 : Int32) ((own_ir (k1 / (10 : Int32)) 0 (List.replicate 4 (0 : Int32))).map Value.int) (.int (0 : Int32)) := V_b4_1
      refine Run.st (S' := T71.setTop (mkF m 157 #[.val (.int p0), .val (.int p1), .val (.int p2), .val (.int p3), .val (.int (0 : Int32)), .val (.int dd), .val (.int nn), .val (.int qq), .val (.int (10 : Int32)), .val (.int k1), .val (.int k2), .val (.int k3), .val (.ref b2), .val (.int (3 : Int32)), .unset, .unset, .unset, .unset, .unset, .unset] [(.int k1), (.ref b2)])) (fun _ k => XS.iload X71.here hx rfl (hb hby at_147) rfl (XS.iconst X71.here hx rfl (hb hby at_149) (XS.icmpNo X71.here hx rfl (hb hby at_150) rfl (flt (show ¬ ((3 : Int32) < (2 : Int32)) from (by decide))).1 (XS.aload X71.here hx rfl (hb hby at_153) rfl rfl (XS.iload X71.here hx rfl (hb hby at_155) rfl k))))) ?_
      obtain ⟨cq72, kq72, q72a, q72b, q72c⟩ := isOf hZ rfl E_b2
      obtain ⟨_, _, ⟨T72, L72, k72, n72⟩, -, X72, ⟨Lc72, hQ72, l72, y72, z72⟩, st72⟩ := X71.virtualBack hx (y := (⟨"com/example/sidewager/sidewager/analysis/Shoe", "deal", "(I)V"⟩ : MethodName)) (z := (⟨"com/example/sidewager/sidewager/analysis/Shoe", "deal", "(I)V"⟩ : MethodName)) hown (mvT hZ (hwi hw 110 rfl)) (mvT hZ (hwi hw 111 rfl)) (notFace_of_selects (args := #[]) (mvT hZ (hwi hw 113 rfl))) (mvT hZ (hwi hw 113 rfl)) (mvT hZ (hwi hw 112 rfl)) (by decide) (backOf (W := 0) (rmDlI l Z aV hw [] b2 k1 u s_MAT b4_2 kb4_2 (own_it k1 1 (own_full (own_v dd (1 : Int32)) 1)) b4_0 kb4_0 (own_ir (k1 % (10 : Int32)) 1 (List.replicate 10 (0 : Int32))) b4_1 kb4_1 (own_ir (k1 / (10 : Int32)) 0 (List.replicate 4 (0 : Int32))) ((0 : Int32) + (1 : Int32)) ((0 : Int64) + (FKey (k1 % (10 : Int32)))) T71.heap n0 Zn OL hne hk10 (own_itl _ _ _ (own_fl1 dd)) (own_okR 1 hk10).1 (own_okR 0 hk10).2.2.1 (own_wI ((own_okI 1 hdd hk10).2 (by decide))) (own_okR 1 hk10).2.1 g_b2 g_b4_2 g_b4_0 g_b4_1 ne_b2_b4_2 ne_b2_b4_0 ne_b2_b4_1 (Ne.symm ne_b4_0_b4_2) (Ne.symm ne_b4_1_b4_2) ne_b4_0_b4_1 E_b2 F_suits_b2 F_left_b2 F_dealtOfRank_b2 F_dealtOfSuit_b2 F_suitsDealt_b2 F_dealt_b2 F_dealtKey_b2 V_b4_2 V_b4_0 V_b4_1 S_IGN S_MAT S_SUITS) hZ (hwi hw 114 rfl) (hwi hw 3 rfl) (by decide) (by decide)) q72a q72c (g := (mkF m 157 #[.val (.int p0), .val (.int p1), .val (.int p2), .val (.int p3), .val (.int (0 : Int32)), .val (.int dd), .val (.int nn), .val (.int qq), .val (.int (10 : Int32)), .val (.int k1), .val (.int k2), .val (.int k3), .val (.ref b2), .val (.int (3 : Int32)), .unset, .unset, .unset, .unset, .unset, .unset] [(.int k1), (.ref b2)])) rfl (by rw [hml]; rfl) (Steps.refl _) (argsL := [(.int k1)]) (rest := []) (lenOf pd_11 rfl) rfl (by show 2 * 0 + _ ≤ _; exact Nat.le_of_eq rfl) (hb hby at_157) (fun _ _ => ⟨rfl, rfl, (by decide : 7 + 0 ≤ _), (by decide : 57 + 0 ≤ _)⟩)
      dsimp only [Pt.U, Pt.locs, Pt.cells, Pt.slots] at X72 l72 y72 z72 st72 hQ72
      replace l72 := l72.symm; replace y72 := y72.symm; replace z72 := z72.symm; subst l72 y72 z72
      obtain ⟨rfl, N72q, K72, q72_0, q72_1, q72_2, q72_3, q72_4, q72_5, q72_6, q72_7, q72_8, q72_9⟩ := hQ72
      have OL := OL.keep K72 (allS g_b2 (allS g_b4_2 (allS g_b4_0 all0)))
      have V_b4_1 := V_b4_1.keep K72 (ninS (Ne.symm ne_b2_b4_1) (ninS ne_b4_1_b4_2 (ninS (Ne.symm ne_b4_0_b4_1) nin0)))
      have E_b2 := q72_0
      have F_suits_b2 := q72_1
      have F_left_b2 := q72_2
      have F_dealtOfRank_b2 := q72_3
      have F_dealtOfSuit_b2 := q72_4
      have F_suitsDealt_b2 := q72_5
      have F_dealt_b2 := q72_6
      have F_dealtKey_b2 := q72_7
      have V_b4_2 := q72_8
      have V_b4_0 := q72_9
      have Kp := Kp.trans K72 (allS (Or.inr sz_b2) (allS (Or.inr sz_b4_2) (allS (Or.inr sz_b4_0) all0)))
      have Zn := Nat.le_trans Zn K72.1
      have N72 := Fr.app N71 N72q
      refine Run.st (S' := T72.setTop (mkF m 160 #[.val (.int p0), .val (.int p1), .val (.int p2), .val (.int p3), .val (.int (0 : Int32)), .val (.int dd), .val (.int nn), .val (.int qq), .val (.int (10 : Int32)), .val (.int k1), .val (.int k2), .val (.int k3), .val (.ref b2), .val (.int (3 : Int32)), .unset, .unset, .unset, .unset, .unset, .unset] [])) (fun _ k => st72.trans k) ?_
      have V_b4_2 : Arv Z T72.heap b4_2 kb4_2 .int (10 : Int32) ((own_it k1 2 (own_full (own_v dd (1 : Int32)) 1)).map Value.int) (.int (0 : Int32)) := V_b4_2
      have V_b4_0 : Arv Z T72.heap b4_0 kb4_0 .int (10 : Int32) ((own_ir (k1 % (10 : Int32)) 2 (List.replicate 10 (0 : Int32))).map Value.int) (.int (0 : Int32)) := V_b4_0
      have V_b4_1 : Arv Z T72.heap b4_1 kb4_1 .int (4 : Int32) ((own_ir (k1 / (10 : Int32)) 0 (List.replicate 4 (0 : Int32))).map Value.int) (.int (0 : Int32)) := V_b4_1
      refine Run.st (S' := T72.setTop (mkF m 170 #[.val (.int p0), .val (.int p1), .val (.int p2), .val (.int p3), .val (.int (0 : Int32)), .val (.int dd), .val (.int nn), .val (.int qq), .val (.int (10 : Int32)), .val (.int k1), .val (.int k2), .val (.int k3), .val (.ref b2), .val (.int (3 : Int32)), .unset, .unset, .unset, .unset, .unset, .unset] [(.int k1), (.ref b2)])) (fun _ k => XS.iload X72.here hx rfl (hb hby at_160) rfl (XS.iconst X72.here hx rfl (hb hby at_162) (XS.icmpNo X72.here hx rfl (hb hby at_163) rfl (flt (show ¬ ((3 : Int32) < (3 : Int32)) from (by decide))).1 (XS.aload X72.here hx rfl (hb hby at_166) rfl rfl (XS.iload X72.here hx rfl (hb hby at_168) rfl k))))) ?_
      obtain ⟨cq73, kq73, q73a, q73b, q73c⟩ := isOf hZ rfl E_b2
      obtain ⟨_, _, ⟨T73, L73, k73, n73⟩, -, X73, ⟨Lc73, hQ73, l73, y73, z73⟩, st73⟩ := X72.virtualBack hx (y := (⟨"com/example/sidewager/sidewager/analysis/Shoe", "deal", "(I)V"⟩ : MethodName)) (z := (⟨"com/example/sidewager/sidewager/analysis/Shoe", "deal", "(I)V"⟩ : MethodName)) hown (mvT hZ (hwi hw 110 rfl)) (mvT hZ (hwi hw 111 rfl)) (notFace_of_selects (args := #[]) (mvT hZ (hwi hw 113 rfl))) (mvT hZ (hwi hw 113 rfl)) (mvT hZ (hwi hw 112 rfl)) (by decide) (backOf (W := 0) (rmDlI l Z aV hw [] b2 k1 u s_MAT b4_2 kb4_2 (own_it k1 2 (own_full (own_v dd (1 : Int32)) 1)) b4_0 kb4_0 (own_ir (k1 % (10 : Int32)) 2 (List.replicate 10 (0 : Int32))) b4_1 kb4_1 (own_ir (k1 / (10 : Int32)) 0 (List.replicate 4 (0 : Int32))) (((0 : Int32) + (1 : Int32)) + (1 : Int32)) (((0 : Int64) + (FKey (k1 % (10 : Int32)))) + (FKey (k1 % (10 : Int32)))) T72.heap n0 Zn OL hne hk10 (own_itl _ _ _ (own_fl1 dd)) (own_okR 2 hk10).1 (own_okR 0 hk10).2.2.1 (own_wI ((own_okI 2 hdd hk10).2 (by decide))) (own_okR 2 hk10).2.1 g_b2 g_b4_2 g_b4_0 g_b4_1 ne_b2_b4_2 ne_b2_b4_0 ne_b2_b4_1 (Ne.symm ne_b4_0_b4_2) (Ne.symm ne_b4_1_b4_2) ne_b4_0_b4_1 E_b2 F_suits_b2 F_left_b2 F_dealtOfRank_b2 F_dealtOfSuit_b2 F_suitsDealt_b2 F_dealt_b2 F_dealtKey_b2 V_b4_2 V_b4_0 V_b4_1 S_IGN S_MAT S_SUITS) hZ (hwi hw 114 rfl) (hwi hw 3 rfl) (by decide) (by decide)) q73a q73c (g := (mkF m 170 #[.val (.int p0), .val (.int p1), .val (.int p2), .val (.int p3), .val (.int (0 : Int32)), .val (.int dd), .val (.int nn), .val (.int qq), .val (.int (10 : Int32)), .val (.int k1), .val (.int k2), .val (.int k3), .val (.ref b2), .val (.int (3 : Int32)), .unset, .unset, .unset, .unset, .unset, .unset] [(.int k1), (.ref b2)])) rfl (by rw [hml]; rfl) (Steps.refl _) (argsL := [(.int k1)]) (rest := []) (lenOf pd_11 rfl) rfl (by show 2 * 0 + _ ≤ _; exact Nat.le_of_eq rfl) (hb hby at_170) (fun _ _ => ⟨rfl, rfl, (by decide : 7 + 0 ≤ _), (by decide : 57 + 0 ≤ _)⟩)
      dsimp only [Pt.U, Pt.locs, Pt.cells, Pt.slots] at X73 l73 y73 z73 st73 hQ73
      replace l73 := l73.symm; replace y73 := y73.symm; replace z73 := z73.symm; subst l73 y73 z73
      obtain ⟨rfl, N73q, K73, q73_0, q73_1, q73_2, q73_3, q73_4, q73_5, q73_6, q73_7, q73_8, q73_9⟩ := hQ73
      have OL := OL.keep K73 (allS g_b2 (allS g_b4_2 (allS g_b4_0 all0)))
      have V_b4_1 := V_b4_1.keep K73 (ninS (Ne.symm ne_b2_b4_1) (ninS ne_b4_1_b4_2 (ninS (Ne.symm ne_b4_0_b4_1) nin0)))
      have E_b2 := q73_0
      have F_suits_b2 := q73_1
      have F_left_b2 := q73_2
      have F_dealtOfRank_b2 := q73_3
      have F_dealtOfSuit_b2 := q73_4
      have F_suitsDealt_b2 := q73_5
      have F_dealt_b2 := q73_6
      have F_dealtKey_b2 := q73_7
      have V_b4_2 := q73_8
      have V_b4_0 := q73_9
      have Kp := Kp.trans K73 (allS (Or.inr sz_b2) (allS (Or.inr sz_b4_2) (allS (Or.inr sz_b4_0) all0)))
      have Zn := Nat.le_trans Zn K73.1
      have N73 := Fr.app N72 N73q
      refine Run.st (S' := T73.setTop (mkF m 173 #[.val (.int p0), .val (.int p1), .val (.int p2), .val (.int p3), .val (.int (0 : Int32)), .val (.int dd), .val (.int nn), .val (.int qq), .val (.int (10 : Int32)), .val (.int k1), .val (.int k2), .val (.int k3), .val (.ref b2), .val (.int (3 : Int32)), .unset, .unset, .unset, .unset, .unset, .unset] [])) (fun _ k => st73.trans k) ?_
      exact JH5 (3 : Int32) ((own_it k1 2 (own_full (own_v dd (1 : Int32)) 1)).set (k1).toNatClampNeg (((own_it k1 2 (own_full (own_v dd (1 : Int32)) 1)).getD (k1).toNatClampNeg 0) - (1 : Int32))) _ _ ⟨_, X73, N73, rfl⟩ Zn Kp OL E_b2 F_left_b2 F_dealt_b2 V_b4_2 (own_okI 3 hdd hk1).1
  · refine Run.st (S' := s₁.setTop (mkF m 17 #[.val (.int p0), .val (.int p1), .val (.int p2), .val (.int p3), .val (.int (1 : Int32)), .unset, .unset, .unset, .unset, .unset, .unset, .unset, .unset, .unset, .unset, .unset, .unset, .unset, .unset, .unset] [(.int ((p0.toUInt32 >>> ((1 : Int32) &&& 31).toUInt32).toInt32)), (.int (1 : Int32))])) (fun _ k => XS.ifNo X0.here hx rfl (hb hby at_3) rfl ((if0 _ _).trans (feq hc3_1).1) (XS.iconst X0.here hx rfl (hb hby at_6) (XS.goto X0.here hx rfl (pc0 := 7) (pc' := 11) rfl (hb hby at_7) (by decide) (by decide) (XS.istore X0.here hx rfl (hb hby at_11) rfl (l' := #[.val (.int p0), .val (.int p1), .val (.int p2), .val (.int p3), .val (.int (1 : Int32)), .unset, .unset, .unset, .unset, .unset, .unset, .unset, .unset, .unset, .unset, .unset, .unset, .unset, .unset, .unset]) rfl (XS.iconst X0.here hx rfl (hb hby at_13) (XS.iloadN X0.here hx rfl (hb hby at_14) rfl (XS.iconst X0.here hx rfl (hb hby at_15) (XS.iushr X0.here hx rfl (hb hby at_16) rfl k)))))))) ?_
    refine Run.st (S' := s₁.setTop (mkF m 22 #[.val (.int p0), .val (.int p1), .val (.int p2), .val (.int p3), .val (.int (1 : Int32)), .val (.int ((1 : Int32) + (((p0.toUInt32 >>> ((1 : Int32) &&& 31).toUInt32).toInt32) &&& (3 : Int32)))), .unset, .unset, .unset, .unset, .unset, .unset, .unset, .unset, .unset, .unset, .unset, .unset, .unset, .unset] [])) (fun _ k => XS.iconst X0.here hx rfl (hb hby at_17) (XS.iand X0.here hx rfl (hb hby at_18) rfl (XS.iadd X0.here hx rfl (hb hby at_19) rfl (XS.istore X0.here hx rfl (hb hby at_20) rfl (l' := #[.val (.int p0), .val (.int p1), .val (.int p2), .val (.int p3), .val (.int (1 : Int32)), .val (.int ((1 : Int32) + (((p0.toUInt32 >>> ((1 : Int32) &&& 31).toUInt32).toInt32) &&& (3 : Int32)))), .unset, .unset, .unset, .unset, .unset, .unset, .unset, .unset, .unset, .unset, .unset, .unset, .unset, .unset]) rfl k)))) ?_
    have hdd : 1 ≤ (((1 : Int32) + (((p0.toUInt32 >>> ((1 : Int32) &&& 31).toUInt32).toInt32) &&& (3 : Int32)))).toInt ∧ (((1 : Int32) + (((p0.toUInt32 >>> ((1 : Int32) &&& 31).toUInt32).toInt32) &&& (3 : Int32)))).toInt < 5 := (by have := rng32 ((1 : Int32) + (((p0.toUInt32 >>> ((1 : Int32) &&& 31).toUInt32).toInt32) &&& (3 : Int32))); have := c_iadd (1 : Int32) (((p0.toUInt32 >>> ((1 : Int32) &&& 31).toUInt32).toInt32) &&& (3 : Int32)); have := (by decide : ((1 : Int32)).toInt = 1); have := rng32 (((p0.toUInt32 >>> ((1 : Int32) &&& 31).toUInt32).toInt32) &&& (3 : Int32)); have := c_mask ((p0.toUInt32 >>> ((1 : Int32) &&& 31).toUInt32).toInt32) (3 : Int32) 2 (by decide) (by decide); have := rng32 ((p0.toUInt32 >>> ((1 : Int32) &&& 31).toUInt32).toInt32); have := c_iushr p0 (1 : Int32) 1 (by decide) (by decide); have := rng32 p0; (try simp only [Int32.lt_iff_toInt_lt, Int64.lt_iff_toInt_lt, Int32.le_iff_toInt_le, Int64.le_iff_toInt_le, ← Int32.toInt_inj, ← Int64.toInt_inj] at  ⊢); omega)
    generalize edd : ((1 : Int32) + (((p0.toUInt32 >>> ((1 : Int32) &&& 31).toUInt32).toInt32) &&& (3 : Int32))) = dd at hdd ⊢
    refine Run.st (S' := s₁.setTop (mkF m 29 #[.val (.int p0), .val (.int p1), .val (.int p2), .val (.int p3), .val (.int (1 : Int32)), .val (.int dd), .val (.int (((p0.toUInt32 >>> ((3 : Int32) &&& 31).toUInt32).toInt32) &&& (3 : Int32))), .unset, .unset, .unset, .unset, .unset, .unset, .unset, .unset, .unset, .unset, .unset, .unset, .unset] [])) (fun _ k => XS.iloadN X0.here hx rfl (hb hby at_22) rfl (XS.iconst X0.here hx rfl (hb hby at_23) (XS.iushr X0.here hx rfl (hb hby at_24) rfl (XS.iconst X0.here hx rfl (hb hby at_25) (XS.iand X0.here hx rfl (hb hby at_26) rfl (XS.istore X0.here hx rfl (hb hby at_27) rfl (l' := #[.val (.int p0), .val (.int p1), .val (.int p2), .val (.int p3), .val (.int (1 : Int32)), .val (.int dd), .val (.int (((p0.toUInt32 >>> ((3 : Int32) &&& 31).toUInt32).toInt32) &&& (3 : Int32))), .unset, .unset, .unset, .unset, .unset, .unset, .unset, .unset, .unset, .unset, .unset, .unset, .unset]) rfl k)))))) ?_
    have hnn : 0 ≤ ((((p0.toUInt32 >>> ((3 : Int32) &&& 31).toUInt32).toInt32) &&& (3 : Int32))).toInt ∧ ((((p0.toUInt32 >>> ((3 : Int32) &&& 31).toUInt32).toInt32) &&& (3 : Int32))).toInt < 4 := (by have := rng32 (((p0.toUInt32 >>> ((3 : Int32) &&& 31).toUInt32).toInt32) &&& (3 : Int32)); have := c_mask ((p0.toUInt32 >>> ((3 : Int32) &&& 31).toUInt32).toInt32) (3 : Int32) 2 (by decide) (by decide); have := rng32 ((p0.toUInt32 >>> ((3 : Int32) &&& 31).toUInt32).toInt32); have := c_iushr p0 (3 : Int32) 3 (by decide) (by decide); have := rng32 p0; (try simp only [Int32.lt_iff_toInt_lt, Int64.lt_iff_toInt_lt, Int32.le_iff_toInt_le, Int64.le_iff_toInt_le, ← Int32.toInt_inj, ← Int64.toInt_inj] at  ⊢); omega)
    generalize enn : (((p0.toUInt32 >>> ((3 : Int32) &&& 31).toUInt32).toInt32) &&& (3 : Int32)) = nn at hnn ⊢
    refine Run.st (S' := s₁.setTop (mkF m 36 #[.val (.int p0), .val (.int p1), .val (.int p2), .val (.int p3), .val (.int (1 : Int32)), .val (.int dd), .val (.int nn), .val (.int (((p0.toUInt32 >>> ((5 : Int32) &&& 31).toUInt32).toInt32) &&& (3 : Int32))), .unset, .unset, .unset, .unset, .unset, .unset, .unset, .unset, .unset, .unset, .unset, .unset] [])) (fun _ k => XS.iloadN X0.here hx rfl (hb hby at_29) rfl (XS.iconst X0.here hx rfl (hb hby at_30) (XS.iushr X0.here hx rfl (hb hby at_31) rfl (XS.iconst X0.here hx rfl (hb hby at_32) (XS.iand X0.here hx rfl (hb hby at_33) rfl (XS.istore X0.here hx rfl (hb hby at_34) rfl (l' := #[.val (.int p0), .val (.int p1), .val (.int p2), .val (.int p3), .val (.int (1 : Int32)), .val (.int dd), .val (.int nn), .val (.int (((p0.toUInt32 >>> ((5 : Int32) &&& 31).toUInt32).toInt32) &&& (3 : Int32))), .unset, .unset, .unset, .unset, .unset, .unset, .unset, .unset, .unset, .unset, .unset, .unset]) rfl k)))))) ?_
    have hqq : 0 ≤ ((((p0.toUInt32 >>> ((5 : Int32) &&& 31).toUInt32).toInt32) &&& (3 : Int32))).toInt ∧ ((((p0.toUInt32 >>> ((5 : Int32) &&& 31).toUInt32).toInt32) &&& (3 : Int32))).toInt < 4 := (by have := rng32 (((p0.toUInt32 >>> ((5 : Int32) &&& 31).toUInt32).toInt32) &&& (3 : Int32)); have := c_mask ((p0.toUInt32 >>> ((5 : Int32) &&& 31).toUInt32).toInt32) (3 : Int32) 2 (by decide) (by decide); have := rng32 ((p0.toUInt32 >>> ((5 : Int32) &&& 31).toUInt32).toInt32); have := c_iushr p0 (5 : Int32) 5 (by decide) (by decide); have := rng32 p0; (try simp only [Int32.lt_iff_toInt_lt, Int64.lt_iff_toInt_lt, Int32.le_iff_toInt_le, Int64.le_iff_toInt_le, ← Int32.toInt_inj, ← Int64.toInt_inj] at  ⊢); omega)
    generalize eqq : (((p0.toUInt32 >>> ((5 : Int32) &&& 31).toUInt32).toInt32) &&& (3 : Int32)) = qq at hqq ⊢
    refine Run.st (S' := s₁.setTop (mkF m 54 #[.val (.int p0), .val (.int p1), .val (.int p2), .val (.int p3), .val (.int (1 : Int32)), .val (.int dd), .val (.int nn), .val (.int qq), .val (.int (40 : Int32)), .unset, .unset, .unset, .unset, .unset, .unset, .unset, .unset, .unset, .unset, .unset] [(.int (p1 &&& (2147483647 : Int32)))])) (fun _ k => XS.iload X0.here hx rfl (hb hby at_36) rfl (XS.ifNo X0.here hx rfl (hb hby at_38) rfl ((if0 _ _).trans (feq (show ¬ ((1 : Int32) = (0 : Int32)) from (by decide))).1) (XS.bipush X0.here hx rfl (hb hby at_41) (XS.goto X0.here hx rfl (pc0 := 43) (pc' := 48) rfl (hb hby at_43) (by decide) (by decide) (XS.istore X0.here hx rfl (hb hby at_48) rfl (l' := #[.val (.int p0), .val (.int p1), .val (.int p2), .val (.int p3), .val (.int (1 : Int32)), .val (.int dd), .val (.int nn), .val (.int qq), .val (.int (40 : Int32)), .unset, .unset, .unset, .unset, .unset, .unset, .unset, .unset, .unset, .unset, .unset]) rfl (XS.iloadN X0.here hx rfl (hb hby at_50) rfl (X0.ldcInt hx hown (mvT hZ (hwi hw 0 rfl)) (g := (mkF m 51 #[.val (.int p0), .val (.int p1), .val (.int p2), .val (.int p3), .val (.int (1 : Int32)), .val (.int dd), .val (.int nn), .val (.int qq), .val (.int (40 : Int32)), .unset, .unset, .unset, .unset, .unset, .unset, .unset, .unset, .unset, .unset, .unset] [(.int p1)])) rfl (hb hby at_51) _ (XS.iand X0.here hx rfl (hb hby at_53) rfl k)))))))) ?_
    refine Run.st (S' := s₁.setTop (mkF m 59 #[.val (.int p0), .val (.int p1), .val (.int p2), .val (.int p3), .val (.int (1 : Int32)), .val (.int dd), .val (.int nn), .val (.int qq), .val (.int (40 : Int32)), .val (.int ((p1 &&& (2147483647 : Int32)) % (40 : Int32))), .unset, .unset, .unset, .unset, .unset, .unset, .unset, .unset, .unset, .unset] [])) (fun _ k => XS.iload X0.here hx rfl (hb hby at_54) rfl (iremM X0 hx rfl (hb hby at_56) rfl (by decide) (XS.istore X0.here hx rfl (hb hby at_57) rfl (l' := #[.val (.int p0), .val (.int p1), .val (.int p2), .val (.int p3), .val (.int (1 : Int32)), .val (.int dd), .val (.int nn), .val (.int qq), .val (.int (40 : Int32)), .val (.int ((p1 &&& (2147483647 : Int32)) % (40 : Int32))), .unset, .unset, .unset, .unset, .unset, .unset, .unset, .unset, .unset, .unset]) rfl k))) ?_
    have hk1 : 0 ≤ (((p1 &&& (2147483647 : Int32)) % (40 : Int32))).toInt ∧ (((p1 &&& (2147483647 : Int32)) % (40 : Int32))).toInt < 40 := (by have := rng32 ((p1 &&& (2147483647 : Int32)) % (40 : Int32)); have := c_irem (p1 &&& (2147483647 : Int32)) (40 : Int32) 40 (by decide); have := rng32 (p1 &&& (2147483647 : Int32)); have := c_mask p1 (2147483647 : Int32) 31 (by decide) (by decide); have := rng32 p1; (try simp only [Int32.lt_iff_toInt_lt, Int64.lt_iff_toInt_lt, Int32.le_iff_toInt_le, Int64.le_iff_toInt_le, ← Int32.toInt_inj, ← Int64.toInt_inj] at  ⊢); omega)
    generalize ek1 : ((p1 &&& (2147483647 : Int32)) % (40 : Int32)) = k1 at hk1 ⊢
    refine Run.st (S' := s₁.setTop (mkF m 68 #[.val (.int p0), .val (.int p1), .val (.int p2), .val (.int p3), .val (.int (1 : Int32)), .val (.int dd), .val (.int nn), .val (.int qq), .val (.int (40 : Int32)), .val (.int k1), .val (.int ((p2 &&& (2147483647 : Int32)) % (40 : Int32))), .unset, .unset, .unset, .unset, .unset, .unset, .unset, .unset, .unset] [])) (fun _ k => XS.iloadN X0.here hx rfl (hb hby at_59) rfl (X0.ldcInt hx hown (mvT hZ (hwi hw 0 rfl)) (g := (mkF m 60 #[.val (.int p0), .val (.int p1), .val (.int p2), .val (.int p3), .val (.int (1 : Int32)), .val (.int dd), .val (.int nn), .val (.int qq), .val (.int (40 : Int32)), .val (.int k1), .unset, .unset, .unset, .unset, .unset, .unset, .unset, .unset, .unset, .unset] [(.int p2)])) rfl (hb hby at_60) _ (XS.iand X0.here hx rfl (hb hby at_62) rfl (XS.iload X0.here hx rfl (hb hby at_63) rfl (iremM X0 hx rfl (hb hby at_65) rfl (by decide) (XS.istore X0.here hx rfl (hb hby at_66) rfl (l' := #[.val (.int p0), .val (.int p1), .val (.int p2), .val (.int p3), .val (.int (1 : Int32)), .val (.int dd), .val (.int nn), .val (.int qq), .val (.int (40 : Int32)), .val (.int k1), .val (.int ((p2 &&& (2147483647 : Int32)) % (40 : Int32))), .unset, .unset, .unset, .unset, .unset, .unset, .unset, .unset, .unset]) rfl k)))))) ?_
    have hk2 : 0 ≤ (((p2 &&& (2147483647 : Int32)) % (40 : Int32))).toInt ∧ (((p2 &&& (2147483647 : Int32)) % (40 : Int32))).toInt < 40 := (by have := rng32 ((p2 &&& (2147483647 : Int32)) % (40 : Int32)); have := c_irem (p2 &&& (2147483647 : Int32)) (40 : Int32) 40 (by decide); have := rng32 (p2 &&& (2147483647 : Int32)); have := c_mask p2 (2147483647 : Int32) 31 (by decide) (by decide); have := rng32 p2; (try simp only [Int32.lt_iff_toInt_lt, Int64.lt_iff_toInt_lt, Int32.le_iff_toInt_le, Int64.le_iff_toInt_le, ← Int32.toInt_inj, ← Int64.toInt_inj] at  ⊢); omega)
    generalize ek2 : ((p2 &&& (2147483647 : Int32)) % (40 : Int32)) = k2 at hk2 ⊢
    refine Run.st (S' := s₁.setTop (mkF m 77 #[.val (.int p0), .val (.int p1), .val (.int p2), .val (.int p3), .val (.int (1 : Int32)), .val (.int dd), .val (.int nn), .val (.int qq), .val (.int (40 : Int32)), .val (.int k1), .val (.int k2), .val (.int ((p3 &&& (2147483647 : Int32)) % (40 : Int32))), .unset, .unset, .unset, .unset, .unset, .unset, .unset, .unset] [])) (fun _ k => XS.iloadN X0.here hx rfl (hb hby at_68) rfl (X0.ldcInt hx hown (mvT hZ (hwi hw 0 rfl)) (g := (mkF m 69 #[.val (.int p0), .val (.int p1), .val (.int p2), .val (.int p3), .val (.int (1 : Int32)), .val (.int dd), .val (.int nn), .val (.int qq), .val (.int (40 : Int32)), .val (.int k1), .val (.int k2), .unset, .unset, .unset, .unset, .unset, .unset, .unset, .unset, .unset] [(.int p3)])) rfl (hb hby at_69) _ (XS.iand X0.here hx rfl (hb hby at_71) rfl (XS.iload X0.here hx rfl (hb hby at_72) rfl (iremM X0 hx rfl (hb hby at_74) rfl (by decide) (XS.istore X0.here hx rfl (hb hby at_75) rfl (l' := #[.val (.int p0), .val (.int p1), .val (.int p2), .val (.int p3), .val (.int (1 : Int32)), .val (.int dd), .val (.int nn), .val (.int qq), .val (.int (40 : Int32)), .val (.int k1), .val (.int k2), .val (.int ((p3 &&& (2147483647 : Int32)) % (40 : Int32))), .unset, .unset, .unset, .unset, .unset, .unset, .unset, .unset]) rfl k)))))) ?_
    have hk3 : 0 ≤ (((p3 &&& (2147483647 : Int32)) % (40 : Int32))).toInt ∧ (((p3 &&& (2147483647 : Int32)) % (40 : Int32))).toInt < 40 := (by have := rng32 ((p3 &&& (2147483647 : Int32)) % (40 : Int32)); have := c_irem (p3 &&& (2147483647 : Int32)) (40 : Int32) 40 (by decide); have := rng32 (p3 &&& (2147483647 : Int32)); have := c_mask p3 (2147483647 : Int32) 31 (by decide) (by decide); have := rng32 p3; (try simp only [Int32.lt_iff_toInt_lt, Int64.lt_iff_toInt_lt, Int32.le_iff_toInt_le, Int64.le_iff_toInt_le, ← Int32.toInt_inj, ← Int64.toInt_inj] at  ⊢); omega)
    generalize ek3 : ((p3 &&& (2147483647 : Int32)) % (40 : Int32)) = k3 at hk3 ⊢
    obtain ⟨T74, h74, X74, e74, E74, A74, D74, -, st74⟩ := newO X0 hx hZ hown (hwi hw 1 rfl) (hwi hw 2 rfl) (hwi hw 3 rfl) e0 (g := (mkF m 77 #[.val (.int p0), .val (.int p1), .val (.int p2), .val (.int p3), .val (.int (1 : Int32)), .val (.int dd), .val (.int nn), .val (.int qq), .val (.int (40 : Int32)), .val (.int k1), .val (.int k2), .val (.int k3), .unset, .unset, .unset, .unset, .unset, .unset, .unset, .unset] [])) rfl (hb hby at_77) (by decide) (by decide)
    obtain ⟨b74, g74⟩ : ∃ z, z = h0.size := ⟨_, rfl⟩
    rw [← g74] at A74 D74 st74
    have OL := OL.ext E74
    have g_b74 : n0 ≤ b74 := Nat.le_trans Zn (Nat.le_of_eq g74.symm)
    have Zn := Nat.le_trans Zn E74.1
    have sz_b74 : h0.size ≤ b74 := Nat.le_trans Kp.1 (Nat.le_of_eq g74.symm)
    have Kp := Kp.ext E74
    have E_b74 := A74
    have F_dealtOfRank_b74 : Fld Z h74 b74 "com/example/sidewager/sidewager/analysis/Shoe" "dealtOfRank" "[I" .null := D74 (Or.inr (hwi hw 15 rfl)) (ty := (.array .int)) (by decide)
    have F_dealtOfSuit_b74 : Fld Z h74 b74 "com/example/sidewager/sidewager/analysis/Shoe" "dealtOfSuit" "[I" .null := D74 (Or.inr (hwi hw 19 rfl)) (ty := (.array .int)) (by decide)
    have F_suits_b74 : Fld Z h74 b74 "com/example/sidewager/sidewager/analysis/Shoe" "suits" "Lcom/example/sidewager/sidewager/analysis/Shoe$Suits;" .null := D74 (Or.inr (hwi hw 21 rfl)) (ty := (.object "com/example/sidewager/sidewager/analysis/Shoe$Suits")) (by decide)
    have F_full_b74 : Fld Z h74 b74 "com/example/sidewager/sidewager/analysis/Shoe" "full" "[I" .null := D74 (Or.inr (hwi hw 25 rfl)) (ty := (.array .int)) (by decide)
    have F_left_b74 : Fld Z h74 b74 "com/example/sidewager/sidewager/analysis/Shoe" "left" "[I" .null := D74 (Or.inr (hwi hw 78 rfl)) (ty := (.array .int)) (by decide)
    have F_orderingsAfter_b74 : Fld Z h74 b74 "com/example/sidewager/sidewager/analysis/Shoe" "orderingsAfter" "[Ljava/math/BigInteger;" .null := D74 (Or.inr (hwi hw 82 rfl)) (ty := (.array (.object "java/math/BigInteger"))) (by decide)
    have F_dealt_b74 : Fld Z h74 b74 "com/example/sidewager/sidewager/analysis/Shoe" "dealt" "I" (.int (0 : Int32)) := D74 (Or.inl (hwi hw 102 rfl)) (ty := .int) (by decide)
    have F_dealtKey_b74 : Fld Z h74 b74 "com/example/sidewager/sidewager/analysis/Shoe" "dealtKey" "J" (.long (0 : Int64)) := D74 (Or.inl (hwi hw 126 rfl)) (ty := .long) (by decide)
    have F_suitsDealt_b74 : Fld Z h74 b74 "com/example/sidewager/sidewager/analysis/Shoe" "suitsDealt" "I" (.int (0 : Int32)) := D74 (Or.inl (hwi hw 131 rfl)) (ty := .int) (by decide)
    refine Run.st (S' := T74.setTop (mkF m 89 #[.val (.int p0), .val (.int p1), .val (.int p2), .val (.int p3), .val (.int (1 : Int32)), .val (.int dd), .val (.int nn), .val (.int qq), .val (.int (40 : Int32)), .val (.int k1), .val (.int k2), .val (.int k3), .unset, .unset, .unset, .unset, .unset, .unset, .unset, .unset] [(.int (0 : Int32)), (.int dd), (.ref b74), (.ref b74)])) (fun _ k => st74 _ (XS.dup X74.here hx rfl (hb hby at_80) rfl rfl (XS.iload X74.here hx rfl (hb hby at_81) rfl (XS.iconst X74.here hx rfl (hb hby at_83) (XS.iload X74.here hx rfl (hb hby at_84) rfl (XS.ifNo X74.here hx rfl (hb hby at_86) rfl ((if0 _ _).trans (feq (show ¬ ((1 : Int32) = (0 : Int32)) from (by decide))).1) k)))))) ?_
    have u_S_MAT := S_MAT.ext OL.2
    obtain ⟨T75, X75, e75, st75⟩ := getS2 X74 hx hZ hown (host := "") (Or.inl (hwi hw 109 rfl)) Via.refl e74 u_S_MAT (g := (mkF m 89 #[.val (.int p0), .val (.int p1), .val (.int p2), .val (.int p3), .val (.int (1 : Int32)), .val (.int dd), .val (.int nn), .val (.int qq), .val (.int (40 : Int32)), .val (.int k1), .val (.int k2), .val (.int k3), .unset, .unset, .unset, .unset, .unset, .unset, .unset, .unset] [(.int (0 : Int32)), (.int dd), (.ref b74), (.ref b74)])) rfl (hb hby at_89)
    refine Run.st (S' := T75.setTop (mkF m 98 #[.val (.int p0), .val (.int p1), .val (.int p2), .val (.int p3), .val (.int (1 : Int32)), .val (.int dd), .val (.int nn), .val (.int qq), .val (.int (40 : Int32)), .val (.int k1), .val (.int k2), .val (.int k3), .unset, .unset, .unset, .unset, .unset, .unset, .unset, .unset] [(.ref s_MAT), (.int (0 : Int32)), (.int dd), (.ref b74), (.ref b74)])) (fun _ k => st75 _ (XS.goto X75.here hx rfl (pc0 := 92) (pc' := 98) rfl (hb hby at_92) (by decide) (by decide) k)) ?_
    have hd1 : ¬ (dd < (1 : Int32)) := own_dd1 hdd
    obtain ⟨_, _, ⟨T76, L76, k76, n76⟩, -, X76, ⟨Lc76, hQ76, l76, y76, z76⟩, st76⟩ := X75.specialBack hx (y := (⟨"com/example/sidewager/sidewager/analysis/Shoe", "<init>", "(IILcom/example/sidewager/sidewager/analysis/Shoe$Suits;)V"⟩ : MethodName)) rfl hown (mvT hZ (hwi hw 7 rfl)) (mvT hZ (hwi hw 8 rfl)) (mvT hZ (hwi hw 9 rfl)) (by decide) (backOf (W := 1) (rmCtM l Z aV hw [] b74 dd s_MAT s_VALS kV vsR s_ONE h74 n0 Zn g_b74 hd1 OL HR E_b74 F_suits_b74 F_full_b74 F_left_b74 F_orderingsAfter_b74 F_dealtOfRank_b74 F_dealtOfSuit_b74 F_suitsDealt_b74 F_dealt_b74 F_dealtKey_b74 S_SUITS S_MAT S_VALS V_VALS E_VALS S_ONE E_ONE) hZ (hwi hw 9 rfl) (hwi hw 3 rfl) (by decide) (by decide)) (g := (mkF m 98 #[.val (.int p0), .val (.int p1), .val (.int p2), .val (.int p3), .val (.int (1 : Int32)), .val (.int dd), .val (.int nn), .val (.int qq), .val (.int (40 : Int32)), .val (.int k1), .val (.int k2), .val (.int k3), .unset, .unset, .unset, .unset, .unset, .unset, .unset, .unset] [(.ref s_MAT), (.int (0 : Int32)), (.int dd), (.ref b74), (.ref b74)])) rfl (by rw [hml]; rfl) (Steps.refl _) (a := b74) (argsL := [(.int dd), (.int (0 : Int32)), (.ref s_MAT)]) (rest := [(.ref b74)]) (lenOf pd_7 rfl) rfl (by show 2 * 0 + _ ≤ _; exact Nat.le_of_eq rfl) (hb hby at_98) (fun _ _ => ⟨rfl, e75, (by decide : 1 + 6 ≤ _), (by decide : 9 + 120 ≤ _)⟩)
    dsimp only [Pt.U, Pt.locs, Pt.cells, Pt.slots] at X76 l76 y76 z76 st76 hQ76
    replace l76 := l76.symm; replace y76 := y76.symm; replace z76 := z76.symm; subst l76 y76 z76
    obtain ⟨b76_0, kb76_0, b76_1, kb76_1, b76_2, kb76_2, rfl, N76q, K76, g_b76_0, z_b76_0, g_b76_1, z_b76_1, g_b76_2, z_b76_2, ne_b76_0_b76_1, ne_b76_0_b76_2, ne_b76_1_b76_2, q76_0, q76_1, q76_2, q76_3, q76_4, q76_5, q76_6, q76_7, q76_8, q76_9, q76_10⟩ := hQ76
    have ne_b74_b76_0 : b74 ≠ b76_0 := Nat.ne_of_lt (Nat.lt_of_lt_of_le E_b74.lt z_b76_0)
    have sz_b76_0 : h0.size ≤ b76_0 := Nat.le_trans Kp.1 z_b76_0
    have ne_b74_b76_1 : b74 ≠ b76_1 := Nat.ne_of_lt (Nat.lt_of_lt_of_le E_b74.lt z_b76_1)
    have sz_b76_1 : h0.size ≤ b76_1 := Nat.le_trans Kp.1 z_b76_1
    have ne_b74_b76_2 : b74 ≠ b76_2 := Nat.ne_of_lt (Nat.lt_of_lt_of_le E_b74.lt z_b76_2)
    have sz_b76_2 : h0.size ≤ b76_2 := Nat.le_trans Kp.1 z_b76_2
    have OL := OL.keep K76 (allS g_b74 all0)
    have E_b74 := q76_0
    have F_suits_b74 := q76_1
    have F_left_b74 := q76_2
    have F_dealtOfRank_b74 := q76_3
    have F_dealtOfSuit_b74 := q76_4
    have F_suitsDealt_b74 := q76_5
    have F_dealt_b74 := q76_6
    have F_dealtKey_b74 := q76_7
    have V_b76_0 := q76_8
    have V_b76_1 := q76_9
    have V_b76_2 := q76_10
    have Kp := Kp.trans K76 (allS (Or.inr sz_b74) all0)
    have Zn := Nat.le_trans Zn K76.1
    have N76 := Fr.app N0 N76q
    refine Run.st (S' := T76.setTop (mkF m 103 #[.val (.int p0), .val (.int p1), .val (.int p2), .val (.int p3), .val (.int (1 : Int32)), .val (.int dd), .val (.int nn), .val (.int qq), .val (.int (40 : Int32)), .val (.int k1), .val (.int k2), .val (.int k3), .val (.ref b74), .unset, .unset, .unset, .unset, .unset, .unset, .unset] [])) (fun _ k => st76.trans (XS.astore X76.here hx rfl (hb hby at_101) rfl rfl (l' := #[.val (.int p0), .val (.int p1), .val (.int p2), .val (.int p3), .val (.int (1 : Int32)), .val (.int dd), .val (.int nn), .val (.int qq), .val (.int (40 : Int32)), .val (.int k1), .val (.int k2), .val (.int k3), .val (.ref b74), .unset, .unset, .unset, .unset, .unset, .unset, .unset]) rfl k)) ?_
    have V_b76_2 : Arv Z T76.heap b76_2 kb76_2 .int (40 : Int32) ((own_it k1 0 (own_full (own_v dd (4 : Int32)) 4)).map Value.int) (.int (0 : Int32)) := V_b76_2
    have V_b76_0 : Arv Z T76.heap b76_0 kb76_0 .int (10 : Int32) ((own_ir (k1 % (10 : Int32)) 0 (List.replicate 10 (0 : Int32))).map Value.int) (.int (0 : Int32)) := V_b76_0
    have V_b76_1 : Arv Z T76.heap b76_1 kb76_1 .int (4 : Int32) ((own_ir (k1 / (10 : Int32)) 0 (List.replicate 4 (0 : Int32))).map Value.int) (.int (0 : Int32)) := V_b76_1
    have JH77 : ∀ (dn : Int32) (lf : List Int32) (Tl77 : State) (Hl77 : Heap) (gl : Good p l e room_1 s m #[(.int p0), (.int p1), (.int p2), (.int p3)] below meth c n0 7 129 Hl77 Tl77) (Zn : n0 ≤ Hl77.size) (Kp : Keep h0 Hl77 []) (OL : Old Z n0 Hl77) (E_b74 : Exa Z Hl77 b74 "com/example/sidewager/sidewager/analysis/Shoe") (F_left_b74 : Fld Z Hl77 b74 "com/example/sidewager/sidewager/analysis/Shoe" "left" "[I" (.ref b76_2)) (F_dealt_b74 : Fld Z Hl77 b74 "com/example/sidewager/sidewager/analysis/Shoe" "dealt" "I" (.int dn)) (V_b76_2 : Arv Z Hl77 b76_2 kb76_2 .int (40 : Int32) (lf.map Value.int) (.int (0 : Int32))), own_ok (1 : Int32) dd k1 dn 40 lf → Run p e below (Ends s (Q0 Z p0 p1 p2 p3 u s_MAT s_VALS kV vsR s_ONE h0 n0) room_1.cells room_1.slots) (Tl77.setTop (mkF m 173 #[.val (.int p0), .val (.int p1), .val (.int p2), .val (.int p3), .val (.int (1 : Int32)), .val (.int dd), .val (.int nn), .val (.int qq), .val (.int (40 : Int32)), .val (.int k1), .val (.int k2), .val (.int k3), .val (.ref b74), .val (.int dn), .unset, .unset, .unset, .unset, .unset, .unset] [])) := by
      intro dn lf Tl77 Hl77 gl Zn Kp OL E_b74 F_left_b74 F_dealt_b74 V_b76_2 hyJ
      obtain ⟨lcs77, Xl77, Nl77, El77⟩ := gl
      rcases own_c4 hnn with rfl | rfl | rfl | rfl
      · refine Run.st (S' := Tl77.setTop (mkF m 179 #[.val (.int p0), .val (.int p1), .val (.int p2), .val (.int p3), .val (.int (1 : Int32)), .val (.int dd), .val (.int (0 : Int32)), .val (.int qq), .val (.int (40 : Int32)), .val (.int k1), .val (.int k2), .val (.int k3), .val (.ref b74), .val (.int dn), .unset, .unset, .unset, .unset, .unset, .unset] [(.int (0 : Int32))])) (fun _ k => XS.iload Xl77.here hx rfl (hb hby at_173) rfl (XS.ifNo Xl77.here hx rfl (hb hby at_175) rfl ((if0 _ _).trans (teq (show (0 : Int32) = (0 : Int32) from (by decide))).2) (XS.iconst Xl77.here hx rfl (hb hby at_178) k))) ?_
        obtain ⟨T78, h78, k78, X78, e78, E78, A78, st78⟩ := newP Xl77 hx hZ (hwi hw 13 rfl) El77 (g := (mkF m 179 #[.val (.int p0), .val (.int p1), .val (.int p2), .val (.int p3), .val (.int (1 : Int32)), .val (.int dd), .val (.int (0 : Int32)), .val (.int qq), .val (.int (40 : Int32)), .val (.int k1), .val (.int k2), .val (.int k3), .val (.ref b74), .val (.int dn), .unset, .unset, .unset, .unset, .unset, .unset] [(.int (0 : Int32))])) rfl (hb hby at_179) rfl (by decide) (cap := 0) (by decide) (by decide) (by decide) (by decide)
        obtain ⟨b78, g78⟩ : ∃ z, z = Hl77.size := ⟨_, rfl⟩
        rw [← g78] at A78 st78
        have ne_b74_b78 : b74 ≠ b78 := Nat.ne_of_lt (Nat.lt_of_lt_of_le E_b74.lt (Nat.le_of_eq g78.symm))
        have ne_b76_2_b78 : b76_2 ≠ b78 := Nat.ne_of_lt (Nat.lt_of_lt_of_le V_b76_2.lt (Nat.le_of_eq g78.symm))
        have E_b74 := E_b74.ext E78
        have F_left_b74 := F_left_b74.ext E78
        have F_dealt_b74 := F_dealt_b74.ext E78
        have V_b76_2 := V_b76_2.ext E78
        have OL := OL.ext E78
        have g_b78 : n0 ≤ b78 := Nat.le_trans Zn (Nat.le_of_eq g78.symm)
        have Zn := Nat.le_trans Zn E78.1
        have sz_b78 : h0.size ≤ b78 := Nat.le_trans Kp.1 (Nat.le_of_eq g78.symm)
        have Kp := Kp.ext E78
        have V_b78 : Arv Z h78 b78 k78 .int (0 : Int32) [] (.int (0 : Int32)) := (Arv.new A78 (by decide)).pad (pad_rep [] (.int (0 : Int32)) 0)
        refine Run.st (S' := T78.setTop (mkF m 249 #[.val (.int p0), .val (.int p1), .val (.int p2), .val (.int p3), .val (.int (1 : Int32)), .val (.int dd), .val (.int (0 : Int32)), .val (.int qq), .val (.int (40 : Int32)), .val (.int k1), .val (.int k2), .val (.int k3), .val (.ref b74), .val (.int dn), .val (.ref b78), .unset, .unset, .unset, .unset, .unset] [])) (fun _ k => st78 _ (XS.astore X78.here hx rfl (hb hby at_181) rfl rfl (l' := #[.val (.int p0), .val (.int p1), .val (.int p2), .val (.int p3), .val (.int (1 : Int32)), .val (.int dd), .val (.int (0 : Int32)), .val (.int qq), .val (.int (40 : Int32)), .val (.int k1), .val (.int k2), .val (.int k3), .val (.ref b74), .val (.int dn), .val (.ref b78), .unset, .unset, .unset, .unset, .unset]) rfl (XS.goto X78.here hx rfl (pc0 := 183) (pc' := 249) rfl (hb hby at_183) (by decide) (by decide) k))) ?_
        have V_b78 : Arv Z h78 b78 k78 .int (0 : Int32) (([] : List Int32).map Value.int) (.int (0 : Int32)) := V_b78
        refine Run.st (S' := T78.setTop (mkF m 294 #[.val (.int p0), .val (.int p1), .val (.int p2), .val (.int p3), .val (.int (1 : Int32)), .val (.int dd), .val (.int (0 : Int32)), .val (.int qq), .val (.int (40 : Int32)), .val (.int k1), .val (.int k2), .val (.int k3), .val (.ref b74), .val (.int dn), .val (.ref b78), .val (.int (1 : Int32)), .unset, .unset, .unset, .unset] [(.int (2 : Int32)), (.int (0 : Int32))])) (fun _ k => XS.iload X78.here hx rfl (hb hby at_249) rfl (XS.iconst X78.here hx rfl (hb hby at_251) (XS.icmpYes X78.here hx rfl (pc0 := 252) (pc' := 284) rfl (hb hby at_252) rfl (tlt (show (0 : Int32) < (1 : Int32) from (by decide))).1 (by decide) (by decide) (XS.iconst X78.here hx rfl (hb hby at_284) (XS.goto X78.here hx rfl (pc0 := 285) (pc' := 289) rfl (hb hby at_285) (by decide) (by decide) (XS.istore X78.here hx rfl (hb hby at_289) rfl (l' := #[.val (.int p0), .val (.int p1), .val (.int p2), .val (.int p3), .val (.int (1 : Int32)), .val (.int dd), .val (.int (0 : Int32)), .val (.int qq), .val (.int (40 : Int32)), .val (.int k1), .val (.int k2), .val (.int k3), .val (.ref b74), .val (.int dn), .val (.ref b78), .val (.int (1 : Int32)), .unset, .unset, .unset, .unset]) rfl (XS.iload X78.here hx rfl (hb hby at_291) rfl (XS.iconst X78.here hx rfl (hb hby at_293) k)))))))) ?_
        refine Run.st (S' := T78.setTop (mkF m 369 #[.val (.int p0), .val (.int p1), .val (.int p2), .val (.int p3), .val (.int (1 : Int32)), .val (.int dd), .val (.int (0 : Int32)), .val (.int qq), .val (.int (40 : Int32)), .val (.int k1), .val (.int k2), .val (.int k3), .val (.ref b74), .val (.int dn), .val (.ref b78), .val (.int (1 : Int32)), .val (.int (1 : Int32)), .unset, .unset, .unset] [(.int (1 : Int32))])) (fun _ k => XS.icmpYes X78.here hx rfl (pc0 := 294) (pc' := 326) rfl (hb hby at_294) rfl (tlt (show (0 : Int32) < (2 : Int32) from (by decide))).1 (by decide) (by decide) (XS.iconst X78.here hx rfl (hb hby at_326) (XS.goto X78.here hx rfl (pc0 := 327) (pc' := 331) rfl (hb hby at_327) (by decide) (by decide) (XS.istore X78.here hx rfl (hb hby at_331) rfl (l' := #[.val (.int p0), .val (.int p1), .val (.int p2), .val (.int p3), .val (.int (1 : Int32)), .val (.int dd), .val (.int (0 : Int32)), .val (.int qq), .val (.int (40 : Int32)), .val (.int k1), .val (.int k2), .val (.int k3), .val (.ref b74), .val (.int dn), .val (.ref b78), .val (.int (1 : Int32)), .val (.int (1 : Int32)), .unset, .unset, .unset]) rfl (XS.iload X78.here hx rfl (hb hby at_333) rfl (XS.iconst X78.here hx rfl (hb hby at_335) (XS.icmpYes X78.here hx rfl (pc0 := 336) (pc' := 368) rfl (hb hby at_336) rfl (tlt (show (0 : Int32) < (3 : Int32) from (by decide))).1 (by decide) (by decide) (XS.iconst X78.here hx rfl (hb hby at_368) k)))))))) ?_
        refine Run.st (S' := T78.setTop (mkF m 390 #[.val (.int p0), .val (.int p1), .val (.int p2), .val (.int p3), .val (.int (1 : Int32)), .val (.int dd), .val (.int (0 : Int32)), .val (.int qq), .val (.int (40 : Int32)), .val (.int k1), .val (.int k2), .val (.int k3), .val (.ref b74), .val (.int dn), .val (.ref b78), .val (.int (1 : Int32)), .val (.int (1 : Int32)), .val (.int (1 : Int32)), .unset, .unset] [])) (fun _ k => XS.goto X78.here hx rfl (pc0 := 369) (pc' := 373) rfl (hb hby at_369) (by decide) (by decide) (XS.istore X78.here hx rfl (hb hby at_373) rfl (l' := #[.val (.int p0), .val (.int p1), .val (.int p2), .val (.int p3), .val (.int (1 : Int32)), .val (.int dd), .val (.int (0 : Int32)), .val (.int qq), .val (.int (40 : Int32)), .val (.int k1), .val (.int k2), .val (.int k3), .val (.ref b74), .val (.int dn), .val (.ref b78), .val (.int (1 : Int32)), .val (.int (1 : Int32)), .val (.int (1 : Int32)), .unset, .unset]) rfl (XS.iload X78.here hx rfl (hb hby at_375) rfl (XS.ifNo X78.here hx rfl (hb hby at_377) rfl ((if0 _ _).trans (feq (show ¬ ((1 : Int32) = (0 : Int32)) from (by decide))).1) (XS.iload X78.here hx rfl (hb hby at_380) rfl (XS.ifNo X78.here hx rfl (hb hby at_382) rfl ((if0 _ _).trans (feq (show ¬ ((1 : Int32) = (0 : Int32)) from (by decide))).1) (XS.iload X78.here hx rfl (hb hby at_385) rfl (XS.ifNo X78.here hx rfl (hb hby at_387) rfl ((if0 _ _).trans (feq (show ¬ ((1 : Int32) = (0 : Int32)) from (by decide))).1) k)))))))) ?_
        refine Run.st (S' := T78.setTop (mkF m 401 #[.val (.int p0), .val (.int p1), .val (.int p2), .val (.int p3), .val (.int (1 : Int32)), .val (.int dd), .val (.int (0 : Int32)), .val (.int qq), .val (.int (40 : Int32)), .val (.int k1), .val (.int k2), .val (.int k3), .val (.ref b74), .val (.int dn), .val (.ref b78), .val (.int (1 : Int32)), .val (.int (1 : Int32)), .val (.int (1 : Int32)), .val (.int (1 : Int32)), .unset] [(.ref b78), (.ref b74)])) (fun _ k => XS.iconst X78.here hx rfl (hb hby at_390) (XS.goto X78.here hx rfl (pc0 := 391) (pc' := 395) rfl (hb hby at_391) (by decide) (by decide) (XS.istore X78.here hx rfl (hb hby at_395) rfl (l' := #[.val (.int p0), .val (.int p1), .val (.int p2), .val (.int p3), .val (.int (1 : Int32)), .val (.int dd), .val (.int (0 : Int32)), .val (.int qq), .val (.int (40 : Int32)), .val (.int k1), .val (.int k2), .val (.int k3), .val (.ref b74), .val (.int dn), .val (.ref b78), .val (.int (1 : Int32)), .val (.int (1 : Int32)), .val (.int (1 : Int32)), .val (.int (1 : Int32)), .unset]) rfl (XS.aload X78.here hx rfl (hb hby at_397) rfl rfl (XS.aload X78.here hx rfl (hb hby at_399) rfl rfl k))))) ?_
        obtain ⟨cq79, kq79, q79a, q79b, q79c⟩ := isOf hZ e78 E_b74
        obtain ⟨_, _, ⟨T79, L79, k79, n79⟩, -, X79, ⟨Lc79, hQ79, l79, y79, z79⟩, st79⟩ := X78.virtualBack hx (y := (⟨"com/example/sidewager/sidewager/analysis/Shoe", "holds", "([I)Z"⟩ : MethodName)) (z := (⟨"com/example/sidewager/sidewager/analysis/Shoe", "holds", "([I)Z"⟩ : MethodName)) hown (mvT hZ (hwi hw 91 rfl)) (mvT hZ (hwi hw 92 rfl)) (notFace_of_selects (args := #[]) (mvT hZ (hwi hw 94 rfl))) (mvT hZ (hwi hw 94 rfl)) (mvT hZ (hwi hw 93 rfl)) (by decide) (backOf (W := 0) (rmHoM l Z aV hw [] b74 b78 b76_2 kb76_2 lf k78 ([] : List Int32) (0 : Int32) h78 n0 Zn (by decide) (by decide) (own_hks0) F_left_b74 V_b76_2 V_b78) hZ (hwi hw 95 rfl) (hwi hw 3 rfl) (by decide) (by decide)) q79a q79c (g := (mkF m 401 #[.val (.int p0), .val (.int p1), .val (.int p2), .val (.int p3), .val (.int (1 : Int32)), .val (.int dd), .val (.int (0 : Int32)), .val (.int qq), .val (.int (40 : Int32)), .val (.int k1), .val (.int k2), .val (.int k3), .val (.ref b74), .val (.int dn), .val (.ref b78), .val (.int (1 : Int32)), .val (.int (1 : Int32)), .val (.int (1 : Int32)), .val (.int (1 : Int32)), .unset] [(.ref b78), (.ref b74)])) rfl (by rw [hml]; rfl) (Steps.refl _) (argsL := [(.ref b78)]) (rest := []) (lenOf pd_8 rfl) rfl (by show 2 * 0 + _ ≤ _; exact Nat.le_of_eq rfl) (hb hby at_401) (fun _ _ => ⟨rfl, e78, (by decide : 8 + 1 ≤ _), (by decide : 129 + 40 ≤ _)⟩)
        dsimp only [Pt.U, Pt.locs, Pt.cells, Pt.slots] at X79 l79 y79 z79 st79 hQ79
        replace l79 := l79.symm; replace y79 := y79.symm; replace z79 := z79.symm; subst l79 y79 z79
        obtain ⟨rfl, N79q, K79⟩ := hQ79
        have OL := OL.keep K79 all0
        have E_b74 := E_b74.keep K79
        have F_left_b74 := F_left_b74.keep K79 nin0
        have F_dealt_b74 := F_dealt_b74.keep K79 nin0
        have V_b76_2 := V_b76_2.keep K79 nin0
        have V_b78 := V_b78.keep K79 nin0
        have Kp := Kp.trans K79 all0
        have Zn := Nat.le_trans Zn K79.1
        have N79 := Fr.app Nl77 N79q
        refine Run.st (S' := T79.setTop (mkF m 415 #[.val (.int p0), .val (.int p1), .val (.int p2), .val (.int p3), .val (.int (1 : Int32)), .val (.int dd), .val (.int (0 : Int32)), .val (.int qq), .val (.int (40 : Int32)), .val (.int k1), .val (.int k2), .val (.int k3), .val (.ref b74), .val (.int dn), .val (.ref b78), .val (.int (1 : Int32)), .val (.int (1 : Int32)), .val (.int (1 : Int32)), .val (.int (1 : Int32)), .val (.int (own_H ([] : List Int32) (0 : Int32) 40 lf))] [(.ref b74)])) (fun _ k => st79.trans (XS.istore X79.here hx rfl (hb hby at_404) rfl (l' := #[.val (.int p0), .val (.int p1), .val (.int p2), .val (.int p3), .val (.int (1 : Int32)), .val (.int dd), .val (.int (0 : Int32)), .val (.int qq), .val (.int (40 : Int32)), .val (.int k1), .val (.int k2), .val (.int k3), .val (.ref b74), .val (.int dn), .val (.ref b78), .val (.int (1 : Int32)), .val (.int (1 : Int32)), .val (.int (1 : Int32)), .val (.int (1 : Int32)), .val (.int (own_H ([] : List Int32) (0 : Int32) 40 lf))]) rfl (XS.iload X79.here hx rfl (hb hby at_406) rfl (XS.iload X79.here hx rfl (hb hby at_408) rfl (XS.icmpNo X79.here hx rfl (hb hby at_410) rfl (teq (show (own_H ([] : List Int32) (0 : Int32) 40 lf) = (1 : Int32) from own_E0 (k2 := k2) (k3 := k3) (N := 40) (by decide) hyJ)).2 (XS.aload X79.here hx rfl (hb hby at_413) rfl rfl k)))))) ?_
        obtain ⟨cq80, kq80, q80a, q80b, q80c⟩ := isOf hZ rfl E_b74
        obtain ⟨_, _, ⟨T80, L80, k80, n80⟩, -, X80, ⟨Lc80, hQ80, l80, y80, z80⟩, st80⟩ := X79.virtualBack hx (y := (⟨"com/example/sidewager/sidewager/analysis/Shoe", "dealt", "()I"⟩ : MethodName)) (z := (⟨"com/example/sidewager/sidewager/analysis/Shoe", "dealt", "()I"⟩ : MethodName)) hown (mvT hZ (hwi hw 96 rfl)) (mvT hZ (hwi hw 97 rfl)) (notFace_of_selects (args := #[]) (mvT hZ (hwi hw 99 rfl))) (mvT hZ (hwi hw 99 rfl)) (mvT hZ (hwi hw 98 rfl)) (by decide) (backOf (W := 0) (rmDt l Z aV hw [] b74 dn T79.heap n0 Zn F_dealt_b74) hZ (hwi hw 100 rfl) (hwi hw 3 rfl) (by decide) (by decide)) q80a q80c (g := (mkF m 415 #[.val (.int p0), .val (.int p1), .val (.int p2), .val (.int p3), .val (.int (1 : Int32)), .val (.int dd), .val (.int (0 : Int32)), .val (.int qq), .val (.int (40 : Int32)), .val (.int k1), .val (.int k2), .val (.int k3), .val (.ref b74), .val (.int dn), .val (.ref b78), .val (.int (1 : Int32)), .val (.int (1 : Int32)), .val (.int (1 : Int32)), .val (.int (1 : Int32)), .val (.int (own_H ([] : List Int32) (0 : Int32) 40 lf))] [(.ref b74)])) rfl (by rw [hml]; rfl) (Steps.refl _) (argsL := []) (rest := []) (lenOf pd_1 rfl) rfl (by show 2 * 0 + _ ≤ _; exact Nat.le_of_eq rfl) (hb hby at_415) (fun _ _ => ⟨rfl, rfl, (by decide : 9 + 0 ≤ _), (by decide : 169 + 0 ≤ _)⟩)
        dsimp only [Pt.U, Pt.locs, Pt.cells, Pt.slots] at X80 l80 y80 z80 st80 hQ80
        replace l80 := l80.symm; replace y80 := y80.symm; replace z80 := z80.symm; subst l80 y80 z80
        obtain ⟨rfl, N80q, e80⟩ := hQ80
        have N80 := Fr.app N79 N80q
        refine Run.st (S' := T80.setTop (mkF m 428 #[.val (.int p0), .val (.int p1), .val (.int p2), .val (.int p3), .val (.int (1 : Int32)), .val (.int dd), .val (.int (0 : Int32)), .val (.int qq), .val (.int (40 : Int32)), .val (.int k1), .val (.int k2), .val (.int k3), .val (.ref b74), .val (.int dn), .val (.ref b78), .val (.int (1 : Int32)), .val (.int (1 : Int32)), .val (.int (1 : Int32)), .val (.int (1 : Int32)), .val (.int (own_H ([] : List Int32) (0 : Int32) 40 lf))] [(.int (1 : Int32))])) (fun _ k => st80.trans (XS.iload X80.here hx rfl (hb hby at_418) rfl (XS.icmpNo X80.here hx rfl (hb hby at_420) rfl (teq (show dn = dn from rfl)).2 (XS.iconst X80.here hx rfl (hb hby at_423) (XS.goto X80.here hx rfl (pc0 := 424) (pc' := 428) rfl (hb hby at_424) (by decide) (by decide) k))))) ?_
        refine Run.out X80 hx Bd.notSynchronized Bd.returns rfl (Or.inl ⟨rfl, by simp, _, rfl⟩) (hb hby at_428) (by decide) (by decide) ?_
        rw [e80]
        exact ⟨rfl, N80⟩
      · refine Run.st (S' := Tl77.setTop (mkF m 193 #[.val (.int p0), .val (.int p1), .val (.int p2), .val (.int p3), .val (.int (1 : Int32)), .val (.int dd), .val (.int (1 : Int32)), .val (.int qq), .val (.int (40 : Int32)), .val (.int k1), .val (.int k2), .val (.int k3), .val (.ref b74), .val (.int dn), .unset, .unset, .unset, .unset, .unset, .unset] [(.int (1 : Int32))])) (fun _ k => XS.iload Xl77.here hx rfl (hb hby at_173) rfl (XS.ifYes Xl77.here hx rfl (pc0 := 175) (pc' := 186) rfl (hb hby at_175) rfl ((if0 _ _).trans (feq (show ¬ ((1 : Int32) = (0 : Int32)) from (by decide))).2) (by decide) (by decide) (XS.iload Xl77.here hx rfl (hb hby at_186) rfl (XS.iconst Xl77.here hx rfl (hb hby at_188) (XS.icmpNo Xl77.here hx rfl (hb hby at_189) rfl (teq (show (1 : Int32) = (1 : Int32) from (by decide))).2 (XS.iconst Xl77.here hx rfl (hb hby at_192) k)))))) ?_
        obtain ⟨T81, h81, k81, X81, e81, E81, A81, st81⟩ := newP Xl77 hx hZ (hwi hw 13 rfl) El77 (g := (mkF m 193 #[.val (.int p0), .val (.int p1), .val (.int p2), .val (.int p3), .val (.int (1 : Int32)), .val (.int dd), .val (.int (1 : Int32)), .val (.int qq), .val (.int (40 : Int32)), .val (.int k1), .val (.int k2), .val (.int k3), .val (.ref b74), .val (.int dn), .unset, .unset, .unset, .unset, .unset, .unset] [(.int (1 : Int32))])) rfl (hb hby at_193) rfl (by decide) (cap := 1) (by decide) (by decide) (by decide) (by decide)
        obtain ⟨b81, g81⟩ : ∃ z, z = Hl77.size := ⟨_, rfl⟩
        rw [← g81] at A81 st81
        have ne_b74_b81 : b74 ≠ b81 := Nat.ne_of_lt (Nat.lt_of_lt_of_le E_b74.lt (Nat.le_of_eq g81.symm))
        have ne_b76_2_b81 : b76_2 ≠ b81 := Nat.ne_of_lt (Nat.lt_of_lt_of_le V_b76_2.lt (Nat.le_of_eq g81.symm))
        have E_b74 := E_b74.ext E81
        have F_left_b74 := F_left_b74.ext E81
        have F_dealt_b74 := F_dealt_b74.ext E81
        have V_b76_2 := V_b76_2.ext E81
        have OL := OL.ext E81
        have g_b81 : n0 ≤ b81 := Nat.le_trans Zn (Nat.le_of_eq g81.symm)
        have Zn := Nat.le_trans Zn E81.1
        have sz_b81 : h0.size ≤ b81 := Nat.le_trans Kp.1 (Nat.le_of_eq g81.symm)
        have Kp := Kp.ext E81
        have V_b81 : Arv Z h81 b81 k81 .int (1 : Int32) [(.int (0 : Int32))] (.int (0 : Int32)) := (Arv.new A81 (by decide)).pad (pad_rep [] (.int (0 : Int32)) 1)
        refine Run.st (S' := T81.setTop (mkF m 199 #[.val (.int p0), .val (.int p1), .val (.int p2), .val (.int p3), .val (.int (1 : Int32)), .val (.int dd), .val (.int (1 : Int32)), .val (.int qq), .val (.int (40 : Int32)), .val (.int k1), .val (.int k2), .val (.int k3), .val (.ref b74), .val (.int dn), .unset, .unset, .unset, .unset, .unset, .unset] [(.int k1), (.int (0 : Int32)), (.ref b81), (.ref b81)])) (fun _ k => st81 _ (XS.dup X81.here hx rfl (hb hby at_195) rfl rfl (XS.iconst X81.here hx rfl (hb hby at_196) (XS.iload X81.here hx rfl (hb hby at_197) rfl k)))) ?_
        obtain ⟨cl82, Ar82, qa82, Sa82, Na82, Ha82, Ga82⟩ := V_b81
        have hin82 : ¬ ((0 : Int32) < 0 ∨ cl82.slots.size ≤ ((0 : Int32)).toNatClampNeg) := inb_of Sa82 ⟨by decide, by decide⟩
        obtain ⟨T82, h82, X82, e82, W82, st82⟩ := stI X81 hx hZ e81 Ar82 (j := (0 : Int32)) hin82 (g := (mkF m 199 #[.val (.int p0), .val (.int p1), .val (.int p2), .val (.int p3), .val (.int (1 : Int32)), .val (.int dd), .val (.int (1 : Int32)), .val (.int qq), .val (.int (40 : Int32)), .val (.int k1), .val (.int k2), .val (.int k3), .val (.ref b74), .val (.int dn), .unset, .unset, .unset, .unset, .unset, .unset] [(.int k1), (.int (0 : Int32)), (.ref b81), (.ref b81)])) rfl rfl (hb hby at_199)
        have V_b81 := Arv.set Ar82 qa82 Sa82 Na82 Ha82 Ga82 rfl W82 0 rfl (Nat.le_of_ble_eq_true rfl)
        have V_b81 : Arv Z h82 b81 k81 .int (1 : Int32) [(.int k1)] (.int (0 : Int32)) := V_b81
        have OL := OL.wr W82 g_b81
        have E_b74 := E_b74.wr W82
        have F_left_b74 := F_left_b74.other W82 (Or.inl ne_b74_b81)
        have F_dealt_b74 := F_dealt_b74.other W82 (Or.inl ne_b74_b81)
        have V_b76_2 := V_b76_2.other W82 ne_b76_2_b81
        have N82 := Fr.snoc X82 Nl77 g_b81
        have Kp := Kp.wr W82 (Or.inr sz_b81)
        have Zn := Nat.le_trans Zn (Nat.le_of_eq W82.size.symm)
        refine Run.st (S' := T82.setTop (mkF m 249 #[.val (.int p0), .val (.int p1), .val (.int p2), .val (.int p3), .val (.int (1 : Int32)), .val (.int dd), .val (.int (1 : Int32)), .val (.int qq), .val (.int (40 : Int32)), .val (.int k1), .val (.int k2), .val (.int k3), .val (.ref b74), .val (.int dn), .val (.ref b81), .unset, .unset, .unset, .unset, .unset] [])) (fun _ k => st82 _ (XS.astore X82.here hx rfl (hb hby at_200) rfl rfl (l' := #[.val (.int p0), .val (.int p1), .val (.int p2), .val (.int p3), .val (.int (1 : Int32)), .val (.int dd), .val (.int (1 : Int32)), .val (.int qq), .val (.int (40 : Int32)), .val (.int k1), .val (.int k2), .val (.int k3), .val (.ref b74), .val (.int dn), .val (.ref b81), .unset, .unset, .unset, .unset, .unset]) rfl (XS.goto X82.here hx rfl (pc0 := 202) (pc' := 249) rfl (hb hby at_202) (by decide) (by decide) k))) ?_
        have V_b81 : Arv Z h82 b81 k81 .int (1 : Int32) ([k1].map Value.int) (.int (0 : Int32)) := V_b81
        refine Run.st (S' := T82.setTop (mkF m 265 #[.val (.int p0), .val (.int p1), .val (.int p2), .val (.int p3), .val (.int (1 : Int32)), .val (.int dd), .val (.int (1 : Int32)), .val (.int qq), .val (.int (40 : Int32)), .val (.int k1), .val (.int k2), .val (.int k3), .val (.ref b74), .val (.int dn), .val (.ref b81), .unset, .unset, .unset, .unset, .unset] [(.int k3), (.int k2), (.int k1), (.int (1 : Int32)), (.int k1)])) (fun _ k => XS.iload X82.here hx rfl (hb hby at_249) rfl (XS.iconst X82.here hx rfl (hb hby at_251) (XS.icmpNo X82.here hx rfl (hb hby at_252) rfl (flt (show ¬ ((1 : Int32) < (1 : Int32)) from (by decide))).1 (XS.iload X82.here hx rfl (hb hby at_255) rfl (XS.iload X82.here hx rfl (hb hby at_257) rfl (XS.iload X82.here hx rfl (hb hby at_259) rfl (XS.iload X82.here hx rfl (hb hby at_261) rfl (XS.iload X82.here hx rfl (hb hby at_263) rfl k)))))))) ?_
        obtain ⟨_, _, ⟨T83, L83, k83, n83⟩, -, X83, ⟨Lc83, hQ83, l83, y83, z83⟩, st83⟩ := Jvm.LawKit.callS X82 hx (y := (⟨"com/example/sidewager/sidewager/analysis/ShoeHoldsPinLaw", "cnt", "(IIIII)I"⟩ : MethodName)) hown (mvT hZ (hwi hw 103 rfl)) (mvT hZ (hwi hw 104 rfl)) (mvT hZ (hwi hw 88 rfl)) (mvT hZ (hwi hw 105 rfl)) (by decide) (backOf (W := 0) (rmCnt l Z aV hw [] k1 (1 : Int32) k1 k2 k3 h82 n0 Zn ) hZ (hwi hw 105 rfl) (hwi hw 88 rfl) (by decide) (by decide)) (g := (mkF m 265 #[.val (.int p0), .val (.int p1), .val (.int p2), .val (.int p3), .val (.int (1 : Int32)), .val (.int dd), .val (.int (1 : Int32)), .val (.int qq), .val (.int (40 : Int32)), .val (.int k1), .val (.int k2), .val (.int k3), .val (.ref b74), .val (.int dn), .val (.ref b81), .unset, .unset, .unset, .unset, .unset] [(.int k3), (.int k2), (.int k1), (.int (1 : Int32)), (.int k1)])) rfl (by rw [hml]; rfl) (argsL := [(.int k1), (.int (1 : Int32)), (.int k1), (.int k2), (.int k3)]) (rest := []) (lenOf pd_9 rfl) rfl (by show 2 * 0 + _ ≤ _; exact Nat.le_of_eq rfl) (hb hby at_265) (fun _ _ => ⟨rfl, e82, (by decide : 8 + 0 ≤ _), (by decide : 130 + 0 ≤ _)⟩)
        dsimp only [Pt.U, Pt.locs, Pt.cells, Pt.slots] at X83 l83 y83 z83 st83 hQ83
        replace l83 := l83.symm; replace y83 := y83.symm; replace z83 := z83.symm; subst l83 y83 z83
        obtain ⟨rfl, N83q, e83⟩ := hQ83
        have N83 := Fr.app N82 N83q
        refine Run.st (S' := T83.setTop (mkF m 278 #[.val (.int p0), .val (.int p1), .val (.int p2), .val (.int p3), .val (.int (1 : Int32)), .val (.int dd), .val (.int (1 : Int32)), .val (.int qq), .val (.int (40 : Int32)), .val (.int k1), .val (.int k2), .val (.int k3), .val (.ref b74), .val (.int dn), .val (.ref b81), .unset, .unset, .unset, .unset, .unset] [(.int k1), (.int dn), (.int k1), (.int dd), (.int (1 : Int32)), (.int (FCnt k1 (1 : Int32) k1 k2 k3))])) (fun _ k => st83 _ (XS.iload X83.here hx rfl (hb hby at_268) rfl (XS.iload X83.here hx rfl (hb hby at_270) rfl (XS.iload X83.here hx rfl (hb hby at_272) rfl (XS.iload X83.here hx rfl (hb hby at_274) rfl (XS.iload X83.here hx rfl (hb hby at_276) rfl k)))))) ?_
        obtain ⟨_, _, ⟨T84, L84, k84, n84⟩, -, X84, ⟨Lc84, hQ84, l84, y84, z84⟩, st84⟩ := Jvm.LawKit.callS X83 hx (y := (⟨"com/example/sidewager/sidewager/analysis/ShoeHoldsPinLaw", "left", "(ZIIII)I"⟩ : MethodName)) hown (mvT hZ (hwi hw 106 rfl)) (mvT hZ (hwi hw 107 rfl)) (mvT hZ (hwi hw 88 rfl)) (mvT hZ (hwi hw 108 rfl)) (by decide) (backOf (W := 1) (rmLeft l Z aV hw [] (1 : Int32) dd k1 dn k1 h82 n0 Zn ) hZ (hwi hw 108 rfl) (hwi hw 88 rfl) (by decide) (by decide)) (g := (mkF m 278 #[.val (.int p0), .val (.int p1), .val (.int p2), .val (.int p3), .val (.int (1 : Int32)), .val (.int dd), .val (.int (1 : Int32)), .val (.int qq), .val (.int (40 : Int32)), .val (.int k1), .val (.int k2), .val (.int k3), .val (.ref b74), .val (.int dn), .val (.ref b81), .unset, .unset, .unset, .unset, .unset] [(.int k1), (.int dn), (.int k1), (.int dd), (.int (1 : Int32)), (.int (FCnt k1 (1 : Int32) k1 k2 k3))])) rfl (by rw [hml]; rfl) (argsL := [(.int (1 : Int32)), (.int dd), (.int k1), (.int dn), (.int k1)]) (rest := [(.int (FCnt k1 (1 : Int32) k1 k2 k3))]) (lenOf pd_10 rfl) rfl (by show 2 * 0 + _ ≤ _; exact Nat.le_of_eq rfl) (hb hby at_278) (fun _ _ => ⟨rfl, e83, (by decide : 8 + 0 ≤ _), (by decide : 130 + 0 ≤ _)⟩)
        dsimp only [Pt.U, Pt.locs, Pt.cells, Pt.slots] at X84 l84 y84 z84 st84 hQ84
        replace l84 := l84.symm; replace y84 := y84.symm; replace z84 := z84.symm; subst l84 y84 z84
        obtain ⟨rfl, N84q, e84⟩ := hQ84
        have N84 := Fr.app N83 N84q
        refine Run.st (S' := T84.setTop (mkF m 281 #[.val (.int p0), .val (.int p1), .val (.int p2), .val (.int p3), .val (.int (1 : Int32)), .val (.int dd), .val (.int (1 : Int32)), .val (.int qq), .val (.int (40 : Int32)), .val (.int k1), .val (.int k2), .val (.int k3), .val (.ref b74), .val (.int dn), .val (.ref b81), .unset, .unset, .unset, .unset, .unset] [(.int (FLeft (1 : Int32) dd k1 dn k1)), (.int (FCnt k1 (1 : Int32) k1 k2 k3))])) (fun _ k => st84 _ k) ?_
        have J291_85 : ∀ (x15 : Int32), x15 = (if (FLeft (1 : Int32) dd k1 dn k1) < (FCnt k1 (1 : Int32) k1 k2 k3) then (0 : Int32) else (1 : Int32)) → Run p e below (Ends s (Q0 Z p0 p1 p2 p3 u s_MAT s_VALS kV vsR s_ONE h0 n0) room_1.cells room_1.slots) (T84.setTop (mkF m 291 #[.val (.int p0), .val (.int p1), .val (.int p2), .val (.int p3), .val (.int (1 : Int32)), .val (.int dd), .val (.int (1 : Int32)), .val (.int qq), .val (.int (40 : Int32)), .val (.int k1), .val (.int k2), .val (.int k3), .val (.ref b74), .val (.int dn), .val (.ref b81), .val (.int x15), .unset, .unset, .unset, .unset] [])) := by
          intro x15 h_x15
          refine Run.st (S' := T84.setTop (mkF m 336 #[.val (.int p0), .val (.int p1), .val (.int p2), .val (.int p3), .val (.int (1 : Int32)), .val (.int dd), .val (.int (1 : Int32)), .val (.int qq), .val (.int (40 : Int32)), .val (.int k1), .val (.int k2), .val (.int k3), .val (.ref b74), .val (.int dn), .val (.ref b81), .val (.int x15), .val (.int (1 : Int32)), .unset, .unset, .unset] [(.int (3 : Int32)), (.int (1 : Int32))])) (fun _ k => XS.iload X84.here hx rfl (hb hby at_291) rfl (XS.iconst X84.here hx rfl (hb hby at_293) (XS.icmpYes X84.here hx rfl (pc0 := 294) (pc' := 326) rfl (hb hby at_294) rfl (tlt (show (1 : Int32) < (2 : Int32) from (by decide))).1 (by decide) (by decide) (XS.iconst X84.here hx rfl (hb hby at_326) (XS.goto X84.here hx rfl (pc0 := 327) (pc' := 331) rfl (hb hby at_327) (by decide) (by decide) (XS.istore X84.here hx rfl (hb hby at_331) rfl (l' := #[.val (.int p0), .val (.int p1), .val (.int p2), .val (.int p3), .val (.int (1 : Int32)), .val (.int dd), .val (.int (1 : Int32)), .val (.int qq), .val (.int (40 : Int32)), .val (.int k1), .val (.int k2), .val (.int k3), .val (.ref b74), .val (.int dn), .val (.ref b81), .val (.int x15), .val (.int (1 : Int32)), .unset, .unset, .unset]) rfl (XS.iload X84.here hx rfl (hb hby at_333) rfl (XS.iconst X84.here hx rfl (hb hby at_335) k)))))))) ?_
          refine Run.st (S' := T84.setTop (mkF m 377 #[.val (.int p0), .val (.int p1), .val (.int p2), .val (.int p3), .val (.int (1 : Int32)), .val (.int dd), .val (.int (1 : Int32)), .val (.int qq), .val (.int (40 : Int32)), .val (.int k1), .val (.int k2), .val (.int k3), .val (.ref b74), .val (.int dn), .val (.ref b81), .val (.int x15), .val (.int (1 : Int32)), .val (.int (1 : Int32)), .unset, .unset] [(.int x15)])) (fun _ k => XS.icmpYes X84.here hx rfl (pc0 := 336) (pc' := 368) rfl (hb hby at_336) rfl (tlt (show (1 : Int32) < (3 : Int32) from (by decide))).1 (by decide) (by decide) (XS.iconst X84.here hx rfl (hb hby at_368) (XS.goto X84.here hx rfl (pc0 := 369) (pc' := 373) rfl (hb hby at_369) (by decide) (by decide) (XS.istore X84.here hx rfl (hb hby at_373) rfl (l' := #[.val (.int p0), .val (.int p1), .val (.int p2), .val (.int p3), .val (.int (1 : Int32)), .val (.int dd), .val (.int (1 : Int32)), .val (.int qq), .val (.int (40 : Int32)), .val (.int k1), .val (.int k2), .val (.int k3), .val (.ref b74), .val (.int dn), .val (.ref b81), .val (.int x15), .val (.int (1 : Int32)), .val (.int (1 : Int32)), .unset, .unset]) rfl (XS.iload X84.here hx rfl (hb hby at_375) rfl k))))) ?_
          by_cases hc377_86 : x15 = (0 : Int32)
          · refine Run.st (S' := T84.setTop (mkF m 401 #[.val (.int p0), .val (.int p1), .val (.int p2), .val (.int p3), .val (.int (1 : Int32)), .val (.int dd), .val (.int (1 : Int32)), .val (.int qq), .val (.int (40 : Int32)), .val (.int k1), .val (.int k2), .val (.int k3), .val (.ref b74), .val (.int dn), .val (.ref b81), .val (.int x15), .val (.int (1 : Int32)), .val (.int (1 : Int32)), .val (.int (0 : Int32)), .unset] [(.ref b81), (.ref b74)])) (fun _ k => XS.ifYes X84.here hx rfl (pc0 := 377) (pc' := 394) rfl (hb hby at_377) rfl ((if0 _ _).trans (teq hc377_86).1) (by decide) (by decide) (XS.iconst X84.here hx rfl (hb hby at_394) (XS.istore X84.here hx rfl (hb hby at_395) rfl (l' := #[.val (.int p0), .val (.int p1), .val (.int p2), .val (.int p3), .val (.int (1 : Int32)), .val (.int dd), .val (.int (1 : Int32)), .val (.int qq), .val (.int (40 : Int32)), .val (.int k1), .val (.int k2), .val (.int k3), .val (.ref b74), .val (.int dn), .val (.ref b81), .val (.int x15), .val (.int (1 : Int32)), .val (.int (1 : Int32)), .val (.int (0 : Int32)), .unset]) rfl (XS.aload X84.here hx rfl (hb hby at_397) rfl rfl (XS.aload X84.here hx rfl (hb hby at_399) rfl rfl k))))) ?_
            obtain ⟨cq87, kq87, q87a, q87b, q87c⟩ := isOf hZ e84 E_b74
            obtain ⟨_, _, ⟨T87, L87, k87, n87⟩, -, X87, ⟨Lc87, hQ87, l87, y87, z87⟩, st87⟩ := X84.virtualBack hx (y := (⟨"com/example/sidewager/sidewager/analysis/Shoe", "holds", "([I)Z"⟩ : MethodName)) (z := (⟨"com/example/sidewager/sidewager/analysis/Shoe", "holds", "([I)Z"⟩ : MethodName)) hown (mvT hZ (hwi hw 91 rfl)) (mvT hZ (hwi hw 92 rfl)) (notFace_of_selects (args := #[]) (mvT hZ (hwi hw 94 rfl))) (mvT hZ (hwi hw 94 rfl)) (mvT hZ (hwi hw 93 rfl)) (by decide) (backOf (W := 0) (rmHoM l Z aV hw [] b74 b81 b76_2 kb76_2 lf k81 [k1] (1 : Int32) h82 n0 Zn (by decide) (by decide) (own_hks1 hk1) F_left_b74 V_b76_2 V_b81) hZ (hwi hw 95 rfl) (hwi hw 3 rfl) (by decide) (by decide)) q87a q87c (g := (mkF m 401 #[.val (.int p0), .val (.int p1), .val (.int p2), .val (.int p3), .val (.int (1 : Int32)), .val (.int dd), .val (.int (1 : Int32)), .val (.int qq), .val (.int (40 : Int32)), .val (.int k1), .val (.int k2), .val (.int k3), .val (.ref b74), .val (.int dn), .val (.ref b81), .val (.int x15), .val (.int (1 : Int32)), .val (.int (1 : Int32)), .val (.int (0 : Int32)), .unset] [(.ref b81), (.ref b74)])) rfl (by rw [hml]; rfl) (Steps.refl _) (argsL := [(.ref b81)]) (rest := []) (lenOf pd_8 rfl) rfl (by show 2 * 0 + _ ≤ _; exact Nat.le_of_eq rfl) (hb hby at_401) (fun _ _ => ⟨rfl, e84, (by decide : 8 + 1 ≤ _), (by decide : 130 + 40 ≤ _)⟩)
            dsimp only [Pt.U, Pt.locs, Pt.cells, Pt.slots] at X87 l87 y87 z87 st87 hQ87
            replace l87 := l87.symm; replace y87 := y87.symm; replace z87 := z87.symm; subst l87 y87 z87
            obtain ⟨rfl, N87q, K87⟩ := hQ87
            have OL := OL.keep K87 all0
            have E_b74 := E_b74.keep K87
            have F_left_b74 := F_left_b74.keep K87 nin0
            have F_dealt_b74 := F_dealt_b74.keep K87 nin0
            have V_b76_2 := V_b76_2.keep K87 nin0
            have V_b81 := V_b81.keep K87 nin0
            have Kp := Kp.trans K87 all0
            have Zn := Nat.le_trans Zn K87.1
            have N87 := Fr.app N84 N87q
            refine Run.st (S' := T87.setTop (mkF m 415 #[.val (.int p0), .val (.int p1), .val (.int p2), .val (.int p3), .val (.int (1 : Int32)), .val (.int dd), .val (.int (1 : Int32)), .val (.int qq), .val (.int (40 : Int32)), .val (.int k1), .val (.int k2), .val (.int k3), .val (.ref b74), .val (.int dn), .val (.ref b81), .val (.int x15), .val (.int (1 : Int32)), .val (.int (1 : Int32)), .val (.int (0 : Int32)), .val (.int (own_H [k1] (1 : Int32) 40 lf))] [(.ref b74)])) (fun _ k => st87.trans (XS.istore X87.here hx rfl (hb hby at_404) rfl (l' := #[.val (.int p0), .val (.int p1), .val (.int p2), .val (.int p3), .val (.int (1 : Int32)), .val (.int dd), .val (.int (1 : Int32)), .val (.int qq), .val (.int (40 : Int32)), .val (.int k1), .val (.int k2), .val (.int k3), .val (.ref b74), .val (.int dn), .val (.ref b81), .val (.int x15), .val (.int (1 : Int32)), .val (.int (1 : Int32)), .val (.int (0 : Int32)), .val (.int (own_H [k1] (1 : Int32) 40 lf))]) rfl (XS.iload X87.here hx rfl (hb hby at_406) rfl (XS.iload X87.here hx rfl (hb hby at_408) rfl (XS.icmpNo X87.here hx rfl (hb hby at_410) rfl (teq (show (own_H [k1] (1 : Int32) 40 lf) = (0 : Int32) from (own_E1 (k2 := k2) (k3 := k3) (N := 40) (by decide) hk1  hyJ).trans (if_pos (own_x0 h_x15 hc377_86)))).2 (XS.aload X87.here hx rfl (hb hby at_413) rfl rfl k)))))) ?_
            obtain ⟨cq88, kq88, q88a, q88b, q88c⟩ := isOf hZ rfl E_b74
            obtain ⟨_, _, ⟨T88, L88, k88, n88⟩, -, X88, ⟨Lc88, hQ88, l88, y88, z88⟩, st88⟩ := X87.virtualBack hx (y := (⟨"com/example/sidewager/sidewager/analysis/Shoe", "dealt", "()I"⟩ : MethodName)) (z := (⟨"com/example/sidewager/sidewager/analysis/Shoe", "dealt", "()I"⟩ : MethodName)) hown (mvT hZ (hwi hw 96 rfl)) (mvT hZ (hwi hw 97 rfl)) (notFace_of_selects (args := #[]) (mvT hZ (hwi hw 99 rfl))) (mvT hZ (hwi hw 99 rfl)) (mvT hZ (hwi hw 98 rfl)) (by decide) (backOf (W := 0) (rmDt l Z aV hw [] b74 dn T87.heap n0 Zn F_dealt_b74) hZ (hwi hw 100 rfl) (hwi hw 3 rfl) (by decide) (by decide)) q88a q88c (g := (mkF m 415 #[.val (.int p0), .val (.int p1), .val (.int p2), .val (.int p3), .val (.int (1 : Int32)), .val (.int dd), .val (.int (1 : Int32)), .val (.int qq), .val (.int (40 : Int32)), .val (.int k1), .val (.int k2), .val (.int k3), .val (.ref b74), .val (.int dn), .val (.ref b81), .val (.int x15), .val (.int (1 : Int32)), .val (.int (1 : Int32)), .val (.int (0 : Int32)), .val (.int (own_H [k1] (1 : Int32) 40 lf))] [(.ref b74)])) rfl (by rw [hml]; rfl) (Steps.refl _) (argsL := []) (rest := []) (lenOf pd_1 rfl) rfl (by show 2 * 0 + _ ≤ _; exact Nat.le_of_eq rfl) (hb hby at_415) (fun _ _ => ⟨rfl, rfl, (by decide : 9 + 0 ≤ _), (by decide : 170 + 0 ≤ _)⟩)
            dsimp only [Pt.U, Pt.locs, Pt.cells, Pt.slots] at X88 l88 y88 z88 st88 hQ88
            replace l88 := l88.symm; replace y88 := y88.symm; replace z88 := z88.symm; subst l88 y88 z88
            obtain ⟨rfl, N88q, e88⟩ := hQ88
            have N88 := Fr.app N87 N88q
            refine Run.st (S' := T88.setTop (mkF m 428 #[.val (.int p0), .val (.int p1), .val (.int p2), .val (.int p3), .val (.int (1 : Int32)), .val (.int dd), .val (.int (1 : Int32)), .val (.int qq), .val (.int (40 : Int32)), .val (.int k1), .val (.int k2), .val (.int k3), .val (.ref b74), .val (.int dn), .val (.ref b81), .val (.int x15), .val (.int (1 : Int32)), .val (.int (1 : Int32)), .val (.int (0 : Int32)), .val (.int (own_H [k1] (1 : Int32) 40 lf))] [(.int (1 : Int32))])) (fun _ k => st88.trans (XS.iload X88.here hx rfl (hb hby at_418) rfl (XS.icmpNo X88.here hx rfl (hb hby at_420) rfl (teq (show dn = dn from rfl)).2 (XS.iconst X88.here hx rfl (hb hby at_423) (XS.goto X88.here hx rfl (pc0 := 424) (pc' := 428) rfl (hb hby at_424) (by decide) (by decide) k))))) ?_
            refine Run.out X88 hx Bd.notSynchronized Bd.returns rfl (Or.inl ⟨rfl, by simp, _, rfl⟩) (hb hby at_428) (by decide) (by decide) ?_
            rw [e88]
            exact ⟨rfl, N88⟩
          · refine Run.st (S' := T84.setTop (mkF m 397 #[.val (.int p0), .val (.int p1), .val (.int p2), .val (.int p3), .val (.int (1 : Int32)), .val (.int dd), .val (.int (1 : Int32)), .val (.int qq), .val (.int (40 : Int32)), .val (.int k1), .val (.int k2), .val (.int k3), .val (.ref b74), .val (.int dn), .val (.ref b81), .val (.int x15), .val (.int (1 : Int32)), .val (.int (1 : Int32)), .val (.int (1 : Int32)), .unset] [])) (fun _ k => XS.ifNo X84.here hx rfl (hb hby at_377) rfl ((if0 _ _).trans (feq hc377_86).1) (XS.iload X84.here hx rfl (hb hby at_380) rfl (XS.ifNo X84.here hx rfl (hb hby at_382) rfl ((if0 _ _).trans (feq (show ¬ ((1 : Int32) = (0 : Int32)) from (by decide))).1) (XS.iload X84.here hx rfl (hb hby at_385) rfl (XS.ifNo X84.here hx rfl (hb hby at_387) rfl ((if0 _ _).trans (feq (show ¬ ((1 : Int32) = (0 : Int32)) from (by decide))).1) (XS.iconst X84.here hx rfl (hb hby at_390) (XS.goto X84.here hx rfl (pc0 := 391) (pc' := 395) rfl (hb hby at_391) (by decide) (by decide) (XS.istore X84.here hx rfl (hb hby at_395) rfl (l' := #[.val (.int p0), .val (.int p1), .val (.int p2), .val (.int p3), .val (.int (1 : Int32)), .val (.int dd), .val (.int (1 : Int32)), .val (.int qq), .val (.int (40 : Int32)), .val (.int k1), .val (.int k2), .val (.int k3), .val (.ref b74), .val (.int dn), .val (.ref b81), .val (.int x15), .val (.int (1 : Int32)), .val (.int (1 : Int32)), .val (.int (1 : Int32)), .unset]) rfl k)))))))) ?_
            refine Run.st (S' := T84.setTop (mkF m 401 #[.val (.int p0), .val (.int p1), .val (.int p2), .val (.int p3), .val (.int (1 : Int32)), .val (.int dd), .val (.int (1 : Int32)), .val (.int qq), .val (.int (40 : Int32)), .val (.int k1), .val (.int k2), .val (.int k3), .val (.ref b74), .val (.int dn), .val (.ref b81), .val (.int x15), .val (.int (1 : Int32)), .val (.int (1 : Int32)), .val (.int (1 : Int32)), .unset] [(.ref b81), (.ref b74)])) (fun _ k => XS.aload X84.here hx rfl (hb hby at_397) rfl rfl (XS.aload X84.here hx rfl (hb hby at_399) rfl rfl k)) ?_
            obtain ⟨cq89, kq89, q89a, q89b, q89c⟩ := isOf hZ e84 E_b74
            obtain ⟨_, _, ⟨T89, L89, k89, n89⟩, -, X89, ⟨Lc89, hQ89, l89, y89, z89⟩, st89⟩ := X84.virtualBack hx (y := (⟨"com/example/sidewager/sidewager/analysis/Shoe", "holds", "([I)Z"⟩ : MethodName)) (z := (⟨"com/example/sidewager/sidewager/analysis/Shoe", "holds", "([I)Z"⟩ : MethodName)) hown (mvT hZ (hwi hw 91 rfl)) (mvT hZ (hwi hw 92 rfl)) (notFace_of_selects (args := #[]) (mvT hZ (hwi hw 94 rfl))) (mvT hZ (hwi hw 94 rfl)) (mvT hZ (hwi hw 93 rfl)) (by decide) (backOf (W := 0) (rmHoM l Z aV hw [] b74 b81 b76_2 kb76_2 lf k81 [k1] (1 : Int32) h82 n0 Zn (by decide) (by decide) (own_hks1 hk1) F_left_b74 V_b76_2 V_b81) hZ (hwi hw 95 rfl) (hwi hw 3 rfl) (by decide) (by decide)) q89a q89c (g := (mkF m 401 #[.val (.int p0), .val (.int p1), .val (.int p2), .val (.int p3), .val (.int (1 : Int32)), .val (.int dd), .val (.int (1 : Int32)), .val (.int qq), .val (.int (40 : Int32)), .val (.int k1), .val (.int k2), .val (.int k3), .val (.ref b74), .val (.int dn), .val (.ref b81), .val (.int x15), .val (.int (1 : Int32)), .val (.int (1 : Int32)), .val (.int (1 : Int32)), .unset] [(.ref b81), (.ref b74)])) rfl (by rw [hml]; rfl) (Steps.refl _) (argsL := [(.ref b81)]) (rest := []) (lenOf pd_8 rfl) rfl (by show 2 * 0 + _ ≤ _; exact Nat.le_of_eq rfl) (hb hby at_401) (fun _ _ => ⟨rfl, e84, (by decide : 8 + 1 ≤ _), (by decide : 130 + 40 ≤ _)⟩)
            dsimp only [Pt.U, Pt.locs, Pt.cells, Pt.slots] at X89 l89 y89 z89 st89 hQ89
            replace l89 := l89.symm; replace y89 := y89.symm; replace z89 := z89.symm; subst l89 y89 z89
            obtain ⟨rfl, N89q, K89⟩ := hQ89
            have OL := OL.keep K89 all0
            have E_b74 := E_b74.keep K89
            have F_left_b74 := F_left_b74.keep K89 nin0
            have F_dealt_b74 := F_dealt_b74.keep K89 nin0
            have V_b76_2 := V_b76_2.keep K89 nin0
            have V_b81 := V_b81.keep K89 nin0
            have Kp := Kp.trans K89 all0
            have Zn := Nat.le_trans Zn K89.1
            have N89 := Fr.app N84 N89q
            refine Run.st (S' := T89.setTop (mkF m 415 #[.val (.int p0), .val (.int p1), .val (.int p2), .val (.int p3), .val (.int (1 : Int32)), .val (.int dd), .val (.int (1 : Int32)), .val (.int qq), .val (.int (40 : Int32)), .val (.int k1), .val (.int k2), .val (.int k3), .val (.ref b74), .val (.int dn), .val (.ref b81), .val (.int x15), .val (.int (1 : Int32)), .val (.int (1 : Int32)), .val (.int (1 : Int32)), .val (.int (own_H [k1] (1 : Int32) 40 lf))] [(.ref b74)])) (fun _ k => st89.trans (XS.istore X89.here hx rfl (hb hby at_404) rfl (l' := #[.val (.int p0), .val (.int p1), .val (.int p2), .val (.int p3), .val (.int (1 : Int32)), .val (.int dd), .val (.int (1 : Int32)), .val (.int qq), .val (.int (40 : Int32)), .val (.int k1), .val (.int k2), .val (.int k3), .val (.ref b74), .val (.int dn), .val (.ref b81), .val (.int x15), .val (.int (1 : Int32)), .val (.int (1 : Int32)), .val (.int (1 : Int32)), .val (.int (own_H [k1] (1 : Int32) 40 lf))]) rfl (XS.iload X89.here hx rfl (hb hby at_406) rfl (XS.iload X89.here hx rfl (hb hby at_408) rfl (XS.icmpNo X89.here hx rfl (hb hby at_410) rfl (teq (show (own_H [k1] (1 : Int32) 40 lf) = (1 : Int32) from (own_E1 (k2 := k2) (k3 := k3) (N := 40) (by decide) hk1  hyJ).trans (if_neg ((own_x1 h_x15 hc377_86))))).2 (XS.aload X89.here hx rfl (hb hby at_413) rfl rfl k)))))) ?_
            obtain ⟨cq90, kq90, q90a, q90b, q90c⟩ := isOf hZ rfl E_b74
            obtain ⟨_, _, ⟨T90, L90, k90, n90⟩, -, X90, ⟨Lc90, hQ90, l90, y90, z90⟩, st90⟩ := X89.virtualBack hx (y := (⟨"com/example/sidewager/sidewager/analysis/Shoe", "dealt", "()I"⟩ : MethodName)) (z := (⟨"com/example/sidewager/sidewager/analysis/Shoe", "dealt", "()I"⟩ : MethodName)) hown (mvT hZ (hwi hw 96 rfl)) (mvT hZ (hwi hw 97 rfl)) (notFace_of_selects (args := #[]) (mvT hZ (hwi hw 99 rfl))) (mvT hZ (hwi hw 99 rfl)) (mvT hZ (hwi hw 98 rfl)) (by decide) (backOf (W := 0) (rmDt l Z aV hw [] b74 dn T89.heap n0 Zn F_dealt_b74) hZ (hwi hw 100 rfl) (hwi hw 3 rfl) (by decide) (by decide)) q90a q90c (g := (mkF m 415 #[.val (.int p0), .val (.int p1), .val (.int p2), .val (.int p3), .val (.int (1 : Int32)), .val (.int dd), .val (.int (1 : Int32)), .val (.int qq), .val (.int (40 : Int32)), .val (.int k1), .val (.int k2), .val (.int k3), .val (.ref b74), .val (.int dn), .val (.ref b81), .val (.int x15), .val (.int (1 : Int32)), .val (.int (1 : Int32)), .val (.int (1 : Int32)), .val (.int (own_H [k1] (1 : Int32) 40 lf))] [(.ref b74)])) rfl (by rw [hml]; rfl) (Steps.refl _) (argsL := []) (rest := []) (lenOf pd_1 rfl) rfl (by show 2 * 0 + _ ≤ _; exact Nat.le_of_eq rfl) (hb hby at_415) (fun _ _ => ⟨rfl, rfl, (by decide : 9 + 0 ≤ _), (by decide : 170 + 0 ≤ _)⟩)
            dsimp only [Pt.U, Pt.locs, Pt.cells, Pt.slots] at X90 l90 y90 z90 st90 hQ90
            replace l90 := l90.symm; replace y90 := y90.symm; replace z90 := z90.symm; subst l90 y90 z90
            obtain ⟨rfl, N90q, e90⟩ := hQ90
            have N90 := Fr.app N89 N90q
            refine Run.st (S' := T90.setTop (mkF m 428 #[.val (.int p0), .val (.int p1), .val (.int p2), .val (.int p3), .val (.int (1 : Int32)), .val (.int dd), .val (.int (1 : Int32)), .val (.int qq), .val (.int (40 : Int32)), .val (.int k1), .val (.int k2), .val (.int k3), .val (.ref b74), .val (.int dn), .val (.ref b81), .val (.int x15), .val (.int (1 : Int32)), .val (.int (1 : Int32)), .val (.int (1 : Int32)), .val (.int (own_H [k1] (1 : Int32) 40 lf))] [(.int (1 : Int32))])) (fun _ k => st90.trans (XS.iload X90.here hx rfl (hb hby at_418) rfl (XS.icmpNo X90.here hx rfl (hb hby at_420) rfl (teq (show dn = dn from rfl)).2 (XS.iconst X90.here hx rfl (hb hby at_423) (XS.goto X90.here hx rfl (pc0 := 424) (pc' := 428) rfl (hb hby at_424) (by decide) (by decide) k))))) ?_
            refine Run.out X90 hx Bd.notSynchronized Bd.returns rfl (Or.inl ⟨rfl, by simp, _, rfl⟩) (hb hby at_428) (by decide) (by decide) ?_
            rw [e90]
            exact ⟨rfl, N90⟩
        by_cases hc281_91 : (FLeft (1 : Int32) dd k1 dn k1) < (FCnt k1 (1 : Int32) k1 k2 k3)
        · refine Run.st (S' := T84.setTop (mkF m 291 #[.val (.int p0), .val (.int p1), .val (.int p2), .val (.int p3), .val (.int (1 : Int32)), .val (.int dd), .val (.int (1 : Int32)), .val (.int qq), .val (.int (40 : Int32)), .val (.int k1), .val (.int k2), .val (.int k3), .val (.ref b74), .val (.int dn), .val (.ref b81), .val (.int (0 : Int32)), .unset, .unset, .unset, .unset] [])) (fun _ k => XS.icmpYes X84.here hx rfl (pc0 := 281) (pc' := 288) rfl (hb hby at_281) rfl (tlt hc281_91).2.2.1 (by decide) (by decide) (XS.iconst X84.here hx rfl (hb hby at_288) (XS.istore X84.here hx rfl (hb hby at_289) rfl (l' := #[.val (.int p0), .val (.int p1), .val (.int p2), .val (.int p3), .val (.int (1 : Int32)), .val (.int dd), .val (.int (1 : Int32)), .val (.int qq), .val (.int (40 : Int32)), .val (.int k1), .val (.int k2), .val (.int k3), .val (.ref b74), .val (.int dn), .val (.ref b81), .val (.int (0 : Int32)), .unset, .unset, .unset, .unset]) rfl k))) ?_
          exact J291_85 (0 : Int32) (if_pos hc281_91).symm
        · refine Run.st (S' := T84.setTop (mkF m 291 #[.val (.int p0), .val (.int p1), .val (.int p2), .val (.int p3), .val (.int (1 : Int32)), .val (.int dd), .val (.int (1 : Int32)), .val (.int qq), .val (.int (40 : Int32)), .val (.int k1), .val (.int k2), .val (.int k3), .val (.ref b74), .val (.int dn), .val (.ref b81), .val (.int (1 : Int32)), .unset, .unset, .unset, .unset] [])) (fun _ k => XS.icmpNo X84.here hx rfl (hb hby at_281) rfl (flt hc281_91).2.2.1 (XS.iconst X84.here hx rfl (hb hby at_284) (XS.goto X84.here hx rfl (pc0 := 285) (pc' := 289) rfl (hb hby at_285) (by decide) (by decide) (XS.istore X84.here hx rfl (hb hby at_289) rfl (l' := #[.val (.int p0), .val (.int p1), .val (.int p2), .val (.int p3), .val (.int (1 : Int32)), .val (.int dd), .val (.int (1 : Int32)), .val (.int qq), .val (.int (40 : Int32)), .val (.int k1), .val (.int k2), .val (.int k3), .val (.ref b74), .val (.int dn), .val (.ref b81), .val (.int (1 : Int32)), .unset, .unset, .unset, .unset]) rfl k)))) ?_
          exact J291_85 (1 : Int32) (if_neg hc281_91).symm
      · refine Run.st (S' := Tl77.setTop (mkF m 211 #[.val (.int p0), .val (.int p1), .val (.int p2), .val (.int p3), .val (.int (1 : Int32)), .val (.int dd), .val (.int (2 : Int32)), .val (.int qq), .val (.int (40 : Int32)), .val (.int k1), .val (.int k2), .val (.int k3), .val (.ref b74), .val (.int dn), .unset, .unset, .unset, .unset, .unset, .unset] [])) (fun _ k => XS.iload Xl77.here hx rfl (hb hby at_173) rfl (XS.ifYes Xl77.here hx rfl (pc0 := 175) (pc' := 186) rfl (hb hby at_175) rfl ((if0 _ _).trans (feq (show ¬ ((2 : Int32) = (0 : Int32)) from (by decide))).2) (by decide) (by decide) (XS.iload Xl77.here hx rfl (hb hby at_186) rfl (XS.iconst Xl77.here hx rfl (hb hby at_188) (XS.icmpYes Xl77.here hx rfl (pc0 := 189) (pc' := 205) rfl (hb hby at_189) rfl (feq (show ¬ ((2 : Int32) = (1 : Int32)) from (by decide))).2 (by decide) (by decide) (XS.iload Xl77.here hx rfl (hb hby at_205) rfl (XS.iconst Xl77.here hx rfl (hb hby at_207) (XS.icmpNo Xl77.here hx rfl (hb hby at_208) rfl (teq (show (2 : Int32) = (2 : Int32) from (by decide))).2 k)))))))) ?_
        refine Run.st (S' := Tl77.setTop (mkF m 212 #[.val (.int p0), .val (.int p1), .val (.int p2), .val (.int p3), .val (.int (1 : Int32)), .val (.int dd), .val (.int (2 : Int32)), .val (.int qq), .val (.int (40 : Int32)), .val (.int k1), .val (.int k2), .val (.int k3), .val (.ref b74), .val (.int dn), .unset, .unset, .unset, .unset, .unset, .unset] [(.int (2 : Int32))])) (fun _ k => XS.iconst Xl77.here hx rfl (hb hby at_211) k) ?_
        obtain ⟨T92, h92, k92, X92, e92, E92, A92, st92⟩ := newP Xl77 hx hZ (hwi hw 13 rfl) El77 (g := (mkF m 212 #[.val (.int p0), .val (.int p1), .val (.int p2), .val (.int p3), .val (.int (1 : Int32)), .val (.int dd), .val (.int (2 : Int32)), .val (.int qq), .val (.int (40 : Int32)), .val (.int k1), .val (.int k2), .val (.int k3), .val (.ref b74), .val (.int dn), .unset, .unset, .unset, .unset, .unset, .unset] [(.int (2 : Int32))])) rfl (hb hby at_212) rfl (by decide) (cap := 2) (by decide) (by decide) (by decide) (by decide)
        obtain ⟨b92, g92⟩ : ∃ z, z = Hl77.size := ⟨_, rfl⟩
        rw [← g92] at A92 st92
        have ne_b74_b92 : b74 ≠ b92 := Nat.ne_of_lt (Nat.lt_of_lt_of_le E_b74.lt (Nat.le_of_eq g92.symm))
        have ne_b76_2_b92 : b76_2 ≠ b92 := Nat.ne_of_lt (Nat.lt_of_lt_of_le V_b76_2.lt (Nat.le_of_eq g92.symm))
        have E_b74 := E_b74.ext E92
        have F_left_b74 := F_left_b74.ext E92
        have F_dealt_b74 := F_dealt_b74.ext E92
        have V_b76_2 := V_b76_2.ext E92
        have OL := OL.ext E92
        have g_b92 : n0 ≤ b92 := Nat.le_trans Zn (Nat.le_of_eq g92.symm)
        have Zn := Nat.le_trans Zn E92.1
        have sz_b92 : h0.size ≤ b92 := Nat.le_trans Kp.1 (Nat.le_of_eq g92.symm)
        have Kp := Kp.ext E92
        have V_b92 : Arv Z h92 b92 k92 .int (2 : Int32) [(.int (0 : Int32)), (.int (0 : Int32))] (.int (0 : Int32)) := (Arv.new A92 (by decide)).pad (pad_rep [] (.int (0 : Int32)) 2)
        refine Run.st (S' := T92.setTop (mkF m 218 #[.val (.int p0), .val (.int p1), .val (.int p2), .val (.int p3), .val (.int (1 : Int32)), .val (.int dd), .val (.int (2 : Int32)), .val (.int qq), .val (.int (40 : Int32)), .val (.int k1), .val (.int k2), .val (.int k3), .val (.ref b74), .val (.int dn), .unset, .unset, .unset, .unset, .unset, .unset] [(.int k1), (.int (0 : Int32)), (.ref b92), (.ref b92)])) (fun _ k => st92 _ (XS.dup X92.here hx rfl (hb hby at_214) rfl rfl (XS.iconst X92.here hx rfl (hb hby at_215) (XS.iload X92.here hx rfl (hb hby at_216) rfl k)))) ?_
        obtain ⟨cl93, Ar93, qa93, Sa93, Na93, Ha93, Ga93⟩ := V_b92
        have hin93 : ¬ ((0 : Int32) < 0 ∨ cl93.slots.size ≤ ((0 : Int32)).toNatClampNeg) := inb_of Sa93 ⟨by decide, by decide⟩
        obtain ⟨T93, h93, X93, e93, W93, st93⟩ := stI X92 hx hZ e92 Ar93 (j := (0 : Int32)) hin93 (g := (mkF m 218 #[.val (.int p0), .val (.int p1), .val (.int p2), .val (.int p3), .val (.int (1 : Int32)), .val (.int dd), .val (.int (2 : Int32)), .val (.int qq), .val (.int (40 : Int32)), .val (.int k1), .val (.int k2), .val (.int k3), .val (.ref b74), .val (.int dn), .unset, .unset, .unset, .unset, .unset, .unset] [(.int k1), (.int (0 : Int32)), (.ref b92), (.ref b92)])) rfl rfl (hb hby at_218)
        have V_b92 := Arv.set Ar93 qa93 Sa93 Na93 Ha93 Ga93 rfl W93 0 rfl (Nat.le_of_ble_eq_true rfl)
        have V_b92 : Arv Z h93 b92 k92 .int (2 : Int32) [(.int k1), (.int (0 : Int32))] (.int (0 : Int32)) := V_b92
        have OL := OL.wr W93 g_b92
        have E_b74 := E_b74.wr W93
        have F_left_b74 := F_left_b74.other W93 (Or.inl ne_b74_b92)
        have F_dealt_b74 := F_dealt_b74.other W93 (Or.inl ne_b74_b92)
        have V_b76_2 := V_b76_2.other W93 ne_b76_2_b92
        have N93 := Fr.snoc X93 Nl77 g_b92
        have Kp := Kp.wr W93 (Or.inr sz_b92)
        have Zn := Nat.le_trans Zn (Nat.le_of_eq W93.size.symm)
        refine Run.st (S' := T93.setTop (mkF m 223 #[.val (.int p0), .val (.int p1), .val (.int p2), .val (.int p3), .val (.int (1 : Int32)), .val (.int dd), .val (.int (2 : Int32)), .val (.int qq), .val (.int (40 : Int32)), .val (.int k1), .val (.int k2), .val (.int k3), .val (.ref b74), .val (.int dn), .unset, .unset, .unset, .unset, .unset, .unset] [(.int k2), (.int (1 : Int32)), (.ref b92), (.ref b92)])) (fun _ k => st93 _ (XS.dup X93.here hx rfl (hb hby at_219) rfl rfl (XS.iconst X93.here hx rfl (hb hby at_220) (XS.iload X93.here hx rfl (hb hby at_221) rfl k)))) ?_
        obtain ⟨cl94, Ar94, qa94, Sa94, Na94, Ha94, Ga94⟩ := V_b92
        have hin94 : ¬ ((1 : Int32) < 0 ∨ cl94.slots.size ≤ ((1 : Int32)).toNatClampNeg) := inb_of Sa94 ⟨by decide, by decide⟩
        obtain ⟨T94, h94, X94, e94, W94, st94⟩ := stI X93 hx hZ e93 Ar94 (j := (1 : Int32)) hin94 (g := (mkF m 223 #[.val (.int p0), .val (.int p1), .val (.int p2), .val (.int p3), .val (.int (1 : Int32)), .val (.int dd), .val (.int (2 : Int32)), .val (.int qq), .val (.int (40 : Int32)), .val (.int k1), .val (.int k2), .val (.int k3), .val (.ref b74), .val (.int dn), .unset, .unset, .unset, .unset, .unset, .unset] [(.int k2), (.int (1 : Int32)), (.ref b92), (.ref b92)])) rfl rfl (hb hby at_223)
        have V_b92 := Arv.set Ar94 qa94 Sa94 Na94 Ha94 Ga94 rfl W94 1 rfl (Nat.le_of_ble_eq_true rfl)
        have V_b92 : Arv Z h94 b92 k92 .int (2 : Int32) [(.int k1), (.int k2)] (.int (0 : Int32)) := V_b92
        have OL := OL.wr W94 g_b92
        have E_b74 := E_b74.wr W94
        have F_left_b74 := F_left_b74.other W94 (Or.inl ne_b74_b92)
        have F_dealt_b74 := F_dealt_b74.other W94 (Or.inl ne_b74_b92)
        have V_b76_2 := V_b76_2.other W94 ne_b76_2_b92
        have N94 := Fr.snoc X94 N93 g_b92
        have Kp := Kp.wr W94 (Or.inr sz_b92)
        have Zn := Nat.le_trans Zn (Nat.le_of_eq W94.size.symm)
        refine Run.st (S' := T94.setTop (mkF m 249 #[.val (.int p0), .val (.int p1), .val (.int p2), .val (.int p3), .val (.int (1 : Int32)), .val (.int dd), .val (.int (2 : Int32)), .val (.int qq), .val (.int (40 : Int32)), .val (.int k1), .val (.int k2), .val (.int k3), .val (.ref b74), .val (.int dn), .val (.ref b92), .unset, .unset, .unset, .unset, .unset] [])) (fun _ k => st94 _ (XS.astore X94.here hx rfl (hb hby at_224) rfl rfl (l' := #[.val (.int p0), .val (.int p1), .val (.int p2), .val (.int p3), .val (.int (1 : Int32)), .val (.int dd), .val (.int (2 : Int32)), .val (.int qq), .val (.int (40 : Int32)), .val (.int k1), .val (.int k2), .val (.int k3), .val (.ref b74), .val (.int dn), .val (.ref b92), .unset, .unset, .unset, .unset, .unset]) rfl (XS.goto X94.here hx rfl (pc0 := 226) (pc' := 249) rfl (hb hby at_226) (by decide) (by decide) k))) ?_
        have V_b92 : Arv Z h94 b92 k92 .int (2 : Int32) ([k1, k2].map Value.int) (.int (0 : Int32)) := V_b92
        refine Run.st (S' := T94.setTop (mkF m 265 #[.val (.int p0), .val (.int p1), .val (.int p2), .val (.int p3), .val (.int (1 : Int32)), .val (.int dd), .val (.int (2 : Int32)), .val (.int qq), .val (.int (40 : Int32)), .val (.int k1), .val (.int k2), .val (.int k3), .val (.ref b74), .val (.int dn), .val (.ref b92), .unset, .unset, .unset, .unset, .unset] [(.int k3), (.int k2), (.int k1), (.int (2 : Int32)), (.int k1)])) (fun _ k => XS.iload X94.here hx rfl (hb hby at_249) rfl (XS.iconst X94.here hx rfl (hb hby at_251) (XS.icmpNo X94.here hx rfl (hb hby at_252) rfl (flt (show ¬ ((2 : Int32) < (1 : Int32)) from (by decide))).1 (XS.iload X94.here hx rfl (hb hby at_255) rfl (XS.iload X94.here hx rfl (hb hby at_257) rfl (XS.iload X94.here hx rfl (hb hby at_259) rfl (XS.iload X94.here hx rfl (hb hby at_261) rfl (XS.iload X94.here hx rfl (hb hby at_263) rfl k)))))))) ?_
        obtain ⟨_, _, ⟨T95, L95, k95, n95⟩, -, X95, ⟨Lc95, hQ95, l95, y95, z95⟩, st95⟩ := Jvm.LawKit.callS X94 hx (y := (⟨"com/example/sidewager/sidewager/analysis/ShoeHoldsPinLaw", "cnt", "(IIIII)I"⟩ : MethodName)) hown (mvT hZ (hwi hw 103 rfl)) (mvT hZ (hwi hw 104 rfl)) (mvT hZ (hwi hw 88 rfl)) (mvT hZ (hwi hw 105 rfl)) (by decide) (backOf (W := 0) (rmCnt l Z aV hw [] k1 (2 : Int32) k1 k2 k3 h94 n0 Zn ) hZ (hwi hw 105 rfl) (hwi hw 88 rfl) (by decide) (by decide)) (g := (mkF m 265 #[.val (.int p0), .val (.int p1), .val (.int p2), .val (.int p3), .val (.int (1 : Int32)), .val (.int dd), .val (.int (2 : Int32)), .val (.int qq), .val (.int (40 : Int32)), .val (.int k1), .val (.int k2), .val (.int k3), .val (.ref b74), .val (.int dn), .val (.ref b92), .unset, .unset, .unset, .unset, .unset] [(.int k3), (.int k2), (.int k1), (.int (2 : Int32)), (.int k1)])) rfl (by rw [hml]; rfl) (argsL := [(.int k1), (.int (2 : Int32)), (.int k1), (.int k2), (.int k3)]) (rest := []) (lenOf pd_9 rfl) rfl (by show 2 * 0 + _ ≤ _; exact Nat.le_of_eq rfl) (hb hby at_265) (fun _ _ => ⟨rfl, e94, (by decide : 8 + 0 ≤ _), (by decide : 131 + 0 ≤ _)⟩)
        dsimp only [Pt.U, Pt.locs, Pt.cells, Pt.slots] at X95 l95 y95 z95 st95 hQ95
        replace l95 := l95.symm; replace y95 := y95.symm; replace z95 := z95.symm; subst l95 y95 z95
        obtain ⟨rfl, N95q, e95⟩ := hQ95
        have N95 := Fr.app N94 N95q
        refine Run.st (S' := T95.setTop (mkF m 278 #[.val (.int p0), .val (.int p1), .val (.int p2), .val (.int p3), .val (.int (1 : Int32)), .val (.int dd), .val (.int (2 : Int32)), .val (.int qq), .val (.int (40 : Int32)), .val (.int k1), .val (.int k2), .val (.int k3), .val (.ref b74), .val (.int dn), .val (.ref b92), .unset, .unset, .unset, .unset, .unset] [(.int k1), (.int dn), (.int k1), (.int dd), (.int (1 : Int32)), (.int (FCnt k1 (2 : Int32) k1 k2 k3))])) (fun _ k => st95 _ (XS.iload X95.here hx rfl (hb hby at_268) rfl (XS.iload X95.here hx rfl (hb hby at_270) rfl (XS.iload X95.here hx rfl (hb hby at_272) rfl (XS.iload X95.here hx rfl (hb hby at_274) rfl (XS.iload X95.here hx rfl (hb hby at_276) rfl k)))))) ?_
        obtain ⟨_, _, ⟨T96, L96, k96, n96⟩, -, X96, ⟨Lc96, hQ96, l96, y96, z96⟩, st96⟩ := Jvm.LawKit.callS X95 hx (y := (⟨"com/example/sidewager/sidewager/analysis/ShoeHoldsPinLaw", "left", "(ZIIII)I"⟩ : MethodName)) hown (mvT hZ (hwi hw 106 rfl)) (mvT hZ (hwi hw 107 rfl)) (mvT hZ (hwi hw 88 rfl)) (mvT hZ (hwi hw 108 rfl)) (by decide) (backOf (W := 1) (rmLeft l Z aV hw [] (1 : Int32) dd k1 dn k1 h94 n0 Zn ) hZ (hwi hw 108 rfl) (hwi hw 88 rfl) (by decide) (by decide)) (g := (mkF m 278 #[.val (.int p0), .val (.int p1), .val (.int p2), .val (.int p3), .val (.int (1 : Int32)), .val (.int dd), .val (.int (2 : Int32)), .val (.int qq), .val (.int (40 : Int32)), .val (.int k1), .val (.int k2), .val (.int k3), .val (.ref b74), .val (.int dn), .val (.ref b92), .unset, .unset, .unset, .unset, .unset] [(.int k1), (.int dn), (.int k1), (.int dd), (.int (1 : Int32)), (.int (FCnt k1 (2 : Int32) k1 k2 k3))])) rfl (by rw [hml]; rfl) (argsL := [(.int (1 : Int32)), (.int dd), (.int k1), (.int dn), (.int k1)]) (rest := [(.int (FCnt k1 (2 : Int32) k1 k2 k3))]) (lenOf pd_10 rfl) rfl (by show 2 * 0 + _ ≤ _; exact Nat.le_of_eq rfl) (hb hby at_278) (fun _ _ => ⟨rfl, e95, (by decide : 8 + 0 ≤ _), (by decide : 131 + 0 ≤ _)⟩)
        dsimp only [Pt.U, Pt.locs, Pt.cells, Pt.slots] at X96 l96 y96 z96 st96 hQ96
        replace l96 := l96.symm; replace y96 := y96.symm; replace z96 := z96.symm; subst l96 y96 z96
        obtain ⟨rfl, N96q, e96⟩ := hQ96
        have N96 := Fr.app N95 N96q
        refine Run.st (S' := T96.setTop (mkF m 281 #[.val (.int p0), .val (.int p1), .val (.int p2), .val (.int p3), .val (.int (1 : Int32)), .val (.int dd), .val (.int (2 : Int32)), .val (.int qq), .val (.int (40 : Int32)), .val (.int k1), .val (.int k2), .val (.int k3), .val (.ref b74), .val (.int dn), .val (.ref b92), .unset, .unset, .unset, .unset, .unset] [(.int (FLeft (1 : Int32) dd k1 dn k1)), (.int (FCnt k1 (2 : Int32) k1 k2 k3))])) (fun _ k => st96 _ k) ?_
        have J291_97 : ∀ (x15 : Int32), x15 = (if (FLeft (1 : Int32) dd k1 dn k1) < (FCnt k1 (2 : Int32) k1 k2 k3) then (0 : Int32) else (1 : Int32)) → Run p e below (Ends s (Q0 Z p0 p1 p2 p3 u s_MAT s_VALS kV vsR s_ONE h0 n0) room_1.cells room_1.slots) (T96.setTop (mkF m 291 #[.val (.int p0), .val (.int p1), .val (.int p2), .val (.int p3), .val (.int (1 : Int32)), .val (.int dd), .val (.int (2 : Int32)), .val (.int qq), .val (.int (40 : Int32)), .val (.int k1), .val (.int k2), .val (.int k3), .val (.ref b74), .val (.int dn), .val (.ref b92), .val (.int x15), .unset, .unset, .unset, .unset] [])) := by
          intro x15 h_x15
          refine Run.st (S' := T96.setTop (mkF m 307 #[.val (.int p0), .val (.int p1), .val (.int p2), .val (.int p3), .val (.int (1 : Int32)), .val (.int dd), .val (.int (2 : Int32)), .val (.int qq), .val (.int (40 : Int32)), .val (.int k1), .val (.int k2), .val (.int k3), .val (.ref b74), .val (.int dn), .val (.ref b92), .val (.int x15), .unset, .unset, .unset, .unset] [(.int k3), (.int k2), (.int k1), (.int (2 : Int32)), (.int k2)])) (fun _ k => XS.iload X96.here hx rfl (hb hby at_291) rfl (XS.iconst X96.here hx rfl (hb hby at_293) (XS.icmpNo X96.here hx rfl (hb hby at_294) rfl (flt (show ¬ ((2 : Int32) < (2 : Int32)) from (by decide))).1 (XS.iload X96.here hx rfl (hb hby at_297) rfl (XS.iload X96.here hx rfl (hb hby at_299) rfl (XS.iload X96.here hx rfl (hb hby at_301) rfl (XS.iload X96.here hx rfl (hb hby at_303) rfl (XS.iload X96.here hx rfl (hb hby at_305) rfl k)))))))) ?_
          obtain ⟨_, _, ⟨T98, L98, k98, n98⟩, -, X98, ⟨Lc98, hQ98, l98, y98, z98⟩, st98⟩ := Jvm.LawKit.callS X96 hx (y := (⟨"com/example/sidewager/sidewager/analysis/ShoeHoldsPinLaw", "cnt", "(IIIII)I"⟩ : MethodName)) hown (mvT hZ (hwi hw 103 rfl)) (mvT hZ (hwi hw 104 rfl)) (mvT hZ (hwi hw 88 rfl)) (mvT hZ (hwi hw 105 rfl)) (by decide) (backOf (W := 0) (rmCnt l Z aV hw [] k2 (2 : Int32) k1 k2 k3 h94 n0 Zn ) hZ (hwi hw 105 rfl) (hwi hw 88 rfl) (by decide) (by decide)) (g := (mkF m 307 #[.val (.int p0), .val (.int p1), .val (.int p2), .val (.int p3), .val (.int (1 : Int32)), .val (.int dd), .val (.int (2 : Int32)), .val (.int qq), .val (.int (40 : Int32)), .val (.int k1), .val (.int k2), .val (.int k3), .val (.ref b74), .val (.int dn), .val (.ref b92), .val (.int x15), .unset, .unset, .unset, .unset] [(.int k3), (.int k2), (.int k1), (.int (2 : Int32)), (.int k2)])) rfl (by rw [hml]; rfl) (argsL := [(.int k2), (.int (2 : Int32)), (.int k1), (.int k2), (.int k3)]) (rest := []) (lenOf pd_9 rfl) rfl (by show 2 * 0 + _ ≤ _; exact Nat.le_of_eq rfl) (hb hby at_307) (fun _ _ => ⟨rfl, e96, (by decide : 8 + 0 ≤ _), (by decide : 131 + 0 ≤ _)⟩)
          dsimp only [Pt.U, Pt.locs, Pt.cells, Pt.slots] at X98 l98 y98 z98 st98 hQ98
          replace l98 := l98.symm; replace y98 := y98.symm; replace z98 := z98.symm; subst l98 y98 z98
          obtain ⟨rfl, N98q, e98⟩ := hQ98
          have N98 := Fr.app N96 N98q
          refine Run.st (S' := T98.setTop (mkF m 320 #[.val (.int p0), .val (.int p1), .val (.int p2), .val (.int p3), .val (.int (1 : Int32)), .val (.int dd), .val (.int (2 : Int32)), .val (.int qq), .val (.int (40 : Int32)), .val (.int k1), .val (.int k2), .val (.int k3), .val (.ref b74), .val (.int dn), .val (.ref b92), .val (.int x15), .unset, .unset, .unset, .unset] [(.int k2), (.int dn), (.int k1), (.int dd), (.int (1 : Int32)), (.int (FCnt k2 (2 : Int32) k1 k2 k3))])) (fun _ k => st98 _ (XS.iload X98.here hx rfl (hb hby at_310) rfl (XS.iload X98.here hx rfl (hb hby at_312) rfl (XS.iload X98.here hx rfl (hb hby at_314) rfl (XS.iload X98.here hx rfl (hb hby at_316) rfl (XS.iload X98.here hx rfl (hb hby at_318) rfl k)))))) ?_
          obtain ⟨_, _, ⟨T99, L99, k99, n99⟩, -, X99, ⟨Lc99, hQ99, l99, y99, z99⟩, st99⟩ := Jvm.LawKit.callS X98 hx (y := (⟨"com/example/sidewager/sidewager/analysis/ShoeHoldsPinLaw", "left", "(ZIIII)I"⟩ : MethodName)) hown (mvT hZ (hwi hw 106 rfl)) (mvT hZ (hwi hw 107 rfl)) (mvT hZ (hwi hw 88 rfl)) (mvT hZ (hwi hw 108 rfl)) (by decide) (backOf (W := 1) (rmLeft l Z aV hw [] (1 : Int32) dd k1 dn k2 h94 n0 Zn ) hZ (hwi hw 108 rfl) (hwi hw 88 rfl) (by decide) (by decide)) (g := (mkF m 320 #[.val (.int p0), .val (.int p1), .val (.int p2), .val (.int p3), .val (.int (1 : Int32)), .val (.int dd), .val (.int (2 : Int32)), .val (.int qq), .val (.int (40 : Int32)), .val (.int k1), .val (.int k2), .val (.int k3), .val (.ref b74), .val (.int dn), .val (.ref b92), .val (.int x15), .unset, .unset, .unset, .unset] [(.int k2), (.int dn), (.int k1), (.int dd), (.int (1 : Int32)), (.int (FCnt k2 (2 : Int32) k1 k2 k3))])) rfl (by rw [hml]; rfl) (argsL := [(.int (1 : Int32)), (.int dd), (.int k1), (.int dn), (.int k2)]) (rest := [(.int (FCnt k2 (2 : Int32) k1 k2 k3))]) (lenOf pd_10 rfl) rfl (by show 2 * 0 + _ ≤ _; exact Nat.le_of_eq rfl) (hb hby at_320) (fun _ _ => ⟨rfl, e98, (by decide : 8 + 0 ≤ _), (by decide : 131 + 0 ≤ _)⟩)
          dsimp only [Pt.U, Pt.locs, Pt.cells, Pt.slots] at X99 l99 y99 z99 st99 hQ99
          replace l99 := l99.symm; replace y99 := y99.symm; replace z99 := z99.symm; subst l99 y99 z99
          obtain ⟨rfl, N99q, e99⟩ := hQ99
          have N99 := Fr.app N98 N99q
          refine Run.st (S' := T99.setTop (mkF m 323 #[.val (.int p0), .val (.int p1), .val (.int p2), .val (.int p3), .val (.int (1 : Int32)), .val (.int dd), .val (.int (2 : Int32)), .val (.int qq), .val (.int (40 : Int32)), .val (.int k1), .val (.int k2), .val (.int k3), .val (.ref b74), .val (.int dn), .val (.ref b92), .val (.int x15), .unset, .unset, .unset, .unset] [(.int (FLeft (1 : Int32) dd k1 dn k2)), (.int (FCnt k2 (2 : Int32) k1 k2 k3))])) (fun _ k => st99 _ k) ?_
          have J333_100 : ∀ (x16 : Int32), x16 = (if (FLeft (1 : Int32) dd k1 dn k2) < (FCnt k2 (2 : Int32) k1 k2 k3) then (0 : Int32) else (1 : Int32)) → Run p e below (Ends s (Q0 Z p0 p1 p2 p3 u s_MAT s_VALS kV vsR s_ONE h0 n0) room_1.cells room_1.slots) (T99.setTop (mkF m 333 #[.val (.int p0), .val (.int p1), .val (.int p2), .val (.int p3), .val (.int (1 : Int32)), .val (.int dd), .val (.int (2 : Int32)), .val (.int qq), .val (.int (40 : Int32)), .val (.int k1), .val (.int k2), .val (.int k3), .val (.ref b74), .val (.int dn), .val (.ref b92), .val (.int x15), .val (.int x16), .unset, .unset, .unset] [])) := by
            intro x16 h_x16
            refine Run.st (S' := T99.setTop (mkF m 377 #[.val (.int p0), .val (.int p1), .val (.int p2), .val (.int p3), .val (.int (1 : Int32)), .val (.int dd), .val (.int (2 : Int32)), .val (.int qq), .val (.int (40 : Int32)), .val (.int k1), .val (.int k2), .val (.int k3), .val (.ref b74), .val (.int dn), .val (.ref b92), .val (.int x15), .val (.int x16), .val (.int (1 : Int32)), .unset, .unset] [(.int x15)])) (fun _ k => XS.iload X99.here hx rfl (hb hby at_333) rfl (XS.iconst X99.here hx rfl (hb hby at_335) (XS.icmpYes X99.here hx rfl (pc0 := 336) (pc' := 368) rfl (hb hby at_336) rfl (tlt (show (2 : Int32) < (3 : Int32) from (by decide))).1 (by decide) (by decide) (XS.iconst X99.here hx rfl (hb hby at_368) (XS.goto X99.here hx rfl (pc0 := 369) (pc' := 373) rfl (hb hby at_369) (by decide) (by decide) (XS.istore X99.here hx rfl (hb hby at_373) rfl (l' := #[.val (.int p0), .val (.int p1), .val (.int p2), .val (.int p3), .val (.int (1 : Int32)), .val (.int dd), .val (.int (2 : Int32)), .val (.int qq), .val (.int (40 : Int32)), .val (.int k1), .val (.int k2), .val (.int k3), .val (.ref b74), .val (.int dn), .val (.ref b92), .val (.int x15), .val (.int x16), .val (.int (1 : Int32)), .unset, .unset]) rfl (XS.iload X99.here hx rfl (hb hby at_375) rfl k))))))) ?_
            by_cases hc377_101 : x15 = (0 : Int32)
            · refine Run.st (S' := T99.setTop (mkF m 401 #[.val (.int p0), .val (.int p1), .val (.int p2), .val (.int p3), .val (.int (1 : Int32)), .val (.int dd), .val (.int (2 : Int32)), .val (.int qq), .val (.int (40 : Int32)), .val (.int k1), .val (.int k2), .val (.int k3), .val (.ref b74), .val (.int dn), .val (.ref b92), .val (.int x15), .val (.int x16), .val (.int (1 : Int32)), .val (.int (0 : Int32)), .unset] [(.ref b92), (.ref b74)])) (fun _ k => XS.ifYes X99.here hx rfl (pc0 := 377) (pc' := 394) rfl (hb hby at_377) rfl ((if0 _ _).trans (teq hc377_101).1) (by decide) (by decide) (XS.iconst X99.here hx rfl (hb hby at_394) (XS.istore X99.here hx rfl (hb hby at_395) rfl (l' := #[.val (.int p0), .val (.int p1), .val (.int p2), .val (.int p3), .val (.int (1 : Int32)), .val (.int dd), .val (.int (2 : Int32)), .val (.int qq), .val (.int (40 : Int32)), .val (.int k1), .val (.int k2), .val (.int k3), .val (.ref b74), .val (.int dn), .val (.ref b92), .val (.int x15), .val (.int x16), .val (.int (1 : Int32)), .val (.int (0 : Int32)), .unset]) rfl (XS.aload X99.here hx rfl (hb hby at_397) rfl rfl (XS.aload X99.here hx rfl (hb hby at_399) rfl rfl k))))) ?_
              obtain ⟨cq102, kq102, q102a, q102b, q102c⟩ := isOf hZ e99 E_b74
              obtain ⟨_, _, ⟨T102, L102, k102, n102⟩, -, X102, ⟨Lc102, hQ102, l102, y102, z102⟩, st102⟩ := X99.virtualBack hx (y := (⟨"com/example/sidewager/sidewager/analysis/Shoe", "holds", "([I)Z"⟩ : MethodName)) (z := (⟨"com/example/sidewager/sidewager/analysis/Shoe", "holds", "([I)Z"⟩ : MethodName)) hown (mvT hZ (hwi hw 91 rfl)) (mvT hZ (hwi hw 92 rfl)) (notFace_of_selects (args := #[]) (mvT hZ (hwi hw 94 rfl))) (mvT hZ (hwi hw 94 rfl)) (mvT hZ (hwi hw 93 rfl)) (by decide) (backOf (W := 0) (rmHoM l Z aV hw [] b74 b92 b76_2 kb76_2 lf k92 ([k1, k2]) (2 : Int32) h94 n0 Zn (by decide) (by decide) (own_hks2 hk1 hk2) F_left_b74 V_b76_2 V_b92) hZ (hwi hw 95 rfl) (hwi hw 3 rfl) (by decide) (by decide)) q102a q102c (g := (mkF m 401 #[.val (.int p0), .val (.int p1), .val (.int p2), .val (.int p3), .val (.int (1 : Int32)), .val (.int dd), .val (.int (2 : Int32)), .val (.int qq), .val (.int (40 : Int32)), .val (.int k1), .val (.int k2), .val (.int k3), .val (.ref b74), .val (.int dn), .val (.ref b92), .val (.int x15), .val (.int x16), .val (.int (1 : Int32)), .val (.int (0 : Int32)), .unset] [(.ref b92), (.ref b74)])) rfl (by rw [hml]; rfl) (Steps.refl _) (argsL := [(.ref b92)]) (rest := []) (lenOf pd_8 rfl) rfl (by show 2 * 0 + _ ≤ _; exact Nat.le_of_eq rfl) (hb hby at_401) (fun _ _ => ⟨rfl, e99, (by decide : 8 + 1 ≤ _), (by decide : 131 + 40 ≤ _)⟩)
              dsimp only [Pt.U, Pt.locs, Pt.cells, Pt.slots] at X102 l102 y102 z102 st102 hQ102
              replace l102 := l102.symm; replace y102 := y102.symm; replace z102 := z102.symm; subst l102 y102 z102
              obtain ⟨rfl, N102q, K102⟩ := hQ102
              have OL := OL.keep K102 all0
              have E_b74 := E_b74.keep K102
              have F_left_b74 := F_left_b74.keep K102 nin0
              have F_dealt_b74 := F_dealt_b74.keep K102 nin0
              have V_b76_2 := V_b76_2.keep K102 nin0
              have V_b92 := V_b92.keep K102 nin0
              have Kp := Kp.trans K102 all0
              have Zn := Nat.le_trans Zn K102.1
              have N102 := Fr.app N99 N102q
              refine Run.st (S' := T102.setTop (mkF m 415 #[.val (.int p0), .val (.int p1), .val (.int p2), .val (.int p3), .val (.int (1 : Int32)), .val (.int dd), .val (.int (2 : Int32)), .val (.int qq), .val (.int (40 : Int32)), .val (.int k1), .val (.int k2), .val (.int k3), .val (.ref b74), .val (.int dn), .val (.ref b92), .val (.int x15), .val (.int x16), .val (.int (1 : Int32)), .val (.int (0 : Int32)), .val (.int (own_H [k1, k2] (2 : Int32) 40 lf))] [(.ref b74)])) (fun _ k => st102.trans (XS.istore X102.here hx rfl (hb hby at_404) rfl (l' := #[.val (.int p0), .val (.int p1), .val (.int p2), .val (.int p3), .val (.int (1 : Int32)), .val (.int dd), .val (.int (2 : Int32)), .val (.int qq), .val (.int (40 : Int32)), .val (.int k1), .val (.int k2), .val (.int k3), .val (.ref b74), .val (.int dn), .val (.ref b92), .val (.int x15), .val (.int x16), .val (.int (1 : Int32)), .val (.int (0 : Int32)), .val (.int (own_H [k1, k2] (2 : Int32) 40 lf))]) rfl (XS.iload X102.here hx rfl (hb hby at_406) rfl (XS.iload X102.here hx rfl (hb hby at_408) rfl (XS.icmpNo X102.here hx rfl (hb hby at_410) rfl (teq (show (own_H [k1, k2] (2 : Int32) 40 lf) = (0 : Int32) from (own_E2 (k2 := k2) (k3 := k3) (N := 40) (by decide) hk1 hk2 hyJ).trans (if_pos (Or.inl (own_x0 h_x15 hc377_101))))).2 (XS.aload X102.here hx rfl (hb hby at_413) rfl rfl k)))))) ?_
              obtain ⟨cq103, kq103, q103a, q103b, q103c⟩ := isOf hZ rfl E_b74
              obtain ⟨_, _, ⟨T103, L103, k103, n103⟩, -, X103, ⟨Lc103, hQ103, l103, y103, z103⟩, st103⟩ := X102.virtualBack hx (y := (⟨"com/example/sidewager/sidewager/analysis/Shoe", "dealt", "()I"⟩ : MethodName)) (z := (⟨"com/example/sidewager/sidewager/analysis/Shoe", "dealt", "()I"⟩ : MethodName)) hown (mvT hZ (hwi hw 96 rfl)) (mvT hZ (hwi hw 97 rfl)) (notFace_of_selects (args := #[]) (mvT hZ (hwi hw 99 rfl))) (mvT hZ (hwi hw 99 rfl)) (mvT hZ (hwi hw 98 rfl)) (by decide) (backOf (W := 0) (rmDt l Z aV hw [] b74 dn T102.heap n0 Zn F_dealt_b74) hZ (hwi hw 100 rfl) (hwi hw 3 rfl) (by decide) (by decide)) q103a q103c (g := (mkF m 415 #[.val (.int p0), .val (.int p1), .val (.int p2), .val (.int p3), .val (.int (1 : Int32)), .val (.int dd), .val (.int (2 : Int32)), .val (.int qq), .val (.int (40 : Int32)), .val (.int k1), .val (.int k2), .val (.int k3), .val (.ref b74), .val (.int dn), .val (.ref b92), .val (.int x15), .val (.int x16), .val (.int (1 : Int32)), .val (.int (0 : Int32)), .val (.int (own_H [k1, k2] (2 : Int32) 40 lf))] [(.ref b74)])) rfl (by rw [hml]; rfl) (Steps.refl _) (argsL := []) (rest := []) (lenOf pd_1 rfl) rfl (by show 2 * 0 + _ ≤ _; exact Nat.le_of_eq rfl) (hb hby at_415) (fun _ _ => ⟨rfl, rfl, (by decide : 9 + 0 ≤ _), (by decide : 171 + 0 ≤ _)⟩)
              dsimp only [Pt.U, Pt.locs, Pt.cells, Pt.slots] at X103 l103 y103 z103 st103 hQ103
              replace l103 := l103.symm; replace y103 := y103.symm; replace z103 := z103.symm; subst l103 y103 z103
              obtain ⟨rfl, N103q, e103⟩ := hQ103
              have N103 := Fr.app N102 N103q
              refine Run.st (S' := T103.setTop (mkF m 428 #[.val (.int p0), .val (.int p1), .val (.int p2), .val (.int p3), .val (.int (1 : Int32)), .val (.int dd), .val (.int (2 : Int32)), .val (.int qq), .val (.int (40 : Int32)), .val (.int k1), .val (.int k2), .val (.int k3), .val (.ref b74), .val (.int dn), .val (.ref b92), .val (.int x15), .val (.int x16), .val (.int (1 : Int32)), .val (.int (0 : Int32)), .val (.int (own_H [k1, k2] (2 : Int32) 40 lf))] [(.int (1 : Int32))])) (fun _ k => st103.trans (XS.iload X103.here hx rfl (hb hby at_418) rfl (XS.icmpNo X103.here hx rfl (hb hby at_420) rfl (teq (show dn = dn from rfl)).2 (XS.iconst X103.here hx rfl (hb hby at_423) (XS.goto X103.here hx rfl (pc0 := 424) (pc' := 428) rfl (hb hby at_424) (by decide) (by decide) k))))) ?_
              refine Run.out X103 hx Bd.notSynchronized Bd.returns rfl (Or.inl ⟨rfl, by simp, _, rfl⟩) (hb hby at_428) (by decide) (by decide) ?_
              rw [e103]
              exact ⟨rfl, N103⟩
            · refine Run.st (S' := T99.setTop (mkF m 382 #[.val (.int p0), .val (.int p1), .val (.int p2), .val (.int p3), .val (.int (1 : Int32)), .val (.int dd), .val (.int (2 : Int32)), .val (.int qq), .val (.int (40 : Int32)), .val (.int k1), .val (.int k2), .val (.int k3), .val (.ref b74), .val (.int dn), .val (.ref b92), .val (.int x15), .val (.int x16), .val (.int (1 : Int32)), .unset, .unset] [(.int x16)])) (fun _ k => XS.ifNo X99.here hx rfl (hb hby at_377) rfl ((if0 _ _).trans (feq hc377_101).1) (XS.iload X99.here hx rfl (hb hby at_380) rfl k)) ?_
              by_cases hc382_104 : x16 = (0 : Int32)
              · refine Run.st (S' := T99.setTop (mkF m 401 #[.val (.int p0), .val (.int p1), .val (.int p2), .val (.int p3), .val (.int (1 : Int32)), .val (.int dd), .val (.int (2 : Int32)), .val (.int qq), .val (.int (40 : Int32)), .val (.int k1), .val (.int k2), .val (.int k3), .val (.ref b74), .val (.int dn), .val (.ref b92), .val (.int x15), .val (.int x16), .val (.int (1 : Int32)), .val (.int (0 : Int32)), .unset] [(.ref b92), (.ref b74)])) (fun _ k => XS.ifYes X99.here hx rfl (pc0 := 382) (pc' := 394) rfl (hb hby at_382) rfl ((if0 _ _).trans (teq hc382_104).1) (by decide) (by decide) (XS.iconst X99.here hx rfl (hb hby at_394) (XS.istore X99.here hx rfl (hb hby at_395) rfl (l' := #[.val (.int p0), .val (.int p1), .val (.int p2), .val (.int p3), .val (.int (1 : Int32)), .val (.int dd), .val (.int (2 : Int32)), .val (.int qq), .val (.int (40 : Int32)), .val (.int k1), .val (.int k2), .val (.int k3), .val (.ref b74), .val (.int dn), .val (.ref b92), .val (.int x15), .val (.int x16), .val (.int (1 : Int32)), .val (.int (0 : Int32)), .unset]) rfl (XS.aload X99.here hx rfl (hb hby at_397) rfl rfl (XS.aload X99.here hx rfl (hb hby at_399) rfl rfl k))))) ?_
                obtain ⟨cq105, kq105, q105a, q105b, q105c⟩ := isOf hZ e99 E_b74
                obtain ⟨_, _, ⟨T105, L105, k105, n105⟩, -, X105, ⟨Lc105, hQ105, l105, y105, z105⟩, st105⟩ := X99.virtualBack hx (y := (⟨"com/example/sidewager/sidewager/analysis/Shoe", "holds", "([I)Z"⟩ : MethodName)) (z := (⟨"com/example/sidewager/sidewager/analysis/Shoe", "holds", "([I)Z"⟩ : MethodName)) hown (mvT hZ (hwi hw 91 rfl)) (mvT hZ (hwi hw 92 rfl)) (notFace_of_selects (args := #[]) (mvT hZ (hwi hw 94 rfl))) (mvT hZ (hwi hw 94 rfl)) (mvT hZ (hwi hw 93 rfl)) (by decide) (backOf (W := 0) (rmHoM l Z aV hw [] b74 b92 b76_2 kb76_2 lf k92 ([k1, k2]) (2 : Int32) h94 n0 Zn (by decide) (by decide) (own_hks2 hk1 hk2) F_left_b74 V_b76_2 V_b92) hZ (hwi hw 95 rfl) (hwi hw 3 rfl) (by decide) (by decide)) q105a q105c (g := (mkF m 401 #[.val (.int p0), .val (.int p1), .val (.int p2), .val (.int p3), .val (.int (1 : Int32)), .val (.int dd), .val (.int (2 : Int32)), .val (.int qq), .val (.int (40 : Int32)), .val (.int k1), .val (.int k2), .val (.int k3), .val (.ref b74), .val (.int dn), .val (.ref b92), .val (.int x15), .val (.int x16), .val (.int (1 : Int32)), .val (.int (0 : Int32)), .unset] [(.ref b92), (.ref b74)])) rfl (by rw [hml]; rfl) (Steps.refl _) (argsL := [(.ref b92)]) (rest := []) (lenOf pd_8 rfl) rfl (by show 2 * 0 + _ ≤ _; exact Nat.le_of_eq rfl) (hb hby at_401) (fun _ _ => ⟨rfl, e99, (by decide : 8 + 1 ≤ _), (by decide : 131 + 40 ≤ _)⟩)
                dsimp only [Pt.U, Pt.locs, Pt.cells, Pt.slots] at X105 l105 y105 z105 st105 hQ105
                replace l105 := l105.symm; replace y105 := y105.symm; replace z105 := z105.symm; subst l105 y105 z105
                obtain ⟨rfl, N105q, K105⟩ := hQ105
                have OL := OL.keep K105 all0
                have E_b74 := E_b74.keep K105
                have F_left_b74 := F_left_b74.keep K105 nin0
                have F_dealt_b74 := F_dealt_b74.keep K105 nin0
                have V_b76_2 := V_b76_2.keep K105 nin0
                have V_b92 := V_b92.keep K105 nin0
                have Kp := Kp.trans K105 all0
                have Zn := Nat.le_trans Zn K105.1
                have N105 := Fr.app N99 N105q
                refine Run.st (S' := T105.setTop (mkF m 415 #[.val (.int p0), .val (.int p1), .val (.int p2), .val (.int p3), .val (.int (1 : Int32)), .val (.int dd), .val (.int (2 : Int32)), .val (.int qq), .val (.int (40 : Int32)), .val (.int k1), .val (.int k2), .val (.int k3), .val (.ref b74), .val (.int dn), .val (.ref b92), .val (.int x15), .val (.int x16), .val (.int (1 : Int32)), .val (.int (0 : Int32)), .val (.int (own_H [k1, k2] (2 : Int32) 40 lf))] [(.ref b74)])) (fun _ k => st105.trans (XS.istore X105.here hx rfl (hb hby at_404) rfl (l' := #[.val (.int p0), .val (.int p1), .val (.int p2), .val (.int p3), .val (.int (1 : Int32)), .val (.int dd), .val (.int (2 : Int32)), .val (.int qq), .val (.int (40 : Int32)), .val (.int k1), .val (.int k2), .val (.int k3), .val (.ref b74), .val (.int dn), .val (.ref b92), .val (.int x15), .val (.int x16), .val (.int (1 : Int32)), .val (.int (0 : Int32)), .val (.int (own_H [k1, k2] (2 : Int32) 40 lf))]) rfl (XS.iload X105.here hx rfl (hb hby at_406) rfl (XS.iload X105.here hx rfl (hb hby at_408) rfl (XS.icmpNo X105.here hx rfl (hb hby at_410) rfl (teq (show (own_H [k1, k2] (2 : Int32) 40 lf) = (0 : Int32) from (own_E2 (k2 := k2) (k3 := k3) (N := 40) (by decide) hk1 hk2 hyJ).trans (if_pos (Or.inr (own_x0 h_x16 hc382_104))))).2 (XS.aload X105.here hx rfl (hb hby at_413) rfl rfl k)))))) ?_
                obtain ⟨cq106, kq106, q106a, q106b, q106c⟩ := isOf hZ rfl E_b74
                obtain ⟨_, _, ⟨T106, L106, k106, n106⟩, -, X106, ⟨Lc106, hQ106, l106, y106, z106⟩, st106⟩ := X105.virtualBack hx (y := (⟨"com/example/sidewager/sidewager/analysis/Shoe", "dealt", "()I"⟩ : MethodName)) (z := (⟨"com/example/sidewager/sidewager/analysis/Shoe", "dealt", "()I"⟩ : MethodName)) hown (mvT hZ (hwi hw 96 rfl)) (mvT hZ (hwi hw 97 rfl)) (notFace_of_selects (args := #[]) (mvT hZ (hwi hw 99 rfl))) (mvT hZ (hwi hw 99 rfl)) (mvT hZ (hwi hw 98 rfl)) (by decide) (backOf (W := 0) (rmDt l Z aV hw [] b74 dn T105.heap n0 Zn F_dealt_b74) hZ (hwi hw 100 rfl) (hwi hw 3 rfl) (by decide) (by decide)) q106a q106c (g := (mkF m 415 #[.val (.int p0), .val (.int p1), .val (.int p2), .val (.int p3), .val (.int (1 : Int32)), .val (.int dd), .val (.int (2 : Int32)), .val (.int qq), .val (.int (40 : Int32)), .val (.int k1), .val (.int k2), .val (.int k3), .val (.ref b74), .val (.int dn), .val (.ref b92), .val (.int x15), .val (.int x16), .val (.int (1 : Int32)), .val (.int (0 : Int32)), .val (.int (own_H [k1, k2] (2 : Int32) 40 lf))] [(.ref b74)])) rfl (by rw [hml]; rfl) (Steps.refl _) (argsL := []) (rest := []) (lenOf pd_1 rfl) rfl (by show 2 * 0 + _ ≤ _; exact Nat.le_of_eq rfl) (hb hby at_415) (fun _ _ => ⟨rfl, rfl, (by decide : 9 + 0 ≤ _), (by decide : 171 + 0 ≤ _)⟩)
                dsimp only [Pt.U, Pt.locs, Pt.cells, Pt.slots] at X106 l106 y106 z106 st106 hQ106
                replace l106 := l106.symm; replace y106 := y106.symm; replace z106 := z106.symm; subst l106 y106 z106
                obtain ⟨rfl, N106q, e106⟩ := hQ106
                have N106 := Fr.app N105 N106q
                refine Run.st (S' := T106.setTop (mkF m 428 #[.val (.int p0), .val (.int p1), .val (.int p2), .val (.int p3), .val (.int (1 : Int32)), .val (.int dd), .val (.int (2 : Int32)), .val (.int qq), .val (.int (40 : Int32)), .val (.int k1), .val (.int k2), .val (.int k3), .val (.ref b74), .val (.int dn), .val (.ref b92), .val (.int x15), .val (.int x16), .val (.int (1 : Int32)), .val (.int (0 : Int32)), .val (.int (own_H [k1, k2] (2 : Int32) 40 lf))] [(.int (1 : Int32))])) (fun _ k => st106.trans (XS.iload X106.here hx rfl (hb hby at_418) rfl (XS.icmpNo X106.here hx rfl (hb hby at_420) rfl (teq (show dn = dn from rfl)).2 (XS.iconst X106.here hx rfl (hb hby at_423) (XS.goto X106.here hx rfl (pc0 := 424) (pc' := 428) rfl (hb hby at_424) (by decide) (by decide) k))))) ?_
                refine Run.out X106 hx Bd.notSynchronized Bd.returns rfl (Or.inl ⟨rfl, by simp, _, rfl⟩) (hb hby at_428) (by decide) (by decide) ?_
                rw [e106]
                exact ⟨rfl, N106⟩
              · refine Run.st (S' := T99.setTop (mkF m 401 #[.val (.int p0), .val (.int p1), .val (.int p2), .val (.int p3), .val (.int (1 : Int32)), .val (.int dd), .val (.int (2 : Int32)), .val (.int qq), .val (.int (40 : Int32)), .val (.int k1), .val (.int k2), .val (.int k3), .val (.ref b74), .val (.int dn), .val (.ref b92), .val (.int x15), .val (.int x16), .val (.int (1 : Int32)), .val (.int (1 : Int32)), .unset] [(.ref b92), (.ref b74)])) (fun _ k => XS.ifNo X99.here hx rfl (hb hby at_382) rfl ((if0 _ _).trans (feq hc382_104).1) (XS.iload X99.here hx rfl (hb hby at_385) rfl (XS.ifNo X99.here hx rfl (hb hby at_387) rfl ((if0 _ _).trans (feq (show ¬ ((1 : Int32) = (0 : Int32)) from (by decide))).1) (XS.iconst X99.here hx rfl (hb hby at_390) (XS.goto X99.here hx rfl (pc0 := 391) (pc' := 395) rfl (hb hby at_391) (by decide) (by decide) (XS.istore X99.here hx rfl (hb hby at_395) rfl (l' := #[.val (.int p0), .val (.int p1), .val (.int p2), .val (.int p3), .val (.int (1 : Int32)), .val (.int dd), .val (.int (2 : Int32)), .val (.int qq), .val (.int (40 : Int32)), .val (.int k1), .val (.int k2), .val (.int k3), .val (.ref b74), .val (.int dn), .val (.ref b92), .val (.int x15), .val (.int x16), .val (.int (1 : Int32)), .val (.int (1 : Int32)), .unset]) rfl (XS.aload X99.here hx rfl (hb hby at_397) rfl rfl (XS.aload X99.here hx rfl (hb hby at_399) rfl rfl k)))))))) ?_
                obtain ⟨cq107, kq107, q107a, q107b, q107c⟩ := isOf hZ e99 E_b74
                obtain ⟨_, _, ⟨T107, L107, k107, n107⟩, -, X107, ⟨Lc107, hQ107, l107, y107, z107⟩, st107⟩ := X99.virtualBack hx (y := (⟨"com/example/sidewager/sidewager/analysis/Shoe", "holds", "([I)Z"⟩ : MethodName)) (z := (⟨"com/example/sidewager/sidewager/analysis/Shoe", "holds", "([I)Z"⟩ : MethodName)) hown (mvT hZ (hwi hw 91 rfl)) (mvT hZ (hwi hw 92 rfl)) (notFace_of_selects (args := #[]) (mvT hZ (hwi hw 94 rfl))) (mvT hZ (hwi hw 94 rfl)) (mvT hZ (hwi hw 93 rfl)) (by decide) (backOf (W := 0) (rmHoM l Z aV hw [] b74 b92 b76_2 kb76_2 lf k92 ([k1, k2]) (2 : Int32) h94 n0 Zn (by decide) (by decide) (own_hks2 hk1 hk2) F_left_b74 V_b76_2 V_b92) hZ (hwi hw 95 rfl) (hwi hw 3 rfl) (by decide) (by decide)) q107a q107c (g := (mkF m 401 #[.val (.int p0), .val (.int p1), .val (.int p2), .val (.int p3), .val (.int (1 : Int32)), .val (.int dd), .val (.int (2 : Int32)), .val (.int qq), .val (.int (40 : Int32)), .val (.int k1), .val (.int k2), .val (.int k3), .val (.ref b74), .val (.int dn), .val (.ref b92), .val (.int x15), .val (.int x16), .val (.int (1 : Int32)), .val (.int (1 : Int32)), .unset] [(.ref b92), (.ref b74)])) rfl (by rw [hml]; rfl) (Steps.refl _) (argsL := [(.ref b92)]) (rest := []) (lenOf pd_8 rfl) rfl (by show 2 * 0 + _ ≤ _; exact Nat.le_of_eq rfl) (hb hby at_401) (fun _ _ => ⟨rfl, e99, (by decide : 8 + 1 ≤ _), (by decide : 131 + 40 ≤ _)⟩)
                dsimp only [Pt.U, Pt.locs, Pt.cells, Pt.slots] at X107 l107 y107 z107 st107 hQ107
                replace l107 := l107.symm; replace y107 := y107.symm; replace z107 := z107.symm; subst l107 y107 z107
                obtain ⟨rfl, N107q, K107⟩ := hQ107
                have OL := OL.keep K107 all0
                have E_b74 := E_b74.keep K107
                have F_left_b74 := F_left_b74.keep K107 nin0
                have F_dealt_b74 := F_dealt_b74.keep K107 nin0
                have V_b76_2 := V_b76_2.keep K107 nin0
                have V_b92 := V_b92.keep K107 nin0
                have Kp := Kp.trans K107 all0
                have Zn := Nat.le_trans Zn K107.1
                have N107 := Fr.app N99 N107q
                refine Run.st (S' := T107.setTop (mkF m 415 #[.val (.int p0), .val (.int p1), .val (.int p2), .val (.int p3), .val (.int (1 : Int32)), .val (.int dd), .val (.int (2 : Int32)), .val (.int qq), .val (.int (40 : Int32)), .val (.int k1), .val (.int k2), .val (.int k3), .val (.ref b74), .val (.int dn), .val (.ref b92), .val (.int x15), .val (.int x16), .val (.int (1 : Int32)), .val (.int (1 : Int32)), .val (.int (own_H [k1, k2] (2 : Int32) 40 lf))] [(.ref b74)])) (fun _ k => st107.trans (XS.istore X107.here hx rfl (hb hby at_404) rfl (l' := #[.val (.int p0), .val (.int p1), .val (.int p2), .val (.int p3), .val (.int (1 : Int32)), .val (.int dd), .val (.int (2 : Int32)), .val (.int qq), .val (.int (40 : Int32)), .val (.int k1), .val (.int k2), .val (.int k3), .val (.ref b74), .val (.int dn), .val (.ref b92), .val (.int x15), .val (.int x16), .val (.int (1 : Int32)), .val (.int (1 : Int32)), .val (.int (own_H [k1, k2] (2 : Int32) 40 lf))]) rfl (XS.iload X107.here hx rfl (hb hby at_406) rfl (XS.iload X107.here hx rfl (hb hby at_408) rfl (XS.icmpNo X107.here hx rfl (hb hby at_410) rfl (teq (show (own_H [k1, k2] (2 : Int32) 40 lf) = (1 : Int32) from (own_E2 (k2 := k2) (k3 := k3) (N := 40) (by decide) hk1 hk2 hyJ).trans (if_neg (fun z => z.elim (own_x1 h_x15 hc377_101) (own_x1 h_x16 hc382_104))))).2 (XS.aload X107.here hx rfl (hb hby at_413) rfl rfl k)))))) ?_
                obtain ⟨cq108, kq108, q108a, q108b, q108c⟩ := isOf hZ rfl E_b74
                obtain ⟨_, _, ⟨T108, L108, k108, n108⟩, -, X108, ⟨Lc108, hQ108, l108, y108, z108⟩, st108⟩ := X107.virtualBack hx (y := (⟨"com/example/sidewager/sidewager/analysis/Shoe", "dealt", "()I"⟩ : MethodName)) (z := (⟨"com/example/sidewager/sidewager/analysis/Shoe", "dealt", "()I"⟩ : MethodName)) hown (mvT hZ (hwi hw 96 rfl)) (mvT hZ (hwi hw 97 rfl)) (notFace_of_selects (args := #[]) (mvT hZ (hwi hw 99 rfl))) (mvT hZ (hwi hw 99 rfl)) (mvT hZ (hwi hw 98 rfl)) (by decide) (backOf (W := 0) (rmDt l Z aV hw [] b74 dn T107.heap n0 Zn F_dealt_b74) hZ (hwi hw 100 rfl) (hwi hw 3 rfl) (by decide) (by decide)) q108a q108c (g := (mkF m 415 #[.val (.int p0), .val (.int p1), .val (.int p2), .val (.int p3), .val (.int (1 : Int32)), .val (.int dd), .val (.int (2 : Int32)), .val (.int qq), .val (.int (40 : Int32)), .val (.int k1), .val (.int k2), .val (.int k3), .val (.ref b74), .val (.int dn), .val (.ref b92), .val (.int x15), .val (.int x16), .val (.int (1 : Int32)), .val (.int (1 : Int32)), .val (.int (own_H [k1, k2] (2 : Int32) 40 lf))] [(.ref b74)])) rfl (by rw [hml]; rfl) (Steps.refl _) (argsL := []) (rest := []) (lenOf pd_1 rfl) rfl (by show 2 * 0 + _ ≤ _; exact Nat.le_of_eq rfl) (hb hby at_415) (fun _ _ => ⟨rfl, rfl, (by decide : 9 + 0 ≤ _), (by decide : 171 + 0 ≤ _)⟩)
                dsimp only [Pt.U, Pt.locs, Pt.cells, Pt.slots] at X108 l108 y108 z108 st108 hQ108
                replace l108 := l108.symm; replace y108 := y108.symm; replace z108 := z108.symm; subst l108 y108 z108
                obtain ⟨rfl, N108q, e108⟩ := hQ108
                have N108 := Fr.app N107 N108q
                refine Run.st (S' := T108.setTop (mkF m 428 #[.val (.int p0), .val (.int p1), .val (.int p2), .val (.int p3), .val (.int (1 : Int32)), .val (.int dd), .val (.int (2 : Int32)), .val (.int qq), .val (.int (40 : Int32)), .val (.int k1), .val (.int k2), .val (.int k3), .val (.ref b74), .val (.int dn), .val (.ref b92), .val (.int x15), .val (.int x16), .val (.int (1 : Int32)), .val (.int (1 : Int32)), .val (.int (own_H [k1, k2] (2 : Int32) 40 lf))] [(.int (1 : Int32))])) (fun _ k => st108.trans (XS.iload X108.here hx rfl (hb hby at_418) rfl (XS.icmpNo X108.here hx rfl (hb hby at_420) rfl (teq (show dn = dn from rfl)).2 (XS.iconst X108.here hx rfl (hb hby at_423) (XS.goto X108.here hx rfl (pc0 := 424) (pc' := 428) rfl (hb hby at_424) (by decide) (by decide) k))))) ?_
                refine Run.out X108 hx Bd.notSynchronized Bd.returns rfl (Or.inl ⟨rfl, by simp, _, rfl⟩) (hb hby at_428) (by decide) (by decide) ?_
                rw [e108]
                exact ⟨rfl, N108⟩
          by_cases hc323_109 : (FLeft (1 : Int32) dd k1 dn k2) < (FCnt k2 (2 : Int32) k1 k2 k3)
          · refine Run.st (S' := T99.setTop (mkF m 333 #[.val (.int p0), .val (.int p1), .val (.int p2), .val (.int p3), .val (.int (1 : Int32)), .val (.int dd), .val (.int (2 : Int32)), .val (.int qq), .val (.int (40 : Int32)), .val (.int k1), .val (.int k2), .val (.int k3), .val (.ref b74), .val (.int dn), .val (.ref b92), .val (.int x15), .val (.int (0 : Int32)), .unset, .unset, .unset] [])) (fun _ k => XS.icmpYes X99.here hx rfl (pc0 := 323) (pc' := 330) rfl (hb hby at_323) rfl (tlt hc323_109).2.2.1 (by decide) (by decide) (XS.iconst X99.here hx rfl (hb hby at_330) (XS.istore X99.here hx rfl (hb hby at_331) rfl (l' := #[.val (.int p0), .val (.int p1), .val (.int p2), .val (.int p3), .val (.int (1 : Int32)), .val (.int dd), .val (.int (2 : Int32)), .val (.int qq), .val (.int (40 : Int32)), .val (.int k1), .val (.int k2), .val (.int k3), .val (.ref b74), .val (.int dn), .val (.ref b92), .val (.int x15), .val (.int (0 : Int32)), .unset, .unset, .unset]) rfl k))) ?_
            exact J333_100 (0 : Int32) (if_pos hc323_109).symm
          · refine Run.st (S' := T99.setTop (mkF m 333 #[.val (.int p0), .val (.int p1), .val (.int p2), .val (.int p3), .val (.int (1 : Int32)), .val (.int dd), .val (.int (2 : Int32)), .val (.int qq), .val (.int (40 : Int32)), .val (.int k1), .val (.int k2), .val (.int k3), .val (.ref b74), .val (.int dn), .val (.ref b92), .val (.int x15), .val (.int (1 : Int32)), .unset, .unset, .unset] [])) (fun _ k => XS.icmpNo X99.here hx rfl (hb hby at_323) rfl (flt hc323_109).2.2.1 (XS.iconst X99.here hx rfl (hb hby at_326) (XS.goto X99.here hx rfl (pc0 := 327) (pc' := 331) rfl (hb hby at_327) (by decide) (by decide) (XS.istore X99.here hx rfl (hb hby at_331) rfl (l' := #[.val (.int p0), .val (.int p1), .val (.int p2), .val (.int p3), .val (.int (1 : Int32)), .val (.int dd), .val (.int (2 : Int32)), .val (.int qq), .val (.int (40 : Int32)), .val (.int k1), .val (.int k2), .val (.int k3), .val (.ref b74), .val (.int dn), .val (.ref b92), .val (.int x15), .val (.int (1 : Int32)), .unset, .unset, .unset]) rfl k)))) ?_
            exact J333_100 (1 : Int32) (if_neg hc323_109).symm
        by_cases hc281_110 : (FLeft (1 : Int32) dd k1 dn k1) < (FCnt k1 (2 : Int32) k1 k2 k3)
        · refine Run.st (S' := T96.setTop (mkF m 291 #[.val (.int p0), .val (.int p1), .val (.int p2), .val (.int p3), .val (.int (1 : Int32)), .val (.int dd), .val (.int (2 : Int32)), .val (.int qq), .val (.int (40 : Int32)), .val (.int k1), .val (.int k2), .val (.int k3), .val (.ref b74), .val (.int dn), .val (.ref b92), .val (.int (0 : Int32)), .unset, .unset, .unset, .unset] [])) (fun _ k => XS.icmpYes X96.here hx rfl (pc0 := 281) (pc' := 288) rfl (hb hby at_281) rfl (tlt hc281_110).2.2.1 (by decide) (by decide) (XS.iconst X96.here hx rfl (hb hby at_288) (XS.istore X96.here hx rfl (hb hby at_289) rfl (l' := #[.val (.int p0), .val (.int p1), .val (.int p2), .val (.int p3), .val (.int (1 : Int32)), .val (.int dd), .val (.int (2 : Int32)), .val (.int qq), .val (.int (40 : Int32)), .val (.int k1), .val (.int k2), .val (.int k3), .val (.ref b74), .val (.int dn), .val (.ref b92), .val (.int (0 : Int32)), .unset, .unset, .unset, .unset]) rfl k))) ?_
          exact J291_97 (0 : Int32) (if_pos hc281_110).symm
        · refine Run.st (S' := T96.setTop (mkF m 291 #[.val (.int p0), .val (.int p1), .val (.int p2), .val (.int p3), .val (.int (1 : Int32)), .val (.int dd), .val (.int (2 : Int32)), .val (.int qq), .val (.int (40 : Int32)), .val (.int k1), .val (.int k2), .val (.int k3), .val (.ref b74), .val (.int dn), .val (.ref b92), .val (.int (1 : Int32)), .unset, .unset, .unset, .unset] [])) (fun _ k => XS.icmpNo X96.here hx rfl (hb hby at_281) rfl (flt hc281_110).2.2.1 (XS.iconst X96.here hx rfl (hb hby at_284) (XS.goto X96.here hx rfl (pc0 := 285) (pc' := 289) rfl (hb hby at_285) (by decide) (by decide) (XS.istore X96.here hx rfl (hb hby at_289) rfl (l' := #[.val (.int p0), .val (.int p1), .val (.int p2), .val (.int p3), .val (.int (1 : Int32)), .val (.int dd), .val (.int (2 : Int32)), .val (.int qq), .val (.int (40 : Int32)), .val (.int k1), .val (.int k2), .val (.int k3), .val (.ref b74), .val (.int dn), .val (.ref b92), .val (.int (1 : Int32)), .unset, .unset, .unset, .unset]) rfl k)))) ?_
          exact J291_97 (1 : Int32) (if_neg hc281_110).symm
      · refine Run.st (S' := Tl77.setTop (mkF m 229 #[.val (.int p0), .val (.int p1), .val (.int p2), .val (.int p3), .val (.int (1 : Int32)), .val (.int dd), .val (.int (3 : Int32)), .val (.int qq), .val (.int (40 : Int32)), .val (.int k1), .val (.int k2), .val (.int k3), .val (.ref b74), .val (.int dn), .unset, .unset, .unset, .unset, .unset, .unset] [])) (fun _ k => XS.iload Xl77.here hx rfl (hb hby at_173) rfl (XS.ifYes Xl77.here hx rfl (pc0 := 175) (pc' := 186) rfl (hb hby at_175) rfl ((if0 _ _).trans (feq (show ¬ ((3 : Int32) = (0 : Int32)) from (by decide))).2) (by decide) (by decide) (XS.iload Xl77.here hx rfl (hb hby at_186) rfl (XS.iconst Xl77.here hx rfl (hb hby at_188) (XS.icmpYes Xl77.here hx rfl (pc0 := 189) (pc' := 205) rfl (hb hby at_189) rfl (feq (show ¬ ((3 : Int32) = (1 : Int32)) from (by decide))).2 (by decide) (by decide) (XS.iload Xl77.here hx rfl (hb hby at_205) rfl (XS.iconst Xl77.here hx rfl (hb hby at_207) (XS.icmpYes Xl77.here hx rfl (pc0 := 208) (pc' := 229) rfl (hb hby at_208) rfl (feq (show ¬ ((3 : Int32) = (2 : Int32)) from (by decide))).2 (by decide) (by decide) k)))))))) ?_
        refine Run.st (S' := Tl77.setTop (mkF m 230 #[.val (.int p0), .val (.int p1), .val (.int p2), .val (.int p3), .val (.int (1 : Int32)), .val (.int dd), .val (.int (3 : Int32)), .val (.int qq), .val (.int (40 : Int32)), .val (.int k1), .val (.int k2), .val (.int k3), .val (.ref b74), .val (.int dn), .unset, .unset, .unset, .unset, .unset, .unset] [(.int (3 : Int32))])) (fun _ k => XS.iconst Xl77.here hx rfl (hb hby at_229) k) ?_
        obtain ⟨T111, h111, k111, X111, e111, E111, A111, st111⟩ := newP Xl77 hx hZ (hwi hw 13 rfl) El77 (g := (mkF m 230 #[.val (.int p0), .val (.int p1), .val (.int p2), .val (.int p3), .val (.int (1 : Int32)), .val (.int dd), .val (.int (3 : Int32)), .val (.int qq), .val (.int (40 : Int32)), .val (.int k1), .val (.int k2), .val (.int k3), .val (.ref b74), .val (.int dn), .unset, .unset, .unset, .unset, .unset, .unset] [(.int (3 : Int32))])) rfl (hb hby at_230) rfl (by decide) (cap := 3) (by decide) (by decide) (by decide) (by decide)
        obtain ⟨b111, g111⟩ : ∃ z, z = Hl77.size := ⟨_, rfl⟩
        rw [← g111] at A111 st111
        have ne_b74_b111 : b74 ≠ b111 := Nat.ne_of_lt (Nat.lt_of_lt_of_le E_b74.lt (Nat.le_of_eq g111.symm))
        have ne_b76_2_b111 : b76_2 ≠ b111 := Nat.ne_of_lt (Nat.lt_of_lt_of_le V_b76_2.lt (Nat.le_of_eq g111.symm))
        have E_b74 := E_b74.ext E111
        have F_left_b74 := F_left_b74.ext E111
        have F_dealt_b74 := F_dealt_b74.ext E111
        have V_b76_2 := V_b76_2.ext E111
        have OL := OL.ext E111
        have g_b111 : n0 ≤ b111 := Nat.le_trans Zn (Nat.le_of_eq g111.symm)
        have Zn := Nat.le_trans Zn E111.1
        have sz_b111 : h0.size ≤ b111 := Nat.le_trans Kp.1 (Nat.le_of_eq g111.symm)
        have Kp := Kp.ext E111
        have V_b111 : Arv Z h111 b111 k111 .int (3 : Int32) [(.int (0 : Int32)), (.int (0 : Int32)), (.int (0 : Int32))] (.int (0 : Int32)) := (Arv.new A111 (by decide)).pad (pad_rep [] (.int (0 : Int32)) 3)
        refine Run.st (S' := T111.setTop (mkF m 236 #[.val (.int p0), .val (.int p1), .val (.int p2), .val (.int p3), .val (.int (1 : Int32)), .val (.int dd), .val (.int (3 : Int32)), .val (.int qq), .val (.int (40 : Int32)), .val (.int k1), .val (.int k2), .val (.int k3), .val (.ref b74), .val (.int dn), .unset, .unset, .unset, .unset, .unset, .unset] [(.int k1), (.int (0 : Int32)), (.ref b111), (.ref b111)])) (fun _ k => st111 _ (XS.dup X111.here hx rfl (hb hby at_232) rfl rfl (XS.iconst X111.here hx rfl (hb hby at_233) (XS.iload X111.here hx rfl (hb hby at_234) rfl k)))) ?_
        obtain ⟨cl112, Ar112, qa112, Sa112, Na112, Ha112, Ga112⟩ := V_b111
        have hin112 : ¬ ((0 : Int32) < 0 ∨ cl112.slots.size ≤ ((0 : Int32)).toNatClampNeg) := inb_of Sa112 ⟨by decide, by decide⟩
        obtain ⟨T112, h112, X112, e112, W112, st112⟩ := stI X111 hx hZ e111 Ar112 (j := (0 : Int32)) hin112 (g := (mkF m 236 #[.val (.int p0), .val (.int p1), .val (.int p2), .val (.int p3), .val (.int (1 : Int32)), .val (.int dd), .val (.int (3 : Int32)), .val (.int qq), .val (.int (40 : Int32)), .val (.int k1), .val (.int k2), .val (.int k3), .val (.ref b74), .val (.int dn), .unset, .unset, .unset, .unset, .unset, .unset] [(.int k1), (.int (0 : Int32)), (.ref b111), (.ref b111)])) rfl rfl (hb hby at_236)
        have V_b111 := Arv.set Ar112 qa112 Sa112 Na112 Ha112 Ga112 rfl W112 0 rfl (Nat.le_of_ble_eq_true rfl)
        have V_b111 : Arv Z h112 b111 k111 .int (3 : Int32) [(.int k1), (.int (0 : Int32)), (.int (0 : Int32))] (.int (0 : Int32)) := V_b111
        have OL := OL.wr W112 g_b111
        have E_b74 := E_b74.wr W112
        have F_left_b74 := F_left_b74.other W112 (Or.inl ne_b74_b111)
        have F_dealt_b74 := F_dealt_b74.other W112 (Or.inl ne_b74_b111)
        have V_b76_2 := V_b76_2.other W112 ne_b76_2_b111
        have N112 := Fr.snoc X112 Nl77 g_b111
        have Kp := Kp.wr W112 (Or.inr sz_b111)
        have Zn := Nat.le_trans Zn (Nat.le_of_eq W112.size.symm)
        refine Run.st (S' := T112.setTop (mkF m 241 #[.val (.int p0), .val (.int p1), .val (.int p2), .val (.int p3), .val (.int (1 : Int32)), .val (.int dd), .val (.int (3 : Int32)), .val (.int qq), .val (.int (40 : Int32)), .val (.int k1), .val (.int k2), .val (.int k3), .val (.ref b74), .val (.int dn), .unset, .unset, .unset, .unset, .unset, .unset] [(.int k2), (.int (1 : Int32)), (.ref b111), (.ref b111)])) (fun _ k => st112 _ (XS.dup X112.here hx rfl (hb hby at_237) rfl rfl (XS.iconst X112.here hx rfl (hb hby at_238) (XS.iload X112.here hx rfl (hb hby at_239) rfl k)))) ?_
        obtain ⟨cl113, Ar113, qa113, Sa113, Na113, Ha113, Ga113⟩ := V_b111
        have hin113 : ¬ ((1 : Int32) < 0 ∨ cl113.slots.size ≤ ((1 : Int32)).toNatClampNeg) := inb_of Sa113 ⟨by decide, by decide⟩
        obtain ⟨T113, h113, X113, e113, W113, st113⟩ := stI X112 hx hZ e112 Ar113 (j := (1 : Int32)) hin113 (g := (mkF m 241 #[.val (.int p0), .val (.int p1), .val (.int p2), .val (.int p3), .val (.int (1 : Int32)), .val (.int dd), .val (.int (3 : Int32)), .val (.int qq), .val (.int (40 : Int32)), .val (.int k1), .val (.int k2), .val (.int k3), .val (.ref b74), .val (.int dn), .unset, .unset, .unset, .unset, .unset, .unset] [(.int k2), (.int (1 : Int32)), (.ref b111), (.ref b111)])) rfl rfl (hb hby at_241)
        have V_b111 := Arv.set Ar113 qa113 Sa113 Na113 Ha113 Ga113 rfl W113 1 rfl (Nat.le_of_ble_eq_true rfl)
        have V_b111 : Arv Z h113 b111 k111 .int (3 : Int32) [(.int k1), (.int k2), (.int (0 : Int32))] (.int (0 : Int32)) := V_b111
        have OL := OL.wr W113 g_b111
        have E_b74 := E_b74.wr W113
        have F_left_b74 := F_left_b74.other W113 (Or.inl ne_b74_b111)
        have F_dealt_b74 := F_dealt_b74.other W113 (Or.inl ne_b74_b111)
        have V_b76_2 := V_b76_2.other W113 ne_b76_2_b111
        have N113 := Fr.snoc X113 N112 g_b111
        have Kp := Kp.wr W113 (Or.inr sz_b111)
        have Zn := Nat.le_trans Zn (Nat.le_of_eq W113.size.symm)
        refine Run.st (S' := T113.setTop (mkF m 246 #[.val (.int p0), .val (.int p1), .val (.int p2), .val (.int p3), .val (.int (1 : Int32)), .val (.int dd), .val (.int (3 : Int32)), .val (.int qq), .val (.int (40 : Int32)), .val (.int k1), .val (.int k2), .val (.int k3), .val (.ref b74), .val (.int dn), .unset, .unset, .unset, .unset, .unset, .unset] [(.int k3), (.int (2 : Int32)), (.ref b111), (.ref b111)])) (fun _ k => st113 _ (XS.dup X113.here hx rfl (hb hby at_242) rfl rfl (XS.iconst X113.here hx rfl (hb hby at_243) (XS.iload X113.here hx rfl (hb hby at_244) rfl k)))) ?_
        obtain ⟨cl114, Ar114, qa114, Sa114, Na114, Ha114, Ga114⟩ := V_b111
        have hin114 : ¬ ((2 : Int32) < 0 ∨ cl114.slots.size ≤ ((2 : Int32)).toNatClampNeg) := inb_of Sa114 ⟨by decide, by decide⟩
        obtain ⟨T114, h114, X114, e114, W114, st114⟩ := stI X113 hx hZ e113 Ar114 (j := (2 : Int32)) hin114 (g := (mkF m 246 #[.val (.int p0), .val (.int p1), .val (.int p2), .val (.int p3), .val (.int (1 : Int32)), .val (.int dd), .val (.int (3 : Int32)), .val (.int qq), .val (.int (40 : Int32)), .val (.int k1), .val (.int k2), .val (.int k3), .val (.ref b74), .val (.int dn), .unset, .unset, .unset, .unset, .unset, .unset] [(.int k3), (.int (2 : Int32)), (.ref b111), (.ref b111)])) rfl rfl (hb hby at_246)
        have V_b111 := Arv.set Ar114 qa114 Sa114 Na114 Ha114 Ga114 rfl W114 2 rfl (Nat.le_of_ble_eq_true rfl)
        have V_b111 : Arv Z h114 b111 k111 .int (3 : Int32) [(.int k1), (.int k2), (.int k3)] (.int (0 : Int32)) := V_b111
        have OL := OL.wr W114 g_b111
        have E_b74 := E_b74.wr W114
        have F_left_b74 := F_left_b74.other W114 (Or.inl ne_b74_b111)
        have F_dealt_b74 := F_dealt_b74.other W114 (Or.inl ne_b74_b111)
        have V_b76_2 := V_b76_2.other W114 ne_b76_2_b111
        have N114 := Fr.snoc X114 N113 g_b111
        have Kp := Kp.wr W114 (Or.inr sz_b111)
        have Zn := Nat.le_trans Zn (Nat.le_of_eq W114.size.symm)
        refine Run.st (S' := T114.setTop (mkF m 249 #[.val (.int p0), .val (.int p1), .val (.int p2), .val (.int p3), .val (.int (1 : Int32)), .val (.int dd), .val (.int (3 : Int32)), .val (.int qq), .val (.int (40 : Int32)), .val (.int k1), .val (.int k2), .val (.int k3), .val (.ref b74), .val (.int dn), .val (.ref b111), .unset, .unset, .unset, .unset, .unset] [])) (fun _ k => st114 _ (XS.astore X114.here hx rfl (hb hby at_247) rfl rfl (l' := #[.val (.int p0), .val (.int p1), .val (.int p2), .val (.int p3), .val (.int (1 : Int32)), .val (.int dd), .val (.int (3 : Int32)), .val (.int qq), .val (.int (40 : Int32)), .val (.int k1), .val (.int k2), .val (.int k3), .val (.ref b74), .val (.int dn), .val (.ref b111), .unset, .unset, .unset, .unset, .unset]) rfl k)) ?_
        have V_b111 : Arv Z h114 b111 k111 .int (3 : Int32) ([k1, k2, k3].map Value.int) (.int (0 : Int32)) := V_b111
        refine Run.st (S' := T114.setTop (mkF m 265 #[.val (.int p0), .val (.int p1), .val (.int p2), .val (.int p3), .val (.int (1 : Int32)), .val (.int dd), .val (.int (3 : Int32)), .val (.int qq), .val (.int (40 : Int32)), .val (.int k1), .val (.int k2), .val (.int k3), .val (.ref b74), .val (.int dn), .val (.ref b111), .unset, .unset, .unset, .unset, .unset] [(.int k3), (.int k2), (.int k1), (.int (3 : Int32)), (.int k1)])) (fun _ k => XS.iload X114.here hx rfl (hb hby at_249) rfl (XS.iconst X114.here hx rfl (hb hby at_251) (XS.icmpNo X114.here hx rfl (hb hby at_252) rfl (flt (show ¬ ((3 : Int32) < (1 : Int32)) from (by decide))).1 (XS.iload X114.here hx rfl (hb hby at_255) rfl (XS.iload X114.here hx rfl (hb hby at_257) rfl (XS.iload X114.here hx rfl (hb hby at_259) rfl (XS.iload X114.here hx rfl (hb hby at_261) rfl (XS.iload X114.here hx rfl (hb hby at_263) rfl k)))))))) ?_
        obtain ⟨_, _, ⟨T115, L115, k115, n115⟩, -, X115, ⟨Lc115, hQ115, l115, y115, z115⟩, st115⟩ := Jvm.LawKit.callS X114 hx (y := (⟨"com/example/sidewager/sidewager/analysis/ShoeHoldsPinLaw", "cnt", "(IIIII)I"⟩ : MethodName)) hown (mvT hZ (hwi hw 103 rfl)) (mvT hZ (hwi hw 104 rfl)) (mvT hZ (hwi hw 88 rfl)) (mvT hZ (hwi hw 105 rfl)) (by decide) (backOf (W := 0) (rmCnt l Z aV hw [] k1 (3 : Int32) k1 k2 k3 h114 n0 Zn ) hZ (hwi hw 105 rfl) (hwi hw 88 rfl) (by decide) (by decide)) (g := (mkF m 265 #[.val (.int p0), .val (.int p1), .val (.int p2), .val (.int p3), .val (.int (1 : Int32)), .val (.int dd), .val (.int (3 : Int32)), .val (.int qq), .val (.int (40 : Int32)), .val (.int k1), .val (.int k2), .val (.int k3), .val (.ref b74), .val (.int dn), .val (.ref b111), .unset, .unset, .unset, .unset, .unset] [(.int k3), (.int k2), (.int k1), (.int (3 : Int32)), (.int k1)])) rfl (by rw [hml]; rfl) (argsL := [(.int k1), (.int (3 : Int32)), (.int k1), (.int k2), (.int k3)]) (rest := []) (lenOf pd_9 rfl) rfl (by show 2 * 0 + _ ≤ _; exact Nat.le_of_eq rfl) (hb hby at_265) (fun _ _ => ⟨rfl, e114, (by decide : 8 + 0 ≤ _), (by decide : 132 + 0 ≤ _)⟩)
        dsimp only [Pt.U, Pt.locs, Pt.cells, Pt.slots] at X115 l115 y115 z115 st115 hQ115
        replace l115 := l115.symm; replace y115 := y115.symm; replace z115 := z115.symm; subst l115 y115 z115
        obtain ⟨rfl, N115q, e115⟩ := hQ115
        have N115 := Fr.app N114 N115q
        refine Run.st (S' := T115.setTop (mkF m 278 #[.val (.int p0), .val (.int p1), .val (.int p2), .val (.int p3), .val (.int (1 : Int32)), .val (.int dd), .val (.int (3 : Int32)), .val (.int qq), .val (.int (40 : Int32)), .val (.int k1), .val (.int k2), .val (.int k3), .val (.ref b74), .val (.int dn), .val (.ref b111), .unset, .unset, .unset, .unset, .unset] [(.int k1), (.int dn), (.int k1), (.int dd), (.int (1 : Int32)), (.int (FCnt k1 (3 : Int32) k1 k2 k3))])) (fun _ k => st115 _ (XS.iload X115.here hx rfl (hb hby at_268) rfl (XS.iload X115.here hx rfl (hb hby at_270) rfl (XS.iload X115.here hx rfl (hb hby at_272) rfl (XS.iload X115.here hx rfl (hb hby at_274) rfl (XS.iload X115.here hx rfl (hb hby at_276) rfl k)))))) ?_
        obtain ⟨_, _, ⟨T116, L116, k116, n116⟩, -, X116, ⟨Lc116, hQ116, l116, y116, z116⟩, st116⟩ := Jvm.LawKit.callS X115 hx (y := (⟨"com/example/sidewager/sidewager/analysis/ShoeHoldsPinLaw", "left", "(ZIIII)I"⟩ : MethodName)) hown (mvT hZ (hwi hw 106 rfl)) (mvT hZ (hwi hw 107 rfl)) (mvT hZ (hwi hw 88 rfl)) (mvT hZ (hwi hw 108 rfl)) (by decide) (backOf (W := 1) (rmLeft l Z aV hw [] (1 : Int32) dd k1 dn k1 h114 n0 Zn ) hZ (hwi hw 108 rfl) (hwi hw 88 rfl) (by decide) (by decide)) (g := (mkF m 278 #[.val (.int p0), .val (.int p1), .val (.int p2), .val (.int p3), .val (.int (1 : Int32)), .val (.int dd), .val (.int (3 : Int32)), .val (.int qq), .val (.int (40 : Int32)), .val (.int k1), .val (.int k2), .val (.int k3), .val (.ref b74), .val (.int dn), .val (.ref b111), .unset, .unset, .unset, .unset, .unset] [(.int k1), (.int dn), (.int k1), (.int dd), (.int (1 : Int32)), (.int (FCnt k1 (3 : Int32) k1 k2 k3))])) rfl (by rw [hml]; rfl) (argsL := [(.int (1 : Int32)), (.int dd), (.int k1), (.int dn), (.int k1)]) (rest := [(.int (FCnt k1 (3 : Int32) k1 k2 k3))]) (lenOf pd_10 rfl) rfl (by show 2 * 0 + _ ≤ _; exact Nat.le_of_eq rfl) (hb hby at_278) (fun _ _ => ⟨rfl, e115, (by decide : 8 + 0 ≤ _), (by decide : 132 + 0 ≤ _)⟩)
        dsimp only [Pt.U, Pt.locs, Pt.cells, Pt.slots] at X116 l116 y116 z116 st116 hQ116
        replace l116 := l116.symm; replace y116 := y116.symm; replace z116 := z116.symm; subst l116 y116 z116
        obtain ⟨rfl, N116q, e116⟩ := hQ116
        have N116 := Fr.app N115 N116q
        refine Run.st (S' := T116.setTop (mkF m 281 #[.val (.int p0), .val (.int p1), .val (.int p2), .val (.int p3), .val (.int (1 : Int32)), .val (.int dd), .val (.int (3 : Int32)), .val (.int qq), .val (.int (40 : Int32)), .val (.int k1), .val (.int k2), .val (.int k3), .val (.ref b74), .val (.int dn), .val (.ref b111), .unset, .unset, .unset, .unset, .unset] [(.int (FLeft (1 : Int32) dd k1 dn k1)), (.int (FCnt k1 (3 : Int32) k1 k2 k3))])) (fun _ k => st116 _ k) ?_
        have J291_117 : ∀ (x15 : Int32), x15 = (if (FLeft (1 : Int32) dd k1 dn k1) < (FCnt k1 (3 : Int32) k1 k2 k3) then (0 : Int32) else (1 : Int32)) → Run p e below (Ends s (Q0 Z p0 p1 p2 p3 u s_MAT s_VALS kV vsR s_ONE h0 n0) room_1.cells room_1.slots) (T116.setTop (mkF m 291 #[.val (.int p0), .val (.int p1), .val (.int p2), .val (.int p3), .val (.int (1 : Int32)), .val (.int dd), .val (.int (3 : Int32)), .val (.int qq), .val (.int (40 : Int32)), .val (.int k1), .val (.int k2), .val (.int k3), .val (.ref b74), .val (.int dn), .val (.ref b111), .val (.int x15), .unset, .unset, .unset, .unset] [])) := by
          intro x15 h_x15
          refine Run.st (S' := T116.setTop (mkF m 307 #[.val (.int p0), .val (.int p1), .val (.int p2), .val (.int p3), .val (.int (1 : Int32)), .val (.int dd), .val (.int (3 : Int32)), .val (.int qq), .val (.int (40 : Int32)), .val (.int k1), .val (.int k2), .val (.int k3), .val (.ref b74), .val (.int dn), .val (.ref b111), .val (.int x15), .unset, .unset, .unset, .unset] [(.int k3), (.int k2), (.int k1), (.int (3 : Int32)), (.int k2)])) (fun _ k => XS.iload X116.here hx rfl (hb hby at_291) rfl (XS.iconst X116.here hx rfl (hb hby at_293) (XS.icmpNo X116.here hx rfl (hb hby at_294) rfl (flt (show ¬ ((3 : Int32) < (2 : Int32)) from (by decide))).1 (XS.iload X116.here hx rfl (hb hby at_297) rfl (XS.iload X116.here hx rfl (hb hby at_299) rfl (XS.iload X116.here hx rfl (hb hby at_301) rfl (XS.iload X116.here hx rfl (hb hby at_303) rfl (XS.iload X116.here hx rfl (hb hby at_305) rfl k)))))))) ?_
          obtain ⟨_, _, ⟨T118, L118, k118, n118⟩, -, X118, ⟨Lc118, hQ118, l118, y118, z118⟩, st118⟩ := Jvm.LawKit.callS X116 hx (y := (⟨"com/example/sidewager/sidewager/analysis/ShoeHoldsPinLaw", "cnt", "(IIIII)I"⟩ : MethodName)) hown (mvT hZ (hwi hw 103 rfl)) (mvT hZ (hwi hw 104 rfl)) (mvT hZ (hwi hw 88 rfl)) (mvT hZ (hwi hw 105 rfl)) (by decide) (backOf (W := 0) (rmCnt l Z aV hw [] k2 (3 : Int32) k1 k2 k3 h114 n0 Zn ) hZ (hwi hw 105 rfl) (hwi hw 88 rfl) (by decide) (by decide)) (g := (mkF m 307 #[.val (.int p0), .val (.int p1), .val (.int p2), .val (.int p3), .val (.int (1 : Int32)), .val (.int dd), .val (.int (3 : Int32)), .val (.int qq), .val (.int (40 : Int32)), .val (.int k1), .val (.int k2), .val (.int k3), .val (.ref b74), .val (.int dn), .val (.ref b111), .val (.int x15), .unset, .unset, .unset, .unset] [(.int k3), (.int k2), (.int k1), (.int (3 : Int32)), (.int k2)])) rfl (by rw [hml]; rfl) (argsL := [(.int k2), (.int (3 : Int32)), (.int k1), (.int k2), (.int k3)]) (rest := []) (lenOf pd_9 rfl) rfl (by show 2 * 0 + _ ≤ _; exact Nat.le_of_eq rfl) (hb hby at_307) (fun _ _ => ⟨rfl, e116, (by decide : 8 + 0 ≤ _), (by decide : 132 + 0 ≤ _)⟩)
          dsimp only [Pt.U, Pt.locs, Pt.cells, Pt.slots] at X118 l118 y118 z118 st118 hQ118
          replace l118 := l118.symm; replace y118 := y118.symm; replace z118 := z118.symm; subst l118 y118 z118
          obtain ⟨rfl, N118q, e118⟩ := hQ118
          have N118 := Fr.app N116 N118q
          refine Run.st (S' := T118.setTop (mkF m 320 #[.val (.int p0), .val (.int p1), .val (.int p2), .val (.int p3), .val (.int (1 : Int32)), .val (.int dd), .val (.int (3 : Int32)), .val (.int qq), .val (.int (40 : Int32)), .val (.int k1), .val (.int k2), .val (.int k3), .val (.ref b74), .val (.int dn), .val (.ref b111), .val (.int x15), .unset, .unset, .unset, .unset] [(.int k2), (.int dn), (.int k1), (.int dd), (.int (1 : Int32)), (.int (FCnt k2 (3 : Int32) k1 k2 k3))])) (fun _ k => st118 _ (XS.iload X118.here hx rfl (hb hby at_310) rfl (XS.iload X118.here hx rfl (hb hby at_312) rfl (XS.iload X118.here hx rfl (hb hby at_314) rfl (XS.iload X118.here hx rfl (hb hby at_316) rfl (XS.iload X118.here hx rfl (hb hby at_318) rfl k)))))) ?_
          obtain ⟨_, _, ⟨T119, L119, k119, n119⟩, -, X119, ⟨Lc119, hQ119, l119, y119, z119⟩, st119⟩ := Jvm.LawKit.callS X118 hx (y := (⟨"com/example/sidewager/sidewager/analysis/ShoeHoldsPinLaw", "left", "(ZIIII)I"⟩ : MethodName)) hown (mvT hZ (hwi hw 106 rfl)) (mvT hZ (hwi hw 107 rfl)) (mvT hZ (hwi hw 88 rfl)) (mvT hZ (hwi hw 108 rfl)) (by decide) (backOf (W := 1) (rmLeft l Z aV hw [] (1 : Int32) dd k1 dn k2 h114 n0 Zn ) hZ (hwi hw 108 rfl) (hwi hw 88 rfl) (by decide) (by decide)) (g := (mkF m 320 #[.val (.int p0), .val (.int p1), .val (.int p2), .val (.int p3), .val (.int (1 : Int32)), .val (.int dd), .val (.int (3 : Int32)), .val (.int qq), .val (.int (40 : Int32)), .val (.int k1), .val (.int k2), .val (.int k3), .val (.ref b74), .val (.int dn), .val (.ref b111), .val (.int x15), .unset, .unset, .unset, .unset] [(.int k2), (.int dn), (.int k1), (.int dd), (.int (1 : Int32)), (.int (FCnt k2 (3 : Int32) k1 k2 k3))])) rfl (by rw [hml]; rfl) (argsL := [(.int (1 : Int32)), (.int dd), (.int k1), (.int dn), (.int k2)]) (rest := [(.int (FCnt k2 (3 : Int32) k1 k2 k3))]) (lenOf pd_10 rfl) rfl (by show 2 * 0 + _ ≤ _; exact Nat.le_of_eq rfl) (hb hby at_320) (fun _ _ => ⟨rfl, e118, (by decide : 8 + 0 ≤ _), (by decide : 132 + 0 ≤ _)⟩)
          dsimp only [Pt.U, Pt.locs, Pt.cells, Pt.slots] at X119 l119 y119 z119 st119 hQ119
          replace l119 := l119.symm; replace y119 := y119.symm; replace z119 := z119.symm; subst l119 y119 z119
          obtain ⟨rfl, N119q, e119⟩ := hQ119
          have N119 := Fr.app N118 N119q
          refine Run.st (S' := T119.setTop (mkF m 323 #[.val (.int p0), .val (.int p1), .val (.int p2), .val (.int p3), .val (.int (1 : Int32)), .val (.int dd), .val (.int (3 : Int32)), .val (.int qq), .val (.int (40 : Int32)), .val (.int k1), .val (.int k2), .val (.int k3), .val (.ref b74), .val (.int dn), .val (.ref b111), .val (.int x15), .unset, .unset, .unset, .unset] [(.int (FLeft (1 : Int32) dd k1 dn k2)), (.int (FCnt k2 (3 : Int32) k1 k2 k3))])) (fun _ k => st119 _ k) ?_
          have J333_120 : ∀ (x16 : Int32), x16 = (if (FLeft (1 : Int32) dd k1 dn k2) < (FCnt k2 (3 : Int32) k1 k2 k3) then (0 : Int32) else (1 : Int32)) → Run p e below (Ends s (Q0 Z p0 p1 p2 p3 u s_MAT s_VALS kV vsR s_ONE h0 n0) room_1.cells room_1.slots) (T119.setTop (mkF m 333 #[.val (.int p0), .val (.int p1), .val (.int p2), .val (.int p3), .val (.int (1 : Int32)), .val (.int dd), .val (.int (3 : Int32)), .val (.int qq), .val (.int (40 : Int32)), .val (.int k1), .val (.int k2), .val (.int k3), .val (.ref b74), .val (.int dn), .val (.ref b111), .val (.int x15), .val (.int x16), .unset, .unset, .unset] [])) := by
            intro x16 h_x16
            refine Run.st (S' := T119.setTop (mkF m 349 #[.val (.int p0), .val (.int p1), .val (.int p2), .val (.int p3), .val (.int (1 : Int32)), .val (.int dd), .val (.int (3 : Int32)), .val (.int qq), .val (.int (40 : Int32)), .val (.int k1), .val (.int k2), .val (.int k3), .val (.ref b74), .val (.int dn), .val (.ref b111), .val (.int x15), .val (.int x16), .unset, .unset, .unset] [(.int k3), (.int k2), (.int k1), (.int (3 : Int32)), (.int k3)])) (fun _ k => XS.iload X119.here hx rfl (hb hby at_333) rfl (XS.iconst X119.here hx rfl (hb hby at_335) (XS.icmpNo X119.here hx rfl (hb hby at_336) rfl (flt (show ¬ ((3 : Int32) < (3 : Int32)) from (by decide))).1 (XS.iload X119.here hx rfl (hb hby at_339) rfl (XS.iload X119.here hx rfl (hb hby at_341) rfl (XS.iload X119.here hx rfl (hb hby at_343) rfl (XS.iload X119.here hx rfl (hb hby at_345) rfl (XS.iload X119.here hx rfl (hb hby at_347) rfl k)))))))) ?_
            obtain ⟨_, _, ⟨T121, L121, k121, n121⟩, -, X121, ⟨Lc121, hQ121, l121, y121, z121⟩, st121⟩ := Jvm.LawKit.callS X119 hx (y := (⟨"com/example/sidewager/sidewager/analysis/ShoeHoldsPinLaw", "cnt", "(IIIII)I"⟩ : MethodName)) hown (mvT hZ (hwi hw 103 rfl)) (mvT hZ (hwi hw 104 rfl)) (mvT hZ (hwi hw 88 rfl)) (mvT hZ (hwi hw 105 rfl)) (by decide) (backOf (W := 0) (rmCnt l Z aV hw [] k3 (3 : Int32) k1 k2 k3 h114 n0 Zn ) hZ (hwi hw 105 rfl) (hwi hw 88 rfl) (by decide) (by decide)) (g := (mkF m 349 #[.val (.int p0), .val (.int p1), .val (.int p2), .val (.int p3), .val (.int (1 : Int32)), .val (.int dd), .val (.int (3 : Int32)), .val (.int qq), .val (.int (40 : Int32)), .val (.int k1), .val (.int k2), .val (.int k3), .val (.ref b74), .val (.int dn), .val (.ref b111), .val (.int x15), .val (.int x16), .unset, .unset, .unset] [(.int k3), (.int k2), (.int k1), (.int (3 : Int32)), (.int k3)])) rfl (by rw [hml]; rfl) (argsL := [(.int k3), (.int (3 : Int32)), (.int k1), (.int k2), (.int k3)]) (rest := []) (lenOf pd_9 rfl) rfl (by show 2 * 0 + _ ≤ _; exact Nat.le_of_eq rfl) (hb hby at_349) (fun _ _ => ⟨rfl, e119, (by decide : 8 + 0 ≤ _), (by decide : 132 + 0 ≤ _)⟩)
            dsimp only [Pt.U, Pt.locs, Pt.cells, Pt.slots] at X121 l121 y121 z121 st121 hQ121
            replace l121 := l121.symm; replace y121 := y121.symm; replace z121 := z121.symm; subst l121 y121 z121
            obtain ⟨rfl, N121q, e121⟩ := hQ121
            have N121 := Fr.app N119 N121q
            refine Run.st (S' := T121.setTop (mkF m 362 #[.val (.int p0), .val (.int p1), .val (.int p2), .val (.int p3), .val (.int (1 : Int32)), .val (.int dd), .val (.int (3 : Int32)), .val (.int qq), .val (.int (40 : Int32)), .val (.int k1), .val (.int k2), .val (.int k3), .val (.ref b74), .val (.int dn), .val (.ref b111), .val (.int x15), .val (.int x16), .unset, .unset, .unset] [(.int k3), (.int dn), (.int k1), (.int dd), (.int (1 : Int32)), (.int (FCnt k3 (3 : Int32) k1 k2 k3))])) (fun _ k => st121 _ (XS.iload X121.here hx rfl (hb hby at_352) rfl (XS.iload X121.here hx rfl (hb hby at_354) rfl (XS.iload X121.here hx rfl (hb hby at_356) rfl (XS.iload X121.here hx rfl (hb hby at_358) rfl (XS.iload X121.here hx rfl (hb hby at_360) rfl k)))))) ?_
            obtain ⟨_, _, ⟨T122, L122, k122, n122⟩, -, X122, ⟨Lc122, hQ122, l122, y122, z122⟩, st122⟩ := Jvm.LawKit.callS X121 hx (y := (⟨"com/example/sidewager/sidewager/analysis/ShoeHoldsPinLaw", "left", "(ZIIII)I"⟩ : MethodName)) hown (mvT hZ (hwi hw 106 rfl)) (mvT hZ (hwi hw 107 rfl)) (mvT hZ (hwi hw 88 rfl)) (mvT hZ (hwi hw 108 rfl)) (by decide) (backOf (W := 1) (rmLeft l Z aV hw [] (1 : Int32) dd k1 dn k3 h114 n0 Zn ) hZ (hwi hw 108 rfl) (hwi hw 88 rfl) (by decide) (by decide)) (g := (mkF m 362 #[.val (.int p0), .val (.int p1), .val (.int p2), .val (.int p3), .val (.int (1 : Int32)), .val (.int dd), .val (.int (3 : Int32)), .val (.int qq), .val (.int (40 : Int32)), .val (.int k1), .val (.int k2), .val (.int k3), .val (.ref b74), .val (.int dn), .val (.ref b111), .val (.int x15), .val (.int x16), .unset, .unset, .unset] [(.int k3), (.int dn), (.int k1), (.int dd), (.int (1 : Int32)), (.int (FCnt k3 (3 : Int32) k1 k2 k3))])) rfl (by rw [hml]; rfl) (argsL := [(.int (1 : Int32)), (.int dd), (.int k1), (.int dn), (.int k3)]) (rest := [(.int (FCnt k3 (3 : Int32) k1 k2 k3))]) (lenOf pd_10 rfl) rfl (by show 2 * 0 + _ ≤ _; exact Nat.le_of_eq rfl) (hb hby at_362) (fun _ _ => ⟨rfl, e121, (by decide : 8 + 0 ≤ _), (by decide : 132 + 0 ≤ _)⟩)
            dsimp only [Pt.U, Pt.locs, Pt.cells, Pt.slots] at X122 l122 y122 z122 st122 hQ122
            replace l122 := l122.symm; replace y122 := y122.symm; replace z122 := z122.symm; subst l122 y122 z122
            obtain ⟨rfl, N122q, e122⟩ := hQ122
            have N122 := Fr.app N121 N122q
            refine Run.st (S' := T122.setTop (mkF m 365 #[.val (.int p0), .val (.int p1), .val (.int p2), .val (.int p3), .val (.int (1 : Int32)), .val (.int dd), .val (.int (3 : Int32)), .val (.int qq), .val (.int (40 : Int32)), .val (.int k1), .val (.int k2), .val (.int k3), .val (.ref b74), .val (.int dn), .val (.ref b111), .val (.int x15), .val (.int x16), .unset, .unset, .unset] [(.int (FLeft (1 : Int32) dd k1 dn k3)), (.int (FCnt k3 (3 : Int32) k1 k2 k3))])) (fun _ k => st122 _ k) ?_
            have J375_123 : ∀ (x17 : Int32), x17 = (if (FLeft (1 : Int32) dd k1 dn k3) < (FCnt k3 (3 : Int32) k1 k2 k3) then (0 : Int32) else (1 : Int32)) → Run p e below (Ends s (Q0 Z p0 p1 p2 p3 u s_MAT s_VALS kV vsR s_ONE h0 n0) room_1.cells room_1.slots) (T122.setTop (mkF m 375 #[.val (.int p0), .val (.int p1), .val (.int p2), .val (.int p3), .val (.int (1 : Int32)), .val (.int dd), .val (.int (3 : Int32)), .val (.int qq), .val (.int (40 : Int32)), .val (.int k1), .val (.int k2), .val (.int k3), .val (.ref b74), .val (.int dn), .val (.ref b111), .val (.int x15), .val (.int x16), .val (.int x17), .unset, .unset] [])) := by
              intro x17 h_x17
              refine Run.st (S' := T122.setTop (mkF m 377 #[.val (.int p0), .val (.int p1), .val (.int p2), .val (.int p3), .val (.int (1 : Int32)), .val (.int dd), .val (.int (3 : Int32)), .val (.int qq), .val (.int (40 : Int32)), .val (.int k1), .val (.int k2), .val (.int k3), .val (.ref b74), .val (.int dn), .val (.ref b111), .val (.int x15), .val (.int x16), .val (.int x17), .unset, .unset] [(.int x15)])) (fun _ k => XS.iload X122.here hx rfl (hb hby at_375) rfl k) ?_
              by_cases hc377_124 : x15 = (0 : Int32)
              · refine Run.st (S' := T122.setTop (mkF m 401 #[.val (.int p0), .val (.int p1), .val (.int p2), .val (.int p3), .val (.int (1 : Int32)), .val (.int dd), .val (.int (3 : Int32)), .val (.int qq), .val (.int (40 : Int32)), .val (.int k1), .val (.int k2), .val (.int k3), .val (.ref b74), .val (.int dn), .val (.ref b111), .val (.int x15), .val (.int x16), .val (.int x17), .val (.int (0 : Int32)), .unset] [(.ref b111), (.ref b74)])) (fun _ k => XS.ifYes X122.here hx rfl (pc0 := 377) (pc' := 394) rfl (hb hby at_377) rfl ((if0 _ _).trans (teq hc377_124).1) (by decide) (by decide) (XS.iconst X122.here hx rfl (hb hby at_394) (XS.istore X122.here hx rfl (hb hby at_395) rfl (l' := #[.val (.int p0), .val (.int p1), .val (.int p2), .val (.int p3), .val (.int (1 : Int32)), .val (.int dd), .val (.int (3 : Int32)), .val (.int qq), .val (.int (40 : Int32)), .val (.int k1), .val (.int k2), .val (.int k3), .val (.ref b74), .val (.int dn), .val (.ref b111), .val (.int x15), .val (.int x16), .val (.int x17), .val (.int (0 : Int32)), .unset]) rfl (XS.aload X122.here hx rfl (hb hby at_397) rfl rfl (XS.aload X122.here hx rfl (hb hby at_399) rfl rfl k))))) ?_
                obtain ⟨cq125, kq125, q125a, q125b, q125c⟩ := isOf hZ e122 E_b74
                obtain ⟨_, _, ⟨T125, L125, k125, n125⟩, -, X125, ⟨Lc125, hQ125, l125, y125, z125⟩, st125⟩ := X122.virtualBack hx (y := (⟨"com/example/sidewager/sidewager/analysis/Shoe", "holds", "([I)Z"⟩ : MethodName)) (z := (⟨"com/example/sidewager/sidewager/analysis/Shoe", "holds", "([I)Z"⟩ : MethodName)) hown (mvT hZ (hwi hw 91 rfl)) (mvT hZ (hwi hw 92 rfl)) (notFace_of_selects (args := #[]) (mvT hZ (hwi hw 94 rfl))) (mvT hZ (hwi hw 94 rfl)) (mvT hZ (hwi hw 93 rfl)) (by decide) (backOf (W := 0) (rmHoM l Z aV hw [] b74 b111 b76_2 kb76_2 lf k111 ([k1, k2, k3]) (3 : Int32) h114 n0 Zn (by decide) (by decide) (own_hks3 hk1 hk2 hk3) F_left_b74 V_b76_2 V_b111) hZ (hwi hw 95 rfl) (hwi hw 3 rfl) (by decide) (by decide)) q125a q125c (g := (mkF m 401 #[.val (.int p0), .val (.int p1), .val (.int p2), .val (.int p3), .val (.int (1 : Int32)), .val (.int dd), .val (.int (3 : Int32)), .val (.int qq), .val (.int (40 : Int32)), .val (.int k1), .val (.int k2), .val (.int k3), .val (.ref b74), .val (.int dn), .val (.ref b111), .val (.int x15), .val (.int x16), .val (.int x17), .val (.int (0 : Int32)), .unset] [(.ref b111), (.ref b74)])) rfl (by rw [hml]; rfl) (Steps.refl _) (argsL := [(.ref b111)]) (rest := []) (lenOf pd_8 rfl) rfl (by show 2 * 0 + _ ≤ _; exact Nat.le_of_eq rfl) (hb hby at_401) (fun _ _ => ⟨rfl, e122, (by decide : 8 + 1 ≤ _), (by decide : 132 + 40 ≤ _)⟩)
                dsimp only [Pt.U, Pt.locs, Pt.cells, Pt.slots] at X125 l125 y125 z125 st125 hQ125
                replace l125 := l125.symm; replace y125 := y125.symm; replace z125 := z125.symm; subst l125 y125 z125
                obtain ⟨rfl, N125q, K125⟩ := hQ125
                have OL := OL.keep K125 all0
                have E_b74 := E_b74.keep K125
                have F_left_b74 := F_left_b74.keep K125 nin0
                have F_dealt_b74 := F_dealt_b74.keep K125 nin0
                have V_b76_2 := V_b76_2.keep K125 nin0
                have V_b111 := V_b111.keep K125 nin0
                have Kp := Kp.trans K125 all0
                have Zn := Nat.le_trans Zn K125.1
                have N125 := Fr.app N122 N125q
                refine Run.st (S' := T125.setTop (mkF m 415 #[.val (.int p0), .val (.int p1), .val (.int p2), .val (.int p3), .val (.int (1 : Int32)), .val (.int dd), .val (.int (3 : Int32)), .val (.int qq), .val (.int (40 : Int32)), .val (.int k1), .val (.int k2), .val (.int k3), .val (.ref b74), .val (.int dn), .val (.ref b111), .val (.int x15), .val (.int x16), .val (.int x17), .val (.int (0 : Int32)), .val (.int (own_H [k1, k2, k3] (3 : Int32) 40 lf))] [(.ref b74)])) (fun _ k => st125.trans (XS.istore X125.here hx rfl (hb hby at_404) rfl (l' := #[.val (.int p0), .val (.int p1), .val (.int p2), .val (.int p3), .val (.int (1 : Int32)), .val (.int dd), .val (.int (3 : Int32)), .val (.int qq), .val (.int (40 : Int32)), .val (.int k1), .val (.int k2), .val (.int k3), .val (.ref b74), .val (.int dn), .val (.ref b111), .val (.int x15), .val (.int x16), .val (.int x17), .val (.int (0 : Int32)), .val (.int (own_H [k1, k2, k3] (3 : Int32) 40 lf))]) rfl (XS.iload X125.here hx rfl (hb hby at_406) rfl (XS.iload X125.here hx rfl (hb hby at_408) rfl (XS.icmpNo X125.here hx rfl (hb hby at_410) rfl (teq (show (own_H [k1, k2, k3] (3 : Int32) 40 lf) = (0 : Int32) from (own_E3 (k2 := k2) (k3 := k3) (N := 40) (by decide) hk1 hk2 hk3 hyJ).trans (if_pos (Or.inl (own_x0 h_x15 hc377_124))))).2 (XS.aload X125.here hx rfl (hb hby at_413) rfl rfl k)))))) ?_
                obtain ⟨cq126, kq126, q126a, q126b, q126c⟩ := isOf hZ rfl E_b74
                obtain ⟨_, _, ⟨T126, L126, k126, n126⟩, -, X126, ⟨Lc126, hQ126, l126, y126, z126⟩, st126⟩ := X125.virtualBack hx (y := (⟨"com/example/sidewager/sidewager/analysis/Shoe", "dealt", "()I"⟩ : MethodName)) (z := (⟨"com/example/sidewager/sidewager/analysis/Shoe", "dealt", "()I"⟩ : MethodName)) hown (mvT hZ (hwi hw 96 rfl)) (mvT hZ (hwi hw 97 rfl)) (notFace_of_selects (args := #[]) (mvT hZ (hwi hw 99 rfl))) (mvT hZ (hwi hw 99 rfl)) (mvT hZ (hwi hw 98 rfl)) (by decide) (backOf (W := 0) (rmDt l Z aV hw [] b74 dn T125.heap n0 Zn F_dealt_b74) hZ (hwi hw 100 rfl) (hwi hw 3 rfl) (by decide) (by decide)) q126a q126c (g := (mkF m 415 #[.val (.int p0), .val (.int p1), .val (.int p2), .val (.int p3), .val (.int (1 : Int32)), .val (.int dd), .val (.int (3 : Int32)), .val (.int qq), .val (.int (40 : Int32)), .val (.int k1), .val (.int k2), .val (.int k3), .val (.ref b74), .val (.int dn), .val (.ref b111), .val (.int x15), .val (.int x16), .val (.int x17), .val (.int (0 : Int32)), .val (.int (own_H [k1, k2, k3] (3 : Int32) 40 lf))] [(.ref b74)])) rfl (by rw [hml]; rfl) (Steps.refl _) (argsL := []) (rest := []) (lenOf pd_1 rfl) rfl (by show 2 * 0 + _ ≤ _; exact Nat.le_of_eq rfl) (hb hby at_415) (fun _ _ => ⟨rfl, rfl, (by decide : 9 + 0 ≤ _), (by decide : 172 + 0 ≤ _)⟩)
                dsimp only [Pt.U, Pt.locs, Pt.cells, Pt.slots] at X126 l126 y126 z126 st126 hQ126
                replace l126 := l126.symm; replace y126 := y126.symm; replace z126 := z126.symm; subst l126 y126 z126
                obtain ⟨rfl, N126q, e126⟩ := hQ126
                have N126 := Fr.app N125 N126q
                refine Run.st (S' := T126.setTop (mkF m 428 #[.val (.int p0), .val (.int p1), .val (.int p2), .val (.int p3), .val (.int (1 : Int32)), .val (.int dd), .val (.int (3 : Int32)), .val (.int qq), .val (.int (40 : Int32)), .val (.int k1), .val (.int k2), .val (.int k3), .val (.ref b74), .val (.int dn), .val (.ref b111), .val (.int x15), .val (.int x16), .val (.int x17), .val (.int (0 : Int32)), .val (.int (own_H [k1, k2, k3] (3 : Int32) 40 lf))] [(.int (1 : Int32))])) (fun _ k => st126.trans (XS.iload X126.here hx rfl (hb hby at_418) rfl (XS.icmpNo X126.here hx rfl (hb hby at_420) rfl (teq (show dn = dn from rfl)).2 (XS.iconst X126.here hx rfl (hb hby at_423) (XS.goto X126.here hx rfl (pc0 := 424) (pc' := 428) rfl (hb hby at_424) (by decide) (by decide) k))))) ?_
                refine Run.out X126 hx Bd.notSynchronized Bd.returns rfl (Or.inl ⟨rfl, by simp, _, rfl⟩) (hb hby at_428) (by decide) (by decide) ?_
                rw [e126]
                exact ⟨rfl, N126⟩
              · refine Run.st (S' := T122.setTop (mkF m 382 #[.val (.int p0), .val (.int p1), .val (.int p2), .val (.int p3), .val (.int (1 : Int32)), .val (.int dd), .val (.int (3 : Int32)), .val (.int qq), .val (.int (40 : Int32)), .val (.int k1), .val (.int k2), .val (.int k3), .val (.ref b74), .val (.int dn), .val (.ref b111), .val (.int x15), .val (.int x16), .val (.int x17), .unset, .unset] [(.int x16)])) (fun _ k => XS.ifNo X122.here hx rfl (hb hby at_377) rfl ((if0 _ _).trans (feq hc377_124).1) (XS.iload X122.here hx rfl (hb hby at_380) rfl k)) ?_
                by_cases hc382_127 : x16 = (0 : Int32)
                · refine Run.st (S' := T122.setTop (mkF m 401 #[.val (.int p0), .val (.int p1), .val (.int p2), .val (.int p3), .val (.int (1 : Int32)), .val (.int dd), .val (.int (3 : Int32)), .val (.int qq), .val (.int (40 : Int32)), .val (.int k1), .val (.int k2), .val (.int k3), .val (.ref b74), .val (.int dn), .val (.ref b111), .val (.int x15), .val (.int x16), .val (.int x17), .val (.int (0 : Int32)), .unset] [(.ref b111), (.ref b74)])) (fun _ k => XS.ifYes X122.here hx rfl (pc0 := 382) (pc' := 394) rfl (hb hby at_382) rfl ((if0 _ _).trans (teq hc382_127).1) (by decide) (by decide) (XS.iconst X122.here hx rfl (hb hby at_394) (XS.istore X122.here hx rfl (hb hby at_395) rfl (l' := #[.val (.int p0), .val (.int p1), .val (.int p2), .val (.int p3), .val (.int (1 : Int32)), .val (.int dd), .val (.int (3 : Int32)), .val (.int qq), .val (.int (40 : Int32)), .val (.int k1), .val (.int k2), .val (.int k3), .val (.ref b74), .val (.int dn), .val (.ref b111), .val (.int x15), .val (.int x16), .val (.int x17), .val (.int (0 : Int32)), .unset]) rfl (XS.aload X122.here hx rfl (hb hby at_397) rfl rfl (XS.aload X122.here hx rfl (hb hby at_399) rfl rfl k))))) ?_
                  obtain ⟨cq128, kq128, q128a, q128b, q128c⟩ := isOf hZ e122 E_b74
                  obtain ⟨_, _, ⟨T128, L128, k128, n128⟩, -, X128, ⟨Lc128, hQ128, l128, y128, z128⟩, st128⟩ := X122.virtualBack hx (y := (⟨"com/example/sidewager/sidewager/analysis/Shoe", "holds", "([I)Z"⟩ : MethodName)) (z := (⟨"com/example/sidewager/sidewager/analysis/Shoe", "holds", "([I)Z"⟩ : MethodName)) hown (mvT hZ (hwi hw 91 rfl)) (mvT hZ (hwi hw 92 rfl)) (notFace_of_selects (args := #[]) (mvT hZ (hwi hw 94 rfl))) (mvT hZ (hwi hw 94 rfl)) (mvT hZ (hwi hw 93 rfl)) (by decide) (backOf (W := 0) (rmHoM l Z aV hw [] b74 b111 b76_2 kb76_2 lf k111 ([k1, k2, k3]) (3 : Int32) h114 n0 Zn (by decide) (by decide) (own_hks3 hk1 hk2 hk3) F_left_b74 V_b76_2 V_b111) hZ (hwi hw 95 rfl) (hwi hw 3 rfl) (by decide) (by decide)) q128a q128c (g := (mkF m 401 #[.val (.int p0), .val (.int p1), .val (.int p2), .val (.int p3), .val (.int (1 : Int32)), .val (.int dd), .val (.int (3 : Int32)), .val (.int qq), .val (.int (40 : Int32)), .val (.int k1), .val (.int k2), .val (.int k3), .val (.ref b74), .val (.int dn), .val (.ref b111), .val (.int x15), .val (.int x16), .val (.int x17), .val (.int (0 : Int32)), .unset] [(.ref b111), (.ref b74)])) rfl (by rw [hml]; rfl) (Steps.refl _) (argsL := [(.ref b111)]) (rest := []) (lenOf pd_8 rfl) rfl (by show 2 * 0 + _ ≤ _; exact Nat.le_of_eq rfl) (hb hby at_401) (fun _ _ => ⟨rfl, e122, (by decide : 8 + 1 ≤ _), (by decide : 132 + 40 ≤ _)⟩)
                  dsimp only [Pt.U, Pt.locs, Pt.cells, Pt.slots] at X128 l128 y128 z128 st128 hQ128
                  replace l128 := l128.symm; replace y128 := y128.symm; replace z128 := z128.symm; subst l128 y128 z128
                  obtain ⟨rfl, N128q, K128⟩ := hQ128
                  have OL := OL.keep K128 all0
                  have E_b74 := E_b74.keep K128
                  have F_left_b74 := F_left_b74.keep K128 nin0
                  have F_dealt_b74 := F_dealt_b74.keep K128 nin0
                  have V_b76_2 := V_b76_2.keep K128 nin0
                  have V_b111 := V_b111.keep K128 nin0
                  have Kp := Kp.trans K128 all0
                  have Zn := Nat.le_trans Zn K128.1
                  have N128 := Fr.app N122 N128q
                  refine Run.st (S' := T128.setTop (mkF m 415 #[.val (.int p0), .val (.int p1), .val (.int p2), .val (.int p3), .val (.int (1 : Int32)), .val (.int dd), .val (.int (3 : Int32)), .val (.int qq), .val (.int (40 : Int32)), .val (.int k1), .val (.int k2), .val (.int k3), .val (.ref b74), .val (.int dn), .val (.ref b111), .val (.int x15), .val (.int x16), .val (.int x17), .val (.int (0 : Int32)), .val (.int (own_H [k1, k2, k3] (3 : Int32) 40 lf))] [(.ref b74)])) (fun _ k => st128.trans (XS.istore X128.here hx rfl (hb hby at_404) rfl (l' := #[.val (.int p0), .val (.int p1), .val (.int p2), .val (.int p3), .val (.int (1 : Int32)), .val (.int dd), .val (.int (3 : Int32)), .val (.int qq), .val (.int (40 : Int32)), .val (.int k1), .val (.int k2), .val (.int k3), .val (.ref b74), .val (.int dn), .val (.ref b111), .val (.int x15), .val (.int x16), .val (.int x17), .val (.int (0 : Int32)), .val (.int (own_H [k1, k2, k3] (3 : Int32) 40 lf))]) rfl (XS.iload X128.here hx rfl (hb hby at_406) rfl (XS.iload X128.here hx rfl (hb hby at_408) rfl (XS.icmpNo X128.here hx rfl (hb hby at_410) rfl (teq (show (own_H [k1, k2, k3] (3 : Int32) 40 lf) = (0 : Int32) from (own_E3 (k2 := k2) (k3 := k3) (N := 40) (by decide) hk1 hk2 hk3 hyJ).trans (if_pos (Or.inr (Or.inl (own_x0 h_x16 hc382_127)))))).2 (XS.aload X128.here hx rfl (hb hby at_413) rfl rfl k)))))) ?_
                  obtain ⟨cq129, kq129, q129a, q129b, q129c⟩ := isOf hZ rfl E_b74
                  obtain ⟨_, _, ⟨T129, L129, k129, n129⟩, -, X129, ⟨Lc129, hQ129, l129, y129, z129⟩, st129⟩ := X128.virtualBack hx (y := (⟨"com/example/sidewager/sidewager/analysis/Shoe", "dealt", "()I"⟩ : MethodName)) (z := (⟨"com/example/sidewager/sidewager/analysis/Shoe", "dealt", "()I"⟩ : MethodName)) hown (mvT hZ (hwi hw 96 rfl)) (mvT hZ (hwi hw 97 rfl)) (notFace_of_selects (args := #[]) (mvT hZ (hwi hw 99 rfl))) (mvT hZ (hwi hw 99 rfl)) (mvT hZ (hwi hw 98 rfl)) (by decide) (backOf (W := 0) (rmDt l Z aV hw [] b74 dn T128.heap n0 Zn F_dealt_b74) hZ (hwi hw 100 rfl) (hwi hw 3 rfl) (by decide) (by decide)) q129a q129c (g := (mkF m 415 #[.val (.int p0), .val (.int p1), .val (.int p2), .val (.int p3), .val (.int (1 : Int32)), .val (.int dd), .val (.int (3 : Int32)), .val (.int qq), .val (.int (40 : Int32)), .val (.int k1), .val (.int k2), .val (.int k3), .val (.ref b74), .val (.int dn), .val (.ref b111), .val (.int x15), .val (.int x16), .val (.int x17), .val (.int (0 : Int32)), .val (.int (own_H [k1, k2, k3] (3 : Int32) 40 lf))] [(.ref b74)])) rfl (by rw [hml]; rfl) (Steps.refl _) (argsL := []) (rest := []) (lenOf pd_1 rfl) rfl (by show 2 * 0 + _ ≤ _; exact Nat.le_of_eq rfl) (hb hby at_415) (fun _ _ => ⟨rfl, rfl, (by decide : 9 + 0 ≤ _), (by decide : 172 + 0 ≤ _)⟩)
                  dsimp only [Pt.U, Pt.locs, Pt.cells, Pt.slots] at X129 l129 y129 z129 st129 hQ129
                  replace l129 := l129.symm; replace y129 := y129.symm; replace z129 := z129.symm; subst l129 y129 z129
                  obtain ⟨rfl, N129q, e129⟩ := hQ129
                  have N129 := Fr.app N128 N129q
                  refine Run.st (S' := T129.setTop (mkF m 428 #[.val (.int p0), .val (.int p1), .val (.int p2), .val (.int p3), .val (.int (1 : Int32)), .val (.int dd), .val (.int (3 : Int32)), .val (.int qq), .val (.int (40 : Int32)), .val (.int k1), .val (.int k2), .val (.int k3), .val (.ref b74), .val (.int dn), .val (.ref b111), .val (.int x15), .val (.int x16), .val (.int x17), .val (.int (0 : Int32)), .val (.int (own_H [k1, k2, k3] (3 : Int32) 40 lf))] [(.int (1 : Int32))])) (fun _ k => st129.trans (XS.iload X129.here hx rfl (hb hby at_418) rfl (XS.icmpNo X129.here hx rfl (hb hby at_420) rfl (teq (show dn = dn from rfl)).2 (XS.iconst X129.here hx rfl (hb hby at_423) (XS.goto X129.here hx rfl (pc0 := 424) (pc' := 428) rfl (hb hby at_424) (by decide) (by decide) k))))) ?_
                  refine Run.out X129 hx Bd.notSynchronized Bd.returns rfl (Or.inl ⟨rfl, by simp, _, rfl⟩) (hb hby at_428) (by decide) (by decide) ?_
                  rw [e129]
                  exact ⟨rfl, N129⟩
                · refine Run.st (S' := T122.setTop (mkF m 387 #[.val (.int p0), .val (.int p1), .val (.int p2), .val (.int p3), .val (.int (1 : Int32)), .val (.int dd), .val (.int (3 : Int32)), .val (.int qq), .val (.int (40 : Int32)), .val (.int k1), .val (.int k2), .val (.int k3), .val (.ref b74), .val (.int dn), .val (.ref b111), .val (.int x15), .val (.int x16), .val (.int x17), .unset, .unset] [(.int x17)])) (fun _ k => XS.ifNo X122.here hx rfl (hb hby at_382) rfl ((if0 _ _).trans (feq hc382_127).1) (XS.iload X122.here hx rfl (hb hby at_385) rfl k)) ?_
                  by_cases hc387_130 : x17 = (0 : Int32)
                  · refine Run.st (S' := T122.setTop (mkF m 401 #[.val (.int p0), .val (.int p1), .val (.int p2), .val (.int p3), .val (.int (1 : Int32)), .val (.int dd), .val (.int (3 : Int32)), .val (.int qq), .val (.int (40 : Int32)), .val (.int k1), .val (.int k2), .val (.int k3), .val (.ref b74), .val (.int dn), .val (.ref b111), .val (.int x15), .val (.int x16), .val (.int x17), .val (.int (0 : Int32)), .unset] [(.ref b111), (.ref b74)])) (fun _ k => XS.ifYes X122.here hx rfl (pc0 := 387) (pc' := 394) rfl (hb hby at_387) rfl ((if0 _ _).trans (teq hc387_130).1) (by decide) (by decide) (XS.iconst X122.here hx rfl (hb hby at_394) (XS.istore X122.here hx rfl (hb hby at_395) rfl (l' := #[.val (.int p0), .val (.int p1), .val (.int p2), .val (.int p3), .val (.int (1 : Int32)), .val (.int dd), .val (.int (3 : Int32)), .val (.int qq), .val (.int (40 : Int32)), .val (.int k1), .val (.int k2), .val (.int k3), .val (.ref b74), .val (.int dn), .val (.ref b111), .val (.int x15), .val (.int x16), .val (.int x17), .val (.int (0 : Int32)), .unset]) rfl (XS.aload X122.here hx rfl (hb hby at_397) rfl rfl (XS.aload X122.here hx rfl (hb hby at_399) rfl rfl k))))) ?_
                    obtain ⟨cq131, kq131, q131a, q131b, q131c⟩ := isOf hZ e122 E_b74
                    obtain ⟨_, _, ⟨T131, L131, k131, n131⟩, -, X131, ⟨Lc131, hQ131, l131, y131, z131⟩, st131⟩ := X122.virtualBack hx (y := (⟨"com/example/sidewager/sidewager/analysis/Shoe", "holds", "([I)Z"⟩ : MethodName)) (z := (⟨"com/example/sidewager/sidewager/analysis/Shoe", "holds", "([I)Z"⟩ : MethodName)) hown (mvT hZ (hwi hw 91 rfl)) (mvT hZ (hwi hw 92 rfl)) (notFace_of_selects (args := #[]) (mvT hZ (hwi hw 94 rfl))) (mvT hZ (hwi hw 94 rfl)) (mvT hZ (hwi hw 93 rfl)) (by decide) (backOf (W := 0) (rmHoM l Z aV hw [] b74 b111 b76_2 kb76_2 lf k111 ([k1, k2, k3]) (3 : Int32) h114 n0 Zn (by decide) (by decide) (own_hks3 hk1 hk2 hk3) F_left_b74 V_b76_2 V_b111) hZ (hwi hw 95 rfl) (hwi hw 3 rfl) (by decide) (by decide)) q131a q131c (g := (mkF m 401 #[.val (.int p0), .val (.int p1), .val (.int p2), .val (.int p3), .val (.int (1 : Int32)), .val (.int dd), .val (.int (3 : Int32)), .val (.int qq), .val (.int (40 : Int32)), .val (.int k1), .val (.int k2), .val (.int k3), .val (.ref b74), .val (.int dn), .val (.ref b111), .val (.int x15), .val (.int x16), .val (.int x17), .val (.int (0 : Int32)), .unset] [(.ref b111), (.ref b74)])) rfl (by rw [hml]; rfl) (Steps.refl _) (argsL := [(.ref b111)]) (rest := []) (lenOf pd_8 rfl) rfl (by show 2 * 0 + _ ≤ _; exact Nat.le_of_eq rfl) (hb hby at_401) (fun _ _ => ⟨rfl, e122, (by decide : 8 + 1 ≤ _), (by decide : 132 + 40 ≤ _)⟩)
                    dsimp only [Pt.U, Pt.locs, Pt.cells, Pt.slots] at X131 l131 y131 z131 st131 hQ131
                    replace l131 := l131.symm; replace y131 := y131.symm; replace z131 := z131.symm; subst l131 y131 z131
                    obtain ⟨rfl, N131q, K131⟩ := hQ131
                    have OL := OL.keep K131 all0
                    have E_b74 := E_b74.keep K131
                    have F_left_b74 := F_left_b74.keep K131 nin0
                    have F_dealt_b74 := F_dealt_b74.keep K131 nin0
                    have V_b76_2 := V_b76_2.keep K131 nin0
                    have V_b111 := V_b111.keep K131 nin0
                    have Kp := Kp.trans K131 all0
                    have Zn := Nat.le_trans Zn K131.1
                    have N131 := Fr.app N122 N131q
                    refine Run.st (S' := T131.setTop (mkF m 415 #[.val (.int p0), .val (.int p1), .val (.int p2), .val (.int p3), .val (.int (1 : Int32)), .val (.int dd), .val (.int (3 : Int32)), .val (.int qq), .val (.int (40 : Int32)), .val (.int k1), .val (.int k2), .val (.int k3), .val (.ref b74), .val (.int dn), .val (.ref b111), .val (.int x15), .val (.int x16), .val (.int x17), .val (.int (0 : Int32)), .val (.int (own_H [k1, k2, k3] (3 : Int32) 40 lf))] [(.ref b74)])) (fun _ k => st131.trans (XS.istore X131.here hx rfl (hb hby at_404) rfl (l' := #[.val (.int p0), .val (.int p1), .val (.int p2), .val (.int p3), .val (.int (1 : Int32)), .val (.int dd), .val (.int (3 : Int32)), .val (.int qq), .val (.int (40 : Int32)), .val (.int k1), .val (.int k2), .val (.int k3), .val (.ref b74), .val (.int dn), .val (.ref b111), .val (.int x15), .val (.int x16), .val (.int x17), .val (.int (0 : Int32)), .val (.int (own_H [k1, k2, k3] (3 : Int32) 40 lf))]) rfl (XS.iload X131.here hx rfl (hb hby at_406) rfl (XS.iload X131.here hx rfl (hb hby at_408) rfl (XS.icmpNo X131.here hx rfl (hb hby at_410) rfl (teq (show (own_H [k1, k2, k3] (3 : Int32) 40 lf) = (0 : Int32) from (own_E3 (k2 := k2) (k3 := k3) (N := 40) (by decide) hk1 hk2 hk3 hyJ).trans (if_pos (Or.inr (Or.inr (own_x0 h_x17 hc387_130)))))).2 (XS.aload X131.here hx rfl (hb hby at_413) rfl rfl k)))))) ?_
                    obtain ⟨cq132, kq132, q132a, q132b, q132c⟩ := isOf hZ rfl E_b74
                    obtain ⟨_, _, ⟨T132, L132, k132, n132⟩, -, X132, ⟨Lc132, hQ132, l132, y132, z132⟩, st132⟩ := X131.virtualBack hx (y := (⟨"com/example/sidewager/sidewager/analysis/Shoe", "dealt", "()I"⟩ : MethodName)) (z := (⟨"com/example/sidewager/sidewager/analysis/Shoe", "dealt", "()I"⟩ : MethodName)) hown (mvT hZ (hwi hw 96 rfl)) (mvT hZ (hwi hw 97 rfl)) (notFace_of_selects (args := #[]) (mvT hZ (hwi hw 99 rfl))) (mvT hZ (hwi hw 99 rfl)) (mvT hZ (hwi hw 98 rfl)) (by decide) (backOf (W := 0) (rmDt l Z aV hw [] b74 dn T131.heap n0 Zn F_dealt_b74) hZ (hwi hw 100 rfl) (hwi hw 3 rfl) (by decide) (by decide)) q132a q132c (g := (mkF m 415 #[.val (.int p0), .val (.int p1), .val (.int p2), .val (.int p3), .val (.int (1 : Int32)), .val (.int dd), .val (.int (3 : Int32)), .val (.int qq), .val (.int (40 : Int32)), .val (.int k1), .val (.int k2), .val (.int k3), .val (.ref b74), .val (.int dn), .val (.ref b111), .val (.int x15), .val (.int x16), .val (.int x17), .val (.int (0 : Int32)), .val (.int (own_H [k1, k2, k3] (3 : Int32) 40 lf))] [(.ref b74)])) rfl (by rw [hml]; rfl) (Steps.refl _) (argsL := []) (rest := []) (lenOf pd_1 rfl) rfl (by show 2 * 0 + _ ≤ _; exact Nat.le_of_eq rfl) (hb hby at_415) (fun _ _ => ⟨rfl, rfl, (by decide : 9 + 0 ≤ _), (by decide : 172 + 0 ≤ _)⟩)
                    dsimp only [Pt.U, Pt.locs, Pt.cells, Pt.slots] at X132 l132 y132 z132 st132 hQ132
                    replace l132 := l132.symm; replace y132 := y132.symm; replace z132 := z132.symm; subst l132 y132 z132
                    obtain ⟨rfl, N132q, e132⟩ := hQ132
                    have N132 := Fr.app N131 N132q
                    refine Run.st (S' := T132.setTop (mkF m 428 #[.val (.int p0), .val (.int p1), .val (.int p2), .val (.int p3), .val (.int (1 : Int32)), .val (.int dd), .val (.int (3 : Int32)), .val (.int qq), .val (.int (40 : Int32)), .val (.int k1), .val (.int k2), .val (.int k3), .val (.ref b74), .val (.int dn), .val (.ref b111), .val (.int x15), .val (.int x16), .val (.int x17), .val (.int (0 : Int32)), .val (.int (own_H [k1, k2, k3] (3 : Int32) 40 lf))] [(.int (1 : Int32))])) (fun _ k => st132.trans (XS.iload X132.here hx rfl (hb hby at_418) rfl (XS.icmpNo X132.here hx rfl (hb hby at_420) rfl (teq (show dn = dn from rfl)).2 (XS.iconst X132.here hx rfl (hb hby at_423) (XS.goto X132.here hx rfl (pc0 := 424) (pc' := 428) rfl (hb hby at_424) (by decide) (by decide) k))))) ?_
                    refine Run.out X132 hx Bd.notSynchronized Bd.returns rfl (Or.inl ⟨rfl, by simp, _, rfl⟩) (hb hby at_428) (by decide) (by decide) ?_
                    rw [e132]
                    exact ⟨rfl, N132⟩
                  · refine Run.st (S' := T122.setTop (mkF m 401 #[.val (.int p0), .val (.int p1), .val (.int p2), .val (.int p3), .val (.int (1 : Int32)), .val (.int dd), .val (.int (3 : Int32)), .val (.int qq), .val (.int (40 : Int32)), .val (.int k1), .val (.int k2), .val (.int k3), .val (.ref b74), .val (.int dn), .val (.ref b111), .val (.int x15), .val (.int x16), .val (.int x17), .val (.int (1 : Int32)), .unset] [(.ref b111), (.ref b74)])) (fun _ k => XS.ifNo X122.here hx rfl (hb hby at_387) rfl ((if0 _ _).trans (feq hc387_130).1) (XS.iconst X122.here hx rfl (hb hby at_390) (XS.goto X122.here hx rfl (pc0 := 391) (pc' := 395) rfl (hb hby at_391) (by decide) (by decide) (XS.istore X122.here hx rfl (hb hby at_395) rfl (l' := #[.val (.int p0), .val (.int p1), .val (.int p2), .val (.int p3), .val (.int (1 : Int32)), .val (.int dd), .val (.int (3 : Int32)), .val (.int qq), .val (.int (40 : Int32)), .val (.int k1), .val (.int k2), .val (.int k3), .val (.ref b74), .val (.int dn), .val (.ref b111), .val (.int x15), .val (.int x16), .val (.int x17), .val (.int (1 : Int32)), .unset]) rfl (XS.aload X122.here hx rfl (hb hby at_397) rfl rfl (XS.aload X122.here hx rfl (hb hby at_399) rfl rfl k)))))) ?_
                    obtain ⟨cq133, kq133, q133a, q133b, q133c⟩ := isOf hZ e122 E_b74
                    obtain ⟨_, _, ⟨T133, L133, k133, n133⟩, -, X133, ⟨Lc133, hQ133, l133, y133, z133⟩, st133⟩ := X122.virtualBack hx (y := (⟨"com/example/sidewager/sidewager/analysis/Shoe", "holds", "([I)Z"⟩ : MethodName)) (z := (⟨"com/example/sidewager/sidewager/analysis/Shoe", "holds", "([I)Z"⟩ : MethodName)) hown (mvT hZ (hwi hw 91 rfl)) (mvT hZ (hwi hw 92 rfl)) (notFace_of_selects (args := #[]) (mvT hZ (hwi hw 94 rfl))) (mvT hZ (hwi hw 94 rfl)) (mvT hZ (hwi hw 93 rfl)) (by decide) (backOf (W := 0) (rmHoM l Z aV hw [] b74 b111 b76_2 kb76_2 lf k111 ([k1, k2, k3]) (3 : Int32) h114 n0 Zn (by decide) (by decide) (own_hks3 hk1 hk2 hk3) F_left_b74 V_b76_2 V_b111) hZ (hwi hw 95 rfl) (hwi hw 3 rfl) (by decide) (by decide)) q133a q133c (g := (mkF m 401 #[.val (.int p0), .val (.int p1), .val (.int p2), .val (.int p3), .val (.int (1 : Int32)), .val (.int dd), .val (.int (3 : Int32)), .val (.int qq), .val (.int (40 : Int32)), .val (.int k1), .val (.int k2), .val (.int k3), .val (.ref b74), .val (.int dn), .val (.ref b111), .val (.int x15), .val (.int x16), .val (.int x17), .val (.int (1 : Int32)), .unset] [(.ref b111), (.ref b74)])) rfl (by rw [hml]; rfl) (Steps.refl _) (argsL := [(.ref b111)]) (rest := []) (lenOf pd_8 rfl) rfl (by show 2 * 0 + _ ≤ _; exact Nat.le_of_eq rfl) (hb hby at_401) (fun _ _ => ⟨rfl, e122, (by decide : 8 + 1 ≤ _), (by decide : 132 + 40 ≤ _)⟩)
                    dsimp only [Pt.U, Pt.locs, Pt.cells, Pt.slots] at X133 l133 y133 z133 st133 hQ133
                    replace l133 := l133.symm; replace y133 := y133.symm; replace z133 := z133.symm; subst l133 y133 z133
                    obtain ⟨rfl, N133q, K133⟩ := hQ133
                    have OL := OL.keep K133 all0
                    have E_b74 := E_b74.keep K133
                    have F_left_b74 := F_left_b74.keep K133 nin0
                    have F_dealt_b74 := F_dealt_b74.keep K133 nin0
                    have V_b76_2 := V_b76_2.keep K133 nin0
                    have V_b111 := V_b111.keep K133 nin0
                    have Kp := Kp.trans K133 all0
                    have Zn := Nat.le_trans Zn K133.1
                    have N133 := Fr.app N122 N133q
                    refine Run.st (S' := T133.setTop (mkF m 415 #[.val (.int p0), .val (.int p1), .val (.int p2), .val (.int p3), .val (.int (1 : Int32)), .val (.int dd), .val (.int (3 : Int32)), .val (.int qq), .val (.int (40 : Int32)), .val (.int k1), .val (.int k2), .val (.int k3), .val (.ref b74), .val (.int dn), .val (.ref b111), .val (.int x15), .val (.int x16), .val (.int x17), .val (.int (1 : Int32)), .val (.int (own_H [k1, k2, k3] (3 : Int32) 40 lf))] [(.ref b74)])) (fun _ k => st133.trans (XS.istore X133.here hx rfl (hb hby at_404) rfl (l' := #[.val (.int p0), .val (.int p1), .val (.int p2), .val (.int p3), .val (.int (1 : Int32)), .val (.int dd), .val (.int (3 : Int32)), .val (.int qq), .val (.int (40 : Int32)), .val (.int k1), .val (.int k2), .val (.int k3), .val (.ref b74), .val (.int dn), .val (.ref b111), .val (.int x15), .val (.int x16), .val (.int x17), .val (.int (1 : Int32)), .val (.int (own_H [k1, k2, k3] (3 : Int32) 40 lf))]) rfl (XS.iload X133.here hx rfl (hb hby at_406) rfl (XS.iload X133.here hx rfl (hb hby at_408) rfl (XS.icmpNo X133.here hx rfl (hb hby at_410) rfl (teq (show (own_H [k1, k2, k3] (3 : Int32) 40 lf) = (1 : Int32) from (own_E3 (k2 := k2) (k3 := k3) (N := 40) (by decide) hk1 hk2 hk3 hyJ).trans (if_neg (fun z => z.elim (own_x1 h_x15 hc377_124) (fun z => z.elim (own_x1 h_x16 hc382_127) (own_x1 h_x17 hc387_130)))))).2 (XS.aload X133.here hx rfl (hb hby at_413) rfl rfl k)))))) ?_
                    obtain ⟨cq134, kq134, q134a, q134b, q134c⟩ := isOf hZ rfl E_b74
                    obtain ⟨_, _, ⟨T134, L134, k134, n134⟩, -, X134, ⟨Lc134, hQ134, l134, y134, z134⟩, st134⟩ := X133.virtualBack hx (y := (⟨"com/example/sidewager/sidewager/analysis/Shoe", "dealt", "()I"⟩ : MethodName)) (z := (⟨"com/example/sidewager/sidewager/analysis/Shoe", "dealt", "()I"⟩ : MethodName)) hown (mvT hZ (hwi hw 96 rfl)) (mvT hZ (hwi hw 97 rfl)) (notFace_of_selects (args := #[]) (mvT hZ (hwi hw 99 rfl))) (mvT hZ (hwi hw 99 rfl)) (mvT hZ (hwi hw 98 rfl)) (by decide) (backOf (W := 0) (rmDt l Z aV hw [] b74 dn T133.heap n0 Zn F_dealt_b74) hZ (hwi hw 100 rfl) (hwi hw 3 rfl) (by decide) (by decide)) q134a q134c (g := (mkF m 415 #[.val (.int p0), .val (.int p1), .val (.int p2), .val (.int p3), .val (.int (1 : Int32)), .val (.int dd), .val (.int (3 : Int32)), .val (.int qq), .val (.int (40 : Int32)), .val (.int k1), .val (.int k2), .val (.int k3), .val (.ref b74), .val (.int dn), .val (.ref b111), .val (.int x15), .val (.int x16), .val (.int x17), .val (.int (1 : Int32)), .val (.int (own_H [k1, k2, k3] (3 : Int32) 40 lf))] [(.ref b74)])) rfl (by rw [hml]; rfl) (Steps.refl _) (argsL := []) (rest := []) (lenOf pd_1 rfl) rfl (by show 2 * 0 + _ ≤ _; exact Nat.le_of_eq rfl) (hb hby at_415) (fun _ _ => ⟨rfl, rfl, (by decide : 9 + 0 ≤ _), (by decide : 172 + 0 ≤ _)⟩)
                    dsimp only [Pt.U, Pt.locs, Pt.cells, Pt.slots] at X134 l134 y134 z134 st134 hQ134
                    replace l134 := l134.symm; replace y134 := y134.symm; replace z134 := z134.symm; subst l134 y134 z134
                    obtain ⟨rfl, N134q, e134⟩ := hQ134
                    have N134 := Fr.app N133 N134q
                    refine Run.st (S' := T134.setTop (mkF m 428 #[.val (.int p0), .val (.int p1), .val (.int p2), .val (.int p3), .val (.int (1 : Int32)), .val (.int dd), .val (.int (3 : Int32)), .val (.int qq), .val (.int (40 : Int32)), .val (.int k1), .val (.int k2), .val (.int k3), .val (.ref b74), .val (.int dn), .val (.ref b111), .val (.int x15), .val (.int x16), .val (.int x17), .val (.int (1 : Int32)), .val (.int (own_H [k1, k2, k3] (3 : Int32) 40 lf))] [(.int (1 : Int32))])) (fun _ k => st134.trans (XS.iload X134.here hx rfl (hb hby at_418) rfl (XS.icmpNo X134.here hx rfl (hb hby at_420) rfl (teq (show dn = dn from rfl)).2 (XS.iconst X134.here hx rfl (hb hby at_423) (XS.goto X134.here hx rfl (pc0 := 424) (pc' := 428) rfl (hb hby at_424) (by decide) (by decide) k))))) ?_
                    refine Run.out X134 hx Bd.notSynchronized Bd.returns rfl (Or.inl ⟨rfl, by simp, _, rfl⟩) (hb hby at_428) (by decide) (by decide) ?_
                    rw [e134]
                    exact ⟨rfl, N134⟩
            by_cases hc365_135 : (FLeft (1 : Int32) dd k1 dn k3) < (FCnt k3 (3 : Int32) k1 k2 k3)
            · refine Run.st (S' := T122.setTop (mkF m 375 #[.val (.int p0), .val (.int p1), .val (.int p2), .val (.int p3), .val (.int (1 : Int32)), .val (.int dd), .val (.int (3 : Int32)), .val (.int qq), .val (.int (40 : Int32)), .val (.int k1), .val (.int k2), .val (.int k3), .val (.ref b74), .val (.int dn), .val (.ref b111), .val (.int x15), .val (.int x16), .val (.int (0 : Int32)), .unset, .unset] [])) (fun _ k => XS.icmpYes X122.here hx rfl (pc0 := 365) (pc' := 372) rfl (hb hby at_365) rfl (tlt hc365_135).2.2.1 (by decide) (by decide) (XS.iconst X122.here hx rfl (hb hby at_372) (XS.istore X122.here hx rfl (hb hby at_373) rfl (l' := #[.val (.int p0), .val (.int p1), .val (.int p2), .val (.int p3), .val (.int (1 : Int32)), .val (.int dd), .val (.int (3 : Int32)), .val (.int qq), .val (.int (40 : Int32)), .val (.int k1), .val (.int k2), .val (.int k3), .val (.ref b74), .val (.int dn), .val (.ref b111), .val (.int x15), .val (.int x16), .val (.int (0 : Int32)), .unset, .unset]) rfl k))) ?_
              exact J375_123 (0 : Int32) (if_pos hc365_135).symm
            · refine Run.st (S' := T122.setTop (mkF m 375 #[.val (.int p0), .val (.int p1), .val (.int p2), .val (.int p3), .val (.int (1 : Int32)), .val (.int dd), .val (.int (3 : Int32)), .val (.int qq), .val (.int (40 : Int32)), .val (.int k1), .val (.int k2), .val (.int k3), .val (.ref b74), .val (.int dn), .val (.ref b111), .val (.int x15), .val (.int x16), .val (.int (1 : Int32)), .unset, .unset] [])) (fun _ k => XS.icmpNo X122.here hx rfl (hb hby at_365) rfl (flt hc365_135).2.2.1 (XS.iconst X122.here hx rfl (hb hby at_368) (XS.goto X122.here hx rfl (pc0 := 369) (pc' := 373) rfl (hb hby at_369) (by decide) (by decide) (XS.istore X122.here hx rfl (hb hby at_373) rfl (l' := #[.val (.int p0), .val (.int p1), .val (.int p2), .val (.int p3), .val (.int (1 : Int32)), .val (.int dd), .val (.int (3 : Int32)), .val (.int qq), .val (.int (40 : Int32)), .val (.int k1), .val (.int k2), .val (.int k3), .val (.ref b74), .val (.int dn), .val (.ref b111), .val (.int x15), .val (.int x16), .val (.int (1 : Int32)), .unset, .unset]) rfl k)))) ?_
              exact J375_123 (1 : Int32) (if_neg hc365_135).symm
          by_cases hc323_136 : (FLeft (1 : Int32) dd k1 dn k2) < (FCnt k2 (3 : Int32) k1 k2 k3)
          · refine Run.st (S' := T119.setTop (mkF m 333 #[.val (.int p0), .val (.int p1), .val (.int p2), .val (.int p3), .val (.int (1 : Int32)), .val (.int dd), .val (.int (3 : Int32)), .val (.int qq), .val (.int (40 : Int32)), .val (.int k1), .val (.int k2), .val (.int k3), .val (.ref b74), .val (.int dn), .val (.ref b111), .val (.int x15), .val (.int (0 : Int32)), .unset, .unset, .unset] [])) (fun _ k => XS.icmpYes X119.here hx rfl (pc0 := 323) (pc' := 330) rfl (hb hby at_323) rfl (tlt hc323_136).2.2.1 (by decide) (by decide) (XS.iconst X119.here hx rfl (hb hby at_330) (XS.istore X119.here hx rfl (hb hby at_331) rfl (l' := #[.val (.int p0), .val (.int p1), .val (.int p2), .val (.int p3), .val (.int (1 : Int32)), .val (.int dd), .val (.int (3 : Int32)), .val (.int qq), .val (.int (40 : Int32)), .val (.int k1), .val (.int k2), .val (.int k3), .val (.ref b74), .val (.int dn), .val (.ref b111), .val (.int x15), .val (.int (0 : Int32)), .unset, .unset, .unset]) rfl k))) ?_
            exact J333_120 (0 : Int32) (if_pos hc323_136).symm
          · refine Run.st (S' := T119.setTop (mkF m 333 #[.val (.int p0), .val (.int p1), .val (.int p2), .val (.int p3), .val (.int (1 : Int32)), .val (.int dd), .val (.int (3 : Int32)), .val (.int qq), .val (.int (40 : Int32)), .val (.int k1), .val (.int k2), .val (.int k3), .val (.ref b74), .val (.int dn), .val (.ref b111), .val (.int x15), .val (.int (1 : Int32)), .unset, .unset, .unset] [])) (fun _ k => XS.icmpNo X119.here hx rfl (hb hby at_323) rfl (flt hc323_136).2.2.1 (XS.iconst X119.here hx rfl (hb hby at_326) (XS.goto X119.here hx rfl (pc0 := 327) (pc' := 331) rfl (hb hby at_327) (by decide) (by decide) (XS.istore X119.here hx rfl (hb hby at_331) rfl (l' := #[.val (.int p0), .val (.int p1), .val (.int p2), .val (.int p3), .val (.int (1 : Int32)), .val (.int dd), .val (.int (3 : Int32)), .val (.int qq), .val (.int (40 : Int32)), .val (.int k1), .val (.int k2), .val (.int k3), .val (.ref b74), .val (.int dn), .val (.ref b111), .val (.int x15), .val (.int (1 : Int32)), .unset, .unset, .unset]) rfl k)))) ?_
            exact J333_120 (1 : Int32) (if_neg hc323_136).symm
        by_cases hc281_137 : (FLeft (1 : Int32) dd k1 dn k1) < (FCnt k1 (3 : Int32) k1 k2 k3)
        · refine Run.st (S' := T116.setTop (mkF m 291 #[.val (.int p0), .val (.int p1), .val (.int p2), .val (.int p3), .val (.int (1 : Int32)), .val (.int dd), .val (.int (3 : Int32)), .val (.int qq), .val (.int (40 : Int32)), .val (.int k1), .val (.int k2), .val (.int k3), .val (.ref b74), .val (.int dn), .val (.ref b111), .val (.int (0 : Int32)), .unset, .unset, .unset, .unset] [])) (fun _ k => XS.icmpYes X116.here hx rfl (pc0 := 281) (pc' := 288) rfl (hb hby at_281) rfl (tlt hc281_137).2.2.1 (by decide) (by decide) (XS.iconst X116.here hx rfl (hb hby at_288) (XS.istore X116.here hx rfl (hb hby at_289) rfl (l' := #[.val (.int p0), .val (.int p1), .val (.int p2), .val (.int p3), .val (.int (1 : Int32)), .val (.int dd), .val (.int (3 : Int32)), .val (.int qq), .val (.int (40 : Int32)), .val (.int k1), .val (.int k2), .val (.int k3), .val (.ref b74), .val (.int dn), .val (.ref b111), .val (.int (0 : Int32)), .unset, .unset, .unset, .unset]) rfl k))) ?_
          exact J291_117 (0 : Int32) (if_pos hc281_137).symm
        · refine Run.st (S' := T116.setTop (mkF m 291 #[.val (.int p0), .val (.int p1), .val (.int p2), .val (.int p3), .val (.int (1 : Int32)), .val (.int dd), .val (.int (3 : Int32)), .val (.int qq), .val (.int (40 : Int32)), .val (.int k1), .val (.int k2), .val (.int k3), .val (.ref b74), .val (.int dn), .val (.ref b111), .val (.int (1 : Int32)), .unset, .unset, .unset, .unset] [])) (fun _ k => XS.icmpNo X116.here hx rfl (hb hby at_281) rfl (flt hc281_137).2.2.1 (XS.iconst X116.here hx rfl (hb hby at_284) (XS.goto X116.here hx rfl (pc0 := 285) (pc' := 289) rfl (hb hby at_285) (by decide) (by decide) (XS.istore X116.here hx rfl (hb hby at_289) rfl (l' := #[.val (.int p0), .val (.int p1), .val (.int p2), .val (.int p3), .val (.int (1 : Int32)), .val (.int dd), .val (.int (3 : Int32)), .val (.int qq), .val (.int (40 : Int32)), .val (.int k1), .val (.int k2), .val (.int k3), .val (.ref b74), .val (.int dn), .val (.ref b111), .val (.int (1 : Int32)), .unset, .unset, .unset, .unset]) rfl k)))) ?_
          exact J291_117 (1 : Int32) (if_neg hc281_137).symm
    refine Run.st (S' := T76.setTop (mkF m 115 #[.val (.int p0), .val (.int p1), .val (.int p2), .val (.int p3), .val (.int (1 : Int32)), .val (.int dd), .val (.int nn), .val (.int qq), .val (.int (40 : Int32)), .val (.int k1), .val (.int k2), .val (.int k3), .val (.ref b74), .val (.int (0 : Int32)), .unset, .unset, .unset, .unset, .unset, .unset] [(.int (10 : Int32)), (.int k1)])) (fun _ k => XS.iconst X76.here hx rfl (hb hby at_103) (XS.istore X76.here hx rfl (hb hby at_104) rfl (l' := #[.val (.int p0), .val (.int p1), .val (.int p2), .val (.int p3), .val (.int (1 : Int32)), .val (.int dd), .val (.int nn), .val (.int qq), .val (.int (40 : Int32)), .val (.int k1), .val (.int k2), .val (.int k3), .val (.ref b74), .val (.int (0 : Int32)), .unset, .unset, .unset, .unset, .unset, .unset]) rfl (XS.iload X76.here hx rfl (hb hby at_106) rfl (XS.ifNo X76.here hx rfl (hb hby at_108) rfl ((if0 _ _).trans (feq (show ¬ ((1 : Int32) = (0 : Int32)) from (by decide))).1) (XS.iload X76.here hx rfl (hb hby at_111) rfl (XS.bipush X76.here hx rfl (hb hby at_113) k)))))) ?_
    by_cases hc115_138 : k1 < (10 : Int32)
    · refine Run.st (S' := T76.setTop (mkF m 118 #[.val (.int p0), .val (.int p1), .val (.int p2), .val (.int p3), .val (.int (1 : Int32)), .val (.int dd), .val (.int nn), .val (.int qq), .val (.int (40 : Int32)), .val (.int k1), .val (.int k2), .val (.int k3), .val (.ref b74), .val (.int (0 : Int32)), .unset, .unset, .unset, .unset, .unset, .unset] [])) (fun _ k => XS.icmpNo X76.here hx rfl (hb hby at_115) rfl (tlt hc115_138).2.1 k) ?_
      have hk10 : 0 ≤ k1.toInt ∧ k1.toInt < 10 := ⟨hk1.1, own_lt10 hc115_138⟩
      refine Run.st (S' := T76.setTop (mkF m 126 #[.val (.int p0), .val (.int p1), .val (.int p2), .val (.int p3), .val (.int (1 : Int32)), .val (.int dd), .val (.int nn), .val (.int qq), .val (.int (40 : Int32)), .val (.int k1), .val (.int k2), .val (.int k3), .val (.ref b74), .val (.int (0 : Int32)), .unset, .unset, .unset, .unset, .unset, .unset] [(.int k1), (.int dd), (.int (1 : Int32)), (.int qq)])) (fun _ k => XS.iload X76.here hx rfl (hb hby at_118) rfl (XS.iload X76.here hx rfl (hb hby at_120) rfl (XS.iload X76.here hx rfl (hb hby at_122) rfl (XS.iload X76.here hx rfl (hb hby at_124) rfl k)))) ?_
      obtain ⟨_, _, ⟨T139, L139, k139, n139⟩, -, X139, ⟨Lc139, hQ139, l139, y139, z139⟩, st139⟩ := Jvm.LawKit.callS X76 hx (y := (⟨"com/example/sidewager/sidewager/analysis/ShoeHoldsPinLaw", "full", "(ZII)I"⟩ : MethodName)) hown (mvT hZ (hwi hw 86 rfl)) (mvT hZ (hwi hw 87 rfl)) (mvT hZ (hwi hw 88 rfl)) (mvT hZ (hwi hw 89 rfl)) (by decide) (backOf (W := 1) (rmFull l Z aV hw [] (1 : Int32) dd k1 T76.heap n0 Zn ) hZ (hwi hw 89 rfl) (hwi hw 88 rfl) (by decide) (by decide)) (g := (mkF m 126 #[.val (.int p0), .val (.int p1), .val (.int p2), .val (.int p3), .val (.int (1 : Int32)), .val (.int dd), .val (.int nn), .val (.int qq), .val (.int (40 : Int32)), .val (.int k1), .val (.int k2), .val (.int k3), .val (.ref b74), .val (.int (0 : Int32)), .unset, .unset, .unset, .unset, .unset, .unset] [(.int k1), (.int dd), (.int (1 : Int32)), (.int qq)])) rfl (by rw [hml]; rfl) (argsL := [(.int (1 : Int32)), (.int dd), (.int k1)]) (rest := [(.int qq)]) (lenOf pd_0 rfl) rfl (by show 2 * 0 + _ ≤ _; exact Nat.le_of_eq rfl) (hb hby at_126) (fun _ _ => ⟨rfl, rfl, (by decide : 7 + 0 ≤ _), (by decide : 129 + 0 ≤ _)⟩)
      dsimp only [Pt.U, Pt.locs, Pt.cells, Pt.slots] at X139 l139 y139 z139 st139 hQ139
      replace l139 := l139.symm; replace y139 := y139.symm; replace z139 := z139.symm; subst l139 y139 z139
      obtain ⟨rfl, N139q, e139⟩ := hQ139
      have N139 := Fr.app N76 N139q
      refine Run.st (S' := T139.setTop (mkF m 129 #[.val (.int p0), .val (.int p1), .val (.int p2), .val (.int p3), .val (.int (1 : Int32)), .val (.int dd), .val (.int nn), .val (.int qq), .val (.int (40 : Int32)), .val (.int k1), .val (.int k2), .val (.int k3), .val (.ref b74), .val (.int (0 : Int32)), .unset, .unset, .unset, .unset, .unset, .unset] [(.int (FFull (1 : Int32) dd k1)), (.int qq)])) (fun _ k => st139 _ k) ?_
      obtain ⟨_, _, ⟨T140, L140, k140, n140⟩, -, X140, ⟨Lc140, hQ140, l140, y140, z140⟩, st140⟩ := Jvm.LawKit.callS X139 hx (y := (⟨"java/lang/Math", "min", "(II)I"⟩ : MethodName)) hown (mvT hZ (hwi hw 90 rfl)) (mvT hZ (hwi hw 68 rfl)) (mvT hZ (hwi hw 69 rfl)) (mvT hZ (hwi hw 70 rfl)) (by decide) (backOf (W := 0) (rmMin l Z aV hw [] qq (FFull (1 : Int32) dd k1) T76.heap n0 Zn ) hZ (hwi hw 70 rfl) (hwi hw 69 rfl) (by decide) (by decide)) (g := (mkF m 129 #[.val (.int p0), .val (.int p1), .val (.int p2), .val (.int p3), .val (.int (1 : Int32)), .val (.int dd), .val (.int nn), .val (.int qq), .val (.int (40 : Int32)), .val (.int k1), .val (.int k2), .val (.int k3), .val (.ref b74), .val (.int (0 : Int32)), .unset, .unset, .unset, .unset, .unset, .unset] [(.int (FFull (1 : Int32) dd k1)), (.int qq)])) rfl (by rw [hml]; rfl) (argsL := [(.int qq), (.int (FFull (1 : Int32) dd k1))]) (rest := []) (lenOf pd_2 rfl) rfl (by show 2 * 0 + _ ≤ _; exact Nat.le_of_eq rfl) (hb hby at_129) (fun _ _ => ⟨rfl, e139, (by decide : 7 + 0 ≤ _), (by decide : 129 + 0 ≤ _)⟩)
      dsimp only [Pt.U, Pt.locs, Pt.cells, Pt.slots] at X140 l140 y140 z140 st140 hQ140
      replace l140 := l140.symm; replace y140 := y140.symm; replace z140 := z140.symm; subst l140 y140 z140
      obtain ⟨rfl, N140q, e140⟩ := hQ140
      have N140 := Fr.app N139 N140q
      refine Run.st (S' := T140.setTop (mkF m 134 #[.val (.int p0), .val (.int p1), .val (.int p2), .val (.int p3), .val (.int (1 : Int32)), .val (.int dd), .val (.int nn), .val (.int qq), .val (.int (40 : Int32)), .val (.int k1), .val (.int k2), .val (.int k3), .val (.ref b74), .val (.int (FMin qq (FFull (1 : Int32) dd k1))), .unset, .unset, .unset, .unset, .unset, .unset] [])) (fun _ k => st140 _ (XS.istore X140.here hx rfl (hb hby at_132) rfl (l' := #[.val (.int p0), .val (.int p1), .val (.int p2), .val (.int p3), .val (.int (1 : Int32)), .val (.int dd), .val (.int nn), .val (.int qq), .val (.int (40 : Int32)), .val (.int k1), .val (.int k2), .val (.int k3), .val (.ref b74), .val (.int (FMin qq (FFull (1 : Int32) dd k1))), .unset, .unset, .unset, .unset, .unset, .unset]) rfl k)) ?_
      generalize edn : (FMin qq (FFull (1 : Int32) dd k1)) = dn
      have hdn : 0 ≤ dn.toInt ∧ dn.toInt < 4 := own_dnr hdd hqq edn
      rcases own_c4 hdn with rfl | rfl | rfl | rfl
      · refine Run.st (S' := T140.setTop (mkF m 163 #[.val (.int p0), .val (.int p1), .val (.int p2), .val (.int p3), .val (.int (1 : Int32)), .val (.int dd), .val (.int nn), .val (.int qq), .val (.int (40 : Int32)), .val (.int k1), .val (.int k2), .val (.int k3), .val (.ref b74), .val (.int (0 : Int32)), .unset, .unset, .unset, .unset, .unset, .unset] [(.int (3 : Int32)), (.int (0 : Int32))])) (fun _ k => XS.iload X140.here hx rfl (hb hby at_134) rfl (XS.iconst X140.here hx rfl (hb hby at_136) (XS.icmpYes X140.here hx rfl (pc0 := 137) (pc' := 147) rfl (hb hby at_137) rfl (tlt (show (0 : Int32) < (1 : Int32) from (by decide))).1 (by decide) (by decide) (XS.iload X140.here hx rfl (hb hby at_147) rfl (XS.iconst X140.here hx rfl (hb hby at_149) (XS.icmpYes X140.here hx rfl (pc0 := 150) (pc' := 160) rfl (hb hby at_150) rfl (tlt (show (0 : Int32) < (2 : Int32) from (by decide))).1 (by decide) (by decide) (XS.iload X140.here hx rfl (hb hby at_160) rfl (XS.iconst X140.here hx rfl (hb hby at_162) k)))))))) ?_
        refine Run.st (S' := T140.setTop (mkF m 173 #[.val (.int p0), .val (.int p1), .val (.int p2), .val (.int p3), .val (.int (1 : Int32)), .val (.int dd), .val (.int nn), .val (.int qq), .val (.int (40 : Int32)), .val (.int k1), .val (.int k2), .val (.int k3), .val (.ref b74), .val (.int (0 : Int32)), .unset, .unset, .unset, .unset, .unset, .unset] [])) (fun _ k => XS.icmpYes X140.here hx rfl (pc0 := 163) (pc' := 173) rfl (hb hby at_163) rfl (tlt (show (0 : Int32) < (3 : Int32) from (by decide))).1 (by decide) (by decide) k) ?_
        exact JH77 (0 : Int32) (own_it k1 0 (own_full (own_v dd (4 : Int32)) 4)) _ _ ⟨_, X140, N140, e140⟩ Zn Kp OL E_b74 F_left_b74 F_dealt_b74 V_b76_2 ((own_okM 0 hdd hk10).1 (own_dnF edn))
      · refine Run.st (S' := T140.setTop (mkF m 144 #[.val (.int p0), .val (.int p1), .val (.int p2), .val (.int p3), .val (.int (1 : Int32)), .val (.int dd), .val (.int nn), .val (.int qq), .val (.int (40 : Int32)), .val (.int k1), .val (.int k2), .val (.int k3), .val (.ref b74), .val (.int (1 : Int32)), .unset, .unset, .unset, .unset, .unset, .unset] [(.int k1), (.ref b74)])) (fun _ k => XS.iload X140.here hx rfl (hb hby at_134) rfl (XS.iconst X140.here hx rfl (hb hby at_136) (XS.icmpNo X140.here hx rfl (hb hby at_137) rfl (flt (show ¬ ((1 : Int32) < (1 : Int32)) from (by decide))).1 (XS.aload X140.here hx rfl (hb hby at_140) rfl rfl (XS.iload X140.here hx rfl (hb hby at_142) rfl k))))) ?_
        obtain ⟨cq141, kq141, q141a, q141b, q141c⟩ := isOf hZ e140 E_b74
        obtain ⟨_, _, ⟨T141, L141, k141, n141⟩, -, X141, ⟨Lc141, hQ141, l141, y141, z141⟩, st141⟩ := X140.virtualBack hx (y := (⟨"com/example/sidewager/sidewager/analysis/Shoe", "deal", "(I)V"⟩ : MethodName)) (z := (⟨"com/example/sidewager/sidewager/analysis/Shoe", "deal", "(I)V"⟩ : MethodName)) hown (mvT hZ (hwi hw 110 rfl)) (mvT hZ (hwi hw 111 rfl)) (notFace_of_selects (args := #[]) (mvT hZ (hwi hw 113 rfl))) (mvT hZ (hwi hw 113 rfl)) (mvT hZ (hwi hw 112 rfl)) (by decide) (backOf (W := 0) (rmDlF l Z aV hw [] b74 k1 u s_MAT b76_2 kb76_2 (own_it k1 0 (own_full (own_v dd (4 : Int32)) 4)) b76_0 kb76_0 (own_ir (k1 % (10 : Int32)) 0 (List.replicate 10 (0 : Int32))) b76_1 kb76_1 (own_ir (k1 / (10 : Int32)) 0 (List.replicate 4 (0 : Int32))) (0 : Int32) (0 : Int64) T76.heap n0 Zn OL hne hk10 (own_itl _ _ _ (own_fl4 dd)) (own_okR 0 hk10).1 (own_okR 0 hk10).2.2.1 (own_wF hk10 ((own_okM 0 hdd hk10).2 (own_dnL edn (by decide))) (own_okF hdd hk10).1 (own_okF hdd hk10).2) (own_okR 0 hk10).2.1 g_b74 g_b76_2 g_b76_0 g_b76_1 ne_b74_b76_2 ne_b74_b76_0 ne_b74_b76_1 (Ne.symm ne_b76_0_b76_2) (Ne.symm ne_b76_1_b76_2) ne_b76_0_b76_1 ((own_okR 0 hk10).2.2.2.mpr rfl) E_b74 F_suits_b74 F_left_b74 F_dealtOfRank_b74 F_dealtOfSuit_b74 F_suitsDealt_b74 F_dealt_b74 F_dealtKey_b74 V_b76_2 V_b76_0 V_b76_1 S_IGN S_MAT S_SUITS) hZ (hwi hw 114 rfl) (hwi hw 3 rfl) (by decide) (by decide)) q141a q141c (g := (mkF m 144 #[.val (.int p0), .val (.int p1), .val (.int p2), .val (.int p3), .val (.int (1 : Int32)), .val (.int dd), .val (.int nn), .val (.int qq), .val (.int (40 : Int32)), .val (.int k1), .val (.int k2), .val (.int k3), .val (.ref b74), .val (.int (1 : Int32)), .unset, .unset, .unset, .unset, .unset, .unset] [(.int k1), (.ref b74)])) rfl (by rw [hml]; rfl) (Steps.refl _) (argsL := [(.int k1)]) (rest := []) (lenOf pd_11 rfl) rfl (by show 2 * 0 + _ ≤ _; exact Nat.le_of_eq rfl) (hb hby at_144) (fun _ _ => ⟨rfl, e140, (by decide : 7 + 0 ≤ _), (by decide : 129 + 0 ≤ _)⟩)
        dsimp only [Pt.U, Pt.locs, Pt.cells, Pt.slots] at X141 l141 y141 z141 st141 hQ141
        replace l141 := l141.symm; replace y141 := y141.symm; replace z141 := z141.symm; subst l141 y141 z141
        obtain ⟨rfl, N141q, K141, q141_0, q141_1, q141_2, q141_3, q141_4, q141_5, q141_6, q141_7, q141_8, q141_9, q141_10⟩ := hQ141
        have OL := OL.keep K141 (allS g_b74 (allS g_b76_2 (allS g_b76_0 (allS g_b76_1 all0))))
        have E_b74 := q141_0
        have F_suits_b74 := q141_1
        have F_left_b74 := q141_2
        have F_dealtOfRank_b74 := q141_3
        have F_dealtOfSuit_b74 := q141_4
        have F_suitsDealt_b74 := q141_5
        have F_dealt_b74 := q141_6
        have F_dealtKey_b74 := q141_7
        have V_b76_2 := q141_8
        have V_b76_0 := q141_9
        have V_b76_1 := q141_10
        have Kp := Kp.trans K141 (allS (Or.inr sz_b74) (allS (Or.inr sz_b76_2) (allS (Or.inr sz_b76_0) (allS (Or.inr sz_b76_1) all0))))
        have Zn := Nat.le_trans Zn K141.1
        have N141 := Fr.app N140 N141q
        refine Run.st (S' := T141.setTop (mkF m 147 #[.val (.int p0), .val (.int p1), .val (.int p2), .val (.int p3), .val (.int (1 : Int32)), .val (.int dd), .val (.int nn), .val (.int qq), .val (.int (40 : Int32)), .val (.int k1), .val (.int k2), .val (.int k3), .val (.ref b74), .val (.int (1 : Int32)), .unset, .unset, .unset, .unset, .unset, .unset] [])) (fun _ k => st141.trans k) ?_
        have V_b76_2 : Arv Z T141.heap b76_2 kb76_2 .int (40 : Int32) ((own_it k1 1 (own_full (own_v dd (4 : Int32)) 4)).map Value.int) (.int (0 : Int32)) := V_b76_2
        have V_b76_0 : Arv Z T141.heap b76_0 kb76_0 .int (10 : Int32) ((own_ir (k1 % (10 : Int32)) 1 (List.replicate 10 (0 : Int32))).map Value.int) (.int (0 : Int32)) := V_b76_0
        have V_b76_1 : Arv Z T141.heap b76_1 kb76_1 .int (4 : Int32) ((own_ir (k1 / (10 : Int32)) 1 (List.replicate 4 (0 : Int32))).map Value.int) (.int (0 : Int32)) := V_b76_1
        refine Run.st (S' := T141.setTop (mkF m 173 #[.val (.int p0), .val (.int p1), .val (.int p2), .val (.int p3), .val (.int (1 : Int32)), .val (.int dd), .val (.int nn), .val (.int qq), .val (.int (40 : Int32)), .val (.int k1), .val (.int k2), .val (.int k3), .val (.ref b74), .val (.int (1 : Int32)), .unset, .unset, .unset, .unset, .unset, .unset] [])) (fun _ k => XS.iload X141.here hx rfl (hb hby at_147) rfl (XS.iconst X141.here hx rfl (hb hby at_149) (XS.icmpYes X141.here hx rfl (pc0 := 150) (pc' := 160) rfl (hb hby at_150) rfl (tlt (show (1 : Int32) < (2 : Int32) from (by decide))).1 (by decide) (by decide) (XS.iload X141.here hx rfl (hb hby at_160) rfl (XS.iconst X141.here hx rfl (hb hby at_162) (XS.icmpYes X141.here hx rfl (pc0 := 163) (pc' := 173) rfl (hb hby at_163) rfl (tlt (show (1 : Int32) < (3 : Int32) from (by decide))).1 (by decide) (by decide) k)))))) ?_
        exact JH77 (1 : Int32) (own_it k1 1 (own_full (own_v dd (4 : Int32)) 4)) _ _ ⟨_, X141, N141, rfl⟩ Zn Kp OL E_b74 F_left_b74 F_dealt_b74 V_b76_2 ((own_okM 1 hdd hk10).1 (own_dnF edn))
      · refine Run.st (S' := T140.setTop (mkF m 144 #[.val (.int p0), .val (.int p1), .val (.int p2), .val (.int p3), .val (.int (1 : Int32)), .val (.int dd), .val (.int nn), .val (.int qq), .val (.int (40 : Int32)), .val (.int k1), .val (.int k2), .val (.int k3), .val (.ref b74), .val (.int (2 : Int32)), .unset, .unset, .unset, .unset, .unset, .unset] [(.int k1), (.ref b74)])) (fun _ k => XS.iload X140.here hx rfl (hb hby at_134) rfl (XS.iconst X140.here hx rfl (hb hby at_136) (XS.icmpNo X140.here hx rfl (hb hby at_137) rfl (flt (show ¬ ((2 : Int32) < (1 : Int32)) from (by decide))).1 (XS.aload X140.here hx rfl (hb hby at_140) rfl rfl (XS.iload X140.here hx rfl (hb hby at_142) rfl k))))) ?_
        obtain ⟨cq142, kq142, q142a, q142b, q142c⟩ := isOf hZ e140 E_b74
        obtain ⟨_, _, ⟨T142, L142, k142, n142⟩, -, X142, ⟨Lc142, hQ142, l142, y142, z142⟩, st142⟩ := X140.virtualBack hx (y := (⟨"com/example/sidewager/sidewager/analysis/Shoe", "deal", "(I)V"⟩ : MethodName)) (z := (⟨"com/example/sidewager/sidewager/analysis/Shoe", "deal", "(I)V"⟩ : MethodName)) hown (mvT hZ (hwi hw 110 rfl)) (mvT hZ (hwi hw 111 rfl)) (notFace_of_selects (args := #[]) (mvT hZ (hwi hw 113 rfl))) (mvT hZ (hwi hw 113 rfl)) (mvT hZ (hwi hw 112 rfl)) (by decide) (backOf (W := 0) (rmDlF l Z aV hw [] b74 k1 u s_MAT b76_2 kb76_2 (own_it k1 0 (own_full (own_v dd (4 : Int32)) 4)) b76_0 kb76_0 (own_ir (k1 % (10 : Int32)) 0 (List.replicate 10 (0 : Int32))) b76_1 kb76_1 (own_ir (k1 / (10 : Int32)) 0 (List.replicate 4 (0 : Int32))) (0 : Int32) (0 : Int64) T76.heap n0 Zn OL hne hk10 (own_itl _ _ _ (own_fl4 dd)) (own_okR 0 hk10).1 (own_okR 0 hk10).2.2.1 (own_wF hk10 ((own_okM 0 hdd hk10).2 (own_dnL edn (by decide))) (own_okF hdd hk10).1 (own_okF hdd hk10).2) (own_okR 0 hk10).2.1 g_b74 g_b76_2 g_b76_0 g_b76_1 ne_b74_b76_2 ne_b74_b76_0 ne_b74_b76_1 (Ne.symm ne_b76_0_b76_2) (Ne.symm ne_b76_1_b76_2) ne_b76_0_b76_1 ((own_okR 0 hk10).2.2.2.mpr rfl) E_b74 F_suits_b74 F_left_b74 F_dealtOfRank_b74 F_dealtOfSuit_b74 F_suitsDealt_b74 F_dealt_b74 F_dealtKey_b74 V_b76_2 V_b76_0 V_b76_1 S_IGN S_MAT S_SUITS) hZ (hwi hw 114 rfl) (hwi hw 3 rfl) (by decide) (by decide)) q142a q142c (g := (mkF m 144 #[.val (.int p0), .val (.int p1), .val (.int p2), .val (.int p3), .val (.int (1 : Int32)), .val (.int dd), .val (.int nn), .val (.int qq), .val (.int (40 : Int32)), .val (.int k1), .val (.int k2), .val (.int k3), .val (.ref b74), .val (.int (2 : Int32)), .unset, .unset, .unset, .unset, .unset, .unset] [(.int k1), (.ref b74)])) rfl (by rw [hml]; rfl) (Steps.refl _) (argsL := [(.int k1)]) (rest := []) (lenOf pd_11 rfl) rfl (by show 2 * 0 + _ ≤ _; exact Nat.le_of_eq rfl) (hb hby at_144) (fun _ _ => ⟨rfl, e140, (by decide : 7 + 0 ≤ _), (by decide : 129 + 0 ≤ _)⟩)
        dsimp only [Pt.U, Pt.locs, Pt.cells, Pt.slots] at X142 l142 y142 z142 st142 hQ142
        replace l142 := l142.symm; replace y142 := y142.symm; replace z142 := z142.symm; subst l142 y142 z142
        obtain ⟨rfl, N142q, K142, q142_0, q142_1, q142_2, q142_3, q142_4, q142_5, q142_6, q142_7, q142_8, q142_9, q142_10⟩ := hQ142
        have OL := OL.keep K142 (allS g_b74 (allS g_b76_2 (allS g_b76_0 (allS g_b76_1 all0))))
        have E_b74 := q142_0
        have F_suits_b74 := q142_1
        have F_left_b74 := q142_2
        have F_dealtOfRank_b74 := q142_3
        have F_dealtOfSuit_b74 := q142_4
        have F_suitsDealt_b74 := q142_5
        have F_dealt_b74 := q142_6
        have F_dealtKey_b74 := q142_7
        have V_b76_2 := q142_8
        have V_b76_0 := q142_9
        have V_b76_1 := q142_10
        have Kp := Kp.trans K142 (allS (Or.inr sz_b74) (allS (Or.inr sz_b76_2) (allS (Or.inr sz_b76_0) (allS (Or.inr sz_b76_1) all0))))
        have Zn := Nat.le_trans Zn K142.1
        have N142 := Fr.app N140 N142q
        refine Run.st (S' := T142.setTop (mkF m 147 #[.val (.int p0), .val (.int p1), .val (.int p2), .val (.int p3), .val (.int (1 : Int32)), .val (.int dd), .val (.int nn), .val (.int qq), .val (.int (40 : Int32)), .val (.int k1), .val (.int k2), .val (.int k3), .val (.ref b74), .val (.int (2 : Int32)), .unset, .unset, .unset, .unset, .unset, .unset] [])) (fun _ k => st142.trans k) ?_
        have V_b76_2 : Arv Z T142.heap b76_2 kb76_2 .int (40 : Int32) ((own_it k1 1 (own_full (own_v dd (4 : Int32)) 4)).map Value.int) (.int (0 : Int32)) := V_b76_2
        have V_b76_0 : Arv Z T142.heap b76_0 kb76_0 .int (10 : Int32) ((own_ir (k1 % (10 : Int32)) 1 (List.replicate 10 (0 : Int32))).map Value.int) (.int (0 : Int32)) := V_b76_0
        have V_b76_1 : Arv Z T142.heap b76_1 kb76_1 .int (4 : Int32) ((own_ir (k1 / (10 : Int32)) 1 (List.replicate 4 (0 : Int32))).map Value.int) (.int (0 : Int32)) := V_b76_1
        refine Run.st (S' := T142.setTop (mkF m 157 #[.val (.int p0), .val (.int p1), .val (.int p2), .val (.int p3), .val (.int (1 : Int32)), .val (.int dd), .val (.int nn), .val (.int qq), .val (.int (40 : Int32)), .val (.int k1), .val (.int k2), .val (.int k3), .val (.ref b74), .val (.int (2 : Int32)), .unset, .unset, .unset, .unset, .unset, .unset] [(.int k1), (.ref b74)])) (fun _ k => XS.iload X142.here hx rfl (hb hby at_147) rfl (XS.iconst X142.here hx rfl (hb hby at_149) (XS.icmpNo X142.here hx rfl (hb hby at_150) rfl (flt (show ¬ ((2 : Int32) < (2 : Int32)) from (by decide))).1 (XS.aload X142.here hx rfl (hb hby at_153) rfl rfl (XS.iload X142.here hx rfl (hb hby at_155) rfl k))))) ?_
        obtain ⟨cq143, kq143, q143a, q143b, q143c⟩ := isOf hZ rfl E_b74
        obtain ⟨_, _, ⟨T143, L143, k143, n143⟩, -, X143, ⟨Lc143, hQ143, l143, y143, z143⟩, st143⟩ := X142.virtualBack hx (y := (⟨"com/example/sidewager/sidewager/analysis/Shoe", "deal", "(I)V"⟩ : MethodName)) (z := (⟨"com/example/sidewager/sidewager/analysis/Shoe", "deal", "(I)V"⟩ : MethodName)) hown (mvT hZ (hwi hw 110 rfl)) (mvT hZ (hwi hw 111 rfl)) (notFace_of_selects (args := #[]) (mvT hZ (hwi hw 113 rfl))) (mvT hZ (hwi hw 113 rfl)) (mvT hZ (hwi hw 112 rfl)) (by decide) (backOf (W := 0) (rmDlM l Z aV hw [] b74 k1 u s_MAT b76_2 kb76_2 (own_it k1 1 (own_full (own_v dd (4 : Int32)) 4)) b76_0 kb76_0 (own_ir (k1 % (10 : Int32)) 1 (List.replicate 10 (0 : Int32))) b76_1 kb76_1 (own_ir (k1 / (10 : Int32)) 1 (List.replicate 4 (0 : Int32))) ((0 : Int32) + (1 : Int32)) ((0 : Int64) + (FKey (k1 % (10 : Int32)))) T142.heap n0 Zn OL hne hk10 (own_itl _ _ _ (own_fl4 dd)) (own_okR 1 hk10).1 (own_okR 1 hk10).2.2.1 (own_wM hk10 ((own_okM 1 hdd hk10).2 (own_dnL edn (by decide)))) (own_okR 1 hk10).2.1 g_b74 g_b76_2 g_b76_0 g_b76_1 ne_b74_b76_2 ne_b74_b76_0 ne_b74_b76_1 (Ne.symm ne_b76_0_b76_2) (Ne.symm ne_b76_1_b76_2) ne_b76_0_b76_1 (fun z => absurd ((own_okR 1 hk10).2.2.2.mp z) (by decide)) E_b74 F_suits_b74 F_left_b74 F_dealtOfRank_b74 F_dealtOfSuit_b74 F_suitsDealt_b74 F_dealt_b74 F_dealtKey_b74 V_b76_2 V_b76_0 V_b76_1 S_IGN S_MAT S_SUITS) hZ (hwi hw 114 rfl) (hwi hw 3 rfl) (by decide) (by decide)) q143a q143c (g := (mkF m 157 #[.val (.int p0), .val (.int p1), .val (.int p2), .val (.int p3), .val (.int (1 : Int32)), .val (.int dd), .val (.int nn), .val (.int qq), .val (.int (40 : Int32)), .val (.int k1), .val (.int k2), .val (.int k3), .val (.ref b74), .val (.int (2 : Int32)), .unset, .unset, .unset, .unset, .unset, .unset] [(.int k1), (.ref b74)])) rfl (by rw [hml]; rfl) (Steps.refl _) (argsL := [(.int k1)]) (rest := []) (lenOf pd_11 rfl) rfl (by show 2 * 0 + _ ≤ _; exact Nat.le_of_eq rfl) (hb hby at_157) (fun _ _ => ⟨rfl, rfl, (by decide : 7 + 0 ≤ _), (by decide : 129 + 0 ≤ _)⟩)
        dsimp only [Pt.U, Pt.locs, Pt.cells, Pt.slots] at X143 l143 y143 z143 st143 hQ143
        replace l143 := l143.symm; replace y143 := y143.symm; replace z143 := z143.symm; subst l143 y143 z143
        obtain ⟨rfl, N143q, K143, q143_0, q143_1, q143_2, q143_3, q143_4, q143_5, q143_6, q143_7, q143_8, q143_9, q143_10⟩ := hQ143
        have OL := OL.keep K143 (allS g_b74 (allS g_b76_2 (allS g_b76_0 (allS g_b76_1 all0))))
        have E_b74 := q143_0
        have F_suits_b74 := q143_1
        have F_left_b74 := q143_2
        have F_dealtOfRank_b74 := q143_3
        have F_dealtOfSuit_b74 := q143_4
        have F_suitsDealt_b74 := q143_5
        have F_dealt_b74 := q143_6
        have F_dealtKey_b74 := q143_7
        have V_b76_2 := q143_8
        have V_b76_0 := q143_9
        have V_b76_1 := q143_10
        have Kp := Kp.trans K143 (allS (Or.inr sz_b74) (allS (Or.inr sz_b76_2) (allS (Or.inr sz_b76_0) (allS (Or.inr sz_b76_1) all0))))
        have Zn := Nat.le_trans Zn K143.1
        have N143 := Fr.app N142 N143q
        refine Run.st (S' := T143.setTop (mkF m 160 #[.val (.int p0), .val (.int p1), .val (.int p2), .val (.int p3), .val (.int (1 : Int32)), .val (.int dd), .val (.int nn), .val (.int qq), .val (.int (40 : Int32)), .val (.int k1), .val (.int k2), .val (.int k3), .val (.ref b74), .val (.int (2 : Int32)), .unset, .unset, .unset, .unset, .unset, .unset] [])) (fun _ k => st143.trans k) ?_
        have V_b76_2 : Arv Z T143.heap b76_2 kb76_2 .int (40 : Int32) ((own_it k1 2 (own_full (own_v dd (4 : Int32)) 4)).map Value.int) (.int (0 : Int32)) := V_b76_2
        have V_b76_0 : Arv Z T143.heap b76_0 kb76_0 .int (10 : Int32) ((own_ir (k1 % (10 : Int32)) 2 (List.replicate 10 (0 : Int32))).map Value.int) (.int (0 : Int32)) := V_b76_0
        have V_b76_1 : Arv Z T143.heap b76_1 kb76_1 .int (4 : Int32) ((own_ir (k1 / (10 : Int32)) 2 (List.replicate 4 (0 : Int32))).map Value.int) (.int (0 : Int32)) := V_b76_1
        refine Run.st (S' := T143.setTop (mkF m 173 #[.val (.int p0), .val (.int p1), .val (.int p2), .val (.int p3), .val (.int (1 : Int32)), .val (.int dd), .val (.int nn), .val (.int qq), .val (.int (40 : Int32)), .val (.int k1), .val (.int k2), .val (.int k3), .val (.ref b74), .val (.int (2 : Int32)), .unset, .unset, .unset, .unset, .unset, .unset] [])) (fun _ k => XS.iload X143.here hx rfl (hb hby at_160) rfl (XS.iconst X143.here hx rfl (hb hby at_162) (XS.icmpYes X143.here hx rfl (pc0 := 163) (pc' := 173) rfl (hb hby at_163) rfl (tlt (show (2 : Int32) < (3 : Int32) from (by decide))).1 (by decide) (by decide) k))) ?_
        exact JH77 (2 : Int32) (own_it k1 2 (own_full (own_v dd (4 : Int32)) 4)) _ _ ⟨_, X143, N143, rfl⟩ Zn Kp OL E_b74 F_left_b74 F_dealt_b74 V_b76_2 ((own_okM 2 hdd hk10).1 (own_dnF edn))
      · refine Run.st (S' := T140.setTop (mkF m 144 #[.val (.int p0), .val (.int p1), .val (.int p2), .val (.int p3), .val (.int (1 : Int32)), .val (.int dd), .val (.int nn), .val (.int qq), .val (.int (40 : Int32)), .val (.int k1), .val (.int k2), .val (.int k3), .val (.ref b74), .val (.int (3 : Int32)), .unset, .unset, .unset, .unset, .unset, .unset] [(.int k1), (.ref b74)])) (fun _ k => XS.iload X140.here hx rfl (hb hby at_134) rfl (XS.iconst X140.here hx rfl (hb hby at_136) (XS.icmpNo X140.here hx rfl (hb hby at_137) rfl (flt (show ¬ ((3 : Int32) < (1 : Int32)) from (by decide))).1 (XS.aload X140.here hx rfl (hb hby at_140) rfl rfl (XS.iload X140.here hx rfl (hb hby at_142) rfl k))))) ?_
        obtain ⟨cq144, kq144, q144a, q144b, q144c⟩ := isOf hZ e140 E_b74
        obtain ⟨_, _, ⟨T144, L144, k144, n144⟩, -, X144, ⟨Lc144, hQ144, l144, y144, z144⟩, st144⟩ := X140.virtualBack hx (y := (⟨"com/example/sidewager/sidewager/analysis/Shoe", "deal", "(I)V"⟩ : MethodName)) (z := (⟨"com/example/sidewager/sidewager/analysis/Shoe", "deal", "(I)V"⟩ : MethodName)) hown (mvT hZ (hwi hw 110 rfl)) (mvT hZ (hwi hw 111 rfl)) (notFace_of_selects (args := #[]) (mvT hZ (hwi hw 113 rfl))) (mvT hZ (hwi hw 113 rfl)) (mvT hZ (hwi hw 112 rfl)) (by decide) (backOf (W := 0) (rmDlF l Z aV hw [] b74 k1 u s_MAT b76_2 kb76_2 (own_it k1 0 (own_full (own_v dd (4 : Int32)) 4)) b76_0 kb76_0 (own_ir (k1 % (10 : Int32)) 0 (List.replicate 10 (0 : Int32))) b76_1 kb76_1 (own_ir (k1 / (10 : Int32)) 0 (List.replicate 4 (0 : Int32))) (0 : Int32) (0 : Int64) T76.heap n0 Zn OL hne hk10 (own_itl _ _ _ (own_fl4 dd)) (own_okR 0 hk10).1 (own_okR 0 hk10).2.2.1 (own_wF hk10 ((own_okM 0 hdd hk10).2 (own_dnL edn (by decide))) (own_okF hdd hk10).1 (own_okF hdd hk10).2) (own_okR 0 hk10).2.1 g_b74 g_b76_2 g_b76_0 g_b76_1 ne_b74_b76_2 ne_b74_b76_0 ne_b74_b76_1 (Ne.symm ne_b76_0_b76_2) (Ne.symm ne_b76_1_b76_2) ne_b76_0_b76_1 ((own_okR 0 hk10).2.2.2.mpr rfl) E_b74 F_suits_b74 F_left_b74 F_dealtOfRank_b74 F_dealtOfSuit_b74 F_suitsDealt_b74 F_dealt_b74 F_dealtKey_b74 V_b76_2 V_b76_0 V_b76_1 S_IGN S_MAT S_SUITS) hZ (hwi hw 114 rfl) (hwi hw 3 rfl) (by decide) (by decide)) q144a q144c (g := (mkF m 144 #[.val (.int p0), .val (.int p1), .val (.int p2), .val (.int p3), .val (.int (1 : Int32)), .val (.int dd), .val (.int nn), .val (.int qq), .val (.int (40 : Int32)), .val (.int k1), .val (.int k2), .val (.int k3), .val (.ref b74), .val (.int (3 : Int32)), .unset, .unset, .unset, .unset, .unset, .unset] [(.int k1), (.ref b74)])) rfl (by rw [hml]; rfl) (Steps.refl _) (argsL := [(.int k1)]) (rest := []) (lenOf pd_11 rfl) rfl (by show 2 * 0 + _ ≤ _; exact Nat.le_of_eq rfl) (hb hby at_144) (fun _ _ => ⟨rfl, e140, (by decide : 7 + 0 ≤ _), (by decide : 129 + 0 ≤ _)⟩)
        dsimp only [Pt.U, Pt.locs, Pt.cells, Pt.slots] at X144 l144 y144 z144 st144 hQ144
        replace l144 := l144.symm; replace y144 := y144.symm; replace z144 := z144.symm; subst l144 y144 z144
        obtain ⟨rfl, N144q, K144, q144_0, q144_1, q144_2, q144_3, q144_4, q144_5, q144_6, q144_7, q144_8, q144_9, q144_10⟩ := hQ144
        have OL := OL.keep K144 (allS g_b74 (allS g_b76_2 (allS g_b76_0 (allS g_b76_1 all0))))
        have E_b74 := q144_0
        have F_suits_b74 := q144_1
        have F_left_b74 := q144_2
        have F_dealtOfRank_b74 := q144_3
        have F_dealtOfSuit_b74 := q144_4
        have F_suitsDealt_b74 := q144_5
        have F_dealt_b74 := q144_6
        have F_dealtKey_b74 := q144_7
        have V_b76_2 := q144_8
        have V_b76_0 := q144_9
        have V_b76_1 := q144_10
        have Kp := Kp.trans K144 (allS (Or.inr sz_b74) (allS (Or.inr sz_b76_2) (allS (Or.inr sz_b76_0) (allS (Or.inr sz_b76_1) all0))))
        have Zn := Nat.le_trans Zn K144.1
        have N144 := Fr.app N140 N144q
        refine Run.st (S' := T144.setTop (mkF m 147 #[.val (.int p0), .val (.int p1), .val (.int p2), .val (.int p3), .val (.int (1 : Int32)), .val (.int dd), .val (.int nn), .val (.int qq), .val (.int (40 : Int32)), .val (.int k1), .val (.int k2), .val (.int k3), .val (.ref b74), .val (.int (3 : Int32)), .unset, .unset, .unset, .unset, .unset, .unset] [])) (fun _ k => st144.trans k) ?_
        have V_b76_2 : Arv Z T144.heap b76_2 kb76_2 .int (40 : Int32) ((own_it k1 1 (own_full (own_v dd (4 : Int32)) 4)).map Value.int) (.int (0 : Int32)) := V_b76_2
        have V_b76_0 : Arv Z T144.heap b76_0 kb76_0 .int (10 : Int32) ((own_ir (k1 % (10 : Int32)) 1 (List.replicate 10 (0 : Int32))).map Value.int) (.int (0 : Int32)) := V_b76_0
        have V_b76_1 : Arv Z T144.heap b76_1 kb76_1 .int (4 : Int32) ((own_ir (k1 / (10 : Int32)) 1 (List.replicate 4 (0 : Int32))).map Value.int) (.int (0 : Int32)) := V_b76_1
        refine Run.st (S' := T144.setTop (mkF m 157 #[.val (.int p0), .val (.int p1), .val (.int p2), .val (.int p3), .val (.int (1 : Int32)), .val (.int dd), .val (.int nn), .val (.int qq), .val (.int (40 : Int32)), .val (.int k1), .val (.int k2), .val (.int k3), .val (.ref b74), .val (.int (3 : Int32)), .unset, .unset, .unset, .unset, .unset, .unset] [(.int k1), (.ref b74)])) (fun _ k => XS.iload X144.here hx rfl (hb hby at_147) rfl (XS.iconst X144.here hx rfl (hb hby at_149) (XS.icmpNo X144.here hx rfl (hb hby at_150) rfl (flt (show ¬ ((3 : Int32) < (2 : Int32)) from (by decide))).1 (XS.aload X144.here hx rfl (hb hby at_153) rfl rfl (XS.iload X144.here hx rfl (hb hby at_155) rfl k))))) ?_
        obtain ⟨cq145, kq145, q145a, q145b, q145c⟩ := isOf hZ rfl E_b74
        obtain ⟨_, _, ⟨T145, L145, k145, n145⟩, -, X145, ⟨Lc145, hQ145, l145, y145, z145⟩, st145⟩ := X144.virtualBack hx (y := (⟨"com/example/sidewager/sidewager/analysis/Shoe", "deal", "(I)V"⟩ : MethodName)) (z := (⟨"com/example/sidewager/sidewager/analysis/Shoe", "deal", "(I)V"⟩ : MethodName)) hown (mvT hZ (hwi hw 110 rfl)) (mvT hZ (hwi hw 111 rfl)) (notFace_of_selects (args := #[]) (mvT hZ (hwi hw 113 rfl))) (mvT hZ (hwi hw 113 rfl)) (mvT hZ (hwi hw 112 rfl)) (by decide) (backOf (W := 0) (rmDlM l Z aV hw [] b74 k1 u s_MAT b76_2 kb76_2 (own_it k1 1 (own_full (own_v dd (4 : Int32)) 4)) b76_0 kb76_0 (own_ir (k1 % (10 : Int32)) 1 (List.replicate 10 (0 : Int32))) b76_1 kb76_1 (own_ir (k1 / (10 : Int32)) 1 (List.replicate 4 (0 : Int32))) ((0 : Int32) + (1 : Int32)) ((0 : Int64) + (FKey (k1 % (10 : Int32)))) T144.heap n0 Zn OL hne hk10 (own_itl _ _ _ (own_fl4 dd)) (own_okR 1 hk10).1 (own_okR 1 hk10).2.2.1 (own_wM hk10 ((own_okM 1 hdd hk10).2 (own_dnL edn (by decide)))) (own_okR 1 hk10).2.1 g_b74 g_b76_2 g_b76_0 g_b76_1 ne_b74_b76_2 ne_b74_b76_0 ne_b74_b76_1 (Ne.symm ne_b76_0_b76_2) (Ne.symm ne_b76_1_b76_2) ne_b76_0_b76_1 (fun z => absurd ((own_okR 1 hk10).2.2.2.mp z) (by decide)) E_b74 F_suits_b74 F_left_b74 F_dealtOfRank_b74 F_dealtOfSuit_b74 F_suitsDealt_b74 F_dealt_b74 F_dealtKey_b74 V_b76_2 V_b76_0 V_b76_1 S_IGN S_MAT S_SUITS) hZ (hwi hw 114 rfl) (hwi hw 3 rfl) (by decide) (by decide)) q145a q145c (g := (mkF m 157 #[.val (.int p0), .val (.int p1), .val (.int p2), .val (.int p3), .val (.int (1 : Int32)), .val (.int dd), .val (.int nn), .val (.int qq), .val (.int (40 : Int32)), .val (.int k1), .val (.int k2), .val (.int k3), .val (.ref b74), .val (.int (3 : Int32)), .unset, .unset, .unset, .unset, .unset, .unset] [(.int k1), (.ref b74)])) rfl (by rw [hml]; rfl) (Steps.refl _) (argsL := [(.int k1)]) (rest := []) (lenOf pd_11 rfl) rfl (by show 2 * 0 + _ ≤ _; exact Nat.le_of_eq rfl) (hb hby at_157) (fun _ _ => ⟨rfl, rfl, (by decide : 7 + 0 ≤ _), (by decide : 129 + 0 ≤ _)⟩)
        dsimp only [Pt.U, Pt.locs, Pt.cells, Pt.slots] at X145 l145 y145 z145 st145 hQ145
        replace l145 := l145.symm; replace y145 := y145.symm; replace z145 := z145.symm; subst l145 y145 z145
        obtain ⟨rfl, N145q, K145, q145_0, q145_1, q145_2, q145_3, q145_4, q145_5, q145_6, q145_7, q145_8, q145_9, q145_10⟩ := hQ145
        have OL := OL.keep K145 (allS g_b74 (allS g_b76_2 (allS g_b76_0 (allS g_b76_1 all0))))
        have E_b74 := q145_0
        have F_suits_b74 := q145_1
        have F_left_b74 := q145_2
        have F_dealtOfRank_b74 := q145_3
        have F_dealtOfSuit_b74 := q145_4
        have F_suitsDealt_b74 := q145_5
        have F_dealt_b74 := q145_6
        have F_dealtKey_b74 := q145_7
        have V_b76_2 := q145_8
        have V_b76_0 := q145_9
        have V_b76_1 := q145_10
        have Kp := Kp.trans K145 (allS (Or.inr sz_b74) (allS (Or.inr sz_b76_2) (allS (Or.inr sz_b76_0) (allS (Or.inr sz_b76_1) all0))))
        have Zn := Nat.le_trans Zn K145.1
        have N145 := Fr.app N144 N145q
        refine Run.st (S' := T145.setTop (mkF m 160 #[.val (.int p0), .val (.int p1), .val (.int p2), .val (.int p3), .val (.int (1 : Int32)), .val (.int dd), .val (.int nn), .val (.int qq), .val (.int (40 : Int32)), .val (.int k1), .val (.int k2), .val (.int k3), .val (.ref b74), .val (.int (3 : Int32)), .unset, .unset, .unset, .unset, .unset, .unset] [])) (fun _ k => st145.trans k) ?_
        have V_b76_2 : Arv Z T145.heap b76_2 kb76_2 .int (40 : Int32) ((own_it k1 2 (own_full (own_v dd (4 : Int32)) 4)).map Value.int) (.int (0 : Int32)) := V_b76_2
        have V_b76_0 : Arv Z T145.heap b76_0 kb76_0 .int (10 : Int32) ((own_ir (k1 % (10 : Int32)) 2 (List.replicate 10 (0 : Int32))).map Value.int) (.int (0 : Int32)) := V_b76_0
        have V_b76_1 : Arv Z T145.heap b76_1 kb76_1 .int (4 : Int32) ((own_ir (k1 / (10 : Int32)) 2 (List.replicate 4 (0 : Int32))).map Value.int) (.int (0 : Int32)) := V_b76_1
        refine Run.st (S' := T145.setTop (mkF m 170 #[.val (.int p0), .val (.int p1), .val (.int p2), .val (.int p3), .val (.int (1 : Int32)), .val (.int dd), .val (.int nn), .val (.int qq), .val (.int (40 : Int32)), .val (.int k1), .val (.int k2), .val (.int k3), .val (.ref b74), .val (.int (3 : Int32)), .unset, .unset, .unset, .unset, .unset, .unset] [(.int k1), (.ref b74)])) (fun _ k => XS.iload X145.here hx rfl (hb hby at_160) rfl (XS.iconst X145.here hx rfl (hb hby at_162) (XS.icmpNo X145.here hx rfl (hb hby at_163) rfl (flt (show ¬ ((3 : Int32) < (3 : Int32)) from (by decide))).1 (XS.aload X145.here hx rfl (hb hby at_166) rfl rfl (XS.iload X145.here hx rfl (hb hby at_168) rfl k))))) ?_
        obtain ⟨cq146, kq146, q146a, q146b, q146c⟩ := isOf hZ rfl E_b74
        obtain ⟨_, _, ⟨T146, L146, k146, n146⟩, -, X146, ⟨Lc146, hQ146, l146, y146, z146⟩, st146⟩ := X145.virtualBack hx (y := (⟨"com/example/sidewager/sidewager/analysis/Shoe", "deal", "(I)V"⟩ : MethodName)) (z := (⟨"com/example/sidewager/sidewager/analysis/Shoe", "deal", "(I)V"⟩ : MethodName)) hown (mvT hZ (hwi hw 110 rfl)) (mvT hZ (hwi hw 111 rfl)) (notFace_of_selects (args := #[]) (mvT hZ (hwi hw 113 rfl))) (mvT hZ (hwi hw 113 rfl)) (mvT hZ (hwi hw 112 rfl)) (by decide) (backOf (W := 0) (rmDlM l Z aV hw [] b74 k1 u s_MAT b76_2 kb76_2 (own_it k1 2 (own_full (own_v dd (4 : Int32)) 4)) b76_0 kb76_0 (own_ir (k1 % (10 : Int32)) 2 (List.replicate 10 (0 : Int32))) b76_1 kb76_1 (own_ir (k1 / (10 : Int32)) 2 (List.replicate 4 (0 : Int32))) (((0 : Int32) + (1 : Int32)) + (1 : Int32)) (((0 : Int64) + (FKey (k1 % (10 : Int32)))) + (FKey (k1 % (10 : Int32)))) T145.heap n0 Zn OL hne hk10 (own_itl _ _ _ (own_fl4 dd)) (own_okR 2 hk10).1 (own_okR 2 hk10).2.2.1 (own_wM hk10 ((own_okM 2 hdd hk10).2 (own_dnL edn (by decide)))) (own_okR 2 hk10).2.1 g_b74 g_b76_2 g_b76_0 g_b76_1 ne_b74_b76_2 ne_b74_b76_0 ne_b74_b76_1 (Ne.symm ne_b76_0_b76_2) (Ne.symm ne_b76_1_b76_2) ne_b76_0_b76_1 (fun z => absurd ((own_okR 2 hk10).2.2.2.mp z) (by decide)) E_b74 F_suits_b74 F_left_b74 F_dealtOfRank_b74 F_dealtOfSuit_b74 F_suitsDealt_b74 F_dealt_b74 F_dealtKey_b74 V_b76_2 V_b76_0 V_b76_1 S_IGN S_MAT S_SUITS) hZ (hwi hw 114 rfl) (hwi hw 3 rfl) (by decide) (by decide)) q146a q146c (g := (mkF m 170 #[.val (.int p0), .val (.int p1), .val (.int p2), .val (.int p3), .val (.int (1 : Int32)), .val (.int dd), .val (.int nn), .val (.int qq), .val (.int (40 : Int32)), .val (.int k1), .val (.int k2), .val (.int k3), .val (.ref b74), .val (.int (3 : Int32)), .unset, .unset, .unset, .unset, .unset, .unset] [(.int k1), (.ref b74)])) rfl (by rw [hml]; rfl) (Steps.refl _) (argsL := [(.int k1)]) (rest := []) (lenOf pd_11 rfl) rfl (by show 2 * 0 + _ ≤ _; exact Nat.le_of_eq rfl) (hb hby at_170) (fun _ _ => ⟨rfl, rfl, (by decide : 7 + 0 ≤ _), (by decide : 129 + 0 ≤ _)⟩)
        dsimp only [Pt.U, Pt.locs, Pt.cells, Pt.slots] at X146 l146 y146 z146 st146 hQ146
        replace l146 := l146.symm; replace y146 := y146.symm; replace z146 := z146.symm; subst l146 y146 z146
        obtain ⟨rfl, N146q, K146, q146_0, q146_1, q146_2, q146_3, q146_4, q146_5, q146_6, q146_7, q146_8, q146_9, q146_10⟩ := hQ146
        have OL := OL.keep K146 (allS g_b74 (allS g_b76_2 (allS g_b76_0 (allS g_b76_1 all0))))
        have E_b74 := q146_0
        have F_suits_b74 := q146_1
        have F_left_b74 := q146_2
        have F_dealtOfRank_b74 := q146_3
        have F_dealtOfSuit_b74 := q146_4
        have F_suitsDealt_b74 := q146_5
        have F_dealt_b74 := q146_6
        have F_dealtKey_b74 := q146_7
        have V_b76_2 := q146_8
        have V_b76_0 := q146_9
        have V_b76_1 := q146_10
        have Kp := Kp.trans K146 (allS (Or.inr sz_b74) (allS (Or.inr sz_b76_2) (allS (Or.inr sz_b76_0) (allS (Or.inr sz_b76_1) all0))))
        have Zn := Nat.le_trans Zn K146.1
        have N146 := Fr.app N145 N146q
        refine Run.st (S' := T146.setTop (mkF m 173 #[.val (.int p0), .val (.int p1), .val (.int p2), .val (.int p3), .val (.int (1 : Int32)), .val (.int dd), .val (.int nn), .val (.int qq), .val (.int (40 : Int32)), .val (.int k1), .val (.int k2), .val (.int k3), .val (.ref b74), .val (.int (3 : Int32)), .unset, .unset, .unset, .unset, .unset, .unset] [])) (fun _ k => st146.trans k) ?_
        exact JH77 (3 : Int32) ((own_it k1 2 (own_full (own_v dd (4 : Int32)) 4)).set (k1).toNatClampNeg (((own_it k1 2 (own_full (own_v dd (4 : Int32)) 4)).getD (k1).toNatClampNeg 0) - (1 : Int32))) _ _ ⟨_, X146, N146, rfl⟩ Zn Kp OL E_b74 F_left_b74 F_dealt_b74 V_b76_2 ((own_okM 3 hdd hk10).1 (own_dnF edn))
    · refine Run.st (S' := T76.setTop (mkF m 162 #[.val (.int p0), .val (.int p1), .val (.int p2), .val (.int p3), .val (.int (1 : Int32)), .val (.int dd), .val (.int nn), .val (.int qq), .val (.int (40 : Int32)), .val (.int k1), .val (.int k2), .val (.int k3), .val (.ref b74), .val (.int (0 : Int32)), .unset, .unset, .unset, .unset, .unset, .unset] [(.int (0 : Int32))])) (fun _ k => XS.icmpYes X76.here hx rfl (pc0 := 115) (pc' := 134) rfl (hb hby at_115) rfl (flt hc115_138).2.1 (by decide) (by decide) (XS.iload X76.here hx rfl (hb hby at_134) rfl (XS.iconst X76.here hx rfl (hb hby at_136) (XS.icmpYes X76.here hx rfl (pc0 := 137) (pc' := 147) rfl (hb hby at_137) rfl (tlt (show (0 : Int32) < (1 : Int32) from (by decide))).1 (by decide) (by decide) (XS.iload X76.here hx rfl (hb hby at_147) rfl (XS.iconst X76.here hx rfl (hb hby at_149) (XS.icmpYes X76.here hx rfl (pc0 := 150) (pc' := 160) rfl (hb hby at_150) rfl (tlt (show (0 : Int32) < (2 : Int32) from (by decide))).1 (by decide) (by decide) (XS.iload X76.here hx rfl (hb hby at_160) rfl k)))))))) ?_
      refine Run.st (S' := T76.setTop (mkF m 173 #[.val (.int p0), .val (.int p1), .val (.int p2), .val (.int p3), .val (.int (1 : Int32)), .val (.int dd), .val (.int nn), .val (.int qq), .val (.int (40 : Int32)), .val (.int k1), .val (.int k2), .val (.int k3), .val (.ref b74), .val (.int (0 : Int32)), .unset, .unset, .unset, .unset, .unset, .unset] [])) (fun _ k => XS.iconst X76.here hx rfl (hb hby at_162) (XS.icmpYes X76.here hx rfl (pc0 := 163) (pc' := 173) rfl (hb hby at_163) rfl (tlt (show (0 : Int32) < (3 : Int32) from (by decide))).1 (by decide) (by decide) k)) ?_
      exact JH77 (0 : Int32) (own_it k1 0 (own_full (own_v dd (4 : Int32)) 4)) _ _ ⟨_, X76, N76, rfl⟩ Zn Kp OL E_b74 F_left_b74 F_dealt_b74 V_b76_2 (own_okM0 hdd hk1)
theorem own_fu {Z : State} {h : Heap} {a : Addr} {C n d : String} {v w : Value} (F : Fld Z h a C n d v) (G : Fld Z h a C n d w) : v = w := by
  obtain ⟨c, cf, k, i, f, h1, h2, h3, h4, h5, h6⟩ := F
  obtain ⟨c', cf', k', i', f', g1, g2, g3, g4, g5, g6⟩ := G
  rw [h1] at g1; cases g1
  rw [h2] at g2; cases g2
  have a1 := h6.2
  have a2 := g6.2
  rw [a1] at a2; exact Option.some.inj a2
theorem own_si {args : Array Value} {s : State} {C n d : String} {k : Int32} (h : (Jvm.Cond.eq (.static C n d) (.int k)).value args s none s [] = some true) : (Term.static C n d).eval args s none [] s = some (.int k) := by
  simp only [Cond.value] at h
  cases hv : (Term.static C n d).eval args s none [] s with
  | none => simp [hv] at h
  | some v => cases v <;> simp_all [Term.eval]
theorem own_c13 {x : Int32} (h : 0 ≤ x.toInt ∧ x.toInt < 13) : x = (0 : Int32) ∨ x = (1 : Int32) ∨ x = (2 : Int32) ∨ x = (3 : Int32) ∨ x = (4 : Int32) ∨ x = (5 : Int32) ∨ x = (6 : Int32) ∨ x = (7 : Int32) ∨ x = (8 : Int32) ∨ x = (9 : Int32) ∨ x = (10 : Int32) ∨ x = (11 : Int32) ∨ x = (12 : Int32) := by
  simp only [← Int32.toInt_inj]
  have e0 : (0 : Int32).toInt = 0 := by decide
  have e1 : (1 : Int32).toInt = 1 := by decide
  have e2 : (2 : Int32).toInt = 2 := by decide
  have e3 : (3 : Int32).toInt = 3 := by decide
  have e4 : (4 : Int32).toInt = 4 := by decide
  have e5 : (5 : Int32).toInt = 5 := by decide
  have e6 : (6 : Int32).toInt = 6 := by decide
  have e7 : (7 : Int32).toInt = 7 := by decide
  have e8 : (8 : Int32).toInt = 8 := by decide
  have e9 : (9 : Int32).toInt = 9 := by decide
  have e10 : (10 : Int32).toInt = 10 := by decide
  have e11 : (11 : Int32).toInt = 11 := by decide
  have e12 : (12 : Int32).toInt = 12 := by decide
  omega
set_option maxRecDepth 65536 in
set_option maxHeartbeats 40000000 in
theorem comes_1 {Post : Tables → Env → Array Value → State → Outcome → State → Prop} (hpost : ∀ tb e args s v u, (limb_1_1.after args s (.returned v) u = true ∧ limb_1_2.after args s (.returned v) u = true ∧ True) → FrameEnd s (.returned v) u (Jvm.fieldLocs frame_1_writes args s ++ Jvm.arrayLocs frame_1_arrays args s ++ Jvm.staticLocs frame_1_statics s) 32 384 → Post tb e args s (.returned v) u) :
    ArmFor flags0 classFile x code maxLocals ret World_1 tables_1 room_1 Calls_1 rest_1 Pre_1 Post := by
  intro l hfl _ _ p e ha hc hk s m args below hf hA hF happ hP
  obtain ⟨hcalls, hrest, hpre⟩ := hP
  obtain ⟨-, -, -, hnamed, -, -, -, hat⟩ := (Spec.applies_iff hf).mp happ
  obtain ⟨hg, hn⟩ := and_e (Cond.before_iff.mp (show (Jvm.Cond.and given_1 narrow_1).before args s = true from hpre))
  obtain ⟨gv1, gv2⟩ := and_e hg
  obtain ⟨gv3, gv4⟩ := and_e gv2
  obtain ⟨gv5, gv6⟩ := and_e gv4
  obtain ⟨gv7, gv8⟩ := and_e gv6
  obtain ⟨gv9, gv10⟩ := and_e hn
  obtain ⟨gv11, gv12⟩ := and_e gv10
  obtain ⟨gv13, gv14⟩ := and_e gv12
  obtain ⟨gv15, gv16⟩ := and_e gv14
  obtain ⟨gv17, gv18⟩ := and_e gv16
  obtain ⟨gv19, gv20⟩ := and_e gv18
  obtain ⟨gv21, gv22⟩ := and_e gv20
  obtain ⟨gv23, gv24⟩ := and_e gv22
  obtain ⟨gv25, gv26⟩ := and_e gv24
  obtain ⟨gv27, gv28⟩ := and_e gv26
  obtain ⟨gv29, gv30⟩ := and_e gv28
  obtain ⟨gv31, gv32⟩ := and_e gv30
  obtain ⟨gv33, gv34⟩ := and_e gv32
  obtain ⟨gv35, gv36⟩ := and_e gv34
  obtain ⟨gv37, gv38⟩ := and_e gv36
  obtain ⟨gv39, gv40⟩ := and_e gv38
  obtain ⟨gv41, gv42⟩ := and_e gv40
  obtain ⟨gv43, gv44⟩ := and_e gv42
  obtain ⟨gv45, gv46⟩ := and_e gv44
  obtain ⟨gv47, gv48⟩ := and_e gv46
  obtain ⟨gv49, gv50⟩ := and_e gv48
  obtain ⟨gv51, gv52⟩ := and_e gv50
  obtain ⟨gv53, gv54⟩ := and_e gv52
  obtain ⟨gv55, gv56⟩ := and_e gv54
  obtain ⟨gv57, gv58⟩ := and_e gv56
  obtain ⟨gv59, gv60⟩ := and_e gv58
  obtain ⟨gv61, gv62⟩ := and_e gv60
  obtain ⟨gv63, gv64⟩ := and_e gv62
  obtain ⟨gv65, gv66⟩ := and_e gv64
  obtain ⟨gv67, gv68⟩ := and_e gv66
  obtain ⟨gv69, gv70⟩ := and_e gv68
  obtain ⟨gv71, gv72⟩ := and_e gv70
  obtain ⟨gv73, gv74⟩ := and_e gv72
  obtain ⟨gv75, gv76⟩ := and_e gv74
  obtain ⟨gv77, gv78⟩ := and_e gv76
  obtain ⟨gv79, gv80⟩ := and_e gv78
  obtain ⟨gv81, gv82⟩ := and_e gv80
  obtain ⟨gv83, gv84⟩ := and_e gv82
  obtain ⟨gv85, gv86⟩ := and_e gv84
  obtain ⟨gv87, gv88⟩ := and_e gv86
  obtain ⟨gv89, gv90⟩ := and_e gv88
  obtain ⟨gv91, gv92⟩ := and_e gv90
  obtain ⟨gv93, gv94⟩ := and_e gv92
  obtain ⟨gv95, gv96⟩ := and_e gv94
  obtain ⟨gv97, gv98⟩ := and_e gv96
  obtain ⟨gv99, gv100⟩ := and_e gv98
  obtain ⟨w0, w1, w2, w3, rfl⟩ : ∃ w0 w1 w2 w3 : Value, args = #[w0, w1, w2, w3] := by
    have hs : args.size = 4 := by simpa [Cond.value, given_1] using gv1
    obtain ⟨L⟩ := args
    match L, hs with
    | [w0, w1, w2, w3], _ => exact ⟨w0, w1, w2, w3, rfl⟩
  have hw := fun d (hd : d ∈ tables_1) => atoms_spec (ws := Jvm.Cond.code x code maxLocals ret :: tables_1) hat d (List.mem_cons_of_mem _ hd)
  have hfit : Fit s := fun {y c} hc i hi => by
    obtain ⟨ha, rfl⟩ := Array.getElem?_eq_some_iff.mp hc
    have q := List.all_eq_true.mp ((Array.all_eq_true_iff_forall_mem.mp hF) _ (Array.getElem_mem ha)) i (List.mem_range.mpr hi)
    simpa [Array.getElem?_eq_getElem hi] using q
  obtain ⟨hsets, hown0⟩ := atoms_of _ (rest_1_c_eq ▸ (show rest_1_c.before _ s = true from hrest))
  have hr0 := Cond.before_iff.mp hown0
  obtain ⟨i0, ei0⟩ := is_v gv3
  obtain rfl : w0 = (.int i0) := Option.some.inj ei0
  obtain ⟨i1, ei1⟩ := is_v gv5
  obtain rfl : w1 = (.int i1) := Option.some.inj ei1
  obtain ⟨i2, ei2⟩ := is_v gv7
  obtain rfl : w2 = (.int i2) := Option.some.inj ei2
  obtain ⟨i3, ei3⟩ := is_v gv8
  obtain rfl : w3 = (.int i3) := Option.some.inj ei3
  obtain ⟨s_Shoe_Suits_IGNORED, ev_s_Shoe_Suits_IGNORED⟩ := exa_v gv9
  have S_s_Shoe_Suits_IGNORED : Sta s s.heap "com/example/sidewager/sidewager/analysis/Shoe$Suits" "IGNORED" "Lcom/example/sidewager/sidewager/analysis/Shoe$Suits;" (.ref s_Shoe_Suits_IGNORED) := Sta.start ev_s_Shoe_Suits_IGNORED (Or.inr ⟨(hwi hw 5 rfl), (hwi hw 6 rfl)⟩)
  have E_s_Shoe_Suits_IGNORED : Exa s s.heap s_Shoe_Suits_IGNORED "com/example/sidewager/sidewager/analysis/Shoe$Suits" := Exa.start ev_s_Shoe_Suits_IGNORED gv9
  -- gv11: (Jvm.Cond.eq (Jvm.Term.static "com/example/sidewager/sidewager/analysis/Shoe" "SUITS" "I") (Jvm.Term.int (4 : Int32)))
  obtain ⟨s_Shoe_Suits_MATCHED, ev_s_Shoe_Suits_MATCHED⟩ := exa_v gv13
  have S_s_Shoe_Suits_MATCHED : Sta s s.heap "com/example/sidewager/sidewager/analysis/Shoe$Suits" "MATCHED" "Lcom/example/sidewager/sidewager/analysis/Shoe$Suits;" (.ref s_Shoe_Suits_MATCHED) := Sta.start ev_s_Shoe_Suits_MATCHED (Or.inr ⟨(hwi hw 5 rfl), (hwi hw 23 rfl)⟩)
  have E_s_Shoe_Suits_MATCHED : Exa s s.heap s_Shoe_Suits_MATCHED "com/example/sidewager/sidewager/analysis/Shoe$Suits" := Exa.start ev_s_Shoe_Suits_MATCHED gv13
  obtain ⟨s_Rank__VALUES, ev_s_Rank__VALUES⟩ := arr_v gv19
  have S_s_Rank__VALUES : Sta s s.heap "com/example/sidewager/sidewager/cards/Rank" "$VALUES" "[Lcom/example/sidewager/sidewager/cards/Rank;" (.ref s_Rank__VALUES) := Sta.start ev_s_Rank__VALUES (Or.inr ⟨(hwi hw 28 rfl), (hwi hw 31 rfl)⟩)
  obtain ⟨cl_s_Rank__VALUES, A_s_Rank__VALUES⟩ := Arr.start ev_s_Rank__VALUES gv19
  have E_s_Rank__VALUES : Exa s s.heap s_Rank__VALUES "[Lcom/example/sidewager/sidewager/cards/Rank;" := Exa.start ev_s_Rank__VALUES gv21
  obtain ⟨s_Rank_ACE, ev_s_Rank_ACE⟩ := exa_v gv25
  have S_s_Rank_ACE : Sta s s.heap "com/example/sidewager/sidewager/cards/Rank" "ACE" "Lcom/example/sidewager/sidewager/cards/Rank;" (.ref s_Rank_ACE) := Sta.start ev_s_Rank_ACE (Or.inr ⟨(hwi hw 28 rfl), (hwi hw 39 rfl)⟩)
  have E_s_Rank_ACE : Exa s s.heap s_Rank_ACE "com/example/sidewager/sidewager/cards/Rank" := Exa.start ev_s_Rank_ACE gv25
  obtain ⟨s_Rank_TWO, ev_s_Rank_TWO⟩ := exa_v gv29
  have S_s_Rank_TWO : Sta s s.heap "com/example/sidewager/sidewager/cards/Rank" "TWO" "Lcom/example/sidewager/sidewager/cards/Rank;" (.ref s_Rank_TWO) := Sta.start ev_s_Rank_TWO (Or.inr ⟨(hwi hw 28 rfl), (hwi hw 40 rfl)⟩)
  have E_s_Rank_TWO : Exa s s.heap s_Rank_TWO "com/example/sidewager/sidewager/cards/Rank" := Exa.start ev_s_Rank_TWO gv29
  obtain ⟨s_Rank_THREE, ev_s_Rank_THREE⟩ := exa_v gv33
  have S_s_Rank_THREE : Sta s s.heap "com/example/sidewager/sidewager/cards/Rank" "THREE" "Lcom/example/sidewager/sidewager/cards/Rank;" (.ref s_Rank_THREE) := Sta.start ev_s_Rank_THREE (Or.inr ⟨(hwi hw 28 rfl), (hwi hw 41 rfl)⟩)
  have E_s_Rank_THREE : Exa s s.heap s_Rank_THREE "com/example/sidewager/sidewager/cards/Rank" := Exa.start ev_s_Rank_THREE gv33
  obtain ⟨s_Rank_FOUR, ev_s_Rank_FOUR⟩ := exa_v gv37
  have S_s_Rank_FOUR : Sta s s.heap "com/example/sidewager/sidewager/cards/Rank" "FOUR" "Lcom/example/sidewager/sidewager/cards/Rank;" (.ref s_Rank_FOUR) := Sta.start ev_s_Rank_FOUR (Or.inr ⟨(hwi hw 28 rfl), (hwi hw 42 rfl)⟩)
  have E_s_Rank_FOUR : Exa s s.heap s_Rank_FOUR "com/example/sidewager/sidewager/cards/Rank" := Exa.start ev_s_Rank_FOUR gv37
  obtain ⟨s_Rank_FIVE, ev_s_Rank_FIVE⟩ := exa_v gv41
  have S_s_Rank_FIVE : Sta s s.heap "com/example/sidewager/sidewager/cards/Rank" "FIVE" "Lcom/example/sidewager/sidewager/cards/Rank;" (.ref s_Rank_FIVE) := Sta.start ev_s_Rank_FIVE (Or.inr ⟨(hwi hw 28 rfl), (hwi hw 43 rfl)⟩)
  have E_s_Rank_FIVE : Exa s s.heap s_Rank_FIVE "com/example/sidewager/sidewager/cards/Rank" := Exa.start ev_s_Rank_FIVE gv41
  obtain ⟨s_Rank_SIX, ev_s_Rank_SIX⟩ := exa_v gv45
  have S_s_Rank_SIX : Sta s s.heap "com/example/sidewager/sidewager/cards/Rank" "SIX" "Lcom/example/sidewager/sidewager/cards/Rank;" (.ref s_Rank_SIX) := Sta.start ev_s_Rank_SIX (Or.inr ⟨(hwi hw 28 rfl), (hwi hw 44 rfl)⟩)
  have E_s_Rank_SIX : Exa s s.heap s_Rank_SIX "com/example/sidewager/sidewager/cards/Rank" := Exa.start ev_s_Rank_SIX gv45
  obtain ⟨s_Rank_SEVEN, ev_s_Rank_SEVEN⟩ := exa_v gv49
  have S_s_Rank_SEVEN : Sta s s.heap "com/example/sidewager/sidewager/cards/Rank" "SEVEN" "Lcom/example/sidewager/sidewager/cards/Rank;" (.ref s_Rank_SEVEN) := Sta.start ev_s_Rank_SEVEN (Or.inr ⟨(hwi hw 28 rfl), (hwi hw 45 rfl)⟩)
  have E_s_Rank_SEVEN : Exa s s.heap s_Rank_SEVEN "com/example/sidewager/sidewager/cards/Rank" := Exa.start ev_s_Rank_SEVEN gv49
  obtain ⟨s_Rank_EIGHT, ev_s_Rank_EIGHT⟩ := exa_v gv53
  have S_s_Rank_EIGHT : Sta s s.heap "com/example/sidewager/sidewager/cards/Rank" "EIGHT" "Lcom/example/sidewager/sidewager/cards/Rank;" (.ref s_Rank_EIGHT) := Sta.start ev_s_Rank_EIGHT (Or.inr ⟨(hwi hw 28 rfl), (hwi hw 46 rfl)⟩)
  have E_s_Rank_EIGHT : Exa s s.heap s_Rank_EIGHT "com/example/sidewager/sidewager/cards/Rank" := Exa.start ev_s_Rank_EIGHT gv53
  obtain ⟨s_Rank_NINE, ev_s_Rank_NINE⟩ := exa_v gv57
  have S_s_Rank_NINE : Sta s s.heap "com/example/sidewager/sidewager/cards/Rank" "NINE" "Lcom/example/sidewager/sidewager/cards/Rank;" (.ref s_Rank_NINE) := Sta.start ev_s_Rank_NINE (Or.inr ⟨(hwi hw 28 rfl), (hwi hw 47 rfl)⟩)
  have E_s_Rank_NINE : Exa s s.heap s_Rank_NINE "com/example/sidewager/sidewager/cards/Rank" := Exa.start ev_s_Rank_NINE gv57
  obtain ⟨s_Rank_TEN, ev_s_Rank_TEN⟩ := exa_v gv61
  have S_s_Rank_TEN : Sta s s.heap "com/example/sidewager/sidewager/cards/Rank" "TEN" "Lcom/example/sidewager/sidewager/cards/Rank;" (.ref s_Rank_TEN) := Sta.start ev_s_Rank_TEN (Or.inr ⟨(hwi hw 28 rfl), (hwi hw 48 rfl)⟩)
  have E_s_Rank_TEN : Exa s s.heap s_Rank_TEN "com/example/sidewager/sidewager/cards/Rank" := Exa.start ev_s_Rank_TEN gv61
  obtain ⟨s_Rank_JACK, ev_s_Rank_JACK⟩ := exa_v gv65
  have S_s_Rank_JACK : Sta s s.heap "com/example/sidewager/sidewager/cards/Rank" "JACK" "Lcom/example/sidewager/sidewager/cards/Rank;" (.ref s_Rank_JACK) := Sta.start ev_s_Rank_JACK (Or.inr ⟨(hwi hw 28 rfl), (hwi hw 49 rfl)⟩)
  have E_s_Rank_JACK : Exa s s.heap s_Rank_JACK "com/example/sidewager/sidewager/cards/Rank" := Exa.start ev_s_Rank_JACK gv65
  obtain ⟨s_Rank_QUEEN, ev_s_Rank_QUEEN⟩ := exa_v gv69
  have S_s_Rank_QUEEN : Sta s s.heap "com/example/sidewager/sidewager/cards/Rank" "QUEEN" "Lcom/example/sidewager/sidewager/cards/Rank;" (.ref s_Rank_QUEEN) := Sta.start ev_s_Rank_QUEEN (Or.inr ⟨(hwi hw 28 rfl), (hwi hw 50 rfl)⟩)
  have E_s_Rank_QUEEN : Exa s s.heap s_Rank_QUEEN "com/example/sidewager/sidewager/cards/Rank" := Exa.start ev_s_Rank_QUEEN gv69
  obtain ⟨s_Rank_KING, ev_s_Rank_KING⟩ := exa_v gv73
  have S_s_Rank_KING : Sta s s.heap "com/example/sidewager/sidewager/cards/Rank" "KING" "Lcom/example/sidewager/sidewager/cards/Rank;" (.ref s_Rank_KING) := Sta.start ev_s_Rank_KING (Or.inr ⟨(hwi hw 28 rfl), (hwi hw 51 rfl)⟩)
  have E_s_Rank_KING : Exa s s.heap s_Rank_KING "com/example/sidewager/sidewager/cards/Rank" := Exa.start ev_s_Rank_KING gv73
  have F_s_Shoe_Suits_IGNORED : Fld s s.heap s_Shoe_Suits_IGNORED "java/lang/Enum" "ordinal" "I" (.int (0 : Int32)) := ord_v ev_s_Shoe_Suits_IGNORED gv15
  have F_s_Shoe_Suits_MATCHED : Fld s s.heap s_Shoe_Suits_MATCHED "java/lang/Enum" "ordinal" "I" (.int (1 : Int32)) := ord_v ev_s_Shoe_Suits_MATCHED gv17
  have len_s_Rank__VALUES := arr_len ev_s_Rank__VALUES A_s_Rank__VALUES gv23
  have el_s_Rank__VALUES_0 := arr_elR ev_s_Rank__VALUES A_s_Rank__VALUES gv27 ev_s_Rank_ACE (by decide)
  have el_s_Rank__VALUES_1 := arr_elR ev_s_Rank__VALUES A_s_Rank__VALUES gv31 ev_s_Rank_TWO (by decide)
  have el_s_Rank__VALUES_2 := arr_elR ev_s_Rank__VALUES A_s_Rank__VALUES gv35 ev_s_Rank_THREE (by decide)
  have el_s_Rank__VALUES_3 := arr_elR ev_s_Rank__VALUES A_s_Rank__VALUES gv39 ev_s_Rank_FOUR (by decide)
  have el_s_Rank__VALUES_4 := arr_elR ev_s_Rank__VALUES A_s_Rank__VALUES gv43 ev_s_Rank_FIVE (by decide)
  have el_s_Rank__VALUES_5 := arr_elR ev_s_Rank__VALUES A_s_Rank__VALUES gv47 ev_s_Rank_SIX (by decide)
  have el_s_Rank__VALUES_6 := arr_elR ev_s_Rank__VALUES A_s_Rank__VALUES gv51 ev_s_Rank_SEVEN (by decide)
  have el_s_Rank__VALUES_7 := arr_elR ev_s_Rank__VALUES A_s_Rank__VALUES gv55 ev_s_Rank_EIGHT (by decide)
  have el_s_Rank__VALUES_8 := arr_elR ev_s_Rank__VALUES A_s_Rank__VALUES gv59 ev_s_Rank_NINE (by decide)
  have el_s_Rank__VALUES_9 := arr_elR ev_s_Rank__VALUES A_s_Rank__VALUES gv63 ev_s_Rank_TEN (by decide)
  have el_s_Rank__VALUES_10 := arr_elR ev_s_Rank__VALUES A_s_Rank__VALUES gv67 ev_s_Rank_JACK (by decide)
  have el_s_Rank__VALUES_11 := arr_elR ev_s_Rank__VALUES A_s_Rank__VALUES gv71 ev_s_Rank_QUEEN (by decide)
  have el_s_Rank__VALUES_12 := arr_elR ev_s_Rank__VALUES A_s_Rank__VALUES gv75 ev_s_Rank_KING (by decide)
  have F_s_Rank_ACE : Fld s s.heap s_Rank_ACE "java/lang/Enum" "ordinal" "I" (.int (0 : Int32)) := ord_v ev_s_Rank_ACE gv77
  have F_s_Rank_TWO : Fld s s.heap s_Rank_TWO "java/lang/Enum" "ordinal" "I" (.int (1 : Int32)) := ord_v ev_s_Rank_TWO gv79
  have F_s_Rank_THREE : Fld s s.heap s_Rank_THREE "java/lang/Enum" "ordinal" "I" (.int (2 : Int32)) := ord_v ev_s_Rank_THREE gv81
  have F_s_Rank_FOUR : Fld s s.heap s_Rank_FOUR "java/lang/Enum" "ordinal" "I" (.int (3 : Int32)) := ord_v ev_s_Rank_FOUR gv83
  have F_s_Rank_FIVE : Fld s s.heap s_Rank_FIVE "java/lang/Enum" "ordinal" "I" (.int (4 : Int32)) := ord_v ev_s_Rank_FIVE gv85
  have F_s_Rank_SIX : Fld s s.heap s_Rank_SIX "java/lang/Enum" "ordinal" "I" (.int (5 : Int32)) := ord_v ev_s_Rank_SIX gv87
  have F_s_Rank_SEVEN : Fld s s.heap s_Rank_SEVEN "java/lang/Enum" "ordinal" "I" (.int (6 : Int32)) := ord_v ev_s_Rank_SEVEN gv89
  have F_s_Rank_EIGHT : Fld s s.heap s_Rank_EIGHT "java/lang/Enum" "ordinal" "I" (.int (7 : Int32)) := ord_v ev_s_Rank_EIGHT gv91
  have F_s_Rank_NINE : Fld s s.heap s_Rank_NINE "java/lang/Enum" "ordinal" "I" (.int (8 : Int32)) := ord_v ev_s_Rank_NINE gv93
  have F_s_Rank_TEN : Fld s s.heap s_Rank_TEN "java/lang/Enum" "ordinal" "I" (.int (9 : Int32)) := ord_v ev_s_Rank_TEN gv95
  have F_s_Rank_JACK : Fld s s.heap s_Rank_JACK "java/lang/Enum" "ordinal" "I" (.int (10 : Int32)) := ord_v ev_s_Rank_JACK gv97
  have F_s_Rank_QUEEN : Fld s s.heap s_Rank_QUEEN "java/lang/Enum" "ordinal" "I" (.int (11 : Int32)) := ord_v ev_s_Rank_QUEEN gv99
  have F_s_Rank_KING : Fld s s.heap s_Rank_KING "java/lang/Enum" "ordinal" "I" (.int (12 : Int32)) := ord_v ev_s_Rank_KING gv100
  have V_s_Rank__VALUES : Arv s s.heap s_Rank__VALUES cl_s_Rank__VALUES.cls (.object "com/example/sidewager/sidewager/cards/Rank") (13 : Int32) [(.ref s_Rank_ACE), (.ref s_Rank_TWO), (.ref s_Rank_THREE), (.ref s_Rank_FOUR), (.ref s_Rank_FIVE), (.ref s_Rank_SIX), (.ref s_Rank_SEVEN), (.ref s_Rank_EIGHT), (.ref s_Rank_NINE), (.ref s_Rank_TEN), (.ref s_Rank_JACK), (.ref s_Rank_QUEEN), (.ref s_Rank_KING)] .null := Arv.start hfit A_s_Rank__VALUES len_s_Rank__VALUES.1 len_s_Rank__VALUES.2 (by decide) rfl ⟨el_s_Rank__VALUES_0, el_s_Rank__VALUES_1, el_s_Rank__VALUES_2, el_s_Rank__VALUES_3, el_s_Rank__VALUES_4, el_s_Rank__VALUES_5, el_s_Rank__VALUES_6, el_s_Rank__VALUES_7, el_s_Rank__VALUES_8, el_s_Rank__VALUES_9, el_s_Rank__VALUES_10, el_s_Rank__VALUES_11, el_s_Rank__VALUES_12, trivial⟩
  have S_SUITS : Sta s s.heap "com/example/sidewager/sidewager/analysis/Shoe" "SUITS" "I" (.int (4 : Int32)) := Sta.start (own_si gv11) (Or.inr ⟨(hwi hw 3 rfl), (hwi hw 17 rfl)⟩)
  have hne : s_Shoe_Suits_IGNORED ≠ s_Shoe_Suits_MATCHED := fun q => by have a := F_s_Shoe_Suits_IGNORED; rw [q] at a; exact absurd (own_fu a F_s_Shoe_Suits_MATCHED) (by decide)
  obtain ⟨s_BigInteger_ONE, ev_s_BigInteger_ONE⟩ := exa_v (Cond.before_iff.mp (hsets _ (List.mem_of_getElem? (i := 2) rfl)))
  have S_ONE : Sta s s.heap "java/math/BigInteger" "ONE" "Ljava/math/BigInteger;" (.ref s_BigInteger_ONE) := Sta.start ev_s_BigInteger_ONE (Or.inl (hsets _ (List.mem_of_getElem? (i := 1) rfl)))
  have E_ONE : Exa s s.heap s_BigInteger_ONE "java/math/BigInteger" := Exa.start ev_s_BigInteger_ONE (Cond.before_iff.mp (hsets _ (List.mem_of_getElem? (i := 2) rfl)))
  have HR : ∀ rr : Int32, 0 ≤ rr.toInt → rr.toInt < 13 → ∃ a : Addr, ([(.ref s_Rank_ACE), (.ref s_Rank_TWO), (.ref s_Rank_THREE), (.ref s_Rank_FOUR), (.ref s_Rank_FIVE), (.ref s_Rank_SIX), (.ref s_Rank_SEVEN), (.ref s_Rank_EIGHT), (.ref s_Rank_NINE), (.ref s_Rank_TEN), (.ref s_Rank_JACK), (.ref s_Rank_QUEEN), (.ref s_Rank_KING)] : List Value).getD rr.toNatClampNeg .null = .ref a ∧ Exa s s.heap a "com/example/sidewager/sidewager/cards/Rank" ∧ Fld s s.heap a "java/lang/Enum" "ordinal" "I" (.int rr) := fun rr q0 q1 => by
    rcases own_c13 ⟨q0, q1⟩ with rfl | rfl | rfl | rfl | rfl | rfl | rfl | rfl | rfl | rfl | rfl | rfl | rfl
    · exact ⟨s_Rank_ACE, rfl, E_s_Rank_ACE, F_s_Rank_ACE⟩
    · exact ⟨s_Rank_TWO, rfl, E_s_Rank_TWO, F_s_Rank_TWO⟩
    · exact ⟨s_Rank_THREE, rfl, E_s_Rank_THREE, F_s_Rank_THREE⟩
    · exact ⟨s_Rank_FOUR, rfl, E_s_Rank_FOUR, F_s_Rank_FOUR⟩
    · exact ⟨s_Rank_FIVE, rfl, E_s_Rank_FIVE, F_s_Rank_FIVE⟩
    · exact ⟨s_Rank_SIX, rfl, E_s_Rank_SIX, F_s_Rank_SIX⟩
    · exact ⟨s_Rank_SEVEN, rfl, E_s_Rank_SEVEN, F_s_Rank_SEVEN⟩
    · exact ⟨s_Rank_EIGHT, rfl, E_s_Rank_EIGHT, F_s_Rank_EIGHT⟩
    · exact ⟨s_Rank_NINE, rfl, E_s_Rank_NINE, F_s_Rank_NINE⟩
    · exact ⟨s_Rank_TEN, rfl, E_s_Rank_TEN, F_s_Rank_TEN⟩
    · exact ⟨s_Rank_JACK, rfl, E_s_Rank_JACK, F_s_Rank_JACK⟩
    · exact ⟨s_Rank_QUEEN, rfl, E_s_Rank_QUEEN, F_s_Rank_QUEEN⟩
    · exact ⟨s_Rank_KING, rfl, E_s_Rank_KING, F_s_Rank_KING⟩
  obtain ⟨n, o, h1, h2, h3, _, L, rfl, ⟨rfl, N⟩, hq⟩ := rm0 l s _ hw tables_1 i0 i1 i2 i3 s_Shoe_Suits_IGNORED s_Shoe_Suits_MATCHED s_Rank__VALUES cl_s_Rank__VALUES.cls [(.ref s_Rank_ACE), (.ref s_Rank_TWO), (.ref s_Rank_THREE), (.ref s_Rank_FOUR), (.ref s_Rank_FIVE), (.ref s_Rank_SIX), (.ref s_Rank_SEVEN), (.ref s_Rank_EIGHT), (.ref s_Rank_NINE), (.ref s_Rank_TEN), (.ref s_Rank_JACK), (.ref s_Rank_QUEEN), (.ref s_Rank_KING)] s_BigInteger_ONE s.heap s.heap.size (Nat.le_refl _) (Old.start s) HR hne S_SUITS S_s_Shoe_Suits_IGNORED S_s_Shoe_Suits_MATCHED S_s_Rank__VALUES V_s_Rank__VALUES E_s_Rank__VALUES S_ONE E_ONE p e ha hc hk s m _ below hf ((Spec.applies_iff_loose hf).mp happ).1 ⟨rfl, State.Warmed39.refl s, rfl⟩ trivial
  refine ⟨n, _, h1, h2, h3, hpost _ _ _ _ _ _ ⟨Cond.after_iff.mpr rfl, Cond.after_iff.mpr (eq_i res_at (Term.int_eval (1)) rfl), trivial⟩ ⟨hq.1, hq.2.1, (hq.2.2.sift fun y hy => Or.inr (N y hy)).mono (by decide) (by decide)⟩⟩
theorem main_1_1 : Claimed_1_1 := comes_1 fun _ _ _ _ _ _ h hF => ⟨h.1, hF⟩
theorem main_1_2 : Claimed_1_2 := comes_1 fun _ _ _ _ _ _ h hF => ⟨h.2.1, hF⟩
end Jvm.Pilot.@@N@@
namespace Jvm.Pilot.@@N@@
open Jvm Jvm.ClassFile Sem Op Lib Jvm.Free Jvm.Stand Jvm.Pilot.@@N@@.Jvm.D
/-! MADE BY PROGRAM (witnessworld.py) out of the Statement's table words and the real class files: 19 classes; the members and pool entries that the words name. The judged class is class 1, her method 4. -/
namespace start1
open Jvm.ClassFile
def u (s : String) : CpInfo := .utf8 (stringToUtf16 s)
/-- a pool by its gaps: so many unusable entries, then the entry; so many at the end -/
def gap : Nat → List CpInfo → List CpInfo
  | 0, r => r
  | n + 1, r => .unusable :: gap n r
def poolList (es : List (Nat × CpInfo)) (last : Nat) : List CpInfo := es.foldr (fun e r => gap e.1 (e.2 :: r)) (gap last [])
def pool (es : List (Nat × CpInfo)) (last : Nat) : Array CpInfo := ⟨poolList es last⟩
def fileOf (pool : Array CpInfo) (this : Nat) (attrs : Array Attribute := #[]) (ms : Array MethodInfo := #[]) (fl : Nat := 33) (sup : Nat := 0) (ifs : Array Nat := #[]) (fds : Array FieldInfo := #[]) : ClassFile where
  minorVersion := 0
  majorVersion := 65
  constantPool := pool
  accessFlags := fl
  thisClass := this
  superClass := sup
  interfaces := ifs
  fields := fds
  methods := ms
  attributes := attrs
def plain (name : String) (sup : Option ClassId) : Class where
  name := name
  kind := .ordinary
  loader := none
  accessFlags := 33
  super := sup
  interfaces := #[]
  cf := none
  fields := #[]
  methods := #[]
  instanceTypes := #[]
  staticTypes := #[]
  resolved := #[]
  callSites := []
  init := .initialized
  statics := none
  mirror := none

def pool0 : Array CpInfo := pool [(5, u "<init>"), (0, u "()V"), (1, .class_ 10), (1, u "java/lang/Object"), (85, u "clone"), (0, u "()Ljava/lang/Object;")] 26

def k0c0 : Code := { maxStack := 0, maxLocals := 1, code := object_method_1_code, exceptionTable := #[], attributes := #[] }
def k0m0 : Method := { name := "<init>", desc := "()V", sig := { parameters := [], returnType := none }, accessFlags := 1, code := some k0c0 }
def k0m1 : Method := { name := "clone", desc := "()Ljava/lang/Object;", sig := { parameters := [], returnType := some (.object "java/lang/Object") }, accessFlags := 260, code := none }
/-- java/lang/Object -/
def k0 : Class := { plain "java/lang/Object" none with
  accessFlags := 33
  interfaces := #[]
  cf := some (fileOf pool0 8 #[] #[{ accessFlags := 1, nameIndex := 5, descriptorIndex := 6, attributes := #[] }, { accessFlags := 260, nameIndex := 96, descriptorIndex := 97, attributes := #[] }] 33 0 #[] #[])
  fields := #[]
  methods := #[k0m0, k0m1]
  instanceTypes := #[]
  staticTypes := #[]
  resolved := Array.replicate 124 none
  statics := none }

def pool1 : Array CpInfo := pool [(2, .class_ 4), (1, u "java/lang/Object"), (0, u "<init>"), (0, u "()V"), (0, .methodref 8 9), (0, .class_ 10), (0, .nameAndType 11 12), (0, u "com/example/sidewager/sidewager/analysis/ShoeHoldsPinLaw"), (0, u "full"), (0, u "(ZII)I"), (0, .integer 2147483647), (0, .class_ 15), (0, u "com/example/sidewager/sidewager/analysis/Shoe"), (0, .fieldref 17 18), (0, .class_ 19), (0, .nameAndType 20 21), (0, u "com/example/sidewager/sidewager/analysis/Shoe$Suits"), (0, u "MATCHED"), (0, u "Lcom/example/sidewager/sidewager/analysis/Shoe$Suits;"), (0, .fieldref 17 23), (0, .nameAndType 24 21), (0, u "IGNORED"), (0, .methodref 14 26), (0, .nameAndType 5 27), (0, u "(IILcom/example/sidewager/sidewager/analysis/Shoe$Suits;)V"), (0, .methodref 29 30), (0, .class_ 31), (0, .nameAndType 32 33), (0, u "java/lang/Math"), (0, u "min"), (0, u "(II)I"), (0, .methodref 14 35), (0, .nameAndType 36 37), (0, u "deal"), (0, u "(I)V"), (0, .methodref 8 39), (0, .nameAndType 40 41), (0, u "cnt"), (0, u "(IIIII)I"), (0, .methodref 8 43), (0, .nameAndType 44 45), (0, u "left"), (0, u "(ZIIII)I"), (0, .methodref 14 47), (0, .nameAndType 48 49), (0, u "holds"), (0, u "([I)Z"), (0, .methodref 14 51), (0, .nameAndType 52 53), (0, u "dealt"), (0, u "()I"), (3, u "law"), (0, u "(IIII)Z")] 6

def k1m0 : Method := { name := "<init>", desc := "()V", sig := { parameters := [], returnType := none }, accessFlags := 1, code := none }
def k1c1 : Code := { maxStack := 2, maxLocals := 3, code := method_2_code, exceptionTable := #[], attributes := #[] }
def k1m1 : Method := { name := "full", desc := "(ZII)I", sig := { parameters := [.boolean, .int, .int], returnType := some .int }, accessFlags := 10, code := some k1c1 }
def k1c2 : Code := { maxStack := 3, maxLocals := 5, code := method_3_code, exceptionTable := #[], attributes := #[] }
def k1m2 : Method := { name := "left", desc := "(ZIIII)I", sig := { parameters := [.boolean, .int, .int, .int, .int], returnType := some .int }, accessFlags := 10, code := some k1c2 }
def k1c3 : Code := { maxStack := 2, maxLocals := 6, code := method_4_code, exceptionTable := #[], attributes := #[] }
def k1m3 : Method := { name := "cnt", desc := "(IIIII)I", sig := { parameters := [.int, .int, .int, .int, .int], returnType := some .int }, accessFlags := 10, code := some k1c3 }
def k1c4 : Code := { maxStack := 6, maxLocals := 20, code := code, exceptionTable := #[], attributes := #[] }
def k1m4 : Method := { name := "law", desc := "(IIII)Z", sig := { parameters := [.int, .int, .int, .int], returnType := some .boolean }, accessFlags := 9, code := some k1c4 }
/-- com/example/sidewager/sidewager/analysis/ShoeHoldsPinLaw -/
def k1 : Class := { plain "com/example/sidewager/sidewager/analysis/ShoeHoldsPinLaw" (some 0) with
  accessFlags := 49
  interfaces := #[]
  cf := some (fileOf pool1 8 #[] #[{ accessFlags := 1, nameIndex := 5, descriptorIndex := 6, attributes := #[] }, { accessFlags := 10, nameIndex := 11, descriptorIndex := 12, attributes := #[] }, { accessFlags := 10, nameIndex := 44, descriptorIndex := 45, attributes := #[] }, { accessFlags := 10, nameIndex := 40, descriptorIndex := 41, attributes := #[] }, { accessFlags := 9, nameIndex := 57, descriptorIndex := 58, attributes := #[] }] 49 2 #[] #[])
  fields := #[]
  methods := #[k1m0, k1m1, k1m2, k1m3, k1m4]
  instanceTypes := #[]
  staticTypes := #[]
  resolved := Array.replicate 65 none
  statics := none }

def pool2 : Array CpInfo := pool [(1, .class_ 2), (0, u "com/example/sidewager/sidewager/analysis/Shoe"), (0, .fieldref 4 5), (0, .class_ 6), (0, .nameAndType 7 8), (0, u "com/example/sidewager/sidewager/analysis/Shoe$Suits"), (0, u "IGNORED"), (0, u "Lcom/example/sidewager/sidewager/analysis/Shoe$Suits;"), (2, u "<init>"), (0, u "(IILcom/example/sidewager/sidewager/analysis/Shoe$Suits;)V"), (0, .methodref 14 15), (0, .class_ 16), (0, .nameAndType 11 17), (0, u "java/lang/Object"), (0, u "()V"), (0, .fieldref 1 19), (0, .nameAndType 20 21), (0, u "dealtOfRank"), (0, u "[I"), (0, .fieldref 1 23), (0, .nameAndType 24 25), (0, u "SUITS"), (0, u "I"), (0, .fieldref 1 27), (0, .nameAndType 28 21), (0, u "dealtOfSuit"), (9, .fieldref 1 39), (0, .nameAndType 40 8), (0, u "suits"), (0, .fieldref 4 42), (0, .nameAndType 43 8), (0, u "MATCHED"), (0, .fieldref 1 45), (0, .nameAndType 46 21), (0, u "full"), (0, .methodref 48 49), (0, .class_ 50), (0, .nameAndType 51 52), (0, u "com/example/sidewager/sidewager/cards/Rank"), (0, u "values"), (0, u "()[Lcom/example/sidewager/sidewager/cards/Rank;"), (0, .methodref 1 54), (0, .nameAndType 55 56), (0, u "kindOf"), (0, u "(Lcom/example/sidewager/sidewager/cards/Rank;)I"), (0, .methodref 58 59), (0, .class_ 21), (0, .nameAndType 60 61), (0, u "clone"), (0, u "()Ljava/lang/Object;"), (0, .fieldref 1 63), (0, .nameAndType 64 21), (0, u "left"), (0, .class_ 66), (0, u "java/math/BigInteger"), (0, .fieldref 1 68), (0, .nameAndType 69 70), (0, u "orderingsAfter"), (0, u "[Ljava/math/BigInteger;"), (0, .fieldref 65 72), (0, .nameAndType 73 74), (0, u "ONE"), (0, u "Ljava/math/BigInteger;"), (8, .methodref 48 84), (0, .nameAndType 85 86), (0, u "ordinal"), (0, u "()I"), (0, .methodref 88 89), (0, .class_ 90), (0, .nameAndType 91 92), (0, u "java/lang/Math"), (0, u "min"), (0, u "(II)I"), (2, u "RANKS"), (0, u "[Lcom/example/sidewager/sidewager/cards/Rank;"), (4, .fieldref 1 102), (0, .nameAndType 103 25), (0, u "dealt"), (31, .methodref 1 136), (0, .nameAndType 137 138), (0, u "suitsStoodFor"), (0, u "(I)I"), (0, .fieldref 1 140), (0, .nameAndType 141 25), (0, u "suitsDealt"), (0, .methodref 1 143), (0, .nameAndType 144 138), (0, u "ways"), (19, .fieldref 1 165), (0, .nameAndType 166 167), (0, u "dealtKey"), (0, u "J"), (0, .methodref 1 169), (0, .nameAndType 170 171), (0, u "keyOf"), (0, u "(I)J"), (11, u "KEY_BITS"), (2, u "RANK_KINDS"), (1, u "KEY_BITS_PER_KIND"), (13, u "holds"), (0, u "([I)Z"), (0, u "deal"), (0, u "(I)V")] 32

def k2c0 : Code := { maxStack := 5, maxLocals := 12, code := prog_12_method_2_code, exceptionTable := #[], attributes := #[] }
def k2m0 : Method := { name := "<init>", desc := "(IILcom/example/sidewager/sidewager/analysis/Shoe$Suits;)V", sig := { parameters := [.int, .int, (.object "com/example/sidewager/sidewager/analysis/Shoe$Suits")], returnType := none }, accessFlags := 0, code := some k2c0 }
def k2c1 : Code := { maxStack := 2, maxLocals := 1, code := prog_12_method_3_code, exceptionTable := #[], attributes := #[] }
def k2m1 : Method := { name := "kindOf", desc := "(Lcom/example/sidewager/sidewager/cards/Rank;)I", sig := { parameters := [(.object "com/example/sidewager/sidewager/cards/Rank")], returnType := some .int }, accessFlags := 8, code := some k2c1 }
def k2c2 : Code := { maxStack := 4, maxLocals := 1, code := prog_12_method_5_code, exceptionTable := #[], attributes := #[] }
def k2m2 : Method := { name := "keyOf", desc := "(I)J", sig := { parameters := [.int], returnType := some .long }, accessFlags := 8, code := some k2c2 }
def k2c3 : Code := { maxStack := 1, maxLocals := 1, code := prog_12_method_13_code, exceptionTable := #[], attributes := #[] }
def k2m3 : Method := { name := "dealt", desc := "()I", sig := { parameters := [], returnType := some .int }, accessFlags := 0, code := some k2c3 }
def k2c4 : Code := { maxStack := 3, maxLocals := 2, code := prog_12_method_14_code, exceptionTable := #[], attributes := #[] }
def k2m4 : Method := { name := "ways", desc := "(I)I", sig := { parameters := [.int], returnType := some .int }, accessFlags := 0, code := some k2c4 }
def k2c5 : Code := { maxStack := 2, maxLocals := 4, code := prog_12_method_15_code, exceptionTable := #[], attributes := #[] }
def k2m5 : Method := { name := "suitsStoodFor", desc := "(I)I", sig := { parameters := [.int], returnType := some .int }, accessFlags := 2, code := some k2c5 }
def k2c6 : Code := { maxStack := 4, maxLocals := 7, code := prog_12_method_16_code, exceptionTable := #[], attributes := #[] }
def k2m6 : Method := { name := "holds", desc := "([I)Z", sig := { parameters := [(.array .int)], returnType := some .boolean }, accessFlags := 128, code := some k2c6 }
def k2c7 : Code := { maxStack := 8, maxLocals := 3, code := prog_12_method_17_code, exceptionTable := #[], attributes := #[] }
def k2m7 : Method := { name := "deal", desc := "(I)V", sig := { parameters := [.int], returnType := none }, accessFlags := 0, code := some k2c7 }
/-- com/example/sidewager/sidewager/analysis/Shoe -/
def k2 : Class := { plain "com/example/sidewager/sidewager/analysis/Shoe" (some 0) with
  accessFlags := 48
  interfaces := #[]
  cf := some (fileOf pool2 1 #[.nestMembers #[4]] #[{ accessFlags := 0, nameIndex := 11, descriptorIndex := 12, attributes := #[] }, { accessFlags := 8, nameIndex := 55, descriptorIndex := 56, attributes := #[] }, { accessFlags := 8, nameIndex := 170, descriptorIndex := 171, attributes := #[] }, { accessFlags := 0, nameIndex := 103, descriptorIndex := 86, attributes := #[] }, { accessFlags := 0, nameIndex := 144, descriptorIndex := 138, attributes := #[] }, { accessFlags := 2, nameIndex := 137, descriptorIndex := 138, attributes := #[] }, { accessFlags := 128, nameIndex := 202, descriptorIndex := 203, attributes := #[] }, { accessFlags := 0, nameIndex := 204, descriptorIndex := 205, attributes := #[] }] 48 14 #[] #[{ accessFlags := 24, nameIndex := 183, descriptorIndex := 25, attributes := #[] }, { accessFlags := 24, nameIndex := 186, descriptorIndex := 25, attributes := #[] }, { accessFlags := 26, nameIndex := 188, descriptorIndex := 25, attributes := #[] }, { accessFlags := 26, nameIndex := 24, descriptorIndex := 25, attributes := #[] }, { accessFlags := 26, nameIndex := 95, descriptorIndex := 96, attributes := #[] }, { accessFlags := 18, nameIndex := 40, descriptorIndex := 8, attributes := #[] }, { accessFlags := 18, nameIndex := 46, descriptorIndex := 21, attributes := #[] }, { accessFlags := 18, nameIndex := 64, descriptorIndex := 21, attributes := #[] }, { accessFlags := 18, nameIndex := 69, descriptorIndex := 70, attributes := #[] }, { accessFlags := 18, nameIndex := 20, descriptorIndex := 21, attributes := #[] }, { accessFlags := 18, nameIndex := 28, descriptorIndex := 21, attributes := #[] }, { accessFlags := 2, nameIndex := 141, descriptorIndex := 25, attributes := #[] }, { accessFlags := 2, nameIndex := 103, descriptorIndex := 25, attributes := #[] }, { accessFlags := 2, nameIndex := 166, descriptorIndex := 167, attributes := #[] }])
  fields := #[{ name := "KEY_BITS", type := .int, accessFlags := 24, slot := 0, constantValue := 0 }, { name := "RANK_KINDS", type := .int, accessFlags := 24, slot := 1, constantValue := 0 }, { name := "KEY_BITS_PER_KIND", type := .int, accessFlags := 26, slot := 2, constantValue := 0 }, { name := "SUITS", type := .int, accessFlags := 26, slot := 3, constantValue := 0 }, { name := "RANKS", type := (.array (.object "com/example/sidewager/sidewager/cards/Rank")), accessFlags := 26, slot := 4, constantValue := 0 }, { name := "suits", type := (.object "com/example/sidewager/sidewager/analysis/Shoe$Suits"), accessFlags := 18, slot := 0, constantValue := 0 }, { name := "full", type := (.array .int), accessFlags := 18, slot := 1, constantValue := 0 }, { name := "left", type := (.array .int), accessFlags := 18, slot := 2, constantValue := 0 }, { name := "orderingsAfter", type := (.array (.object "java/math/BigInteger")), accessFlags := 18, slot := 3, constantValue := 0 }, { name := "dealtOfRank", type := (.array .int), accessFlags := 18, slot := 4, constantValue := 0 }, { name := "dealtOfSuit", type := (.array .int), accessFlags := 18, slot := 5, constantValue := 0 }, { name := "suitsDealt", type := .int, accessFlags := 2, slot := 6, constantValue := 0 }, { name := "dealt", type := .int, accessFlags := 2, slot := 7, constantValue := 0 }, { name := "dealtKey", type := .long, accessFlags := 2, slot := 8, constantValue := 0 }]
  methods := #[k2m0, k2m1, k2m2, k2m3, k2m4, k2m5, k2m6, k2m7]
  instanceTypes := #[(.object "com/example/sidewager/sidewager/analysis/Shoe$Suits"), (.array .int), (.array .int), (.array (.object "java/math/BigInteger")), (.array .int), (.array .int), .int, .int, .long]
  staticTypes := #[.int, .int, .int, .int, (.array (.object "com/example/sidewager/sidewager/cards/Rank"))]
  resolved := Array.replicate 238 none
  statics := some 0 }

def pool3 : Array CpInfo := pool [(1, .class_ 2), (0, u "java/lang/constant/Constable"), (0, .class_ 4), (0, u "java/lang/Object")] 6

/-- java/lang/constant/Constable -/
def k3 : Class := { plain "java/lang/constant/Constable" (some 0) with
  accessFlags := 1537
  interfaces := #[]
  cf := some (fileOf pool3 1 #[] #[] 1537 3 #[] #[])
  fields := #[]
  methods := #[]
  instanceTypes := #[]
  staticTypes := #[]
  resolved := Array.replicate 11 none
  statics := none }

def pool4 : Array CpInfo := pool [(1, .class_ 2), (0, u "java/lang/Comparable"), (0, .class_ 4), (0, u "java/lang/Object")] 7

/-- java/lang/Comparable -/
def k4 : Class := { plain "java/lang/Comparable" (some 0) with
  accessFlags := 1537
  interfaces := #[]
  cf := some (fileOf pool4 1 #[] #[] 1537 3 #[] #[])
  fields := #[]
  methods := #[]
  instanceTypes := #[]
  staticTypes := #[]
  resolved := Array.replicate 12 none
  statics := none }

def pool5 : Array CpInfo := pool [(1, .class_ 2), (0, u "java/io/Serializable"), (0, .class_ 4), (0, u "java/lang/Object")] 2

/-- java/io/Serializable -/
def k5 : Class := { plain "java/io/Serializable" (some 0) with
  accessFlags := 1537
  interfaces := #[]
  cf := some (fileOf pool5 1 #[] #[] 1537 3 #[] #[])
  fields := #[]
  methods := #[]
  instanceTypes := #[]
  staticTypes := #[]
  resolved := Array.replicate 7 none
  statics := none }

def pool6 : Array CpInfo := pool [(2, .class_ 4), (1, u "java/lang/Enum"), (0, u "name"), (0, u "Ljava/lang/String;"), (0, .fieldref 2 8), (0, .nameAndType 9 10), (0, u "ordinal"), (0, u "I"), (1, .class_ 14), (1, u "java/lang/Object"), (4, u "hash"), (86, .class_ 108), (1, u "java/lang/Enum$EnumDesc"), (2, .class_ 112), (0, u "java/lang/constant/Constable"), (0, .class_ 114), (0, u "java/lang/Comparable"), (0, .class_ 116), (0, u "java/io/Serializable"), (9, u "()I")] 77

def k6c0 : Code := { maxStack := 1, maxLocals := 1, code := jdk_37_method_2_code, exceptionTable := #[], attributes := #[] }
def k6m0 : Method := { name := "ordinal", desc := "()I", sig := { parameters := [], returnType := some .int }, accessFlags := 17, code := some k6c0 }
/-- java/lang/Enum -/
def k6 : Class := { plain "java/lang/Enum" (some 0) with
  accessFlags := 1057
  interfaces := #[3, 4, 5]
  cf := some (fileOf pool6 2 #[.nestMembers #[106]] #[{ accessFlags := 17, nameIndex := 9, descriptorIndex := 126, attributes := #[] }] 1057 12 #[111, 113, 115] #[{ accessFlags := 18, nameIndex := 5, descriptorIndex := 6, attributes := #[] }, { accessFlags := 18, nameIndex := 9, descriptorIndex := 10, attributes := #[] }, { accessFlags := 2, nameIndex := 19, descriptorIndex := 10, attributes := #[] }])
  fields := #[{ name := "name", type := (.object "java/lang/String"), accessFlags := 18, slot := 0, constantValue := 0 }, { name := "ordinal", type := .int, accessFlags := 18, slot := 1, constantValue := 0 }, { name := "hash", type := .int, accessFlags := 2, slot := 2, constantValue := 0 }]
  methods := #[k6m0]
  instanceTypes := #[(.object "java/lang/String"), .int, .int]
  staticTypes := #[]
  resolved := Array.replicate 204 none
  statics := none }

def pool7 : Array CpInfo := pool [(1, .class_ 2), (0, u "com/example/sidewager/sidewager/analysis/Shoe$Suits"), (2, u "IGNORED"), (0, u "Lcom/example/sidewager/sidewager/analysis/Shoe$Suits;"), (2, u "MATCHED"), (2, u "$VALUES"), (0, u "[Lcom/example/sidewager/sidewager/analysis/Shoe$Suits;"), (6, .class_ 22), (1, u "java/lang/Enum"), (25, .class_ 49), (0, u "com/example/sidewager/sidewager/analysis/Shoe")] 2

/-- com/example/sidewager/sidewager/analysis/Shoe$Suits -/
def k7 : Class := { plain "com/example/sidewager/sidewager/analysis/Shoe$Suits" (some 6) with
  accessFlags := 16432
  interfaces := #[]
  cf := some (fileOf pool7 1 #[.nestHost 48] #[] 16432 20 #[] #[{ accessFlags := 16409, nameIndex := 5, descriptorIndex := 6, attributes := #[] }, { accessFlags := 16409, nameIndex := 9, descriptorIndex := 6, attributes := #[] }, { accessFlags := 4122, nameIndex := 12, descriptorIndex := 13, attributes := #[] }])
  fields := #[{ name := "IGNORED", type := (.object "com/example/sidewager/sidewager/analysis/Shoe$Suits"), accessFlags := 16409, slot := 0, constantValue := 0 }, { name := "MATCHED", type := (.object "com/example/sidewager/sidewager/analysis/Shoe$Suits"), accessFlags := 16409, slot := 1, constantValue := 0 }, { name := "$VALUES", type := (.array (.object "com/example/sidewager/sidewager/analysis/Shoe$Suits")), accessFlags := 4122, slot := 2, constantValue := 0 }]
  methods := #[]
  instanceTypes := #[(.object "java/lang/String"), .int, .int]
  staticTypes := #[(.object "com/example/sidewager/sidewager/analysis/Shoe$Suits"), (.object "com/example/sidewager/sidewager/analysis/Shoe$Suits"), (.array (.object "com/example/sidewager/sidewager/analysis/Shoe$Suits"))]
  resolved := Array.replicate 52 none
  statics := some 1 }

def pool8 : Array CpInfo := pool [(1, .class_ 2), (0, u "com/example/sidewager/sidewager/cards/Rank"), (2, u "ACE"), (0, u "Lcom/example/sidewager/sidewager/cards/Rank;"), (2, u "TWO"), (2, u "THREE"), (2, u "FOUR"), (2, u "FIVE"), (2, u "SIX"), (2, u "SEVEN"), (2, u "EIGHT"), (2, u "NINE"), (2, u "TEN"), (2, u "JACK"), (2, u "QUEEN"), (2, u "KING"), (0, .fieldref 1 44), (0, .nameAndType 45 46), (0, u "$VALUES"), (0, u "[Lcom/example/sidewager/sidewager/cards/Rank;"), (0, .methodref 48 49), (0, .class_ 46), (0, .nameAndType 50 51), (0, u "clone"), (0, u "()Ljava/lang/Object;"), (1, .class_ 55), (1, u "java/lang/Enum"), (8, u "symbol"), (0, u "C"), (2, u "values"), (0, u "()[Lcom/example/sidewager/sidewager/cards/Rank;")] 58

def k8c0 : Code := { maxStack := 1, maxLocals := 0, code := prog_40_method_1_code, exceptionTable := #[], attributes := #[] }
def k8m0 : Method := { name := "values", desc := "()[Lcom/example/sidewager/sidewager/cards/Rank;", sig := { parameters := [], returnType := some (.array (.object "com/example/sidewager/sidewager/cards/Rank")) }, accessFlags := 9, code := some k8c0 }
/-- com/example/sidewager/sidewager/cards/Rank -/
def k8 : Class := { plain "com/example/sidewager/sidewager/cards/Rank" (some 6) with
  accessFlags := 16433
  interfaces := #[]
  cf := some (fileOf pool8 1 #[] #[{ accessFlags := 9, nameIndex := 68, descriptorIndex := 69, attributes := #[] }] 16433 53 #[] #[{ accessFlags := 16409, nameIndex := 5, descriptorIndex := 6, attributes := #[] }, { accessFlags := 16409, nameIndex := 9, descriptorIndex := 6, attributes := #[] }, { accessFlags := 16409, nameIndex := 12, descriptorIndex := 6, attributes := #[] }, { accessFlags := 16409, nameIndex := 15, descriptorIndex := 6, attributes := #[] }, { accessFlags := 16409, nameIndex := 18, descriptorIndex := 6, attributes := #[] }, { accessFlags := 16409, nameIndex := 21, descriptorIndex := 6, attributes := #[] }, { accessFlags := 16409, nameIndex := 24, descriptorIndex := 6, attributes := #[] }, { accessFlags := 16409, nameIndex := 27, descriptorIndex := 6, attributes := #[] }, { accessFlags := 16409, nameIndex := 30, descriptorIndex := 6, attributes := #[] }, { accessFlags := 16409, nameIndex := 33, descriptorIndex := 6, attributes := #[] }, { accessFlags := 16409, nameIndex := 36, descriptorIndex := 6, attributes := #[] }, { accessFlags := 16409, nameIndex := 39, descriptorIndex := 6, attributes := #[] }, { accessFlags := 16409, nameIndex := 42, descriptorIndex := 6, attributes := #[] }, { accessFlags := 18, nameIndex := 64, descriptorIndex := 65, attributes := #[] }, { accessFlags := 4122, nameIndex := 45, descriptorIndex := 46, attributes := #[] }])
  fields := #[{ name := "ACE", type := (.object "com/example/sidewager/sidewager/cards/Rank"), accessFlags := 16409, slot := 0, constantValue := 0 }, { name := "TWO", type := (.object "com/example/sidewager/sidewager/cards/Rank"), accessFlags := 16409, slot := 1, constantValue := 0 }, { name := "THREE", type := (.object "com/example/sidewager/sidewager/cards/Rank"), accessFlags := 16409, slot := 2, constantValue := 0 }, { name := "FOUR", type := (.object "com/example/sidewager/sidewager/cards/Rank"), accessFlags := 16409, slot := 3, constantValue := 0 }, { name := "FIVE", type := (.object "com/example/sidewager/sidewager/cards/Rank"), accessFlags := 16409, slot := 4, constantValue := 0 }, { name := "SIX", type := (.object "com/example/sidewager/sidewager/cards/Rank"), accessFlags := 16409, slot := 5, constantValue := 0 }, { name := "SEVEN", type := (.object "com/example/sidewager/sidewager/cards/Rank"), accessFlags := 16409, slot := 6, constantValue := 0 }, { name := "EIGHT", type := (.object "com/example/sidewager/sidewager/cards/Rank"), accessFlags := 16409, slot := 7, constantValue := 0 }, { name := "NINE", type := (.object "com/example/sidewager/sidewager/cards/Rank"), accessFlags := 16409, slot := 8, constantValue := 0 }, { name := "TEN", type := (.object "com/example/sidewager/sidewager/cards/Rank"), accessFlags := 16409, slot := 9, constantValue := 0 }, { name := "JACK", type := (.object "com/example/sidewager/sidewager/cards/Rank"), accessFlags := 16409, slot := 10, constantValue := 0 }, { name := "QUEEN", type := (.object "com/example/sidewager/sidewager/cards/Rank"), accessFlags := 16409, slot := 11, constantValue := 0 }, { name := "KING", type := (.object "com/example/sidewager/sidewager/cards/Rank"), accessFlags := 16409, slot := 12, constantValue := 0 }, { name := "symbol", type := .char, accessFlags := 18, slot := 3, constantValue := 0 }, { name := "$VALUES", type := (.array (.object "com/example/sidewager/sidewager/cards/Rank")), accessFlags := 4122, slot := 13, constantValue := 0 }]
  methods := #[k8m0]
  instanceTypes := #[(.object "java/lang/String"), .int, .int, .char]
  staticTypes := #[(.object "com/example/sidewager/sidewager/cards/Rank"), (.object "com/example/sidewager/sidewager/cards/Rank"), (.object "com/example/sidewager/sidewager/cards/Rank"), (.object "com/example/sidewager/sidewager/cards/Rank"), (.object "com/example/sidewager/sidewager/cards/Rank"), (.object "com/example/sidewager/sidewager/cards/Rank"), (.object "com/example/sidewager/sidewager/cards/Rank"), (.object "com/example/sidewager/sidewager/cards/Rank"), (.object "com/example/sidewager/sidewager/cards/Rank"), (.object "com/example/sidewager/sidewager/cards/Rank"), (.object "com/example/sidewager/sidewager/cards/Rank"), (.object "com/example/sidewager/sidewager/cards/Rank"), (.object "com/example/sidewager/sidewager/cards/Rank"), (.array (.object "com/example/sidewager/sidewager/cards/Rank"))]
  resolved := Array.replicate 128 none
  statics := some 2 }

def pool9 : Array CpInfo := pool [(1, .class_ 2), (0, u "java/lang/Cloneable"), (0, .class_ 4), (0, u "java/lang/Object")] 2

/-- java/lang/Cloneable -/
def k9 : Class := { plain "java/lang/Cloneable" (some 0) with
  accessFlags := 1537
  interfaces := #[]
  cf := some (fileOf pool9 1 #[] #[] 1537 3 #[] #[])
  fields := #[]
  methods := #[]
  instanceTypes := #[]
  staticTypes := #[]
  resolved := Array.replicate 7 none
  statics := none }

def pool10 : Array CpInfo := pool [(1, .class_ 2), (0, u "java/lang/Math"), (1, .class_ 6), (1, u "java/lang/Object"), (0, u "<init>"), (0, u "()V"), (89, .class_ 100), (1, u "java/lang/Math$RandomNumberGeneratorHolder"), (71, u "negativeZeroFloatBits"), (0, u "J"), (2, u "negativeZeroDoubleBits"), (24, u "min"), (43, u "$assertionsDisabled"), (0, u "Z"), (88, u "(II)I"), (2, u "twoToTheDoubleScaleDown"), (0, u "D"), (4, u "twoToTheDoubleScaleUp"), (9, u "E"), (3, u "PI"), (2, u "TAU"), (2, u "DEGREES_TO_RADIANS"), (0, u "RADIANS_TO_DEGREES")] 94

def k10m0 : Method := { name := "<init>", desc := "()V", sig := { parameters := [], returnType := none }, accessFlags := 2, code := none }
def k10c1 : Code := { maxStack := 2, maxLocals := 2, code := jdk_29_method_69_code, exceptionTable := #[], attributes := #[] }
def k10m1 : Method := { name := "min", desc := "(II)I", sig := { parameters := [.int, .int], returnType := some .int }, accessFlags := 9, code := some k10c1 }
/-- java/lang/Math -/
def k10 : Class := { plain "java/lang/Math" (some 0) with
  accessFlags := 49
  interfaces := #[]
  cf := some (fileOf pool10 1 #[.nestMembers #[98]] #[{ accessFlags := 2, nameIndex := 7, descriptorIndex := 8, attributes := #[] }, { accessFlags := 9, nameIndex := 201, descriptorIndex := 335, attributes := #[] }] 49 4 #[] #[{ accessFlags := 25, nameIndex := 354, descriptorIndex := 339, attributes := #[] }, { accessFlags := 25, nameIndex := 358, descriptorIndex := 339, attributes := #[] }, { accessFlags := 25, nameIndex := 361, descriptorIndex := 339, attributes := #[] }, { accessFlags := 26, nameIndex := 364, descriptorIndex := 339, attributes := #[] }, { accessFlags := 26, nameIndex := 365, descriptorIndex := 339, attributes := #[] }, { accessFlags := 26, nameIndex := 172, descriptorIndex := 173, attributes := #[] }, { accessFlags := 26, nameIndex := 176, descriptorIndex := 173, attributes := #[] }, { accessFlags := 8, nameIndex := 344, descriptorIndex := 339, attributes := #[] }, { accessFlags := 8, nameIndex := 338, descriptorIndex := 339, attributes := #[] }, { accessFlags := 4120, nameIndex := 245, descriptorIndex := 246, attributes := #[] }])
  fields := #[{ name := "E", type := .double, accessFlags := 25, slot := 0, constantValue := 0 }, { name := "PI", type := .double, accessFlags := 25, slot := 1, constantValue := 0 }, { name := "TAU", type := .double, accessFlags := 25, slot := 2, constantValue := 0 }, { name := "DEGREES_TO_RADIANS", type := .double, accessFlags := 26, slot := 3, constantValue := 0 }, { name := "RADIANS_TO_DEGREES", type := .double, accessFlags := 26, slot := 4, constantValue := 0 }, { name := "negativeZeroFloatBits", type := .long, accessFlags := 26, slot := 5, constantValue := 0 }, { name := "negativeZeroDoubleBits", type := .long, accessFlags := 26, slot := 6, constantValue := 0 }, { name := "twoToTheDoubleScaleUp", type := .double, accessFlags := 8, slot := 7, constantValue := 0 }, { name := "twoToTheDoubleScaleDown", type := .double, accessFlags := 8, slot := 8, constantValue := 0 }, { name := "$assertionsDisabled", type := .boolean, accessFlags := 4120, slot := 9, constantValue := 0 }]
  methods := #[k10m0, k10m1]
  instanceTypes := #[]
  staticTypes := #[.double, .double, .double, .double, .double, .long, .long, .double, .double, .boolean]
  resolved := Array.replicate 460 none
  statics := none }

def pool11 : Array CpInfo := pool [(2, .class_ 4), (1, u "java/lang/Object"), (0, u "<init>"), (0, u "()V"), (1, .class_ 10), (1, u "java/lang/Number"), (2, .class_ 14), (0, u "java/io/Serializable"), (0, u "serialVersionUID"), (0, u "J")] 20

def k11m0 : Method := { name := "<init>", desc := "()V", sig := { parameters := [], returnType := none }, accessFlags := 1, code := none }
/-- java/lang/Number -/
def k11 : Class := { plain "java/lang/Number" (some 0) with
  accessFlags := 1057
  interfaces := #[5]
  cf := some (fileOf pool11 8 #[] #[{ accessFlags := 1, nameIndex := 5, descriptorIndex := 6, attributes := #[] }] 1057 2 #[13] #[{ accessFlags := 26, nameIndex := 15, descriptorIndex := 16, attributes := #[] }])
  fields := #[{ name := "serialVersionUID", type := .long, accessFlags := 26, slot := 0, constantValue := 0 }]
  methods := #[k11m0]
  instanceTypes := #[]
  staticTypes := #[.long]
  resolved := Array.replicate 37 none
  statics := none }

def pool12 : Array CpInfo := pool [(4, .class_ 6), (1, u "java/lang/Number"), (16, .class_ 25), (1, u "java/math/BigInteger"), (0, u "ZERO"), (0, u "Ljava/math/BigInteger;"), (2, u "mag"), (0, u "[I"), (2, u "signum"), (0, u "I"), (59, u "bitsPerDigit"), (0, u "[J"), (9, u "digitsPerInt"), (12, u "intRadix"), (60, u "SMALL_PRIME_PRODUCT"), (79, u "ONE"), (6, u "TWO"), (43, u "$assertionsDisabled"), (0, u "Z"), (36, u "posConst"), (0, u "[Ljava/math/BigInteger;"), (4, u "negConst"), (116, .class_ 474), (1, u "java/math/BigInteger$RecursiveOp"), (106, u "NEGATIVE_ONE"), (91, u "bnExpModThreshTable"), (72, u "lowestSetBitPlusTwo"), (2, u "bitLengthPlusOne"), (2, u "bitCountPlusOne"), (6, u "LOG_TWO"), (0, u "D"), (2, u "logCache"), (0, u "[D"), (13, u "NUM_ZEROS"), (2, u "ZEROS"), (0, u "Ljava/lang/String;"), (9, u "longRadix"), (5, u "digitsPerLong"), (22, u "powerCache"), (0, u "[[Ljava/math/BigInteger;"), (45, u "firstNonzeroIntNumPlusTwo"), (38, .class_ 909), (1, u "java/math/BigInteger$UnsafeHolder"), (141, u "TEN"), (106, u "serialPersistentFields"), (0, u "[Ljava/io/ObjectStreamField;"), (0, .class_ 1161), (0, u "java/lang/Comparable"), (0, u "LONG_MASK"), (0, u "J"), (1, u "MAX_MAG_LENGTH"), (0, u "PRIME_SEARCH_BIT_LENGTH_LIMIT"), (1, u "KARATSUBA_THRESHOLD"), (1, u "TOOM_COOK_THRESHOLD"), (1, u "KARATSUBA_SQUARE_THRESHOLD"), (1, u "TOOM_COOK_SQUARE_THRESHOLD"), (1, u "BURNIKEL_ZIEGLER_THRESHOLD"), (0, u "BURNIKEL_ZIEGLER_OFFSET"), (1, u "SCHOENHAGE_BASE_CONVERSION_THRESHOLD"), (1, u "MULTIPLY_SQUARE_THRESHOLD"), (0, u "MONTGOMERY_INTRINSIC_THRESHOLD"), (1, u "SMALL_PRIME_THRESHOLD"), (1, u "DEFAULT_PRIME_CERTAINTY"), (1, u "MAX_CONSTANT"), (3, u "serialVersionUID"), (338, .class_ 1532), (0, u "java/math/BigInteger$RecursiveOp$RecursiveSquare"), (0, .class_ 1534), (0, u "java/math/BigInteger$RecursiveOp$RecursiveMultiply")] 7

/-- java/math/BigInteger -/
def k12 : Class := { plain "java/math/BigInteger" (some 11) with
  accessFlags := 33
  interfaces := #[4]
  cf := some (fileOf pool12 23 #[.nestMembers #[907, 472, 1531, 1533]] #[] 33 4 #[1160] #[{ accessFlags := 16, nameIndex := 34, descriptorIndex := 35, attributes := #[] }, { accessFlags := 16, nameIndex := 30, descriptorIndex := 31, attributes := #[] }, { accessFlags := 2, nameIndex := 752, descriptorIndex := 35, attributes := #[] }, { accessFlags := 2, nameIndex := 749, descriptorIndex := 35, attributes := #[] }, { accessFlags := 2, nameIndex := 746, descriptorIndex := 35, attributes := #[] }, { accessFlags := 2, nameIndex := 868, descriptorIndex := 35, attributes := #[] }, { accessFlags := 24, nameIndex := 1162, descriptorIndex := 1163, attributes := #[] }, { accessFlags := 26, nameIndex := 1165, descriptorIndex := 35, attributes := #[] }, { accessFlags := 26, nameIndex := 1166, descriptorIndex := 35, attributes := #[] }, { accessFlags := 26, nameIndex := 1168, descriptorIndex := 35, attributes := #[] }, { accessFlags := 26, nameIndex := 1170, descriptorIndex := 35, attributes := #[] }, { accessFlags := 26, nameIndex := 1172, descriptorIndex := 35, attributes := #[] }, { accessFlags := 26, nameIndex := 1174, descriptorIndex := 35, attributes := #[] }, { accessFlags := 24, nameIndex := 1176, descriptorIndex := 35, attributes := #[] }, { accessFlags := 24, nameIndex := 1177, descriptorIndex := 35, attributes := #[] }, { accessFlags := 26, nameIndex := 1179, descriptorIndex := 35, attributes := #[] }, { accessFlags := 26, nameIndex := 1181, descriptorIndex := 35, attributes := #[] }, { accessFlags := 26, nameIndex := 1182, descriptorIndex := 35, attributes := #[] }, { accessFlags := 10, nameIndex := 95, descriptorIndex := 96, attributes := #[] }, { accessFlags := 26, nameIndex := 1184, descriptorIndex := 35, attributes := #[] }, { accessFlags := 26, nameIndex := 1186, descriptorIndex := 35, attributes := #[] }, { accessFlags := 26, nameIndex := 180, descriptorIndex := 27, attributes := #[] }, { accessFlags := 26, nameIndex := 1188, descriptorIndex := 35, attributes := #[] }, { accessFlags := 26, nameIndex := 349, descriptorIndex := 350, attributes := #[] }, { accessFlags := 26, nameIndex := 355, descriptorIndex := 350, attributes := #[] }, { accessFlags := 74, nameIndex := 821, descriptorIndex := 822, attributes := #[] }, { accessFlags := 26, nameIndex := 763, descriptorIndex := 764, attributes := #[] }, { accessFlags := 26, nameIndex := 759, descriptorIndex := 760, attributes := #[] }, { accessFlags := 25, nameIndex := 26, descriptorIndex := 27, attributes := #[] }, { accessFlags := 25, nameIndex := 260, descriptorIndex := 27, attributes := #[] }, { accessFlags := 25, nameIndex := 267, descriptorIndex := 27, attributes := #[] }, { accessFlags := 26, nameIndex := 581, descriptorIndex := 27, attributes := #[] }, { accessFlags := 25, nameIndex := 1051, descriptorIndex := 27, attributes := #[] }, { accessFlags := 8, nameIndex := 673, descriptorIndex := 31, attributes := #[] }, { accessFlags := 10, nameIndex := 778, descriptorIndex := 35, attributes := #[] }, { accessFlags := 26, nameIndex := 781, descriptorIndex := 782, attributes := #[] }, { accessFlags := 10, nameIndex := 798, descriptorIndex := 31, attributes := #[] }, { accessFlags := 10, nameIndex := 792, descriptorIndex := 350, attributes := #[] }, { accessFlags := 10, nameIndex := 106, descriptorIndex := 31, attributes := #[] }, { accessFlags := 10, nameIndex := 119, descriptorIndex := 31, attributes := #[] }, { accessFlags := 26, nameIndex := 1192, descriptorIndex := 1163, attributes := #[] }, { accessFlags := 26, nameIndex := 1158, descriptorIndex := 1159, attributes := #[] }, { accessFlags := 4120, nameIndex := 311, descriptorIndex := 312, attributes := #[] }])
  fields := #[{ name := "signum", type := .int, accessFlags := 16, slot := 0, constantValue := 0 }, { name := "mag", type := (.array .int), accessFlags := 16, slot := 1, constantValue := 0 }, { name := "bitCountPlusOne", type := .int, accessFlags := 2, slot := 2, constantValue := 0 }, { name := "bitLengthPlusOne", type := .int, accessFlags := 2, slot := 3, constantValue := 0 }, { name := "lowestSetBitPlusTwo", type := .int, accessFlags := 2, slot := 4, constantValue := 0 }, { name := "firstNonzeroIntNumPlusTwo", type := .int, accessFlags := 2, slot := 5, constantValue := 0 }, { name := "LONG_MASK", type := .long, accessFlags := 24, slot := 0, constantValue := 0 }, { name := "MAX_MAG_LENGTH", type := .int, accessFlags := 26, slot := 1, constantValue := 0 }, { name := "PRIME_SEARCH_BIT_LENGTH_LIMIT", type := .int, accessFlags := 26, slot := 2, constantValue := 0 }, { name := "KARATSUBA_THRESHOLD", type := .int, accessFlags := 26, slot := 3, constantValue := 0 }, { name := "TOOM_COOK_THRESHOLD", type := .int, accessFlags := 26, slot := 4, constantValue := 0 }, { name := "KARATSUBA_SQUARE_THRESHOLD", type := .int, accessFlags := 26, slot := 5, constantValue := 0 }, { name := "TOOM_COOK_SQUARE_THRESHOLD", type := .int, accessFlags := 26, slot := 6, constantValue := 0 }, { name := "BURNIKEL_ZIEGLER_THRESHOLD", type := .int, accessFlags := 24, slot := 7, constantValue := 0 }, { name := "BURNIKEL_ZIEGLER_OFFSET", type := .int, accessFlags := 24, slot := 8, constantValue := 0 }, { name := "SCHOENHAGE_BASE_CONVERSION_THRESHOLD", type := .int, accessFlags := 26, slot := 9, constantValue := 0 }, { name := "MULTIPLY_SQUARE_THRESHOLD", type := .int, accessFlags := 26, slot := 10, constantValue := 0 }, { name := "MONTGOMERY_INTRINSIC_THRESHOLD", type := .int, accessFlags := 26, slot := 11, constantValue := 0 }, { name := "bitsPerDigit", type := (.array .long), accessFlags := 10, slot := 12, constantValue := 0 }, { name := "SMALL_PRIME_THRESHOLD", type := .int, accessFlags := 26, slot := 13, constantValue := 0 }, { name := "DEFAULT_PRIME_CERTAINTY", type := .int, accessFlags := 26, slot := 14, constantValue := 0 }, { name := "SMALL_PRIME_PRODUCT", type := (.object "java/math/BigInteger"), accessFlags := 26, slot := 15, constantValue := 0 }, { name := "MAX_CONSTANT", type := .int, accessFlags := 26, slot := 16, constantValue := 0 }, { name := "posConst", type := (.array (.object "java/math/BigInteger")), accessFlags := 26, slot := 17, constantValue := 0 }, { name := "negConst", type := (.array (.object "java/math/BigInteger")), accessFlags := 26, slot := 18, constantValue := 0 }, { name := "powerCache", type := (.array (.array (.object "java/math/BigInteger"))), accessFlags := 74, slot := 19, constantValue := 0 }, { name := "logCache", type := (.array .double), accessFlags := 26, slot := 20, constantValue := 0 }, { name := "LOG_TWO", type := .double, accessFlags := 26, slot := 21, constantValue := 0 }, { name := "ZERO", type := (.object "java/math/BigInteger"), accessFlags := 25, slot := 22, constantValue := 0 }, { name := "ONE", type := (.object "java/math/BigInteger"), accessFlags := 25, slot := 23, constantValue := 0 }, { name := "TWO", type := (.object "java/math/BigInteger"), accessFlags := 25, slot := 24, constantValue := 0 }, { name := "NEGATIVE_ONE", type := (.object "java/math/BigInteger"), accessFlags := 26, slot := 25, constantValue := 0 }, { name := "TEN", type := (.object "java/math/BigInteger"), accessFlags := 25, slot := 26, constantValue := 0 }, { name := "bnExpModThreshTable", type := (.array .int), accessFlags := 8, slot := 27, constantValue := 0 }, { name := "NUM_ZEROS", type := .int, accessFlags := 10, slot := 28, constantValue := 0 }, { name := "ZEROS", type := (.object "java/lang/String"), accessFlags := 26, slot := 29, constantValue := 0 }, { name := "digitsPerLong", type := (.array .int), accessFlags := 10, slot := 30, constantValue := 0 }, { name := "longRadix", type := (.array (.object "java/math/BigInteger")), accessFlags := 10, slot := 31, constantValue := 0 }, { name := "digitsPerInt", type := (.array .int), accessFlags := 10, slot := 32, constantValue := 0 }, { name := "intRadix", type := (.array .int), accessFlags := 10, slot := 33, constantValue := 0 }, { name := "serialVersionUID", type := .long, accessFlags := 26, slot := 34, constantValue := 0 }, { name := "serialPersistentFields", type := (.array (.object "java/io/ObjectStreamField")), accessFlags := 26, slot := 35, constantValue := 0 }, { name := "$assertionsDisabled", type := .boolean, accessFlags := 4120, slot := 36, constantValue := 0 }]
  methods := #[]
  instanceTypes := #[.int, (.array .int), .int, .int, .int, .int]
  staticTypes := #[.long, .int, .int, .int, .int, .int, .int, .int, .int, .int, .int, .int, (.array .long), .int, .int, (.object "java/math/BigInteger"), .int, (.array (.object "java/math/BigInteger")), (.array (.object "java/math/BigInteger")), (.array (.array (.object "java/math/BigInteger"))), (.array .double), .double, (.object "java/math/BigInteger"), (.object "java/math/BigInteger"), (.object "java/math/BigInteger"), (.object "java/math/BigInteger"), (.object "java/math/BigInteger"), (.array .int), .int, (.object "java/lang/String"), (.array .int), (.array (.object "java/math/BigInteger")), (.array .int), (.array .int), .long, (.array (.object "java/io/ObjectStreamField")), .boolean]
  resolved := Array.replicate 1542 none
  statics := some 3 }

/-- the primitive byte -/
def k13 : Class := { plain "byte" none with kind := .primitive 'B', accessFlags := 0x411 }
/-- [B -/
def k14 : Class := { plain "[B" (some 0) with kind := .array 13 .byte, interfaces := #[9, 5], accessFlags := 1041 }

/-- the primitive int -/
def k15 : Class := { plain "int" none with kind := .primitive 'I', accessFlags := 0x411 }
/-- [I -/
def k16 : Class := { plain "[I" (some 0) with kind := .array 15 .int, interfaces := #[9, 5], accessFlags := 1041 }

/-- [Lcom/example/sidewager/sidewager/cards/Rank; -/
def k17 : Class := { plain "[Lcom/example/sidewager/sidewager/cards/Rank;" (some 0) with kind := .array 8 (.object "com/example/sidewager/sidewager/cards/Rank"), interfaces := #[9, 5], accessFlags := 1041 }

/-- [Ljava/math/BigInteger; -/
def k18 : Class := { plain "[Ljava/math/BigInteger;" (some 0) with kind := .array 12 (.object "java/math/BigInteger"), interfaces := #[9, 5], accessFlags := 1041 }

def heap : Heap := #[{ cls := 2, slots := #[.int 0, .int 0, .int 0, .int 4, .null], vm := .statics 2 },
  { cls := 7, slots := #[.ref 5, .ref 6, .null], vm := .statics 7 },
  { cls := 8, slots := #[.ref 7, .ref 8, .ref 9, .ref 10, .ref 11, .ref 12, .ref 13, .ref 14, .ref 15, .ref 16, .ref 17, .ref 18, .ref 19, .ref 4], vm := .statics 8 },
  { cls := 12, slots := #[.long 0, .int 0, .int 0, .int 0, .int 0, .int 0, .int 0, .int 0, .int 0, .int 0, .int 0, .int 0, .null, .int 0, .int 0, .null, .int 0, .null, .null, .null, .null, .double 0, .null, .ref 21, .null, .null, .null, .null, .int 0, .null, .null, .null, .null, .null, .long 0, .null, .int 0], vm := .statics 12 },
  { cls := 17, slots := #[.ref 7, .ref 8, .ref 9, .ref 10, .ref 11, .ref 12, .ref 13, .ref 14, .ref 15, .ref 16, .ref 17, .ref 18, .ref 19], vm := .none },
  { cls := 7, slots := #[.null, .int 0, .int 0], vm := .none },
  { cls := 7, slots := #[.null, .int 1, .int 0], vm := .none },
  { cls := 8, slots := #[.null, .int 0, .int 0, .int 0], vm := .none },
  { cls := 8, slots := #[.null, .int 1, .int 0, .int 0], vm := .none },
  { cls := 8, slots := #[.null, .int 2, .int 0, .int 0], vm := .none },
  { cls := 8, slots := #[.null, .int 3, .int 0, .int 0], vm := .none },
  { cls := 8, slots := #[.null, .int 4, .int 0, .int 0], vm := .none },
  { cls := 8, slots := #[.null, .int 5, .int 0, .int 0], vm := .none },
  { cls := 8, slots := #[.null, .int 6, .int 0, .int 0], vm := .none },
  { cls := 8, slots := #[.null, .int 7, .int 0, .int 0], vm := .none },
  { cls := 8, slots := #[.null, .int 8, .int 0, .int 0], vm := .none },
  { cls := 8, slots := #[.null, .int 9, .int 0, .int 0], vm := .none },
  { cls := 8, slots := #[.null, .int 10, .int 0, .int 0], vm := .none },
  { cls := 8, slots := #[.null, .int 11, .int 0, .int 0], vm := .none },
  { cls := 8, slots := #[.null, .int 12, .int 0, .int 0], vm := .none },
  { cls := 16, slots := #[.int 1], vm := .none },
  { cls := 12, slots := #[.int 1, .ref 20, .int 0, .int 0, .int 0, .int 0], vm := .none }]
def classes : Array Class := #[k0, k1, k2, k3, k4, k5, k6, k7, k8, k9, k10, k11, k12, k13, k14, k15, k16, k17, k18]
def interned : List (Array UInt16 × Addr) := []
def slotsUsed : Nat := 137
def theMethod : MethodId := ⟨1, 4⟩
def args0 : Array Value := #[.int 0, .int 0, .int 0, .int 0]
def aboutOver (below : List Frame) : State where
  vm := { classes := classes, interned := interned.toArray }
  heap := heap
  slotsUsed := slotsUsed
  threads := #[{ frames := .invoking theMethod args0 :: below }]
def below0 : List Frame := [.native { method := ⟨0, 0⟩, args := #[] }]
def about1 : State := aboutOver below0
def p0 : Program := .bare "" "" ""
def e0 : Env := launch0.env 0 0 0
theorem w_frames : about1.frames = Frame.invoking theMethod args0 :: below0 := rfl
set_option maxRecDepth 65536 in
theorem w_args : argsFit about1.vm theMethod args0 = true := by decide +kernel
set_option maxRecDepth 65536 in
theorem w_heap : heapFits about1 = true := by decide +kernel
set_option maxRecDepth 65536 in
theorem w_runnable : about1.curStatus? = some .runnable := by decide +kernel
set_option maxRecDepth 65536 in
theorem w_alone : about1.alone = true := by decide +kernel
set_option maxRecDepth 65536 in
theorem w_named : about1.methodNamed? x = some theMethod := by decide +kernel
set_option maxRecDepth 65536 in
theorem w_hears : about1.hears theMethod below0 = true := by decide +kernel
set_option maxRecDepth 65536 in
theorem w_ripe : about1.ripe theMethod args0 below0 = true := by decide +kernel
theorem w_running : about1.status = .running := rfl
set_option maxRecDepth 65536 in
theorem w_room : about1.hasRoom e0.platform room_1 = true :=
  launch0.hasRoom_least _ room_1 (by decide +kernel) (by decide +kernel) (by decide +kernel) (by decide +kernel) (by decide +kernel) (by decide +kernel)
theorem allAtoms_all (ts : List Jvm.Cond) (a : Array Jvm.Value) (st : Jvm.State) : (allAtoms ts).before a st = ts.all (fun c => c.before a st) := by
  induction ts with
  | nil => rfl
  | cons c t ih =>
    show (Jvm.Cond.and c (allAtoms t)).before a st = _
    rw [Jvm.Cond.before_and, ih, List.all_cons]
def words1 : List Jvm.Cond := Jvm.Cond.code x code maxLocals ret :: tables_1
/-- a 'code' word, met by the world's own term for the bytes: nothing is compared byte by byte -/
theorem code_word {y : MethodName} {bytes : ByteArray} {mx : Nat} {rt : Option FieldType} {a : Array Value} {s : State} {m : MethodId} {meth : Method} {c : Code} (h1 : s.methodNamed? y = some m) (h2 : s.vm.method? m = some meth) (h3 : meth.code = some c) (h4 : c.code = bytes)
    (h5 : (c.maxLocals == mx && c.exceptionTable.isEmpty && decide (c.maxStack ≤ mostOperands) && decide (meth.sig.returnType = rt) && !meth.locks && decide (parseMethodDescriptor y.desc = some meth.sig)) = true) : (Jvm.Cond.code y bytes mx rt).before a s = true := by
  simp only [Bool.and_eq_true, beq_iff_eq, Bool.not_eq_true', decide_eq_true_eq] at h5
  obtain ⟨⟨⟨⟨⟨g1, g2⟩, g3⟩, g4⟩, g5⟩, g6⟩ := h5
  simp [Cond.before, Cond.holds, Cond.value, h1, h2, h3, h4, g1, g2, g3, g4, g5, g6]
def isCode : Jvm.Cond → Bool
  | .code _ _ _ _ => true
  | _ => false
theorem all_split {L : List Jvm.Cond} {P : Jvm.Cond → Bool} (h1 : L.all (fun c => isCode c || P c) = true) (h2 : ∀ c ∈ L.filter isCode, P c = true) : L.all P = true := by
  refine List.all_eq_true.mpr fun c hc => ?_
  have h := List.all_eq_true.mp h1 c hc
  rcases Bool.eq_false_or_eq_true (isCode c) with hi | hi
  · exact h2 c (List.mem_filter.mpr ⟨hc, hi⟩)
  · simpa [hi] using h
set_option maxRecDepth 65536 in
theorem w_c0 : (Jvm.Cond.code x code maxLocals ret).before args0 about1 = true := code_word (m := ⟨1, 4⟩) (meth := k1m4) (c := k1c4) (by decide +kernel) rfl rfl rfl (by decide +kernel)
set_option maxRecDepth 65536 in
theorem w_c1 : (Jvm.Cond.code ({ cls := "com/example/sidewager/sidewager/analysis/Shoe", name := "<init>", desc := "(IILcom/example/sidewager/sidewager/analysis/Shoe$Suits;)V" } : Jvm.MethodName) prog_12_method_2_code (12 : Nat) (Option.none : Option Jvm.ClassFile.FieldType)).before args0 about1 = true := code_word (m := ⟨2, 0⟩) (meth := k2m0) (c := k2c0) (by decide +kernel) rfl rfl rfl (by decide +kernel)
set_option maxRecDepth 65536 in
theorem w_c2 : (Jvm.Cond.code ({ cls := "java/lang/Object", name := "<init>", desc := "()V" } : Jvm.MethodName) object_method_1_code (1 : Nat) (Option.none : Option Jvm.ClassFile.FieldType)).before args0 about1 = true := code_word (m := ⟨0, 0⟩) (meth := k0m0) (c := k0c0) (by decide +kernel) rfl rfl rfl (by decide +kernel)
set_option maxRecDepth 65536 in
theorem w_c3 : (Jvm.Cond.code ({ cls := "com/example/sidewager/sidewager/cards/Rank", name := "values", desc := "()[Lcom/example/sidewager/sidewager/cards/Rank;" } : Jvm.MethodName) prog_40_method_1_code (0 : Nat) (Option.some (Jvm.ClassFile.FieldType.array (Jvm.ClassFile.FieldType.object "com/example/sidewager/sidewager/cards/Rank")))).before args0 about1 = true := code_word (m := ⟨8, 0⟩) (meth := k8m0) (c := k8c0) (by decide +kernel) rfl rfl rfl (by decide +kernel)
set_option maxRecDepth 65536 in
theorem w_c4 : (Jvm.Cond.code ({ cls := "com/example/sidewager/sidewager/analysis/Shoe", name := "kindOf", desc := "(Lcom/example/sidewager/sidewager/cards/Rank;)I" } : Jvm.MethodName) prog_12_method_3_code (1 : Nat) (Option.some Jvm.ClassFile.FieldType.int)).before args0 about1 = true := code_word (m := ⟨2, 1⟩) (meth := k2m1) (c := k2c1) (by decide +kernel) rfl rfl rfl (by decide +kernel)
set_option maxRecDepth 65536 in
theorem w_c5 : (Jvm.Cond.code ({ cls := "java/lang/Enum", name := "ordinal", desc := "()I" } : Jvm.MethodName) jdk_37_method_2_code (1 : Nat) (Option.some Jvm.ClassFile.FieldType.int)).before args0 about1 = true := code_word (m := ⟨6, 0⟩) (meth := k6m0) (c := k6c0) (by decide +kernel) rfl rfl rfl (by decide +kernel)
set_option maxRecDepth 65536 in
theorem w_c6 : (Jvm.Cond.code ({ cls := "java/lang/Math", name := "min", desc := "(II)I" } : Jvm.MethodName) jdk_29_method_69_code (2 : Nat) (Option.some Jvm.ClassFile.FieldType.int)).before args0 about1 = true := code_word (m := ⟨10, 1⟩) (meth := k10m1) (c := k10c1) (by decide +kernel) rfl rfl rfl (by decide +kernel)
set_option maxRecDepth 65536 in
theorem w_c7 : (Jvm.Cond.code ({ cls := "com/example/sidewager/sidewager/analysis/ShoeHoldsPinLaw", name := "full", desc := "(ZII)I" } : Jvm.MethodName) method_2_code (3 : Nat) (Option.some Jvm.ClassFile.FieldType.int)).before args0 about1 = true := code_word (m := ⟨1, 1⟩) (meth := k1m1) (c := k1c1) (by decide +kernel) rfl rfl rfl (by decide +kernel)
set_option maxRecDepth 65536 in
theorem w_c8 : (Jvm.Cond.code ({ cls := "com/example/sidewager/sidewager/analysis/Shoe", name := "holds", desc := "([I)Z" } : Jvm.MethodName) prog_12_method_16_code (7 : Nat) (Option.some Jvm.ClassFile.FieldType.boolean)).before args0 about1 = true := code_word (m := ⟨2, 6⟩) (meth := k2m6) (c := k2c6) (by decide +kernel) rfl rfl rfl (by decide +kernel)
set_option maxRecDepth 65536 in
theorem w_c9 : (Jvm.Cond.code ({ cls := "com/example/sidewager/sidewager/analysis/Shoe", name := "dealt", desc := "()I" } : Jvm.MethodName) prog_12_method_13_code (1 : Nat) (Option.some Jvm.ClassFile.FieldType.int)).before args0 about1 = true := code_word (m := ⟨2, 3⟩) (meth := k2m3) (c := k2c3) (by decide +kernel) rfl rfl rfl (by decide +kernel)
set_option maxRecDepth 65536 in
theorem w_c10 : (Jvm.Cond.code ({ cls := "com/example/sidewager/sidewager/analysis/ShoeHoldsPinLaw", name := "cnt", desc := "(IIIII)I" } : Jvm.MethodName) method_4_code (6 : Nat) (Option.some Jvm.ClassFile.FieldType.int)).before args0 about1 = true := code_word (m := ⟨1, 3⟩) (meth := k1m3) (c := k1c3) (by decide +kernel) rfl rfl rfl (by decide +kernel)
set_option maxRecDepth 65536 in
theorem w_c11 : (Jvm.Cond.code ({ cls := "com/example/sidewager/sidewager/analysis/ShoeHoldsPinLaw", name := "left", desc := "(ZIIII)I" } : Jvm.MethodName) method_3_code (5 : Nat) (Option.some Jvm.ClassFile.FieldType.int)).before args0 about1 = true := code_word (m := ⟨1, 2⟩) (meth := k1m2) (c := k1c2) (by decide +kernel) rfl rfl rfl (by decide +kernel)
set_option maxRecDepth 65536 in
theorem w_c12 : (Jvm.Cond.code ({ cls := "com/example/sidewager/sidewager/analysis/Shoe", name := "deal", desc := "(I)V" } : Jvm.MethodName) prog_12_method_17_code (3 : Nat) (Option.none : Option Jvm.ClassFile.FieldType)).before args0 about1 = true := code_word (m := ⟨2, 7⟩) (meth := k2m7) (c := k2c7) (by decide +kernel) rfl rfl rfl (by decide +kernel)
set_option maxRecDepth 65536 in
theorem w_c13 : (Jvm.Cond.code ({ cls := "com/example/sidewager/sidewager/analysis/Shoe", name := "ways", desc := "(I)I" } : Jvm.MethodName) prog_12_method_14_code (2 : Nat) (Option.some Jvm.ClassFile.FieldType.int)).before args0 about1 = true := code_word (m := ⟨2, 4⟩) (meth := k2m4) (c := k2c4) (by decide +kernel) rfl rfl rfl (by decide +kernel)
set_option maxRecDepth 65536 in
theorem w_c14 : (Jvm.Cond.code ({ cls := "com/example/sidewager/sidewager/analysis/Shoe", name := "suitsStoodFor", desc := "(I)I" } : Jvm.MethodName) prog_12_method_15_code (4 : Nat) (Option.some Jvm.ClassFile.FieldType.int)).before args0 about1 = true := code_word (m := ⟨2, 5⟩) (meth := k2m5) (c := k2c5) (by decide +kernel) rfl rfl rfl (by decide +kernel)
set_option maxRecDepth 65536 in
theorem w_c15 : (Jvm.Cond.code ({ cls := "com/example/sidewager/sidewager/analysis/Shoe", name := "keyOf", desc := "(I)J" } : Jvm.MethodName) prog_12_method_5_code (1 : Nat) (Option.some Jvm.ClassFile.FieldType.long)).before args0 about1 = true := code_word (m := ⟨2, 2⟩) (meth := k2m2) (c := k2c2) (by decide +kernel) rfl rfl rfl (by decide +kernel)
def codes1 : List Jvm.Cond := [Jvm.Cond.code x code maxLocals ret, Jvm.Cond.code ({ cls := "com/example/sidewager/sidewager/analysis/Shoe", name := "<init>", desc := "(IILcom/example/sidewager/sidewager/analysis/Shoe$Suits;)V" } : Jvm.MethodName) prog_12_method_2_code (12 : Nat) (Option.none : Option Jvm.ClassFile.FieldType), Jvm.Cond.code ({ cls := "java/lang/Object", name := "<init>", desc := "()V" } : Jvm.MethodName) object_method_1_code (1 : Nat) (Option.none : Option Jvm.ClassFile.FieldType), Jvm.Cond.code ({ cls := "com/example/sidewager/sidewager/cards/Rank", name := "values", desc := "()[Lcom/example/sidewager/sidewager/cards/Rank;" } : Jvm.MethodName) prog_40_method_1_code (0 : Nat) (Option.some (Jvm.ClassFile.FieldType.array (Jvm.ClassFile.FieldType.object "com/example/sidewager/sidewager/cards/Rank"))), Jvm.Cond.code ({ cls := "com/example/sidewager/sidewager/analysis/Shoe", name := "kindOf", desc := "(Lcom/example/sidewager/sidewager/cards/Rank;)I" } : Jvm.MethodName) prog_12_method_3_code (1 : Nat) (Option.some Jvm.ClassFile.FieldType.int), Jvm.Cond.code ({ cls := "java/lang/Enum", name := "ordinal", desc := "()I" } : Jvm.MethodName) jdk_37_method_2_code (1 : Nat) (Option.some Jvm.ClassFile.FieldType.int), Jvm.Cond.code ({ cls := "java/lang/Math", name := "min", desc := "(II)I" } : Jvm.MethodName) jdk_29_method_69_code (2 : Nat) (Option.some Jvm.ClassFile.FieldType.int), Jvm.Cond.code ({ cls := "com/example/sidewager/sidewager/analysis/ShoeHoldsPinLaw", name := "full", desc := "(ZII)I" } : Jvm.MethodName) method_2_code (3 : Nat) (Option.some Jvm.ClassFile.FieldType.int), Jvm.Cond.code ({ cls := "com/example/sidewager/sidewager/analysis/Shoe", name := "holds", desc := "([I)Z" } : Jvm.MethodName) prog_12_method_16_code (7 : Nat) (Option.some Jvm.ClassFile.FieldType.boolean), Jvm.Cond.code ({ cls := "com/example/sidewager/sidewager/analysis/Shoe", name := "dealt", desc := "()I" } : Jvm.MethodName) prog_12_method_13_code (1 : Nat) (Option.some Jvm.ClassFile.FieldType.int), Jvm.Cond.code ({ cls := "com/example/sidewager/sidewager/analysis/ShoeHoldsPinLaw", name := "cnt", desc := "(IIIII)I" } : Jvm.MethodName) method_4_code (6 : Nat) (Option.some Jvm.ClassFile.FieldType.int), Jvm.Cond.code ({ cls := "com/example/sidewager/sidewager/analysis/ShoeHoldsPinLaw", name := "left", desc := "(ZIIII)I" } : Jvm.MethodName) method_3_code (5 : Nat) (Option.some Jvm.ClassFile.FieldType.int), Jvm.Cond.code ({ cls := "com/example/sidewager/sidewager/analysis/Shoe", name := "deal", desc := "(I)V" } : Jvm.MethodName) prog_12_method_17_code (3 : Nat) (Option.none : Option Jvm.ClassFile.FieldType), Jvm.Cond.code ({ cls := "com/example/sidewager/sidewager/analysis/Shoe", name := "ways", desc := "(I)I" } : Jvm.MethodName) prog_12_method_14_code (2 : Nat) (Option.some Jvm.ClassFile.FieldType.int), Jvm.Cond.code ({ cls := "com/example/sidewager/sidewager/analysis/Shoe", name := "suitsStoodFor", desc := "(I)I" } : Jvm.MethodName) prog_12_method_15_code (4 : Nat) (Option.some Jvm.ClassFile.FieldType.int), Jvm.Cond.code ({ cls := "com/example/sidewager/sidewager/analysis/Shoe", name := "keyOf", desc := "(I)J" } : Jvm.MethodName) prog_12_method_5_code (1 : Nat) (Option.some Jvm.ClassFile.FieldType.long)]
set_option maxRecDepth 65536 in
theorem codes_eq : words1.filter isCode = codes1 := rfl
theorem w_codes : ∀ c ∈ words1.filter isCode, c.before args0 about1 = true := by
  rw [codes_eq]
  intro c hc
  simp only [codes1, List.mem_cons, List.not_mem_nil, or_false] at hc
  rcases hc with rfl | rfl | rfl | rfl | rfl | rfl | rfl | rfl | rfl | rfl | rfl | rfl | rfl | rfl | rfl | rfl
  · exact w_c0
  · exact w_c1
  · exact w_c2
  · exact w_c3
  · exact w_c4
  · exact w_c5
  · exact w_c6
  · exact w_c7
  · exact w_c8
  · exact w_c9
  · exact w_c10
  · exact w_c11
  · exact w_c12
  · exact w_c13
  · exact w_c14
  · exact w_c15
set_option maxRecDepth 65536 in
theorem w_t1 : (words1.take 24).all (fun c => isCode c || c.before args0 about1) = true := by decide +kernel
set_option maxRecDepth 65536 in
theorem w_t2 : ((words1.drop 24).take 24).all (fun c => isCode c || c.before args0 about1) = true := by decide +kernel
set_option maxRecDepth 65536 in
theorem w_t3 : (((words1.drop 24).drop 24).take 24).all (fun c => isCode c || c.before args0 about1) = true := by decide +kernel
set_option maxRecDepth 65536 in
theorem w_t4 : ((((words1.drop 24).drop 24).drop 24).take 24).all (fun c => isCode c || c.before args0 about1) = true := by decide +kernel
set_option maxRecDepth 65536 in
theorem w_t5 : (((((words1.drop 24).drop 24).drop 24).drop 24).take 24).all (fun c => isCode c || c.before args0 about1) = true := by decide +kernel
set_option maxRecDepth 65536 in
theorem w_t6 : (((((words1.drop 24).drop 24).drop 24).drop 24).drop 24).all (fun c => isCode c || c.before args0 about1) = true := by decide +kernel
theorem w_tables : (allAtoms (Jvm.Cond.code x code maxLocals ret :: tables_1)).before args0 about1 = true := by
  rw [allAtoms_all]
  show words1.all (fun c => c.before args0 about1) = true
  refine all_split ?_ w_codes
  rw [← List.take_append_drop 24 words1, List.all_append, w_t1, ← List.take_append_drop 24 (words1.drop 24), List.all_append, w_t2, ← List.take_append_drop 24 ((words1.drop 24).drop 24), List.all_append, w_t3, ← List.take_append_drop 24 (((words1.drop 24).drop 24).drop 24), List.all_append, w_t4, ← List.take_append_drop 24 ((((words1.drop 24).drop 24).drop 24).drop 24), List.all_append, w_t5, w_t6]
  rfl
set_option maxRecDepth 65536 in
theorem w_rest : rest_1_c.before args0 about1 = true := by decide +kernel
set_option maxRecDepth 65536 in
theorem w_case : (Jvm.Cond.and given_1 narrow_1).before args0 about1 = true := by decide +kernel
theorem w_applies : (headSpec (Jvm.Cond.code x code maxLocals ret :: tables_1) room_1).applies x e0.platform about1 = true :=
  (Spec.applies_iff w_frames).mpr ⟨w_running, w_runnable, w_alone, w_named, w_hears, w_ripe, w_room, w_tables⟩
theorem atStart : AtStart classFile x code maxLocals ret World_1 tables_1 room_1 Calls_1 rest_1 Pre_1 launch0 p0 e0 about1 theMethod args0 below0 :=
  ⟨lists_1, trivial, launch0.admits_env _ _ _, launch0.least_env, fairChoices_fair.cas, fairChoices_fair.clock, w_frames, w_args, w_heap, w_applies, trivial, w_rest, w_case⟩
end start1
theorem witness_1 : WitnessClaimed_1 := ⟨start1.p0, start1.e0, start1.about1, start1.theMethod, start1.args0, start1.below0, start1.atStart⟩
end Jvm.Pilot.@@N@@
