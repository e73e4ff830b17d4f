import JvmDerived
import JvmDerived.Pilot.@@N@@Statement
import JvmDerived.Pilot.@@N@@Code
set_option linter.unusedVariables false
set_option linter.unusedSimpArgs false
namespace Jvm.Pilot.@@N@@
open Jvm Jvm.ClassFile Sem Op Lib Jvm.Free Jvm.Stand Jvm.LawKit Jvm.RoadKit Bundle Jvm.Pilot.@@N@@.Jvm.D
section OwnRun
variable {p : Program} {l : Launch} {e : Env} {R : Room} {s : State} {m : MethodId} {args : Array Value} {below : List Frame} {meth : Method} {c : Code} {T : State} {locs : List Loc} {cells slots : Nat}
/-- from S the run comes to its end, and there Q holds -/
def Run (p : Program) (e : Env) (below : List Frame) (Q : State → Outcome → Prop) (S : State) : Prop := ∃ s₂ o, Steps p.tables e below S s₂ ∧ s₂.status = .running ∧ Ended s₂ below o ∧ Q s₂ o
def Ends (s : State) (Qb : Option Value → Heap → List Loc → Prop) (C S : Nat) : State → Outcome → Prop := fun s₂ o => ∃ v L, o = .returned v ∧ Qb v s₂.heap L ∧ FrameEnd s o s₂ L C S
theorem Run.st {Q : State → Outcome → Prop} {S S' : State} (h : ∀ t, Steps p.tables e below S' t → Steps p.tables e below S t) (r : Run p e below Q S') : Run p e below Q S := by
  obtain ⟨a, b, c, d⟩ := r
  exact ⟨a, b, h _ c, d⟩
theorem Run.out (X : Stand p l e R s m args below meth c T locs cells slots) (hx : p.tables.exec = Jvm.exec) {Qb : Option Value → Heap → List Loc → Prop} {C S : Nat} {pc : Nat} {Ls : Array Slot} {w : Value} {t : FieldType} {i : Instr} {rest : List Value} (hlocks : meth.locks = false) (hret : meth.sig.returnType = some t) (hn : narrow t w = w)
    (hi : (i = .ireturn ∧ (t = .int ∨ t = .boolean ∨ t = .byte ∨ t = .char ∨ t = .short) ∧ ∃ z, w = .int z) ∨ (i = .lreturn ∧ t = .long ∧ ∃ z, w = .long z) ∨ (i = .dreturn ∧ t = .double ∧ ∃ z, w = .double z) ∨ (i = .freturn ∧ t = .float ∧ ∃ z, w = .float z) ∨ (i = .areturn ∧ t.isReference = true ∧ w.isRef = true))
    (hd : decode c.code pc = .ok (i, 1)) (hC : cells ≤ C) (hS : slots ≤ S) (hq : Qb (some w) T.heap locs) : Run p e below (Ends s Qb C S) (T.setTop (mkF m pc Ls (w :: rest))) := by
  obtain ⟨fs, hr, hrun, hended, hW, hsame⟩ := X.leave (v := some w) (fun h => by rw [hret] at h; cases h) hlocks
  exact ⟨_, _, retOut X hx hret hn hi hd hr, hrun, hended, _, _, rfl, hq, ⟨_, rfl⟩, hW, hsame.mono hC hS⟩
theorem Run.outV (X : Stand p l e R s m args below meth c T locs cells slots) (hx : p.tables.exec = Jvm.exec) {Qb : Option Value → Heap → List Loc → Prop} {C S : Nat} {pc : Nat} {Ls : Array Slot} (hlocks : meth.locks = false) (hret : meth.sig.returnType = none)
    (hd : decode c.code pc = .ok (.return_, 1)) (hC : cells ≤ C) (hS : slots ≤ S) (hq : Qb none T.heap locs) : Run p e below (Ends s Qb C S) (T.setTop (mkF m pc Ls [])) := by
  obtain ⟨fs, hr, hrun, hended, hW, hsame⟩ := X.leave (v := none) (fun _ => rfl) hlocks
  exact ⟨_, _, X.returnOut hx hret hd hr, hrun, hended, _, _, rfl, hq, ⟨_, rfl⟩, hW, hsame.mono hC hS⟩
theorem lcYes {cd : ClassFile.Cond} {x y : Int64} {b : Bool} (h : ifCond.holds cd (Jvm.Free.XT.cmpL x y) = b) : ifCond.holds cd (lcmpW x y) = b := h
theorem nb01 {P : Prop} [Decidable P] : narrow .boolean (.int (if P then (1 : Int32) else (0 : Int32))) = .int (if P then (1 : Int32) else (0 : Int32)) := by split <;> rfl
theorem staK {Z : State} {h h' : Heap} {C n d : String} {v : Value} {ws : List Addr} (F : Sta Z h C n d v) (K : Keep h h' ws) (q : ∀ x ∈ ws, ∀ c : Cell, h[x]? = some c → c.vm.isStatics = false) : Sta Z h' C n d v := by
  obtain ⟨cf, i, k, f, st, cell, h1, h2, h3, h4, h5, h6, h7⟩ := F
  refine ⟨cf, i, k, f, st, cell, h1, h2, h3, h4, K.2.1 st cell h5 (fun m => ?_), h6, h7⟩
  have := q st m cell h5
  rw [h6] at this
  cases this
theorem exaP {Z : State} {h : Heap} {a : Addr} {C : String} (E : Exa Z h a C) : ∀ c : Cell, h[a]? = some c → c.vm.isStatics = false := fun c hc => by
  obtain ⟨cell, k, h1, -, -, h4, -⟩ := E
  cases h1.symm.trans hc
  exact h4
theorem arvP {Z : State} {h : Heap} {a : Addr} {k : ClassId} {ty : FieldType} {n : Int32} {vs : List Value} {d : Value} (E : Arv Z h a k ty n vs d) : ∀ c : Cell, h[a]? = some c → c.vm.isStatics = false := fun c hc => by
  obtain ⟨cell, A, -⟩ := E
  cases A.1.symm.trans hc
  exact A.plain
theorem selSelf {s : State} {args : Array Value} {y : MethodName} {n : Nat} (wi : (Jvm.Cond.instantiable y.cls n).before args s = true) (hp : s.PrivateAt y) (hi : (Jvm.Cond.instanceMethod y).before args s = true) (hy : y.cls ≠ "java/lang/invoke/MethodHandle" ∧ y.cls ≠ "java/lang/invoke/VarHandle") : (Jvm.Cond.selects y.cls y y).before args s = true := by
  obtain ⟨c, k, h1, h2, -, h4, -⟩ := Cond.instantiable_spec wi
  rw [Bool.or_eq_false_iff] at h4
  exact selects_self_of_private h1 h2 h4.1 hp hi hy
theorem own_lsw {tb : Tables} [Ours tb] {e : Env} {below : List Frame} {T target : State} {m : MethodId} {c : Code} {g : JFrame} (h : At T m c below) (hx : tb.exec = Jvm.exec) (hg : g.method = m) {dflt : Int} {ps : Array (Int × Int)} {len : Nat} {o : Int} {pc0 pc' : Nat} (hpc : g.pc = pc0) (hd : decode c.code g.pc = .ok (.lookupswitch dflt ps, len)) {i : Int32} {rest : List Value} (hs : g.stack = .int i :: rest)
    (hsort : ∀ q ∈ ps.toList.zip ps.toList.tail, q.1.1 < q.2.1) (hoff : lookupswitch.offset ps.toList dflt i.toInt = o) (ho : 0 ≤ (pc0 : Int) + o) (hp : ((pc0 : Int) + o).toNat = pc')
    (hr : Steps tb e below (T.setTop { g with pc := pc', stack := rest }) target) : Steps tb e below (T.setTop g) target := by
  subst hg hpc hp
  jvm_step h [h.top, hx, hd, hs, hoff, ho, lookupswitch.wp_chain]
  exact ⟨fun a b a1 b1 q => hsort _ q, hr⟩
theorem ord_v {args : Array Value} {s : State} {t : Term} {C n d : String} {k : Int32} {a : Addr} (ht : t.eval args s none [] s = some (.ref a)) (h : (Jvm.Cond.eq (.field t C n d) (.int k)).value args s none s [] = some true) : Fld s s.heap a C n d (.int k) := by
  refine Fld.start ?_
  rw [← fld_at (C := C) (n := n) (dd := d) ht]
  simp only [Cond.value] at h
  cases hv : (Term.field t C n d).eval args s none [] s with
  | none => simp [hv] at h
  | some v => cases v <;> simp_all [Term.eval]
theorem arr_len {args : Array Value} {s : State} {t : Term} {a : Addr} {cl : Cell} {ty : FieldType} {n : Int32} (ht : t.eval args s none [] s = some (.ref a)) (A : Arr s s.heap a cl ty) (h : (Jvm.Cond.eq (.length t) (.int n)).value args s none s [] = some true) : cl.slots.size < 2 ^ 31 ∧ cl.slots.size.toInt32 = n := by
  have ha := A.fin (Vm.Alike.refl s.vm)
  by_cases q : cl.slots.size < 2 ^ 31
  · refine ⟨q, ?_⟩
    have e := len_f ht ha q
    have e2 : (Term.int n).eval args s none [] s = some (.int n) := rfl
    simp only [Cond.value, e, e2] at h
    simpa using h
  · simp [Cond.value, Term.eval, ht, ha, q] at h
theorem arr_elR {args : Array Value} {s : State} {t u : Term} {a b : Addr} {cl : Cell} {ty : FieldType} {j : Int32} (ht : t.eval args s none [] s = some (.ref a)) (A : Arr s s.heap a cl ty) (h : (Jvm.Cond.eq (.elem t (.int j)) u).value args s none s [] = some true) (hu : u.eval args s none [] s = some (.ref b)) (hj : ¬ j < 0) : cl.slots[j.toNatClampNeg]? = some (.ref b) := by
  have ha := A.fin (Vm.Alike.refl s.vm)
  have e : (Term.elem t (.int j)).eval args s none [] s = cl.slots[j.toNatClampNeg]? := elem_f ht rfl ha hj
  simp only [Cond.value, hu, e] at h
  cases hv : cl.slots[j.toNatClampNeg]? with
  | none => simp [hv] at h
  | some v => cases v <;> simp_all
theorem arr_elI {args : Array Value} {s : State} {t : Term} {a : Addr} {cl : Cell} {ty : FieldType} {j k : Int32} (ht : t.eval args s none [] s = some (.ref a)) (A : Arr s s.heap a cl ty) (h : (Jvm.Cond.eq (.elem t (.int j)) (.int k)).value args s none s [] = some true) (hj : ¬ j < 0) : cl.slots[j.toNatClampNeg]? = some (.int k) := by
  have ha := A.fin (Vm.Alike.refl s.vm)
  have e : (Term.elem t (.int j)).eval args s none [] s = cl.slots[j.toNatClampNeg]? := elem_f ht rfl ha hj
  have e2 : (Term.int k).eval args s none [] s = some (.int k) := rfl
  simp only [Cond.value, e, e2] at h
  cases hv : cl.slots[j.toNatClampNeg]? with
  | none => simp [hv] at h
  | some v => cases v <;> simp_all
theorem inb32 {j z : Int32} {n : Int} (hz : z.toInt = n) (h0 : 0 ≤ j.toInt) (h1 : j.toInt < n) : ¬ j < 0 ∧ j < z := by
  rw [Int32.lt_iff_toInt_lt, Int32.lt_iff_toInt_lt, hz]
  have : (0 : Int32).toInt = 0 := by decide
  omega
theorem own_nn {n : Int32} (h : 0 ≤ n.toInt) : ¬ n < 0 := by
  rw [Int32.lt_iff_toInt_lt]
  have : (0 : Int32).toInt = 0 := by decide
  omega
theorem own_cap {n : Int32} {c : Nat} (h : n.toInt < (c : Int) + 1) : n.toNatClampNeg ≤ c := by
  simp only [Int32.toNatClampNeg]
  omega
theorem own_fin (x : Int32) (n : Nat) (hn : n < 2147483648) (h0 : 0 ≤ x.toInt) (h1 : x.toInt < n) : ∃ i : Fin n, x = Int32.ofNat i.1 := by
  refine ⟨⟨x.toInt.toNat, by omega⟩, Int32.toInt_inj.mp ?_⟩
  show x.toInt = (Int32.ofNat x.toInt.toNat).toInt
  rw [Int32.toInt_ofNat_small (by omega)]
  omega
end OwnRun
theorem d1_0 : decode method_2_code 0 = .ok (.iload_n 0, 1) := by decide +kernel
theorem d1_1 : decode method_2_code 1 = .ok (.bipush 21, 2) := by decide +kernel
theorem d1_3 : decode method_2_code 3 = .ok (.if_icmp .le 5, 3) := by decide +kernel
theorem d1_6 : decode method_2_code 6 = .ok (.lload_n 1, 1) := by decide +kernel
theorem d1_7 : decode method_2_code 7 = .ok (.lreturn, 1) := by decide +kernel
theorem d1_8 : decode method_2_code 8 = .ok (.iload_n 0, 1) := by decide +kernel
theorem d1_9 : decode method_2_code 9 = .ok (.i2l, 1) := by decide +kernel
theorem d1_10 : decode method_2_code 10 = .ok (.lreturn, 1) := by decide +kernel
theorem pn_0 : plainName "com/example/sidewager/sidewager/blackjack/ResultOfTotalsPinLaw" = true := by first | (simp [plainName, overriddenIn]; done) | decide +kernel
theorem ef_1 (m : MethodId) (p0 : Int32) (q1 : Int64) : entryFrame m #[(.int p0), (.long q1)] 3 = mkF m 0 #[.val (.int p0), .val (.long q1), .second] [] := by first | (simp [entryFrame, mkF, argsToLocals, Value.category]; done) | rfl
def F1 (p0 : Int32) (q1 : Int64) : Int64 := (if (21 : Int32) < p0 then q1 else (p0.toInt64))
def Q1 (Z : State) (p0 : Int32) (q1 : Int64) (h0 : Heap) (n0 : Nat) (v : Option Value) (h : Heap) (L : List Loc) : Prop := v = some (.long (F1 p0 q1)) ∧ Fr n0 L ∧ h = h0
set_option maxRecDepth 65536 in
set_option maxHeartbeats 40000000 in
theorem rm1 (l : Launch) (Z : State) (a0 : Array Value) (hw : ∀ d ∈ tables_1, d.before a0 Z = true) (ws : List Jvm.Cond) (p0 : Int32) (q1 : Int64) (h0 : Heap) (n0 : Nat) (Zn : n0 ≤ h0.size) :
    MetFree l (⟨"com/example/sidewager/sidewager/blackjack/ResultOfTotalsPinLaw", "score", "(IJ)J"⟩ : MethodName) (head1 (Jvm.Cond.code (⟨"com/example/sidewager/sidewager/blackjack/ResultOfTotalsPinLaw", "score", "(IJ)J"⟩ : MethodName) method_2_code 3 (some .long) :: ws) ({ frames := 0, cells := 0, slots := 0, locals := 0 } : Room)) (fun a U => a = #[(.int p0), (.long q1)] ∧ Z.Warmed39 U.vm ∧ U.heap = h0) (fun _ _ _ _ _ => True) (fun _ U o U' => ∃ v L, o = .returned v ∧ Q1 Z p0 q1 h0 n0 v U'.heap L ∧ FrameEnd U o U' L ({ frames := 0, cells := 0, slots := 0, locals := 0 } : Room).cells ({ frames := 0, cells := 0, slots := 0, locals := 0 } : Room).slots) := by
  refine MetFree.of_bodySF (plainFor_of_name pn_0) hisR ?_
  intro p e s m args below meth c s₁ Bd hml0 hP hK
  obtain ⟨rfl, hZ, hh⟩ := hP
  have hx := Bd.exec
  have hby := Bd.bytes
  have hml : c.maxLocals = 3 := hml0
  have hown : s.vm.findClass "com/example/sidewager/sidewager/blackjack/ResultOfTotalsPinLaw" = some m.cls := findClass_of_methodNamed Bd.named
  have hnm := (name_of_methodNamed Bd.named Bd.method).1
  have X0 : Stand p l e ({ frames := 0, cells := 0, slots := 0, locals := 0 } : Room) s m #[(.int p0), (.long q1)] below meth c s₁ [] 0 0 := Stand.of_body Bd
  have e0 : s₁.heap = h0 := by rw [← hh, Bd.state]; rfl
  have N0 := Fr.nil n0
  have Kp := Keep.refl h0 []
  show Run p e below (Ends s (Q1 Z p0 q1 h0 n0) ({ frames := 0, cells := 0, slots := 0, locals := 0 } : Room).cells ({ frames := 0, cells := 0, slots := 0, locals := 0 } : Room).slots) _
  refine Run.st (S' := s₁.setTop (mkF m 0 #[.val (.int p0), .val (.long q1), .second] [])) (fun t k => castTop (ef_1 m p0 q1) k) ?_
  refine Run.st (S' := s₁.setTop (mkF m 3 #[.val (.int p0), .val (.long q1), .second] [(.int (21 : Int32)), (.int p0)])) (fun _ k => XS.iloadN X0.here hx rfl (hb hby d1_0) rfl (XS.bipush X0.here hx rfl (hb hby d1_1) k)) ?_
  by_cases hc3_1 : (21 : Int32) < p0
  · refine Run.st (S' := s₁.setTop (mkF m 7 #[.val (.int p0), .val (.long q1), .second] [(.long q1)])) (fun _ k => XS.icmpNo X0.here hx rfl (hb hby d1_3) rfl (tlt hc3_1).2.2.2 (XS.lloadN X0.here hx rfl (hb hby d1_6) rfl k)) ?_
    refine Run.out X0 hx Bd.notSynchronized Bd.returns rfl (Or.inr (Or.inl ⟨rfl, rfl, _, rfl⟩)) (hb hby d1_7) (by decide) (by decide) ?_
    rw [e0]
    exact ⟨by rw [F1, if_pos hc3_1], N0, rfl⟩
  · refine Run.st (S' := s₁.setTop (mkF m 10 #[.val (.int p0), .val (.long q1), .second] [(.long (p0.toInt64))])) (fun _ k => XS.icmpYes X0.here hx rfl (pc0 := 3) (pc' := 8) rfl (hb hby d1_3) rfl (flt hc3_1).2.2.2 (by decide) (by decide) (XS.iloadN X0.here hx rfl (hb hby d1_8) rfl (XS.i2l X0.here hx rfl (hb hby d1_9) rfl k))) ?_
    refine Run.out X0 hx Bd.notSynchronized Bd.returns rfl (Or.inr (Or.inl ⟨rfl, rfl, _, rfl⟩)) (hb hby d1_10) (by decide) (by decide) ?_
    rw [e0]
    exact ⟨by rw [F1, if_neg hc3_1], N0, rfl⟩
theorem d2_0 : decode prog_33_method_4_code 0 = .ok (.iload_n 0, 1) := by decide +kernel
theorem d2_1 : decode prog_33_method_4_code 1 = .ok (.bipush 21, 2) := by decide +kernel
theorem d2_3 : decode prog_33_method_4_code 3 = .ok (.if_icmp .le 7, 3) := by decide +kernel
theorem d2_6 : decode prog_33_method_4_code 6 = .ok (.getstatic 7, 3) := by decide +kernel
theorem d2_9 : decode prog_33_method_4_code 9 = .ok (.areturn, 1) := by decide +kernel
theorem d2_10 : decode prog_33_method_4_code 10 = .ok (.iload_n 1, 1) := by decide +kernel
theorem d2_11 : decode prog_33_method_4_code 11 = .ok (.bipush 21, 2) := by decide +kernel
theorem d2_13 : decode prog_33_method_4_code 13 = .ok (.if_icmp .gt 8, 3) := by decide +kernel
theorem d2_16 : decode prog_33_method_4_code 16 = .ok (.iload_n 0, 1) := by decide +kernel
theorem d2_17 : decode prog_33_method_4_code 17 = .ok (.iload_n 1, 1) := by decide +kernel
theorem d2_18 : decode prog_33_method_4_code 18 = .ok (.if_icmp .le 7, 3) := by decide +kernel
theorem d2_21 : decode prog_33_method_4_code 21 = .ok (.getstatic 3, 3) := by decide +kernel
theorem d2_24 : decode prog_33_method_4_code 24 = .ok (.areturn, 1) := by decide +kernel
theorem d2_25 : decode prog_33_method_4_code 25 = .ok (.iload_n 0, 1) := by decide +kernel
theorem d2_26 : decode prog_33_method_4_code 26 = .ok (.iload_n 1, 1) := by decide +kernel
theorem d2_27 : decode prog_33_method_4_code 27 = .ok (.if_icmp .ne 9, 3) := by decide +kernel
theorem d2_30 : decode prog_33_method_4_code 30 = .ok (.getstatic 10, 3) := by decide +kernel
theorem d2_33 : decode prog_33_method_4_code 33 = .ok (.goto 6, 3) := by decide +kernel
theorem d2_36 : decode prog_33_method_4_code 36 = .ok (.getstatic 7, 3) := by decide +kernel
theorem d2_39 : decode prog_33_method_4_code 39 = .ok (.areturn, 1) := by decide +kernel
theorem pn_1 : plainName "com/example/sidewager/sidewager/blackjack/Result" = true := by first | (simp [plainName, overriddenIn]; done) | decide +kernel
theorem ef_2 (m : MethodId) (p0 : Int32) (p1 : Int32) : entryFrame m #[(.int p0), (.int p1)] 2 = mkF m 0 #[.val (.int p0), .val (.int p1)] [] := by first | (simp [entryFrame, mkF, argsToLocals, Value.category]; done) | rfl
def F2 (p0 : Int32) (p1 : Int32) (s_Result_LOSE : Addr) (s_Result_WIN : Addr) (s_Result_PUSH : Addr) : Addr := (if (21 : Int32) < p0 then s_Result_LOSE else (if (21 : Int32) < p1 then s_Result_WIN else (if p1 < p0 then s_Result_WIN else (if p0 = p1 then s_Result_PUSH else s_Result_LOSE))))
def Q2 (Z : State) (p0 : Int32) (p1 : Int32) (s_Result_LOSE : Addr) (s_Result_WIN : Addr) (s_Result_PUSH : Addr) (h0 : Heap) (n0 : Nat) (v : Option Value) (h : Heap) (L : List Loc) : Prop := v = some (.ref (F2 p0 p1 s_Result_LOSE s_Result_WIN s_Result_PUSH)) ∧ Fr n0 L ∧ h = h0
set_option maxRecDepth 65536 in
set_option maxHeartbeats 40000000 in
theorem rm2 (l : Launch) (Z : State) (a0 : Array Value) (hw : ∀ d ∈ tables_1, d.before a0 Z = true) (ws : List Jvm.Cond) (p0 : Int32) (p1 : Int32) (s_Result_LOSE : Addr) (s_Result_WIN : Addr) (s_Result_PUSH : Addr) (h0 : Heap) (n0 : Nat) (Zn : n0 ≤ h0.size) (S_s_Result_LOSE : Sta Z h0 "com/example/sidewager/sidewager/blackjack/Result" "LOSE" "Lcom/example/sidewager/sidewager/blackjack/Result;" (.ref s_Result_LOSE)) (S_s_Result_WIN : Sta Z h0 "com/example/sidewager/sidewager/blackjack/Result" "WIN" "Lcom/example/sidewager/sidewager/blackjack/Result;" (.ref s_Result_WIN)) (S_s_Result_PUSH : Sta Z h0 "com/example/sidewager/sidewager/blackjack/Result" "PUSH" "Lcom/example/sidewager/sidewager/blackjack/Result;" (.ref s_Result_PUSH)) :
    MetFree l (⟨"com/example/sidewager/sidewager/blackjack/Result", "ofTotals", "(II)Lcom/example/sidewager/sidewager/blackjack/Result;"⟩ : MethodName) (head1 (Jvm.Cond.code (⟨"com/example/sidewager/sidewager/blackjack/Result", "ofTotals", "(II)Lcom/example/sidewager/sidewager/blackjack/Result;"⟩ : MethodName) prog_33_method_4_code 2 (some (.object "com/example/sidewager/sidewager/blackjack/Result")) :: ws) ({ frames := 0, cells := 0, slots := 0, locals := 0 } : Room)) (fun a U => a = #[(.int p0), (.int p1)] ∧ Z.Warmed39 U.vm ∧ U.heap = h0) (fun _ _ _ _ _ => True) (fun _ U o U' => ∃ v L, o = .returned v ∧ Q2 Z p0 p1 s_Result_LOSE s_Result_WIN s_Result_PUSH h0 n0 v U'.heap L ∧ FrameEnd U o U' L ({ frames := 0, cells := 0, slots := 0, locals := 0 } : Room).cells ({ frames := 0, cells := 0, slots := 0, locals := 0 } : Room).slots) := by
  refine MetFree.of_bodySF (plainFor_of_name pn_1) hisR ?_
  intro p e s m args below meth c s₁ Bd hml0 hP hK
  obtain ⟨rfl, hZ, hh⟩ := hP
  have hx := Bd.exec
  have hby := Bd.bytes
  have hml : c.maxLocals = 2 := hml0
  have hown : s.vm.findClass "com/example/sidewager/sidewager/blackjack/Result" = some m.cls := findClass_of_methodNamed Bd.named
  have hnm := (name_of_methodNamed Bd.named Bd.method).1
  have X0 : Stand p l e ({ frames := 0, cells := 0, slots := 0, locals := 0 } : Room) s m #[(.int p0), (.int p1)] below meth c s₁ [] 0 0 := Stand.of_body Bd
  have e0 : s₁.heap = h0 := by rw [← hh, Bd.state]; rfl
  have N0 := Fr.nil n0
  have Kp := Keep.refl h0 []
  show Run p e below (Ends s (Q2 Z p0 p1 s_Result_LOSE s_Result_WIN s_Result_PUSH h0 n0) ({ frames := 0, cells := 0, slots := 0, locals := 0 } : Room).cells ({ frames := 0, cells := 0, slots := 0, locals := 0 } : Room).slots) _
  refine Run.st (S' := s₁.setTop (mkF m 0 #[.val (.int p0), .val (.int p1)] [])) (fun t k => castTop (ef_2 m p0 p1) k) ?_
  refine Run.st (S' := s₁.setTop (mkF m 3 #[.val (.int p0), .val (.int p1)] [(.int (21 : Int32)), (.int p0)])) (fun _ k => XS.iloadN X0.here hx rfl (hb hby d2_0) rfl (XS.bipush X0.here hx rfl (hb hby d2_1) k)) ?_
  by_cases hc3_1 : (21 : Int32) < p0
  · refine Run.st (S' := s₁.setTop (mkF m 6 #[.val (.int p0), .val (.int p1)] [])) (fun _ k => XS.icmpNo X0.here hx rfl (hb hby d2_3) rfl (tlt hc3_1).2.2.2 k) ?_
    obtain ⟨T2, X2, e2, st2⟩ := getS2 X0 hx hZ hown (host := "") (Or.inl (hw _ (List.mem_of_getElem? (i := 12) rfl))) Via.refl e0 S_s_Result_LOSE (g := (mkF m 6 #[.val (.int p0), .val (.int p1)] [])) rfl (hb hby d2_6)
    refine Run.st (S' := T2.setTop (mkF m 9 #[.val (.int p0), .val (.int p1)] [(.ref s_Result_LOSE)])) (fun _ k => st2 _ k) ?_
    refine Run.out X2 hx Bd.notSynchronized Bd.returns rfl (Or.inr (Or.inr (Or.inr (Or.inr ⟨rfl, rfl, rfl⟩)))) (hb hby d2_9) (by decide) (by decide) ?_
    rw [e2]
    exact ⟨by rw [F2, if_pos hc3_1], N0, rfl⟩
  · refine Run.st (S' := s₁.setTop (mkF m 13 #[.val (.int p0), .val (.int p1)] [(.int (21 : Int32)), (.int p1)])) (fun _ k => XS.icmpYes X0.here hx rfl (pc0 := 3) (pc' := 10) rfl (hb hby d2_3) rfl (flt hc3_1).2.2.2 (by decide) (by decide) (XS.iloadN X0.here hx rfl (hb hby d2_10) rfl (XS.bipush X0.here hx rfl (hb hby d2_11) k))) ?_
    by_cases hc13_3 : (21 : Int32) < p1
    · refine Run.st (S' := s₁.setTop (mkF m 21 #[.val (.int p0), .val (.int p1)] [])) (fun _ k => XS.icmpYes X0.here hx rfl (pc0 := 13) (pc' := 21) rfl (hb hby d2_13) rfl (tlt hc13_3).2.2.1 (by decide) (by decide) k) ?_
      obtain ⟨T4, X4, e4, st4⟩ := getS2 X0 hx hZ hown (host := "") (Or.inl (hw _ (List.mem_of_getElem? (i := 15) rfl))) Via.refl e0 S_s_Result_WIN (g := (mkF m 21 #[.val (.int p0), .val (.int p1)] [])) rfl (hb hby d2_21)
      refine Run.st (S' := T4.setTop (mkF m 24 #[.val (.int p0), .val (.int p1)] [(.ref s_Result_WIN)])) (fun _ k => st4 _ k) ?_
      refine Run.out X4 hx Bd.notSynchronized Bd.returns rfl (Or.inr (Or.inr (Or.inr (Or.inr ⟨rfl, rfl, rfl⟩)))) (hb hby d2_24) (by decide) (by decide) ?_
      rw [e4]
      exact ⟨by rw [F2, if_neg hc3_1, if_pos hc13_3], N0, rfl⟩
    · refine Run.st (S' := s₁.setTop (mkF m 18 #[.val (.int p0), .val (.int p1)] [(.int p1), (.int p0)])) (fun _ k => XS.icmpNo X0.here hx rfl (hb hby d2_13) rfl (flt hc13_3).2.2.1 (XS.iloadN X0.here hx rfl (hb hby d2_16) rfl (XS.iloadN X0.here hx rfl (hb hby d2_17) rfl k))) ?_
      by_cases hc18_5 : p1 < p0
      · refine Run.st (S' := s₁.setTop (mkF m 21 #[.val (.int p0), .val (.int p1)] [])) (fun _ k => XS.icmpNo X0.here hx rfl (hb hby d2_18) rfl (tlt hc18_5).2.2.2 k) ?_
        obtain ⟨T6, X6, e6, st6⟩ := getS2 X0 hx hZ hown (host := "") (Or.inl (hw _ (List.mem_of_getElem? (i := 15) rfl))) Via.refl e0 S_s_Result_WIN (g := (mkF m 21 #[.val (.int p0), .val (.int p1)] [])) rfl (hb hby d2_21)
        refine Run.st (S' := T6.setTop (mkF m 24 #[.val (.int p0), .val (.int p1)] [(.ref s_Result_WIN)])) (fun _ k => st6 _ k) ?_
        refine Run.out X6 hx Bd.notSynchronized Bd.returns rfl (Or.inr (Or.inr (Or.inr (Or.inr ⟨rfl, rfl, rfl⟩)))) (hb hby d2_24) (by decide) (by decide) ?_
        rw [e6]
        exact ⟨by rw [F2, if_neg hc3_1, if_neg hc13_3, if_pos hc18_5], N0, rfl⟩
      · refine Run.st (S' := s₁.setTop (mkF m 27 #[.val (.int p0), .val (.int p1)] [(.int p1), (.int p0)])) (fun _ k => XS.icmpYes X0.here hx rfl (pc0 := 18) (pc' := 25) rfl (hb hby d2_18) rfl (flt hc18_5).2.2.2 (by decide) (by decide) (XS.iloadN X0.here hx rfl (hb hby d2_25) rfl (XS.iloadN X0.here hx rfl (hb hby d2_26) rfl k))) ?_
        by_cases hc27_7 : p0 = p1
        · refine Run.st (S' := s₁.setTop (mkF m 30 #[.val (.int p0), .val (.int p1)] [])) (fun _ k => XS.icmpNo X0.here hx rfl (hb hby d2_27) rfl (teq hc27_7).2 k) ?_
          obtain ⟨T8, X8, e8, st8⟩ := getS2 X0 hx hZ hown (host := "") (Or.inl (hw _ (List.mem_of_getElem? (i := 18) rfl))) Via.refl e0 S_s_Result_PUSH (g := (mkF m 30 #[.val (.int p0), .val (.int p1)] [])) rfl (hb hby d2_30)
          refine Run.st (S' := T8.setTop (mkF m 39 #[.val (.int p0), .val (.int p1)] [(.ref s_Result_PUSH)])) (fun _ k => st8 _ (XS.goto X8.here hx rfl (pc0 := 33) (pc' := 39) rfl (hb hby d2_33) (by decide) (by decide) k)) ?_
          refine Run.out X8 hx Bd.notSynchronized Bd.returns rfl (Or.inr (Or.inr (Or.inr (Or.inr ⟨rfl, rfl, rfl⟩)))) (hb hby d2_39) (by decide) (by decide) ?_
          rw [e8]
          exact ⟨by rw [F2, if_neg hc3_1, if_neg hc13_3, if_neg hc18_5, if_pos hc27_7], N0, rfl⟩
        · refine Run.st (S' := s₁.setTop (mkF m 36 #[.val (.int p0), .val (.int p1)] [])) (fun _ k => XS.icmpYes X0.here hx rfl (pc0 := 27) (pc' := 36) rfl (hb hby d2_27) rfl (feq hc27_7).2 (by decide) (by decide) k) ?_
          obtain ⟨T9, X9, e9, st9⟩ := getS2 X0 hx hZ hown (host := "") (Or.inl (hw _ (List.mem_of_getElem? (i := 12) rfl))) Via.refl e0 S_s_Result_LOSE (g := (mkF m 36 #[.val (.int p0), .val (.int p1)] [])) rfl (hb hby d2_36)
          refine Run.st (S' := T9.setTop (mkF m 39 #[.val (.int p0), .val (.int p1)] [(.ref s_Result_LOSE)])) (fun _ k => st9 _ k) ?_
          refine Run.out X9 hx Bd.notSynchronized Bd.returns rfl (Or.inr (Or.inr (Or.inr (Or.inr ⟨rfl, rfl, rfl⟩)))) (hb hby d2_39) (by decide) (by decide) ?_
          rw [e9]
          exact ⟨by rw [F2, if_neg hc3_1, if_neg hc13_3, if_neg hc18_5, if_neg hc27_7], N0, rfl⟩
theorem own_res (p d : Int32) (l w u : Addr) : (F1 d (-549755813888 : Int64) < F1 p (-1099511627776 : Int64) → F2 p d l w u = w) ∧ (¬ F1 d (-549755813888 : Int64) < F1 p (-1099511627776 : Int64) → F1 p (-1099511627776 : Int64) = F1 d (-549755813888 : Int64) → F2 p d l w u = u) ∧ (¬ F1 d (-549755813888 : Int64) < F1 p (-1099511627776 : Int64) → ¬ F1 p (-1099511627776 : Int64) = F1 d (-549755813888 : Int64) → F2 p d l w u = l) := by
  have e1 : (-549755813888 : Int64).toInt = -549755813888 := by decide
  have e2 : (-1099511627776 : Int64).toInt = -1099511627776 := by decide
  have e3 : (21 : Int32).toInt = 21 := by decide
  have r1 := rng32 p
  have r2 := rng32 d
  have c1 := c_i2l p
  have c2 := c_i2l d
  unfold F1 F2
  by_cases h1 : (21 : Int32) < p
  · by_cases h2 : (21 : Int32) < d
    · simp only [h1, h2, if_true, Int64.lt_iff_toInt_lt, ← Int64.toInt_inj]
      refine ⟨fun q => ?_, fun q r => ?_, fun q r => ?_⟩
      · omega
      · omega
      · first | rfl | trivial
    · simp only [h1, h2, if_true, if_false, Int64.lt_iff_toInt_lt, ← Int64.toInt_inj]
      refine ⟨fun q => ?_, fun q r => ?_, fun q r => ?_⟩
      · omega
      · omega
      · first | rfl | trivial
  · by_cases h2 : (21 : Int32) < d
    · simp only [h1, h2, if_true, if_false, Int64.lt_iff_toInt_lt, ← Int64.toInt_inj]
      refine ⟨fun q => ?_, fun q r => ?_, fun q r => ?_⟩
      · first | rfl | trivial
      · omega
      · omega
    · simp only [h1, h2, if_false, Int64.lt_iff_toInt_lt, ← Int64.toInt_inj, Int32.lt_iff_toInt_lt, ← Int32.toInt_inj]
      rw [c1, c2]
      refine ⟨fun q => ?_, fun q r => ?_, fun q r => ?_⟩
      · rw [if_pos q]
      · rw [if_neg q, if_pos r]
      · rw [if_neg q, if_neg r]
theorem pd_0 : parseMethodDescriptor "(IJ)J" = some ⟨[.int, .long], some .long⟩ := by decide +kernel
theorem pd_1 : parseMethodDescriptor "(II)Lcom/example/sidewager/sidewager/blackjack/Result;" = some ⟨[.int, .int], some (.object "com/example/sidewager/sidewager/blackjack/Result")⟩ := by decide +kernel
theorem ef_0 (m : MethodId) (p0 : Int32) (p1 : Int32) : entryFrame m #[(.int p0), (.int p1)] maxLocals = mkF m 0 #[.val (.int p0), .val (.int p1), .unset, .unset, .unset, .unset, .unset, .unset] [] := by first | (simp [entryFrame, mkF, argsToLocals, Value.category, maxLocals]; done) | rfl
def Q0 (Z : State) (p0 : Int32) (p1 : Int32) (s_Result_LOSE : Addr) (s_Result_WIN : Addr) (s_Result_PUSH : Addr) (h0 : Heap) (n0 : Nat) (v : Option Value) (h : Heap) (L : List Loc) : Prop := v = some (.int 1) ∧ Fr n0 L
set_option maxRecDepth 65536 in
set_option maxHeartbeats 40000000 in
theorem rm0 (l : Launch) (Z : State) (a0 : Array Value) (hw : ∀ d ∈ tables_1, d.before a0 Z = true) (ws : List Jvm.Cond) (p0 : Int32) (p1 : Int32) (s_Result_LOSE : Addr) (s_Result_WIN : Addr) (s_Result_PUSH : Addr) (h0 : Heap) (n0 : Nat) (Zn : n0 ≤ h0.size) (S_s_Result_LOSE : Sta Z h0 "com/example/sidewager/sidewager/blackjack/Result" "LOSE" "Lcom/example/sidewager/sidewager/blackjack/Result;" (.ref s_Result_LOSE)) (S_s_Result_WIN : Sta Z h0 "com/example/sidewager/sidewager/blackjack/Result" "WIN" "Lcom/example/sidewager/sidewager/blackjack/Result;" (.ref s_Result_WIN)) (S_s_Result_PUSH : Sta Z h0 "com/example/sidewager/sidewager/blackjack/Result" "PUSH" "Lcom/example/sidewager/sidewager/blackjack/Result;" (.ref s_Result_PUSH)) :
    MetFree l x (head1 (Jvm.Cond.code x code maxLocals ret :: ws) room_1) (fun a U => a = #[(.int p0), (.int p1)] ∧ Z.Warmed39 U.vm ∧ U.heap = h0) (fun _ _ _ _ _ => True) (fun _ U o U' => ∃ v L, o = .returned v ∧ Q0 Z p0 p1 s_Result_LOSE s_Result_WIN s_Result_PUSH h0 n0 v U'.heap L ∧ FrameEnd U o U' L room_1.cells room_1.slots) := by
  refine MetFree.of_bodySF (plainFor_of_name pn_0) hisR ?_
  intro p e s m args below meth c s₁ Bd hml0 hP hK
  obtain ⟨rfl, hZ, hh⟩ := hP
  have hx := Bd.exec
  have hby := Bd.bytes
  have hml : c.maxLocals = 8 := hml0
  have hown : s.vm.findClass "com/example/sidewager/sidewager/blackjack/ResultOfTotalsPinLaw" = some m.cls := findClass_of_methodNamed Bd.named
  have hnm := (name_of_methodNamed Bd.named Bd.method).1
  have X0 : Stand p l e room_1 s m #[(.int p0), (.int p1)] below meth c s₁ [] 0 0 := Stand.of_body Bd
  have e0 : s₁.heap = h0 := by rw [← hh, Bd.state]; rfl
  have N0 := Fr.nil n0
  have Kp := Keep.refl h0 []
  show Run p e below (Ends s (Q0 Z p0 p1 s_Result_LOSE s_Result_WIN s_Result_PUSH h0 n0) room_1.cells room_1.slots) _
  refine Run.st (S' := s₁.setTop (mkF m 0 #[.val (.int p0), .val (.int p1), .unset, .unset, .unset, .unset, .unset, .unset] [])) (fun t k => castTop (ef_0 m p0 p1) k) ?_
  refine Run.st (S' := s₁.setTop (mkF m 4 #[.val (.int p0), .val (.int p1), .unset, .unset, .unset, .unset, .unset, .unset] [(.long (-1099511627776 : Int64)), (.int p0)])) (fun _ k => XS.iloadN X0.here hx rfl (hb hby at_0) rfl (X0.ldc2Long hx hown (mvT hZ (hw _ (List.mem_of_getElem? (i := 0) rfl))) (g := (mkF m 1 #[.val (.int p0), .val (.int p1), .unset, .unset, .unset, .unset, .unset, .unset] [(.int p0)])) rfl (hb hby at_1) _ k)) ?_
  obtain ⟨_, _, ⟨T1, L1, k1, n1⟩, -, X1, ⟨Lc1, hQ1, l1, y1, z1⟩, st1⟩ := Jvm.LawKit.callS X0 hx (y := (⟨"com/example/sidewager/sidewager/blackjack/ResultOfTotalsPinLaw", "score", "(IJ)J"⟩ : MethodName)) hown (mvT hZ (hw _ (List.mem_of_getElem? (i := 1) rfl))) (mvT hZ (hw _ (List.mem_of_getElem? (i := 2) rfl))) (mvT hZ (hw _ (List.mem_of_getElem? (i := 3) rfl))) (mvT hZ (hw _ (List.mem_of_getElem? (i := 4) rfl))) (by decide) (backOf (W := 0) (rm1 l Z a0 hw [] p0 (-1099511627776 : Int64) h0 n0 Zn ) hZ (hw _ (List.mem_of_getElem? (i := 4) rfl)) (hw _ (List.mem_of_getElem? (i := 3) rfl)) (by decide) (by decide)) (g := (mkF m 4 #[.val (.int p0), .val (.int p1), .unset, .unset, .unset, .unset, .unset, .unset] [(.long (-1099511627776 : Int64)), (.int p0)])) rfl (by rw [hml]; rfl) (argsL := [(.int p0), (.long (-1099511627776 : Int64))]) (rest := []) (lenOf pd_0 rfl) rfl (by show 2 * 0 + _ ≤ _; exact Nat.le_of_eq rfl) (hb hby at_4) (fun _ _ => ⟨rfl, e0, (by decide : 0 + 0 ≤ _), (by decide : 0 + 0 ≤ _)⟩)
  dsimp only [Pt.U, Pt.locs, Pt.cells, Pt.slots] at X1 l1 y1 z1 st1 hQ1
  subst l1 y1 z1
  obtain ⟨rfl, N1q, e1⟩ := hQ1
  have N1 := Fr.app N0 N1q
  refine Run.st (S' := T1.setTop (mkF m 12 #[.val (.int p0), .val (.int p1), .val (.long (F1 p0 (-1099511627776 : Int64))), .second, .unset, .unset, .unset, .unset] [(.long (-549755813888 : Int64)), (.int p1)])) (fun _ k => st1 _ (XS.lstoreN X1.here hx rfl (hb hby at_7) rfl (l' := #[.val (.int p0), .val (.int p1), .val (.long (F1 p0 (-1099511627776 : Int64))), .second, .unset, .unset, .unset, .unset]) rfl (XS.iloadN X1.here hx rfl (hb hby at_8) rfl (X1.ldc2Long hx hown (mvT hZ (hw _ (List.mem_of_getElem? (i := 5) rfl))) (g := (mkF m 9 #[.val (.int p0), .val (.int p1), .val (.long (F1 p0 (-1099511627776 : Int64))), .second, .unset, .unset, .unset, .unset] [(.int p1)])) rfl (hb hby at_9) _ k)))) ?_
  obtain ⟨_, _, ⟨T2, L2, k2, n2⟩, -, X2, ⟨Lc2, hQ2, l2, y2, z2⟩, st2⟩ := Jvm.LawKit.callS X1 hx (y := (⟨"com/example/sidewager/sidewager/blackjack/ResultOfTotalsPinLaw", "score", "(IJ)J"⟩ : MethodName)) hown (mvT hZ (hw _ (List.mem_of_getElem? (i := 1) rfl))) (mvT hZ (hw _ (List.mem_of_getElem? (i := 2) rfl))) (mvT hZ (hw _ (List.mem_of_getElem? (i := 3) rfl))) (mvT hZ (hw _ (List.mem_of_getElem? (i := 4) rfl))) (by decide) (backOf (W := 0) (rm1 l Z a0 hw [] p1 (-549755813888 : Int64) h0 n0 Zn ) hZ (hw _ (List.mem_of_getElem? (i := 4) rfl)) (hw _ (List.mem_of_getElem? (i := 3) rfl)) (by decide) (by decide)) (g := (mkF m 12 #[.val (.int p0), .val (.int p1), .val (.long (F1 p0 (-1099511627776 : Int64))), .second, .unset, .unset, .unset, .unset] [(.long (-549755813888 : Int64)), (.int p1)])) rfl (by rw [hml]; rfl) (argsL := [(.int p1), (.long (-549755813888 : Int64))]) (rest := []) (lenOf pd_0 rfl) rfl (by show 2 * 0 + _ ≤ _; exact Nat.le_of_eq rfl) (hb hby at_12) (fun _ _ => ⟨rfl, e1, (by decide : 0 + 0 ≤ _), (by decide : 0 + 0 ≤ _)⟩)
  dsimp only [Pt.U, Pt.locs, Pt.cells, Pt.slots] at X2 l2 y2 z2 st2 hQ2
  subst l2 y2 z2
  obtain ⟨rfl, N2q, e2⟩ := hQ2
  have N2 := Fr.app N1 N2q
  refine Run.st (S' := T2.setTop (mkF m 21 #[.val (.int p0), .val (.int p1), .val (.long (F1 p0 (-1099511627776 : Int64))), .second, .val (.long (F1 p1 (-549755813888 : Int64))), .second, .unset, .unset] [(.int (lcmpW (F1 p0 (-1099511627776 : Int64)) (F1 p1 (-549755813888 : Int64))))])) (fun _ k => st2 _ (XS.lstore X2.here hx rfl (hb hby at_15) rfl (l' := #[.val (.int p0), .val (.int p1), .val (.long (F1 p0 (-1099511627776 : Int64))), .second, .val (.long (F1 p1 (-549755813888 : Int64))), .second, .unset, .unset]) rfl (XS.lloadN X2.here hx rfl (hb hby at_17) rfl (XS.lload X2.here hx rfl (hb hby at_18) rfl (XS.lcmp X2.here hx rfl (hb hby at_20) rfl k))))) ?_
  by_cases hc21_3 : (F1 p1 (-549755813888 : Int64)) < (F1 p0 (-1099511627776 : Int64))
  · refine Run.st (S' := T2.setTop (mkF m 24 #[.val (.int p0), .val (.int p1), .val (.long (F1 p0 (-1099511627776 : Int64))), .second, .val (.long (F1 p1 (-549755813888 : Int64))), .second, .unset, .unset] [])) (fun _ k => XS.ifNo X2.here hx rfl (hb hby at_21) rfl (lcYes (Jvm.Free.XT.ll_le_f hc21_3)) k) ?_
    obtain ⟨T4, X4, e4, st4⟩ := getS2 X2 hx hZ hown (host := "") (Or.inl (hw _ (List.mem_of_getElem? (i := 13) rfl))) Via.refl e2 S_s_Result_WIN (g := (mkF m 24 #[.val (.int p0), .val (.int p1), .val (.long (F1 p0 (-1099511627776 : Int64))), .second, .val (.long (F1 p1 (-549755813888 : Int64))), .second, .unset, .unset] [])) rfl (hb hby at_24)
    refine Run.st (S' := T4.setTop (mkF m 54 #[.val (.int p0), .val (.int p1), .val (.long (F1 p0 (-1099511627776 : Int64))), .second, .val (.long (F1 p1 (-549755813888 : Int64))), .second, .val (.ref s_Result_WIN), .unset] [(.int p1), (.int p0)])) (fun _ k => st4 _ (XS.astore X4.here hx rfl (hb hby at_27) rfl rfl (l' := #[.val (.int p0), .val (.int p1), .val (.long (F1 p0 (-1099511627776 : Int64))), .second, .val (.long (F1 p1 (-549755813888 : Int64))), .second, .val (.ref s_Result_WIN), .unset]) rfl (XS.goto X4.here hx rfl (pc0 := 29) (pc' := 52) rfl (hb hby at_29) (by decide) (by decide) (XS.iloadN X4.here hx rfl (hb hby at_52) rfl (XS.iloadN X4.here hx rfl (hb hby at_53) rfl k))))) ?_
    obtain ⟨_, _, ⟨T5, L5, k5, n5⟩, -, X5, ⟨Lc5, hQ5, l5, y5, z5⟩, st5⟩ := Jvm.LawKit.callS X4 hx (y := (⟨"com/example/sidewager/sidewager/blackjack/Result", "ofTotals", "(II)Lcom/example/sidewager/sidewager/blackjack/Result;"⟩ : MethodName)) hown (mvT hZ (hw _ (List.mem_of_getElem? (i := 9) rfl))) (mvT hZ (hw _ (List.mem_of_getElem? (i := 10) rfl))) (mvT hZ (hw _ (List.mem_of_getElem? (i := 7) rfl))) (mvT hZ (hw _ (List.mem_of_getElem? (i := 11) rfl))) (by decide) (backOf (W := 0) (rm2 l Z a0 hw [] p0 p1 s_Result_LOSE s_Result_WIN s_Result_PUSH h0 n0 Zn S_s_Result_LOSE S_s_Result_WIN S_s_Result_PUSH) hZ (hw _ (List.mem_of_getElem? (i := 11) rfl)) (hw _ (List.mem_of_getElem? (i := 7) rfl)) (by decide) (by decide)) (g := (mkF m 54 #[.val (.int p0), .val (.int p1), .val (.long (F1 p0 (-1099511627776 : Int64))), .second, .val (.long (F1 p1 (-549755813888 : Int64))), .second, .val (.ref s_Result_WIN), .unset] [(.int p1), (.int p0)])) rfl (by rw [hml]; rfl) (argsL := [(.int p0), (.int p1)]) (rest := []) (lenOf pd_1 rfl) rfl (by show 2 * 0 + _ ≤ _; exact Nat.le_of_eq rfl) (hb hby at_54) (fun _ _ => ⟨rfl, e4, (by decide : 0 + 0 ≤ _), (by decide : 0 + 0 ≤ _)⟩)
    dsimp only [Pt.U, Pt.locs, Pt.cells, Pt.slots] at X5 l5 y5 z5 st5 hQ5
    subst l5 y5 z5
    obtain ⟨rfl, N5q, e5⟩ := hQ5
    have N5 := Fr.app N2 N5q
    refine Run.st (S' := T5.setTop (mkF m 71 #[.val (.int p0), .val (.int p1), .val (.long (F1 p0 (-1099511627776 : Int64))), .second, .val (.long (F1 p1 (-549755813888 : Int64))), .second, .val (.ref s_Result_WIN), .val (.ref (F2 p0 p1 s_Result_LOSE s_Result_WIN s_Result_PUSH))] [(.int (1 : Int32))])) (fun _ k => st5 _ (XS.astore X5.here hx rfl (hb hby at_57) rfl rfl (l' := #[.val (.int p0), .val (.int p1), .val (.long (F1 p0 (-1099511627776 : Int64))), .second, .val (.long (F1 p1 (-549755813888 : Int64))), .second, .val (.ref s_Result_WIN), .val (.ref (F2 p0 p1 s_Result_LOSE s_Result_WIN s_Result_PUSH))]) rfl (XS.aload X5.here hx rfl (hb hby at_59) rfl rfl (XS.aload X5.here hx rfl (hb hby at_61) rfl rfl (Jvm.RoadKit.acmp (g := (mkF m 63 #[.val (.int p0), .val (.int p1), .val (.long (F1 p0 (-1099511627776 : Int64))), .second, .val (.long (F1 p1 (-549755813888 : Int64))), .second, .val (.ref s_Result_WIN), .val (.ref (F2 p0 p1 s_Result_LOSE s_Result_WIN s_Result_PUSH))] [(.ref s_Result_WIN), (.ref (F2 p0 p1 s_Result_LOSE s_Result_WIN s_Result_PUSH))])) X5 hx rfl rfl rfl (pc0 := 63) (pc' := 66) (same := true) rfl (hb hby at_63) rfl (decide_eq_true (congrArg Value.ref ((own_res _ _ _ _ _).1 hc21_3))) (by decide) (by decide) (XS.iconst X5.here hx rfl (hb hby at_66) (XS.goto X5.here hx rfl (pc0 := 67) (pc' := 71) rfl (hb hby at_67) (by decide) (by decide) k))))))) ?_
    refine Run.out X5 hx Bd.notSynchronized Bd.returns rfl (Or.inl ⟨rfl, by simp, _, rfl⟩) (hb hby at_71) (by decide) (by decide) ?_
    rw [e5]
    exact ⟨rfl, N5⟩
  · refine Run.st (S' := T2.setTop (mkF m 36 #[.val (.int p0), .val (.int p1), .val (.long (F1 p0 (-1099511627776 : Int64))), .second, .val (.long (F1 p1 (-549755813888 : Int64))), .second, .unset, .unset] [(.int (lcmpW (F1 p0 (-1099511627776 : Int64)) (F1 p1 (-549755813888 : Int64))))])) (fun _ k => XS.ifYes X2.here hx rfl (pc0 := 21) (pc' := 32) rfl (hb hby at_21) rfl (lcYes (Jvm.Free.XT.ll_le_t hc21_3)) (by decide) (by decide) (XS.lloadN X2.here hx rfl (hb hby at_32) rfl (XS.lload X2.here hx rfl (hb hby at_33) rfl (XS.lcmp X2.here hx rfl (hb hby at_35) rfl k)))) ?_
    by_cases hc36_6 : (F1 p0 (-1099511627776 : Int64)) = (F1 p1 (-549755813888 : Int64))
    · refine Run.st (S' := T2.setTop (mkF m 39 #[.val (.int p0), .val (.int p1), .val (.long (F1 p0 (-1099511627776 : Int64))), .second, .val (.long (F1 p1 (-549755813888 : Int64))), .second, .unset, .unset] [])) (fun _ k => XS.ifNo X2.here hx rfl (hb hby at_36) rfl (lcYes (Jvm.Free.XT.ll_ne_f hc36_6)) k) ?_
      obtain ⟨T7, X7, e7, st7⟩ := getS2 X2 hx hZ hown (host := "") (Or.inl (hw _ (List.mem_of_getElem? (i := 16) rfl))) Via.refl e2 S_s_Result_PUSH (g := (mkF m 39 #[.val (.int p0), .val (.int p1), .val (.long (F1 p0 (-1099511627776 : Int64))), .second, .val (.long (F1 p1 (-549755813888 : Int64))), .second, .unset, .unset] [])) rfl (hb hby at_39)
      refine Run.st (S' := T7.setTop (mkF m 54 #[.val (.int p0), .val (.int p1), .val (.long (F1 p0 (-1099511627776 : Int64))), .second, .val (.long (F1 p1 (-549755813888 : Int64))), .second, .val (.ref s_Result_PUSH), .unset] [(.int p1), (.int p0)])) (fun _ k => st7 _ (XS.astore X7.here hx rfl (hb hby at_42) rfl rfl (l' := #[.val (.int p0), .val (.int p1), .val (.long (F1 p0 (-1099511627776 : Int64))), .second, .val (.long (F1 p1 (-549755813888 : Int64))), .second, .val (.ref s_Result_PUSH), .unset]) rfl (XS.goto X7.here hx rfl (pc0 := 44) (pc' := 52) rfl (hb hby at_44) (by decide) (by decide) (XS.iloadN X7.here hx rfl (hb hby at_52) rfl (XS.iloadN X7.here hx rfl (hb hby at_53) rfl k))))) ?_
      obtain ⟨_, _, ⟨T8, L8, k8, n8⟩, -, X8, ⟨Lc8, hQ8, l8, y8, z8⟩, st8⟩ := Jvm.LawKit.callS X7 hx (y := (⟨"com/example/sidewager/sidewager/blackjack/Result", "ofTotals", "(II)Lcom/example/sidewager/sidewager/blackjack/Result;"⟩ : MethodName)) hown (mvT hZ (hw _ (List.mem_of_getElem? (i := 9) rfl))) (mvT hZ (hw _ (List.mem_of_getElem? (i := 10) rfl))) (mvT hZ (hw _ (List.mem_of_getElem? (i := 7) rfl))) (mvT hZ (hw _ (List.mem_of_getElem? (i := 11) rfl))) (by decide) (backOf (W := 0) (rm2 l Z a0 hw [] p0 p1 s_Result_LOSE s_Result_WIN s_Result_PUSH h0 n0 Zn S_s_Result_LOSE S_s_Result_WIN S_s_Result_PUSH) hZ (hw _ (List.mem_of_getElem? (i := 11) rfl)) (hw _ (List.mem_of_getElem? (i := 7) rfl)) (by decide) (by decide)) (g := (mkF m 54 #[.val (.int p0), .val (.int p1), .val (.long (F1 p0 (-1099511627776 : Int64))), .second, .val (.long (F1 p1 (-549755813888 : Int64))), .second, .val (.ref s_Result_PUSH), .unset] [(.int p1), (.int p0)])) rfl (by rw [hml]; rfl) (argsL := [(.int p0), (.int p1)]) (rest := []) (lenOf pd_1 rfl) rfl (by show 2 * 0 + _ ≤ _; exact Nat.le_of_eq rfl) (hb hby at_54) (fun _ _ => ⟨rfl, e7, (by decide : 0 + 0 ≤ _), (by decide : 0 + 0 ≤ _)⟩)
      dsimp only [Pt.U, Pt.locs, Pt.cells, Pt.slots] at X8 l8 y8 z8 st8 hQ8
      subst l8 y8 z8
      obtain ⟨rfl, N8q, e8⟩ := hQ8
      have N8 := Fr.app N2 N8q
      refine Run.st (S' := T8.setTop (mkF m 71 #[.val (.int p0), .val (.int p1), .val (.long (F1 p0 (-1099511627776 : Int64))), .second, .val (.long (F1 p1 (-549755813888 : Int64))), .second, .val (.ref s_Result_PUSH), .val (.ref (F2 p0 p1 s_Result_LOSE s_Result_WIN s_Result_PUSH))] [(.int (1 : Int32))])) (fun _ k => st8 _ (XS.astore X8.here hx rfl (hb hby at_57) rfl rfl (l' := #[.val (.int p0), .val (.int p1), .val (.long (F1 p0 (-1099511627776 : Int64))), .second, .val (.long (F1 p1 (-549755813888 : Int64))), .second, .val (.ref s_Result_PUSH), .val (.ref (F2 p0 p1 s_Result_LOSE s_Result_WIN s_Result_PUSH))]) rfl (XS.aload X8.here hx rfl (hb hby at_59) rfl rfl (XS.aload X8.here hx rfl (hb hby at_61) rfl rfl (Jvm.RoadKit.acmp (g := (mkF m 63 #[.val (.int p0), .val (.int p1), .val (.long (F1 p0 (-1099511627776 : Int64))), .second, .val (.long (F1 p1 (-549755813888 : Int64))), .second, .val (.ref s_Result_PUSH), .val (.ref (F2 p0 p1 s_Result_LOSE s_Result_WIN s_Result_PUSH))] [(.ref s_Result_PUSH), (.ref (F2 p0 p1 s_Result_LOSE s_Result_WIN s_Result_PUSH))])) X8 hx rfl rfl rfl (pc0 := 63) (pc' := 66) (same := true) rfl (hb hby at_63) rfl (decide_eq_true (congrArg Value.ref ((own_res _ _ _ _ _).2.1 hc21_3 hc36_6))) (by decide) (by decide) (XS.iconst X8.here hx rfl (hb hby at_66) (XS.goto X8.here hx rfl (pc0 := 67) (pc' := 71) rfl (hb hby at_67) (by decide) (by decide) k))))))) ?_
      refine Run.out X8 hx Bd.notSynchronized Bd.returns rfl (Or.inl ⟨rfl, by simp, _, rfl⟩) (hb hby at_71) (by decide) (by decide) ?_
      rw [e8]
      exact ⟨rfl, N8⟩
    · refine Run.st (S' := T2.setTop (mkF m 47 #[.val (.int p0), .val (.int p1), .val (.long (F1 p0 (-1099511627776 : Int64))), .second, .val (.long (F1 p1 (-549755813888 : Int64))), .second, .unset, .unset] [])) (fun _ k => XS.ifYes X2.here hx rfl (pc0 := 36) (pc' := 47) rfl (hb hby at_36) rfl (lcYes (Jvm.Free.XT.ll_ne_t hc36_6)) (by decide) (by decide) k) ?_
      obtain ⟨T9, X9, e9, st9⟩ := getS2 X2 hx hZ hown (host := "") (Or.inl (hw _ (List.mem_of_getElem? (i := 6) rfl))) Via.refl e2 S_s_Result_LOSE (g := (mkF m 47 #[.val (.int p0), .val (.int p1), .val (.long (F1 p0 (-1099511627776 : Int64))), .second, .val (.long (F1 p1 (-549755813888 : Int64))), .second, .unset, .unset] [])) rfl (hb hby at_47)
      refine Run.st (S' := T9.setTop (mkF m 54 #[.val (.int p0), .val (.int p1), .val (.long (F1 p0 (-1099511627776 : Int64))), .second, .val (.long (F1 p1 (-549755813888 : Int64))), .second, .val (.ref s_Result_LOSE), .unset] [(.int p1), (.int p0)])) (fun _ k => st9 _ (XS.astore X9.here hx rfl (hb hby at_50) rfl rfl (l' := #[.val (.int p0), .val (.int p1), .val (.long (F1 p0 (-1099511627776 : Int64))), .second, .val (.long (F1 p1 (-549755813888 : Int64))), .second, .val (.ref s_Result_LOSE), .unset]) rfl (XS.iloadN X9.here hx rfl (hb hby at_52) rfl (XS.iloadN X9.here hx rfl (hb hby at_53) rfl k)))) ?_
      obtain ⟨_, _, ⟨T10, L10, k10, n10⟩, -, X10, ⟨Lc10, hQ10, l10, y10, z10⟩, st10⟩ := Jvm.LawKit.callS X9 hx (y := (⟨"com/example/sidewager/sidewager/blackjack/Result", "ofTotals", "(II)Lcom/example/sidewager/sidewager/blackjack/Result;"⟩ : MethodName)) hown (mvT hZ (hw _ (List.mem_of_getElem? (i := 9) rfl))) (mvT hZ (hw _ (List.mem_of_getElem? (i := 10) rfl))) (mvT hZ (hw _ (List.mem_of_getElem? (i := 7) rfl))) (mvT hZ (hw _ (List.mem_of_getElem? (i := 11) rfl))) (by decide) (backOf (W := 0) (rm2 l Z a0 hw [] p0 p1 s_Result_LOSE s_Result_WIN s_Result_PUSH h0 n0 Zn S_s_Result_LOSE S_s_Result_WIN S_s_Result_PUSH) hZ (hw _ (List.mem_of_getElem? (i := 11) rfl)) (hw _ (List.mem_of_getElem? (i := 7) rfl)) (by decide) (by decide)) (g := (mkF m 54 #[.val (.int p0), .val (.int p1), .val (.long (F1 p0 (-1099511627776 : Int64))), .second, .val (.long (F1 p1 (-549755813888 : Int64))), .second, .val (.ref s_Result_LOSE), .unset] [(.int p1), (.int p0)])) rfl (by rw [hml]; rfl) (argsL := [(.int p0), (.int p1)]) (rest := []) (lenOf pd_1 rfl) rfl (by show 2 * 0 + _ ≤ _; exact Nat.le_of_eq rfl) (hb hby at_54) (fun _ _ => ⟨rfl, e9, (by decide : 0 + 0 ≤ _), (by decide : 0 + 0 ≤ _)⟩)
      dsimp only [Pt.U, Pt.locs, Pt.cells, Pt.slots] at X10 l10 y10 z10 st10 hQ10
      subst l10 y10 z10
      obtain ⟨rfl, N10q, e10⟩ := hQ10
      have N10 := Fr.app N2 N10q
      refine Run.st (S' := T10.setTop (mkF m 71 #[.val (.int p0), .val (.int p1), .val (.long (F1 p0 (-1099511627776 : Int64))), .second, .val (.long (F1 p1 (-549755813888 : Int64))), .second, .val (.ref s_Result_LOSE), .val (.ref (F2 p0 p1 s_Result_LOSE s_Result_WIN s_Result_PUSH))] [(.int (1 : Int32))])) (fun _ k => st10 _ (XS.astore X10.here hx rfl (hb hby at_57) rfl rfl (l' := #[.val (.int p0), .val (.int p1), .val (.long (F1 p0 (-1099511627776 : Int64))), .second, .val (.long (F1 p1 (-549755813888 : Int64))), .second, .val (.ref s_Result_LOSE), .val (.ref (F2 p0 p1 s_Result_LOSE s_Result_WIN s_Result_PUSH))]) rfl (XS.aload X10.here hx rfl (hb hby at_59) rfl rfl (XS.aload X10.here hx rfl (hb hby at_61) rfl rfl (Jvm.RoadKit.acmp (g := (mkF m 63 #[.val (.int p0), .val (.int p1), .val (.long (F1 p0 (-1099511627776 : Int64))), .second, .val (.long (F1 p1 (-549755813888 : Int64))), .second, .val (.ref s_Result_LOSE), .val (.ref (F2 p0 p1 s_Result_LOSE s_Result_WIN s_Result_PUSH))] [(.ref s_Result_LOSE), (.ref (F2 p0 p1 s_Result_LOSE s_Result_WIN s_Result_PUSH))])) X10 hx rfl rfl rfl (pc0 := 63) (pc' := 66) (same := true) rfl (hb hby at_63) rfl (decide_eq_true (congrArg Value.ref ((own_res _ _ _ _ _).2.2 hc21_3 hc36_6))) (by decide) (by decide) (XS.iconst X10.here hx rfl (hb hby at_66) (XS.goto X10.here hx rfl (pc0 := 67) (pc' := 71) rfl (hb hby at_67) (by decide) (by decide) k))))))) ?_
      refine Run.out X10 hx Bd.notSynchronized Bd.returns rfl (Or.inl ⟨rfl, by simp, _, rfl⟩) (hb hby at_71) (by decide) (by decide) ?_
      rw [e10]
      exact ⟨rfl, N10⟩
set_option maxRecDepth 65536 in
set_option maxHeartbeats 40000000 in
theorem comes_1 {Post : Tables → Env → Array Value → State → Outcome → State → Prop} (hpost : ∀ tb e args s v u, (limb_1_1.after args s (.returned v) u = true ∧ limb_1_2.after args s (.returned v) u = true ∧ True) → FrameEnd s (.returned v) u (Jvm.fieldLocs frame_1_writes args s ++ Jvm.arrayLocs frame_1_arrays args s ++ Jvm.staticLocs frame_1_statics s) 0 0 → Post tb e args s (.returned v) u) :
    ArmFor flags0 classFile x code maxLocals ret World_1 tables_1 room_1 Calls_1 rest_1 Pre_1 Post := by
  intro l hfl _ _ p e ha hc hk s m args below hf hA hF happ hP
  obtain ⟨hcalls, hrest, hpre⟩ := hP
  obtain ⟨-, -, -, hnamed, -, -, -, hat⟩ := (Spec.applies_iff hf).mp happ
  obtain ⟨hg, hn⟩ := and_e (Cond.before_iff.mp (show (Jvm.Cond.and given_1 narrow_1).before args s = true from hpre))
  obtain ⟨gv1, gv2⟩ := and_e hg
  obtain ⟨gv3, gv4⟩ := and_e gv2
  obtain ⟨gv5, gv6⟩ := and_e hn
  obtain ⟨gv7, gv8⟩ := and_e gv6
  obtain ⟨w0, w1, rfl⟩ : ∃ w0 w1 : Value, args = #[w0, w1] := by
    have hs : args.size = 2 := by simpa [Cond.value, given_1] using gv1
    obtain ⟨L⟩ := args
    match L, hs with
    | [w0, w1], _ => exact ⟨w0, w1, rfl⟩
  have hw := fun d (hd : d ∈ tables_1) => atoms_spec (ws := Jvm.Cond.code x code maxLocals ret :: tables_1) hat d (List.mem_cons_of_mem _ hd)
  have hfit : Fit s := fun {y c} hc i hi => by
    obtain ⟨ha, rfl⟩ := Array.getElem?_eq_some_iff.mp hc
    have q := List.all_eq_true.mp ((Array.all_eq_true_iff_forall_mem.mp hF) _ (Array.getElem_mem ha)) i (List.mem_range.mpr hi)
    simpa [Array.getElem?_eq_getElem hi] using q
  obtain ⟨i0, ei0⟩ := is_v gv3
  obtain rfl : w0 = (.int i0) := Option.some.inj ei0
  obtain ⟨i1, ei1⟩ := is_v gv4
  obtain rfl : w1 = (.int i1) := Option.some.inj ei1
  obtain ⟨s_Result_LOSE, ev_s_Result_LOSE⟩ := exa_v gv5
  have S_s_Result_LOSE : Sta s s.heap "com/example/sidewager/sidewager/blackjack/Result" "LOSE" "Lcom/example/sidewager/sidewager/blackjack/Result;" (.ref s_Result_LOSE) := Sta.start ev_s_Result_LOSE (Or.inr ⟨(hw _ (List.mem_of_getElem? (i := 7) rfl)), (hw _ (List.mem_of_getElem? (i := 8) rfl))⟩)
  have E_s_Result_LOSE : Exa s s.heap s_Result_LOSE "com/example/sidewager/sidewager/blackjack/Result" := Exa.start ev_s_Result_LOSE gv5
  obtain ⟨s_Result_WIN, ev_s_Result_WIN⟩ := exa_v gv7
  have S_s_Result_WIN : Sta s s.heap "com/example/sidewager/sidewager/blackjack/Result" "WIN" "Lcom/example/sidewager/sidewager/blackjack/Result;" (.ref s_Result_WIN) := Sta.start ev_s_Result_WIN (Or.inr ⟨(hw _ (List.mem_of_getElem? (i := 7) rfl)), (hw _ (List.mem_of_getElem? (i := 14) rfl))⟩)
  have E_s_Result_WIN : Exa s s.heap s_Result_WIN "com/example/sidewager/sidewager/blackjack/Result" := Exa.start ev_s_Result_WIN gv7
  obtain ⟨s_Result_PUSH, ev_s_Result_PUSH⟩ := exa_v gv8
  have S_s_Result_PUSH : Sta s s.heap "com/example/sidewager/sidewager/blackjack/Result" "PUSH" "Lcom/example/sidewager/sidewager/blackjack/Result;" (.ref s_Result_PUSH) := Sta.start ev_s_Result_PUSH (Or.inr ⟨(hw _ (List.mem_of_getElem? (i := 7) rfl)), (hw _ (List.mem_of_getElem? (i := 17) rfl))⟩)
  have E_s_Result_PUSH : Exa s s.heap s_Result_PUSH "com/example/sidewager/sidewager/blackjack/Result" := Exa.start ev_s_Result_PUSH gv8
  obtain ⟨n, o, h1, h2, h3, _, L, rfl, ⟨rfl, N⟩, hq⟩ := rm0 l s _ hw tables_1 i0 i1 s_Result_LOSE s_Result_WIN s_Result_PUSH s.heap s.heap.size (Nat.le_refl _) S_s_Result_LOSE S_s_Result_WIN S_s_Result_PUSH p e ha hc hk s m _ below hf ((Spec.applies_iff_loose hf).mp happ).1 ⟨rfl, State.Warmed39.refl s, rfl⟩ trivial
  refine ⟨n, _, h1, h2, h3, hpost _ _ _ _ _ _ ⟨Cond.after_iff.mpr rfl, Cond.after_iff.mpr (eq_i res_at (Term.int_eval (1)) rfl), trivial⟩ ⟨hq.1, hq.2.1, (hq.2.2.sift fun y hy => Or.inr (N y hy)).mono (by decide) (by decide)⟩⟩
theorem main_1_1 : Claimed_1_1 := comes_1 fun _ _ _ _ _ _ h hF => ⟨h.1, hF⟩
theorem main_1_2 : Claimed_1_2 := comes_1 fun _ _ _ _ _ _ h hF => ⟨h.2.1, hF⟩
end Jvm.Pilot.@@N@@
namespace Jvm.Pilot.@@N@@
open Jvm Jvm.ClassFile Sem Op Lib Jvm.Free Jvm.Stand Jvm.Pilot.@@N@@.Jvm.D
/-! MADE BY PROGRAM (witnessworld.py) out of the Statement's table words and the real class files: 12 classes; the members and pool entries that the words name. The judged class is class 1, her method 2. -/
namespace start1
open Jvm.ClassFile
def u (s : String) : CpInfo := .utf8 (stringToUtf16 s)
/-- a pool by its gaps: so many unusable entries, then the entry; so many at the end -/
def gap : Nat → List CpInfo → List CpInfo
  | 0, r => r
  | n + 1, r => .unusable :: gap n r
def poolList (es : List (Nat × CpInfo)) (last : Nat) : List CpInfo := es.foldr (fun e r => gap e.1 (e.2 :: r)) (gap last [])
def pool (es : List (Nat × CpInfo)) (last : Nat) : Array CpInfo := ⟨poolList es last⟩
def fileOf (pool : Array CpInfo) (this : Nat) (attrs : Array Attribute := #[]) (ms : Array MethodInfo := #[]) (fl : Nat := 33) (sup : Nat := 0) (ifs : Array Nat := #[]) (fds : Array FieldInfo := #[]) : ClassFile where
  minorVersion := 0
  majorVersion := 65
  constantPool := pool
  accessFlags := fl
  thisClass := this
  superClass := sup
  interfaces := ifs
  fields := fds
  methods := ms
  attributes := attrs
def plain (name : String) (sup : Option ClassId) : Class where
  name := name
  kind := .ordinary
  loader := none
  accessFlags := 33
  super := sup
  interfaces := #[]
  cf := none
  fields := #[]
  methods := #[]
  instanceTypes := #[]
  staticTypes := #[]
  resolved := #[]
  callSites := []
  init := .initialized
  statics := none
  mirror := none

def pool0 : Array CpInfo := pool [(5, u "<init>"), (0, u "()V"), (1, .class_ 10), (1, u "java/lang/Object")] 113

def k0m0 : Method := { name := "<init>", desc := "()V", sig := { parameters := [], returnType := none }, accessFlags := 1, code := none }
/-- java/lang/Object -/
def k0 : Class := { plain "java/lang/Object" none with
  accessFlags := 33
  interfaces := #[]
  cf := some (fileOf pool0 8 #[] #[{ accessFlags := 1, nameIndex := 5, descriptorIndex := 6, attributes := #[] }] 33 0 #[] #[])
  fields := #[]
  methods := #[k0m0]
  instanceTypes := #[]
  staticTypes := #[]
  resolved := Array.replicate 124 none
  statics := none }

def pool1 : Array CpInfo := pool [(2, .class_ 4), (1, u "java/lang/Object"), (0, u "<init>"), (0, u "()V"), (0, .long 18446742974197923840), (1, .methodref 10 11), (0, .class_ 12), (0, .nameAndType 13 14), (0, u "com/example/sidewager/sidewager/blackjack/ResultOfTotalsPinLaw"), (0, u "score"), (0, u "(IJ)J"), (0, .long 18446743523953737728), (1, .fieldref 18 19), (0, .class_ 20), (0, .nameAndType 21 22), (0, u "com/example/sidewager/sidewager/blackjack/Result"), (0, u "WIN"), (0, u "Lcom/example/sidewager/sidewager/blackjack/Result;"), (0, .fieldref 18 24), (0, .nameAndType 25 22), (0, u "PUSH"), (0, .fieldref 18 27), (0, .nameAndType 28 22), (0, u "LOSE"), (0, .methodref 18 30), (0, .nameAndType 31 32), (0, u "ofTotals"), (0, u "(II)Lcom/example/sidewager/sidewager/blackjack/Result;"), (3, u "law"), (0, u "(II)Z")] 2

def k1m0 : Method := { name := "<init>", desc := "()V", sig := { parameters := [], returnType := none }, accessFlags := 2, code := none }
def k1c1 : Code := { maxStack := 2, maxLocals := 3, code := method_2_code, exceptionTable := #[], attributes := #[] }
def k1m1 : Method := { name := "score", desc := "(IJ)J", sig := { parameters := [.int, .long], returnType := some .long }, accessFlags := 10, code := some k1c1 }
def k1c2 : Code := { maxStack := 4, maxLocals := 8, code := code, exceptionTable := #[], attributes := #[] }
def k1m2 : Method := { name := "law", desc := "(II)Z", sig := { parameters := [.int, .int], returnType := some .boolean }, accessFlags := 9, code := some k1c2 }
/-- com/example/sidewager/sidewager/blackjack/ResultOfTotalsPinLaw -/
def k1 : Class := { plain "com/example/sidewager/sidewager/blackjack/ResultOfTotalsPinLaw" (some 0) with
  accessFlags := 49
  interfaces := #[]
  cf := some (fileOf pool1 10 #[] #[{ accessFlags := 2, nameIndex := 5, descriptorIndex := 6, attributes := #[] }, { accessFlags := 10, nameIndex := 13, descriptorIndex := 14, attributes := #[] }, { accessFlags := 9, nameIndex := 36, descriptorIndex := 37, attributes := #[] }] 49 2 #[] #[])
  fields := #[]
  methods := #[k1m0, k1m1, k1m2]
  instanceTypes := #[]
  staticTypes := #[]
  resolved := Array.replicate 40 none
  statics := none }

def pool2 : Array CpInfo := pool [(1, .class_ 2), (0, u "java/lang/constant/Constable"), (0, .class_ 4), (0, u "java/lang/Object")] 6

/-- java/lang/constant/Constable -/
def k2 : Class := { plain "java/lang/constant/Constable" (some 0) with
  accessFlags := 1537
  interfaces := #[]
  cf := some (fileOf pool2 1 #[] #[] 1537 3 #[] #[])
  fields := #[]
  methods := #[]
  instanceTypes := #[]
  staticTypes := #[]
  resolved := Array.replicate 11 none
  statics := none }

def pool3 : Array CpInfo := pool [(1, .class_ 2), (0, u "java/lang/Comparable"), (0, .class_ 4), (0, u "java/lang/Object")] 7

/-- java/lang/Comparable -/
def k3 : Class := { plain "java/lang/Comparable" (some 0) with
  accessFlags := 1537
  interfaces := #[]
  cf := some (fileOf pool3 1 #[] #[] 1537 3 #[] #[])
  fields := #[]
  methods := #[]
  instanceTypes := #[]
  staticTypes := #[]
  resolved := Array.replicate 12 none
  statics := none }

def pool4 : Array CpInfo := pool [(1, .class_ 2), (0, u "java/io/Serializable"), (0, .class_ 4), (0, u "java/lang/Object")] 2

/-- java/io/Serializable -/
def k4 : Class := { plain "java/io/Serializable" (some 0) with
  accessFlags := 1537
  interfaces := #[]
  cf := some (fileOf pool4 1 #[] #[] 1537 3 #[] #[])
  fields := #[]
  methods := #[]
  instanceTypes := #[]
  staticTypes := #[]
  resolved := Array.replicate 7 none
  statics := none }

def pool5 : Array CpInfo := pool [(2, .class_ 4), (1, u "java/lang/Enum"), (0, u "name"), (0, u "Ljava/lang/String;"), (2, u "ordinal"), (0, u "I"), (1, .class_ 14), (1, u "java/lang/Object"), (4, u "hash"), (86, .class_ 108), (1, u "java/lang/Enum$EnumDesc"), (2, .class_ 112), (0, u "java/lang/constant/Constable"), (0, .class_ 114), (0, u "java/lang/Comparable"), (0, .class_ 116), (0, u "java/io/Serializable")] 87

/-- java/lang/Enum -/
def k5 : Class := { plain "java/lang/Enum" (some 0) with
  accessFlags := 1057
  interfaces := #[2, 3, 4]
  cf := some (fileOf pool5 2 #[.nestMembers #[106]] #[] 1057 12 #[111, 113, 115] #[{ accessFlags := 18, nameIndex := 5, descriptorIndex := 6, attributes := #[] }, { accessFlags := 18, nameIndex := 9, descriptorIndex := 10, attributes := #[] }, { accessFlags := 2, nameIndex := 19, descriptorIndex := 10, attributes := #[] }])
  fields := #[{ name := "name", type := (.object "java/lang/String"), accessFlags := 18, slot := 0, constantValue := 0 }, { name := "ordinal", type := .int, accessFlags := 18, slot := 1, constantValue := 0 }, { name := "hash", type := .int, accessFlags := 2, slot := 2, constantValue := 0 }]
  methods := #[]
  instanceTypes := #[(.object "java/lang/String"), .int, .int]
  staticTypes := #[]
  resolved := Array.replicate 204 none
  statics := none }

def pool6 : Array CpInfo := pool [(1, .class_ 2), (0, u "com/example/sidewager/sidewager/blackjack/Result"), (0, .fieldref 1 4), (0, .nameAndType 5 6), (0, u "WIN"), (0, u "Lcom/example/sidewager/sidewager/blackjack/Result;"), (0, .fieldref 1 8), (0, .nameAndType 9 6), (0, u "LOSE"), (0, .fieldref 1 11), (0, .nameAndType 12 6), (0, u "PUSH"), (2, u "$VALUES"), (0, u "[Lcom/example/sidewager/sidewager/blackjack/Result;"), (6, .class_ 25), (1, u "java/lang/Enum"), (23, u "ofTotals"), (0, u "(II)Lcom/example/sidewager/sidewager/blackjack/Result;")] 5

def k6c0 : Code := { maxStack := 2, maxLocals := 2, code := prog_33_method_4_code, exceptionTable := #[], attributes := #[] }
def k6m0 : Method := { name := "ofTotals", desc := "(II)Lcom/example/sidewager/sidewager/blackjack/Result;", sig := { parameters := [.int, .int], returnType := some (.object "com/example/sidewager/sidewager/blackjack/Result") }, accessFlags := 9, code := some k6c0 }
/-- com/example/sidewager/sidewager/blackjack/Result -/
def k6 : Class := { plain "com/example/sidewager/sidewager/blackjack/Result" (some 5) with
  accessFlags := 16433
  interfaces := #[]
  cf := some (fileOf pool6 1 #[] #[{ accessFlags := 9, nameIndex := 49, descriptorIndex := 50, attributes := #[] }] 16433 23 #[] #[{ accessFlags := 16409, nameIndex := 5, descriptorIndex := 6, attributes := #[] }, { accessFlags := 16409, nameIndex := 9, descriptorIndex := 6, attributes := #[] }, { accessFlags := 16409, nameIndex := 12, descriptorIndex := 6, attributes := #[] }, { accessFlags := 4122, nameIndex := 15, descriptorIndex := 16, attributes := #[] }])
  fields := #[{ name := "WIN", type := (.object "com/example/sidewager/sidewager/blackjack/Result"), accessFlags := 16409, slot := 0, constantValue := 0 }, { name := "LOSE", type := (.object "com/example/sidewager/sidewager/blackjack/Result"), accessFlags := 16409, slot := 1, constantValue := 0 }, { name := "PUSH", type := (.object "com/example/sidewager/sidewager/blackjack/Result"), accessFlags := 16409, slot := 2, constantValue := 0 }, { name := "$VALUES", type := (.array (.object "com/example/sidewager/sidewager/blackjack/Result")), accessFlags := 4122, slot := 3, constantValue := 0 }]
  methods := #[k6m0]
  instanceTypes := #[(.object "java/lang/String"), .int, .int]
  staticTypes := #[(.object "com/example/sidewager/sidewager/blackjack/Result"), (.object "com/example/sidewager/sidewager/blackjack/Result"), (.object "com/example/sidewager/sidewager/blackjack/Result"), (.array (.object "com/example/sidewager/sidewager/blackjack/Result"))]
  resolved := Array.replicate 56 none
  statics := some 0 }

def pool7 : Array CpInfo := pool [(1, u "java/lang/Cloneable"), (0, .class_ 1), (0, u "java/lang/Object"), (0, .class_ 3)] 3

/-- java/lang/Cloneable -/
def k7 : Class := { plain "java/lang/Cloneable" (some 0) with
  accessFlags := 1537
  interfaces := #[]
  cf := some (fileOf pool7 2 #[] #[] 1537 4 #[] #[])
  fields := #[]
  methods := #[]
  instanceTypes := #[]
  staticTypes := #[]
  resolved := Array.replicate 8 none
  statics := none }

/-- the primitive byte -/
def k8 : Class := { plain "byte" none with kind := .primitive 'B', accessFlags := 0x411 }
/-- [B -/
def k9 : Class := { plain "[B" (some 0) with kind := .array 8 .byte, interfaces := #[7, 4], accessFlags := 1041 }

/-- the primitive int -/
def k10 : Class := { plain "int" none with kind := .primitive 'I', accessFlags := 0x411 }
/-- [I -/
def k11 : Class := { plain "[I" (some 0) with kind := .array 10 .int, interfaces := #[7, 4], accessFlags := 1041 }

def heap : Heap := #[{ cls := 6, slots := #[.ref 2, .ref 1, .ref 3, .null], vm := .statics 6 },
  { cls := 6, slots := #[.null, .int 0, .int 0], vm := .none },
  { cls := 6, slots := #[.null, .int 0, .int 0], vm := .none },
  { cls := 6, slots := #[.null, .int 0, .int 0], vm := .none }]
def classes : Array Class := #[k0, k1, k2, k3, k4, k5, k6, k7, k8, k9, k10, k11]
def interned : List (Array UInt16 × Addr) := []
def slotsUsed : Nat := 13
def theMethod : MethodId := ⟨1, 2⟩
def args0 : Array Value := #[.int 20, .int 19]
def aboutOver (below : List Frame) : State where
  vm := { classes := classes, interned := interned.toArray }
  heap := heap
  slotsUsed := slotsUsed
  threads := #[{ frames := .invoking theMethod args0 :: below }]
def below0 : List Frame := [.native { method := ⟨0, 0⟩, args := #[] }]
def about1 : State := aboutOver below0
def p0 : Program := .bare "" "" ""
def e0 : Env := launch0.env 0 0 0
theorem w_frames : about1.frames = Frame.invoking theMethod args0 :: below0 := rfl
set_option maxRecDepth 65536 in
theorem w_args : argsFit about1.vm theMethod args0 = true := by decide +kernel
set_option maxRecDepth 65536 in
theorem w_heap : heapFits about1 = true := by decide +kernel
set_option maxRecDepth 65536 in
theorem w_runnable : about1.curStatus? = some .runnable := by decide +kernel
set_option maxRecDepth 65536 in
theorem w_alone : about1.alone = true := by decide +kernel
set_option maxRecDepth 65536 in
theorem w_named : about1.methodNamed? x = some theMethod := by decide +kernel
set_option maxRecDepth 65536 in
theorem w_hears : about1.hears theMethod below0 = true := by decide +kernel
set_option maxRecDepth 65536 in
theorem w_ripe : about1.ripe theMethod args0 below0 = true := by decide +kernel
theorem w_running : about1.status = .running := rfl
set_option maxRecDepth 65536 in
theorem w_room : about1.hasRoom e0.platform room_1 = true :=
  launch0.hasRoom_least _ room_1 (by decide +kernel) (by decide +kernel) (by decide +kernel) (by decide +kernel) (by decide +kernel) (by decide +kernel)
theorem allAtoms_all (ts : List Jvm.Cond) (a : Array Jvm.Value) (st : Jvm.State) : (allAtoms ts).before a st = ts.all (fun c => c.before a st) := by
  induction ts with
  | nil => rfl
  | cons c t ih =>
    show (Jvm.Cond.and c (allAtoms t)).before a st = _
    rw [Jvm.Cond.before_and, ih, List.all_cons]
def words1 : List Jvm.Cond := Jvm.Cond.code x code maxLocals ret :: tables_1
/-- a 'code' word, met by the world's own term for the bytes: nothing is compared byte by byte -/
theorem code_word {y : MethodName} {bytes : ByteArray} {mx : Nat} {rt : Option FieldType} {a : Array Value} {s : State} {m : MethodId} {meth : Method} {c : Code} (h1 : s.methodNamed? y = some m) (h2 : s.vm.method? m = some meth) (h3 : meth.code = some c) (h4 : c.code = bytes)
    (h5 : (c.maxLocals == mx && c.exceptionTable.isEmpty && decide (c.maxStack ≤ mostOperands) && decide (meth.sig.returnType = rt) && !meth.locks && decide (parseMethodDescriptor y.desc = some meth.sig)) = true) : (Jvm.Cond.code y bytes mx rt).before a s = true := by
  simp only [Bool.and_eq_true, beq_iff_eq, Bool.not_eq_true', decide_eq_true_eq] at h5
  obtain ⟨⟨⟨⟨⟨g1, g2⟩, g3⟩, g4⟩, g5⟩, g6⟩ := h5
  simp [Cond.before, Cond.holds, Cond.value, h1, h2, h3, h4, g1, g2, g3, g4, g5, g6]
def isCode : Jvm.Cond → Bool
  | .code _ _ _ _ => true
  | _ => false
theorem all_split {L : List Jvm.Cond} {P : Jvm.Cond → Bool} (h1 : L.all (fun c => isCode c || P c) = true) (h2 : ∀ c ∈ L.filter isCode, P c = true) : L.all P = true := by
  refine List.all_eq_true.mpr fun c hc => ?_
  have h := List.all_eq_true.mp h1 c hc
  rcases Bool.eq_false_or_eq_true (isCode c) with hi | hi
  · exact h2 c (List.mem_filter.mpr ⟨hc, hi⟩)
  · simpa [hi] using h
set_option maxRecDepth 65536 in
theorem w_c0 : (Jvm.Cond.code x code maxLocals ret).before args0 about1 = true := code_word (m := ⟨1, 2⟩) (meth := k1m2) (c := k1c2) (by decide +kernel) rfl rfl rfl (by decide +kernel)
set_option maxRecDepth 65536 in
theorem w_c1 : (Jvm.Cond.code ({ cls := "com/example/sidewager/sidewager/blackjack/ResultOfTotalsPinLaw", name := "score", desc := "(IJ)J" } : Jvm.MethodName) method_2_code (3 : Nat) (Option.some Jvm.ClassFile.FieldType.long)).before args0 about1 = true := code_word (m := ⟨1, 1⟩) (meth := k1m1) (c := k1c1) (by decide +kernel) rfl rfl rfl (by decide +kernel)
set_option maxRecDepth 65536 in
theorem w_c2 : (Jvm.Cond.code ({ cls := "com/example/sidewager/sidewager/blackjack/Result", name := "ofTotals", desc := "(II)Lcom/example/sidewager/sidewager/blackjack/Result;" } : Jvm.MethodName) prog_33_method_4_code (2 : Nat) (Option.some (Jvm.ClassFile.FieldType.object "com/example/sidewager/sidewager/blackjack/Result"))).before args0 about1 = true := code_word (m := ⟨6, 0⟩) (meth := k6m0) (c := k6c0) (by decide +kernel) rfl rfl rfl (by decide +kernel)
def codes1 : List Jvm.Cond := [Jvm.Cond.code x code maxLocals ret, Jvm.Cond.code ({ cls := "com/example/sidewager/sidewager/blackjack/ResultOfTotalsPinLaw", name := "score", desc := "(IJ)J" } : Jvm.MethodName) method_2_code (3 : Nat) (Option.some Jvm.ClassFile.FieldType.long), Jvm.Cond.code ({ cls := "com/example/sidewager/sidewager/blackjack/Result", name := "ofTotals", desc := "(II)Lcom/example/sidewager/sidewager/blackjack/Result;" } : Jvm.MethodName) prog_33_method_4_code (2 : Nat) (Option.some (Jvm.ClassFile.FieldType.object "com/example/sidewager/sidewager/blackjack/Result"))]
set_option maxRecDepth 65536 in
theorem codes_eq : words1.filter isCode = codes1 := rfl
theorem w_codes : ∀ c ∈ words1.filter isCode, c.before args0 about1 = true := by
  rw [codes_eq]
  intro c hc
  simp only [codes1, List.mem_cons, List.not_mem_nil, or_false] at hc
  rcases hc with rfl | rfl | rfl
  · exact w_c0
  · exact w_c1
  · exact w_c2
set_option maxRecDepth 65536 in
theorem w_t1 : words1.all (fun c => isCode c || c.before args0 about1) = true := by decide +kernel
theorem w_tables : (allAtoms (Jvm.Cond.code x code maxLocals ret :: tables_1)).before args0 about1 = true := by
  rw [allAtoms_all]
  show words1.all (fun c => c.before args0 about1) = true
  refine all_split ?_ w_codes
  rw [w_t1]
set_option maxRecDepth 65536 in
theorem w_case : (Jvm.Cond.and given_1 narrow_1).before args0 about1 = true := by decide +kernel
theorem w_applies : (headSpec (Jvm.Cond.code x code maxLocals ret :: tables_1) room_1).applies x e0.platform about1 = true :=
  (Spec.applies_iff w_frames).mpr ⟨w_running, w_runnable, w_alone, w_named, w_hears, w_ripe, w_room, w_tables⟩
theorem atStart : AtStart classFile x code maxLocals ret World_1 tables_1 room_1 Calls_1 rest_1 Pre_1 launch0 p0 e0 about1 theMethod args0 below0 :=
  ⟨lists_1, trivial, launch0.admits_env _ _ _, launch0.least_env, fairChoices_fair.cas, fairChoices_fair.clock, w_frames, w_args, w_heap, w_applies, trivial, trivial, w_case⟩
end start1
theorem witness_1 : WitnessClaimed_1 := ⟨start1.p0, start1.e0, start1.about1, start1.theMethod, start1.args0, start1.below0, start1.atStart⟩
end Jvm.Pilot.@@N@@
