import JvmDerived
import JvmDerived.Pilot.@@N@@Statement
import JvmDerived.Pilot.@@N@@Code
set_option linter.unusedVariables false
set_option linter.unusedSimpArgs false
namespace Jvm.Pilot.@@N@@
open Jvm Jvm.ClassFile Sem Op Lib Jvm.Free Jvm.Stand Jvm.LawKit Jvm.RoadKit Bundle Jvm.Pilot.@@N@@.Jvm.D
section OwnRun
variable {p : Program} {l : Launch} {e : Env} {R : Room} {s : State} {m : MethodId} {args : Array Value} {below : List Frame} {meth : Method} {c : Code} {T : State} {locs : List Loc} {cells slots : Nat}
/-- from S the run comes to its end, and there Q holds -/
def Run (p : Program) (e : Env) (below : List Frame) (Q : State → Outcome → Prop) (S : State) : Prop := ∃ s₂ o, Steps p.tables e below S s₂ ∧ s₂.status = .running ∧ Ended s₂ below o ∧ Q s₂ o
def Ends (s : State) (Qb : Option Value → Heap → List Loc → Prop) (C S : Nat) : State → Outcome → Prop := fun s₂ o => ∃ v L, o = .returned v ∧ Qb v s₂.heap L ∧ FrameEnd s o s₂ L C S
theorem Run.st {Q : State → Outcome → Prop} {S S' : State} (h : ∀ t, Steps p.tables e below S' t → Steps p.tables e below S t) (r : Run p e below Q S') : Run p e below Q S := by
  obtain ⟨a, b, c, d⟩ := r
  exact ⟨a, b, h _ c, d⟩
theorem Run.out (X : Stand p l e R s m args below meth c T locs cells slots) (hx : p.tables.exec = Jvm.exec) {Qb : Option Value → Heap → List Loc → Prop} {C S : Nat} {pc : Nat} {Ls : Array Slot} {w : Value} {t : FieldType} {i : Instr} {rest : List Value} (hlocks : meth.locks = false) (hret : meth.sig.returnType = some t) (hn : narrow t w = w)
    (hi : (i = .ireturn ∧ (t = .int ∨ t = .boolean ∨ t = .byte ∨ t = .char ∨ t = .short) ∧ ∃ z, w = .int z) ∨ (i = .lreturn ∧ t = .long ∧ ∃ z, w = .long z) ∨ (i = .dreturn ∧ t = .double ∧ ∃ z, w = .double z) ∨ (i = .freturn ∧ t = .float ∧ ∃ z, w = .float z) ∨ (i = .areturn ∧ t.isReference = true ∧ w.isRef = true))
    (hd : decode c.code pc = .ok (i, 1)) (hC : cells ≤ C) (hS : slots ≤ S) (hq : Qb (some w) T.heap locs) : Run p e below (Ends s Qb C S) (T.setTop (mkF m pc Ls (w :: rest))) := by
  obtain ⟨fs, hr, hrun, hended, hW, hsame⟩ := X.leave (v := some w) (fun h => by rw [hret] at h; cases h) hlocks
  exact ⟨_, _, retOut X hx hret hn hi hd hr, hrun, hended, _, _, rfl, hq, ⟨_, rfl⟩, hW, hsame.mono hC hS⟩
theorem Run.outV (X : Stand p l e R s m args below meth c T locs cells slots) (hx : p.tables.exec = Jvm.exec) {Qb : Option Value → Heap → List Loc → Prop} {C S : Nat} {pc : Nat} {Ls : Array Slot} (hlocks : meth.locks = false) (hret : meth.sig.returnType = none)
    (hd : decode c.code pc = .ok (.return_, 1)) (hC : cells ≤ C) (hS : slots ≤ S) (hq : Qb none T.heap locs) : Run p e below (Ends s Qb C S) (T.setTop (mkF m pc Ls [])) := by
  obtain ⟨fs, hr, hrun, hended, hW, hsame⟩ := X.leave (v := none) (fun _ => rfl) hlocks
  exact ⟨_, _, X.returnOut hx hret hd hr, hrun, hended, _, _, rfl, hq, ⟨_, rfl⟩, hW, hsame.mono hC hS⟩
theorem lcYes {cd : ClassFile.Cond} {x y : Int64} {b : Bool} (h : ifCond.holds cd (Jvm.Free.XT.cmpL x y) = b) : ifCond.holds cd (lcmpW x y) = b := h
theorem nb01 {P : Prop} [Decidable P] : narrow .boolean (.int (if P then (1 : Int32) else (0 : Int32))) = .int (if P then (1 : Int32) else (0 : Int32)) := by split <;> rfl
theorem staK {Z : State} {h h' : Heap} {C n d : String} {v : Value} {ws : List Addr} (F : Sta Z h C n d v) (K : Keep h h' ws) (q : ∀ x ∈ ws, ∀ c : Cell, h[x]? = some c → c.vm.isStatics = false) : Sta Z h' C n d v := by
  obtain ⟨cf, i, k, f, st, cell, h1, h2, h3, h4, h5, h6, h7⟩ := F
  refine ⟨cf, i, k, f, st, cell, h1, h2, h3, h4, K.2.1 st cell h5 (fun m => ?_), h6, h7⟩
  have := q st m cell h5
  rw [h6] at this
  cases this
theorem exaP {Z : State} {h : Heap} {a : Addr} {C : String} (E : Exa Z h a C) : ∀ c : Cell, h[a]? = some c → c.vm.isStatics = false := fun c hc => by
  obtain ⟨cell, k, h1, -, -, h4, -⟩ := E
  cases h1.symm.trans hc
  exact h4
theorem arvP {Z : State} {h : Heap} {a : Addr} {k : ClassId} {ty : FieldType} {n : Int32} {vs : List Value} {d : Value} (E : Arv Z h a k ty n vs d) : ∀ c : Cell, h[a]? = some c → c.vm.isStatics = false := fun c hc => by
  obtain ⟨cell, A, -⟩ := E
  cases A.1.symm.trans hc
  exact A.plain
theorem selSelf {s : State} {args : Array Value} {y : MethodName} {n : Nat} (wi : (Jvm.Cond.instantiable y.cls n).before args s = true) (hp : s.PrivateAt y) (hi : (Jvm.Cond.instanceMethod y).before args s = true) (hy : y.cls ≠ "java/lang/invoke/MethodHandle" ∧ y.cls ≠ "java/lang/invoke/VarHandle") : (Jvm.Cond.selects y.cls y y).before args s = true := by
  obtain ⟨c, k, h1, h2, -, h4, -⟩ := Cond.instantiable_spec wi
  rw [Bool.or_eq_false_iff] at h4
  exact selects_self_of_private h1 h2 h4.1 hp hi hy
theorem own_lsw {tb : Tables} [Ours tb] {e : Env} {below : List Frame} {T target : State} {m : MethodId} {c : Code} {g : JFrame} (h : At T m c below) (hx : tb.exec = Jvm.exec) (hg : g.method = m) {dflt : Int} {ps : Array (Int × Int)} {len : Nat} {o : Int} {pc0 pc' : Nat} (hpc : g.pc = pc0) (hd : decode c.code g.pc = .ok (.lookupswitch dflt ps, len)) {i : Int32} {rest : List Value} (hs : g.stack = .int i :: rest)
    (hsort : ∀ q ∈ ps.toList.zip ps.toList.tail, q.1.1 < q.2.1) (hoff : lookupswitch.offset ps.toList dflt i.toInt = o) (ho : 0 ≤ (pc0 : Int) + o) (hp : ((pc0 : Int) + o).toNat = pc')
    (hr : Steps tb e below (T.setTop { g with pc := pc', stack := rest }) target) : Steps tb e below (T.setTop g) target := by
  subst hg hpc hp
  jvm_step h [h.top, hx, hd, hs, hoff, ho, lookupswitch.wp_chain]
  exact ⟨fun a b a1 b1 q => hsort _ q, hr⟩
theorem ord_v {args : Array Value} {s : State} {t : Term} {C n d : String} {k : Int32} {a : Addr} (ht : t.eval args s none [] s = some (.ref a)) (h : (Jvm.Cond.eq (.field t C n d) (.int k)).value args s none s [] = some true) : Fld s s.heap a C n d (.int k) := by
  refine Fld.start ?_
  rw [← fld_at (C := C) (n := n) (dd := d) ht]
  simp only [Cond.value] at h
  cases hv : (Term.field t C n d).eval args s none [] s with
  | none => simp [hv] at h
  | some v => cases v <;> simp_all [Term.eval]
theorem arr_len {args : Array Value} {s : State} {t : Term} {a : Addr} {cl : Cell} {ty : FieldType} {n : Int32} (ht : t.eval args s none [] s = some (.ref a)) (A : Arr s s.heap a cl ty) (h : (Jvm.Cond.eq (.length t) (.int n)).value args s none s [] = some true) : cl.slots.size < 2 ^ 31 ∧ cl.slots.size.toInt32 = n := by
  have ha := A.fin (Vm.Alike.refl s.vm)
  by_cases q : cl.slots.size < 2 ^ 31
  · refine ⟨q, ?_⟩
    have e := len_f ht ha q
    have e2 : (Term.int n).eval args s none [] s = some (.int n) := rfl
    simp only [Cond.value, e, e2] at h
    simpa using h
  · simp [Cond.value, Term.eval, ht, ha, q] at h
theorem arr_elR {args : Array Value} {s : State} {t u : Term} {a b : Addr} {cl : Cell} {ty : FieldType} {j : Int32} (ht : t.eval args s none [] s = some (.ref a)) (A : Arr s s.heap a cl ty) (h : (Jvm.Cond.eq (.elem t (.int j)) u).value args s none s [] = some true) (hu : u.eval args s none [] s = some (.ref b)) (hj : ¬ j < 0) : cl.slots[j.toNatClampNeg]? = some (.ref b) := by
  have ha := A.fin (Vm.Alike.refl s.vm)
  have e : (Term.elem t (.int j)).eval args s none [] s = cl.slots[j.toNatClampNeg]? := elem_f ht rfl ha hj
  simp only [Cond.value, hu, e] at h
  cases hv : cl.slots[j.toNatClampNeg]? with
  | none => simp [hv] at h
  | some v => cases v <;> simp_all
theorem arr_elI {args : Array Value} {s : State} {t : Term} {a : Addr} {cl : Cell} {ty : FieldType} {j k : Int32} (ht : t.eval args s none [] s = some (.ref a)) (A : Arr s s.heap a cl ty) (h : (Jvm.Cond.eq (.elem t (.int j)) (.int k)).value args s none s [] = some true) (hj : ¬ j < 0) : cl.slots[j.toNatClampNeg]? = some (.int k) := by
  have ha := A.fin (Vm.Alike.refl s.vm)
  have e : (Term.elem t (.int j)).eval args s none [] s = cl.slots[j.toNatClampNeg]? := elem_f ht rfl ha hj
  have e2 : (Term.int k).eval args s none [] s = some (.int k) := rfl
  simp only [Cond.value, e, e2] at h
  cases hv : cl.slots[j.toNatClampNeg]? with
  | none => simp [hv] at h
  | some v => cases v <;> simp_all
theorem inb32 {j z : Int32} {n : Int} (hz : z.toInt = n) (h0 : 0 ≤ j.toInt) (h1 : j.toInt < n) : ¬ j < 0 ∧ j < z := by
  rw [Int32.lt_iff_toInt_lt, Int32.lt_iff_toInt_lt, hz]
  have : (0 : Int32).toInt = 0 := by decide
  omega
theorem own_nn {n : Int32} (h : 0 ≤ n.toInt) : ¬ n < 0 := by
  rw [Int32.lt_iff_toInt_lt]
  have : (0 : Int32).toInt = 0 := by decide
  omega
theorem own_cap {n : Int32} {c : Nat} (h : n.toInt < (c : Int) + 1) : n.toNatClampNeg ≤ c := by
  simp only [Int32.toNatClampNeg]
  omega
theorem own_fin (x : Int32) (n : Nat) (hn : n < 2147483648) (h0 : 0 ≤ x.toInt) (h1 : x.toInt < n) : ∃ i : Fin n, x = Int32.ofNat i.1 := by
  refine ⟨⟨x.toInt.toNat, by omega⟩, Int32.toInt_inj.mp ?_⟩
  show x.toInt = (Int32.ofNat x.toInt.toNat).toInt
  rw [Int32.toInt_ofNat_small (by omega)]
  omega
end OwnRun
theorem d3_0 : decode jdk_30_method_1_code 0 = .ok (.aload_n 0, 1) := by decide +kernel
theorem d3_1 : decode jdk_30_method_1_code 1 = .ok (.invokespecial 1, 3) := by decide +kernel
theorem d3_4 : decode jdk_30_method_1_code 4 = .ok (.return_, 1) := by decide +kernel
theorem pn_0 : plainName "java/lang/Record" = true := by first | (simp [plainName, overriddenIn]; done) | decide +kernel
theorem ef_Rec (m : MethodId) (a0 : Addr) : entryFrame m #[(.ref a0)] 1 = mkF m 0 #[.val (.ref a0)] [] := by first | (simp [entryFrame, mkF, argsToLocals, Value.category]; done) | rfl
def QRec (Z : State) (a0 : Addr) (h0 : Heap) (n0 : Nat) (v : Option Value) (h : Heap) (L : List Loc) : Prop := v = none ∧ Fr n0 L ∧ h = h0
set_option maxRecDepth 65536 in
set_option maxHeartbeats 40000000 in
theorem rmRec (l : Launch) (Z : State) (aV : Array Value) (hw : ∀ d ∈ tables_1, d.before aV Z = true) (ws : List Jvm.Cond) (a0 : Addr) (h0 : Heap) (n0 : Nat) (Zn : n0 ≤ h0.size) :
    MetFree l (⟨"java/lang/Record", "<init>", "()V"⟩ : MethodName) (head1 (Jvm.Cond.code (⟨"java/lang/Record", "<init>", "()V"⟩ : MethodName) jdk_30_method_1_code 1 none :: ws) ({ frames := 1, cells := 0, slots := 0, locals := 12 } : Room)) (fun a U => a = #[(.ref a0)] ∧ Z.Warmed39 U.vm ∧ U.heap = h0) (fun _ _ _ _ _ => True) (fun _ U o U' => ∃ v L, o = .returned v ∧ QRec Z a0 h0 n0 v U'.heap L ∧ FrameEnd U o U' L ({ frames := 1, cells := 0, slots := 0, locals := 12 } : Room).cells ({ frames := 1, cells := 0, slots := 0, locals := 12 } : Room).slots) := by
  refine MetFree.of_bodySF (plainFor_of_name pn_0) hisR ?_
  intro p e s m args below meth c s₁ Bd hml0 hP hK
  obtain ⟨rfl, hZ, hh⟩ := hP
  have hx := Bd.exec
  have hby := Bd.bytes
  have hml : c.maxLocals = 1 := hml0
  have hown : s.vm.findClass "java/lang/Record" = some m.cls := findClass_of_methodNamed Bd.named
  have hnm := (name_of_methodNamed Bd.named Bd.method).1
  have X0 : Stand p l e ({ frames := 1, cells := 0, slots := 0, locals := 12 } : Room) s m #[(.ref a0)] below meth c s₁ [] 0 0 := Stand.of_body Bd
  have e0 : s₁.heap = h0 := by rw [← hh, Bd.state]; rfl
  have N0 := Fr.nil n0
  have Kp := Keep.refl h0 []
  show Run p e below (Ends s (QRec Z a0 h0 n0) ({ frames := 1, cells := 0, slots := 0, locals := 12 } : Room).cells ({ frames := 1, cells := 0, slots := 0, locals := 12 } : Room).slots) _
  refine Run.st (S' := s₁.setTop (mkF m 0 #[.val (.ref a0)] [])) (fun t k => castTop (ef_Rec m a0) k) ?_
  refine Run.st (S' := s₁.setTop (mkF m 1 #[.val (.ref a0)] [(.ref a0)])) (fun _ k => XS.aloadN X0.here hx rfl (hb hby d3_0) rfl rfl k) ?_
  obtain ⟨T1, X1, e1, st1⟩ := initO X0 hx hZ hown (hw _ (List.mem_of_getElem? (i := 18) rfl)) (hw _ (List.mem_of_getElem? (i := 19) rfl)) (hw _ (List.mem_of_getElem? (i := 20) rfl)) e0 (g := (mkF m 1 #[.val (.ref a0)] [(.ref a0)])) rfl (by rw [hml]; rfl) rfl (hb hby d3_1) (by decide) (W := 0) (by show 2 * 0 + _ ≤ _; exact Nat.le_of_eq rfl) (by decide)
  refine Run.st (S' := T1.setTop (mkF m 4 #[.val (.ref a0)] [])) (fun _ k => st1 _ k) ?_
  refine Run.outV X1 hx Bd.notSynchronized Bd.returns (hb hby d3_4) (by decide) (by decide) ?_
  rw [e1]
  exact ⟨rfl, N0, rfl⟩
theorem pd_0 : parseMethodDescriptor "()V" = some ⟨[], none⟩ := by decide +kernel
theorem d2_0 : decode prog_72_method_1_code 0 = .ok (.aload_n 0, 1) := by decide +kernel
theorem d2_1 : decode prog_72_method_1_code 1 = .ok (.invokespecial 1, 3) := by decide +kernel
theorem d2_4 : decode prog_72_method_1_code 4 = .ok (.aload_n 0, 1) := by decide +kernel
theorem d2_5 : decode prog_72_method_1_code 5 = .ok (.dload_n 1, 1) := by decide +kernel
theorem d2_6 : decode prog_72_method_1_code 6 = .ok (.putfield 7, 3) := by decide +kernel
theorem d2_9 : decode prog_72_method_1_code 9 = .ok (.aload_n 0, 1) := by decide +kernel
theorem d2_10 : decode prog_72_method_1_code 10 = .ok (.aload_n 3, 1) := by decide +kernel
theorem d2_11 : decode prog_72_method_1_code 11 = .ok (.putfield 13, 3) := by decide +kernel
theorem d2_14 : decode prog_72_method_1_code 14 = .ok (.aload_n 0, 1) := by decide +kernel
theorem d2_15 : decode prog_72_method_1_code 15 = .ok (.aload 4, 2) := by decide +kernel
theorem d2_17 : decode prog_72_method_1_code 17 = .ok (.putfield 17, 3) := by decide +kernel
theorem d2_20 : decode prog_72_method_1_code 20 = .ok (.aload_n 0, 1) := by decide +kernel
theorem d2_21 : decode prog_72_method_1_code 21 = .ok (.iload 5, 2) := by decide +kernel
theorem d2_23 : decode prog_72_method_1_code 23 = .ok (.putfield 21, 3) := by decide +kernel
theorem d2_26 : decode prog_72_method_1_code 26 = .ok (.aload_n 0, 1) := by decide +kernel
theorem d2_27 : decode prog_72_method_1_code 27 = .ok (.iload 6, 2) := by decide +kernel
theorem d2_29 : decode prog_72_method_1_code 29 = .ok (.putfield 25, 3) := by decide +kernel
theorem d2_32 : decode prog_72_method_1_code 32 = .ok (.aload_n 0, 1) := by decide +kernel
theorem d2_33 : decode prog_72_method_1_code 33 = .ok (.aload 7, 2) := by decide +kernel
theorem d2_35 : decode prog_72_method_1_code 35 = .ok (.putfield 28, 3) := by decide +kernel
theorem d2_38 : decode prog_72_method_1_code 38 = .ok (.return_, 1) := by decide +kernel
theorem pn_1 : plainName "com/example/cohortbench/cohortbench/model/HistoryRecord" = true := by first | (simp [plainName, overriddenIn]; done) | decide +kernel
theorem ef_Ini (m : MethodId) (a0 : Addr) (d1 : UInt64) (op : Addr) (site : Int32) (item : Int32) : entryFrame m #[(.ref a0), (.double d1), .null, (.ref op), (.int site), (.int item), .null] 8 = mkF m 0 #[.val (.ref a0), .val (.double d1), .second, .val .null, .val (.ref op), .val (.int site), .val (.int item), .val .null] [] := by first | (simp [entryFrame, mkF, argsToLocals, Value.category]; done) | rfl
def QIni (Z : State) (a0 : Addr) (d1 : UInt64) (op : Addr) (site : Int32) (item : Int32) (u0 : Value) (h0 : Heap) (n0 : Nat) (v : Option Value) (h : Heap) (L : List Loc) : Prop := v = none ∧ Fr n0 L ∧ Keep h0 h [a0] ∧ Exa Z h a0 "com/example/cohortbench/cohortbench/model/HistoryRecord" ∧ Fld Z h a0 "com/example/cohortbench/cohortbench/model/HistoryRecord" "timeMs" "D" (.double d1) ∧ Fld Z h a0 "com/example/cohortbench/cohortbench/model/HistoryRecord" "unit" "Lcom/example/cohortbench/cohortbench/model/Incarnation;" .null ∧ Fld Z h a0 "com/example/cohortbench/cohortbench/model/HistoryRecord" "op" "Lcom/example/cohortbench/cohortbench/model/HistoryRecord$Op;" (.ref op) ∧ Fld Z h a0 "com/example/cohortbench/cohortbench/model/HistoryRecord" "site" "I" (.int site) ∧ Fld Z h a0 "com/example/cohortbench/cohortbench/model/HistoryRecord" "item" "I" (.int item) ∧ Fld Z h a0 "com/example/cohortbench/cohortbench/model/HistoryRecord" "from" "Lcom/example/cohortbench/cohortbench/model/Incarnation;" .null
set_option maxRecDepth 65536 in
set_option maxHeartbeats 40000000 in
theorem rmIni (l : Launch) (Z : State) (aV : Array Value) (hw : ∀ d ∈ tables_1, d.before aV Z = true) (ws : List Jvm.Cond) (a0 : Addr) (d1 : UInt64) (op : Addr) (site : Int32) (item : Int32) (u0 : Value) (h0 : Heap) (n0 : Nat) (Zn : n0 ≤ h0.size) (g_a0 : n0 ≤ a0) (E_a0 : Exa Z h0 a0 "com/example/cohortbench/cohortbench/model/HistoryRecord") (F_t : Fld Z h0 a0 "com/example/cohortbench/cohortbench/model/HistoryRecord" "timeMs" "D" u0) (F_unit : Fld Z h0 a0 "com/example/cohortbench/cohortbench/model/HistoryRecord" "unit" "Lcom/example/cohortbench/cohortbench/model/Incarnation;" .null) (F_op : Fld Z h0 a0 "com/example/cohortbench/cohortbench/model/HistoryRecord" "op" "Lcom/example/cohortbench/cohortbench/model/HistoryRecord$Op;" .null) (F_site : Fld Z h0 a0 "com/example/cohortbench/cohortbench/model/HistoryRecord" "site" "I" (.int (0 : Int32))) (F_item : Fld Z h0 a0 "com/example/cohortbench/cohortbench/model/HistoryRecord" "item" "I" (.int (0 : Int32))) (F_from : Fld Z h0 a0 "com/example/cohortbench/cohortbench/model/HistoryRecord" "from" "Lcom/example/cohortbench/cohortbench/model/Incarnation;" .null) :
    MetFree l (⟨"com/example/cohortbench/cohortbench/model/HistoryRecord", "<init>", "(DLcom/example/cohortbench/cohortbench/model/Incarnation;Lcom/example/cohortbench/cohortbench/model/HistoryRecord$Op;IILcom/example/cohortbench/cohortbench/model/Incarnation;)V"⟩ : MethodName) (head1 (Jvm.Cond.code (⟨"com/example/cohortbench/cohortbench/model/HistoryRecord", "<init>", "(DLcom/example/cohortbench/cohortbench/model/Incarnation;Lcom/example/cohortbench/cohortbench/model/HistoryRecord$Op;IILcom/example/cohortbench/cohortbench/model/Incarnation;)V"⟩ : MethodName) prog_72_method_1_code 8 none :: ws) ({ frames := 2, cells := 0, slots := 0, locals := 24 } : Room)) (fun a U => a = #[(.ref a0), (.double d1), .null, (.ref op), (.int site), (.int item), .null] ∧ Z.Warmed39 U.vm ∧ U.heap = h0) (fun _ _ _ _ _ => True) (fun _ U o U' => ∃ v L, o = .returned v ∧ QIni Z a0 d1 op site item u0 h0 n0 v U'.heap L ∧ FrameEnd U o U' L ({ frames := 2, cells := 0, slots := 0, locals := 24 } : Room).cells ({ frames := 2, cells := 0, slots := 0, locals := 24 } : Room).slots) := by
  refine MetFree.of_bodySF (plainFor_of_name pn_1) hisR ?_
  intro p e s m args below meth c s₁ Bd hml0 hP hK
  obtain ⟨rfl, hZ, hh⟩ := hP
  have hx := Bd.exec
  have hby := Bd.bytes
  have hml : c.maxLocals = 8 := hml0
  have hown : s.vm.findClass "com/example/cohortbench/cohortbench/model/HistoryRecord" = some m.cls := findClass_of_methodNamed Bd.named
  have hnm := (name_of_methodNamed Bd.named Bd.method).1
  have X0 : Stand p l e ({ frames := 2, cells := 0, slots := 0, locals := 24 } : Room) s m #[(.ref a0), (.double d1), .null, (.ref op), (.int site), (.int item), .null] below meth c s₁ [] 0 0 := Stand.of_body Bd
  have e0 : s₁.heap = h0 := by rw [← hh, Bd.state]; rfl
  have N0 := Fr.nil n0
  have Kp := Keep.refl h0 [a0]
  show Run p e below (Ends s (QIni Z a0 d1 op site item u0 h0 n0) ({ frames := 2, cells := 0, slots := 0, locals := 24 } : Room).cells ({ frames := 2, cells := 0, slots := 0, locals := 24 } : Room).slots) _
  refine Run.st (S' := s₁.setTop (mkF m 0 #[.val (.ref a0), .val (.double d1), .second, .val .null, .val (.ref op), .val (.int site), .val (.int item), .val .null] [])) (fun t k => castTop (ef_Ini m a0 d1 op site item) k) ?_
  refine Run.st (S' := s₁.setTop (mkF m 1 #[.val (.ref a0), .val (.double d1), .second, .val .null, .val (.ref op), .val (.int site), .val (.int item), .val .null] [(.ref a0)])) (fun _ k => XS.aloadN X0.here hx rfl (hb hby d2_0) rfl rfl k) ?_
  obtain ⟨_, _, ⟨T1, L1, k1, n1⟩, -, X1, ⟨Lc1, hQ1, l1, y1, z1⟩, st1⟩ := X0.specialBack hx (y := (⟨"java/lang/Record", "<init>", "()V"⟩ : MethodName)) rfl hown (mvT hZ (hw _ (List.mem_of_getElem? (i := 13) rfl))) (mvT hZ (hw _ (List.mem_of_getElem? (i := 14) rfl))) (mvT hZ (hw _ (List.mem_of_getElem? (i := 17) rfl))) (by decide) (backOf (W := 0) (rmRec l Z aV hw [] a0 h0 n0 Zn ) hZ (hw _ (List.mem_of_getElem? (i := 17) rfl)) (hw _ (List.mem_of_getElem? (i := 16) rfl)) (by decide) (by decide)) (g := (mkF m 1 #[.val (.ref a0), .val (.double d1), .second, .val .null, .val (.ref op), .val (.int site), .val (.int item), .val .null] [(.ref a0)])) rfl (by rw [hml]; rfl) (Steps.refl _) (a := a0) (argsL := []) (rest := []) (lenOf pd_0 rfl) rfl (by show 2 * 0 + _ ≤ _; exact Nat.le_of_eq rfl) (hb hby d2_1) (fun _ _ => ⟨rfl, e0, (by decide : 0 + 0 ≤ _), (by decide : 0 + 0 ≤ _)⟩)
  dsimp only [Pt.U, Pt.locs, Pt.cells, Pt.slots] at X1 l1 y1 z1 st1 hQ1
  subst l1 y1 z1
  obtain ⟨rfl, N1q, e1⟩ := hQ1
  have N1 := Fr.app N0 N1q
  refine Run.st (S' := T1.setTop (mkF m 6 #[.val (.ref a0), .val (.double d1), .second, .val .null, .val (.ref op), .val (.int site), .val (.int item), .val .null] [(.double d1), (.ref a0)])) (fun _ k => st1.trans (XS.aloadN X1.here hx rfl (hb hby d2_4) rfl rfl (XS.dloadN X1.here hx rfl (hb hby d2_5) rfl k))) ?_
  obtain ⟨T2, h2, X2, e2, W2, st2⟩ := putF X1 hx hZ hown (host := "") (Or.inl (hw _ (List.mem_of_getElem? (i := 21) rfl))) Via.refl e1 F_t E_a0 (Or.inr ⟨(hw _ (List.mem_of_getElem? (i := 22) rfl)), rfl, hnm⟩) (hw _ (List.mem_of_getElem? (i := 6) rfl)) (ty := .double) (by decide) rfl rfl (g := (mkF m 6 #[.val (.ref a0), .val (.double d1), .second, .val .null, .val (.ref op), .val (.int site), .val (.int item), .val .null] [(.double d1), (.ref a0)])) rfl rfl (hb hby d2_6)
  have F_t := F_t.same W2
  have E_a0 := E_a0.wr W2
  have F_unit := F_unit.other W2 (Or.inr (slot_ne (Or.inr (hw _ (List.mem_of_getElem? (i := 24) rfl))) (Or.inr (hw _ (List.mem_of_getElem? (i := 22) rfl))) (by decide) (t := (.object "com/example/cohortbench/cohortbench/model/Incarnation")) (t' := .double) (by decide) (by decide)))
  have F_op := F_op.other W2 (Or.inr (slot_ne (Or.inr (hw _ (List.mem_of_getElem? (i := 26) rfl))) (Or.inr (hw _ (List.mem_of_getElem? (i := 22) rfl))) (by decide) (t := (.object "com/example/cohortbench/cohortbench/model/HistoryRecord$Op")) (t' := .double) (by decide) (by decide)))
  have F_site := F_site.other W2 (Or.inr (slot_ne (Or.inr (hw _ (List.mem_of_getElem? (i := 28) rfl))) (Or.inr (hw _ (List.mem_of_getElem? (i := 22) rfl))) (by decide) (t := .int) (t' := .double) (by decide) (by decide)))
  have F_item := F_item.other W2 (Or.inr (slot_ne (Or.inr (hw _ (List.mem_of_getElem? (i := 30) rfl))) (Or.inr (hw _ (List.mem_of_getElem? (i := 22) rfl))) (by decide) (t := .int) (t' := .double) (by decide) (by decide)))
  have F_from := F_from.other W2 (Or.inr (slot_ne (Or.inr (hw _ (List.mem_of_getElem? (i := 32) rfl))) (Or.inr (hw _ (List.mem_of_getElem? (i := 22) rfl))) (by decide) (t := (.object "com/example/cohortbench/cohortbench/model/Incarnation")) (t' := .double) (by decide) (by decide)))
  have N2 := Fr.snoc X2 N1 g_a0
  have Kp := Kp.wr W2 (Or.inl (by simp))
  have Zn := Nat.le_trans Zn (Nat.le_of_eq W2.size.symm)
  refine Run.st (S' := T2.setTop (mkF m 11 #[.val (.ref a0), .val (.double d1), .second, .val .null, .val (.ref op), .val (.int site), .val (.int item), .val .null] [.null, (.ref a0)])) (fun _ k => st2 _ (XS.aloadN X2.here hx rfl (hb hby d2_9) rfl rfl (XS.aloadN X2.here hx rfl (hb hby d2_10) rfl rfl k))) ?_
  obtain ⟨T3, h3, X3, e3, W3, st3⟩ := putF X2 hx hZ hown (host := "") (Or.inl (hw _ (List.mem_of_getElem? (i := 23) rfl))) Via.refl e2 F_unit E_a0 (Or.inr ⟨(hw _ (List.mem_of_getElem? (i := 24) rfl)), rfl, hnm⟩) (hw _ (List.mem_of_getElem? (i := 6) rfl)) (ty := (.object "com/example/cohortbench/cohortbench/model/Incarnation")) (by decide) rfl rfl (g := (mkF m 11 #[.val (.ref a0), .val (.double d1), .second, .val .null, .val (.ref op), .val (.int site), .val (.int item), .val .null] [.null, (.ref a0)])) rfl rfl (hb hby d2_11)
  have F_unit := F_unit.same W3
  have E_a0 := E_a0.wr W3
  have F_t := F_t.other W3 (Or.inr (slot_ne (Or.inr (hw _ (List.mem_of_getElem? (i := 22) rfl))) (Or.inr (hw _ (List.mem_of_getElem? (i := 24) rfl))) (by decide) (t := .double) (t' := (.object "com/example/cohortbench/cohortbench/model/Incarnation")) (by decide) (by decide)))
  have F_op := F_op.other W3 (Or.inr (slot_ne (Or.inr (hw _ (List.mem_of_getElem? (i := 26) rfl))) (Or.inr (hw _ (List.mem_of_getElem? (i := 24) rfl))) (by decide) (t := (.object "com/example/cohortbench/cohortbench/model/HistoryRecord$Op")) (t' := (.object "com/example/cohortbench/cohortbench/model/Incarnation")) (by decide) (by decide)))
  have F_site := F_site.other W3 (Or.inr (slot_ne (Or.inr (hw _ (List.mem_of_getElem? (i := 28) rfl))) (Or.inr (hw _ (List.mem_of_getElem? (i := 24) rfl))) (by decide) (t := .int) (t' := (.object "com/example/cohortbench/cohortbench/model/Incarnation")) (by decide) (by decide)))
  have F_item := F_item.other W3 (Or.inr (slot_ne (Or.inr (hw _ (List.mem_of_getElem? (i := 30) rfl))) (Or.inr (hw _ (List.mem_of_getElem? (i := 24) rfl))) (by decide) (t := .int) (t' := (.object "com/example/cohortbench/cohortbench/model/Incarnation")) (by decide) (by decide)))
  have F_from := F_from.other W3 (Or.inr (slot_ne (Or.inr (hw _ (List.mem_of_getElem? (i := 32) rfl))) (Or.inr (hw _ (List.mem_of_getElem? (i := 24) rfl))) (by decide) (t := (.object "com/example/cohortbench/cohortbench/model/Incarnation")) (t' := (.object "com/example/cohortbench/cohortbench/model/Incarnation")) (by decide) (by decide)))
  have N3 := Fr.snoc X3 N2 g_a0
  have Kp := Kp.wr W3 (Or.inl (by simp))
  have Zn := Nat.le_trans Zn (Nat.le_of_eq W3.size.symm)
  refine Run.st (S' := T3.setTop (mkF m 17 #[.val (.ref a0), .val (.double d1), .second, .val .null, .val (.ref op), .val (.int site), .val (.int item), .val .null] [(.ref op), (.ref a0)])) (fun _ k => st3 _ (XS.aloadN X3.here hx rfl (hb hby d2_14) rfl rfl (XS.aload X3.here hx rfl (hb hby d2_15) rfl rfl k))) ?_
  obtain ⟨T4, h4, X4, e4, W4, st4⟩ := putF X3 hx hZ hown (host := "") (Or.inl (hw _ (List.mem_of_getElem? (i := 25) rfl))) Via.refl e3 F_op E_a0 (Or.inr ⟨(hw _ (List.mem_of_getElem? (i := 26) rfl)), rfl, hnm⟩) (hw _ (List.mem_of_getElem? (i := 6) rfl)) (ty := (.object "com/example/cohortbench/cohortbench/model/HistoryRecord$Op")) (by decide) rfl rfl (g := (mkF m 17 #[.val (.ref a0), .val (.double d1), .second, .val .null, .val (.ref op), .val (.int site), .val (.int item), .val .null] [(.ref op), (.ref a0)])) rfl rfl (hb hby d2_17)
  have F_op := F_op.same W4
  have E_a0 := E_a0.wr W4
  have F_t := F_t.other W4 (Or.inr (slot_ne (Or.inr (hw _ (List.mem_of_getElem? (i := 22) rfl))) (Or.inr (hw _ (List.mem_of_getElem? (i := 26) rfl))) (by decide) (t := .double) (t' := (.object "com/example/cohortbench/cohortbench/model/HistoryRecord$Op")) (by decide) (by decide)))
  have F_unit := F_unit.other W4 (Or.inr (slot_ne (Or.inr (hw _ (List.mem_of_getElem? (i := 24) rfl))) (Or.inr (hw _ (List.mem_of_getElem? (i := 26) rfl))) (by decide) (t := (.object "com/example/cohortbench/cohortbench/model/Incarnation")) (t' := (.object "com/example/cohortbench/cohortbench/model/HistoryRecord$Op")) (by decide) (by decide)))
  have F_site := F_site.other W4 (Or.inr (slot_ne (Or.inr (hw _ (List.mem_of_getElem? (i := 28) rfl))) (Or.inr (hw _ (List.mem_of_getElem? (i := 26) rfl))) (by decide) (t := .int) (t' := (.object "com/example/cohortbench/cohortbench/model/HistoryRecord$Op")) (by decide) (by decide)))
  have F_item := F_item.other W4 (Or.inr (slot_ne (Or.inr (hw _ (List.mem_of_getElem? (i := 30) rfl))) (Or.inr (hw _ (List.mem_of_getElem? (i := 26) rfl))) (by decide) (t := .int) (t' := (.object "com/example/cohortbench/cohortbench/model/HistoryRecord$Op")) (by decide) (by decide)))
  have F_from := F_from.other W4 (Or.inr (slot_ne (Or.inr (hw _ (List.mem_of_getElem? (i := 32) rfl))) (Or.inr (hw _ (List.mem_of_getElem? (i := 26) rfl))) (by decide) (t := (.object "com/example/cohortbench/cohortbench/model/Incarnation")) (t' := (.object "com/example/cohortbench/cohortbench/model/HistoryRecord$Op")) (by decide) (by decide)))
  have N4 := Fr.snoc X4 N3 g_a0
  have Kp := Kp.wr W4 (Or.inl (by simp))
  have Zn := Nat.le_trans Zn (Nat.le_of_eq W4.size.symm)
  refine Run.st (S' := T4.setTop (mkF m 23 #[.val (.ref a0), .val (.double d1), .second, .val .null, .val (.ref op), .val (.int site), .val (.int item), .val .null] [(.int site), (.ref a0)])) (fun _ k => st4 _ (XS.aloadN X4.here hx rfl (hb hby d2_20) rfl rfl (XS.iload X4.here hx rfl (hb hby d2_21) rfl k))) ?_
  obtain ⟨T5, h5, X5, e5, W5, st5⟩ := putF X4 hx hZ hown (host := "") (Or.inl (hw _ (List.mem_of_getElem? (i := 27) rfl))) Via.refl e4 F_site E_a0 (Or.inr ⟨(hw _ (List.mem_of_getElem? (i := 28) rfl)), rfl, hnm⟩) (hw _ (List.mem_of_getElem? (i := 6) rfl)) (ty := .int) (by decide) rfl rfl (g := (mkF m 23 #[.val (.ref a0), .val (.double d1), .second, .val .null, .val (.ref op), .val (.int site), .val (.int item), .val .null] [(.int site), (.ref a0)])) rfl rfl (hb hby d2_23)
  have F_site := F_site.same W5
  have E_a0 := E_a0.wr W5
  have F_t := F_t.other W5 (Or.inr (slot_ne (Or.inr (hw _ (List.mem_of_getElem? (i := 22) rfl))) (Or.inr (hw _ (List.mem_of_getElem? (i := 28) rfl))) (by decide) (t := .double) (t' := .int) (by decide) (by decide)))
  have F_unit := F_unit.other W5 (Or.inr (slot_ne (Or.inr (hw _ (List.mem_of_getElem? (i := 24) rfl))) (Or.inr (hw _ (List.mem_of_getElem? (i := 28) rfl))) (by decide) (t := (.object "com/example/cohortbench/cohortbench/model/Incarnation")) (t' := .int) (by decide) (by decide)))
  have F_op := F_op.other W5 (Or.inr (slot_ne (Or.inr (hw _ (List.mem_of_getElem? (i := 26) rfl))) (Or.inr (hw _ (List.mem_of_getElem? (i := 28) rfl))) (by decide) (t := (.object "com/example/cohortbench/cohortbench/model/HistoryRecord$Op")) (t' := .int) (by decide) (by decide)))
  have F_item := F_item.other W5 (Or.inr (slot_ne (Or.inr (hw _ (List.mem_of_getElem? (i := 30) rfl))) (Or.inr (hw _ (List.mem_of_getElem? (i := 28) rfl))) (by decide) (t := .int) (t' := .int) (by decide) (by decide)))
  have F_from := F_from.other W5 (Or.inr (slot_ne (Or.inr (hw _ (List.mem_of_getElem? (i := 32) rfl))) (Or.inr (hw _ (List.mem_of_getElem? (i := 28) rfl))) (by decide) (t := (.object "com/example/cohortbench/cohortbench/model/Incarnation")) (t' := .int) (by decide) (by decide)))
  have N5 := Fr.snoc X5 N4 g_a0
  have Kp := Kp.wr W5 (Or.inl (by simp))
  have Zn := Nat.le_trans Zn (Nat.le_of_eq W5.size.symm)
  refine Run.st (S' := T5.setTop (mkF m 29 #[.val (.ref a0), .val (.double d1), .second, .val .null, .val (.ref op), .val (.int site), .val (.int item), .val .null] [(.int item), (.ref a0)])) (fun _ k => st5 _ (XS.aloadN X5.here hx rfl (hb hby d2_26) rfl rfl (XS.iload X5.here hx rfl (hb hby d2_27) rfl k))) ?_
  obtain ⟨T6, h6, X6, e6, W6, st6⟩ := putF X5 hx hZ hown (host := "") (Or.inl (hw _ (List.mem_of_getElem? (i := 29) rfl))) Via.refl e5 F_item E_a0 (Or.inr ⟨(hw _ (List.mem_of_getElem? (i := 30) rfl)), rfl, hnm⟩) (hw _ (List.mem_of_getElem? (i := 6) rfl)) (ty := .int) (by decide) rfl rfl (g := (mkF m 29 #[.val (.ref a0), .val (.double d1), .second, .val .null, .val (.ref op), .val (.int site), .val (.int item), .val .null] [(.int item), (.ref a0)])) rfl rfl (hb hby d2_29)
  have F_item := F_item.same W6
  have E_a0 := E_a0.wr W6
  have F_t := F_t.other W6 (Or.inr (slot_ne (Or.inr (hw _ (List.mem_of_getElem? (i := 22) rfl))) (Or.inr (hw _ (List.mem_of_getElem? (i := 30) rfl))) (by decide) (t := .double) (t' := .int) (by decide) (by decide)))
  have F_unit := F_unit.other W6 (Or.inr (slot_ne (Or.inr (hw _ (List.mem_of_getElem? (i := 24) rfl))) (Or.inr (hw _ (List.mem_of_getElem? (i := 30) rfl))) (by decide) (t := (.object "com/example/cohortbench/cohortbench/model/Incarnation")) (t' := .int) (by decide) (by decide)))
  have F_op := F_op.other W6 (Or.inr (slot_ne (Or.inr (hw _ (List.mem_of_getElem? (i := 26) rfl))) (Or.inr (hw _ (List.mem_of_getElem? (i := 30) rfl))) (by decide) (t := (.object "com/example/cohortbench/cohortbench/model/HistoryRecord$Op")) (t' := .int) (by decide) (by decide)))
  have F_site := F_site.other W6 (Or.inr (slot_ne (Or.inr (hw _ (List.mem_of_getElem? (i := 28) rfl))) (Or.inr (hw _ (List.mem_of_getElem? (i := 30) rfl))) (by decide) (t := .int) (t' := .int) (by decide) (by decide)))
  have F_from := F_from.other W6 (Or.inr (slot_ne (Or.inr (hw _ (List.mem_of_getElem? (i := 32) rfl))) (Or.inr (hw _ (List.mem_of_getElem? (i := 30) rfl))) (by decide) (t := (.object "com/example/cohortbench/cohortbench/model/Incarnation")) (t' := .int) (by decide) (by decide)))
  have N6 := Fr.snoc X6 N5 g_a0
  have Kp := Kp.wr W6 (Or.inl (by simp))
  have Zn := Nat.le_trans Zn (Nat.le_of_eq W6.size.symm)
  refine Run.st (S' := T6.setTop (mkF m 35 #[.val (.ref a0), .val (.double d1), .second, .val .null, .val (.ref op), .val (.int site), .val (.int item), .val .null] [.null, (.ref a0)])) (fun _ k => st6 _ (XS.aloadN X6.here hx rfl (hb hby d2_32) rfl rfl (XS.aload X6.here hx rfl (hb hby d2_33) rfl rfl k))) ?_
  obtain ⟨T7, h7, X7, e7, W7, st7⟩ := putF X6 hx hZ hown (host := "") (Or.inl (hw _ (List.mem_of_getElem? (i := 31) rfl))) Via.refl e6 F_from E_a0 (Or.inr ⟨(hw _ (List.mem_of_getElem? (i := 32) rfl)), rfl, hnm⟩) (hw _ (List.mem_of_getElem? (i := 6) rfl)) (ty := (.object "com/example/cohortbench/cohortbench/model/Incarnation")) (by decide) rfl rfl (g := (mkF m 35 #[.val (.ref a0), .val (.double d1), .second, .val .null, .val (.ref op), .val (.int site), .val (.int item), .val .null] [.null, (.ref a0)])) rfl rfl (hb hby d2_35)
  have F_from := F_from.same W7
  have E_a0 := E_a0.wr W7
  have F_t := F_t.other W7 (Or.inr (slot_ne (Or.inr (hw _ (List.mem_of_getElem? (i := 22) rfl))) (Or.inr (hw _ (List.mem_of_getElem? (i := 32) rfl))) (by decide) (t := .double) (t' := (.object "com/example/cohortbench/cohortbench/model/Incarnation")) (by decide) (by decide)))
  have F_unit := F_unit.other W7 (Or.inr (slot_ne (Or.inr (hw _ (List.mem_of_getElem? (i := 24) rfl))) (Or.inr (hw _ (List.mem_of_getElem? (i := 32) rfl))) (by decide) (t := (.object "com/example/cohortbench/cohortbench/model/Incarnation")) (t' := (.object "com/example/cohortbench/cohortbench/model/Incarnation")) (by decide) (by decide)))
  have F_op := F_op.other W7 (Or.inr (slot_ne (Or.inr (hw _ (List.mem_of_getElem? (i := 26) rfl))) (Or.inr (hw _ (List.mem_of_getElem? (i := 32) rfl))) (by decide) (t := (.object "com/example/cohortbench/cohortbench/model/HistoryRecord$Op")) (t' := (.object "com/example/cohortbench/cohortbench/model/Incarnation")) (by decide) (by decide)))
  have F_site := F_site.other W7 (Or.inr (slot_ne (Or.inr (hw _ (List.mem_of_getElem? (i := 28) rfl))) (Or.inr (hw _ (List.mem_of_getElem? (i := 32) rfl))) (by decide) (t := .int) (t' := (.object "com/example/cohortbench/cohortbench/model/Incarnation")) (by decide) (by decide)))
  have F_item := F_item.other W7 (Or.inr (slot_ne (Or.inr (hw _ (List.mem_of_getElem? (i := 30) rfl))) (Or.inr (hw _ (List.mem_of_getElem? (i := 32) rfl))) (by decide) (t := .int) (t' := (.object "com/example/cohortbench/cohortbench/model/Incarnation")) (by decide) (by decide)))
  have N7 := Fr.snoc X7 N6 g_a0
  have Kp := Kp.wr W7 (Or.inl (by simp))
  have Zn := Nat.le_trans Zn (Nat.le_of_eq W7.size.symm)
  refine Run.st (S' := T7.setTop (mkF m 38 #[.val (.ref a0), .val (.double d1), .second, .val .null, .val (.ref op), .val (.int site), .val (.int item), .val .null] [])) (fun _ k => st7 _ k) ?_
  refine Run.outV X7 hx Bd.notSynchronized Bd.returns (hb hby d2_38) (by decide) (by decide) ?_
  rw [e7]
  exact ⟨rfl, N7, Kp, E_a0, F_t, F_unit, F_op, F_site, F_item, F_from⟩
theorem pd_1 : parseMethodDescriptor "(DLcom/example/cohortbench/cohortbench/model/Incarnation;Lcom/example/cohortbench/cohortbench/model/HistoryRecord$Op;IILcom/example/cohortbench/cohortbench/model/Incarnation;)V" = some ⟨[.double, (.object "com/example/cohortbench/cohortbench/model/Incarnation"), (.object "com/example/cohortbench/cohortbench/model/HistoryRecord$Op"), .int, .int, (.object "com/example/cohortbench/cohortbench/model/Incarnation")], none⟩ := by decide +kernel
theorem d1_0 : decode prog_72_method_2_code 0 = .ok (.new 8, 3) := by decide +kernel
theorem d1_3 : decode prog_72_method_2_code 3 = .ok (.dup, 1) := by decide +kernel
theorem d1_4 : decode prog_72_method_2_code 4 = .ok (.dload_n 0, 1) := by decide +kernel
theorem d1_5 : decode prog_72_method_2_code 5 = .ok (.aload_n 2, 1) := by decide +kernel
theorem d1_6 : decode prog_72_method_2_code 6 = .ok (.getstatic 31, 3) := by decide +kernel
theorem d1_9 : decode prog_72_method_2_code 9 = .ok (.iload_n 3, 1) := by decide +kernel
theorem d1_10 : decode prog_72_method_2_code 10 = .ok (.iload 4, 2) := by decide +kernel
theorem d1_12 : decode prog_72_method_2_code 12 = .ok (.aload 5, 2) := by decide +kernel
theorem d1_14 : decode prog_72_method_2_code 14 = .ok (.invokespecial 36, 3) := by decide +kernel
theorem d1_17 : decode prog_72_method_2_code 17 = .ok (.areturn, 1) := by decide +kernel
theorem ef_Read (m : MethodId) (d0 : UInt64) (p2 : Int32) (p3 : Int32) : entryFrame m #[(.double d0), .null, (.int p2), (.int p3), .null] 6 = mkF m 0 #[.val (.double d0), .second, .val .null, .val (.int p2), .val (.int p3), .val .null] [] := by first | (simp [entryFrame, mkF, argsToLocals, Value.category]; done) | rfl
def QRead (Z : State) (d0 : UInt64) (p2 : Int32) (p3 : Int32) (s_HistoryRecord_Op_READ : Addr) (h0 : Heap) (n0 : Nat) (v : Option Value) (h : Heap) (L : List Loc) : Prop := ∃ (y0 : Addr), v = some (.ref y0) ∧ Fr n0 L ∧ Keep h0 h [] ∧ n0 ≤ y0 ∧ h0.size ≤ y0 ∧ Exa Z h y0 "com/example/cohortbench/cohortbench/model/HistoryRecord" ∧ Fld Z h y0 "com/example/cohortbench/cohortbench/model/HistoryRecord" "timeMs" "D" (.double d0) ∧ Fld Z h y0 "com/example/cohortbench/cohortbench/model/HistoryRecord" "unit" "Lcom/example/cohortbench/cohortbench/model/Incarnation;" .null ∧ Fld Z h y0 "com/example/cohortbench/cohortbench/model/HistoryRecord" "op" "Lcom/example/cohortbench/cohortbench/model/HistoryRecord$Op;" (.ref s_HistoryRecord_Op_READ) ∧ Fld Z h y0 "com/example/cohortbench/cohortbench/model/HistoryRecord" "site" "I" (.int p2) ∧ Fld Z h y0 "com/example/cohortbench/cohortbench/model/HistoryRecord" "item" "I" (.int p3) ∧ Fld Z h y0 "com/example/cohortbench/cohortbench/model/HistoryRecord" "from" "Lcom/example/cohortbench/cohortbench/model/Incarnation;" .null
set_option maxRecDepth 65536 in
set_option maxHeartbeats 40000000 in
theorem rmRead (l : Launch) (Z : State) (aV : Array Value) (hw : ∀ d ∈ tables_1, d.before aV Z = true) (ws : List Jvm.Cond) (d0 : UInt64) (p2 : Int32) (p3 : Int32) (s_HistoryRecord_Op_READ : Addr) (h0 : Heap) (n0 : Nat) (Zn : n0 ≤ h0.size) (S_s_HistoryRecord_Op_READ : Sta Z h0 "com/example/cohortbench/cohortbench/model/HistoryRecord$Op" "READ" "Lcom/example/cohortbench/cohortbench/model/HistoryRecord$Op;" (.ref s_HistoryRecord_Op_READ)) :
    MetFree l (⟨"com/example/cohortbench/cohortbench/model/HistoryRecord", "read", "(DLcom/example/cohortbench/cohortbench/model/Incarnation;IILcom/example/cohortbench/cohortbench/model/Incarnation;)Lcom/example/cohortbench/cohortbench/model/HistoryRecord;"⟩ : MethodName) (head1 (Jvm.Cond.code (⟨"com/example/cohortbench/cohortbench/model/HistoryRecord", "read", "(DLcom/example/cohortbench/cohortbench/model/Incarnation;IILcom/example/cohortbench/cohortbench/model/Incarnation;)Lcom/example/cohortbench/cohortbench/model/HistoryRecord;"⟩ : MethodName) prog_72_method_2_code 6 (some (.object "com/example/cohortbench/cohortbench/model/HistoryRecord")) :: ws) ({ frames := 3, cells := 1, slots := 6, locals := 44 } : Room)) (fun a U => a = #[(.double d0), .null, (.int p2), (.int p3), .null] ∧ Z.Warmed39 U.vm ∧ U.heap = h0) (fun _ _ _ _ _ => True) (fun _ U o U' => ∃ v L, o = .returned v ∧ QRead Z d0 p2 p3 s_HistoryRecord_Op_READ h0 n0 v U'.heap L ∧ FrameEnd U o U' L ({ frames := 3, cells := 1, slots := 6, locals := 44 } : Room).cells ({ frames := 3, cells := 1, slots := 6, locals := 44 } : Room).slots) := by
  refine MetFree.of_bodySF (plainFor_of_name pn_1) hisR ?_
  intro p e s m args below meth c s₁ Bd hml0 hP hK
  obtain ⟨rfl, hZ, hh⟩ := hP
  have hx := Bd.exec
  have hby := Bd.bytes
  have hml : c.maxLocals = 6 := hml0
  have hown : s.vm.findClass "com/example/cohortbench/cohortbench/model/HistoryRecord" = some m.cls := findClass_of_methodNamed Bd.named
  have hnm := (name_of_methodNamed Bd.named Bd.method).1
  have X0 : Stand p l e ({ frames := 3, cells := 1, slots := 6, locals := 44 } : Room) s m #[(.double d0), .null, (.int p2), (.int p3), .null] below meth c s₁ [] 0 0 := Stand.of_body Bd
  have e0 : s₁.heap = h0 := by rw [← hh, Bd.state]; rfl
  have N0 := Fr.nil n0
  have Kp := Keep.refl h0 []
  show Run p e below (Ends s (QRead Z d0 p2 p3 s_HistoryRecord_Op_READ h0 n0) ({ frames := 3, cells := 1, slots := 6, locals := 44 } : Room).cells ({ frames := 3, cells := 1, slots := 6, locals := 44 } : Room).slots) _
  refine Run.st (S' := s₁.setTop (mkF m 0 #[.val (.double d0), .second, .val .null, .val (.int p2), .val (.int p3), .val .null] [])) (fun t k => castTop (ef_Read m d0 p2 p3) k) ?_
  obtain ⟨T1, h1, X1, e1, E1, A1, D1, -, st1⟩ := newO X0 hx hZ hown (hw _ (List.mem_of_getElem? (i := 5) rfl)) (hw _ (List.mem_of_getElem? (i := 6) rfl)) (hw _ (List.mem_of_getElem? (i := 3) rfl)) e0 (g := (mkF m 0 #[.val (.double d0), .second, .val .null, .val (.int p2), .val (.int p3), .val .null] [])) rfl (hb hby d1_0) (by decide) (by decide)
  obtain ⟨b1, g1⟩ : ∃ z, z = h0.size := ⟨_, rfl⟩
  rw [← g1] at A1 D1 st1
  have S_s_HistoryRecord_Op_READ := S_s_HistoryRecord_Op_READ.ext E1
  have g_b1 : n0 ≤ b1 := Nat.le_trans Zn (Nat.le_of_eq g1.symm)
  have Zn := Nat.le_trans Zn E1.1
  have sz_b1 : h0.size ≤ b1 := Nat.le_trans Kp.1 (Nat.le_of_eq g1.symm)
  have Kp := Kp.ext E1
  have E_b1 := A1
  have F_timeMs_b1 : Fld Z h1 b1 "com/example/cohortbench/cohortbench/model/HistoryRecord" "timeMs" "D" (defaultValue .double) := D1 (Or.inr (hw _ (List.mem_of_getElem? (i := 22) rfl))) (ty := .double) (by decide)
  have F_unit_b1 : Fld Z h1 b1 "com/example/cohortbench/cohortbench/model/HistoryRecord" "unit" "Lcom/example/cohortbench/cohortbench/model/Incarnation;" .null := D1 (Or.inr (hw _ (List.mem_of_getElem? (i := 24) rfl))) (ty := (.object "com/example/cohortbench/cohortbench/model/Incarnation")) (by decide)
  have F_op_b1 : Fld Z h1 b1 "com/example/cohortbench/cohortbench/model/HistoryRecord" "op" "Lcom/example/cohortbench/cohortbench/model/HistoryRecord$Op;" .null := D1 (Or.inr (hw _ (List.mem_of_getElem? (i := 26) rfl))) (ty := (.object "com/example/cohortbench/cohortbench/model/HistoryRecord$Op")) (by decide)
  have F_site_b1 : Fld Z h1 b1 "com/example/cohortbench/cohortbench/model/HistoryRecord" "site" "I" (.int (0 : Int32)) := D1 (Or.inr (hw _ (List.mem_of_getElem? (i := 28) rfl))) (ty := .int) (by decide)
  have F_item_b1 : Fld Z h1 b1 "com/example/cohortbench/cohortbench/model/HistoryRecord" "item" "I" (.int (0 : Int32)) := D1 (Or.inr (hw _ (List.mem_of_getElem? (i := 30) rfl))) (ty := .int) (by decide)
  have F_from_b1 : Fld Z h1 b1 "com/example/cohortbench/cohortbench/model/HistoryRecord" "from" "Lcom/example/cohortbench/cohortbench/model/Incarnation;" .null := D1 (Or.inr (hw _ (List.mem_of_getElem? (i := 32) rfl))) (ty := (.object "com/example/cohortbench/cohortbench/model/Incarnation")) (by decide)
  refine Run.st (S' := T1.setTop (mkF m 6 #[.val (.double d0), .second, .val .null, .val (.int p2), .val (.int p3), .val .null] [.null, (.double d0), (.ref b1), (.ref b1)])) (fun _ k => st1 _ (XS.dup X1.here hx rfl (hb hby d1_3) rfl rfl (XS.dloadN X1.here hx rfl (hb hby d1_4) rfl (XS.aloadN X1.here hx rfl (hb hby d1_5) rfl rfl k)))) ?_
  obtain ⟨T2, X2, e2, st2⟩ := getS2 X1 hx hZ hown (host := "") (Or.inl (hw _ (List.mem_of_getElem? (i := 7) rfl))) Via.refl e1 S_s_HistoryRecord_Op_READ (g := (mkF m 6 #[.val (.double d0), .second, .val .null, .val (.int p2), .val (.int p3), .val .null] [.null, (.double d0), (.ref b1), (.ref b1)])) rfl (hb hby d1_6)
  refine Run.st (S' := T2.setTop (mkF m 14 #[.val (.double d0), .second, .val .null, .val (.int p2), .val (.int p3), .val .null] [.null, (.int p3), (.int p2), (.ref s_HistoryRecord_Op_READ), .null, (.double d0), (.ref b1), (.ref b1)])) (fun _ k => st2 _ (XS.iloadN X2.here hx rfl (hb hby d1_9) rfl (XS.iload X2.here hx rfl (hb hby d1_10) rfl (XS.aload X2.here hx rfl (hb hby d1_12) rfl rfl k)))) ?_
  obtain ⟨_, _, ⟨T3, L3, k3, n3⟩, -, X3, ⟨Lc3, hQ3, l3, y3, z3⟩, st3⟩ := X2.specialBack hx (y := (⟨"com/example/cohortbench/cohortbench/model/HistoryRecord", "<init>", "(DLcom/example/cohortbench/cohortbench/model/Incarnation;Lcom/example/cohortbench/cohortbench/model/HistoryRecord$Op;IILcom/example/cohortbench/cohortbench/model/Incarnation;)V"⟩ : MethodName)) rfl hown (mvT hZ (hw _ (List.mem_of_getElem? (i := 10) rfl))) (mvT hZ (hw _ (List.mem_of_getElem? (i := 11) rfl))) (mvT hZ (hw _ (List.mem_of_getElem? (i := 12) rfl))) (by decide) (backOf (W := 1) (rmIni l Z aV hw [] b1 d0 s_HistoryRecord_Op_READ p2 p3 (defaultValue .double) h1 n0 Zn g_b1 E_b1 F_timeMs_b1 F_unit_b1 F_op_b1 F_site_b1 F_item_b1 F_from_b1) hZ (hw _ (List.mem_of_getElem? (i := 12) rfl)) (hw _ (List.mem_of_getElem? (i := 3) rfl)) (by decide) (by decide)) (g := (mkF m 14 #[.val (.double d0), .second, .val .null, .val (.int p2), .val (.int p3), .val .null] [.null, (.int p3), (.int p2), (.ref s_HistoryRecord_Op_READ), .null, (.double d0), (.ref b1), (.ref b1)])) rfl (by rw [hml]; rfl) (Steps.refl _) (a := b1) (argsL := [(.double d0), .null, (.ref s_HistoryRecord_Op_READ), (.int p2), (.int p3), .null]) (rest := [(.ref b1)]) (lenOf pd_1 rfl) rfl (by show 2 * 0 + _ ≤ _; exact Nat.le_of_eq rfl) (hb hby d1_14) (fun _ _ => ⟨rfl, e2, (by decide : 1 + 0 ≤ _), (by decide : 6 + 0 ≤ _)⟩)
  dsimp only [Pt.U, Pt.locs, Pt.cells, Pt.slots] at X3 l3 y3 z3 st3 hQ3
  subst l3 y3 z3
  obtain ⟨rfl, N3q, K3, q3_0, q3_1, q3_2, q3_3, q3_4, q3_5, q3_6⟩ := hQ3
  have S_s_HistoryRecord_Op_READ := staK S_s_HistoryRecord_Op_READ K3 (allS (exaP E_b1) all0)
  have E_b1 := q3_0
  have F_timeMs_b1 := q3_1
  have F_unit_b1 := q3_2
  have F_op_b1 := q3_3
  have F_site_b1 := q3_4
  have F_item_b1 := q3_5
  have F_from_b1 := q3_6
  have Kp := Kp.trans K3 (allS (Or.inr sz_b1) all0)
  have Zn := Nat.le_trans Zn K3.1
  have N3 := Fr.app N0 N3q
  refine Run.st (S' := T3.setTop (mkF m 17 #[.val (.double d0), .second, .val .null, .val (.int p2), .val (.int p3), .val .null] [(.ref b1)])) (fun _ k => st3.trans k) ?_
  refine Run.out X3 hx Bd.notSynchronized Bd.returns rfl (Or.inr (Or.inr (Or.inr (Or.inr ⟨rfl, rfl, rfl⟩)))) (hb hby d1_17) (by decide) (by decide) ?_
  exact ⟨b1, rfl, N3, Kp, g_b1, sz_b1, E_b1, F_timeMs_b1, F_unit_b1, F_op_b1, F_site_b1, F_item_b1, F_from_b1⟩
theorem d8_0 : decode prog_72_method_3_code 0 = .ok (.new 8, 3) := by decide +kernel
theorem d8_3 : decode prog_72_method_3_code 3 = .ok (.dup, 1) := by decide +kernel
theorem d8_4 : decode prog_72_method_3_code 4 = .ok (.dload_n 0, 1) := by decide +kernel
theorem d8_5 : decode prog_72_method_3_code 5 = .ok (.aload_n 2, 1) := by decide +kernel
theorem d8_6 : decode prog_72_method_3_code 6 = .ok (.getstatic 39, 3) := by decide +kernel
theorem d8_9 : decode prog_72_method_3_code 9 = .ok (.iload_n 3, 1) := by decide +kernel
theorem d8_10 : decode prog_72_method_3_code 10 = .ok (.iload 4, 2) := by decide +kernel
theorem d8_12 : decode prog_72_method_3_code 12 = .ok (.aconst_null, 1) := by decide +kernel
theorem d8_13 : decode prog_72_method_3_code 13 = .ok (.invokespecial 36, 3) := by decide +kernel
theorem d8_16 : decode prog_72_method_3_code 16 = .ok (.areturn, 1) := by decide +kernel
theorem ef_Write (m : MethodId) (d0 : UInt64) (p2 : Int32) (p3 : Int32) : entryFrame m #[(.double d0), .null, (.int p2), (.int p3)] 5 = mkF m 0 #[.val (.double d0), .second, .val .null, .val (.int p2), .val (.int p3)] [] := by first | (simp [entryFrame, mkF, argsToLocals, Value.category]; done) | rfl
def QWrite (Z : State) (d0 : UInt64) (p2 : Int32) (p3 : Int32) (s_HistoryRecord_Op_WRITE : Addr) (h0 : Heap) (n0 : Nat) (v : Option Value) (h : Heap) (L : List Loc) : Prop := ∃ (y0 : Addr), v = some (.ref y0) ∧ Fr n0 L ∧ Keep h0 h [] ∧ n0 ≤ y0 ∧ h0.size ≤ y0 ∧ Exa Z h y0 "com/example/cohortbench/cohortbench/model/HistoryRecord" ∧ Fld Z h y0 "com/example/cohortbench/cohortbench/model/HistoryRecord" "timeMs" "D" (.double d0) ∧ Fld Z h y0 "com/example/cohortbench/cohortbench/model/HistoryRecord" "unit" "Lcom/example/cohortbench/cohortbench/model/Incarnation;" .null ∧ Fld Z h y0 "com/example/cohortbench/cohortbench/model/HistoryRecord" "op" "Lcom/example/cohortbench/cohortbench/model/HistoryRecord$Op;" (.ref s_HistoryRecord_Op_WRITE) ∧ Fld Z h y0 "com/example/cohortbench/cohortbench/model/HistoryRecord" "site" "I" (.int p2) ∧ Fld Z h y0 "com/example/cohortbench/cohortbench/model/HistoryRecord" "item" "I" (.int p3) ∧ Fld Z h y0 "com/example/cohortbench/cohortbench/model/HistoryRecord" "from" "Lcom/example/cohortbench/cohortbench/model/Incarnation;" .null
set_option maxRecDepth 65536 in
set_option maxHeartbeats 40000000 in
theorem rmWrite (l : Launch) (Z : State) (aV : Array Value) (hw : ∀ d ∈ tables_1, d.before aV Z = true) (ws : List Jvm.Cond) (d0 : UInt64) (p2 : Int32) (p3 : Int32) (s_HistoryRecord_Op_WRITE : Addr) (h0 : Heap) (n0 : Nat) (Zn : n0 ≤ h0.size) (S_s_HistoryRecord_Op_WRITE : Sta Z h0 "com/example/cohortbench/cohortbench/model/HistoryRecord$Op" "WRITE" "Lcom/example/cohortbench/cohortbench/model/HistoryRecord$Op;" (.ref s_HistoryRecord_Op_WRITE)) :
    MetFree l (⟨"com/example/cohortbench/cohortbench/model/HistoryRecord", "write", "(DLcom/example/cohortbench/cohortbench/model/Incarnation;II)Lcom/example/cohortbench/cohortbench/model/HistoryRecord;"⟩ : MethodName) (head1 (Jvm.Cond.code (⟨"com/example/cohortbench/cohortbench/model/HistoryRecord", "write", "(DLcom/example/cohortbench/cohortbench/model/Incarnation;II)Lcom/example/cohortbench/cohortbench/model/HistoryRecord;"⟩ : MethodName) prog_72_method_3_code 5 (some (.object "com/example/cohortbench/cohortbench/model/HistoryRecord")) :: ws) ({ frames := 3, cells := 1, slots := 6, locals := 44 } : Room)) (fun a U => a = #[(.double d0), .null, (.int p2), (.int p3)] ∧ Z.Warmed39 U.vm ∧ U.heap = h0) (fun _ _ _ _ _ => True) (fun _ U o U' => ∃ v L, o = .returned v ∧ QWrite Z d0 p2 p3 s_HistoryRecord_Op_WRITE h0 n0 v U'.heap L ∧ FrameEnd U o U' L ({ frames := 3, cells := 1, slots := 6, locals := 44 } : Room).cells ({ frames := 3, cells := 1, slots := 6, locals := 44 } : Room).slots) := by
  refine MetFree.of_bodySF (plainFor_of_name pn_1) hisR ?_
  intro p e s m args below meth c s₁ Bd hml0 hP hK
  obtain ⟨rfl, hZ, hh⟩ := hP
  have hx := Bd.exec
  have hby := Bd.bytes
  have hml : c.maxLocals = 5 := hml0
  have hown : s.vm.findClass "com/example/cohortbench/cohortbench/model/HistoryRecord" = some m.cls := findClass_of_methodNamed Bd.named
  have hnm := (name_of_methodNamed Bd.named Bd.method).1
  have X0 : Stand p l e ({ frames := 3, cells := 1, slots := 6, locals := 44 } : Room) s m #[(.double d0), .null, (.int p2), (.int p3)] below meth c s₁ [] 0 0 := Stand.of_body Bd
  have e0 : s₁.heap = h0 := by rw [← hh, Bd.state]; rfl
  have N0 := Fr.nil n0
  have Kp := Keep.refl h0 []
  show Run p e below (Ends s (QWrite Z d0 p2 p3 s_HistoryRecord_Op_WRITE h0 n0) ({ frames := 3, cells := 1, slots := 6, locals := 44 } : Room).cells ({ frames := 3, cells := 1, slots := 6, locals := 44 } : Room).slots) _
  refine Run.st (S' := s₁.setTop (mkF m 0 #[.val (.double d0), .second, .val .null, .val (.int p2), .val (.int p3)] [])) (fun t k => castTop (ef_Write m d0 p2 p3) k) ?_
  obtain ⟨T1, h1, X1, e1, E1, A1, D1, -, st1⟩ := newO X0 hx hZ hown (hw _ (List.mem_of_getElem? (i := 5) rfl)) (hw _ (List.mem_of_getElem? (i := 6) rfl)) (hw _ (List.mem_of_getElem? (i := 3) rfl)) e0 (g := (mkF m 0 #[.val (.double d0), .second, .val .null, .val (.int p2), .val (.int p3)] [])) rfl (hb hby d8_0) (by decide) (by decide)
  obtain ⟨b1, g1⟩ : ∃ z, z = h0.size := ⟨_, rfl⟩
  rw [← g1] at A1 D1 st1
  have S_s_HistoryRecord_Op_WRITE := S_s_HistoryRecord_Op_WRITE.ext E1
  have g_b1 : n0 ≤ b1 := Nat.le_trans Zn (Nat.le_of_eq g1.symm)
  have Zn := Nat.le_trans Zn E1.1
  have sz_b1 : h0.size ≤ b1 := Nat.le_trans Kp.1 (Nat.le_of_eq g1.symm)
  have Kp := Kp.ext E1
  have E_b1 := A1
  have F_timeMs_b1 : Fld Z h1 b1 "com/example/cohortbench/cohortbench/model/HistoryRecord" "timeMs" "D" (defaultValue .double) := D1 (Or.inr (hw _ (List.mem_of_getElem? (i := 22) rfl))) (ty := .double) (by decide)
  have F_unit_b1 : Fld Z h1 b1 "com/example/cohortbench/cohortbench/model/HistoryRecord" "unit" "Lcom/example/cohortbench/cohortbench/model/Incarnation;" .null := D1 (Or.inr (hw _ (List.mem_of_getElem? (i := 24) rfl))) (ty := (.object "com/example/cohortbench/cohortbench/model/Incarnation")) (by decide)
  have F_op_b1 : Fld Z h1 b1 "com/example/cohortbench/cohortbench/model/HistoryRecord" "op" "Lcom/example/cohortbench/cohortbench/model/HistoryRecord$Op;" .null := D1 (Or.inr (hw _ (List.mem_of_getElem? (i := 26) rfl))) (ty := (.object "com/example/cohortbench/cohortbench/model/HistoryRecord$Op")) (by decide)
  have F_site_b1 : Fld Z h1 b1 "com/example/cohortbench/cohortbench/model/HistoryRecord" "site" "I" (.int (0 : Int32)) := D1 (Or.inr (hw _ (List.mem_of_getElem? (i := 28) rfl))) (ty := .int) (by decide)
  have F_item_b1 : Fld Z h1 b1 "com/example/cohortbench/cohortbench/model/HistoryRecord" "item" "I" (.int (0 : Int32)) := D1 (Or.inr (hw _ (List.mem_of_getElem? (i := 30) rfl))) (ty := .int) (by decide)
  have F_from_b1 : Fld Z h1 b1 "com/example/cohortbench/cohortbench/model/HistoryRecord" "from" "Lcom/example/cohortbench/cohortbench/model/Incarnation;" .null := D1 (Or.inr (hw _ (List.mem_of_getElem? (i := 32) rfl))) (ty := (.object "com/example/cohortbench/cohortbench/model/Incarnation")) (by decide)
  refine Run.st (S' := T1.setTop (mkF m 6 #[.val (.double d0), .second, .val .null, .val (.int p2), .val (.int p3)] [.null, (.double d0), (.ref b1), (.ref b1)])) (fun _ k => st1 _ (XS.dup X1.here hx rfl (hb hby d8_3) rfl rfl (XS.dloadN X1.here hx rfl (hb hby d8_4) rfl (XS.aloadN X1.here hx rfl (hb hby d8_5) rfl rfl k)))) ?_
  obtain ⟨T2, X2, e2, st2⟩ := getS2 X1 hx hZ hown (host := "") (Or.inl (hw _ (List.mem_of_getElem? (i := 52) rfl))) Via.refl e1 S_s_HistoryRecord_Op_WRITE (g := (mkF m 6 #[.val (.double d0), .second, .val .null, .val (.int p2), .val (.int p3)] [.null, (.double d0), (.ref b1), (.ref b1)])) rfl (hb hby d8_6)
  refine Run.st (S' := T2.setTop (mkF m 13 #[.val (.double d0), .second, .val .null, .val (.int p2), .val (.int p3)] [.null, (.int p3), (.int p2), (.ref s_HistoryRecord_Op_WRITE), .null, (.double d0), (.ref b1), (.ref b1)])) (fun _ k => st2 _ (XS.iloadN X2.here hx rfl (hb hby d8_9) rfl (XS.iload X2.here hx rfl (hb hby d8_10) rfl (XS.aconstNull X2.here hx rfl (hb hby d8_12) k)))) ?_
  obtain ⟨_, _, ⟨T3, L3, k3, n3⟩, -, X3, ⟨Lc3, hQ3, l3, y3, z3⟩, st3⟩ := X2.specialBack hx (y := (⟨"com/example/cohortbench/cohortbench/model/HistoryRecord", "<init>", "(DLcom/example/cohortbench/cohortbench/model/Incarnation;Lcom/example/cohortbench/cohortbench/model/HistoryRecord$Op;IILcom/example/cohortbench/cohortbench/model/Incarnation;)V"⟩ : MethodName)) rfl hown (mvT hZ (hw _ (List.mem_of_getElem? (i := 10) rfl))) (mvT hZ (hw _ (List.mem_of_getElem? (i := 11) rfl))) (mvT hZ (hw _ (List.mem_of_getElem? (i := 12) rfl))) (by decide) (backOf (W := 1) (rmIni l Z aV hw [] b1 d0 s_HistoryRecord_Op_WRITE p2 p3 (defaultValue .double) h1 n0 Zn g_b1 E_b1 F_timeMs_b1 F_unit_b1 F_op_b1 F_site_b1 F_item_b1 F_from_b1) hZ (hw _ (List.mem_of_getElem? (i := 12) rfl)) (hw _ (List.mem_of_getElem? (i := 3) rfl)) (by decide) (by decide)) (g := (mkF m 13 #[.val (.double d0), .second, .val .null, .val (.int p2), .val (.int p3)] [.null, (.int p3), (.int p2), (.ref s_HistoryRecord_Op_WRITE), .null, (.double d0), (.ref b1), (.ref b1)])) rfl (by rw [hml]; rfl) (Steps.refl _) (a := b1) (argsL := [(.double d0), .null, (.ref s_HistoryRecord_Op_WRITE), (.int p2), (.int p3), .null]) (rest := [(.ref b1)]) (lenOf pd_1 rfl) rfl (by show 2 * 0 + _ ≤ _; exact Nat.le_of_eq rfl) (hb hby d8_13) (fun _ _ => ⟨rfl, e2, (by decide : 1 + 0 ≤ _), (by decide : 6 + 0 ≤ _)⟩)
  dsimp only [Pt.U, Pt.locs, Pt.cells, Pt.slots] at X3 l3 y3 z3 st3 hQ3
  subst l3 y3 z3
  obtain ⟨rfl, N3q, K3, q3_0, q3_1, q3_2, q3_3, q3_4, q3_5, q3_6⟩ := hQ3
  have S_s_HistoryRecord_Op_WRITE := staK S_s_HistoryRecord_Op_WRITE K3 (allS (exaP E_b1) all0)
  have E_b1 := q3_0
  have F_timeMs_b1 := q3_1
  have F_unit_b1 := q3_2
  have F_op_b1 := q3_3
  have F_site_b1 := q3_4
  have F_item_b1 := q3_5
  have F_from_b1 := q3_6
  have Kp := Kp.trans K3 (allS (Or.inr sz_b1) all0)
  have Zn := Nat.le_trans Zn K3.1
  have N3 := Fr.app N0 N3q
  refine Run.st (S' := T3.setTop (mkF m 16 #[.val (.double d0), .second, .val .null, .val (.int p2), .val (.int p3)] [(.ref b1)])) (fun _ k => st3.trans k) ?_
  refine Run.out X3 hx Bd.notSynchronized Bd.returns rfl (Or.inr (Or.inr (Or.inr (Or.inr ⟨rfl, rfl, rfl⟩)))) (hb hby d8_16) (by decide) (by decide) ?_
  exact ⟨b1, rfl, N3, Kp, g_b1, sz_b1, E_b1, F_timeMs_b1, F_unit_b1, F_op_b1, F_site_b1, F_item_b1, F_from_b1⟩
theorem d9_0 : decode prog_72_method_4_code 0 = .ok (.new 8, 3) := by decide +kernel
theorem d9_3 : decode prog_72_method_4_code 3 = .ok (.dup, 1) := by decide +kernel
theorem d9_4 : decode prog_72_method_4_code 4 = .ok (.dload_n 0, 1) := by decide +kernel
theorem d9_5 : decode prog_72_method_4_code 5 = .ok (.aload_n 2, 1) := by decide +kernel
theorem d9_6 : decode prog_72_method_4_code 6 = .ok (.aload_n 3, 1) := by decide +kernel
theorem d9_7 : decode prog_72_method_4_code 7 = .ok (.iload 4, 2) := by decide +kernel
theorem d9_9 : decode prog_72_method_4_code 9 = .ok (.iconst (-1), 1) := by decide +kernel
theorem d9_10 : decode prog_72_method_4_code 10 = .ok (.aconst_null, 1) := by decide +kernel
theorem d9_11 : decode prog_72_method_4_code 11 = .ok (.invokespecial 36, 3) := by decide +kernel
theorem d9_14 : decode prog_72_method_4_code 14 = .ok (.areturn, 1) := by decide +kernel
theorem ef_Dec (m : MethodId) (d0 : UInt64) (a2 : Addr) (p3 : Int32) : entryFrame m #[(.double d0), .null, (.ref a2), (.int p3)] 5 = mkF m 0 #[.val (.double d0), .second, .val .null, .val (.ref a2), .val (.int p3)] [] := by first | (simp [entryFrame, mkF, argsToLocals, Value.category]; done) | rfl
def QDec (Z : State) (d0 : UInt64) (a2 : Addr) (p3 : Int32) (h0 : Heap) (n0 : Nat) (v : Option Value) (h : Heap) (L : List Loc) : Prop := ∃ (y0 : Addr), v = some (.ref y0) ∧ Fr n0 L ∧ Keep h0 h [] ∧ n0 ≤ y0 ∧ h0.size ≤ y0 ∧ Exa Z h y0 "com/example/cohortbench/cohortbench/model/HistoryRecord" ∧ Fld Z h y0 "com/example/cohortbench/cohortbench/model/HistoryRecord" "timeMs" "D" (.double d0) ∧ Fld Z h y0 "com/example/cohortbench/cohortbench/model/HistoryRecord" "unit" "Lcom/example/cohortbench/cohortbench/model/Incarnation;" .null ∧ Fld Z h y0 "com/example/cohortbench/cohortbench/model/HistoryRecord" "op" "Lcom/example/cohortbench/cohortbench/model/HistoryRecord$Op;" (.ref a2) ∧ Fld Z h y0 "com/example/cohortbench/cohortbench/model/HistoryRecord" "site" "I" (.int p3) ∧ Fld Z h y0 "com/example/cohortbench/cohortbench/model/HistoryRecord" "item" "I" (.int (-1 : Int32)) ∧ Fld Z h y0 "com/example/cohortbench/cohortbench/model/HistoryRecord" "from" "Lcom/example/cohortbench/cohortbench/model/Incarnation;" .null
set_option maxRecDepth 65536 in
set_option maxHeartbeats 40000000 in
theorem rmDec (l : Launch) (Z : State) (aV : Array Value) (hw : ∀ d ∈ tables_1, d.before aV Z = true) (ws : List Jvm.Cond) (d0 : UInt64) (a2 : Addr) (p3 : Int32) (h0 : Heap) (n0 : Nat) (Zn : n0 ≤ h0.size) :
    MetFree l (⟨"com/example/cohortbench/cohortbench/model/HistoryRecord", "decision", "(DLcom/example/cohortbench/cohortbench/model/Incarnation;Lcom/example/cohortbench/cohortbench/model/HistoryRecord$Op;I)Lcom/example/cohortbench/cohortbench/model/HistoryRecord;"⟩ : MethodName) (head1 (Jvm.Cond.code (⟨"com/example/cohortbench/cohortbench/model/HistoryRecord", "decision", "(DLcom/example/cohortbench/cohortbench/model/Incarnation;Lcom/example/cohortbench/cohortbench/model/HistoryRecord$Op;I)Lcom/example/cohortbench/cohortbench/model/HistoryRecord;"⟩ : MethodName) prog_72_method_4_code 5 (some (.object "com/example/cohortbench/cohortbench/model/HistoryRecord")) :: ws) ({ frames := 3, cells := 1, slots := 6, locals := 44 } : Room)) (fun a U => a = #[(.double d0), .null, (.ref a2), (.int p3)] ∧ Z.Warmed39 U.vm ∧ U.heap = h0) (fun _ _ _ _ _ => True) (fun _ U o U' => ∃ v L, o = .returned v ∧ QDec Z d0 a2 p3 h0 n0 v U'.heap L ∧ FrameEnd U o U' L ({ frames := 3, cells := 1, slots := 6, locals := 44 } : Room).cells ({ frames := 3, cells := 1, slots := 6, locals := 44 } : Room).slots) := by
  refine MetFree.of_bodySF (plainFor_of_name pn_1) hisR ?_
  intro p e s m args below meth c s₁ Bd hml0 hP hK
  obtain ⟨rfl, hZ, hh⟩ := hP
  have hx := Bd.exec
  have hby := Bd.bytes
  have hml : c.maxLocals = 5 := hml0
  have hown : s.vm.findClass "com/example/cohortbench/cohortbench/model/HistoryRecord" = some m.cls := findClass_of_methodNamed Bd.named
  have hnm := (name_of_methodNamed Bd.named Bd.method).1
  have X0 : Stand p l e ({ frames := 3, cells := 1, slots := 6, locals := 44 } : Room) s m #[(.double d0), .null, (.ref a2), (.int p3)] below meth c s₁ [] 0 0 := Stand.of_body Bd
  have e0 : s₁.heap = h0 := by rw [← hh, Bd.state]; rfl
  have N0 := Fr.nil n0
  have Kp := Keep.refl h0 []
  show Run p e below (Ends s (QDec Z d0 a2 p3 h0 n0) ({ frames := 3, cells := 1, slots := 6, locals := 44 } : Room).cells ({ frames := 3, cells := 1, slots := 6, locals := 44 } : Room).slots) _
  refine Run.st (S' := s₁.setTop (mkF m 0 #[.val (.double d0), .second, .val .null, .val (.ref a2), .val (.int p3)] [])) (fun t k => castTop (ef_Dec m d0 a2 p3) k) ?_
  obtain ⟨T1, h1, X1, e1, E1, A1, D1, -, st1⟩ := newO X0 hx hZ hown (hw _ (List.mem_of_getElem? (i := 5) rfl)) (hw _ (List.mem_of_getElem? (i := 6) rfl)) (hw _ (List.mem_of_getElem? (i := 3) rfl)) e0 (g := (mkF m 0 #[.val (.double d0), .second, .val .null, .val (.ref a2), .val (.int p3)] [])) rfl (hb hby d9_0) (by decide) (by decide)
  obtain ⟨b1, g1⟩ : ∃ z, z = h0.size := ⟨_, rfl⟩
  rw [← g1] at A1 D1 st1
  have g_b1 : n0 ≤ b1 := Nat.le_trans Zn (Nat.le_of_eq g1.symm)
  have Zn := Nat.le_trans Zn E1.1
  have sz_b1 : h0.size ≤ b1 := Nat.le_trans Kp.1 (Nat.le_of_eq g1.symm)
  have Kp := Kp.ext E1
  have E_b1 := A1
  have F_timeMs_b1 : Fld Z h1 b1 "com/example/cohortbench/cohortbench/model/HistoryRecord" "timeMs" "D" (defaultValue .double) := D1 (Or.inr (hw _ (List.mem_of_getElem? (i := 22) rfl))) (ty := .double) (by decide)
  have F_unit_b1 : Fld Z h1 b1 "com/example/cohortbench/cohortbench/model/HistoryRecord" "unit" "Lcom/example/cohortbench/cohortbench/model/Incarnation;" .null := D1 (Or.inr (hw _ (List.mem_of_getElem? (i := 24) rfl))) (ty := (.object "com/example/cohortbench/cohortbench/model/Incarnation")) (by decide)
  have F_op_b1 : Fld Z h1 b1 "com/example/cohortbench/cohortbench/model/HistoryRecord" "op" "Lcom/example/cohortbench/cohortbench/model/HistoryRecord$Op;" .null := D1 (Or.inr (hw _ (List.mem_of_getElem? (i := 26) rfl))) (ty := (.object "com/example/cohortbench/cohortbench/model/HistoryRecord$Op")) (by decide)
  have F_site_b1 : Fld Z h1 b1 "com/example/cohortbench/cohortbench/model/HistoryRecord" "site" "I" (.int (0 : Int32)) := D1 (Or.inr (hw _ (List.mem_of_getElem? (i := 28) rfl))) (ty := .int) (by decide)
  have F_item_b1 : Fld Z h1 b1 "com/example/cohortbench/cohortbench/model/HistoryRecord" "item" "I" (.int (0 : Int32)) := D1 (Or.inr (hw _ (List.mem_of_getElem? (i := 30) rfl))) (ty := .int) (by decide)
  have F_from_b1 : Fld Z h1 b1 "com/example/cohortbench/cohortbench/model/HistoryRecord" "from" "Lcom/example/cohortbench/cohortbench/model/Incarnation;" .null := D1 (Or.inr (hw _ (List.mem_of_getElem? (i := 32) rfl))) (ty := (.object "com/example/cohortbench/cohortbench/model/Incarnation")) (by decide)
  refine Run.st (S' := T1.setTop (mkF m 11 #[.val (.double d0), .second, .val .null, .val (.ref a2), .val (.int p3)] [.null, (.int (-1 : Int32)), (.int p3), (.ref a2), .null, (.double d0), (.ref b1), (.ref b1)])) (fun _ k => st1 _ (XS.dup X1.here hx rfl (hb hby d9_3) rfl rfl (XS.dloadN X1.here hx rfl (hb hby d9_4) rfl (XS.aloadN X1.here hx rfl (hb hby d9_5) rfl rfl (XS.aloadN X1.here hx rfl (hb hby d9_6) rfl rfl (XS.iload X1.here hx rfl (hb hby d9_7) rfl (XS.iconst X1.here hx rfl (hb hby d9_9) (XS.aconstNull X1.here hx rfl (hb hby d9_10) k)))))))) ?_
  obtain ⟨_, _, ⟨T2, L2, k2, n2⟩, -, X2, ⟨Lc2, hQ2, l2, y2, z2⟩, st2⟩ := X1.specialBack hx (y := (⟨"com/example/cohortbench/cohortbench/model/HistoryRecord", "<init>", "(DLcom/example/cohortbench/cohortbench/model/Incarnation;Lcom/example/cohortbench/cohortbench/model/HistoryRecord$Op;IILcom/example/cohortbench/cohortbench/model/Incarnation;)V"⟩ : MethodName)) rfl hown (mvT hZ (hw _ (List.mem_of_getElem? (i := 10) rfl))) (mvT hZ (hw _ (List.mem_of_getElem? (i := 11) rfl))) (mvT hZ (hw _ (List.mem_of_getElem? (i := 12) rfl))) (by decide) (backOf (W := 1) (rmIni l Z aV hw [] b1 d0 a2 p3 (-1 : Int32) (defaultValue .double) h1 n0 Zn g_b1 E_b1 F_timeMs_b1 F_unit_b1 F_op_b1 F_site_b1 F_item_b1 F_from_b1) hZ (hw _ (List.mem_of_getElem? (i := 12) rfl)) (hw _ (List.mem_of_getElem? (i := 3) rfl)) (by decide) (by decide)) (g := (mkF m 11 #[.val (.double d0), .second, .val .null, .val (.ref a2), .val (.int p3)] [.null, (.int (-1 : Int32)), (.int p3), (.ref a2), .null, (.double d0), (.ref b1), (.ref b1)])) rfl (by rw [hml]; rfl) (Steps.refl _) (a := b1) (argsL := [(.double d0), .null, (.ref a2), (.int p3), (.int (-1 : Int32)), .null]) (rest := [(.ref b1)]) (lenOf pd_1 rfl) rfl (by show 2 * 0 + _ ≤ _; exact Nat.le_of_eq rfl) (hb hby d9_11) (fun _ _ => ⟨rfl, e1, (by decide : 1 + 0 ≤ _), (by decide : 6 + 0 ≤ _)⟩)
  dsimp only [Pt.U, Pt.locs, Pt.cells, Pt.slots] at X2 l2 y2 z2 st2 hQ2
  subst l2 y2 z2
  obtain ⟨rfl, N2q, K2, q2_0, q2_1, q2_2, q2_3, q2_4, q2_5, q2_6⟩ := hQ2
  have E_b1 := q2_0
  have F_timeMs_b1 := q2_1
  have F_unit_b1 := q2_2
  have F_op_b1 := q2_3
  have F_site_b1 := q2_4
  have F_item_b1 := q2_5
  have F_from_b1 := q2_6
  have Kp := Kp.trans K2 (allS (Or.inr sz_b1) all0)
  have Zn := Nat.le_trans Zn K2.1
  have N2 := Fr.app N0 N2q
  refine Run.st (S' := T2.setTop (mkF m 14 #[.val (.double d0), .second, .val .null, .val (.ref a2), .val (.int p3)] [(.ref b1)])) (fun _ k => st2.trans k) ?_
  refine Run.out X2 hx Bd.notSynchronized Bd.returns rfl (Or.inr (Or.inr (Or.inr (Or.inr ⟨rfl, rfl, rfl⟩)))) (hb hby d9_14) (by decide) (by decide) ?_
  exact ⟨b1, rfl, N2, Kp, g_b1, sz_b1, E_b1, F_timeMs_b1, F_unit_b1, F_op_b1, F_site_b1, F_item_b1, F_from_b1⟩
theorem d5_0 : decode prog_72_method_10_code 0 = .ok (.aload_n 0, 1) := by decide +kernel
theorem d5_1 : decode prog_72_method_10_code 1 = .ok (.getfield 17, 3) := by decide +kernel
theorem d5_4 : decode prog_72_method_10_code 4 = .ok (.areturn, 1) := by decide +kernel
theorem ef_Op (m : MethodId) (a0 : Addr) : entryFrame m #[(.ref a0)] 1 = mkF m 0 #[.val (.ref a0)] [] := by first | (simp [entryFrame, mkF, argsToLocals, Value.category]; done) | rfl
def QOp (Z : State) (a0 : Addr) (ov : Addr) (h0 : Heap) (n0 : Nat) (v : Option Value) (h : Heap) (L : List Loc) : Prop := v = some (.ref ov) ∧ Fr n0 L ∧ h = h0
set_option maxRecDepth 65536 in
set_option maxHeartbeats 40000000 in
theorem rmOp (l : Launch) (Z : State) (aV : Array Value) (hw : ∀ d ∈ tables_1, d.before aV Z = true) (ws : List Jvm.Cond) (a0 : Addr) (ov : Addr) (h0 : Heap) (n0 : Nat) (Zn : n0 ≤ h0.size) (F_op : Fld Z h0 a0 "com/example/cohortbench/cohortbench/model/HistoryRecord" "op" "Lcom/example/cohortbench/cohortbench/model/HistoryRecord$Op;" (.ref ov)) :
    MetFree l (⟨"com/example/cohortbench/cohortbench/model/HistoryRecord", "op", "()Lcom/example/cohortbench/cohortbench/model/HistoryRecord$Op;"⟩ : MethodName) (head1 (Jvm.Cond.code (⟨"com/example/cohortbench/cohortbench/model/HistoryRecord", "op", "()Lcom/example/cohortbench/cohortbench/model/HistoryRecord$Op;"⟩ : MethodName) prog_72_method_10_code 1 (some (.object "com/example/cohortbench/cohortbench/model/HistoryRecord$Op")) :: ws) ({ frames := 0, cells := 0, slots := 0, locals := 0 } : Room)) (fun a U => a = #[(.ref a0)] ∧ Z.Warmed39 U.vm ∧ U.heap = h0) (fun _ _ _ _ _ => True) (fun _ U o U' => ∃ v L, o = .returned v ∧ QOp Z a0 ov h0 n0 v U'.heap L ∧ FrameEnd U o U' L ({ frames := 0, cells := 0, slots := 0, locals := 0 } : Room).cells ({ frames := 0, cells := 0, slots := 0, locals := 0 } : Room).slots) := by
  refine MetFree.of_bodySF (plainFor_of_name pn_1) hisR ?_
  intro p e s m args below meth c s₁ Bd hml0 hP hK
  obtain ⟨rfl, hZ, hh⟩ := hP
  have hx := Bd.exec
  have hby := Bd.bytes
  have hml : c.maxLocals = 1 := hml0
  have hown : s.vm.findClass "com/example/cohortbench/cohortbench/model/HistoryRecord" = some m.cls := findClass_of_methodNamed Bd.named
  have hnm := (name_of_methodNamed Bd.named Bd.method).1
  have X0 : Stand p l e ({ frames := 0, cells := 0, slots := 0, locals := 0 } : Room) s m #[(.ref a0)] below meth c s₁ [] 0 0 := Stand.of_body Bd
  have e0 : s₁.heap = h0 := by rw [← hh, Bd.state]; rfl
  have N0 := Fr.nil n0
  have Kp := Keep.refl h0 []
  show Run p e below (Ends s (QOp Z a0 ov h0 n0) ({ frames := 0, cells := 0, slots := 0, locals := 0 } : Room).cells ({ frames := 0, cells := 0, slots := 0, locals := 0 } : Room).slots) _
  refine Run.st (S' := s₁.setTop (mkF m 0 #[.val (.ref a0)] [])) (fun t k => castTop (ef_Op m a0) k) ?_
  refine Run.st (S' := s₁.setTop (mkF m 1 #[.val (.ref a0)] [(.ref a0)])) (fun _ k => XS.aloadN X0.here hx rfl (hb hby d5_0) rfl rfl k) ?_
  obtain ⟨T1, X1, e1, st1⟩ := getF X0 hx hZ hown (host := "") (Or.inl (hw _ (List.mem_of_getElem? (i := 25) rfl))) Via.refl e0 F_op (g := (mkF m 1 #[.val (.ref a0)] [(.ref a0)])) rfl rfl (hb hby d5_1)
  refine Run.st (S' := T1.setTop (mkF m 4 #[.val (.ref a0)] [(.ref ov)])) (fun _ k => st1 _ k) ?_
  refine Run.out X1 hx Bd.notSynchronized Bd.returns rfl (Or.inr (Or.inr (Or.inr (Or.inr ⟨rfl, rfl, rfl⟩)))) (hb hby d5_4) (by decide) (by decide) ?_
  rw [e1]
  exact ⟨rfl, N0, rfl⟩
theorem d7_0 : decode prog_72_method_12_code 0 = .ok (.aload_n 0, 1) := by decide +kernel
theorem d7_1 : decode prog_72_method_12_code 1 = .ok (.getfield 25, 3) := by decide +kernel
theorem d7_4 : decode prog_72_method_12_code 4 = .ok (.ireturn, 1) := by decide +kernel
theorem ef_Item (m : MethodId) (a0 : Addr) : entryFrame m #[(.ref a0)] 1 = mkF m 0 #[.val (.ref a0)] [] := by first | (simp [entryFrame, mkF, argsToLocals, Value.category]; done) | rfl
def QItem (Z : State) (a0 : Addr) (ov : Int32) (h0 : Heap) (n0 : Nat) (v : Option Value) (h : Heap) (L : List Loc) : Prop := v = some (.int ov) ∧ Fr n0 L ∧ h = h0
set_option maxRecDepth 65536 in
set_option maxHeartbeats 40000000 in
theorem rmItem (l : Launch) (Z : State) (aV : Array Value) (hw : ∀ d ∈ tables_1, d.before aV Z = true) (ws : List Jvm.Cond) (a0 : Addr) (ov : Int32) (h0 : Heap) (n0 : Nat) (Zn : n0 ≤ h0.size) (F_item : Fld Z h0 a0 "com/example/cohortbench/cohortbench/model/HistoryRecord" "item" "I" (.int ov)) :
    MetFree l (⟨"com/example/cohortbench/cohortbench/model/HistoryRecord", "item", "()I"⟩ : MethodName) (head1 (Jvm.Cond.code (⟨"com/example/cohortbench/cohortbench/model/HistoryRecord", "item", "()I"⟩ : MethodName) prog_72_method_12_code 1 (some .int) :: ws) ({ frames := 0, cells := 0, slots := 0, locals := 0 } : Room)) (fun a U => a = #[(.ref a0)] ∧ Z.Warmed39 U.vm ∧ U.heap = h0) (fun _ _ _ _ _ => True) (fun _ U o U' => ∃ v L, o = .returned v ∧ QItem Z a0 ov h0 n0 v U'.heap L ∧ FrameEnd U o U' L ({ frames := 0, cells := 0, slots := 0, locals := 0 } : Room).cells ({ frames := 0, cells := 0, slots := 0, locals := 0 } : Room).slots) := by
  refine MetFree.of_bodySF (plainFor_of_name pn_1) hisR ?_
  intro p e s m args below meth c s₁ Bd hml0 hP hK
  obtain ⟨rfl, hZ, hh⟩ := hP
  have hx := Bd.exec
  have hby := Bd.bytes
  have hml : c.maxLocals = 1 := hml0
  have hown : s.vm.findClass "com/example/cohortbench/cohortbench/model/HistoryRecord" = some m.cls := findClass_of_methodNamed Bd.named
  have hnm := (name_of_methodNamed Bd.named Bd.method).1
  have X0 : Stand p l e ({ frames := 0, cells := 0, slots := 0, locals := 0 } : Room) s m #[(.ref a0)] below meth c s₁ [] 0 0 := Stand.of_body Bd
  have e0 : s₁.heap = h0 := by rw [← hh, Bd.state]; rfl
  have N0 := Fr.nil n0
  have Kp := Keep.refl h0 []
  show Run p e below (Ends s (QItem Z a0 ov h0 n0) ({ frames := 0, cells := 0, slots := 0, locals := 0 } : Room).cells ({ frames := 0, cells := 0, slots := 0, locals := 0 } : Room).slots) _
  refine Run.st (S' := s₁.setTop (mkF m 0 #[.val (.ref a0)] [])) (fun t k => castTop (ef_Item m a0) k) ?_
  refine Run.st (S' := s₁.setTop (mkF m 1 #[.val (.ref a0)] [(.ref a0)])) (fun _ k => XS.aloadN X0.here hx rfl (hb hby d7_0) rfl rfl k) ?_
  obtain ⟨T1, X1, e1, st1⟩ := getF X0 hx hZ hown (host := "") (Or.inl (hw _ (List.mem_of_getElem? (i := 29) rfl))) Via.refl e0 F_item (g := (mkF m 1 #[.val (.ref a0)] [(.ref a0)])) rfl rfl (hb hby d7_1)
  refine Run.st (S' := T1.setTop (mkF m 4 #[.val (.ref a0)] [(.int ov)])) (fun _ k => st1 _ k) ?_
  refine Run.out X1 hx Bd.notSynchronized Bd.returns rfl (Or.inl ⟨rfl, by simp, _, rfl⟩) (hb hby d7_4) (by decide) (by decide) ?_
  rw [e1]
  exact ⟨rfl, N0, rfl⟩
theorem d6_0 : decode prog_73_method_5_code 0 = .ok (.aload_n 0, 1) := by decide +kernel
theorem d6_1 : decode prog_73_method_5_code 1 = .ok (.getstatic 3, 3) := by decide +kernel
theorem d6_4 : decode prog_73_method_5_code 4 = .ok (.if_acmp .eq 10, 3) := by decide +kernel
theorem d6_7 : decode prog_73_method_5_code 7 = .ok (.aload_n 0, 1) := by decide +kernel
theorem d6_8 : decode prog_73_method_5_code 8 = .ok (.getstatic 7, 3) := by decide +kernel
theorem d6_11 : decode prog_73_method_5_code 11 = .ok (.if_acmp .ne 7, 3) := by decide +kernel
theorem d6_14 : decode prog_73_method_5_code 14 = .ok (.iconst 1, 1) := by decide +kernel
theorem d6_15 : decode prog_73_method_5_code 15 = .ok (.goto 4, 3) := by decide +kernel
theorem d6_18 : decode prog_73_method_5_code 18 = .ok (.iconst 0, 1) := by decide +kernel
theorem d6_19 : decode prog_73_method_5_code 19 = .ok (.ireturn, 1) := by decide +kernel
theorem pn_2 : plainName "com/example/cohortbench/cohortbench/model/HistoryRecord$Op" = true := by first | (simp [plainName, overriddenIn]; done) | decide +kernel
theorem ef_Tou (m : MethodId) (a0 : Addr) : entryFrame m #[(.ref a0)] 1 = mkF m 0 #[.val (.ref a0)] [] := by first | (simp [entryFrame, mkF, argsToLocals, Value.category]; done) | rfl
def FTou (a0 : Addr) (s_HistoryRecord_Op_READ : Addr) (s_HistoryRecord_Op_WRITE : Addr) : Int32 := (if a0 = s_HistoryRecord_Op_READ then (1 : Int32) else (if a0 = s_HistoryRecord_Op_WRITE then (1 : Int32) else (0 : Int32)))
def QTou (Z : State) (a0 : Addr) (s_HistoryRecord_Op_READ : Addr) (s_HistoryRecord_Op_WRITE : Addr) (h0 : Heap) (n0 : Nat) (v : Option Value) (h : Heap) (L : List Loc) : Prop := v = some (.int (FTou a0 s_HistoryRecord_Op_READ s_HistoryRecord_Op_WRITE)) ∧ Fr n0 L ∧ h = h0
set_option maxRecDepth 65536 in
set_option maxHeartbeats 40000000 in
theorem rmTou (l : Launch) (Z : State) (aV : Array Value) (hw : ∀ d ∈ tables_1, d.before aV Z = true) (ws : List Jvm.Cond) (a0 : Addr) (s_HistoryRecord_Op_READ : Addr) (s_HistoryRecord_Op_WRITE : Addr) (h0 : Heap) (n0 : Nat) (Zn : n0 ≤ h0.size) (S_s_HistoryRecord_Op_READ : Sta Z h0 "com/example/cohortbench/cohortbench/model/HistoryRecord$Op" "READ" "Lcom/example/cohortbench/cohortbench/model/HistoryRecord$Op;" (.ref s_HistoryRecord_Op_READ)) (S_s_HistoryRecord_Op_WRITE : Sta Z h0 "com/example/cohortbench/cohortbench/model/HistoryRecord$Op" "WRITE" "Lcom/example/cohortbench/cohortbench/model/HistoryRecord$Op;" (.ref s_HistoryRecord_Op_WRITE)) :
    MetFree l (⟨"com/example/cohortbench/cohortbench/model/HistoryRecord$Op", "touchesItem", "()Z"⟩ : MethodName) (head1 (Jvm.Cond.code (⟨"com/example/cohortbench/cohortbench/model/HistoryRecord$Op", "touchesItem", "()Z"⟩ : MethodName) prog_73_method_5_code 1 (some .boolean) :: ws) ({ frames := 0, cells := 0, slots := 0, locals := 0 } : Room)) (fun a U => a = #[(.ref a0)] ∧ Z.Warmed39 U.vm ∧ U.heap = h0) (fun _ _ _ _ _ => True) (fun _ U o U' => ∃ v L, o = .returned v ∧ QTou Z a0 s_HistoryRecord_Op_READ s_HistoryRecord_Op_WRITE h0 n0 v U'.heap L ∧ FrameEnd U o U' L ({ frames := 0, cells := 0, slots := 0, locals := 0 } : Room).cells ({ frames := 0, cells := 0, slots := 0, locals := 0 } : Room).slots) := by
  refine MetFree.of_bodySF (plainFor_of_name pn_2) hisR ?_
  intro p e s m args below meth c s₁ Bd hml0 hP hK
  obtain ⟨rfl, hZ, hh⟩ := hP
  have hx := Bd.exec
  have hby := Bd.bytes
  have hml : c.maxLocals = 1 := hml0
  have hown : s.vm.findClass "com/example/cohortbench/cohortbench/model/HistoryRecord$Op" = some m.cls := findClass_of_methodNamed Bd.named
  have hnm := (name_of_methodNamed Bd.named Bd.method).1
  have X0 : Stand p l e ({ frames := 0, cells := 0, slots := 0, locals := 0 } : Room) s m #[(.ref a0)] below meth c s₁ [] 0 0 := Stand.of_body Bd
  have e0 : s₁.heap = h0 := by rw [← hh, Bd.state]; rfl
  have N0 := Fr.nil n0
  have Kp := Keep.refl h0 []
  show Run p e below (Ends s (QTou Z a0 s_HistoryRecord_Op_READ s_HistoryRecord_Op_WRITE h0 n0) ({ frames := 0, cells := 0, slots := 0, locals := 0 } : Room).cells ({ frames := 0, cells := 0, slots := 0, locals := 0 } : Room).slots) _
  refine Run.st (S' := s₁.setTop (mkF m 0 #[.val (.ref a0)] [])) (fun t k => castTop (ef_Tou m a0) k) ?_
  refine Run.st (S' := s₁.setTop (mkF m 1 #[.val (.ref a0)] [(.ref a0)])) (fun _ k => XS.aloadN X0.here hx rfl (hb hby d6_0) rfl rfl k) ?_
  obtain ⟨T1, X1, e1, st1⟩ := getS2 X0 hx hZ hown (host := "") (Or.inl (hw _ (List.mem_of_getElem? (i := 43) rfl))) Via.refl e0 S_s_HistoryRecord_Op_READ (g := (mkF m 1 #[.val (.ref a0)] [(.ref a0)])) rfl (hb hby d6_1)
  refine Run.st (S' := T1.setTop (mkF m 4 #[.val (.ref a0)] [(.ref s_HistoryRecord_Op_READ), (.ref a0)])) (fun _ k => st1 _ k) ?_
  by_cases ha4_2 : a0 = s_HistoryRecord_Op_READ
  · refine Run.st (S' := T1.setTop (mkF m 19 #[.val (.ref a0)] [(.int (1 : Int32))])) (fun _ k => Jvm.RoadKit.acmp (g := (mkF m 4 #[.val (.ref a0)] [(.ref s_HistoryRecord_Op_READ), (.ref a0)])) X1 hx rfl rfl rfl (pc0 := 4) (pc' := 14) (same := true) rfl (hb hby d6_4) rfl (decide_eq_true (congrArg Value.ref ha4_2)) (by decide) (by decide) (XS.iconst X1.here hx rfl (hb hby d6_14) (XS.goto X1.here hx rfl (pc0 := 15) (pc' := 19) rfl (hb hby d6_15) (by decide) (by decide) k))) ?_
    refine Run.out X1 hx Bd.notSynchronized Bd.returns rfl (Or.inl ⟨rfl, by simp, _, rfl⟩) (hb hby d6_19) (by decide) (by decide) ?_
    rw [e1]
    exact ⟨by rw [FTou, if_pos ha4_2], N0, rfl⟩
  · refine Run.st (S' := T1.setTop (mkF m 8 #[.val (.ref a0)] [(.ref a0)])) (fun _ k => Jvm.RoadKit.acmp (g := (mkF m 4 #[.val (.ref a0)] [(.ref s_HistoryRecord_Op_READ), (.ref a0)])) X1 hx rfl rfl rfl (pc0 := 4) (pc' := 7) (same := false) rfl (hb hby d6_4) rfl (decide_eq_false fun q => ha4_2 (Value.ref.inj q)) (by decide) (by decide) (XS.aloadN X1.here hx rfl (hb hby d6_7) rfl rfl k)) ?_
    obtain ⟨T3, X3, e3, st3⟩ := getS2 X1 hx hZ hown (host := "") (Or.inl (hw _ (List.mem_of_getElem? (i := 54) rfl))) Via.refl e1 S_s_HistoryRecord_Op_WRITE (g := (mkF m 8 #[.val (.ref a0)] [(.ref a0)])) rfl (hb hby d6_8)
    refine Run.st (S' := T3.setTop (mkF m 11 #[.val (.ref a0)] [(.ref s_HistoryRecord_Op_WRITE), (.ref a0)])) (fun _ k => st3 _ k) ?_
    by_cases ha11_4 : a0 = s_HistoryRecord_Op_WRITE
    · refine Run.st (S' := T3.setTop (mkF m 19 #[.val (.ref a0)] [(.int (1 : Int32))])) (fun _ k => Jvm.RoadKit.acmp (g := (mkF m 11 #[.val (.ref a0)] [(.ref s_HistoryRecord_Op_WRITE), (.ref a0)])) X3 hx rfl rfl rfl (pc0 := 11) (pc' := 14) (same := true) rfl (hb hby d6_11) rfl (decide_eq_true (congrArg Value.ref ha11_4)) (by decide) (by decide) (XS.iconst X3.here hx rfl (hb hby d6_14) (XS.goto X3.here hx rfl (pc0 := 15) (pc' := 19) rfl (hb hby d6_15) (by decide) (by decide) k))) ?_
      refine Run.out X3 hx Bd.notSynchronized Bd.returns rfl (Or.inl ⟨rfl, by simp, _, rfl⟩) (hb hby d6_19) (by decide) (by decide) ?_
      rw [e3]
      exact ⟨by rw [FTou, if_neg ha4_2, if_pos ha11_4], N0, rfl⟩
    · refine Run.st (S' := T3.setTop (mkF m 19 #[.val (.ref a0)] [(.int (0 : Int32))])) (fun _ k => Jvm.RoadKit.acmp (g := (mkF m 11 #[.val (.ref a0)] [(.ref s_HistoryRecord_Op_WRITE), (.ref a0)])) X3 hx rfl rfl rfl (pc0 := 11) (pc' := 18) (same := false) rfl (hb hby d6_11) rfl (decide_eq_false fun q => ha11_4 (Value.ref.inj q)) (by decide) (by decide) (XS.iconst X3.here hx rfl (hb hby d6_18) k)) ?_
      refine Run.out X3 hx Bd.notSynchronized Bd.returns rfl (Or.inl ⟨rfl, by simp, _, rfl⟩) (hb hby d6_19) (by decide) (by decide) ?_
      rw [e3]
      exact ⟨by rw [FTou, if_neg ha4_2, if_neg ha11_4], N0, rfl⟩
theorem own_k (p : Int32) (h0 : ¬ (p &&& (3 : Int32)) = (0 : Int32)) (h1 : ¬ (p &&& (3 : Int32)) = (1 : Int32)) : ¬ (p &&& (3 : Int32)) < (2 : Int32) := by
  have := c_mask p (3 : Int32) 2 (by decide) (by decide)
  rw [Int32.lt_iff_toInt_lt]
  rw [← Int32.toInt_inj] at h0 h1
  have z0 : (0 : Int32).toInt = 0 := by decide
  have z1 : (1 : Int32).toInt = 1 := by decide
  have z2 : (2 : Int32).toInt = 2 := by decide
  omega
theorem pd_2 : parseMethodDescriptor "(DLcom/example/cohortbench/cohortbench/model/Incarnation;IILcom/example/cohortbench/cohortbench/model/Incarnation;)Lcom/example/cohortbench/cohortbench/model/HistoryRecord;" = some ⟨[.double, (.object "com/example/cohortbench/cohortbench/model/Incarnation"), .int, .int, (.object "com/example/cohortbench/cohortbench/model/Incarnation")], some (.object "com/example/cohortbench/cohortbench/model/HistoryRecord")⟩ := by decide +kernel
theorem pd_3 : parseMethodDescriptor "()Lcom/example/cohortbench/cohortbench/model/HistoryRecord$Op;" = some ⟨[], some (.object "com/example/cohortbench/cohortbench/model/HistoryRecord$Op")⟩ := by decide +kernel
theorem pd_4 : parseMethodDescriptor "()Z" = some ⟨[], some .boolean⟩ := by decide +kernel
theorem pd_5 : parseMethodDescriptor "()I" = some ⟨[], some .int⟩ := by decide +kernel
theorem pd_6 : parseMethodDescriptor "(DLcom/example/cohortbench/cohortbench/model/Incarnation;II)Lcom/example/cohortbench/cohortbench/model/HistoryRecord;" = some ⟨[.double, (.object "com/example/cohortbench/cohortbench/model/Incarnation"), .int, .int], some (.object "com/example/cohortbench/cohortbench/model/HistoryRecord")⟩ := by decide +kernel
theorem pd_7 : parseMethodDescriptor "(DLcom/example/cohortbench/cohortbench/model/Incarnation;Lcom/example/cohortbench/cohortbench/model/HistoryRecord$Op;I)Lcom/example/cohortbench/cohortbench/model/HistoryRecord;" = some ⟨[.double, (.object "com/example/cohortbench/cohortbench/model/Incarnation"), (.object "com/example/cohortbench/cohortbench/model/HistoryRecord$Op"), .int], some (.object "com/example/cohortbench/cohortbench/model/HistoryRecord")⟩ := by decide +kernel
theorem pn_3 : plainName "com/example/cohortbench/cohortbench/model/OpTouchesItemPinLaw" = true := by first | (simp [plainName, overriddenIn]; done) | decide +kernel
theorem ef_0 (m : MethodId) (p0 : Int32) (p1 : Int32) (p2 : Int32) : entryFrame m #[(.int p0), (.int p1), (.int p2)] maxLocals = mkF m 0 #[.val (.int p0), .val (.int p1), .val (.int p2), .unset, .unset, .unset, .unset, .unset, .unset] [] := by first | (simp [entryFrame, mkF, argsToLocals, Value.category, maxLocals]; done) | rfl
def Q0 (Z : State) (p0 : Int32) (p1 : Int32) (p2 : Int32) (s_HistoryRecord_Op_READ : Addr) (s_HistoryRecord_Op_WRITE : Addr) (s_HistoryRecord_Op_COMMIT : Addr) (s_HistoryRecord_Op_ABORT : Addr) (h0 : Heap) (n0 : Nat) (v : Option Value) (h : Heap) (L : List Loc) : Prop := v = some (.int 1) ∧ Fr n0 L
set_option maxRecDepth 65536 in
set_option maxHeartbeats 40000000 in
theorem rm0 (l : Launch) (Z : State) (aV : Array Value) (hw : ∀ d ∈ tables_1, d.before aV Z = true) (ws : List Jvm.Cond) (p0 : Int32) (p1 : Int32) (p2 : Int32) (s_HistoryRecord_Op_READ : Addr) (s_HistoryRecord_Op_WRITE : Addr) (s_HistoryRecord_Op_COMMIT : Addr) (s_HistoryRecord_Op_ABORT : Addr) (h0 : Heap) (n0 : Nat) (Zn : n0 ≤ h0.size) (S_s_HistoryRecord_Op_READ : Sta Z h0 "com/example/cohortbench/cohortbench/model/HistoryRecord$Op" "READ" "Lcom/example/cohortbench/cohortbench/model/HistoryRecord$Op;" (.ref s_HistoryRecord_Op_READ)) (S_s_HistoryRecord_Op_WRITE : Sta Z h0 "com/example/cohortbench/cohortbench/model/HistoryRecord$Op" "WRITE" "Lcom/example/cohortbench/cohortbench/model/HistoryRecord$Op;" (.ref s_HistoryRecord_Op_WRITE)) (S_s_HistoryRecord_Op_COMMIT : Sta Z h0 "com/example/cohortbench/cohortbench/model/HistoryRecord$Op" "COMMIT" "Lcom/example/cohortbench/cohortbench/model/HistoryRecord$Op;" (.ref s_HistoryRecord_Op_COMMIT)) (S_s_HistoryRecord_Op_ABORT : Sta Z h0 "com/example/cohortbench/cohortbench/model/HistoryRecord$Op" "ABORT" "Lcom/example/cohortbench/cohortbench/model/HistoryRecord$Op;" (.ref s_HistoryRecord_Op_ABORT)) (E_s_HistoryRecord_Op_READ : Exa Z h0 s_HistoryRecord_Op_READ "com/example/cohortbench/cohortbench/model/HistoryRecord$Op") (E_s_HistoryRecord_Op_WRITE : Exa Z h0 s_HistoryRecord_Op_WRITE "com/example/cohortbench/cohortbench/model/HistoryRecord$Op") (E_s_HistoryRecord_Op_COMMIT : Exa Z h0 s_HistoryRecord_Op_COMMIT "com/example/cohortbench/cohortbench/model/HistoryRecord$Op") (E_s_HistoryRecord_Op_ABORT : Exa Z h0 s_HistoryRecord_Op_ABORT "com/example/cohortbench/cohortbench/model/HistoryRecord$Op") (hneRW : s_HistoryRecord_Op_READ ≠ s_HistoryRecord_Op_WRITE) (hneCR : s_HistoryRecord_Op_COMMIT ≠ s_HistoryRecord_Op_READ) (hneCW : s_HistoryRecord_Op_COMMIT ≠ s_HistoryRecord_Op_WRITE) (hneAR : s_HistoryRecord_Op_ABORT ≠ s_HistoryRecord_Op_READ) (hneAW : s_HistoryRecord_Op_ABORT ≠ s_HistoryRecord_Op_WRITE) :
    MetFree l x (head1 (Jvm.Cond.code x code maxLocals ret :: ws) room_1) (fun a U => a = #[(.int p0), (.int p1), (.int p2)] ∧ Z.Warmed39 U.vm ∧ U.heap = h0) (fun _ _ _ _ _ => True) (fun _ U o U' => ∃ v L, o = .returned v ∧ Q0 Z p0 p1 p2 s_HistoryRecord_Op_READ s_HistoryRecord_Op_WRITE s_HistoryRecord_Op_COMMIT s_HistoryRecord_Op_ABORT h0 n0 v U'.heap L ∧ FrameEnd U o U' L room_1.cells room_1.slots) := by
  refine MetFree.of_bodySF (plainFor_of_name pn_3) hisR ?_
  intro p e s m args below meth c s₁ Bd hml0 hP hK
  obtain ⟨rfl, hZ, hh⟩ := hP
  have hx := Bd.exec
  have hby := Bd.bytes
  have hml : c.maxLocals = 9 := hml0
  have hown : s.vm.findClass "com/example/cohortbench/cohortbench/model/OpTouchesItemPinLaw" = some m.cls := findClass_of_methodNamed Bd.named
  have hnm := (name_of_methodNamed Bd.named Bd.method).1
  have X0 : Stand p l e room_1 s m #[(.int p0), (.int p1), (.int p2)] below meth c s₁ [] 0 0 := Stand.of_body Bd
  have e0 : s₁.heap = h0 := by rw [← hh, Bd.state]; rfl
  have N0 := Fr.nil n0
  have Kp := Keep.refl h0 []
  show Run p e below (Ends s (Q0 Z p0 p1 p2 s_HistoryRecord_Op_READ s_HistoryRecord_Op_WRITE s_HistoryRecord_Op_COMMIT s_HistoryRecord_Op_ABORT h0 n0) room_1.cells room_1.slots) _
  refine Run.st (S' := s₁.setTop (mkF m 0 #[.val (.int p0), .val (.int p1), .val (.int p2), .unset, .unset, .unset, .unset, .unset, .unset] [])) (fun t k => castTop (ef_0 m p0 p1 p2) k) ?_
  refine Run.st (S' := s₁.setTop (mkF m 10 #[.val (.int p0), .val (.int p1), .val (.int p2), .val (.int (p0 &&& (3 : Int32))), .val (.int (p1 &&& (2147483647 : Int32))), .unset, .unset, .unset, .unset] [])) (fun _ k => XS.iloadN X0.here hx rfl (hb hby at_0) rfl (XS.iconst X0.here hx rfl (hb hby at_1) (XS.iand X0.here hx rfl (hb hby at_2) rfl (XS.istoreN X0.here hx rfl (hb hby at_3) rfl (l' := #[.val (.int p0), .val (.int p1), .val (.int p2), .val (.int (p0 &&& (3 : Int32))), .unset, .unset, .unset, .unset, .unset]) rfl (XS.iloadN X0.here hx rfl (hb hby at_4) rfl (X0.ldcInt hx hown (mvT hZ (hw _ (List.mem_of_getElem? (i := 0) rfl))) (g := (mkF m 5 #[.val (.int p0), .val (.int p1), .val (.int p2), .val (.int (p0 &&& (3 : Int32))), .unset, .unset, .unset, .unset, .unset] [(.int p1)])) rfl (hb hby at_5) _ (XS.iand X0.here hx rfl (hb hby at_7) rfl (XS.istore X0.here hx rfl (hb hby at_8) rfl (l' := #[.val (.int p0), .val (.int p1), .val (.int p2), .val (.int (p0 &&& (3 : Int32))), .val (.int (p1 &&& (2147483647 : Int32))), .unset, .unset, .unset, .unset]) rfl k)))))))) ?_
  refine Run.st (S' := s₁.setTop (mkF m 11 #[.val (.int p0), .val (.int p1), .val (.int p2), .val (.int (p0 &&& (3 : Int32))), .val (.int (p1 &&& (2147483647 : Int32))), .unset, .unset, .unset, .unset] [(.int (p0 &&& (3 : Int32)))])) (fun _ k => XS.iloadN X0.here hx rfl (hb hby at_10) rfl k) ?_
  by_cases hc11_1 : (p0 &&& (3 : Int32)) = (0 : Int32)
  · refine Run.st (S' := s₁.setTop (mkF m 20 #[.val (.int p0), .val (.int p1), .val (.int p2), .val (.int (p0 &&& (3 : Int32))), .val (.int (p1 &&& (2147483647 : Int32))), .unset, .unset, .unset, .unset] [.null, (.int (p1 &&& (2147483647 : Int32))), (.int p2), .null, (.double FP.dconst0)])) (fun _ k => XS.ifNo X0.here hx rfl (hb hby at_11) rfl ((if0 _ _).trans (teq hc11_1).2) (XS.dconst0 X0.here hx rfl (hb hby at_14) rfl (XS.aconstNull X0.here hx rfl (hb hby at_15) (XS.iloadN X0.here hx rfl (hb hby at_16) rfl (XS.iload X0.here hx rfl (hb hby at_17) rfl (XS.aconstNull X0.here hx rfl (hb hby at_19) k)))))) ?_
    obtain ⟨_, _, ⟨T2, L2, k2, n2⟩, -, X2, ⟨Lc2, hQ2, l2, y2, z2⟩, st2⟩ := Jvm.LawKit.callS X0 hx (y := (⟨"com/example/cohortbench/cohortbench/model/HistoryRecord", "read", "(DLcom/example/cohortbench/cohortbench/model/Incarnation;IILcom/example/cohortbench/cohortbench/model/Incarnation;)Lcom/example/cohortbench/cohortbench/model/HistoryRecord;"⟩ : MethodName)) hown (mvT hZ (hw _ (List.mem_of_getElem? (i := 1) rfl))) (mvT hZ (hw _ (List.mem_of_getElem? (i := 2) rfl))) (mvT hZ (hw _ (List.mem_of_getElem? (i := 3) rfl))) (mvT hZ (hw _ (List.mem_of_getElem? (i := 4) rfl))) (by decide) (backOf (W := 0) (rmRead l Z aV hw [] FP.dconst0 p2 (p1 &&& (2147483647 : Int32)) s_HistoryRecord_Op_READ h0 n0 Zn S_s_HistoryRecord_Op_READ) hZ (hw _ (List.mem_of_getElem? (i := 4) rfl)) (hw _ (List.mem_of_getElem? (i := 3) rfl)) (by decide) (by decide)) (g := (mkF m 20 #[.val (.int p0), .val (.int p1), .val (.int p2), .val (.int (p0 &&& (3 : Int32))), .val (.int (p1 &&& (2147483647 : Int32))), .unset, .unset, .unset, .unset] [.null, (.int (p1 &&& (2147483647 : Int32))), (.int p2), .null, (.double FP.dconst0)])) rfl (by rw [hml]; rfl) (argsL := [(.double FP.dconst0), .null, (.int p2), (.int (p1 &&& (2147483647 : Int32))), .null]) (rest := []) (lenOf pd_2 rfl) rfl (by show 2 * 0 + _ ≤ _; exact Nat.le_of_eq rfl) (hb hby at_20) (fun _ _ => ⟨rfl, e0, (by decide : 0 + 1 ≤ _), (by decide : 0 + 6 ≤ _)⟩)
    dsimp only [Pt.U, Pt.locs, Pt.cells, Pt.slots] at X2 l2 y2 z2 st2 hQ2
    subst l2 y2 z2
    obtain ⟨b2, rfl, N2q, K2, g_b2, z_b2, q2_0, q2_1, q2_2, q2_3, q2_4, q2_5, q2_6⟩ := hQ2
    have ne_s_HistoryRecord_Op_READ_b2 : s_HistoryRecord_Op_READ ≠ b2 := Nat.ne_of_lt (Nat.lt_of_lt_of_le E_s_HistoryRecord_Op_READ.lt z_b2)
    have ne_s_HistoryRecord_Op_WRITE_b2 : s_HistoryRecord_Op_WRITE ≠ b2 := Nat.ne_of_lt (Nat.lt_of_lt_of_le E_s_HistoryRecord_Op_WRITE.lt z_b2)
    have ne_s_HistoryRecord_Op_COMMIT_b2 : s_HistoryRecord_Op_COMMIT ≠ b2 := Nat.ne_of_lt (Nat.lt_of_lt_of_le E_s_HistoryRecord_Op_COMMIT.lt z_b2)
    have ne_s_HistoryRecord_Op_ABORT_b2 : s_HistoryRecord_Op_ABORT ≠ b2 := Nat.ne_of_lt (Nat.lt_of_lt_of_le E_s_HistoryRecord_Op_ABORT.lt z_b2)
    have sz_b2 : h0.size ≤ b2 := Nat.le_trans Kp.1 z_b2
    have S_s_HistoryRecord_Op_READ := staK S_s_HistoryRecord_Op_READ K2 all0
    have S_s_HistoryRecord_Op_WRITE := staK S_s_HistoryRecord_Op_WRITE K2 all0
    have S_s_HistoryRecord_Op_COMMIT := staK S_s_HistoryRecord_Op_COMMIT K2 all0
    have S_s_HistoryRecord_Op_ABORT := staK S_s_HistoryRecord_Op_ABORT K2 all0
    have E_s_HistoryRecord_Op_READ := E_s_HistoryRecord_Op_READ.keep K2
    have E_s_HistoryRecord_Op_WRITE := E_s_HistoryRecord_Op_WRITE.keep K2
    have E_s_HistoryRecord_Op_COMMIT := E_s_HistoryRecord_Op_COMMIT.keep K2
    have E_s_HistoryRecord_Op_ABORT := E_s_HistoryRecord_Op_ABORT.keep K2
    have E_b2 := q2_0
    have F_timeMs_b2 := q2_1
    have F_unit_b2 := q2_2
    have F_op_b2 := q2_3
    have F_site_b2 := q2_4
    have F_item_b2 := q2_5
    have F_from_b2 := q2_6
    have Kp := Kp.trans K2 all0
    have Zn := Nat.le_trans Zn K2.1
    have N2 := Fr.app N0 N2q
    refine Run.st (S' := T2.setTop (mkF m 78 #[.val (.int p0), .val (.int p1), .val (.int p2), .val (.int (p0 &&& (3 : Int32))), .val (.int (p1 &&& (2147483647 : Int32))), .val (.ref b2), .unset, .unset, .unset] [(.ref b2)])) (fun _ k => st2 _ (XS.astore X2.here hx rfl (hb hby at_23) rfl rfl (l' := #[.val (.int p0), .val (.int p1), .val (.int p2), .val (.int (p0 &&& (3 : Int32))), .val (.int (p1 &&& (2147483647 : Int32))), .val (.ref b2), .unset, .unset, .unset]) rfl (XS.goto X2.here hx rfl (pc0 := 25) (pc' := 76) rfl (hb hby at_25) (by decide) (by decide) (XS.aload X2.here hx rfl (hb hby at_76) rfl rfl k)))) ?_
    obtain ⟨cq3, kq3, q3a, q3b, q3c⟩ := isOf hZ rfl E_b2
    obtain ⟨_, _, ⟨T3, L3, k3, n3⟩, -, X3, ⟨Lc3, hQ3, l3, y3, z3⟩, st3⟩ := X2.virtualBack hx (y := (⟨"com/example/cohortbench/cohortbench/model/HistoryRecord", "op", "()Lcom/example/cohortbench/cohortbench/model/HistoryRecord$Op;"⟩ : MethodName)) (z := (⟨"com/example/cohortbench/cohortbench/model/HistoryRecord", "op", "()Lcom/example/cohortbench/cohortbench/model/HistoryRecord$Op;"⟩ : MethodName)) hown (mvT hZ (hw _ (List.mem_of_getElem? (i := 33) rfl))) (mvT hZ (hw _ (List.mem_of_getElem? (i := 34) rfl))) (notFace_of_selects (args := #[]) (mvT hZ (hw _ (List.mem_of_getElem? (i := 36) rfl)))) (mvT hZ (hw _ (List.mem_of_getElem? (i := 36) rfl))) (mvT hZ (hw _ (List.mem_of_getElem? (i := 35) rfl))) (by decide) (backOf (W := 0) (rmOp l Z aV hw [] b2 s_HistoryRecord_Op_READ T2.heap n0 Zn F_op_b2) hZ (hw _ (List.mem_of_getElem? (i := 37) rfl)) (hw _ (List.mem_of_getElem? (i := 3) rfl)) (by decide) (by decide)) q3a q3c (g := (mkF m 78 #[.val (.int p0), .val (.int p1), .val (.int p2), .val (.int (p0 &&& (3 : Int32))), .val (.int (p1 &&& (2147483647 : Int32))), .val (.ref b2), .unset, .unset, .unset] [(.ref b2)])) rfl (by rw [hml]; rfl) (Steps.refl _) (argsL := []) (rest := []) (lenOf pd_3 rfl) rfl (by show 2 * 0 + _ ≤ _; exact Nat.le_of_eq rfl) (hb hby at_78) (fun _ _ => ⟨rfl, rfl, (by decide : 1 + 0 ≤ _), (by decide : 6 + 0 ≤ _)⟩)
    dsimp only [Pt.U, Pt.locs, Pt.cells, Pt.slots] at X3 l3 y3 z3 st3 hQ3
    subst l3 y3 z3
    obtain ⟨rfl, N3q, e3⟩ := hQ3
    have N3 := Fr.app N2 N3q
    refine Run.st (S' := T3.setTop (mkF m 81 #[.val (.int p0), .val (.int p1), .val (.int p2), .val (.int (p0 &&& (3 : Int32))), .val (.int (p1 &&& (2147483647 : Int32))), .val (.ref b2), .unset, .unset, .unset] [(.ref s_HistoryRecord_Op_READ)])) (fun _ k => st3.trans k) ?_
    obtain ⟨cq4, kq4, q4a, q4b, q4c⟩ := isOf hZ e3 E_s_HistoryRecord_Op_READ
    obtain ⟨_, _, ⟨T4, L4, k4, n4⟩, -, X4, ⟨Lc4, hQ4, l4, y4, z4⟩, st4⟩ := X3.virtualBack hx (y := (⟨"com/example/cohortbench/cohortbench/model/HistoryRecord$Op", "touchesItem", "()Z"⟩ : MethodName)) (z := (⟨"com/example/cohortbench/cohortbench/model/HistoryRecord$Op", "touchesItem", "()Z"⟩ : MethodName)) hown (mvT hZ (hw _ (List.mem_of_getElem? (i := 38) rfl))) (mvT hZ (hw _ (List.mem_of_getElem? (i := 39) rfl))) (notFace_of_selects (args := #[]) (mvT hZ (hw _ (List.mem_of_getElem? (i := 41) rfl)))) (mvT hZ (hw _ (List.mem_of_getElem? (i := 41) rfl))) (mvT hZ (hw _ (List.mem_of_getElem? (i := 40) rfl))) (by decide) (backOf (W := 0) (rmTou l Z aV hw [] s_HistoryRecord_Op_READ s_HistoryRecord_Op_READ s_HistoryRecord_Op_WRITE T2.heap n0 Zn S_s_HistoryRecord_Op_READ S_s_HistoryRecord_Op_WRITE) hZ (hw _ (List.mem_of_getElem? (i := 42) rfl)) (hw _ (List.mem_of_getElem? (i := 8) rfl)) (by decide) (by decide)) q4a q4c (g := (mkF m 81 #[.val (.int p0), .val (.int p1), .val (.int p2), .val (.int (p0 &&& (3 : Int32))), .val (.int (p1 &&& (2147483647 : Int32))), .val (.ref b2), .unset, .unset, .unset] [(.ref s_HistoryRecord_Op_READ)])) rfl (by rw [hml]; rfl) (Steps.refl _) (argsL := []) (rest := []) (lenOf pd_4 rfl) rfl (by show 2 * 0 + _ ≤ _; exact Nat.le_of_eq rfl) (hb hby at_81) (fun _ _ => ⟨rfl, e3, (by decide : 1 + 0 ≤ _), (by decide : 6 + 0 ≤ _)⟩)
    dsimp only [Pt.U, Pt.locs, Pt.cells, Pt.slots] at X4 l4 y4 z4 st4 hQ4
    subst l4 y4 z4
    obtain ⟨rfl, N4q, e4⟩ := hQ4
    have N4 := Fr.app N3 N4q
    have hv4 : (FTou s_HistoryRecord_Op_READ s_HistoryRecord_Op_READ s_HistoryRecord_Op_WRITE) = (1 : Int32) := by unfold FTou; simp [hneRW, hneCR, hneCW, hneAR, hneAW, Ne.symm hneRW]
    refine Run.st (S' := T4.setTop (mkF m 98 #[.val (.int p0), .val (.int p1), .val (.int p2), .val (.int (p0 &&& (3 : Int32))), .val (.int (p1 &&& (2147483647 : Int32))), .val (.ref b2), .val (.int (FTou s_HistoryRecord_Op_READ s_HistoryRecord_Op_READ s_HistoryRecord_Op_WRITE)), .val (.int (1 : Int32)), .unset] [])) (fun _ k => st4.trans (XS.istore X4.here hx rfl (hb hby at_84) rfl (l' := #[.val (.int p0), .val (.int p1), .val (.int p2), .val (.int (p0 &&& (3 : Int32))), .val (.int (p1 &&& (2147483647 : Int32))), .val (.ref b2), .val (.int (FTou s_HistoryRecord_Op_READ s_HistoryRecord_Op_READ s_HistoryRecord_Op_WRITE)), .unset, .unset]) rfl (XS.iloadN X4.here hx rfl (hb hby at_86) rfl (XS.iconst X4.here hx rfl (hb hby at_87) (XS.icmpNo X4.here hx rfl (hb hby at_88) rfl (tlt (show (p0 &&& (3 : Int32)) < (2 : Int32) from (by rw [hc11_1]; decide))).2.1 (XS.iconst X4.here hx rfl (hb hby at_91) (XS.goto X4.here hx rfl (pc0 := 92) (pc' := 96) rfl (hb hby at_92) (by decide) (by decide) (XS.istore X4.here hx rfl (hb hby at_96) rfl (l' := #[.val (.int p0), .val (.int p1), .val (.int p2), .val (.int (p0 &&& (3 : Int32))), .val (.int (p1 &&& (2147483647 : Int32))), .val (.ref b2), .val (.int (FTou s_HistoryRecord_Op_READ s_HistoryRecord_Op_READ s_HistoryRecord_Op_WRITE)), .val (.int (1 : Int32)), .unset]) rfl k)))))))) ?_
    refine Run.st (S' := T4.setTop (mkF m 100 #[.val (.int p0), .val (.int p1), .val (.int p2), .val (.int (p0 &&& (3 : Int32))), .val (.int (p1 &&& (2147483647 : Int32))), .val (.ref b2), .val (.int (FTou s_HistoryRecord_Op_READ s_HistoryRecord_Op_READ s_HistoryRecord_Op_WRITE)), .val (.int (1 : Int32)), .unset] [(.ref b2)])) (fun _ k => XS.aload X4.here hx rfl (hb hby at_98) rfl rfl k) ?_
    obtain ⟨cq5, kq5, q5a, q5b, q5c⟩ := isOf hZ e4 E_b2
    obtain ⟨_, _, ⟨T5, L5, k5, n5⟩, -, X5, ⟨Lc5, hQ5, l5, y5, z5⟩, st5⟩ := X4.virtualBack hx (y := (⟨"com/example/cohortbench/cohortbench/model/HistoryRecord", "item", "()I"⟩ : MethodName)) (z := (⟨"com/example/cohortbench/cohortbench/model/HistoryRecord", "item", "()I"⟩ : MethodName)) hown (mvT hZ (hw _ (List.mem_of_getElem? (i := 44) rfl))) (mvT hZ (hw _ (List.mem_of_getElem? (i := 45) rfl))) (notFace_of_selects (args := #[]) (mvT hZ (hw _ (List.mem_of_getElem? (i := 47) rfl)))) (mvT hZ (hw _ (List.mem_of_getElem? (i := 47) rfl))) (mvT hZ (hw _ (List.mem_of_getElem? (i := 46) rfl))) (by decide) (backOf (W := 0) (rmItem l Z aV hw [] b2 (p1 &&& (2147483647 : Int32)) T2.heap n0 Zn F_item_b2) hZ (hw _ (List.mem_of_getElem? (i := 48) rfl)) (hw _ (List.mem_of_getElem? (i := 3) rfl)) (by decide) (by decide)) q5a q5c (g := (mkF m 100 #[.val (.int p0), .val (.int p1), .val (.int p2), .val (.int (p0 &&& (3 : Int32))), .val (.int (p1 &&& (2147483647 : Int32))), .val (.ref b2), .val (.int (FTou s_HistoryRecord_Op_READ s_HistoryRecord_Op_READ s_HistoryRecord_Op_WRITE)), .val (.int (1 : Int32)), .unset] [(.ref b2)])) rfl (by rw [hml]; rfl) (Steps.refl _) (argsL := []) (rest := []) (lenOf pd_5 rfl) rfl (by show 2 * 0 + _ ≤ _; exact Nat.le_of_eq rfl) (hb hby at_100) (fun _ _ => ⟨rfl, e4, (by decide : 1 + 0 ≤ _), (by decide : 6 + 0 ≤ _)⟩)
    dsimp only [Pt.U, Pt.locs, Pt.cells, Pt.slots] at X5 l5 y5 z5 st5 hQ5
    subst l5 y5 z5
    obtain ⟨rfl, N5q, e5⟩ := hQ5
    have N5 := Fr.app N4 N5q
    refine Run.st (S' := T5.setTop (mkF m 118 #[.val (.int p0), .val (.int p1), .val (.int p2), .val (.int (p0 &&& (3 : Int32))), .val (.int (p1 &&& (2147483647 : Int32))), .val (.ref b2), .val (.int (FTou s_HistoryRecord_Op_READ s_HistoryRecord_Op_READ s_HistoryRecord_Op_WRITE)), .val (.int (1 : Int32)), .val (.int (1 : Int32))] [(.int (1 : Int32)), (.int (FTou s_HistoryRecord_Op_READ s_HistoryRecord_Op_READ s_HistoryRecord_Op_WRITE))])) (fun _ k => st5.trans (XS.iconst X5.here hx rfl (hb hby at_103) (XS.icmpNo X5.here hx rfl (hb hby at_104) rfl (feq (show ¬ ((p1 &&& (2147483647 : Int32)) = (-1 : Int32)) from (by have := rng32 (p1 &&& (2147483647 : Int32)); have := c_mask p1 (2147483647 : Int32) 31 (by decide) (by decide); have := rng32 p1; have := (by decide : ((-1 : Int32)).toInt = -1); (try simp only [Int32.lt_iff_toInt_lt, Int64.lt_iff_toInt_lt, Int32.le_iff_toInt_le, Int64.le_iff_toInt_le, ← Int32.toInt_inj, ← Int64.toInt_inj] at  ⊢); omega))).1 (XS.iconst X5.here hx rfl (hb hby at_107) (XS.goto X5.here hx rfl (pc0 := 108) (pc' := 112) rfl (hb hby at_108) (by decide) (by decide) (XS.istore X5.here hx rfl (hb hby at_112) rfl (l' := #[.val (.int p0), .val (.int p1), .val (.int p2), .val (.int (p0 &&& (3 : Int32))), .val (.int (p1 &&& (2147483647 : Int32))), .val (.ref b2), .val (.int (FTou s_HistoryRecord_Op_READ s_HistoryRecord_Op_READ s_HistoryRecord_Op_WRITE)), .val (.int (1 : Int32)), .val (.int (1 : Int32))]) rfl (XS.iload X5.here hx rfl (hb hby at_114) rfl (XS.iload X5.here hx rfl (hb hby at_116) rfl k)))))))) ?_
    refine Run.st (S' := T5.setTop (mkF m 133 #[.val (.int p0), .val (.int p1), .val (.int p2), .val (.int (p0 &&& (3 : Int32))), .val (.int (p1 &&& (2147483647 : Int32))), .val (.ref b2), .val (.int (FTou s_HistoryRecord_Op_READ s_HistoryRecord_Op_READ s_HistoryRecord_Op_WRITE)), .val (.int (1 : Int32)), .val (.int (1 : Int32))] [(.int (1 : Int32))])) (fun _ k => XS.icmpNo X5.here hx rfl (hb hby at_118) rfl (teq (show (FTou s_HistoryRecord_Op_READ s_HistoryRecord_Op_READ s_HistoryRecord_Op_WRITE) = (1 : Int32) from hv4)).2 (XS.iload X5.here hx rfl (hb hby at_121) rfl (XS.iload X5.here hx rfl (hb hby at_123) rfl (XS.icmpNo X5.here hx rfl (hb hby at_125) rfl (teq (show (FTou s_HistoryRecord_Op_READ s_HistoryRecord_Op_READ s_HistoryRecord_Op_WRITE) = (1 : Int32) from hv4)).2 (XS.iconst X5.here hx rfl (hb hby at_128) (XS.goto X5.here hx rfl (pc0 := 129) (pc' := 133) rfl (hb hby at_129) (by decide) (by decide) k)))))) ?_
    refine Run.out X5 hx Bd.notSynchronized Bd.returns rfl (Or.inl ⟨rfl, by simp, _, rfl⟩) (hb hby at_133) (by decide) (by decide) ?_
    rw [e5]
    exact ⟨rfl, N5⟩
  · refine Run.st (S' := s₁.setTop (mkF m 30 #[.val (.int p0), .val (.int p1), .val (.int p2), .val (.int (p0 &&& (3 : Int32))), .val (.int (p1 &&& (2147483647 : Int32))), .unset, .unset, .unset, .unset] [(.int (1 : Int32)), (.int (p0 &&& (3 : Int32)))])) (fun _ k => XS.ifYes X0.here hx rfl (pc0 := 11) (pc' := 28) rfl (hb hby at_11) rfl ((if0 _ _).trans (feq hc11_1).2) (by decide) (by decide) (XS.iloadN X0.here hx rfl (hb hby at_28) rfl (XS.iconst X0.here hx rfl (hb hby at_29) k))) ?_
    by_cases hc30_6 : (p0 &&& (3 : Int32)) = (1 : Int32)
    · refine Run.st (S' := s₁.setTop (mkF m 38 #[.val (.int p0), .val (.int p1), .val (.int p2), .val (.int (p0 &&& (3 : Int32))), .val (.int (p1 &&& (2147483647 : Int32))), .unset, .unset, .unset, .unset] [(.int (p1 &&& (2147483647 : Int32))), (.int p2), .null, (.double FP.dconst0)])) (fun _ k => XS.icmpNo X0.here hx rfl (hb hby at_30) rfl (teq hc30_6).2 (XS.dconst0 X0.here hx rfl (hb hby at_33) rfl (XS.aconstNull X0.here hx rfl (hb hby at_34) (XS.iloadN X0.here hx rfl (hb hby at_35) rfl (XS.iload X0.here hx rfl (hb hby at_36) rfl k))))) ?_
      obtain ⟨_, _, ⟨T7, L7, k7, n7⟩, -, X7, ⟨Lc7, hQ7, l7, y7, z7⟩, st7⟩ := Jvm.LawKit.callS X0 hx (y := (⟨"com/example/cohortbench/cohortbench/model/HistoryRecord", "write", "(DLcom/example/cohortbench/cohortbench/model/Incarnation;II)Lcom/example/cohortbench/cohortbench/model/HistoryRecord;"⟩ : MethodName)) hown (mvT hZ (hw _ (List.mem_of_getElem? (i := 49) rfl))) (mvT hZ (hw _ (List.mem_of_getElem? (i := 50) rfl))) (mvT hZ (hw _ (List.mem_of_getElem? (i := 3) rfl))) (mvT hZ (hw _ (List.mem_of_getElem? (i := 51) rfl))) (by decide) (backOf (W := 0) (rmWrite l Z aV hw [] FP.dconst0 p2 (p1 &&& (2147483647 : Int32)) s_HistoryRecord_Op_WRITE h0 n0 Zn S_s_HistoryRecord_Op_WRITE) hZ (hw _ (List.mem_of_getElem? (i := 51) rfl)) (hw _ (List.mem_of_getElem? (i := 3) rfl)) (by decide) (by decide)) (g := (mkF m 38 #[.val (.int p0), .val (.int p1), .val (.int p2), .val (.int (p0 &&& (3 : Int32))), .val (.int (p1 &&& (2147483647 : Int32))), .unset, .unset, .unset, .unset] [(.int (p1 &&& (2147483647 : Int32))), (.int p2), .null, (.double FP.dconst0)])) rfl (by rw [hml]; rfl) (argsL := [(.double FP.dconst0), .null, (.int p2), (.int (p1 &&& (2147483647 : Int32)))]) (rest := []) (lenOf pd_6 rfl) rfl (by show 2 * 0 + _ ≤ _; exact Nat.le_of_eq rfl) (hb hby at_38) (fun _ _ => ⟨rfl, e0, (by decide : 0 + 1 ≤ _), (by decide : 0 + 6 ≤ _)⟩)
      dsimp only [Pt.U, Pt.locs, Pt.cells, Pt.slots] at X7 l7 y7 z7 st7 hQ7
      subst l7 y7 z7
      obtain ⟨b7, rfl, N7q, K7, g_b7, z_b7, q7_0, q7_1, q7_2, q7_3, q7_4, q7_5, q7_6⟩ := hQ7
      have ne_s_HistoryRecord_Op_READ_b7 : s_HistoryRecord_Op_READ ≠ b7 := Nat.ne_of_lt (Nat.lt_of_lt_of_le E_s_HistoryRecord_Op_READ.lt z_b7)
      have ne_s_HistoryRecord_Op_WRITE_b7 : s_HistoryRecord_Op_WRITE ≠ b7 := Nat.ne_of_lt (Nat.lt_of_lt_of_le E_s_HistoryRecord_Op_WRITE.lt z_b7)
      have ne_s_HistoryRecord_Op_COMMIT_b7 : s_HistoryRecord_Op_COMMIT ≠ b7 := Nat.ne_of_lt (Nat.lt_of_lt_of_le E_s_HistoryRecord_Op_COMMIT.lt z_b7)
      have ne_s_HistoryRecord_Op_ABORT_b7 : s_HistoryRecord_Op_ABORT ≠ b7 := Nat.ne_of_lt (Nat.lt_of_lt_of_le E_s_HistoryRecord_Op_ABORT.lt z_b7)
      have sz_b7 : h0.size ≤ b7 := Nat.le_trans Kp.1 z_b7
      have S_s_HistoryRecord_Op_READ := staK S_s_HistoryRecord_Op_READ K7 all0
      have S_s_HistoryRecord_Op_WRITE := staK S_s_HistoryRecord_Op_WRITE K7 all0
      have S_s_HistoryRecord_Op_COMMIT := staK S_s_HistoryRecord_Op_COMMIT K7 all0
      have S_s_HistoryRecord_Op_ABORT := staK S_s_HistoryRecord_Op_ABORT K7 all0
      have E_s_HistoryRecord_Op_READ := E_s_HistoryRecord_Op_READ.keep K7
      have E_s_HistoryRecord_Op_WRITE := E_s_HistoryRecord_Op_WRITE.keep K7
      have E_s_HistoryRecord_Op_COMMIT := E_s_HistoryRecord_Op_COMMIT.keep K7
      have E_s_HistoryRecord_Op_ABORT := E_s_HistoryRecord_Op_ABORT.keep K7
      have E_b7 := q7_0
      have F_timeMs_b7 := q7_1
      have F_unit_b7 := q7_2
      have F_op_b7 := q7_3
      have F_site_b7 := q7_4
      have F_item_b7 := q7_5
      have F_from_b7 := q7_6
      have Kp := Kp.trans K7 all0
      have Zn := Nat.le_trans Zn K7.1
      have N7 := Fr.app N0 N7q
      refine Run.st (S' := T7.setTop (mkF m 78 #[.val (.int p0), .val (.int p1), .val (.int p2), .val (.int (p0 &&& (3 : Int32))), .val (.int (p1 &&& (2147483647 : Int32))), .val (.ref b7), .unset, .unset, .unset] [(.ref b7)])) (fun _ k => st7 _ (XS.astore X7.here hx rfl (hb hby at_41) rfl rfl (l' := #[.val (.int p0), .val (.int p1), .val (.int p2), .val (.int (p0 &&& (3 : Int32))), .val (.int (p1 &&& (2147483647 : Int32))), .val (.ref b7), .unset, .unset, .unset]) rfl (XS.goto X7.here hx rfl (pc0 := 43) (pc' := 76) rfl (hb hby at_43) (by decide) (by decide) (XS.aload X7.here hx rfl (hb hby at_76) rfl rfl k)))) ?_
      obtain ⟨cq8, kq8, q8a, q8b, q8c⟩ := isOf hZ rfl E_b7
      obtain ⟨_, _, ⟨T8, L8, k8, n8⟩, -, X8, ⟨Lc8, hQ8, l8, y8, z8⟩, st8⟩ := X7.virtualBack hx (y := (⟨"com/example/cohortbench/cohortbench/model/HistoryRecord", "op", "()Lcom/example/cohortbench/cohortbench/model/HistoryRecord$Op;"⟩ : MethodName)) (z := (⟨"com/example/cohortbench/cohortbench/model/HistoryRecord", "op", "()Lcom/example/cohortbench/cohortbench/model/HistoryRecord$Op;"⟩ : MethodName)) hown (mvT hZ (hw _ (List.mem_of_getElem? (i := 33) rfl))) (mvT hZ (hw _ (List.mem_of_getElem? (i := 34) rfl))) (notFace_of_selects (args := #[]) (mvT hZ (hw _ (List.mem_of_getElem? (i := 36) rfl)))) (mvT hZ (hw _ (List.mem_of_getElem? (i := 36) rfl))) (mvT hZ (hw _ (List.mem_of_getElem? (i := 35) rfl))) (by decide) (backOf (W := 0) (rmOp l Z aV hw [] b7 s_HistoryRecord_Op_WRITE T7.heap n0 Zn F_op_b7) hZ (hw _ (List.mem_of_getElem? (i := 37) rfl)) (hw _ (List.mem_of_getElem? (i := 3) rfl)) (by decide) (by decide)) q8a q8c (g := (mkF m 78 #[.val (.int p0), .val (.int p1), .val (.int p2), .val (.int (p0 &&& (3 : Int32))), .val (.int (p1 &&& (2147483647 : Int32))), .val (.ref b7), .unset, .unset, .unset] [(.ref b7)])) rfl (by rw [hml]; rfl) (Steps.refl _) (argsL := []) (rest := []) (lenOf pd_3 rfl) rfl (by show 2 * 0 + _ ≤ _; exact Nat.le_of_eq rfl) (hb hby at_78) (fun _ _ => ⟨rfl, rfl, (by decide : 1 + 0 ≤ _), (by decide : 6 + 0 ≤ _)⟩)
      dsimp only [Pt.U, Pt.locs, Pt.cells, Pt.slots] at X8 l8 y8 z8 st8 hQ8
      subst l8 y8 z8
      obtain ⟨rfl, N8q, e8⟩ := hQ8
      have N8 := Fr.app N7 N8q
      refine Run.st (S' := T8.setTop (mkF m 81 #[.val (.int p0), .val (.int p1), .val (.int p2), .val (.int (p0 &&& (3 : Int32))), .val (.int (p1 &&& (2147483647 : Int32))), .val (.ref b7), .unset, .unset, .unset] [(.ref s_HistoryRecord_Op_WRITE)])) (fun _ k => st8.trans k) ?_
      obtain ⟨cq9, kq9, q9a, q9b, q9c⟩ := isOf hZ e8 E_s_HistoryRecord_Op_WRITE
      obtain ⟨_, _, ⟨T9, L9, k9, n9⟩, -, X9, ⟨Lc9, hQ9, l9, y9, z9⟩, st9⟩ := X8.virtualBack hx (y := (⟨"com/example/cohortbench/cohortbench/model/HistoryRecord$Op", "touchesItem", "()Z"⟩ : MethodName)) (z := (⟨"com/example/cohortbench/cohortbench/model/HistoryRecord$Op", "touchesItem", "()Z"⟩ : MethodName)) hown (mvT hZ (hw _ (List.mem_of_getElem? (i := 38) rfl))) (mvT hZ (hw _ (List.mem_of_getElem? (i := 39) rfl))) (notFace_of_selects (args := #[]) (mvT hZ (hw _ (List.mem_of_getElem? (i := 41) rfl)))) (mvT hZ (hw _ (List.mem_of_getElem? (i := 41) rfl))) (mvT hZ (hw _ (List.mem_of_getElem? (i := 40) rfl))) (by decide) (backOf (W := 0) (rmTou l Z aV hw [] s_HistoryRecord_Op_WRITE s_HistoryRecord_Op_READ s_HistoryRecord_Op_WRITE T7.heap n0 Zn S_s_HistoryRecord_Op_READ S_s_HistoryRecord_Op_WRITE) hZ (hw _ (List.mem_of_getElem? (i := 42) rfl)) (hw _ (List.mem_of_getElem? (i := 8) rfl)) (by decide) (by decide)) q9a q9c (g := (mkF m 81 #[.val (.int p0), .val (.int p1), .val (.int p2), .val (.int (p0 &&& (3 : Int32))), .val (.int (p1 &&& (2147483647 : Int32))), .val (.ref b7), .unset, .unset, .unset] [(.ref s_HistoryRecord_Op_WRITE)])) rfl (by rw [hml]; rfl) (Steps.refl _) (argsL := []) (rest := []) (lenOf pd_4 rfl) rfl (by show 2 * 0 + _ ≤ _; exact Nat.le_of_eq rfl) (hb hby at_81) (fun _ _ => ⟨rfl, e8, (by decide : 1 + 0 ≤ _), (by decide : 6 + 0 ≤ _)⟩)
      dsimp only [Pt.U, Pt.locs, Pt.cells, Pt.slots] at X9 l9 y9 z9 st9 hQ9
      subst l9 y9 z9
      obtain ⟨rfl, N9q, e9⟩ := hQ9
      have N9 := Fr.app N8 N9q
      have hv9 : (FTou s_HistoryRecord_Op_WRITE s_HistoryRecord_Op_READ s_HistoryRecord_Op_WRITE) = (1 : Int32) := by unfold FTou; simp [hneRW, hneCR, hneCW, hneAR, hneAW, Ne.symm hneRW]
      refine Run.st (S' := T9.setTop (mkF m 98 #[.val (.int p0), .val (.int p1), .val (.int p2), .val (.int (p0 &&& (3 : Int32))), .val (.int (p1 &&& (2147483647 : Int32))), .val (.ref b7), .val (.int (FTou s_HistoryRecord_Op_WRITE s_HistoryRecord_Op_READ s_HistoryRecord_Op_WRITE)), .val (.int (1 : Int32)), .unset] [])) (fun _ k => st9.trans (XS.istore X9.here hx rfl (hb hby at_84) rfl (l' := #[.val (.int p0), .val (.int p1), .val (.int p2), .val (.int (p0 &&& (3 : Int32))), .val (.int (p1 &&& (2147483647 : Int32))), .val (.ref b7), .val (.int (FTou s_HistoryRecord_Op_WRITE s_HistoryRecord_Op_READ s_HistoryRecord_Op_WRITE)), .unset, .unset]) rfl (XS.iloadN X9.here hx rfl (hb hby at_86) rfl (XS.iconst X9.here hx rfl (hb hby at_87) (XS.icmpNo X9.here hx rfl (hb hby at_88) rfl (tlt (show (p0 &&& (3 : Int32)) < (2 : Int32) from (by rw [hc30_6]; decide))).2.1 (XS.iconst X9.here hx rfl (hb hby at_91) (XS.goto X9.here hx rfl (pc0 := 92) (pc' := 96) rfl (hb hby at_92) (by decide) (by decide) (XS.istore X9.here hx rfl (hb hby at_96) rfl (l' := #[.val (.int p0), .val (.int p1), .val (.int p2), .val (.int (p0 &&& (3 : Int32))), .val (.int (p1 &&& (2147483647 : Int32))), .val (.ref b7), .val (.int (FTou s_HistoryRecord_Op_WRITE s_HistoryRecord_Op_READ s_HistoryRecord_Op_WRITE)), .val (.int (1 : Int32)), .unset]) rfl k)))))))) ?_
      refine Run.st (S' := T9.setTop (mkF m 100 #[.val (.int p0), .val (.int p1), .val (.int p2), .val (.int (p0 &&& (3 : Int32))), .val (.int (p1 &&& (2147483647 : Int32))), .val (.ref b7), .val (.int (FTou s_HistoryRecord_Op_WRITE s_HistoryRecord_Op_READ s_HistoryRecord_Op_WRITE)), .val (.int (1 : Int32)), .unset] [(.ref b7)])) (fun _ k => XS.aload X9.here hx rfl (hb hby at_98) rfl rfl k) ?_
      obtain ⟨cq10, kq10, q10a, q10b, q10c⟩ := isOf hZ e9 E_b7
      obtain ⟨_, _, ⟨T10, L10, k10, n10⟩, -, X10, ⟨Lc10, hQ10, l10, y10, z10⟩, st10⟩ := X9.virtualBack hx (y := (⟨"com/example/cohortbench/cohortbench/model/HistoryRecord", "item", "()I"⟩ : MethodName)) (z := (⟨"com/example/cohortbench/cohortbench/model/HistoryRecord", "item", "()I"⟩ : MethodName)) hown (mvT hZ (hw _ (List.mem_of_getElem? (i := 44) rfl))) (mvT hZ (hw _ (List.mem_of_getElem? (i := 45) rfl))) (notFace_of_selects (args := #[]) (mvT hZ (hw _ (List.mem_of_getElem? (i := 47) rfl)))) (mvT hZ (hw _ (List.mem_of_getElem? (i := 47) rfl))) (mvT hZ (hw _ (List.mem_of_getElem? (i := 46) rfl))) (by decide) (backOf (W := 0) (rmItem l Z aV hw [] b7 (p1 &&& (2147483647 : Int32)) T7.heap n0 Zn F_item_b7) hZ (hw _ (List.mem_of_getElem? (i := 48) rfl)) (hw _ (List.mem_of_getElem? (i := 3) rfl)) (by decide) (by decide)) q10a q10c (g := (mkF m 100 #[.val (.int p0), .val (.int p1), .val (.int p2), .val (.int (p0 &&& (3 : Int32))), .val (.int (p1 &&& (2147483647 : Int32))), .val (.ref b7), .val (.int (FTou s_HistoryRecord_Op_WRITE s_HistoryRecord_Op_READ s_HistoryRecord_Op_WRITE)), .val (.int (1 : Int32)), .unset] [(.ref b7)])) rfl (by rw [hml]; rfl) (Steps.refl _) (argsL := []) (rest := []) (lenOf pd_5 rfl) rfl (by show 2 * 0 + _ ≤ _; exact Nat.le_of_eq rfl) (hb hby at_100) (fun _ _ => ⟨rfl, e9, (by decide : 1 + 0 ≤ _), (by decide : 6 + 0 ≤ _)⟩)
      dsimp only [Pt.U, Pt.locs, Pt.cells, Pt.slots] at X10 l10 y10 z10 st10 hQ10
      subst l10 y10 z10
      obtain ⟨rfl, N10q, e10⟩ := hQ10
      have N10 := Fr.app N9 N10q
      refine Run.st (S' := T10.setTop (mkF m 118 #[.val (.int p0), .val (.int p1), .val (.int p2), .val (.int (p0 &&& (3 : Int32))), .val (.int (p1 &&& (2147483647 : Int32))), .val (.ref b7), .val (.int (FTou s_HistoryRecord_Op_WRITE s_HistoryRecord_Op_READ s_HistoryRecord_Op_WRITE)), .val (.int (1 : Int32)), .val (.int (1 : Int32))] [(.int (1 : Int32)), (.int (FTou s_HistoryRecord_Op_WRITE s_HistoryRecord_Op_READ s_HistoryRecord_Op_WRITE))])) (fun _ k => st10.trans (XS.iconst X10.here hx rfl (hb hby at_103) (XS.icmpNo X10.here hx rfl (hb hby at_104) rfl (feq (show ¬ ((p1 &&& (2147483647 : Int32)) = (-1 : Int32)) from (by have := rng32 (p1 &&& (2147483647 : Int32)); have := c_mask p1 (2147483647 : Int32) 31 (by decide) (by decide); have := rng32 p1; have := (by decide : ((-1 : Int32)).toInt = -1); (try simp only [Int32.lt_iff_toInt_lt, Int64.lt_iff_toInt_lt, Int32.le_iff_toInt_le, Int64.le_iff_toInt_le, ← Int32.toInt_inj, ← Int64.toInt_inj] at  ⊢); omega))).1 (XS.iconst X10.here hx rfl (hb hby at_107) (XS.goto X10.here hx rfl (pc0 := 108) (pc' := 112) rfl (hb hby at_108) (by decide) (by decide) (XS.istore X10.here hx rfl (hb hby at_112) rfl (l' := #[.val (.int p0), .val (.int p1), .val (.int p2), .val (.int (p0 &&& (3 : Int32))), .val (.int (p1 &&& (2147483647 : Int32))), .val (.ref b7), .val (.int (FTou s_HistoryRecord_Op_WRITE s_HistoryRecord_Op_READ s_HistoryRecord_Op_WRITE)), .val (.int (1 : Int32)), .val (.int (1 : Int32))]) rfl (XS.iload X10.here hx rfl (hb hby at_114) rfl (XS.iload X10.here hx rfl (hb hby at_116) rfl k)))))))) ?_
      refine Run.st (S' := T10.setTop (mkF m 133 #[.val (.int p0), .val (.int p1), .val (.int p2), .val (.int (p0 &&& (3 : Int32))), .val (.int (p1 &&& (2147483647 : Int32))), .val (.ref b7), .val (.int (FTou s_HistoryRecord_Op_WRITE s_HistoryRecord_Op_READ s_HistoryRecord_Op_WRITE)), .val (.int (1 : Int32)), .val (.int (1 : Int32))] [(.int (1 : Int32))])) (fun _ k => XS.icmpNo X10.here hx rfl (hb hby at_118) rfl (teq (show (FTou s_HistoryRecord_Op_WRITE s_HistoryRecord_Op_READ s_HistoryRecord_Op_WRITE) = (1 : Int32) from hv9)).2 (XS.iload X10.here hx rfl (hb hby at_121) rfl (XS.iload X10.here hx rfl (hb hby at_123) rfl (XS.icmpNo X10.here hx rfl (hb hby at_125) rfl (teq (show (FTou s_HistoryRecord_Op_WRITE s_HistoryRecord_Op_READ s_HistoryRecord_Op_WRITE) = (1 : Int32) from hv9)).2 (XS.iconst X10.here hx rfl (hb hby at_128) (XS.goto X10.here hx rfl (pc0 := 129) (pc' := 133) rfl (hb hby at_129) (by decide) (by decide) k)))))) ?_
      refine Run.out X10 hx Bd.notSynchronized Bd.returns rfl (Or.inl ⟨rfl, by simp, _, rfl⟩) (hb hby at_133) (by decide) (by decide) ?_
      rw [e10]
      exact ⟨rfl, N10⟩
    · refine Run.st (S' := s₁.setTop (mkF m 48 #[.val (.int p0), .val (.int p1), .val (.int p2), .val (.int (p0 &&& (3 : Int32))), .val (.int (p1 &&& (2147483647 : Int32))), .unset, .unset, .unset, .unset] [(.int (2 : Int32)), (.int (p0 &&& (3 : Int32)))])) (fun _ k => XS.icmpYes X0.here hx rfl (pc0 := 30) (pc' := 46) rfl (hb hby at_30) rfl (feq hc30_6).2 (by decide) (by decide) (XS.iloadN X0.here hx rfl (hb hby at_46) rfl (XS.iconst X0.here hx rfl (hb hby at_47) k))) ?_
      by_cases hc48_11 : (p0 &&& (3 : Int32)) = (2 : Int32)
      · refine Run.st (S' := s₁.setTop (mkF m 53 #[.val (.int p0), .val (.int p1), .val (.int p2), .val (.int (p0 &&& (3 : Int32))), .val (.int (p1 &&& (2147483647 : Int32))), .unset, .unset, .unset, .unset] [.null, (.double FP.dconst0)])) (fun _ k => XS.icmpNo X0.here hx rfl (hb hby at_48) rfl (teq hc48_11).2 (XS.dconst0 X0.here hx rfl (hb hby at_51) rfl (XS.aconstNull X0.here hx rfl (hb hby at_52) k))) ?_
        obtain ⟨T12, X12, e12, st12⟩ := getS2 X0 hx hZ hown (host := "") (Or.inl (hw _ (List.mem_of_getElem? (i := 60) rfl))) Via.refl e0 S_s_HistoryRecord_Op_COMMIT (g := (mkF m 53 #[.val (.int p0), .val (.int p1), .val (.int p2), .val (.int (p0 &&& (3 : Int32))), .val (.int (p1 &&& (2147483647 : Int32))), .unset, .unset, .unset, .unset] [.null, (.double FP.dconst0)])) rfl (hb hby at_53)
        refine Run.st (S' := T12.setTop (mkF m 57 #[.val (.int p0), .val (.int p1), .val (.int p2), .val (.int (p0 &&& (3 : Int32))), .val (.int (p1 &&& (2147483647 : Int32))), .unset, .unset, .unset, .unset] [(.int p2), (.ref s_HistoryRecord_Op_COMMIT), .null, (.double FP.dconst0)])) (fun _ k => st12 _ (XS.iloadN X12.here hx rfl (hb hby at_56) rfl k)) ?_
        obtain ⟨_, _, ⟨T13, L13, k13, n13⟩, -, X13, ⟨Lc13, hQ13, l13, y13, z13⟩, st13⟩ := Jvm.LawKit.callS X12 hx (y := (⟨"com/example/cohortbench/cohortbench/model/HistoryRecord", "decision", "(DLcom/example/cohortbench/cohortbench/model/Incarnation;Lcom/example/cohortbench/cohortbench/model/HistoryRecord$Op;I)Lcom/example/cohortbench/cohortbench/model/HistoryRecord;"⟩ : MethodName)) hown (mvT hZ (hw _ (List.mem_of_getElem? (i := 57) rfl))) (mvT hZ (hw _ (List.mem_of_getElem? (i := 58) rfl))) (mvT hZ (hw _ (List.mem_of_getElem? (i := 3) rfl))) (mvT hZ (hw _ (List.mem_of_getElem? (i := 59) rfl))) (by decide) (backOf (W := 0) (rmDec l Z aV hw [] FP.dconst0 s_HistoryRecord_Op_COMMIT p2 h0 n0 Zn ) hZ (hw _ (List.mem_of_getElem? (i := 59) rfl)) (hw _ (List.mem_of_getElem? (i := 3) rfl)) (by decide) (by decide)) (g := (mkF m 57 #[.val (.int p0), .val (.int p1), .val (.int p2), .val (.int (p0 &&& (3 : Int32))), .val (.int (p1 &&& (2147483647 : Int32))), .unset, .unset, .unset, .unset] [(.int p2), (.ref s_HistoryRecord_Op_COMMIT), .null, (.double FP.dconst0)])) rfl (by rw [hml]; rfl) (argsL := [(.double FP.dconst0), .null, (.ref s_HistoryRecord_Op_COMMIT), (.int p2)]) (rest := []) (lenOf pd_7 rfl) rfl (by show 2 * 0 + _ ≤ _; exact Nat.le_of_eq rfl) (hb hby at_57) (fun _ _ => ⟨rfl, e12, (by decide : 0 + 1 ≤ _), (by decide : 0 + 6 ≤ _)⟩)
        dsimp only [Pt.U, Pt.locs, Pt.cells, Pt.slots] at X13 l13 y13 z13 st13 hQ13
        subst l13 y13 z13
        obtain ⟨b13, rfl, N13q, K13, g_b13, z_b13, q13_0, q13_1, q13_2, q13_3, q13_4, q13_5, q13_6⟩ := hQ13
        have ne_s_HistoryRecord_Op_READ_b13 : s_HistoryRecord_Op_READ ≠ b13 := Nat.ne_of_lt (Nat.lt_of_lt_of_le E_s_HistoryRecord_Op_READ.lt z_b13)
        have ne_s_HistoryRecord_Op_WRITE_b13 : s_HistoryRecord_Op_WRITE ≠ b13 := Nat.ne_of_lt (Nat.lt_of_lt_of_le E_s_HistoryRecord_Op_WRITE.lt z_b13)
        have ne_s_HistoryRecord_Op_COMMIT_b13 : s_HistoryRecord_Op_COMMIT ≠ b13 := Nat.ne_of_lt (Nat.lt_of_lt_of_le E_s_HistoryRecord_Op_COMMIT.lt z_b13)
        have ne_s_HistoryRecord_Op_ABORT_b13 : s_HistoryRecord_Op_ABORT ≠ b13 := Nat.ne_of_lt (Nat.lt_of_lt_of_le E_s_HistoryRecord_Op_ABORT.lt z_b13)
        have sz_b13 : h0.size ≤ b13 := Nat.le_trans Kp.1 z_b13
        have S_s_HistoryRecord_Op_READ := staK S_s_HistoryRecord_Op_READ K13 all0
        have S_s_HistoryRecord_Op_WRITE := staK S_s_HistoryRecord_Op_WRITE K13 all0
        have S_s_HistoryRecord_Op_COMMIT := staK S_s_HistoryRecord_Op_COMMIT K13 all0
        have S_s_HistoryRecord_Op_ABORT := staK S_s_HistoryRecord_Op_ABORT K13 all0
        have E_s_HistoryRecord_Op_READ := E_s_HistoryRecord_Op_READ.keep K13
        have E_s_HistoryRecord_Op_WRITE := E_s_HistoryRecord_Op_WRITE.keep K13
        have E_s_HistoryRecord_Op_COMMIT := E_s_HistoryRecord_Op_COMMIT.keep K13
        have E_s_HistoryRecord_Op_ABORT := E_s_HistoryRecord_Op_ABORT.keep K13
        have E_b13 := q13_0
        have F_timeMs_b13 := q13_1
        have F_unit_b13 := q13_2
        have F_op_b13 := q13_3
        have F_site_b13 := q13_4
        have F_item_b13 := q13_5
        have F_from_b13 := q13_6
        have Kp := Kp.trans K13 all0
        have Zn := Nat.le_trans Zn K13.1
        have N13 := Fr.app N0 N13q
        refine Run.st (S' := T13.setTop (mkF m 78 #[.val (.int p0), .val (.int p1), .val (.int p2), .val (.int (p0 &&& (3 : Int32))), .val (.int (p1 &&& (2147483647 : Int32))), .val (.ref b13), .unset, .unset, .unset] [(.ref b13)])) (fun _ k => st13 _ (XS.astore X13.here hx rfl (hb hby at_60) rfl rfl (l' := #[.val (.int p0), .val (.int p1), .val (.int p2), .val (.int (p0 &&& (3 : Int32))), .val (.int (p1 &&& (2147483647 : Int32))), .val (.ref b13), .unset, .unset, .unset]) rfl (XS.goto X13.here hx rfl (pc0 := 62) (pc' := 76) rfl (hb hby at_62) (by decide) (by decide) (XS.aload X13.here hx rfl (hb hby at_76) rfl rfl k)))) ?_
        obtain ⟨cq14, kq14, q14a, q14b, q14c⟩ := isOf hZ rfl E_b13
        obtain ⟨_, _, ⟨T14, L14, k14, n14⟩, -, X14, ⟨Lc14, hQ14, l14, y14, z14⟩, st14⟩ := X13.virtualBack hx (y := (⟨"com/example/cohortbench/cohortbench/model/HistoryRecord", "op", "()Lcom/example/cohortbench/cohortbench/model/HistoryRecord$Op;"⟩ : MethodName)) (z := (⟨"com/example/cohortbench/cohortbench/model/HistoryRecord", "op", "()Lcom/example/cohortbench/cohortbench/model/HistoryRecord$Op;"⟩ : MethodName)) hown (mvT hZ (hw _ (List.mem_of_getElem? (i := 33) rfl))) (mvT hZ (hw _ (List.mem_of_getElem? (i := 34) rfl))) (notFace_of_selects (args := #[]) (mvT hZ (hw _ (List.mem_of_getElem? (i := 36) rfl)))) (mvT hZ (hw _ (List.mem_of_getElem? (i := 36) rfl))) (mvT hZ (hw _ (List.mem_of_getElem? (i := 35) rfl))) (by decide) (backOf (W := 0) (rmOp l Z aV hw [] b13 s_HistoryRecord_Op_COMMIT T13.heap n0 Zn F_op_b13) hZ (hw _ (List.mem_of_getElem? (i := 37) rfl)) (hw _ (List.mem_of_getElem? (i := 3) rfl)) (by decide) (by decide)) q14a q14c (g := (mkF m 78 #[.val (.int p0), .val (.int p1), .val (.int p2), .val (.int (p0 &&& (3 : Int32))), .val (.int (p1 &&& (2147483647 : Int32))), .val (.ref b13), .unset, .unset, .unset] [(.ref b13)])) rfl (by rw [hml]; rfl) (Steps.refl _) (argsL := []) (rest := []) (lenOf pd_3 rfl) rfl (by show 2 * 0 + _ ≤ _; exact Nat.le_of_eq rfl) (hb hby at_78) (fun _ _ => ⟨rfl, rfl, (by decide : 1 + 0 ≤ _), (by decide : 6 + 0 ≤ _)⟩)
        dsimp only [Pt.U, Pt.locs, Pt.cells, Pt.slots] at X14 l14 y14 z14 st14 hQ14
        subst l14 y14 z14
        obtain ⟨rfl, N14q, e14⟩ := hQ14
        have N14 := Fr.app N13 N14q
        refine Run.st (S' := T14.setTop (mkF m 81 #[.val (.int p0), .val (.int p1), .val (.int p2), .val (.int (p0 &&& (3 : Int32))), .val (.int (p1 &&& (2147483647 : Int32))), .val (.ref b13), .unset, .unset, .unset] [(.ref s_HistoryRecord_Op_COMMIT)])) (fun _ k => st14.trans k) ?_
        obtain ⟨cq15, kq15, q15a, q15b, q15c⟩ := isOf hZ e14 E_s_HistoryRecord_Op_COMMIT
        obtain ⟨_, _, ⟨T15, L15, k15, n15⟩, -, X15, ⟨Lc15, hQ15, l15, y15, z15⟩, st15⟩ := X14.virtualBack hx (y := (⟨"com/example/cohortbench/cohortbench/model/HistoryRecord$Op", "touchesItem", "()Z"⟩ : MethodName)) (z := (⟨"com/example/cohortbench/cohortbench/model/HistoryRecord$Op", "touchesItem", "()Z"⟩ : MethodName)) hown (mvT hZ (hw _ (List.mem_of_getElem? (i := 38) rfl))) (mvT hZ (hw _ (List.mem_of_getElem? (i := 39) rfl))) (notFace_of_selects (args := #[]) (mvT hZ (hw _ (List.mem_of_getElem? (i := 41) rfl)))) (mvT hZ (hw _ (List.mem_of_getElem? (i := 41) rfl))) (mvT hZ (hw _ (List.mem_of_getElem? (i := 40) rfl))) (by decide) (backOf (W := 0) (rmTou l Z aV hw [] s_HistoryRecord_Op_COMMIT s_HistoryRecord_Op_READ s_HistoryRecord_Op_WRITE T13.heap n0 Zn S_s_HistoryRecord_Op_READ S_s_HistoryRecord_Op_WRITE) hZ (hw _ (List.mem_of_getElem? (i := 42) rfl)) (hw _ (List.mem_of_getElem? (i := 8) rfl)) (by decide) (by decide)) q15a q15c (g := (mkF m 81 #[.val (.int p0), .val (.int p1), .val (.int p2), .val (.int (p0 &&& (3 : Int32))), .val (.int (p1 &&& (2147483647 : Int32))), .val (.ref b13), .unset, .unset, .unset] [(.ref s_HistoryRecord_Op_COMMIT)])) rfl (by rw [hml]; rfl) (Steps.refl _) (argsL := []) (rest := []) (lenOf pd_4 rfl) rfl (by show 2 * 0 + _ ≤ _; exact Nat.le_of_eq rfl) (hb hby at_81) (fun _ _ => ⟨rfl, e14, (by decide : 1 + 0 ≤ _), (by decide : 6 + 0 ≤ _)⟩)
        dsimp only [Pt.U, Pt.locs, Pt.cells, Pt.slots] at X15 l15 y15 z15 st15 hQ15
        subst l15 y15 z15
        obtain ⟨rfl, N15q, e15⟩ := hQ15
        have N15 := Fr.app N14 N15q
        have hv15 : (FTou s_HistoryRecord_Op_COMMIT s_HistoryRecord_Op_READ s_HistoryRecord_Op_WRITE) = (0 : Int32) := by unfold FTou; simp [hneRW, hneCR, hneCW, hneAR, hneAW, Ne.symm hneRW]
        refine Run.st (S' := T15.setTop (mkF m 100 #[.val (.int p0), .val (.int p1), .val (.int p2), .val (.int (p0 &&& (3 : Int32))), .val (.int (p1 &&& (2147483647 : Int32))), .val (.ref b13), .val (.int (FTou s_HistoryRecord_Op_COMMIT s_HistoryRecord_Op_READ s_HistoryRecord_Op_WRITE)), .val (.int (0 : Int32)), .unset] [(.ref b13)])) (fun _ k => st15.trans (XS.istore X15.here hx rfl (hb hby at_84) rfl (l' := #[.val (.int p0), .val (.int p1), .val (.int p2), .val (.int (p0 &&& (3 : Int32))), .val (.int (p1 &&& (2147483647 : Int32))), .val (.ref b13), .val (.int (FTou s_HistoryRecord_Op_COMMIT s_HistoryRecord_Op_READ s_HistoryRecord_Op_WRITE)), .unset, .unset]) rfl (XS.iloadN X15.here hx rfl (hb hby at_86) rfl (XS.iconst X15.here hx rfl (hb hby at_87) (XS.icmpYes X15.here hx rfl (pc0 := 88) (pc' := 95) rfl (hb hby at_88) rfl (flt (show ¬ ((p0 &&& (3 : Int32)) < (2 : Int32)) from (by rw [hc48_11]; decide))).2.1 (by decide) (by decide) (XS.iconst X15.here hx rfl (hb hby at_95) (XS.istore X15.here hx rfl (hb hby at_96) rfl (l' := #[.val (.int p0), .val (.int p1), .val (.int p2), .val (.int (p0 &&& (3 : Int32))), .val (.int (p1 &&& (2147483647 : Int32))), .val (.ref b13), .val (.int (FTou s_HistoryRecord_Op_COMMIT s_HistoryRecord_Op_READ s_HistoryRecord_Op_WRITE)), .val (.int (0 : Int32)), .unset]) rfl (XS.aload X15.here hx rfl (hb hby at_98) rfl rfl k)))))))) ?_
        obtain ⟨cq16, kq16, q16a, q16b, q16c⟩ := isOf hZ e15 E_b13
        obtain ⟨_, _, ⟨T16, L16, k16, n16⟩, -, X16, ⟨Lc16, hQ16, l16, y16, z16⟩, st16⟩ := X15.virtualBack hx (y := (⟨"com/example/cohortbench/cohortbench/model/HistoryRecord", "item", "()I"⟩ : MethodName)) (z := (⟨"com/example/cohortbench/cohortbench/model/HistoryRecord", "item", "()I"⟩ : MethodName)) hown (mvT hZ (hw _ (List.mem_of_getElem? (i := 44) rfl))) (mvT hZ (hw _ (List.mem_of_getElem? (i := 45) rfl))) (notFace_of_selects (args := #[]) (mvT hZ (hw _ (List.mem_of_getElem? (i := 47) rfl)))) (mvT hZ (hw _ (List.mem_of_getElem? (i := 47) rfl))) (mvT hZ (hw _ (List.mem_of_getElem? (i := 46) rfl))) (by decide) (backOf (W := 0) (rmItem l Z aV hw [] b13 (-1 : Int32) T13.heap n0 Zn F_item_b13) hZ (hw _ (List.mem_of_getElem? (i := 48) rfl)) (hw _ (List.mem_of_getElem? (i := 3) rfl)) (by decide) (by decide)) q16a q16c (g := (mkF m 100 #[.val (.int p0), .val (.int p1), .val (.int p2), .val (.int (p0 &&& (3 : Int32))), .val (.int (p1 &&& (2147483647 : Int32))), .val (.ref b13), .val (.int (FTou s_HistoryRecord_Op_COMMIT s_HistoryRecord_Op_READ s_HistoryRecord_Op_WRITE)), .val (.int (0 : Int32)), .unset] [(.ref b13)])) rfl (by rw [hml]; rfl) (Steps.refl _) (argsL := []) (rest := []) (lenOf pd_5 rfl) rfl (by show 2 * 0 + _ ≤ _; exact Nat.le_of_eq rfl) (hb hby at_100) (fun _ _ => ⟨rfl, e15, (by decide : 1 + 0 ≤ _), (by decide : 6 + 0 ≤ _)⟩)
        dsimp only [Pt.U, Pt.locs, Pt.cells, Pt.slots] at X16 l16 y16 z16 st16 hQ16
        subst l16 y16 z16
        obtain ⟨rfl, N16q, e16⟩ := hQ16
        have N16 := Fr.app N15 N16q
        refine Run.st (S' := T16.setTop (mkF m 121 #[.val (.int p0), .val (.int p1), .val (.int p2), .val (.int (p0 &&& (3 : Int32))), .val (.int (p1 &&& (2147483647 : Int32))), .val (.ref b13), .val (.int (FTou s_HistoryRecord_Op_COMMIT s_HistoryRecord_Op_READ s_HistoryRecord_Op_WRITE)), .val (.int (0 : Int32)), .val (.int (0 : Int32))] [])) (fun _ k => st16.trans (XS.iconst X16.here hx rfl (hb hby at_103) (XS.icmpYes X16.here hx rfl (pc0 := 104) (pc' := 111) rfl (hb hby at_104) rfl (teq (show (-1 : Int32) = (-1 : Int32) from (by decide))).1 (by decide) (by decide) (XS.iconst X16.here hx rfl (hb hby at_111) (XS.istore X16.here hx rfl (hb hby at_112) rfl (l' := #[.val (.int p0), .val (.int p1), .val (.int p2), .val (.int (p0 &&& (3 : Int32))), .val (.int (p1 &&& (2147483647 : Int32))), .val (.ref b13), .val (.int (FTou s_HistoryRecord_Op_COMMIT s_HistoryRecord_Op_READ s_HistoryRecord_Op_WRITE)), .val (.int (0 : Int32)), .val (.int (0 : Int32))]) rfl (XS.iload X16.here hx rfl (hb hby at_114) rfl (XS.iload X16.here hx rfl (hb hby at_116) rfl (XS.icmpNo X16.here hx rfl (hb hby at_118) rfl (teq (show (FTou s_HistoryRecord_Op_COMMIT s_HistoryRecord_Op_READ s_HistoryRecord_Op_WRITE) = (0 : Int32) from hv15)).2 k)))))))) ?_
        refine Run.st (S' := T16.setTop (mkF m 133 #[.val (.int p0), .val (.int p1), .val (.int p2), .val (.int (p0 &&& (3 : Int32))), .val (.int (p1 &&& (2147483647 : Int32))), .val (.ref b13), .val (.int (FTou s_HistoryRecord_Op_COMMIT s_HistoryRecord_Op_READ s_HistoryRecord_Op_WRITE)), .val (.int (0 : Int32)), .val (.int (0 : Int32))] [(.int (1 : Int32))])) (fun _ k => XS.iload X16.here hx rfl (hb hby at_121) rfl (XS.iload X16.here hx rfl (hb hby at_123) rfl (XS.icmpNo X16.here hx rfl (hb hby at_125) rfl (teq (show (FTou s_HistoryRecord_Op_COMMIT s_HistoryRecord_Op_READ s_HistoryRecord_Op_WRITE) = (0 : Int32) from hv15)).2 (XS.iconst X16.here hx rfl (hb hby at_128) (XS.goto X16.here hx rfl (pc0 := 129) (pc' := 133) rfl (hb hby at_129) (by decide) (by decide) k))))) ?_
        refine Run.out X16 hx Bd.notSynchronized Bd.returns rfl (Or.inl ⟨rfl, by simp, _, rfl⟩) (hb hby at_133) (by decide) (by decide) ?_
        rw [e16]
        exact ⟨rfl, N16⟩
      · refine Run.st (S' := s₁.setTop (mkF m 67 #[.val (.int p0), .val (.int p1), .val (.int p2), .val (.int (p0 &&& (3 : Int32))), .val (.int (p1 &&& (2147483647 : Int32))), .unset, .unset, .unset, .unset] [.null, (.double FP.dconst0)])) (fun _ k => XS.icmpYes X0.here hx rfl (pc0 := 48) (pc' := 65) rfl (hb hby at_48) rfl (feq hc48_11).2 (by decide) (by decide) (XS.dconst0 X0.here hx rfl (hb hby at_65) rfl (XS.aconstNull X0.here hx rfl (hb hby at_66) k))) ?_
        obtain ⟨T17, X17, e17, st17⟩ := getS2 X0 hx hZ hown (host := "") (Or.inl (hw _ (List.mem_of_getElem? (i := 55) rfl))) Via.refl e0 S_s_HistoryRecord_Op_ABORT (g := (mkF m 67 #[.val (.int p0), .val (.int p1), .val (.int p2), .val (.int (p0 &&& (3 : Int32))), .val (.int (p1 &&& (2147483647 : Int32))), .unset, .unset, .unset, .unset] [.null, (.double FP.dconst0)])) rfl (hb hby at_67)
        refine Run.st (S' := T17.setTop (mkF m 71 #[.val (.int p0), .val (.int p1), .val (.int p2), .val (.int (p0 &&& (3 : Int32))), .val (.int (p1 &&& (2147483647 : Int32))), .unset, .unset, .unset, .unset] [(.int p2), (.ref s_HistoryRecord_Op_ABORT), .null, (.double FP.dconst0)])) (fun _ k => st17 _ (XS.iloadN X17.here hx rfl (hb hby at_70) rfl k)) ?_
        obtain ⟨_, _, ⟨T18, L18, k18, n18⟩, -, X18, ⟨Lc18, hQ18, l18, y18, z18⟩, st18⟩ := Jvm.LawKit.callS X17 hx (y := (⟨"com/example/cohortbench/cohortbench/model/HistoryRecord", "decision", "(DLcom/example/cohortbench/cohortbench/model/Incarnation;Lcom/example/cohortbench/cohortbench/model/HistoryRecord$Op;I)Lcom/example/cohortbench/cohortbench/model/HistoryRecord;"⟩ : MethodName)) hown (mvT hZ (hw _ (List.mem_of_getElem? (i := 57) rfl))) (mvT hZ (hw _ (List.mem_of_getElem? (i := 58) rfl))) (mvT hZ (hw _ (List.mem_of_getElem? (i := 3) rfl))) (mvT hZ (hw _ (List.mem_of_getElem? (i := 59) rfl))) (by decide) (backOf (W := 0) (rmDec l Z aV hw [] FP.dconst0 s_HistoryRecord_Op_ABORT p2 h0 n0 Zn ) hZ (hw _ (List.mem_of_getElem? (i := 59) rfl)) (hw _ (List.mem_of_getElem? (i := 3) rfl)) (by decide) (by decide)) (g := (mkF m 71 #[.val (.int p0), .val (.int p1), .val (.int p2), .val (.int (p0 &&& (3 : Int32))), .val (.int (p1 &&& (2147483647 : Int32))), .unset, .unset, .unset, .unset] [(.int p2), (.ref s_HistoryRecord_Op_ABORT), .null, (.double FP.dconst0)])) rfl (by rw [hml]; rfl) (argsL := [(.double FP.dconst0), .null, (.ref s_HistoryRecord_Op_ABORT), (.int p2)]) (rest := []) (lenOf pd_7 rfl) rfl (by show 2 * 0 + _ ≤ _; exact Nat.le_of_eq rfl) (hb hby at_71) (fun _ _ => ⟨rfl, e17, (by decide : 0 + 1 ≤ _), (by decide : 0 + 6 ≤ _)⟩)
        dsimp only [Pt.U, Pt.locs, Pt.cells, Pt.slots] at X18 l18 y18 z18 st18 hQ18
        subst l18 y18 z18
        obtain ⟨b18, rfl, N18q, K18, g_b18, z_b18, q18_0, q18_1, q18_2, q18_3, q18_4, q18_5, q18_6⟩ := hQ18
        have ne_s_HistoryRecord_Op_READ_b18 : s_HistoryRecord_Op_READ ≠ b18 := Nat.ne_of_lt (Nat.lt_of_lt_of_le E_s_HistoryRecord_Op_READ.lt z_b18)
        have ne_s_HistoryRecord_Op_WRITE_b18 : s_HistoryRecord_Op_WRITE ≠ b18 := Nat.ne_of_lt (Nat.lt_of_lt_of_le E_s_HistoryRecord_Op_WRITE.lt z_b18)
        have ne_s_HistoryRecord_Op_COMMIT_b18 : s_HistoryRecord_Op_COMMIT ≠ b18 := Nat.ne_of_lt (Nat.lt_of_lt_of_le E_s_HistoryRecord_Op_COMMIT.lt z_b18)
        have ne_s_HistoryRecord_Op_ABORT_b18 : s_HistoryRecord_Op_ABORT ≠ b18 := Nat.ne_of_lt (Nat.lt_of_lt_of_le E_s_HistoryRecord_Op_ABORT.lt z_b18)
        have sz_b18 : h0.size ≤ b18 := Nat.le_trans Kp.1 z_b18
        have S_s_HistoryRecord_Op_READ := staK S_s_HistoryRecord_Op_READ K18 all0
        have S_s_HistoryRecord_Op_WRITE := staK S_s_HistoryRecord_Op_WRITE K18 all0
        have S_s_HistoryRecord_Op_COMMIT := staK S_s_HistoryRecord_Op_COMMIT K18 all0
        have S_s_HistoryRecord_Op_ABORT := staK S_s_HistoryRecord_Op_ABORT K18 all0
        have E_s_HistoryRecord_Op_READ := E_s_HistoryRecord_Op_READ.keep K18
        have E_s_HistoryRecord_Op_WRITE := E_s_HistoryRecord_Op_WRITE.keep K18
        have E_s_HistoryRecord_Op_COMMIT := E_s_HistoryRecord_Op_COMMIT.keep K18
        have E_s_HistoryRecord_Op_ABORT := E_s_HistoryRecord_Op_ABORT.keep K18
        have E_b18 := q18_0
        have F_timeMs_b18 := q18_1
        have F_unit_b18 := q18_2
        have F_op_b18 := q18_3
        have F_site_b18 := q18_4
        have F_item_b18 := q18_5
        have F_from_b18 := q18_6
        have Kp := Kp.trans K18 all0
        have Zn := Nat.le_trans Zn K18.1
        have N18 := Fr.app N0 N18q
        refine Run.st (S' := T18.setTop (mkF m 78 #[.val (.int p0), .val (.int p1), .val (.int p2), .val (.int (p0 &&& (3 : Int32))), .val (.int (p1 &&& (2147483647 : Int32))), .val (.ref b18), .unset, .unset, .unset] [(.ref b18)])) (fun _ k => st18 _ (XS.astore X18.here hx rfl (hb hby at_74) rfl rfl (l' := #[.val (.int p0), .val (.int p1), .val (.int p2), .val (.int (p0 &&& (3 : Int32))), .val (.int (p1 &&& (2147483647 : Int32))), .val (.ref b18), .unset, .unset, .unset]) rfl (XS.aload X18.here hx rfl (hb hby at_76) rfl rfl k))) ?_
        obtain ⟨cq19, kq19, q19a, q19b, q19c⟩ := isOf hZ rfl E_b18
        obtain ⟨_, _, ⟨T19, L19, k19, n19⟩, -, X19, ⟨Lc19, hQ19, l19, y19, z19⟩, st19⟩ := X18.virtualBack hx (y := (⟨"com/example/cohortbench/cohortbench/model/HistoryRecord", "op", "()Lcom/example/cohortbench/cohortbench/model/HistoryRecord$Op;"⟩ : MethodName)) (z := (⟨"com/example/cohortbench/cohortbench/model/HistoryRecord", "op", "()Lcom/example/cohortbench/cohortbench/model/HistoryRecord$Op;"⟩ : MethodName)) hown (mvT hZ (hw _ (List.mem_of_getElem? (i := 33) rfl))) (mvT hZ (hw _ (List.mem_of_getElem? (i := 34) rfl))) (notFace_of_selects (args := #[]) (mvT hZ (hw _ (List.mem_of_getElem? (i := 36) rfl)))) (mvT hZ (hw _ (List.mem_of_getElem? (i := 36) rfl))) (mvT hZ (hw _ (List.mem_of_getElem? (i := 35) rfl))) (by decide) (backOf (W := 0) (rmOp l Z aV hw [] b18 s_HistoryRecord_Op_ABORT T18.heap n0 Zn F_op_b18) hZ (hw _ (List.mem_of_getElem? (i := 37) rfl)) (hw _ (List.mem_of_getElem? (i := 3) rfl)) (by decide) (by decide)) q19a q19c (g := (mkF m 78 #[.val (.int p0), .val (.int p1), .val (.int p2), .val (.int (p0 &&& (3 : Int32))), .val (.int (p1 &&& (2147483647 : Int32))), .val (.ref b18), .unset, .unset, .unset] [(.ref b18)])) rfl (by rw [hml]; rfl) (Steps.refl _) (argsL := []) (rest := []) (lenOf pd_3 rfl) rfl (by show 2 * 0 + _ ≤ _; exact Nat.le_of_eq rfl) (hb hby at_78) (fun _ _ => ⟨rfl, rfl, (by decide : 1 + 0 ≤ _), (by decide : 6 + 0 ≤ _)⟩)
        dsimp only [Pt.U, Pt.locs, Pt.cells, Pt.slots] at X19 l19 y19 z19 st19 hQ19
        subst l19 y19 z19
        obtain ⟨rfl, N19q, e19⟩ := hQ19
        have N19 := Fr.app N18 N19q
        refine Run.st (S' := T19.setTop (mkF m 81 #[.val (.int p0), .val (.int p1), .val (.int p2), .val (.int (p0 &&& (3 : Int32))), .val (.int (p1 &&& (2147483647 : Int32))), .val (.ref b18), .unset, .unset, .unset] [(.ref s_HistoryRecord_Op_ABORT)])) (fun _ k => st19.trans k) ?_
        obtain ⟨cq20, kq20, q20a, q20b, q20c⟩ := isOf hZ e19 E_s_HistoryRecord_Op_ABORT
        obtain ⟨_, _, ⟨T20, L20, k20, n20⟩, -, X20, ⟨Lc20, hQ20, l20, y20, z20⟩, st20⟩ := X19.virtualBack hx (y := (⟨"com/example/cohortbench/cohortbench/model/HistoryRecord$Op", "touchesItem", "()Z"⟩ : MethodName)) (z := (⟨"com/example/cohortbench/cohortbench/model/HistoryRecord$Op", "touchesItem", "()Z"⟩ : MethodName)) hown (mvT hZ (hw _ (List.mem_of_getElem? (i := 38) rfl))) (mvT hZ (hw _ (List.mem_of_getElem? (i := 39) rfl))) (notFace_of_selects (args := #[]) (mvT hZ (hw _ (List.mem_of_getElem? (i := 41) rfl)))) (mvT hZ (hw _ (List.mem_of_getElem? (i := 41) rfl))) (mvT hZ (hw _ (List.mem_of_getElem? (i := 40) rfl))) (by decide) (backOf (W := 0) (rmTou l Z aV hw [] s_HistoryRecord_Op_ABORT s_HistoryRecord_Op_READ s_HistoryRecord_Op_WRITE T18.heap n0 Zn S_s_HistoryRecord_Op_READ S_s_HistoryRecord_Op_WRITE) hZ (hw _ (List.mem_of_getElem? (i := 42) rfl)) (hw _ (List.mem_of_getElem? (i := 8) rfl)) (by decide) (by decide)) q20a q20c (g := (mkF m 81 #[.val (.int p0), .val (.int p1), .val (.int p2), .val (.int (p0 &&& (3 : Int32))), .val (.int (p1 &&& (2147483647 : Int32))), .val (.ref b18), .unset, .unset, .unset] [(.ref s_HistoryRecord_Op_ABORT)])) rfl (by rw [hml]; rfl) (Steps.refl _) (argsL := []) (rest := []) (lenOf pd_4 rfl) rfl (by show 2 * 0 + _ ≤ _; exact Nat.le_of_eq rfl) (hb hby at_81) (fun _ _ => ⟨rfl, e19, (by decide : 1 + 0 ≤ _), (by decide : 6 + 0 ≤ _)⟩)
        dsimp only [Pt.U, Pt.locs, Pt.cells, Pt.slots] at X20 l20 y20 z20 st20 hQ20
        subst l20 y20 z20
        obtain ⟨rfl, N20q, e20⟩ := hQ20
        have N20 := Fr.app N19 N20q
        have hv20 : (FTou s_HistoryRecord_Op_ABORT s_HistoryRecord_Op_READ s_HistoryRecord_Op_WRITE) = (0 : Int32) := by unfold FTou; simp [hneRW, hneCR, hneCW, hneAR, hneAW, Ne.symm hneRW]
        refine Run.st (S' := T20.setTop (mkF m 100 #[.val (.int p0), .val (.int p1), .val (.int p2), .val (.int (p0 &&& (3 : Int32))), .val (.int (p1 &&& (2147483647 : Int32))), .val (.ref b18), .val (.int (FTou s_HistoryRecord_Op_ABORT s_HistoryRecord_Op_READ s_HistoryRecord_Op_WRITE)), .val (.int (0 : Int32)), .unset] [(.ref b18)])) (fun _ k => st20.trans (XS.istore X20.here hx rfl (hb hby at_84) rfl (l' := #[.val (.int p0), .val (.int p1), .val (.int p2), .val (.int (p0 &&& (3 : Int32))), .val (.int (p1 &&& (2147483647 : Int32))), .val (.ref b18), .val (.int (FTou s_HistoryRecord_Op_ABORT s_HistoryRecord_Op_READ s_HistoryRecord_Op_WRITE)), .unset, .unset]) rfl (XS.iloadN X20.here hx rfl (hb hby at_86) rfl (XS.iconst X20.here hx rfl (hb hby at_87) (XS.icmpYes X20.here hx rfl (pc0 := 88) (pc' := 95) rfl (hb hby at_88) rfl (flt (show ¬ ((p0 &&& (3 : Int32)) < (2 : Int32)) from (own_k _ hc11_1 hc30_6))).2.1 (by decide) (by decide) (XS.iconst X20.here hx rfl (hb hby at_95) (XS.istore X20.here hx rfl (hb hby at_96) rfl (l' := #[.val (.int p0), .val (.int p1), .val (.int p2), .val (.int (p0 &&& (3 : Int32))), .val (.int (p1 &&& (2147483647 : Int32))), .val (.ref b18), .val (.int (FTou s_HistoryRecord_Op_ABORT s_HistoryRecord_Op_READ s_HistoryRecord_Op_WRITE)), .val (.int (0 : Int32)), .unset]) rfl (XS.aload X20.here hx rfl (hb hby at_98) rfl rfl k)))))))) ?_
        obtain ⟨cq21, kq21, q21a, q21b, q21c⟩ := isOf hZ e20 E_b18
        obtain ⟨_, _, ⟨T21, L21, k21, n21⟩, -, X21, ⟨Lc21, hQ21, l21, y21, z21⟩, st21⟩ := X20.virtualBack hx (y := (⟨"com/example/cohortbench/cohortbench/model/HistoryRecord", "item", "()I"⟩ : MethodName)) (z := (⟨"com/example/cohortbench/cohortbench/model/HistoryRecord", "item", "()I"⟩ : MethodName)) hown (mvT hZ (hw _ (List.mem_of_getElem? (i := 44) rfl))) (mvT hZ (hw _ (List.mem_of_getElem? (i := 45) rfl))) (notFace_of_selects (args := #[]) (mvT hZ (hw _ (List.mem_of_getElem? (i := 47) rfl)))) (mvT hZ (hw _ (List.mem_of_getElem? (i := 47) rfl))) (mvT hZ (hw _ (List.mem_of_getElem? (i := 46) rfl))) (by decide) (backOf (W := 0) (rmItem l Z aV hw [] b18 (-1 : Int32) T18.heap n0 Zn F_item_b18) hZ (hw _ (List.mem_of_getElem? (i := 48) rfl)) (hw _ (List.mem_of_getElem? (i := 3) rfl)) (by decide) (by decide)) q21a q21c (g := (mkF m 100 #[.val (.int p0), .val (.int p1), .val (.int p2), .val (.int (p0 &&& (3 : Int32))), .val (.int (p1 &&& (2147483647 : Int32))), .val (.ref b18), .val (.int (FTou s_HistoryRecord_Op_ABORT s_HistoryRecord_Op_READ s_HistoryRecord_Op_WRITE)), .val (.int (0 : Int32)), .unset] [(.ref b18)])) rfl (by rw [hml]; rfl) (Steps.refl _) (argsL := []) (rest := []) (lenOf pd_5 rfl) rfl (by show 2 * 0 + _ ≤ _; exact Nat.le_of_eq rfl) (hb hby at_100) (fun _ _ => ⟨rfl, e20, (by decide : 1 + 0 ≤ _), (by decide : 6 + 0 ≤ _)⟩)
        dsimp only [Pt.U, Pt.locs, Pt.cells, Pt.slots] at X21 l21 y21 z21 st21 hQ21
        subst l21 y21 z21
        obtain ⟨rfl, N21q, e21⟩ := hQ21
        have N21 := Fr.app N20 N21q
        refine Run.st (S' := T21.setTop (mkF m 121 #[.val (.int p0), .val (.int p1), .val (.int p2), .val (.int (p0 &&& (3 : Int32))), .val (.int (p1 &&& (2147483647 : Int32))), .val (.ref b18), .val (.int (FTou s_HistoryRecord_Op_ABORT s_HistoryRecord_Op_READ s_HistoryRecord_Op_WRITE)), .val (.int (0 : Int32)), .val (.int (0 : Int32))] [])) (fun _ k => st21.trans (XS.iconst X21.here hx rfl (hb hby at_103) (XS.icmpYes X21.here hx rfl (pc0 := 104) (pc' := 111) rfl (hb hby at_104) rfl (teq (show (-1 : Int32) = (-1 : Int32) from (by decide))).1 (by decide) (by decide) (XS.iconst X21.here hx rfl (hb hby at_111) (XS.istore X21.here hx rfl (hb hby at_112) rfl (l' := #[.val (.int p0), .val (.int p1), .val (.int p2), .val (.int (p0 &&& (3 : Int32))), .val (.int (p1 &&& (2147483647 : Int32))), .val (.ref b18), .val (.int (FTou s_HistoryRecord_Op_ABORT s_HistoryRecord_Op_READ s_HistoryRecord_Op_WRITE)), .val (.int (0 : Int32)), .val (.int (0 : Int32))]) rfl (XS.iload X21.here hx rfl (hb hby at_114) rfl (XS.iload X21.here hx rfl (hb hby at_116) rfl (XS.icmpNo X21.here hx rfl (hb hby at_118) rfl (teq (show (FTou s_HistoryRecord_Op_ABORT s_HistoryRecord_Op_READ s_HistoryRecord_Op_WRITE) = (0 : Int32) from hv20)).2 k)))))))) ?_
        refine Run.st (S' := T21.setTop (mkF m 133 #[.val (.int p0), .val (.int p1), .val (.int p2), .val (.int (p0 &&& (3 : Int32))), .val (.int (p1 &&& (2147483647 : Int32))), .val (.ref b18), .val (.int (FTou s_HistoryRecord_Op_ABORT s_HistoryRecord_Op_READ s_HistoryRecord_Op_WRITE)), .val (.int (0 : Int32)), .val (.int (0 : Int32))] [(.int (1 : Int32))])) (fun _ k => XS.iload X21.here hx rfl (hb hby at_121) rfl (XS.iload X21.here hx rfl (hb hby at_123) rfl (XS.icmpNo X21.here hx rfl (hb hby at_125) rfl (teq (show (FTou s_HistoryRecord_Op_ABORT s_HistoryRecord_Op_READ s_HistoryRecord_Op_WRITE) = (0 : Int32) from hv20)).2 (XS.iconst X21.here hx rfl (hb hby at_128) (XS.goto X21.here hx rfl (pc0 := 129) (pc' := 133) rfl (hb hby at_129) (by decide) (by decide) k))))) ?_
        refine Run.out X21 hx Bd.notSynchronized Bd.returns rfl (Or.inl ⟨rfl, by simp, _, rfl⟩) (hb hby at_133) (by decide) (by decide) ?_
        rw [e21]
        exact ⟨rfl, N21⟩
set_option maxRecDepth 65536 in
set_option maxHeartbeats 40000000 in
theorem comes_1 {Post : Tables → Env → Array Value → State → Outcome → State → Prop} (hpost : ∀ tb e args s v u, (limb_1_1.after args s (.returned v) u = true ∧ limb_1_2.after args s (.returned v) u = true ∧ True) → FrameEnd s (.returned v) u (Jvm.fieldLocs frame_1_writes args s ++ Jvm.arrayLocs frame_1_arrays args s ++ Jvm.staticLocs frame_1_statics s) 16 128 → Post tb e args s (.returned v) u) :
    ArmFor flags0 classFile x code maxLocals ret World_1 tables_1 room_1 Calls_1 rest_1 Pre_1 Post := by
  intro l hfl _ _ p e ha hc hk s m args below hf hA hF happ hP
  obtain ⟨hcalls, hrest, hpre⟩ := hP
  obtain ⟨-, -, -, hnamed, -, -, -, hat⟩ := (Spec.applies_iff hf).mp happ
  obtain ⟨hg, hn⟩ := and_e (Cond.before_iff.mp (show (Jvm.Cond.and given_1 narrow_1).before args s = true from hpre))
  obtain ⟨gv1, gv2⟩ := and_e hg
  obtain ⟨gv3, gv4⟩ := and_e gv2
  obtain ⟨gv5, gv6⟩ := and_e gv4
  obtain ⟨gv7, gv8⟩ := and_e hn
  obtain ⟨gv9, gv10⟩ := and_e gv8
  obtain ⟨gv11, gv12⟩ := and_e gv10
  obtain ⟨gv13, gv14⟩ := and_e gv12
  obtain ⟨gv15, gv16⟩ := and_e gv14
  obtain ⟨gv17, gv18⟩ := and_e gv16
  obtain ⟨gv19, gv20⟩ := and_e gv18
  obtain ⟨w0, w1, w2, rfl⟩ : ∃ w0 w1 w2 : Value, args = #[w0, w1, w2] := by
    have hs : args.size = 3 := by simpa [Cond.value, given_1] using gv1
    obtain ⟨L⟩ := args
    match L, hs with
    | [w0, w1, w2], _ => exact ⟨w0, w1, w2, rfl⟩
  have hw := fun d (hd : d ∈ tables_1) => atoms_spec (ws := Jvm.Cond.code x code maxLocals ret :: tables_1) hat d (List.mem_cons_of_mem _ hd)
  have hfit : Fit s := fun {y c} hc i hi => by
    obtain ⟨ha, rfl⟩ := Array.getElem?_eq_some_iff.mp hc
    have q := List.all_eq_true.mp ((Array.all_eq_true_iff_forall_mem.mp hF) _ (Array.getElem_mem ha)) i (List.mem_range.mpr hi)
    simpa [Array.getElem?_eq_getElem hi] using q
  obtain ⟨i0, ei0⟩ := is_v gv3
  obtain rfl : w0 = (.int i0) := Option.some.inj ei0
  obtain ⟨i1, ei1⟩ := is_v gv5
  obtain rfl : w1 = (.int i1) := Option.some.inj ei1
  obtain ⟨i2, ei2⟩ := is_v gv6
  obtain rfl : w2 = (.int i2) := Option.some.inj ei2
  obtain ⟨s_HistoryRecord_Op_READ, ev_s_HistoryRecord_Op_READ⟩ := exa_v gv7
  have S_s_HistoryRecord_Op_READ : Sta s s.heap "com/example/cohortbench/cohortbench/model/HistoryRecord$Op" "READ" "Lcom/example/cohortbench/cohortbench/model/HistoryRecord$Op;" (.ref s_HistoryRecord_Op_READ) := Sta.start ev_s_HistoryRecord_Op_READ (Or.inr ⟨(hw _ (List.mem_of_getElem? (i := 8) rfl)), (hw _ (List.mem_of_getElem? (i := 9) rfl))⟩)
  have E_s_HistoryRecord_Op_READ : Exa s s.heap s_HistoryRecord_Op_READ "com/example/cohortbench/cohortbench/model/HistoryRecord$Op" := Exa.start ev_s_HistoryRecord_Op_READ gv7
  obtain ⟨s_HistoryRecord_Op_WRITE, ev_s_HistoryRecord_Op_WRITE⟩ := exa_v gv9
  have S_s_HistoryRecord_Op_WRITE : Sta s s.heap "com/example/cohortbench/cohortbench/model/HistoryRecord$Op" "WRITE" "Lcom/example/cohortbench/cohortbench/model/HistoryRecord$Op;" (.ref s_HistoryRecord_Op_WRITE) := Sta.start ev_s_HistoryRecord_Op_WRITE (Or.inr ⟨(hw _ (List.mem_of_getElem? (i := 8) rfl)), (hw _ (List.mem_of_getElem? (i := 53) rfl))⟩)
  have E_s_HistoryRecord_Op_WRITE : Exa s s.heap s_HistoryRecord_Op_WRITE "com/example/cohortbench/cohortbench/model/HistoryRecord$Op" := Exa.start ev_s_HistoryRecord_Op_WRITE gv9
  obtain ⟨s_HistoryRecord_Op_ABORT, ev_s_HistoryRecord_Op_ABORT⟩ := exa_v gv15
  have S_s_HistoryRecord_Op_ABORT : Sta s s.heap "com/example/cohortbench/cohortbench/model/HistoryRecord$Op" "ABORT" "Lcom/example/cohortbench/cohortbench/model/HistoryRecord$Op;" (.ref s_HistoryRecord_Op_ABORT) := Sta.start ev_s_HistoryRecord_Op_ABORT (Or.inr ⟨(hw _ (List.mem_of_getElem? (i := 8) rfl)), (hw _ (List.mem_of_getElem? (i := 56) rfl))⟩)
  have E_s_HistoryRecord_Op_ABORT : Exa s s.heap s_HistoryRecord_Op_ABORT "com/example/cohortbench/cohortbench/model/HistoryRecord$Op" := Exa.start ev_s_HistoryRecord_Op_ABORT gv15
  obtain ⟨s_HistoryRecord_Op_COMMIT, ev_s_HistoryRecord_Op_COMMIT⟩ := exa_v gv19
  have S_s_HistoryRecord_Op_COMMIT : Sta s s.heap "com/example/cohortbench/cohortbench/model/HistoryRecord$Op" "COMMIT" "Lcom/example/cohortbench/cohortbench/model/HistoryRecord$Op;" (.ref s_HistoryRecord_Op_COMMIT) := Sta.start ev_s_HistoryRecord_Op_COMMIT (Or.inr ⟨(hw _ (List.mem_of_getElem? (i := 8) rfl)), (hw _ (List.mem_of_getElem? (i := 61) rfl))⟩)
  have E_s_HistoryRecord_Op_COMMIT : Exa s s.heap s_HistoryRecord_Op_COMMIT "com/example/cohortbench/cohortbench/model/HistoryRecord$Op" := Exa.start ev_s_HistoryRecord_Op_COMMIT gv19
  have F_s_HistoryRecord_Op_WRITE : Fld s s.heap s_HistoryRecord_Op_WRITE "java/lang/Enum" "ordinal" "I" (.int (1 : Int32)) := ord_v ev_s_HistoryRecord_Op_WRITE gv11
  have F_s_HistoryRecord_Op_READ : Fld s s.heap s_HistoryRecord_Op_READ "java/lang/Enum" "ordinal" "I" (.int (0 : Int32)) := ord_v ev_s_HistoryRecord_Op_READ gv13
  have F_s_HistoryRecord_Op_ABORT : Fld s s.heap s_HistoryRecord_Op_ABORT "java/lang/Enum" "ordinal" "I" (.int (3 : Int32)) := ord_v ev_s_HistoryRecord_Op_ABORT gv17
  have F_s_HistoryRecord_Op_COMMIT : Fld s s.heap s_HistoryRecord_Op_COMMIT "java/lang/Enum" "ordinal" "I" (.int (2 : Int32)) := ord_v ev_s_HistoryRecord_Op_COMMIT gv20
  obtain ⟨n, o, h1, h2, h3, _, L, rfl, ⟨rfl, N⟩, hq⟩ := rm0 l s _ hw tables_1 i0 i1 i2 s_HistoryRecord_Op_READ s_HistoryRecord_Op_WRITE s_HistoryRecord_Op_COMMIT s_HistoryRecord_Op_ABORT s.heap s.heap.size (Nat.le_refl _) S_s_HistoryRecord_Op_READ S_s_HistoryRecord_Op_WRITE S_s_HistoryRecord_Op_COMMIT S_s_HistoryRecord_Op_ABORT E_s_HistoryRecord_Op_READ E_s_HistoryRecord_Op_WRITE E_s_HistoryRecord_Op_COMMIT E_s_HistoryRecord_Op_ABORT (Fld.ne F_s_HistoryRecord_Op_READ F_s_HistoryRecord_Op_WRITE (by decide)) (Fld.ne F_s_HistoryRecord_Op_COMMIT F_s_HistoryRecord_Op_READ (by decide)) (Fld.ne F_s_HistoryRecord_Op_COMMIT F_s_HistoryRecord_Op_WRITE (by decide)) (Fld.ne F_s_HistoryRecord_Op_ABORT F_s_HistoryRecord_Op_READ (by decide)) (Fld.ne F_s_HistoryRecord_Op_ABORT F_s_HistoryRecord_Op_WRITE (by decide)) p e ha hc hk s m _ below hf ((Spec.applies_iff_loose hf).mp happ).1 ⟨rfl, State.Warmed39.refl s, rfl⟩ trivial
  refine ⟨n, _, h1, h2, h3, hpost _ _ _ _ _ _ ⟨Cond.after_iff.mpr rfl, Cond.after_iff.mpr (eq_i res_at (Term.int_eval (1)) rfl), trivial⟩ ⟨hq.1, hq.2.1, (hq.2.2.sift fun y hy => Or.inr (N y hy)).mono (by decide) (by decide)⟩⟩
theorem main_1_1 : Claimed_1_1 := comes_1 fun _ _ _ _ _ _ h hF => ⟨h.1, hF⟩
theorem main_1_2 : Claimed_1_2 := comes_1 fun _ _ _ _ _ _ h hF => ⟨h.2.1, hF⟩
end Jvm.Pilot.@@N@@
namespace Jvm.Pilot.@@N@@
open Jvm Jvm.ClassFile Sem Op Lib Jvm.Free Jvm.Stand Jvm.Pilot.@@N@@.Jvm.D
/-! MADE BY PROGRAM (witnessworld.py) out of the Statement's table words and the real class files: 14 classes; the members and pool entries that the words name. The judged class is class 1, her method 1. -/
namespace start1
open Jvm.ClassFile
def u (s : String) : CpInfo := .utf8 (stringToUtf16 s)
/-- a pool by its gaps: so many unusable entries, then the entry; so many at the end -/
def gap : Nat → List CpInfo → List CpInfo
  | 0, r => r
  | n + 1, r => .unusable :: gap n r
def poolList (es : List (Nat × CpInfo)) (last : Nat) : List CpInfo := es.foldr (fun e r => gap e.1 (e.2 :: r)) (gap last [])
def pool (es : List (Nat × CpInfo)) (last : Nat) : Array CpInfo := ⟨poolList es last⟩
def fileOf (pool : Array CpInfo) (this : Nat) (attrs : Array Attribute := #[]) (ms : Array MethodInfo := #[]) (fl : Nat := 33) (sup : Nat := 0) (ifs : Array Nat := #[]) (fds : Array FieldInfo := #[]) : ClassFile where
  minorVersion := 0
  majorVersion := 65
  constantPool := pool
  accessFlags := fl
  thisClass := this
  superClass := sup
  interfaces := ifs
  fields := fds
  methods := ms
  attributes := attrs
def plain (name : String) (sup : Option ClassId) : Class where
  name := name
  kind := .ordinary
  loader := none
  accessFlags := 33
  super := sup
  interfaces := #[]
  cf := none
  fields := #[]
  methods := #[]
  instanceTypes := #[]
  staticTypes := #[]
  resolved := #[]
  callSites := []
  init := .initialized
  statics := none
  mirror := none

def pool0 : Array CpInfo := pool [(5, u "<init>"), (0, u "()V"), (1, .class_ 10), (1, u "java/lang/Object")] 113

def k0c0 : Code := { maxStack := 0, maxLocals := 1, code := object_method_1_code, exceptionTable := #[], attributes := #[] }
def k0m0 : Method := { name := "<init>", desc := "()V", sig := { parameters := [], returnType := none }, accessFlags := 1, code := some k0c0 }
/-- java/lang/Object -/
def k0 : Class := { plain "java/lang/Object" none with
  accessFlags := 33
  interfaces := #[]
  cf := some (fileOf pool0 8 #[] #[{ accessFlags := 1, nameIndex := 5, descriptorIndex := 6, attributes := #[] }] 33 0 #[] #[])
  fields := #[]
  methods := #[k0m0]
  instanceTypes := #[]
  staticTypes := #[]
  resolved := Array.replicate 124 none
  statics := none }

def pool1 : Array CpInfo := pool [(2, .class_ 4), (1, u "java/lang/Object"), (0, u "<init>"), (0, u "()V"), (0, .integer 2147483647), (0, .methodref 9 10), (0, .class_ 11), (0, .nameAndType 12 13), (0, u "com/example/cohortbench/cohortbench/model/HistoryRecord"), (0, u "read"), (0, u "(DLcom/example/cohortbench/cohortbench/model/Incarnation;IILcom/example/cohortbench/cohortbench/model/Incarnation;)Lcom/example/cohortbench/cohortbench/model/HistoryRecord;"), (0, .methodref 9 15), (0, .nameAndType 16 17), (0, u "write"), (0, u "(DLcom/example/cohortbench/cohortbench/model/Incarnation;II)Lcom/example/cohortbench/cohortbench/model/HistoryRecord;"), (0, .fieldref 19 20), (0, .class_ 21), (0, .nameAndType 22 23), (0, u "com/example/cohortbench/cohortbench/model/HistoryRecord$Op"), (0, u "COMMIT"), (0, u "Lcom/example/cohortbench/cohortbench/model/HistoryRecord$Op;"), (0, .methodref 9 25), (0, .nameAndType 26 27), (0, u "decision"), (0, u "(DLcom/example/cohortbench/cohortbench/model/Incarnation;Lcom/example/cohortbench/cohortbench/model/HistoryRecord$Op;I)Lcom/example/cohortbench/cohortbench/model/HistoryRecord;"), (0, .fieldref 19 29), (0, .nameAndType 30 23), (0, u "ABORT"), (0, .methodref 9 32), (0, .nameAndType 33 34), (0, u "op"), (0, u "()Lcom/example/cohortbench/cohortbench/model/HistoryRecord$Op;"), (0, .methodref 19 36), (0, .nameAndType 37 38), (0, u "touchesItem"), (0, u "()Z"), (0, .methodref 9 40), (0, .nameAndType 41 42), (0, u "item"), (0, u "()I"), (0, .class_ 44), (0, u "com/example/cohortbench/cohortbench/model/OpTouchesItemPinLaw"), (2, u "law"), (0, u "(III)Z")] 5

def k1m0 : Method := { name := "<init>", desc := "()V", sig := { parameters := [], returnType := none }, accessFlags := 1, code := none }
def k1c1 : Code := { maxStack := 6, maxLocals := 9, code := code, exceptionTable := #[], attributes := #[] }
def k1m1 : Method := { name := "law", desc := "(III)Z", sig := { parameters := [.int, .int, .int], returnType := some .boolean }, accessFlags := 9, code := some k1c1 }
/-- com/example/cohortbench/cohortbench/model/OpTouchesItemPinLaw -/
def k1 : Class := { plain "com/example/cohortbench/cohortbench/model/OpTouchesItemPinLaw" (some 0) with
  accessFlags := 49
  interfaces := #[]
  cf := some (fileOf pool1 43 #[] #[{ accessFlags := 1, nameIndex := 5, descriptorIndex := 6, attributes := #[] }, { accessFlags := 9, nameIndex := 47, descriptorIndex := 48, attributes := #[] }] 49 2 #[] #[])
  fields := #[]
  methods := #[k1m0, k1m1]
  instanceTypes := #[]
  staticTypes := #[]
  resolved := Array.replicate 54 none
  statics := none }

def pool2 : Array CpInfo := pool [(1, .methodref 2 3), (0, .class_ 4), (0, .nameAndType 5 6), (0, u "java/lang/Object"), (0, u "<init>"), (0, u "()V"), (0, .class_ 8), (0, u "java/lang/Record")] 13

def k2c0 : Code := { maxStack := 1, maxLocals := 1, code := jdk_30_method_1_code, exceptionTable := #[], attributes := #[] }
def k2m0 : Method := { name := "<init>", desc := "()V", sig := { parameters := [], returnType := none }, accessFlags := 4, code := some k2c0 }
/-- java/lang/Record -/
def k2 : Class := { plain "java/lang/Record" (some 0) with
  accessFlags := 1057
  interfaces := #[]
  cf := some (fileOf pool2 7 #[] #[{ accessFlags := 4, nameIndex := 5, descriptorIndex := 6, attributes := #[] }] 1057 2 #[] #[])
  fields := #[]
  methods := #[k2m0]
  instanceTypes := #[]
  staticTypes := #[]
  resolved := Array.replicate 22 none
  statics := none }

def pool3 : Array CpInfo := pool [(1, .methodref 2 3), (0, .class_ 4), (0, .nameAndType 5 6), (0, u "java/lang/Record"), (0, u "<init>"), (0, u "()V"), (0, .fieldref 8 9), (0, .class_ 10), (0, .nameAndType 11 12), (0, u "com/example/cohortbench/cohortbench/model/HistoryRecord"), (0, u "timeMs"), (0, u "D"), (0, .fieldref 8 14), (0, .nameAndType 15 16), (0, u "unit"), (0, u "Lcom/example/cohortbench/cohortbench/model/Incarnation;"), (0, .fieldref 8 18), (0, .nameAndType 19 20), (0, u "op"), (0, u "Lcom/example/cohortbench/cohortbench/model/HistoryRecord$Op;"), (0, .fieldref 8 22), (0, .nameAndType 23 24), (0, u "site"), (0, u "I"), (0, .fieldref 8 26), (0, .nameAndType 27 24), (0, u "item"), (0, .fieldref 8 29), (0, .nameAndType 30 16), (0, u "from"), (0, .fieldref 32 33), (0, .class_ 34), (0, .nameAndType 35 20), (0, u "com/example/cohortbench/cohortbench/model/HistoryRecord$Op"), (0, u "READ"), (0, .methodref 8 37), (0, .nameAndType 5 38), (0, u "(DLcom/example/cohortbench/cohortbench/model/Incarnation;Lcom/example/cohortbench/cohortbench/model/HistoryRecord$Op;IILcom/example/cohortbench/cohortbench/model/Incarnation;)V"), (0, .fieldref 32 40), (0, .nameAndType 41 20), (0, u "WRITE"), (12, u "NO_ITEM"), (5, u "read"), (0, u "(DLcom/example/cohortbench/cohortbench/model/Incarnation;IILcom/example/cohortbench/cohortbench/model/Incarnation;)Lcom/example/cohortbench/cohortbench/model/HistoryRecord;"), (0, u "write"), (0, u "(DLcom/example/cohortbench/cohortbench/model/Incarnation;II)Lcom/example/cohortbench/cohortbench/model/HistoryRecord;"), (0, u "decision"), (0, u "(DLcom/example/cohortbench/cohortbench/model/Incarnation;Lcom/example/cohortbench/cohortbench/model/HistoryRecord$Op;I)Lcom/example/cohortbench/cohortbench/model/HistoryRecord;"), (1, u "()I"), (3, u "()Lcom/example/cohortbench/cohortbench/model/HistoryRecord$Op;")] 27

def k3c0 : Code := { maxStack := 3, maxLocals := 8, code := prog_72_method_1_code, exceptionTable := #[], attributes := #[] }
def k3m0 : Method := { name := "<init>", desc := "(DLcom/example/cohortbench/cohortbench/model/Incarnation;Lcom/example/cohortbench/cohortbench/model/HistoryRecord$Op;IILcom/example/cohortbench/cohortbench/model/Incarnation;)V", sig := { parameters := [.double, (.object "com/example/cohortbench/cohortbench/model/Incarnation"), (.object "com/example/cohortbench/cohortbench/model/HistoryRecord$Op"), .int, .int, (.object "com/example/cohortbench/cohortbench/model/Incarnation")], returnType := none }, accessFlags := 1, code := some k3c0 }
def k3c1 : Code := { maxStack := 9, maxLocals := 6, code := prog_72_method_2_code, exceptionTable := #[], attributes := #[] }
def k3m1 : Method := { name := "read", desc := "(DLcom/example/cohortbench/cohortbench/model/Incarnation;IILcom/example/cohortbench/cohortbench/model/Incarnation;)Lcom/example/cohortbench/cohortbench/model/HistoryRecord;", sig := { parameters := [.double, (.object "com/example/cohortbench/cohortbench/model/Incarnation"), .int, .int, (.object "com/example/cohortbench/cohortbench/model/Incarnation")], returnType := some (.object "com/example/cohortbench/cohortbench/model/HistoryRecord") }, accessFlags := 9, code := some k3c1 }
def k3c2 : Code := { maxStack := 9, maxLocals := 5, code := prog_72_method_3_code, exceptionTable := #[], attributes := #[] }
def k3m2 : Method := { name := "write", desc := "(DLcom/example/cohortbench/cohortbench/model/Incarnation;II)Lcom/example/cohortbench/cohortbench/model/HistoryRecord;", sig := { parameters := [.double, (.object "com/example/cohortbench/cohortbench/model/Incarnation"), .int, .int], returnType := some (.object "com/example/cohortbench/cohortbench/model/HistoryRecord") }, accessFlags := 9, code := some k3c2 }
def k3c3 : Code := { maxStack := 9, maxLocals := 5, code := prog_72_method_4_code, exceptionTable := #[], attributes := #[] }
def k3m3 : Method := { name := "decision", desc := "(DLcom/example/cohortbench/cohortbench/model/Incarnation;Lcom/example/cohortbench/cohortbench/model/HistoryRecord$Op;I)Lcom/example/cohortbench/cohortbench/model/HistoryRecord;", sig := { parameters := [.double, (.object "com/example/cohortbench/cohortbench/model/Incarnation"), (.object "com/example/cohortbench/cohortbench/model/HistoryRecord$Op"), .int], returnType := some (.object "com/example/cohortbench/cohortbench/model/HistoryRecord") }, accessFlags := 9, code := some k3c3 }
def k3c4 : Code := { maxStack := 1, maxLocals := 1, code := prog_72_method_10_code, exceptionTable := #[], attributes := #[] }
def k3m4 : Method := { name := "op", desc := "()Lcom/example/cohortbench/cohortbench/model/HistoryRecord$Op;", sig := { parameters := [], returnType := some (.object "com/example/cohortbench/cohortbench/model/HistoryRecord$Op") }, accessFlags := 1, code := some k3c4 }
def k3c5 : Code := { maxStack := 1, maxLocals := 1, code := prog_72_method_12_code, exceptionTable := #[], attributes := #[] }
def k3m5 : Method := { name := "item", desc := "()I", sig := { parameters := [], returnType := some .int }, accessFlags := 1, code := some k3c5 }
/-- com/example/cohortbench/cohortbench/model/HistoryRecord -/
def k3 : Class := { plain "com/example/cohortbench/cohortbench/model/HistoryRecord" (some 2) with
  accessFlags := 49
  interfaces := #[]
  cf := some (fileOf pool3 8 #[.nestMembers #[32]] #[{ accessFlags := 1, nameIndex := 5, descriptorIndex := 38, attributes := #[] }, { accessFlags := 9, nameIndex := 60, descriptorIndex := 61, attributes := #[] }, { accessFlags := 9, nameIndex := 62, descriptorIndex := 63, attributes := #[] }, { accessFlags := 9, nameIndex := 64, descriptorIndex := 65, attributes := #[] }, { accessFlags := 1, nameIndex := 19, descriptorIndex := 71, attributes := #[] }, { accessFlags := 1, nameIndex := 27, descriptorIndex := 67, attributes := #[] }] 49 2 #[] #[{ accessFlags := 18, nameIndex := 11, descriptorIndex := 12, attributes := #[] }, { accessFlags := 18, nameIndex := 15, descriptorIndex := 16, attributes := #[] }, { accessFlags := 18, nameIndex := 19, descriptorIndex := 20, attributes := #[] }, { accessFlags := 18, nameIndex := 23, descriptorIndex := 24, attributes := #[] }, { accessFlags := 18, nameIndex := 27, descriptorIndex := 24, attributes := #[] }, { accessFlags := 18, nameIndex := 30, descriptorIndex := 16, attributes := #[] }, { accessFlags := 25, nameIndex := 54, descriptorIndex := 24, attributes := #[] }])
  fields := #[{ name := "timeMs", type := .double, accessFlags := 18, slot := 0, constantValue := 0 }, { name := "unit", type := (.object "com/example/cohortbench/cohortbench/model/Incarnation"), accessFlags := 18, slot := 1, constantValue := 0 }, { name := "op", type := (.object "com/example/cohortbench/cohortbench/model/HistoryRecord$Op"), accessFlags := 18, slot := 2, constantValue := 0 }, { name := "site", type := .int, accessFlags := 18, slot := 3, constantValue := 0 }, { name := "item", type := .int, accessFlags := 18, slot := 4, constantValue := 0 }, { name := "from", type := (.object "com/example/cohortbench/cohortbench/model/Incarnation"), accessFlags := 18, slot := 5, constantValue := 0 }, { name := "NO_ITEM", type := .int, accessFlags := 25, slot := 0, constantValue := 0 }]
  methods := #[k3m0, k3m1, k3m2, k3m3, k3m4, k3m5]
  instanceTypes := #[.double, (.object "com/example/cohortbench/cohortbench/model/Incarnation"), (.object "com/example/cohortbench/cohortbench/model/HistoryRecord$Op"), .int, .int, (.object "com/example/cohortbench/cohortbench/model/Incarnation")]
  staticTypes := #[.int]
  resolved := Array.replicate 99 none
  statics := none }

def pool4 : Array CpInfo := pool [(1, .class_ 2), (0, u "java/lang/constant/Constable"), (0, .class_ 4), (0, u "java/lang/Object")] 6

/-- java/lang/constant/Constable -/
def k4 : Class := { plain "java/lang/constant/Constable" (some 0) with
  accessFlags := 1537
  interfaces := #[]
  cf := some (fileOf pool4 1 #[] #[] 1537 3 #[] #[])
  fields := #[]
  methods := #[]
  instanceTypes := #[]
  staticTypes := #[]
  resolved := Array.replicate 11 none
  statics := none }

def pool5 : Array CpInfo := pool [(1, .class_ 2), (0, u "java/lang/Comparable"), (0, .class_ 4), (0, u "java/lang/Object")] 7

/-- java/lang/Comparable -/
def k5 : Class := { plain "java/lang/Comparable" (some 0) with
  accessFlags := 1537
  interfaces := #[]
  cf := some (fileOf pool5 1 #[] #[] 1537 3 #[] #[])
  fields := #[]
  methods := #[]
  instanceTypes := #[]
  staticTypes := #[]
  resolved := Array.replicate 12 none
  statics := none }

def pool6 : Array CpInfo := pool [(1, .class_ 2), (0, u "java/io/Serializable"), (0, .class_ 4), (0, u "java/lang/Object")] 2

/-- java/io/Serializable -/
def k6 : Class := { plain "java/io/Serializable" (some 0) with
  accessFlags := 1537
  interfaces := #[]
  cf := some (fileOf pool6 1 #[] #[] 1537 3 #[] #[])
  fields := #[]
  methods := #[]
  instanceTypes := #[]
  staticTypes := #[]
  resolved := Array.replicate 7 none
  statics := none }

def pool7 : Array CpInfo := pool [(2, .class_ 4), (1, u "java/lang/Enum"), (0, u "name"), (0, u "Ljava/lang/String;"), (2, u "ordinal"), (0, u "I"), (1, .class_ 14), (1, u "java/lang/Object"), (4, u "hash"), (86, .class_ 108), (1, u "java/lang/Enum$EnumDesc"), (2, .class_ 112), (0, u "java/lang/constant/Constable"), (0, .class_ 114), (0, u "java/lang/Comparable"), (0, .class_ 116), (0, u "java/io/Serializable")] 87

/-- java/lang/Enum -/
def k7 : Class := { plain "java/lang/Enum" (some 0) with
  accessFlags := 1057
  interfaces := #[4, 5, 6]
  cf := some (fileOf pool7 2 #[.nestMembers #[106]] #[] 1057 12 #[111, 113, 115] #[{ accessFlags := 18, nameIndex := 5, descriptorIndex := 6, attributes := #[] }, { accessFlags := 18, nameIndex := 9, descriptorIndex := 10, attributes := #[] }, { accessFlags := 2, nameIndex := 19, descriptorIndex := 10, attributes := #[] }])
  fields := #[{ name := "name", type := (.object "java/lang/String"), accessFlags := 18, slot := 0, constantValue := 0 }, { name := "ordinal", type := .int, accessFlags := 18, slot := 1, constantValue := 0 }, { name := "hash", type := .int, accessFlags := 2, slot := 2, constantValue := 0 }]
  methods := #[]
  instanceTypes := #[(.object "java/lang/String"), .int, .int]
  staticTypes := #[]
  resolved := Array.replicate 204 none
  statics := none }

def pool8 : Array CpInfo := pool [(1, .class_ 2), (0, u "com/example/cohortbench/cohortbench/model/HistoryRecord$Op"), (0, .fieldref 1 4), (0, .nameAndType 5 6), (0, u "READ"), (0, u "Lcom/example/cohortbench/cohortbench/model/HistoryRecord$Op;"), (0, .fieldref 1 8), (0, .nameAndType 9 6), (0, u "WRITE"), (2, u "COMMIT"), (2, u "ABORT"), (2, u "$VALUES"), (0, u "[Lcom/example/cohortbench/cohortbench/model/HistoryRecord$Op;"), (6, .class_ 28), (1, u "java/lang/Enum"), (8, u "code"), (0, u "Ljava/lang/String;"), (61, u "touchesItem"), (0, u "()Z"), (11, .class_ 114), (0, u "com/example/cohortbench/cohortbench/model/HistoryRecord")] 21

def k8c0 : Code := { maxStack := 2, maxLocals := 1, code := prog_73_method_5_code, exceptionTable := #[], attributes := #[] }
def k8m0 : Method := { name := "touchesItem", desc := "()Z", sig := { parameters := [], returnType := some .boolean }, accessFlags := 1, code := some k8c0 }
/-- com/example/cohortbench/cohortbench/model/HistoryRecord$Op -/
def k8 : Class := { plain "com/example/cohortbench/cohortbench/model/HistoryRecord$Op" (some 7) with
  accessFlags := 16433
  interfaces := #[]
  cf := some (fileOf pool8 1 #[.nestHost 113] #[{ accessFlags := 1, nameIndex := 100, descriptorIndex := 101, attributes := #[] }] 16433 26 #[] #[{ accessFlags := 16409, nameIndex := 5, descriptorIndex := 6, attributes := #[] }, { accessFlags := 16409, nameIndex := 9, descriptorIndex := 6, attributes := #[] }, { accessFlags := 16409, nameIndex := 12, descriptorIndex := 6, attributes := #[] }, { accessFlags := 16409, nameIndex := 15, descriptorIndex := 6, attributes := #[] }, { accessFlags := 18, nameIndex := 37, descriptorIndex := 38, attributes := #[] }, { accessFlags := 4122, nameIndex := 18, descriptorIndex := 19, attributes := #[] }])
  fields := #[{ name := "READ", type := (.object "com/example/cohortbench/cohortbench/model/HistoryRecord$Op"), accessFlags := 16409, slot := 0, constantValue := 0 }, { name := "WRITE", type := (.object "com/example/cohortbench/cohortbench/model/HistoryRecord$Op"), accessFlags := 16409, slot := 1, constantValue := 0 }, { name := "COMMIT", type := (.object "com/example/cohortbench/cohortbench/model/HistoryRecord$Op"), accessFlags := 16409, slot := 2, constantValue := 0 }, { name := "ABORT", type := (.object "com/example/cohortbench/cohortbench/model/HistoryRecord$Op"), accessFlags := 16409, slot := 3, constantValue := 0 }, { name := "code", type := (.object "java/lang/String"), accessFlags := 18, slot := 3, constantValue := 0 }, { name := "$VALUES", type := (.array (.object "com/example/cohortbench/cohortbench/model/HistoryRecord$Op")), accessFlags := 4122, slot := 4, constantValue := 0 }]
  methods := #[k8m0]
  instanceTypes := #[(.object "java/lang/String"), .int, .int, (.object "java/lang/String")]
  staticTypes := #[(.object "com/example/cohortbench/cohortbench/model/HistoryRecord$Op"), (.object "com/example/cohortbench/cohortbench/model/HistoryRecord$Op"), (.object "com/example/cohortbench/cohortbench/model/HistoryRecord$Op"), (.object "com/example/cohortbench/cohortbench/model/HistoryRecord$Op"), (.array (.object "com/example/cohortbench/cohortbench/model/HistoryRecord$Op"))]
  resolved := Array.replicate 136 none
  statics := some 0 }

def pool9 : Array CpInfo := pool [(1, u "java/lang/Cloneable"), (0, .class_ 1), (0, u "java/lang/Object"), (0, .class_ 3)] 3

/-- java/lang/Cloneable -/
def k9 : Class := { plain "java/lang/Cloneable" (some 0) with
  accessFlags := 1537
  interfaces := #[]
  cf := some (fileOf pool9 2 #[] #[] 1537 4 #[] #[])
  fields := #[]
  methods := #[]
  instanceTypes := #[]
  staticTypes := #[]
  resolved := Array.replicate 8 none
  statics := none }

/-- the primitive byte -/
def k10 : Class := { plain "byte" none with kind := .primitive 'B', accessFlags := 0x411 }
/-- [B -/
def k11 : Class := { plain "[B" (some 0) with kind := .array 10 .byte, interfaces := #[9, 6], accessFlags := 1041 }

/-- the primitive int -/
def k12 : Class := { plain "int" none with kind := .primitive 'I', accessFlags := 0x411 }
/-- [I -/
def k13 : Class := { plain "[I" (some 0) with kind := .array 12 .int, interfaces := #[9, 6], accessFlags := 1041 }

def heap : Heap := #[{ cls := 8, slots := #[.ref 1, .ref 2, .ref 4, .ref 3, .null], vm := .statics 8 },
  { cls := 8, slots := #[.null, .int 0, .int 0, .null], vm := .none },
  { cls := 8, slots := #[.null, .int 1, .int 0, .null], vm := .none },
  { cls := 8, slots := #[.null, .int 3, .int 0, .null], vm := .none },
  { cls := 8, slots := #[.null, .int 2, .int 0, .null], vm := .none }]
def classes : Array Class := #[k0, k1, k2, k3, k4, k5, k6, k7, k8, k9, k10, k11, k12, k13]
def interned : List (Array UInt16 × Addr) := []
def slotsUsed : Nat := 21
def theMethod : MethodId := ⟨1, 1⟩
def args0 : Array Value := #[.int 2, .int 1, .int 4]
def aboutOver (below : List Frame) : State where
  vm := { classes := classes, interned := interned.toArray }
  heap := heap
  slotsUsed := slotsUsed
  threads := #[{ frames := .invoking theMethod args0 :: below }]
def below0 : List Frame := [.native { method := ⟨0, 0⟩, args := #[] }]
def about1 : State := aboutOver below0
def p0 : Program := .bare "" "" ""
def e0 : Env := launch0.env 0 0 0
theorem w_frames : about1.frames = Frame.invoking theMethod args0 :: below0 := rfl
set_option maxRecDepth 65536 in
theorem w_args : argsFit about1.vm theMethod args0 = true := by decide +kernel
set_option maxRecDepth 65536 in
theorem w_heap : heapFits about1 = true := by decide +kernel
set_option maxRecDepth 65536 in
theorem w_runnable : about1.curStatus? = some .runnable := by decide +kernel
set_option maxRecDepth 65536 in
theorem w_alone : about1.alone = true := by decide +kernel
set_option maxRecDepth 65536 in
theorem w_named : about1.methodNamed? x = some theMethod := by decide +kernel
set_option maxRecDepth 65536 in
theorem w_hears : about1.hears theMethod below0 = true := by decide +kernel
set_option maxRecDepth 65536 in
theorem w_ripe : about1.ripe theMethod args0 below0 = true := by decide +kernel
theorem w_running : about1.status = .running := rfl
set_option maxRecDepth 65536 in
theorem w_room : about1.hasRoom e0.platform room_1 = true :=
  launch0.hasRoom_least _ room_1 (by decide +kernel) (by decide +kernel) (by decide +kernel) (by decide +kernel) (by decide +kernel) (by decide +kernel)
theorem allAtoms_all (ts : List Jvm.Cond) (a : Array Jvm.Value) (st : Jvm.State) : (allAtoms ts).before a st = ts.all (fun c => c.before a st) := by
  induction ts with
  | nil => rfl
  | cons c t ih =>
    show (Jvm.Cond.and c (allAtoms t)).before a st = _
    rw [Jvm.Cond.before_and, ih, List.all_cons]
def words1 : List Jvm.Cond := Jvm.Cond.code x code maxLocals ret :: tables_1
/-- a 'code' word, met by the world's own term for the bytes: nothing is compared byte by byte -/
theorem code_word {y : MethodName} {bytes : ByteArray} {mx : Nat} {rt : Option FieldType} {a : Array Value} {s : State} {m : MethodId} {meth : Method} {c : Code} (h1 : s.methodNamed? y = some m) (h2 : s.vm.method? m = some meth) (h3 : meth.code = some c) (h4 : c.code = bytes)
    (h5 : (c.maxLocals == mx && c.exceptionTable.isEmpty && decide (c.maxStack ≤ mostOperands) && decide (meth.sig.returnType = rt) && !meth.locks && decide (parseMethodDescriptor y.desc = some meth.sig)) = true) : (Jvm.Cond.code y bytes mx rt).before a s = true := by
  simp only [Bool.and_eq_true, beq_iff_eq, Bool.not_eq_true', decide_eq_true_eq] at h5
  obtain ⟨⟨⟨⟨⟨g1, g2⟩, g3⟩, g4⟩, g5⟩, g6⟩ := h5
  simp [Cond.before, Cond.holds, Cond.value, h1, h2, h3, h4, g1, g2, g3, g4, g5, g6]
def isCode : Jvm.Cond → Bool
  | .code _ _ _ _ => true
  | _ => false
theorem all_split {L : List Jvm.Cond} {P : Jvm.Cond → Bool} (h1 : L.all (fun c => isCode c || P c) = true) (h2 : ∀ c ∈ L.filter isCode, P c = true) : L.all P = true := by
  refine List.all_eq_true.mpr fun c hc => ?_
  have h := List.all_eq_true.mp h1 c hc
  rcases Bool.eq_false_or_eq_true (isCode c) with hi | hi
  · exact h2 c (List.mem_filter.mpr ⟨hc, hi⟩)
  · simpa [hi] using h
set_option maxRecDepth 65536 in
theorem w_c0 : (Jvm.Cond.code x code maxLocals ret).before args0 about1 = true := code_word (m := ⟨1, 1⟩) (meth := k1m1) (c := k1c1) (by decide +kernel) rfl rfl rfl (by decide +kernel)
set_option maxRecDepth 65536 in
theorem w_c1 : (Jvm.Cond.code ({ cls := "com/example/cohortbench/cohortbench/model/HistoryRecord", name := "read", desc := "(DLcom/example/cohortbench/cohortbench/model/Incarnation;IILcom/example/cohortbench/cohortbench/model/Incarnation;)Lcom/example/cohortbench/cohortbench/model/HistoryRecord;" } : Jvm.MethodName) prog_72_method_2_code (6 : Nat) (Option.some (Jvm.ClassFile.FieldType.object "com/example/cohortbench/cohortbench/model/HistoryRecord"))).before args0 about1 = true := code_word (m := ⟨3, 1⟩) (meth := k3m1) (c := k3c1) (by decide +kernel) rfl rfl rfl (by decide +kernel)
set_option maxRecDepth 65536 in
theorem w_c2 : (Jvm.Cond.code ({ cls := "com/example/cohortbench/cohortbench/model/HistoryRecord", name := "<init>", desc := "(DLcom/example/cohortbench/cohortbench/model/Incarnation;Lcom/example/cohortbench/cohortbench/model/HistoryRecord$Op;IILcom/example/cohortbench/cohortbench/model/Incarnation;)V" } : Jvm.MethodName) prog_72_method_1_code (8 : Nat) (Option.none : Option Jvm.ClassFile.FieldType)).before args0 about1 = true := code_word (m := ⟨3, 0⟩) (meth := k3m0) (c := k3c0) (by decide +kernel) rfl rfl rfl (by decide +kernel)
set_option maxRecDepth 65536 in
theorem w_c3 : (Jvm.Cond.code ({ cls := "java/lang/Record", name := "<init>", desc := "()V" } : Jvm.MethodName) jdk_30_method_1_code (1 : Nat) (Option.none : Option Jvm.ClassFile.FieldType)).before args0 about1 = true := code_word (m := ⟨2, 0⟩) (meth := k2m0) (c := k2c0) (by decide +kernel) rfl rfl rfl (by decide +kernel)
set_option maxRecDepth 65536 in
theorem w_c4 : (Jvm.Cond.code ({ cls := "java/lang/Object", name := "<init>", desc := "()V" } : Jvm.MethodName) object_method_1_code (1 : Nat) (Option.none : Option Jvm.ClassFile.FieldType)).before args0 about1 = true := code_word (m := ⟨0, 0⟩) (meth := k0m0) (c := k0c0) (by decide +kernel) rfl rfl rfl (by decide +kernel)
set_option maxRecDepth 65536 in
theorem w_c5 : (Jvm.Cond.code ({ cls := "com/example/cohortbench/cohortbench/model/HistoryRecord", name := "op", desc := "()Lcom/example/cohortbench/cohortbench/model/HistoryRecord$Op;" } : Jvm.MethodName) prog_72_method_10_code (1 : Nat) (Option.some (Jvm.ClassFile.FieldType.object "com/example/cohortbench/cohortbench/model/HistoryRecord$Op"))).before args0 about1 = true := code_word (m := ⟨3, 4⟩) (meth := k3m4) (c := k3c4) (by decide +kernel) rfl rfl rfl (by decide +kernel)
set_option maxRecDepth 65536 in
theorem w_c6 : (Jvm.Cond.code ({ cls := "com/example/cohortbench/cohortbench/model/HistoryRecord$Op", name := "touchesItem", desc := "()Z" } : Jvm.MethodName) prog_73_method_5_code (1 : Nat) (Option.some Jvm.ClassFile.FieldType.boolean)).before args0 about1 = true := code_word (m := ⟨8, 0⟩) (meth := k8m0) (c := k8c0) (by decide +kernel) rfl rfl rfl (by decide +kernel)
set_option maxRecDepth 65536 in
theorem w_c7 : (Jvm.Cond.code ({ cls := "com/example/cohortbench/cohortbench/model/HistoryRecord", name := "item", desc := "()I" } : Jvm.MethodName) prog_72_method_12_code (1 : Nat) (Option.some Jvm.ClassFile.FieldType.int)).before args0 about1 = true := code_word (m := ⟨3, 5⟩) (meth := k3m5) (c := k3c5) (by decide +kernel) rfl rfl rfl (by decide +kernel)
set_option maxRecDepth 65536 in
theorem w_c8 : (Jvm.Cond.code ({ cls := "com/example/cohortbench/cohortbench/model/HistoryRecord", name := "write", desc := "(DLcom/example/cohortbench/cohortbench/model/Incarnation;II)Lcom/example/cohortbench/cohortbench/model/HistoryRecord;" } : Jvm.MethodName) prog_72_method_3_code (5 : Nat) (Option.some (Jvm.ClassFile.FieldType.object "com/example/cohortbench/cohortbench/model/HistoryRecord"))).before args0 about1 = true := code_word (m := ⟨3, 2⟩) (meth := k3m2) (c := k3c2) (by decide +kernel) rfl rfl rfl (by decide +kernel)
set_option maxRecDepth 65536 in
theorem w_c9 : (Jvm.Cond.code ({ cls := "com/example/cohortbench/cohortbench/model/HistoryRecord", name := "decision", desc := "(DLcom/example/cohortbench/cohortbench/model/Incarnation;Lcom/example/cohortbench/cohortbench/model/HistoryRecord$Op;I)Lcom/example/cohortbench/cohortbench/model/HistoryRecord;" } : Jvm.MethodName) prog_72_method_4_code (5 : Nat) (Option.some (Jvm.ClassFile.FieldType.object "com/example/cohortbench/cohortbench/model/HistoryRecord"))).before args0 about1 = true := code_word (m := ⟨3, 3⟩) (meth := k3m3) (c := k3c3) (by decide +kernel) rfl rfl rfl (by decide +kernel)
def codes1 : List Jvm.Cond := [Jvm.Cond.code x code maxLocals ret, Jvm.Cond.code ({ cls := "com/example/cohortbench/cohortbench/model/HistoryRecord", name := "read", desc := "(DLcom/example/cohortbench/cohortbench/model/Incarnation;IILcom/example/cohortbench/cohortbench/model/Incarnation;)Lcom/example/cohortbench/cohortbench/model/HistoryRecord;" } : Jvm.MethodName) prog_72_method_2_code (6 : Nat) (Option.some (Jvm.ClassFile.FieldType.object "com/example/cohortbench/cohortbench/model/HistoryRecord")), Jvm.Cond.code ({ cls := "com/example/cohortbench/cohortbench/model/HistoryRecord", name := "<init>", desc := "(DLcom/example/cohortbench/cohortbench/model/Incarnation;Lcom/example/cohortbench/cohortbench/model/HistoryRecord$Op;IILcom/example/cohortbench/cohortbench/model/Incarnation;)V" } : Jvm.MethodName) prog_72_method_1_code (8 : Nat) (Option.none : Option Jvm.ClassFile.FieldType), Jvm.Cond.code ({ cls := "java/lang/Record", name := "<init>", desc := "()V" } : Jvm.MethodName) jdk_30_method_1_code (1 : Nat) (Option.none : Option Jvm.ClassFile.FieldType), Jvm.Cond.code ({ cls := "java/lang/Object", name := "<init>", desc := "()V" } : Jvm.MethodName) object_method_1_code (1 : Nat) (Option.none : Option Jvm.ClassFile.FieldType), Jvm.Cond.code ({ cls := "com/example/cohortbench/cohortbench/model/HistoryRecord", name := "op", desc := "()Lcom/example/cohortbench/cohortbench/model/HistoryRecord$Op;" } : Jvm.MethodName) prog_72_method_10_code (1 : Nat) (Option.some (Jvm.ClassFile.FieldType.object "com/example/cohortbench/cohortbench/model/HistoryRecord$Op")), Jvm.Cond.code ({ cls := "com/example/cohortbench/cohortbench/model/HistoryRecord$Op", name := "touchesItem", desc := "()Z" } : Jvm.MethodName) prog_73_method_5_code (1 : Nat) (Option.some Jvm.ClassFile.FieldType.boolean), Jvm.Cond.code ({ cls := "com/example/cohortbench/cohortbench/model/HistoryRecord", name := "item", desc := "()I" } : Jvm.MethodName) prog_72_method_12_code (1 : Nat) (Option.some Jvm.ClassFile.FieldType.int), Jvm.Cond.code ({ cls := "com/example/cohortbench/cohortbench/model/HistoryRecord", name := "write", desc := "(DLcom/example/cohortbench/cohortbench/model/Incarnation;II)Lcom/example/cohortbench/cohortbench/model/HistoryRecord;" } : Jvm.MethodName) prog_72_method_3_code (5 : Nat) (Option.some (Jvm.ClassFile.FieldType.object "com/example/cohortbench/cohortbench/model/HistoryRecord")), Jvm.Cond.code ({ cls := "com/example/cohortbench/cohortbench/model/HistoryRecord", name := "decision", desc := "(DLcom/example/cohortbench/cohortbench/model/Incarnation;Lcom/example/cohortbench/cohortbench/model/HistoryRecord$Op;I)Lcom/example/cohortbench/cohortbench/model/HistoryRecord;" } : Jvm.MethodName) prog_72_method_4_code (5 : Nat) (Option.some (Jvm.ClassFile.FieldType.object "com/example/cohortbench/cohortbench/model/HistoryRecord"))]
set_option maxRecDepth 65536 in
theorem codes_eq : words1.filter isCode = codes1 := rfl
theorem w_codes : ∀ c ∈ words1.filter isCode, c.before args0 about1 = true := by
  rw [codes_eq]
  intro c hc
  simp only [codes1, List.mem_cons, List.not_mem_nil, or_false] at hc
  rcases hc with rfl | rfl | rfl | rfl | rfl | rfl | rfl | rfl | rfl | rfl
  · exact w_c0
  · exact w_c1
  · exact w_c2
  · exact w_c3
  · exact w_c4
  · exact w_c5
  · exact w_c6
  · exact w_c7
  · exact w_c8
  · exact w_c9
set_option maxRecDepth 65536 in
theorem w_t1 : (words1.take 24).all (fun c => isCode c || c.before args0 about1) = true := by decide +kernel
set_option maxRecDepth 65536 in
theorem w_t2 : ((words1.drop 24).take 24).all (fun c => isCode c || c.before args0 about1) = true := by decide +kernel
set_option maxRecDepth 65536 in
theorem w_t3 : ((words1.drop 24).drop 24).all (fun c => isCode c || c.before args0 about1) = true := by decide +kernel
theorem w_tables : (allAtoms (Jvm.Cond.code x code maxLocals ret :: tables_1)).before args0 about1 = true := by
  rw [allAtoms_all]
  show words1.all (fun c => c.before args0 about1) = true
  refine all_split ?_ w_codes
  rw [← List.take_append_drop 24 words1, List.all_append, w_t1, ← List.take_append_drop 24 (words1.drop 24), List.all_append, w_t2, w_t3]
  rfl
set_option maxRecDepth 65536 in
theorem w_case : (Jvm.Cond.and given_1 narrow_1).before args0 about1 = true := by decide +kernel
theorem w_applies : (headSpec (Jvm.Cond.code x code maxLocals ret :: tables_1) room_1).applies x e0.platform about1 = true :=
  (Spec.applies_iff w_frames).mpr ⟨w_running, w_runnable, w_alone, w_named, w_hears, w_ripe, w_room, w_tables⟩
theorem atStart : AtStart classFile x code maxLocals ret World_1 tables_1 room_1 Calls_1 rest_1 Pre_1 launch0 p0 e0 about1 theMethod args0 below0 :=
  ⟨lists_1, trivial, launch0.admits_env _ _ _, launch0.least_env, fairChoices_fair.cas, fairChoices_fair.clock, w_frames, w_args, w_heap, w_applies, trivial, trivial, w_case⟩
end start1
theorem witness_1 : WitnessClaimed_1 := ⟨start1.p0, start1.e0, start1.about1, start1.theMethod, start1.args0, start1.below0, start1.atStart⟩
end Jvm.Pilot.@@N@@
