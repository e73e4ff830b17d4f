import JvmDerived
import JvmDerived.Pilot.@@N@@Statement
import JvmDerived.Pilot.@@N@@Code
set_option linter.unusedVariables false
set_option linter.unusedSimpArgs false
namespace Jvm.Pilot.@@N@@
open Jvm Jvm.ClassFile Sem Op Lib Jvm.Free Jvm.Stand Jvm.LawKit Jvm.RoadKit Bundle Jvm.Pilot.@@N@@.Jvm.D
section OwnRun
variable {p : Program} {l : Launch} {e : Env} {R : Room} {s : State} {m : MethodId} {args : Array Value} {below : List Frame} {meth : Method} {c : Code} {T : State} {locs : List Loc} {cells slots : Nat}
/-- from S the run comes to its end, and there Q holds -/
def Run (p : Program) (e : Env) (below : List Frame) (Q : State → Outcome → Prop) (S : State) : Prop := ∃ s₂ o, Steps p.tables e below S s₂ ∧ s₂.status = .running ∧ Ended s₂ below o ∧ Q s₂ o
def Ends (s : State) (Qb : Option Value → Heap → List Loc → Prop) (C S : Nat) : State → Outcome → Prop := fun s₂ o => ∃ v L, o = .returned v ∧ Qb v s₂.heap L ∧ FrameEnd s o s₂ L C S
theorem Run.st {Q : State → Outcome → Prop} {S S' : State} (h : ∀ t, Steps p.tables e below S' t → Steps p.tables e below S t) (r : Run p e below Q S') : Run p e below Q S := by
  obtain ⟨a, b, c, d⟩ := r
  exact ⟨a, b, h _ c, d⟩
theorem Run.out (X : Stand p l e R s m args below meth c T locs cells slots) (hx : p.tables.exec = Jvm.exec) {Qb : Option Value → Heap → List Loc → Prop} {C S : Nat} {pc : Nat} {Ls : Array Slot} {w : Value} {t : FieldType} {i : Instr} {rest : List Value} (hlocks : meth.locks = false) (hret : meth.sig.returnType = some t) (hn : narrow t w = w)
    (hi : (i = .ireturn ∧ (t = .int ∨ t = .boolean ∨ t = .byte ∨ t = .char ∨ t = .short) ∧ ∃ z, w = .int z) ∨ (i = .lreturn ∧ t = .long ∧ ∃ z, w = .long z) ∨ (i = .dreturn ∧ t = .double ∧ ∃ z, w = .double z) ∨ (i = .freturn ∧ t = .float ∧ ∃ z, w = .float z) ∨ (i = .areturn ∧ t.isReference = true ∧ w.isRef = true))
    (hd : decode c.code pc = .ok (i, 1)) (hC : cells ≤ C) (hS : slots ≤ S) (hq : Qb (some w) T.heap locs) : Run p e below (Ends s Qb C S) (T.setTop (mkF m pc Ls (w :: rest))) := by
  obtain ⟨fs, hr, hrun, hended, hW, hsame⟩ := X.leave (v := some w) (fun h => by rw [hret] at h; cases h) hlocks
  exact ⟨_, _, retOut X hx hret hn hi hd hr, hrun, hended, _, _, rfl, hq, ⟨_, rfl⟩, hW, hsame.mono hC hS⟩
theorem Run.outV (X : Stand p l e R s m args below meth c T locs cells slots) (hx : p.tables.exec = Jvm.exec) {Qb : Option Value → Heap → List Loc → Prop} {C S : Nat} {pc : Nat} {Ls : Array Slot} (hlocks : meth.locks = false) (hret : meth.sig.returnType = none)
    (hd : decode c.code pc = .ok (.return_, 1)) (hC : cells ≤ C) (hS : slots ≤ S) (hq : Qb none T.heap locs) : Run p e below (Ends s Qb C S) (T.setTop (mkF m pc Ls [])) := by
  obtain ⟨fs, hr, hrun, hended, hW, hsame⟩ := X.leave (v := none) (fun _ => rfl) hlocks
  exact ⟨_, _, X.returnOut hx hret hd hr, hrun, hended, _, _, rfl, hq, ⟨_, rfl⟩, hW, hsame.mono hC hS⟩
theorem lcYes {cd : ClassFile.Cond} {x y : Int64} {b : Bool} (h : ifCond.holds cd (Jvm.Free.XT.cmpL x y) = b) : ifCond.holds cd (lcmpW x y) = b := h
theorem nb01 {P : Prop} [Decidable P] : narrow .boolean (.int (if P then (1 : Int32) else (0 : Int32))) = .int (if P then (1 : Int32) else (0 : Int32)) := by split <;> rfl
theorem staK {Z : State} {h h' : Heap} {C n d : String} {v : Value} {ws : List Addr} (F : Sta Z h C n d v) (K : Keep h h' ws) (q : ∀ x ∈ ws, ∀ c : Cell, h[x]? = some c → c.vm.isStatics = false) : Sta Z h' C n d v := by
  obtain ⟨cf, i, k, f, st, cell, h1, h2, h3, h4, h5, h6, h7⟩ := F
  refine ⟨cf, i, k, f, st, cell, h1, h2, h3, h4, K.2.1 st cell h5 (fun m => ?_), h6, h7⟩
  have := q st m cell h5
  rw [h6] at this
  cases this
theorem exaP {Z : State} {h : Heap} {a : Addr} {C : String} (E : Exa Z h a C) : ∀ c : Cell, h[a]? = some c → c.vm.isStatics = false := fun c hc => by
  obtain ⟨cell, k, h1, -, -, h4, -⟩ := E
  cases h1.symm.trans hc
  exact h4
theorem arvP {Z : State} {h : Heap} {a : Addr} {k : ClassId} {ty : FieldType} {n : Int32} {vs : List Value} {d : Value} (E : Arv Z h a k ty n vs d) : ∀ c : Cell, h[a]? = some c → c.vm.isStatics = false := fun c hc => by
  obtain ⟨cell, A, -⟩ := E
  cases A.1.symm.trans hc
  exact A.plain
theorem selSelf {s : State} {args : Array Value} {y : MethodName} {n : Nat} (wi : (Jvm.Cond.instantiable y.cls n).before args s = true) (hp : s.PrivateAt y) (hi : (Jvm.Cond.instanceMethod y).before args s = true) (hy : y.cls ≠ "java/lang/invoke/MethodHandle" ∧ y.cls ≠ "java/lang/invoke/VarHandle") : (Jvm.Cond.selects y.cls y y).before args s = true := by
  obtain ⟨c, k, h1, h2, -, h4, -⟩ := Cond.instantiable_spec wi
  rw [Bool.or_eq_false_iff] at h4
  exact selects_self_of_private h1 h2 h4.1 hp hi hy
theorem own_lsw {tb : Tables} [Ours tb] {e : Env} {below : List Frame} {T target : State} {m : MethodId} {c : Code} {g : JFrame} (h : At T m c below) (hx : tb.exec = Jvm.exec) (hg : g.method = m) {dflt : Int} {ps : Array (Int × Int)} {len : Nat} {o : Int} {pc0 pc' : Nat} (hpc : g.pc = pc0) (hd : decode c.code g.pc = .ok (.lookupswitch dflt ps, len)) {i : Int32} {rest : List Value} (hs : g.stack = .int i :: rest)
    (hsort : ∀ q ∈ ps.toList.zip ps.toList.tail, q.1.1 < q.2.1) (hoff : lookupswitch.offset ps.toList dflt i.toInt = o) (ho : 0 ≤ (pc0 : Int) + o) (hp : ((pc0 : Int) + o).toNat = pc')
    (hr : Steps tb e below (T.setTop { g with pc := pc', stack := rest }) target) : Steps tb e below (T.setTop g) target := by
  subst hg hpc hp
  jvm_step h [h.top, hx, hd, hs, hoff, ho, lookupswitch.wp_chain]
  exact ⟨fun a b a1 b1 q => hsort _ q, hr⟩
theorem ord_v {args : Array Value} {s : State} {t : Term} {C n d : String} {k : Int32} {a : Addr} (ht : t.eval args s none [] s = some (.ref a)) (h : (Jvm.Cond.eq (.field t C n d) (.int k)).value args s none s [] = some true) : Fld s s.heap a C n d (.int k) := by
  refine Fld.start ?_
  rw [← fld_at (C := C) (n := n) (dd := d) ht]
  simp only [Cond.value] at h
  cases hv : (Term.field t C n d).eval args s none [] s with
  | none => simp [hv] at h
  | some v => cases v <;> simp_all [Term.eval]
theorem arr_len {args : Array Value} {s : State} {t : Term} {a : Addr} {cl : Cell} {ty : FieldType} {n : Int32} (ht : t.eval args s none [] s = some (.ref a)) (A : Arr s s.heap a cl ty) (h : (Jvm.Cond.eq (.length t) (.int n)).value args s none s [] = some true) : cl.slots.size < 2 ^ 31 ∧ cl.slots.size.toInt32 = n := by
  have ha := A.fin (Vm.Alike.refl s.vm)
  by_cases q : cl.slots.size < 2 ^ 31
  · refine ⟨q, ?_⟩
    have e := len_f ht ha q
    have e2 : (Term.int n).eval args s none [] s = some (.int n) := rfl
    simp only [Cond.value, e, e2] at h
    simpa using h
  · simp [Cond.value, Term.eval, ht, ha, q] at h
theorem arr_elR {args : Array Value} {s : State} {t u : Term} {a b : Addr} {cl : Cell} {ty : FieldType} {j : Int32} (ht : t.eval args s none [] s = some (.ref a)) (A : Arr s s.heap a cl ty) (h : (Jvm.Cond.eq (.elem t (.int j)) u).value args s none s [] = some true) (hu : u.eval args s none [] s = some (.ref b)) (hj : ¬ j < 0) : cl.slots[j.toNatClampNeg]? = some (.ref b) := by
  have ha := A.fin (Vm.Alike.refl s.vm)
  have e : (Term.elem t (.int j)).eval args s none [] s = cl.slots[j.toNatClampNeg]? := elem_f ht rfl ha hj
  simp only [Cond.value, hu, e] at h
  cases hv : cl.slots[j.toNatClampNeg]? with
  | none => simp [hv] at h
  | some v => cases v <;> simp_all
theorem arr_elI {args : Array Value} {s : State} {t : Term} {a : Addr} {cl : Cell} {ty : FieldType} {j k : Int32} (ht : t.eval args s none [] s = some (.ref a)) (A : Arr s s.heap a cl ty) (h : (Jvm.Cond.eq (.elem t (.int j)) (.int k)).value args s none s [] = some true) (hj : ¬ j < 0) : cl.slots[j.toNatClampNeg]? = some (.int k) := by
  have ha := A.fin (Vm.Alike.refl s.vm)
  have e : (Term.elem t (.int j)).eval args s none [] s = cl.slots[j.toNatClampNeg]? := elem_f ht rfl ha hj
  have e2 : (Term.int k).eval args s none [] s = some (.int k) := rfl
  simp only [Cond.value, e, e2] at h
  cases hv : cl.slots[j.toNatClampNeg]? with
  | none => simp [hv] at h
  | some v => cases v <;> simp_all
theorem inb32 {j z : Int32} {n : Int} (hz : z.toInt = n) (h0 : 0 ≤ j.toInt) (h1 : j.toInt < n) : ¬ j < 0 ∧ j < z := by
  rw [Int32.lt_iff_toInt_lt, Int32.lt_iff_toInt_lt, hz]
  have : (0 : Int32).toInt = 0 := by decide
  omega
theorem own_nn {n : Int32} (h : 0 ≤ n.toInt) : ¬ n < 0 := by
  rw [Int32.lt_iff_toInt_lt]
  have : (0 : Int32).toInt = 0 := by decide
  omega
theorem own_cap {n : Int32} {c : Nat} (h : n.toInt < (c : Int) + 1) : n.toNatClampNeg ≤ c := by
  simp only [Int32.toNatClampNeg]
  omega
theorem own_fin (x : Int32) (n : Nat) (hn : n < 2147483648) (h0 : 0 ≤ x.toInt) (h1 : x.toInt < n) : ∃ i : Fin n, x = Int32.ofNat i.1 := by
  refine ⟨⟨x.toInt.toNat, by omega⟩, Int32.toInt_inj.mp ?_⟩
  show x.toInt = (Int32.ofNat x.toInt.toNat).toInt
  rw [Int32.toInt_ofNat_small (by omega)]
  omega
end OwnRun
theorem d1_0 : decode prog_31_method_4_code 0 = .ok (.getstatic 46, 3) := by decide +kernel
theorem d1_3 : decode prog_31_method_4_code 3 = .ok (.astore_n 1, 1) := by decide +kernel
theorem d1_4 : decode prog_31_method_4_code 4 = .ok (.aload_n 1, 1) := by decide +kernel
theorem d1_5 : decode prog_31_method_4_code 5 = .ok (.arraylength, 1) := by decide +kernel
theorem d1_6 : decode prog_31_method_4_code 6 = .ok (.istore_n 2, 1) := by decide +kernel
theorem d1_7 : decode prog_31_method_4_code 7 = .ok (.iconst 0, 1) := by decide +kernel
theorem d1_8 : decode prog_31_method_4_code 8 = .ok (.istore_n 3, 1) := by decide +kernel
theorem d1_9 : decode prog_31_method_4_code 9 = .ok (.iload_n 3, 1) := by decide +kernel
theorem d1_10 : decode prog_31_method_4_code 10 = .ok (.iload_n 2, 1) := by decide +kernel
theorem d1_11 : decode prog_31_method_4_code 11 = .ok (.if_icmp .ge 26, 3) := by decide +kernel
theorem d1_14 : decode prog_31_method_4_code 14 = .ok (.aload_n 1, 1) := by decide +kernel
theorem d1_15 : decode prog_31_method_4_code 15 = .ok (.iload_n 3, 1) := by decide +kernel
theorem d1_16 : decode prog_31_method_4_code 16 = .ok (.aaload, 1) := by decide +kernel
theorem d1_17 : decode prog_31_method_4_code 17 = .ok (.astore 4, 2) := by decide +kernel
theorem d1_19 : decode prog_31_method_4_code 19 = .ok (.aload 4, 2) := by decide +kernel
theorem d1_21 : decode prog_31_method_4_code 21 = .ok (.getfield 35, 3) := by decide +kernel
theorem d1_24 : decode prog_31_method_4_code 24 = .ok (.iload_n 0, 1) := by decide +kernel
theorem d1_25 : decode prog_31_method_4_code 25 = .ok (.if_icmp .ne 6, 3) := by decide +kernel
theorem d1_28 : decode prog_31_method_4_code 28 = .ok (.aload 4, 2) := by decide +kernel
theorem d1_30 : decode prog_31_method_4_code 30 = .ok (.areturn, 1) := by decide +kernel
theorem d1_31 : decode prog_31_method_4_code 31 = .ok (.iinc 3 1, 3) := by decide +kernel
theorem d1_34 : decode prog_31_method_4_code 34 = .ok (.goto (-25), 3) := by decide +kernel
theorem d1_37 : decode prog_31_method_4_code 37 = .ok (.aconst_null, 1) := by decide +kernel
theorem d1_38 : decode prog_31_method_4_code 38 = .ok (.areturn, 1) := by decide +kernel
theorem pn_0 : plainName "com/example/quorum_tree/quorumtree/maze/Direction" = true := by first | (simp [plainName, overriddenIn]; done) | decide +kernel
theorem ef_Of (m : MethodId) (p0 : Int32) : entryFrame m #[(.int p0)] 5 = mkF m 0 #[.val (.int p0), .unset, .unset, .unset, .unset] [] := by first | (simp [entryFrame, mkF, argsToLocals, Value.category]; done) | rfl
def FOf (p0 : Int32) (kA : ClassId) (s_Direction_UP : Addr) (s_Direction_LEFT : Addr) (s_Direction_DOWN : Addr) (s_Direction_RIGHT : Addr) (s_Direction_ALL : Addr) : Value := (if (85 : Int32) = p0 then (Value.ref s_Direction_UP) else (if (76 : Int32) = p0 then (Value.ref s_Direction_LEFT) else (if (68 : Int32) = p0 then (Value.ref s_Direction_DOWN) else (if (82 : Int32) = p0 then (Value.ref s_Direction_RIGHT) else .null))))
theorem FOf_ref (p0 : Int32) (kA : ClassId) (s_Direction_UP : Addr) (s_Direction_LEFT : Addr) (s_Direction_DOWN : Addr) (s_Direction_RIGHT : Addr) (s_Direction_ALL : Addr) : (FOf p0 kA s_Direction_UP s_Direction_LEFT s_Direction_DOWN s_Direction_RIGHT s_Direction_ALL).isRef = true := by unfold FOf; (repeat' split) <;> rfl
def QOf (Z : State) (p0 : Int32) (kA : ClassId) (s_Direction_UP : Addr) (s_Direction_LEFT : Addr) (s_Direction_DOWN : Addr) (s_Direction_RIGHT : Addr) (s_Direction_ALL : Addr) (h0 : Heap) (n0 : Nat) (v : Option Value) (h : Heap) (L : List Loc) : Prop := v = some (FOf p0 kA s_Direction_UP s_Direction_LEFT s_Direction_DOWN s_Direction_RIGHT s_Direction_ALL) ∧ Fr n0 L ∧ h = h0
set_option maxRecDepth 65536 in
set_option maxHeartbeats 40000000 in
theorem rmOf (l : Launch) (Z : State) (aV : Array Value) (hw : ∀ d ∈ tables_1, d.before aV Z = true) (ws : List Jvm.Cond) (p0 : Int32) (kA : ClassId) (s_Direction_UP : Addr) (s_Direction_LEFT : Addr) (s_Direction_DOWN : Addr) (s_Direction_RIGHT : Addr) (s_Direction_ALL : Addr) (h0 : Heap) (n0 : Nat) (Zn : n0 ≤ h0.size) (S_s_Direction_ALL : Sta Z h0 "com/example/quorum_tree/quorumtree/maze/Direction" "ALL" "[Lcom/example/quorum_tree/quorumtree/maze/Direction;" (.ref s_Direction_ALL)) (F_s_Direction_UP : Fld Z h0 s_Direction_UP "com/example/quorum_tree/quorumtree/maze/Direction" "letter" "C" (.int (85 : Int32))) (F_s_Direction_LEFT : Fld Z h0 s_Direction_LEFT "com/example/quorum_tree/quorumtree/maze/Direction" "letter" "C" (.int (76 : Int32))) (F_s_Direction_DOWN : Fld Z h0 s_Direction_DOWN "com/example/quorum_tree/quorumtree/maze/Direction" "letter" "C" (.int (68 : Int32))) (F_s_Direction_RIGHT : Fld Z h0 s_Direction_RIGHT "com/example/quorum_tree/quorumtree/maze/Direction" "letter" "C" (.int (82 : Int32))) (V_s_Direction_ALL : Arv Z h0 s_Direction_ALL kA (.object "com/example/quorum_tree/quorumtree/maze/Direction") (4 : Int32) [(.ref s_Direction_UP), (.ref s_Direction_LEFT), (.ref s_Direction_DOWN), (.ref s_Direction_RIGHT)] .null) :
    MetFree l (⟨"com/example/quorum_tree/quorumtree/maze/Direction", "of", "(C)Lcom/example/quorum_tree/quorumtree/maze/Direction;"⟩ : MethodName) (head1 (Jvm.Cond.code (⟨"com/example/quorum_tree/quorumtree/maze/Direction", "of", "(C)Lcom/example/quorum_tree/quorumtree/maze/Direction;"⟩ : MethodName) prog_31_method_4_code 5 (some (.object "com/example/quorum_tree/quorumtree/maze/Direction")) :: ws) ({ frames := 0, cells := 0, slots := 0, locals := 0 } : Room)) (fun a U => a = #[(.int p0)] ∧ Z.Warmed39 U.vm ∧ U.heap = h0) (fun _ _ _ _ _ => True) (fun _ U o U' => ∃ v L, o = .returned v ∧ QOf Z p0 kA s_Direction_UP s_Direction_LEFT s_Direction_DOWN s_Direction_RIGHT s_Direction_ALL h0 n0 v U'.heap L ∧ FrameEnd U o U' L ({ frames := 0, cells := 0, slots := 0, locals := 0 } : Room).cells ({ frames := 0, cells := 0, slots := 0, locals := 0 } : Room).slots) := by
  refine MetFree.of_bodySF (plainFor_of_name pn_0) hisR ?_
  intro p e s m args below meth c s₁ Bd hml0 hP hK
  obtain ⟨rfl, hZ, hh⟩ := hP
  have hx := Bd.exec
  have hby := Bd.bytes
  have hml : c.maxLocals = 5 := hml0
  have hown : s.vm.findClass "com/example/quorum_tree/quorumtree/maze/Direction" = some m.cls := findClass_of_methodNamed Bd.named
  have hnm := (name_of_methodNamed Bd.named Bd.method).1
  have X0 : Stand p l e ({ frames := 0, cells := 0, slots := 0, locals := 0 } : Room) s m #[(.int p0)] below meth c s₁ [] 0 0 := Stand.of_body Bd
  have e0 : s₁.heap = h0 := by rw [← hh, Bd.state]; rfl
  have N0 := Fr.nil n0
  have Kp := Keep.refl h0 []
  show Run p e below (Ends s (QOf Z p0 kA s_Direction_UP s_Direction_LEFT s_Direction_DOWN s_Direction_RIGHT s_Direction_ALL h0 n0) ({ frames := 0, cells := 0, slots := 0, locals := 0 } : Room).cells ({ frames := 0, cells := 0, slots := 0, locals := 0 } : Room).slots) _
  refine Run.st (S' := s₁.setTop (mkF m 0 #[.val (.int p0), .unset, .unset, .unset, .unset] [])) (fun t k => castTop (ef_Of m p0) k) ?_
  obtain ⟨T1, X1, e1, st1⟩ := getS2 X0 hx hZ hown (host := "") (Or.inl (hw _ (List.mem_of_getElem? (i := 6) rfl))) Via.refl e0 S_s_Direction_ALL (g := (mkF m 0 #[.val (.int p0), .unset, .unset, .unset, .unset] [])) rfl (hb hby d1_0)
  refine Run.st (S' := T1.setTop (mkF m 5 #[.val (.int p0), .val (.ref s_Direction_ALL), .unset, .unset, .unset] [(.ref s_Direction_ALL)])) (fun _ k => st1 _ (XS.astoreN X1.here hx rfl (hb hby d1_3) rfl rfl (l' := #[.val (.int p0), .val (.ref s_Direction_ALL), .unset, .unset, .unset]) rfl (XS.aloadN X1.here hx rfl (hb hby d1_4) rfl rfl k))) ?_
  obtain ⟨cl2, Ar2, -, Sa2, Na2, -, -⟩ := id V_s_Direction_ALL
  refine Run.st (S' := T1.setTop (mkF m 6 #[.val (.int p0), .val (.ref s_Direction_ALL), .unset, .unset, .unset] [(.int (4 : Int32))])) (fun _ k => X1.arraylength hx (by rw [e1]; exact Ar2.1) (State.isArrayOf_alike hZ.alike Ar2.2.1) (g := (mkF m 5 #[.val (.int p0), .val (.ref s_Direction_ALL), .unset, .unset, .unset] [(.ref s_Direction_ALL)])) rfl rfl (hb hby d1_5) _ (by rw [len_of Sa2 Na2]; exact k)) ?_
  refine Run.st (S' := T1.setTop (mkF m 16 #[.val (.int p0), .val (.ref s_Direction_ALL), .val (.int (4 : Int32)), .val (.int (0 : Int32)), .unset] [(.int (0 : Int32)), (.ref s_Direction_ALL)])) (fun _ k => XS.istoreN X1.here hx rfl (hb hby d1_6) rfl (l' := #[.val (.int p0), .val (.ref s_Direction_ALL), .val (.int (4 : Int32)), .unset, .unset]) rfl (XS.iconst X1.here hx rfl (hb hby d1_7) (XS.istoreN X1.here hx rfl (hb hby d1_8) rfl (l' := #[.val (.int p0), .val (.ref s_Direction_ALL), .val (.int (4 : Int32)), .val (.int (0 : Int32)), .unset]) rfl (XS.iloadN X1.here hx rfl (hb hby d1_9) rfl (XS.iloadN X1.here hx rfl (hb hby d1_10) rfl (XS.icmpNo X1.here hx rfl (hb hby d1_11) rfl (tlt (show (0 : Int32) < (4 : Int32) from (by decide))).2.1 (XS.aloadN X1.here hx rfl (hb hby d1_14) rfl rfl (XS.iloadN X1.here hx rfl (hb hby d1_15) rfl k)))))))) ?_
  obtain ⟨cl3, Ar3, qa3, Sa3, Na3, Ha3, Ga3⟩ := id V_s_Direction_ALL
  have hin3 : ¬ ((0 : Int32) < 0 ∨ cl3.slots.size ≤ ((0 : Int32)).toNatClampNeg) := inb_of Sa3 ⟨by decide, by decide⟩
  have hat3 : cl3.slots[((0 : Int32)).toNatClampNeg]? = some (.ref s_Direction_UP) := Has.at Ha3 hin3 rfl
  refine Run.st (S' := T1.setTop (mkF m 21 #[.val (.int p0), .val (.ref s_Direction_ALL), .val (.int (4 : Int32)), .val (.int (0 : Int32)), .val (.ref s_Direction_UP)] [(.ref s_Direction_UP)])) (fun _ k => X1.aaload hx (j := (0 : Int32)) (v := (.ref s_Direction_UP)) (by rw [e1]; exact Ar3.1) (State.isArrayOf_alike hZ.alike Ar3.2.1) rfl Ar3.2.2 hin3 hat3 (g := (mkF m 16 #[.val (.int p0), .val (.ref s_Direction_ALL), .val (.int (4 : Int32)), .val (.int (0 : Int32)), .unset] [(.int (0 : Int32)), (.ref s_Direction_ALL)])) rfl rfl (hb hby d1_16) _ (XS.astore X1.here hx rfl (hb hby d1_17) rfl rfl (l' := #[.val (.int p0), .val (.ref s_Direction_ALL), .val (.int (4 : Int32)), .val (.int (0 : Int32)), .val (.ref s_Direction_UP)]) rfl (XS.aload X1.here hx rfl (hb hby d1_19) rfl rfl k))) ?_
  obtain ⟨T4, X4, e4, st4⟩ := getF X1 hx hZ hown (host := "") (Or.inl (hw _ (List.mem_of_getElem? (i := 8) rfl))) Via.refl e1 F_s_Direction_UP (g := (mkF m 21 #[.val (.int p0), .val (.ref s_Direction_ALL), .val (.int (4 : Int32)), .val (.int (0 : Int32)), .val (.ref s_Direction_UP)] [(.ref s_Direction_UP)])) rfl rfl (hb hby d1_21)
  refine Run.st (S' := T4.setTop (mkF m 25 #[.val (.int p0), .val (.ref s_Direction_ALL), .val (.int (4 : Int32)), .val (.int (0 : Int32)), .val (.ref s_Direction_UP)] [(.int p0), (.int (85 : Int32))])) (fun _ k => st4 _ (XS.iloadN X4.here hx rfl (hb hby d1_24) rfl k)) ?_
  by_cases hc25_5 : (85 : Int32) = p0
  · refine Run.st (S' := T4.setTop (mkF m 30 #[.val (.int p0), .val (.ref s_Direction_ALL), .val (.int (4 : Int32)), .val (.int (0 : Int32)), .val (.ref s_Direction_UP)] [(.ref s_Direction_UP)])) (fun _ k => XS.icmpNo X4.here hx rfl (hb hby d1_25) rfl (teq hc25_5).2 (XS.aload X4.here hx rfl (hb hby d1_28) rfl rfl k)) ?_
    refine Run.out X4 hx Bd.notSynchronized Bd.returns rfl (Or.inr (Or.inr (Or.inr (Or.inr ⟨rfl, rfl, rfl⟩)))) (hb hby d1_30) (by decide) (by decide) ?_
    rw [e4]
    exact ⟨by rw [FOf, if_pos hc25_5], N0, rfl⟩
  · refine Run.st (S' := T4.setTop (mkF m 16 #[.val (.int p0), .val (.ref s_Direction_ALL), .val (.int (4 : Int32)), .val (.int (1 : Int32)), .val (.ref s_Direction_UP)] [(.int (1 : Int32)), (.ref s_Direction_ALL)])) (fun _ k => XS.icmpYes X4.here hx rfl (pc0 := 25) (pc' := 31) rfl (hb hby d1_25) rfl (feq hc25_5).2 (by decide) (by decide) (XS.iinc X4.here hx rfl (hb hby d1_31) rfl (l' := #[.val (.int p0), .val (.ref s_Direction_ALL), .val (.int (4 : Int32)), .val (.int (1 : Int32)), .val (.ref s_Direction_UP)]) rfl (XS.goto X4.here hx rfl (pc0 := 34) (pc' := 9) rfl (hb hby d1_34) (by decide) (by decide) (XS.iloadN X4.here hx rfl (hb hby d1_9) rfl (XS.iloadN X4.here hx rfl (hb hby d1_10) rfl (XS.icmpNo X4.here hx rfl (hb hby d1_11) rfl (tlt (show (1 : Int32) < (4 : Int32) from (by decide))).2.1 (XS.aloadN X4.here hx rfl (hb hby d1_14) rfl rfl (XS.iloadN X4.here hx rfl (hb hby d1_15) rfl k)))))))) ?_
    obtain ⟨cl6, Ar6, qa6, Sa6, Na6, Ha6, Ga6⟩ := id V_s_Direction_ALL
    have hin6 : ¬ ((1 : Int32) < 0 ∨ cl6.slots.size ≤ ((1 : Int32)).toNatClampNeg) := inb_of Sa6 ⟨by decide, by decide⟩
    have hat6 : cl6.slots[((1 : Int32)).toNatClampNeg]? = some (.ref s_Direction_LEFT) := Has.at Ha6 hin6 rfl
    refine Run.st (S' := T4.setTop (mkF m 21 #[.val (.int p0), .val (.ref s_Direction_ALL), .val (.int (4 : Int32)), .val (.int (1 : Int32)), .val (.ref s_Direction_LEFT)] [(.ref s_Direction_LEFT)])) (fun _ k => X4.aaload hx (j := (1 : Int32)) (v := (.ref s_Direction_LEFT)) (by rw [e4]; exact Ar6.1) (State.isArrayOf_alike hZ.alike Ar6.2.1) rfl Ar6.2.2 hin6 hat6 (g := (mkF m 16 #[.val (.int p0), .val (.ref s_Direction_ALL), .val (.int (4 : Int32)), .val (.int (1 : Int32)), .val (.ref s_Direction_UP)] [(.int (1 : Int32)), (.ref s_Direction_ALL)])) rfl rfl (hb hby d1_16) _ (XS.astore X4.here hx rfl (hb hby d1_17) rfl rfl (l' := #[.val (.int p0), .val (.ref s_Direction_ALL), .val (.int (4 : Int32)), .val (.int (1 : Int32)), .val (.ref s_Direction_LEFT)]) rfl (XS.aload X4.here hx rfl (hb hby d1_19) rfl rfl k))) ?_
    obtain ⟨T7, X7, e7, st7⟩ := getF X4 hx hZ hown (host := "") (Or.inl (hw _ (List.mem_of_getElem? (i := 8) rfl))) Via.refl e4 F_s_Direction_LEFT (g := (mkF m 21 #[.val (.int p0), .val (.ref s_Direction_ALL), .val (.int (4 : Int32)), .val (.int (1 : Int32)), .val (.ref s_Direction_LEFT)] [(.ref s_Direction_LEFT)])) rfl rfl (hb hby d1_21)
    refine Run.st (S' := T7.setTop (mkF m 25 #[.val (.int p0), .val (.ref s_Direction_ALL), .val (.int (4 : Int32)), .val (.int (1 : Int32)), .val (.ref s_Direction_LEFT)] [(.int p0), (.int (76 : Int32))])) (fun _ k => st7 _ (XS.iloadN X7.here hx rfl (hb hby d1_24) rfl k)) ?_
    by_cases hc25_8 : (76 : Int32) = p0
    · refine Run.st (S' := T7.setTop (mkF m 30 #[.val (.int p0), .val (.ref s_Direction_ALL), .val (.int (4 : Int32)), .val (.int (1 : Int32)), .val (.ref s_Direction_LEFT)] [(.ref s_Direction_LEFT)])) (fun _ k => XS.icmpNo X7.here hx rfl (hb hby d1_25) rfl (teq hc25_8).2 (XS.aload X7.here hx rfl (hb hby d1_28) rfl rfl k)) ?_
      refine Run.out X7 hx Bd.notSynchronized Bd.returns rfl (Or.inr (Or.inr (Or.inr (Or.inr ⟨rfl, rfl, rfl⟩)))) (hb hby d1_30) (by decide) (by decide) ?_
      rw [e7]
      exact ⟨by rw [FOf, if_neg hc25_5, if_pos hc25_8], N0, rfl⟩
    · refine Run.st (S' := T7.setTop (mkF m 16 #[.val (.int p0), .val (.ref s_Direction_ALL), .val (.int (4 : Int32)), .val (.int (2 : Int32)), .val (.ref s_Direction_LEFT)] [(.int (2 : Int32)), (.ref s_Direction_ALL)])) (fun _ k => XS.icmpYes X7.here hx rfl (pc0 := 25) (pc' := 31) rfl (hb hby d1_25) rfl (feq hc25_8).2 (by decide) (by decide) (XS.iinc X7.here hx rfl (hb hby d1_31) rfl (l' := #[.val (.int p0), .val (.ref s_Direction_ALL), .val (.int (4 : Int32)), .val (.int (2 : Int32)), .val (.ref s_Direction_LEFT)]) rfl (XS.goto X7.here hx rfl (pc0 := 34) (pc' := 9) rfl (hb hby d1_34) (by decide) (by decide) (XS.iloadN X7.here hx rfl (hb hby d1_9) rfl (XS.iloadN X7.here hx rfl (hb hby d1_10) rfl (XS.icmpNo X7.here hx rfl (hb hby d1_11) rfl (tlt (show (2 : Int32) < (4 : Int32) from (by decide))).2.1 (XS.aloadN X7.here hx rfl (hb hby d1_14) rfl rfl (XS.iloadN X7.here hx rfl (hb hby d1_15) rfl k)))))))) ?_
      obtain ⟨cl9, Ar9, qa9, Sa9, Na9, Ha9, Ga9⟩ := id V_s_Direction_ALL
      have hin9 : ¬ ((2 : Int32) < 0 ∨ cl9.slots.size ≤ ((2 : Int32)).toNatClampNeg) := inb_of Sa9 ⟨by decide, by decide⟩
      have hat9 : cl9.slots[((2 : Int32)).toNatClampNeg]? = some (.ref s_Direction_DOWN) := Has.at Ha9 hin9 rfl
      refine Run.st (S' := T7.setTop (mkF m 21 #[.val (.int p0), .val (.ref s_Direction_ALL), .val (.int (4 : Int32)), .val (.int (2 : Int32)), .val (.ref s_Direction_DOWN)] [(.ref s_Direction_DOWN)])) (fun _ k => X7.aaload hx (j := (2 : Int32)) (v := (.ref s_Direction_DOWN)) (by rw [e7]; exact Ar9.1) (State.isArrayOf_alike hZ.alike Ar9.2.1) rfl Ar9.2.2 hin9 hat9 (g := (mkF m 16 #[.val (.int p0), .val (.ref s_Direction_ALL), .val (.int (4 : Int32)), .val (.int (2 : Int32)), .val (.ref s_Direction_LEFT)] [(.int (2 : Int32)), (.ref s_Direction_ALL)])) rfl rfl (hb hby d1_16) _ (XS.astore X7.here hx rfl (hb hby d1_17) rfl rfl (l' := #[.val (.int p0), .val (.ref s_Direction_ALL), .val (.int (4 : Int32)), .val (.int (2 : Int32)), .val (.ref s_Direction_DOWN)]) rfl (XS.aload X7.here hx rfl (hb hby d1_19) rfl rfl k))) ?_
      obtain ⟨T10, X10, e10, st10⟩ := getF X7 hx hZ hown (host := "") (Or.inl (hw _ (List.mem_of_getElem? (i := 8) rfl))) Via.refl e7 F_s_Direction_DOWN (g := (mkF m 21 #[.val (.int p0), .val (.ref s_Direction_ALL), .val (.int (4 : Int32)), .val (.int (2 : Int32)), .val (.ref s_Direction_DOWN)] [(.ref s_Direction_DOWN)])) rfl rfl (hb hby d1_21)
      refine Run.st (S' := T10.setTop (mkF m 25 #[.val (.int p0), .val (.ref s_Direction_ALL), .val (.int (4 : Int32)), .val (.int (2 : Int32)), .val (.ref s_Direction_DOWN)] [(.int p0), (.int (68 : Int32))])) (fun _ k => st10 _ (XS.iloadN X10.here hx rfl (hb hby d1_24) rfl k)) ?_
      by_cases hc25_11 : (68 : Int32) = p0
      · refine Run.st (S' := T10.setTop (mkF m 30 #[.val (.int p0), .val (.ref s_Direction_ALL), .val (.int (4 : Int32)), .val (.int (2 : Int32)), .val (.ref s_Direction_DOWN)] [(.ref s_Direction_DOWN)])) (fun _ k => XS.icmpNo X10.here hx rfl (hb hby d1_25) rfl (teq hc25_11).2 (XS.aload X10.here hx rfl (hb hby d1_28) rfl rfl k)) ?_
        refine Run.out X10 hx Bd.notSynchronized Bd.returns rfl (Or.inr (Or.inr (Or.inr (Or.inr ⟨rfl, rfl, rfl⟩)))) (hb hby d1_30) (by decide) (by decide) ?_
        rw [e10]
        exact ⟨by rw [FOf, if_neg hc25_5, if_neg hc25_8, if_pos hc25_11], N0, rfl⟩
      · refine Run.st (S' := T10.setTop (mkF m 16 #[.val (.int p0), .val (.ref s_Direction_ALL), .val (.int (4 : Int32)), .val (.int (3 : Int32)), .val (.ref s_Direction_DOWN)] [(.int (3 : Int32)), (.ref s_Direction_ALL)])) (fun _ k => XS.icmpYes X10.here hx rfl (pc0 := 25) (pc' := 31) rfl (hb hby d1_25) rfl (feq hc25_11).2 (by decide) (by decide) (XS.iinc X10.here hx rfl (hb hby d1_31) rfl (l' := #[.val (.int p0), .val (.ref s_Direction_ALL), .val (.int (4 : Int32)), .val (.int (3 : Int32)), .val (.ref s_Direction_DOWN)]) rfl (XS.goto X10.here hx rfl (pc0 := 34) (pc' := 9) rfl (hb hby d1_34) (by decide) (by decide) (XS.iloadN X10.here hx rfl (hb hby d1_9) rfl (XS.iloadN X10.here hx rfl (hb hby d1_10) rfl (XS.icmpNo X10.here hx rfl (hb hby d1_11) rfl (tlt (show (3 : Int32) < (4 : Int32) from (by decide))).2.1 (XS.aloadN X10.here hx rfl (hb hby d1_14) rfl rfl (XS.iloadN X10.here hx rfl (hb hby d1_15) rfl k)))))))) ?_
        obtain ⟨cl12, Ar12, qa12, Sa12, Na12, Ha12, Ga12⟩ := id V_s_Direction_ALL
        have hin12 : ¬ ((3 : Int32) < 0 ∨ cl12.slots.size ≤ ((3 : Int32)).toNatClampNeg) := inb_of Sa12 ⟨by decide, by decide⟩
        have hat12 : cl12.slots[((3 : Int32)).toNatClampNeg]? = some (.ref s_Direction_RIGHT) := Has.at Ha12 hin12 rfl
        refine Run.st (S' := T10.setTop (mkF m 21 #[.val (.int p0), .val (.ref s_Direction_ALL), .val (.int (4 : Int32)), .val (.int (3 : Int32)), .val (.ref s_Direction_RIGHT)] [(.ref s_Direction_RIGHT)])) (fun _ k => X10.aaload hx (j := (3 : Int32)) (v := (.ref s_Direction_RIGHT)) (by rw [e10]; exact Ar12.1) (State.isArrayOf_alike hZ.alike Ar12.2.1) rfl Ar12.2.2 hin12 hat12 (g := (mkF m 16 #[.val (.int p0), .val (.ref s_Direction_ALL), .val (.int (4 : Int32)), .val (.int (3 : Int32)), .val (.ref s_Direction_DOWN)] [(.int (3 : Int32)), (.ref s_Direction_ALL)])) rfl rfl (hb hby d1_16) _ (XS.astore X10.here hx rfl (hb hby d1_17) rfl rfl (l' := #[.val (.int p0), .val (.ref s_Direction_ALL), .val (.int (4 : Int32)), .val (.int (3 : Int32)), .val (.ref s_Direction_RIGHT)]) rfl (XS.aload X10.here hx rfl (hb hby d1_19) rfl rfl k))) ?_
        obtain ⟨T13, X13, e13, st13⟩ := getF X10 hx hZ hown (host := "") (Or.inl (hw _ (List.mem_of_getElem? (i := 8) rfl))) Via.refl e10 F_s_Direction_RIGHT (g := (mkF m 21 #[.val (.int p0), .val (.ref s_Direction_ALL), .val (.int (4 : Int32)), .val (.int (3 : Int32)), .val (.ref s_Direction_RIGHT)] [(.ref s_Direction_RIGHT)])) rfl rfl (hb hby d1_21)
        refine Run.st (S' := T13.setTop (mkF m 25 #[.val (.int p0), .val (.ref s_Direction_ALL), .val (.int (4 : Int32)), .val (.int (3 : Int32)), .val (.ref s_Direction_RIGHT)] [(.int p0), (.int (82 : Int32))])) (fun _ k => st13 _ (XS.iloadN X13.here hx rfl (hb hby d1_24) rfl k)) ?_
        by_cases hc25_14 : (82 : Int32) = p0
        · refine Run.st (S' := T13.setTop (mkF m 30 #[.val (.int p0), .val (.ref s_Direction_ALL), .val (.int (4 : Int32)), .val (.int (3 : Int32)), .val (.ref s_Direction_RIGHT)] [(.ref s_Direction_RIGHT)])) (fun _ k => XS.icmpNo X13.here hx rfl (hb hby d1_25) rfl (teq hc25_14).2 (XS.aload X13.here hx rfl (hb hby d1_28) rfl rfl k)) ?_
          refine Run.out X13 hx Bd.notSynchronized Bd.returns rfl (Or.inr (Or.inr (Or.inr (Or.inr ⟨rfl, rfl, rfl⟩)))) (hb hby d1_30) (by decide) (by decide) ?_
          rw [e13]
          exact ⟨by rw [FOf, if_neg hc25_5, if_neg hc25_8, if_neg hc25_11, if_pos hc25_14], N0, rfl⟩
        · refine Run.st (S' := T13.setTop (mkF m 38 #[.val (.int p0), .val (.ref s_Direction_ALL), .val (.int (4 : Int32)), .val (.int (4 : Int32)), .val (.ref s_Direction_RIGHT)] [.null])) (fun _ k => XS.icmpYes X13.here hx rfl (pc0 := 25) (pc' := 31) rfl (hb hby d1_25) rfl (feq hc25_14).2 (by decide) (by decide) (XS.iinc X13.here hx rfl (hb hby d1_31) rfl (l' := #[.val (.int p0), .val (.ref s_Direction_ALL), .val (.int (4 : Int32)), .val (.int (4 : Int32)), .val (.ref s_Direction_RIGHT)]) rfl (XS.goto X13.here hx rfl (pc0 := 34) (pc' := 9) rfl (hb hby d1_34) (by decide) (by decide) (XS.iloadN X13.here hx rfl (hb hby d1_9) rfl (XS.iloadN X13.here hx rfl (hb hby d1_10) rfl (XS.icmpYes X13.here hx rfl (pc0 := 11) (pc' := 37) rfl (hb hby d1_11) rfl (flt (show ¬ ((4 : Int32) < (4 : Int32)) from (by decide))).2.1 (by decide) (by decide) (XS.aconstNull X13.here hx rfl (hb hby d1_37) k))))))) ?_
          refine Run.out X13 hx Bd.notSynchronized Bd.returns rfl (Or.inr (Or.inr (Or.inr (Or.inr ⟨rfl, rfl, rfl⟩)))) (hb hby d1_38) (by decide) (by decide) ?_
          rw [e13]
          exact ⟨by rw [FOf, if_neg hc25_5, if_neg hc25_8, if_neg hc25_11, if_neg hc25_14], N0, rfl⟩
theorem pd_0 : parseMethodDescriptor "(C)Lcom/example/quorum_tree/quorumtree/maze/Direction;" = some ⟨[.char], some (.object "com/example/quorum_tree/quorumtree/maze/Direction")⟩ := by decide +kernel
theorem pn_1 : plainName "com/example/quorum_tree/quorumtree/maze/DirectionOfPinLaw" = true := by first | (simp [plainName, overriddenIn]; done) | decide +kernel
theorem ef_0 (m : MethodId) (p0 : Int32) (p1 : Int32) : entryFrame m #[(.int p0), (.int p1)] maxLocals = mkF m 0 #[.val (.int p0), .val (.int p1), .unset, .unset] [] := by first | (simp [entryFrame, mkF, argsToLocals, Value.category, maxLocals]; done) | rfl
def Q0 (Z : State) (p0 : Int32) (p1 : Int32) (kA : ClassId) (s_Direction_ALL : Addr) (s_Direction_UP : Addr) (s_Direction_LEFT : Addr) (s_Direction_DOWN : Addr) (s_Direction_RIGHT : Addr) (h0 : Heap) (n0 : Nat) (v : Option Value) (h : Heap) (L : List Loc) : Prop := v = some (.int 1) ∧ Fr n0 L
set_option maxRecDepth 65536 in
set_option maxHeartbeats 40000000 in
theorem rm0 (l : Launch) (Z : State) (aV : Array Value) (hw : ∀ d ∈ tables_1, d.before aV Z = true) (ws : List Jvm.Cond) (p0 : Int32) (p1 : Int32) (kA : ClassId) (s_Direction_ALL : Addr) (s_Direction_UP : Addr) (s_Direction_LEFT : Addr) (s_Direction_DOWN : Addr) (s_Direction_RIGHT : Addr) (h0 : Heap) (n0 : Nat) (Zn : n0 ≤ h0.size) (S_s_Direction_ALL : Sta Z h0 "com/example/quorum_tree/quorumtree/maze/Direction" "ALL" "[Lcom/example/quorum_tree/quorumtree/maze/Direction;" (.ref s_Direction_ALL)) (S_s_Direction_UP : Sta Z h0 "com/example/quorum_tree/quorumtree/maze/Direction" "UP" "Lcom/example/quorum_tree/quorumtree/maze/Direction;" (.ref s_Direction_UP)) (S_s_Direction_LEFT : Sta Z h0 "com/example/quorum_tree/quorumtree/maze/Direction" "LEFT" "Lcom/example/quorum_tree/quorumtree/maze/Direction;" (.ref s_Direction_LEFT)) (S_s_Direction_DOWN : Sta Z h0 "com/example/quorum_tree/quorumtree/maze/Direction" "DOWN" "Lcom/example/quorum_tree/quorumtree/maze/Direction;" (.ref s_Direction_DOWN)) (S_s_Direction_RIGHT : Sta Z h0 "com/example/quorum_tree/quorumtree/maze/Direction" "RIGHT" "Lcom/example/quorum_tree/quorumtree/maze/Direction;" (.ref s_Direction_RIGHT)) (F_s_Direction_UP : Fld Z h0 s_Direction_UP "com/example/quorum_tree/quorumtree/maze/Direction" "letter" "C" (.int (85 : Int32))) (F_s_Direction_LEFT : Fld Z h0 s_Direction_LEFT "com/example/quorum_tree/quorumtree/maze/Direction" "letter" "C" (.int (76 : Int32))) (F_s_Direction_DOWN : Fld Z h0 s_Direction_DOWN "com/example/quorum_tree/quorumtree/maze/Direction" "letter" "C" (.int (68 : Int32))) (F_s_Direction_RIGHT : Fld Z h0 s_Direction_RIGHT "com/example/quorum_tree/quorumtree/maze/Direction" "letter" "C" (.int (82 : Int32))) (V_s_Direction_ALL : Arv Z h0 s_Direction_ALL kA (.object "com/example/quorum_tree/quorumtree/maze/Direction") (4 : Int32) [(.ref s_Direction_UP), (.ref s_Direction_LEFT), (.ref s_Direction_DOWN), (.ref s_Direction_RIGHT)] .null) :
    MetFree l x (head1 (Jvm.Cond.code x code maxLocals ret :: ws) room_1) (fun a U => a = #[(.int p0), (.int p1)] ∧ Z.Warmed39 U.vm ∧ U.heap = h0) (fun _ _ _ _ _ => True) (fun _ U o U' => ∃ v L, o = .returned v ∧ Q0 Z p0 p1 kA s_Direction_ALL s_Direction_UP s_Direction_LEFT s_Direction_DOWN s_Direction_RIGHT h0 n0 v U'.heap L ∧ FrameEnd U o U' L room_1.cells room_1.slots) := by
  refine MetFree.of_bodySF (plainFor_of_name pn_1) hisR ?_
  intro p e s m args below meth c s₁ Bd hml0 hP hK
  obtain ⟨rfl, hZ, hh⟩ := hP
  have hx := Bd.exec
  have hby := Bd.bytes
  have hml : c.maxLocals = 4 := hml0
  have hown : s.vm.findClass "com/example/quorum_tree/quorumtree/maze/DirectionOfPinLaw" = some m.cls := findClass_of_methodNamed Bd.named
  have hnm := (name_of_methodNamed Bd.named Bd.method).1
  have X0 : Stand p l e room_1 s m #[(.int p0), (.int p1)] below meth c s₁ [] 0 0 := Stand.of_body Bd
  have e0 : s₁.heap = h0 := by rw [← hh, Bd.state]; rfl
  have N0 := Fr.nil n0
  have Kp := Keep.refl h0 []
  show Run p e below (Ends s (Q0 Z p0 p1 kA s_Direction_ALL s_Direction_UP s_Direction_LEFT s_Direction_DOWN s_Direction_RIGHT h0 n0) room_1.cells room_1.slots) _
  refine Run.st (S' := s₁.setTop (mkF m 0 #[.val (.int p0), .val (.int p1), .unset, .unset] [])) (fun t k => castTop (ef_0 m p0 p1) k) ?_
  refine Run.st (S' := s₁.setTop (mkF m 3 #[.val (.int p0), .val (.int p1), .unset, .unset] [(.int (p1 &&& (1 : Int32)))])) (fun _ k => XS.iloadN X0.here hx rfl (hb hby at_0) rfl (XS.iconst X0.here hx rfl (hb hby at_1) (XS.iand X0.here hx rfl (hb hby at_2) rfl k))) ?_
  by_cases hc3_1 : (p1 &&& (1 : Int32)) = (0 : Int32)
  · refine Run.st (S' := s₁.setTop (mkF m 51 #[.val (.int p0), .val (.int p1), .val (.int (p0.toUInt32.toUInt16.toUInt32.toInt32)), .unset] [])) (fun _ k => XS.ifYes X0.here hx rfl (pc0 := 3) (pc' := 48) rfl (hb hby at_3) rfl ((if0 _ _).trans (teq hc3_1).1) (by decide) (by decide) (XS.iloadN X0.here hx rfl (hb hby at_48) rfl (XS.i2c X0.here hx rfl (hb hby at_49) rfl (XS.istoreN X0.here hx rfl (hb hby at_50) rfl (l' := #[.val (.int p0), .val (.int p1), .val (.int (p0.toUInt32.toUInt16.toUInt32.toInt32)), .unset]) rfl k)))) ?_
    generalize ech : (p0.toUInt32.toUInt16.toUInt32.toInt32) = ch
    refine Run.st (S' := s₁.setTop (mkF m 54 #[.val (.int p0), .val (.int p1), .val (.int ch), .unset] [(.int (85 : Int32)), (.int ch)])) (fun _ k => XS.iloadN X0.here hx rfl (hb hby at_51) rfl (XS.bipush X0.here hx rfl (hb hby at_52) k)) ?_
    by_cases hc54_2 : ch = (85 : Int32)
    · refine Run.st (S' := s₁.setTop (mkF m 57 #[.val (.int p0), .val (.int p1), .val (.int ch), .unset] [])) (fun _ k => XS.icmpNo X0.here hx rfl (hb hby at_54) rfl (teq hc54_2).2 k) ?_
      obtain ⟨T3, X3, e3, st3⟩ := getS2 X0 hx hZ hown (host := "") (Or.inl (hw _ (List.mem_of_getElem? (i := 0) rfl))) Via.refl e0 S_s_Direction_UP (g := (mkF m 57 #[.val (.int p0), .val (.int p1), .val (.int ch), .unset] [])) rfl (hb hby at_57)
      refine Run.st (S' := T3.setTop (mkF m 106 #[.val (.int p0), .val (.int p1), .val (.int ch), .val (.ref s_Direction_UP)] [(.int ch)])) (fun _ k => st3 _ (XS.astoreN X3.here hx rfl (hb hby at_60) rfl rfl (l' := #[.val (.int p0), .val (.int p1), .val (.int ch), .val (.ref s_Direction_UP)]) rfl (XS.goto X3.here hx rfl (pc0 := 61) (pc' := 105) rfl (hb hby at_61) (by decide) (by decide) (XS.iloadN X3.here hx rfl (hb hby at_105) rfl k)))) ?_
      obtain ⟨_, _, ⟨T4, L4, k4, n4⟩, -, X4, ⟨Lc4, hQ4, l4, y4, z4⟩, st4⟩ := Jvm.LawKit.callS X3 hx (y := (⟨"com/example/quorum_tree/quorumtree/maze/Direction", "of", "(C)Lcom/example/quorum_tree/quorumtree/maze/Direction;"⟩ : MethodName)) hown (mvT hZ (hw _ (List.mem_of_getElem? (i := 3) rfl))) (mvT hZ (hw _ (List.mem_of_getElem? (i := 4) rfl))) (mvT hZ (hw _ (List.mem_of_getElem? (i := 1) rfl))) (mvT hZ (hw _ (List.mem_of_getElem? (i := 5) rfl))) (by decide) (backOf (W := 0) (rmOf l Z aV hw [] ch kA s_Direction_UP s_Direction_LEFT s_Direction_DOWN s_Direction_RIGHT s_Direction_ALL h0 n0 Zn S_s_Direction_ALL F_s_Direction_UP F_s_Direction_LEFT F_s_Direction_DOWN F_s_Direction_RIGHT V_s_Direction_ALL) hZ (hw _ (List.mem_of_getElem? (i := 5) rfl)) (hw _ (List.mem_of_getElem? (i := 1) rfl)) (by decide) (by decide)) (g := (mkF m 106 #[.val (.int p0), .val (.int p1), .val (.int ch), .val (.ref s_Direction_UP)] [(.int ch)])) rfl (by rw [hml]; rfl) (argsL := [(.int ch)]) (rest := []) (lenOf pd_0 rfl) rfl (by show 2 * 0 + _ ≤ _; exact Nat.le_of_eq rfl) (hb hby at_106) (fun _ _ => ⟨rfl, e3, (by decide : 0 + 0 ≤ _), (by decide : 0 + 0 ≤ _)⟩)
      dsimp only [Pt.U, Pt.locs, Pt.cells, Pt.slots] at X4 l4 y4 z4 st4 hQ4
      subst l4 y4 z4
      obtain ⟨rfl, N4q, e4⟩ := hQ4
      have N4 := Fr.app N0 N4q
      refine Run.st (S' := T4.setTop (mkF m 118 #[.val (.int p0), .val (.int p1), .val (.int ch), .val (.ref s_Direction_UP)] [(.int (1 : Int32))])) (fun _ k => st4 _ (XS.aloadN X4.here hx rfl (hb hby at_109) rfl rfl (Jvm.RoadKit.acmp (g := (mkF m 110 #[.val (.int p0), .val (.int p1), .val (.int ch), .val (.ref s_Direction_UP)] [(.ref s_Direction_UP), (FOf ch kA s_Direction_UP s_Direction_LEFT s_Direction_DOWN s_Direction_RIGHT s_Direction_ALL)])) X4 hx rfl (FOf_ref ch kA s_Direction_UP s_Direction_LEFT s_Direction_DOWN s_Direction_RIGHT s_Direction_ALL) rfl (pc0 := 110) (pc' := 113) (same := true) rfl (hb hby at_110) rfl (decide_eq_true (by unfold FOf; rw [if_pos hc54_2.symm])) (by decide) (by decide) (XS.iconst X4.here hx rfl (hb hby at_113) (XS.goto X4.here hx rfl (pc0 := 114) (pc' := 118) rfl (hb hby at_114) (by decide) (by decide) k))))) ?_
      refine Run.out X4 hx Bd.notSynchronized Bd.returns rfl (Or.inl ⟨rfl, by simp, _, rfl⟩) (hb hby at_118) (by decide) (by decide) ?_
      rw [e4]
      exact ⟨rfl, N4⟩
    · refine Run.st (S' := s₁.setTop (mkF m 67 #[.val (.int p0), .val (.int p1), .val (.int ch), .unset] [(.int (76 : Int32)), (.int ch)])) (fun _ k => XS.icmpYes X0.here hx rfl (pc0 := 54) (pc' := 64) rfl (hb hby at_54) rfl (feq hc54_2).2 (by decide) (by decide) (XS.iloadN X0.here hx rfl (hb hby at_64) rfl (XS.bipush X0.here hx rfl (hb hby at_65) k))) ?_
      by_cases hc67_5 : ch = (76 : Int32)
      · refine Run.st (S' := s₁.setTop (mkF m 70 #[.val (.int p0), .val (.int p1), .val (.int ch), .unset] [])) (fun _ k => XS.icmpNo X0.here hx rfl (hb hby at_67) rfl (teq hc67_5).2 k) ?_
        obtain ⟨T6, X6, e6, st6⟩ := getS2 X0 hx hZ hown (host := "") (Or.inl (hw _ (List.mem_of_getElem? (i := 14) rfl))) Via.refl e0 S_s_Direction_LEFT (g := (mkF m 70 #[.val (.int p0), .val (.int p1), .val (.int ch), .unset] [])) rfl (hb hby at_70)
        refine Run.st (S' := T6.setTop (mkF m 106 #[.val (.int p0), .val (.int p1), .val (.int ch), .val (.ref s_Direction_LEFT)] [(.int ch)])) (fun _ k => st6 _ (XS.astoreN X6.here hx rfl (hb hby at_73) rfl rfl (l' := #[.val (.int p0), .val (.int p1), .val (.int ch), .val (.ref s_Direction_LEFT)]) rfl (XS.goto X6.here hx rfl (pc0 := 74) (pc' := 105) rfl (hb hby at_74) (by decide) (by decide) (XS.iloadN X6.here hx rfl (hb hby at_105) rfl k)))) ?_
        obtain ⟨_, _, ⟨T7, L7, k7, n7⟩, -, X7, ⟨Lc7, hQ7, l7, y7, z7⟩, st7⟩ := Jvm.LawKit.callS X6 hx (y := (⟨"com/example/quorum_tree/quorumtree/maze/Direction", "of", "(C)Lcom/example/quorum_tree/quorumtree/maze/Direction;"⟩ : MethodName)) hown (mvT hZ (hw _ (List.mem_of_getElem? (i := 3) rfl))) (mvT hZ (hw _ (List.mem_of_getElem? (i := 4) rfl))) (mvT hZ (hw _ (List.mem_of_getElem? (i := 1) rfl))) (mvT hZ (hw _ (List.mem_of_getElem? (i := 5) rfl))) (by decide) (backOf (W := 0) (rmOf l Z aV hw [] ch kA s_Direction_UP s_Direction_LEFT s_Direction_DOWN s_Direction_RIGHT s_Direction_ALL h0 n0 Zn S_s_Direction_ALL F_s_Direction_UP F_s_Direction_LEFT F_s_Direction_DOWN F_s_Direction_RIGHT V_s_Direction_ALL) hZ (hw _ (List.mem_of_getElem? (i := 5) rfl)) (hw _ (List.mem_of_getElem? (i := 1) rfl)) (by decide) (by decide)) (g := (mkF m 106 #[.val (.int p0), .val (.int p1), .val (.int ch), .val (.ref s_Direction_LEFT)] [(.int ch)])) rfl (by rw [hml]; rfl) (argsL := [(.int ch)]) (rest := []) (lenOf pd_0 rfl) rfl (by show 2 * 0 + _ ≤ _; exact Nat.le_of_eq rfl) (hb hby at_106) (fun _ _ => ⟨rfl, e6, (by decide : 0 + 0 ≤ _), (by decide : 0 + 0 ≤ _)⟩)
        dsimp only [Pt.U, Pt.locs, Pt.cells, Pt.slots] at X7 l7 y7 z7 st7 hQ7
        subst l7 y7 z7
        obtain ⟨rfl, N7q, e7⟩ := hQ7
        have N7 := Fr.app N0 N7q
        refine Run.st (S' := T7.setTop (mkF m 118 #[.val (.int p0), .val (.int p1), .val (.int ch), .val (.ref s_Direction_LEFT)] [(.int (1 : Int32))])) (fun _ k => st7 _ (XS.aloadN X7.here hx rfl (hb hby at_109) rfl rfl (Jvm.RoadKit.acmp (g := (mkF m 110 #[.val (.int p0), .val (.int p1), .val (.int ch), .val (.ref s_Direction_LEFT)] [(.ref s_Direction_LEFT), (FOf ch kA s_Direction_UP s_Direction_LEFT s_Direction_DOWN s_Direction_RIGHT s_Direction_ALL)])) X7 hx rfl (FOf_ref ch kA s_Direction_UP s_Direction_LEFT s_Direction_DOWN s_Direction_RIGHT s_Direction_ALL) rfl (pc0 := 110) (pc' := 113) (same := true) rfl (hb hby at_110) rfl (decide_eq_true (by unfold FOf; rw [if_neg (fun q => hc54_2 q.symm), if_pos hc67_5.symm])) (by decide) (by decide) (XS.iconst X7.here hx rfl (hb hby at_113) (XS.goto X7.here hx rfl (pc0 := 114) (pc' := 118) rfl (hb hby at_114) (by decide) (by decide) k))))) ?_
        refine Run.out X7 hx Bd.notSynchronized Bd.returns rfl (Or.inl ⟨rfl, by simp, _, rfl⟩) (hb hby at_118) (by decide) (by decide) ?_
        rw [e7]
        exact ⟨rfl, N7⟩
      · refine Run.st (S' := s₁.setTop (mkF m 80 #[.val (.int p0), .val (.int p1), .val (.int ch), .unset] [(.int (68 : Int32)), (.int ch)])) (fun _ k => XS.icmpYes X0.here hx rfl (pc0 := 67) (pc' := 77) rfl (hb hby at_67) rfl (feq hc67_5).2 (by decide) (by decide) (XS.iloadN X0.here hx rfl (hb hby at_77) rfl (XS.bipush X0.here hx rfl (hb hby at_78) k))) ?_
        by_cases hc80_8 : ch = (68 : Int32)
        · refine Run.st (S' := s₁.setTop (mkF m 83 #[.val (.int p0), .val (.int p1), .val (.int ch), .unset] [])) (fun _ k => XS.icmpNo X0.here hx rfl (hb hby at_80) rfl (teq hc80_8).2 k) ?_
          obtain ⟨T9, X9, e9, st9⟩ := getS2 X0 hx hZ hown (host := "") (Or.inl (hw _ (List.mem_of_getElem? (i := 10) rfl))) Via.refl e0 S_s_Direction_DOWN (g := (mkF m 83 #[.val (.int p0), .val (.int p1), .val (.int ch), .unset] [])) rfl (hb hby at_83)
          refine Run.st (S' := T9.setTop (mkF m 106 #[.val (.int p0), .val (.int p1), .val (.int ch), .val (.ref s_Direction_DOWN)] [(.int ch)])) (fun _ k => st9 _ (XS.astoreN X9.here hx rfl (hb hby at_86) rfl rfl (l' := #[.val (.int p0), .val (.int p1), .val (.int ch), .val (.ref s_Direction_DOWN)]) rfl (XS.goto X9.here hx rfl (pc0 := 87) (pc' := 105) rfl (hb hby at_87) (by decide) (by decide) (XS.iloadN X9.here hx rfl (hb hby at_105) rfl k)))) ?_
          obtain ⟨_, _, ⟨T10, L10, k10, n10⟩, -, X10, ⟨Lc10, hQ10, l10, y10, z10⟩, st10⟩ := Jvm.LawKit.callS X9 hx (y := (⟨"com/example/quorum_tree/quorumtree/maze/Direction", "of", "(C)Lcom/example/quorum_tree/quorumtree/maze/Direction;"⟩ : MethodName)) hown (mvT hZ (hw _ (List.mem_of_getElem? (i := 3) rfl))) (mvT hZ (hw _ (List.mem_of_getElem? (i := 4) rfl))) (mvT hZ (hw _ (List.mem_of_getElem? (i := 1) rfl))) (mvT hZ (hw _ (List.mem_of_getElem? (i := 5) rfl))) (by decide) (backOf (W := 0) (rmOf l Z aV hw [] ch kA s_Direction_UP s_Direction_LEFT s_Direction_DOWN s_Direction_RIGHT s_Direction_ALL h0 n0 Zn S_s_Direction_ALL F_s_Direction_UP F_s_Direction_LEFT F_s_Direction_DOWN F_s_Direction_RIGHT V_s_Direction_ALL) hZ (hw _ (List.mem_of_getElem? (i := 5) rfl)) (hw _ (List.mem_of_getElem? (i := 1) rfl)) (by decide) (by decide)) (g := (mkF m 106 #[.val (.int p0), .val (.int p1), .val (.int ch), .val (.ref s_Direction_DOWN)] [(.int ch)])) rfl (by rw [hml]; rfl) (argsL := [(.int ch)]) (rest := []) (lenOf pd_0 rfl) rfl (by show 2 * 0 + _ ≤ _; exact Nat.le_of_eq rfl) (hb hby at_106) (fun _ _ => ⟨rfl, e9, (by decide : 0 + 0 ≤ _), (by decide : 0 + 0 ≤ _)⟩)
          dsimp only [Pt.U, Pt.locs, Pt.cells, Pt.slots] at X10 l10 y10 z10 st10 hQ10
          subst l10 y10 z10
          obtain ⟨rfl, N10q, e10⟩ := hQ10
          have N10 := Fr.app N0 N10q
          refine Run.st (S' := T10.setTop (mkF m 118 #[.val (.int p0), .val (.int p1), .val (.int ch), .val (.ref s_Direction_DOWN)] [(.int (1 : Int32))])) (fun _ k => st10 _ (XS.aloadN X10.here hx rfl (hb hby at_109) rfl rfl (Jvm.RoadKit.acmp (g := (mkF m 110 #[.val (.int p0), .val (.int p1), .val (.int ch), .val (.ref s_Direction_DOWN)] [(.ref s_Direction_DOWN), (FOf ch kA s_Direction_UP s_Direction_LEFT s_Direction_DOWN s_Direction_RIGHT s_Direction_ALL)])) X10 hx rfl (FOf_ref ch kA s_Direction_UP s_Direction_LEFT s_Direction_DOWN s_Direction_RIGHT s_Direction_ALL) rfl (pc0 := 110) (pc' := 113) (same := true) rfl (hb hby at_110) rfl (decide_eq_true (by unfold FOf; rw [if_neg (fun q => hc54_2 q.symm), if_neg (fun q => hc67_5 q.symm), if_pos hc80_8.symm])) (by decide) (by decide) (XS.iconst X10.here hx rfl (hb hby at_113) (XS.goto X10.here hx rfl (pc0 := 114) (pc' := 118) rfl (hb hby at_114) (by decide) (by decide) k))))) ?_
          refine Run.out X10 hx Bd.notSynchronized Bd.returns rfl (Or.inl ⟨rfl, by simp, _, rfl⟩) (hb hby at_118) (by decide) (by decide) ?_
          rw [e10]
          exact ⟨rfl, N10⟩
        · refine Run.st (S' := s₁.setTop (mkF m 93 #[.val (.int p0), .val (.int p1), .val (.int ch), .unset] [(.int (82 : Int32)), (.int ch)])) (fun _ k => XS.icmpYes X0.here hx rfl (pc0 := 80) (pc' := 90) rfl (hb hby at_80) rfl (feq hc80_8).2 (by decide) (by decide) (XS.iloadN X0.here hx rfl (hb hby at_90) rfl (XS.bipush X0.here hx rfl (hb hby at_91) k))) ?_
          by_cases hc93_11 : ch = (82 : Int32)
          · refine Run.st (S' := s₁.setTop (mkF m 96 #[.val (.int p0), .val (.int p1), .val (.int ch), .unset] [])) (fun _ k => XS.icmpNo X0.here hx rfl (hb hby at_93) rfl (teq hc93_11).2 k) ?_
            obtain ⟨T12, X12, e12, st12⟩ := getS2 X0 hx hZ hown (host := "") (Or.inl (hw _ (List.mem_of_getElem? (i := 15) rfl))) Via.refl e0 S_s_Direction_RIGHT (g := (mkF m 96 #[.val (.int p0), .val (.int p1), .val (.int ch), .unset] [])) rfl (hb hby at_96)
            refine Run.st (S' := T12.setTop (mkF m 106 #[.val (.int p0), .val (.int p1), .val (.int ch), .val (.ref s_Direction_RIGHT)] [(.int ch)])) (fun _ k => st12 _ (XS.astoreN X12.here hx rfl (hb hby at_99) rfl rfl (l' := #[.val (.int p0), .val (.int p1), .val (.int ch), .val (.ref s_Direction_RIGHT)]) rfl (XS.goto X12.here hx rfl (pc0 := 100) (pc' := 105) rfl (hb hby at_100) (by decide) (by decide) (XS.iloadN X12.here hx rfl (hb hby at_105) rfl k)))) ?_
            obtain ⟨_, _, ⟨T13, L13, k13, n13⟩, -, X13, ⟨Lc13, hQ13, l13, y13, z13⟩, st13⟩ := Jvm.LawKit.callS X12 hx (y := (⟨"com/example/quorum_tree/quorumtree/maze/Direction", "of", "(C)Lcom/example/quorum_tree/quorumtree/maze/Direction;"⟩ : MethodName)) hown (mvT hZ (hw _ (List.mem_of_getElem? (i := 3) rfl))) (mvT hZ (hw _ (List.mem_of_getElem? (i := 4) rfl))) (mvT hZ (hw _ (List.mem_of_getElem? (i := 1) rfl))) (mvT hZ (hw _ (List.mem_of_getElem? (i := 5) rfl))) (by decide) (backOf (W := 0) (rmOf l Z aV hw [] ch kA s_Direction_UP s_Direction_LEFT s_Direction_DOWN s_Direction_RIGHT s_Direction_ALL h0 n0 Zn S_s_Direction_ALL F_s_Direction_UP F_s_Direction_LEFT F_s_Direction_DOWN F_s_Direction_RIGHT V_s_Direction_ALL) hZ (hw _ (List.mem_of_getElem? (i := 5) rfl)) (hw _ (List.mem_of_getElem? (i := 1) rfl)) (by decide) (by decide)) (g := (mkF m 106 #[.val (.int p0), .val (.int p1), .val (.int ch), .val (.ref s_Direction_RIGHT)] [(.int ch)])) rfl (by rw [hml]; rfl) (argsL := [(.int ch)]) (rest := []) (lenOf pd_0 rfl) rfl (by show 2 * 0 + _ ≤ _; exact Nat.le_of_eq rfl) (hb hby at_106) (fun _ _ => ⟨rfl, e12, (by decide : 0 + 0 ≤ _), (by decide : 0 + 0 ≤ _)⟩)
            dsimp only [Pt.U, Pt.locs, Pt.cells, Pt.slots] at X13 l13 y13 z13 st13 hQ13
            subst l13 y13 z13
            obtain ⟨rfl, N13q, e13⟩ := hQ13
            have N13 := Fr.app N0 N13q
            refine Run.st (S' := T13.setTop (mkF m 118 #[.val (.int p0), .val (.int p1), .val (.int ch), .val (.ref s_Direction_RIGHT)] [(.int (1 : Int32))])) (fun _ k => st13 _ (XS.aloadN X13.here hx rfl (hb hby at_109) rfl rfl (Jvm.RoadKit.acmp (g := (mkF m 110 #[.val (.int p0), .val (.int p1), .val (.int ch), .val (.ref s_Direction_RIGHT)] [(.ref s_Direction_RIGHT), (FOf ch kA s_Direction_UP s_Direction_LEFT s_Direction_DOWN s_Direction_RIGHT s_Direction_ALL)])) X13 hx rfl (FOf_ref ch kA s_Direction_UP s_Direction_LEFT s_Direction_DOWN s_Direction_RIGHT s_Direction_ALL) rfl (pc0 := 110) (pc' := 113) (same := true) rfl (hb hby at_110) rfl (decide_eq_true (by unfold FOf; rw [if_neg (fun q => hc54_2 q.symm), if_neg (fun q => hc67_5 q.symm), if_neg (fun q => hc80_8 q.symm), if_pos hc93_11.symm])) (by decide) (by decide) (XS.iconst X13.here hx rfl (hb hby at_113) (XS.goto X13.here hx rfl (pc0 := 114) (pc' := 118) rfl (hb hby at_114) (by decide) (by decide) k))))) ?_
            refine Run.out X13 hx Bd.notSynchronized Bd.returns rfl (Or.inl ⟨rfl, by simp, _, rfl⟩) (hb hby at_118) (by decide) (by decide) ?_
            rw [e13]
            exact ⟨rfl, N13⟩
          · refine Run.st (S' := s₁.setTop (mkF m 106 #[.val (.int p0), .val (.int p1), .val (.int ch), .val .null] [(.int ch)])) (fun _ k => XS.icmpYes X0.here hx rfl (pc0 := 93) (pc' := 103) rfl (hb hby at_93) rfl (feq hc93_11).2 (by decide) (by decide) (XS.aconstNull X0.here hx rfl (hb hby at_103) (XS.astoreN X0.here hx rfl (hb hby at_104) rfl rfl (l' := #[.val (.int p0), .val (.int p1), .val (.int ch), .val .null]) rfl (XS.iloadN X0.here hx rfl (hb hby at_105) rfl k)))) ?_
            obtain ⟨_, _, ⟨T14, L14, k14, n14⟩, -, X14, ⟨Lc14, hQ14, l14, y14, z14⟩, st14⟩ := Jvm.LawKit.callS X0 hx (y := (⟨"com/example/quorum_tree/quorumtree/maze/Direction", "of", "(C)Lcom/example/quorum_tree/quorumtree/maze/Direction;"⟩ : MethodName)) hown (mvT hZ (hw _ (List.mem_of_getElem? (i := 3) rfl))) (mvT hZ (hw _ (List.mem_of_getElem? (i := 4) rfl))) (mvT hZ (hw _ (List.mem_of_getElem? (i := 1) rfl))) (mvT hZ (hw _ (List.mem_of_getElem? (i := 5) rfl))) (by decide) (backOf (W := 0) (rmOf l Z aV hw [] ch kA s_Direction_UP s_Direction_LEFT s_Direction_DOWN s_Direction_RIGHT s_Direction_ALL h0 n0 Zn S_s_Direction_ALL F_s_Direction_UP F_s_Direction_LEFT F_s_Direction_DOWN F_s_Direction_RIGHT V_s_Direction_ALL) hZ (hw _ (List.mem_of_getElem? (i := 5) rfl)) (hw _ (List.mem_of_getElem? (i := 1) rfl)) (by decide) (by decide)) (g := (mkF m 106 #[.val (.int p0), .val (.int p1), .val (.int ch), .val .null] [(.int ch)])) rfl (by rw [hml]; rfl) (argsL := [(.int ch)]) (rest := []) (lenOf pd_0 rfl) rfl (by show 2 * 0 + _ ≤ _; exact Nat.le_of_eq rfl) (hb hby at_106) (fun _ _ => ⟨rfl, e0, (by decide : 0 + 0 ≤ _), (by decide : 0 + 0 ≤ _)⟩)
            dsimp only [Pt.U, Pt.locs, Pt.cells, Pt.slots] at X14 l14 y14 z14 st14 hQ14
            subst l14 y14 z14
            obtain ⟨rfl, N14q, e14⟩ := hQ14
            have N14 := Fr.app N0 N14q
            refine Run.st (S' := T14.setTop (mkF m 118 #[.val (.int p0), .val (.int p1), .val (.int ch), .val .null] [(.int (1 : Int32))])) (fun _ k => st14 _ (XS.aloadN X14.here hx rfl (hb hby at_109) rfl rfl (Jvm.RoadKit.acmp (g := (mkF m 110 #[.val (.int p0), .val (.int p1), .val (.int ch), .val .null] [.null, (FOf ch kA s_Direction_UP s_Direction_LEFT s_Direction_DOWN s_Direction_RIGHT s_Direction_ALL)])) X14 hx rfl (FOf_ref ch kA s_Direction_UP s_Direction_LEFT s_Direction_DOWN s_Direction_RIGHT s_Direction_ALL) rfl (pc0 := 110) (pc' := 113) (same := true) rfl (hb hby at_110) rfl (decide_eq_true (by unfold FOf; rw [if_neg (fun q => hc54_2 q.symm), if_neg (fun q => hc67_5 q.symm), if_neg (fun q => hc80_8 q.symm), if_neg (fun q => hc93_11 q.symm)])) (by decide) (by decide) (XS.iconst X14.here hx rfl (hb hby at_113) (XS.goto X14.here hx rfl (pc0 := 114) (pc' := 118) rfl (hb hby at_114) (by decide) (by decide) k))))) ?_
            refine Run.out X14 hx Bd.notSynchronized Bd.returns rfl (Or.inl ⟨rfl, by simp, _, rfl⟩) (hb hby at_118) (by decide) (by decide) ?_
            rw [e14]
            exact ⟨rfl, N14⟩
  · refine Run.st (S' := s₁.setTop (mkF m 11 #[.val (.int p0), .val (.int p1), .unset, .val (.int (p0 &&& (3 : Int32)))] [(.int (p0 &&& (3 : Int32)))])) (fun _ k => XS.ifNo X0.here hx rfl (hb hby at_3) rfl ((if0 _ _).trans (feq hc3_1).1) (XS.iloadN X0.here hx rfl (hb hby at_6) rfl (XS.iconst X0.here hx rfl (hb hby at_7) (XS.iand X0.here hx rfl (hb hby at_8) rfl (XS.istoreN X0.here hx rfl (hb hby at_9) rfl (l' := #[.val (.int p0), .val (.int p1), .unset, .val (.int (p0 &&& (3 : Int32)))]) rfl (XS.iloadN X0.here hx rfl (hb hby at_10) rfl k)))))) ?_
    by_cases hc11_15 : (p0 &&& (3 : Int32)) = (0 : Int32)
    · refine Run.st (S' := s₁.setTop (mkF m 57 #[.val (.int p0), .val (.int p1), .val (.int (85 : Int32)), .val (.int (p0 &&& (3 : Int32)))] [])) (fun _ k => XS.ifNo X0.here hx rfl (hb hby at_11) rfl ((if0 _ _).trans (teq hc11_15).2) (XS.bipush X0.here hx rfl (hb hby at_14) (XS.istoreN X0.here hx rfl (hb hby at_16) rfl (l' := #[.val (.int p0), .val (.int p1), .val (.int (85 : Int32)), .val (.int (p0 &&& (3 : Int32)))]) rfl (XS.goto X0.here hx rfl (pc0 := 17) (pc' := 45) rfl (hb hby at_17) (by decide) (by decide) (XS.goto X0.here hx rfl (pc0 := 45) (pc' := 51) rfl (hb hby at_45) (by decide) (by decide) (XS.iloadN X0.here hx rfl (hb hby at_51) rfl (XS.bipush X0.here hx rfl (hb hby at_52) (XS.icmpNo X0.here hx rfl (hb hby at_54) rfl (teq (show (85 : Int32) = (85 : Int32) from (by decide))).2 k)))))))) ?_
      obtain ⟨T16, X16, e16, st16⟩ := getS2 X0 hx hZ hown (host := "") (Or.inl (hw _ (List.mem_of_getElem? (i := 0) rfl))) Via.refl e0 S_s_Direction_UP (g := (mkF m 57 #[.val (.int p0), .val (.int p1), .val (.int (85 : Int32)), .val (.int (p0 &&& (3 : Int32)))] [])) rfl (hb hby at_57)
      refine Run.st (S' := T16.setTop (mkF m 106 #[.val (.int p0), .val (.int p1), .val (.int (85 : Int32)), .val (.ref s_Direction_UP)] [(.int (85 : Int32))])) (fun _ k => st16 _ (XS.astoreN X16.here hx rfl (hb hby at_60) rfl rfl (l' := #[.val (.int p0), .val (.int p1), .val (.int (85 : Int32)), .val (.ref s_Direction_UP)]) rfl (XS.goto X16.here hx rfl (pc0 := 61) (pc' := 105) rfl (hb hby at_61) (by decide) (by decide) (XS.iloadN X16.here hx rfl (hb hby at_105) rfl k)))) ?_
      obtain ⟨_, _, ⟨T17, L17, k17, n17⟩, -, X17, ⟨Lc17, hQ17, l17, y17, z17⟩, st17⟩ := Jvm.LawKit.callS X16 hx (y := (⟨"com/example/quorum_tree/quorumtree/maze/Direction", "of", "(C)Lcom/example/quorum_tree/quorumtree/maze/Direction;"⟩ : MethodName)) hown (mvT hZ (hw _ (List.mem_of_getElem? (i := 3) rfl))) (mvT hZ (hw _ (List.mem_of_getElem? (i := 4) rfl))) (mvT hZ (hw _ (List.mem_of_getElem? (i := 1) rfl))) (mvT hZ (hw _ (List.mem_of_getElem? (i := 5) rfl))) (by decide) (backOf (W := 0) (rmOf l Z aV hw [] (85 : Int32) kA s_Direction_UP s_Direction_LEFT s_Direction_DOWN s_Direction_RIGHT s_Direction_ALL h0 n0 Zn S_s_Direction_ALL F_s_Direction_UP F_s_Direction_LEFT F_s_Direction_DOWN F_s_Direction_RIGHT V_s_Direction_ALL) hZ (hw _ (List.mem_of_getElem? (i := 5) rfl)) (hw _ (List.mem_of_getElem? (i := 1) rfl)) (by decide) (by decide)) (g := (mkF m 106 #[.val (.int p0), .val (.int p1), .val (.int (85 : Int32)), .val (.ref s_Direction_UP)] [(.int (85 : Int32))])) rfl (by rw [hml]; rfl) (argsL := [(.int (85 : Int32))]) (rest := []) (lenOf pd_0 rfl) rfl (by show 2 * 0 + _ ≤ _; exact Nat.le_of_eq rfl) (hb hby at_106) (fun _ _ => ⟨rfl, e16, (by decide : 0 + 0 ≤ _), (by decide : 0 + 0 ≤ _)⟩)
      dsimp only [Pt.U, Pt.locs, Pt.cells, Pt.slots] at X17 l17 y17 z17 st17 hQ17
      subst l17 y17 z17
      obtain ⟨rfl, N17q, e17⟩ := hQ17
      have N17 := Fr.app N0 N17q
      refine Run.st (S' := T17.setTop (mkF m 118 #[.val (.int p0), .val (.int p1), .val (.int (85 : Int32)), .val (.ref s_Direction_UP)] [(.int (1 : Int32))])) (fun _ k => st17 _ (XS.aloadN X17.here hx rfl (hb hby at_109) rfl rfl (Jvm.RoadKit.acmp (g := (mkF m 110 #[.val (.int p0), .val (.int p1), .val (.int (85 : Int32)), .val (.ref s_Direction_UP)] [(.ref s_Direction_UP), (FOf (85 : Int32) kA s_Direction_UP s_Direction_LEFT s_Direction_DOWN s_Direction_RIGHT s_Direction_ALL)])) X17 hx rfl (FOf_ref (85 : Int32) kA s_Direction_UP s_Direction_LEFT s_Direction_DOWN s_Direction_RIGHT s_Direction_ALL) rfl (pc0 := 110) (pc' := 113) (same := true) rfl (hb hby at_110) rfl (decide_eq_true (by unfold FOf; simp)) (by decide) (by decide) (XS.iconst X17.here hx rfl (hb hby at_113) (XS.goto X17.here hx rfl (pc0 := 114) (pc' := 118) rfl (hb hby at_114) (by decide) (by decide) k))))) ?_
      refine Run.out X17 hx Bd.notSynchronized Bd.returns rfl (Or.inl ⟨rfl, by simp, _, rfl⟩) (hb hby at_118) (by decide) (by decide) ?_
      rw [e17]
      exact ⟨rfl, N17⟩
    · refine Run.st (S' := s₁.setTop (mkF m 22 #[.val (.int p0), .val (.int p1), .unset, .val (.int (p0 &&& (3 : Int32)))] [(.int (1 : Int32)), (.int (p0 &&& (3 : Int32)))])) (fun _ k => XS.ifYes X0.here hx rfl (pc0 := 11) (pc' := 20) rfl (hb hby at_11) rfl ((if0 _ _).trans (feq hc11_15).2) (by decide) (by decide) (XS.iloadN X0.here hx rfl (hb hby at_20) rfl (XS.iconst X0.here hx rfl (hb hby at_21) k))) ?_
      by_cases hc22_18 : (p0 &&& (3 : Int32)) = (1 : Int32)
      · refine Run.st (S' := s₁.setTop (mkF m 64 #[.val (.int p0), .val (.int p1), .val (.int (76 : Int32)), .val (.int (p0 &&& (3 : Int32)))] [])) (fun _ k => XS.icmpNo X0.here hx rfl (hb hby at_22) rfl (teq hc22_18).2 (XS.bipush X0.here hx rfl (hb hby at_25) (XS.istoreN X0.here hx rfl (hb hby at_27) rfl (l' := #[.val (.int p0), .val (.int p1), .val (.int (76 : Int32)), .val (.int (p0 &&& (3 : Int32)))]) rfl (XS.goto X0.here hx rfl (pc0 := 28) (pc' := 45) rfl (hb hby at_28) (by decide) (by decide) (XS.goto X0.here hx rfl (pc0 := 45) (pc' := 51) rfl (hb hby at_45) (by decide) (by decide) (XS.iloadN X0.here hx rfl (hb hby at_51) rfl (XS.bipush X0.here hx rfl (hb hby at_52) (XS.icmpYes X0.here hx rfl (pc0 := 54) (pc' := 64) rfl (hb hby at_54) rfl (feq (show ¬ ((76 : Int32) = (85 : Int32)) from (by decide))).2 (by decide) (by decide) k)))))))) ?_
        refine Run.st (S' := s₁.setTop (mkF m 70 #[.val (.int p0), .val (.int p1), .val (.int (76 : Int32)), .val (.int (p0 &&& (3 : Int32)))] [])) (fun _ k => XS.iloadN X0.here hx rfl (hb hby at_64) rfl (XS.bipush X0.here hx rfl (hb hby at_65) (XS.icmpNo X0.here hx rfl (hb hby at_67) rfl (teq (show (76 : Int32) = (76 : Int32) from (by decide))).2 k))) ?_
        obtain ⟨T19, X19, e19, st19⟩ := getS2 X0 hx hZ hown (host := "") (Or.inl (hw _ (List.mem_of_getElem? (i := 14) rfl))) Via.refl e0 S_s_Direction_LEFT (g := (mkF m 70 #[.val (.int p0), .val (.int p1), .val (.int (76 : Int32)), .val (.int (p0 &&& (3 : Int32)))] [])) rfl (hb hby at_70)
        refine Run.st (S' := T19.setTop (mkF m 106 #[.val (.int p0), .val (.int p1), .val (.int (76 : Int32)), .val (.ref s_Direction_LEFT)] [(.int (76 : Int32))])) (fun _ k => st19 _ (XS.astoreN X19.here hx rfl (hb hby at_73) rfl rfl (l' := #[.val (.int p0), .val (.int p1), .val (.int (76 : Int32)), .val (.ref s_Direction_LEFT)]) rfl (XS.goto X19.here hx rfl (pc0 := 74) (pc' := 105) rfl (hb hby at_74) (by decide) (by decide) (XS.iloadN X19.here hx rfl (hb hby at_105) rfl k)))) ?_
        obtain ⟨_, _, ⟨T20, L20, k20, n20⟩, -, X20, ⟨Lc20, hQ20, l20, y20, z20⟩, st20⟩ := Jvm.LawKit.callS X19 hx (y := (⟨"com/example/quorum_tree/quorumtree/maze/Direction", "of", "(C)Lcom/example/quorum_tree/quorumtree/maze/Direction;"⟩ : MethodName)) hown (mvT hZ (hw _ (List.mem_of_getElem? (i := 3) rfl))) (mvT hZ (hw _ (List.mem_of_getElem? (i := 4) rfl))) (mvT hZ (hw _ (List.mem_of_getElem? (i := 1) rfl))) (mvT hZ (hw _ (List.mem_of_getElem? (i := 5) rfl))) (by decide) (backOf (W := 0) (rmOf l Z aV hw [] (76 : Int32) kA s_Direction_UP s_Direction_LEFT s_Direction_DOWN s_Direction_RIGHT s_Direction_ALL h0 n0 Zn S_s_Direction_ALL F_s_Direction_UP F_s_Direction_LEFT F_s_Direction_DOWN F_s_Direction_RIGHT V_s_Direction_ALL) hZ (hw _ (List.mem_of_getElem? (i := 5) rfl)) (hw _ (List.mem_of_getElem? (i := 1) rfl)) (by decide) (by decide)) (g := (mkF m 106 #[.val (.int p0), .val (.int p1), .val (.int (76 : Int32)), .val (.ref s_Direction_LEFT)] [(.int (76 : Int32))])) rfl (by rw [hml]; rfl) (argsL := [(.int (76 : Int32))]) (rest := []) (lenOf pd_0 rfl) rfl (by show 2 * 0 + _ ≤ _; exact Nat.le_of_eq rfl) (hb hby at_106) (fun _ _ => ⟨rfl, e19, (by decide : 0 + 0 ≤ _), (by decide : 0 + 0 ≤ _)⟩)
        dsimp only [Pt.U, Pt.locs, Pt.cells, Pt.slots] at X20 l20 y20 z20 st20 hQ20
        subst l20 y20 z20
        obtain ⟨rfl, N20q, e20⟩ := hQ20
        have N20 := Fr.app N0 N20q
        refine Run.st (S' := T20.setTop (mkF m 118 #[.val (.int p0), .val (.int p1), .val (.int (76 : Int32)), .val (.ref s_Direction_LEFT)] [(.int (1 : Int32))])) (fun _ k => st20 _ (XS.aloadN X20.here hx rfl (hb hby at_109) rfl rfl (Jvm.RoadKit.acmp (g := (mkF m 110 #[.val (.int p0), .val (.int p1), .val (.int (76 : Int32)), .val (.ref s_Direction_LEFT)] [(.ref s_Direction_LEFT), (FOf (76 : Int32) kA s_Direction_UP s_Direction_LEFT s_Direction_DOWN s_Direction_RIGHT s_Direction_ALL)])) X20 hx rfl (FOf_ref (76 : Int32) kA s_Direction_UP s_Direction_LEFT s_Direction_DOWN s_Direction_RIGHT s_Direction_ALL) rfl (pc0 := 110) (pc' := 113) (same := true) rfl (hb hby at_110) rfl (decide_eq_true (by unfold FOf; simp)) (by decide) (by decide) (XS.iconst X20.here hx rfl (hb hby at_113) (XS.goto X20.here hx rfl (pc0 := 114) (pc' := 118) rfl (hb hby at_114) (by decide) (by decide) k))))) ?_
        refine Run.out X20 hx Bd.notSynchronized Bd.returns rfl (Or.inl ⟨rfl, by simp, _, rfl⟩) (hb hby at_118) (by decide) (by decide) ?_
        rw [e20]
        exact ⟨rfl, N20⟩
      · refine Run.st (S' := s₁.setTop (mkF m 33 #[.val (.int p0), .val (.int p1), .unset, .val (.int (p0 &&& (3 : Int32)))] [(.int (2 : Int32)), (.int (p0 &&& (3 : Int32)))])) (fun _ k => XS.icmpYes X0.here hx rfl (pc0 := 22) (pc' := 31) rfl (hb hby at_22) rfl (feq hc22_18).2 (by decide) (by decide) (XS.iloadN X0.here hx rfl (hb hby at_31) rfl (XS.iconst X0.here hx rfl (hb hby at_32) k))) ?_
        by_cases hc33_21 : (p0 &&& (3 : Int32)) = (2 : Int32)
        · refine Run.st (S' := s₁.setTop (mkF m 64 #[.val (.int p0), .val (.int p1), .val (.int (68 : Int32)), .val (.int (p0 &&& (3 : Int32)))] [])) (fun _ k => XS.icmpNo X0.here hx rfl (hb hby at_33) rfl (teq hc33_21).2 (XS.bipush X0.here hx rfl (hb hby at_36) (XS.istoreN X0.here hx rfl (hb hby at_38) rfl (l' := #[.val (.int p0), .val (.int p1), .val (.int (68 : Int32)), .val (.int (p0 &&& (3 : Int32)))]) rfl (XS.goto X0.here hx rfl (pc0 := 39) (pc' := 45) rfl (hb hby at_39) (by decide) (by decide) (XS.goto X0.here hx rfl (pc0 := 45) (pc' := 51) rfl (hb hby at_45) (by decide) (by decide) (XS.iloadN X0.here hx rfl (hb hby at_51) rfl (XS.bipush X0.here hx rfl (hb hby at_52) (XS.icmpYes X0.here hx rfl (pc0 := 54) (pc' := 64) rfl (hb hby at_54) rfl (feq (show ¬ ((68 : Int32) = (85 : Int32)) from (by decide))).2 (by decide) (by decide) k)))))))) ?_
          refine Run.st (S' := s₁.setTop (mkF m 83 #[.val (.int p0), .val (.int p1), .val (.int (68 : Int32)), .val (.int (p0 &&& (3 : Int32)))] [])) (fun _ k => XS.iloadN X0.here hx rfl (hb hby at_64) rfl (XS.bipush X0.here hx rfl (hb hby at_65) (XS.icmpYes X0.here hx rfl (pc0 := 67) (pc' := 77) rfl (hb hby at_67) rfl (feq (show ¬ ((68 : Int32) = (76 : Int32)) from (by decide))).2 (by decide) (by decide) (XS.iloadN X0.here hx rfl (hb hby at_77) rfl (XS.bipush X0.here hx rfl (hb hby at_78) (XS.icmpNo X0.here hx rfl (hb hby at_80) rfl (teq (show (68 : Int32) = (68 : Int32) from (by decide))).2 k)))))) ?_
          obtain ⟨T22, X22, e22, st22⟩ := getS2 X0 hx hZ hown (host := "") (Or.inl (hw _ (List.mem_of_getElem? (i := 10) rfl))) Via.refl e0 S_s_Direction_DOWN (g := (mkF m 83 #[.val (.int p0), .val (.int p1), .val (.int (68 : Int32)), .val (.int (p0 &&& (3 : Int32)))] [])) rfl (hb hby at_83)
          refine Run.st (S' := T22.setTop (mkF m 106 #[.val (.int p0), .val (.int p1), .val (.int (68 : Int32)), .val (.ref s_Direction_DOWN)] [(.int (68 : Int32))])) (fun _ k => st22 _ (XS.astoreN X22.here hx rfl (hb hby at_86) rfl rfl (l' := #[.val (.int p0), .val (.int p1), .val (.int (68 : Int32)), .val (.ref s_Direction_DOWN)]) rfl (XS.goto X22.here hx rfl (pc0 := 87) (pc' := 105) rfl (hb hby at_87) (by decide) (by decide) (XS.iloadN X22.here hx rfl (hb hby at_105) rfl k)))) ?_
          obtain ⟨_, _, ⟨T23, L23, k23, n23⟩, -, X23, ⟨Lc23, hQ23, l23, y23, z23⟩, st23⟩ := Jvm.LawKit.callS X22 hx (y := (⟨"com/example/quorum_tree/quorumtree/maze/Direction", "of", "(C)Lcom/example/quorum_tree/quorumtree/maze/Direction;"⟩ : MethodName)) hown (mvT hZ (hw _ (List.mem_of_getElem? (i := 3) rfl))) (mvT hZ (hw _ (List.mem_of_getElem? (i := 4) rfl))) (mvT hZ (hw _ (List.mem_of_getElem? (i := 1) rfl))) (mvT hZ (hw _ (List.mem_of_getElem? (i := 5) rfl))) (by decide) (backOf (W := 0) (rmOf l Z aV hw [] (68 : Int32) kA s_Direction_UP s_Direction_LEFT s_Direction_DOWN s_Direction_RIGHT s_Direction_ALL h0 n0 Zn S_s_Direction_ALL F_s_Direction_UP F_s_Direction_LEFT F_s_Direction_DOWN F_s_Direction_RIGHT V_s_Direction_ALL) hZ (hw _ (List.mem_of_getElem? (i := 5) rfl)) (hw _ (List.mem_of_getElem? (i := 1) rfl)) (by decide) (by decide)) (g := (mkF m 106 #[.val (.int p0), .val (.int p1), .val (.int (68 : Int32)), .val (.ref s_Direction_DOWN)] [(.int (68 : Int32))])) rfl (by rw [hml]; rfl) (argsL := [(.int (68 : Int32))]) (rest := []) (lenOf pd_0 rfl) rfl (by show 2 * 0 + _ ≤ _; exact Nat.le_of_eq rfl) (hb hby at_106) (fun _ _ => ⟨rfl, e22, (by decide : 0 + 0 ≤ _), (by decide : 0 + 0 ≤ _)⟩)
          dsimp only [Pt.U, Pt.locs, Pt.cells, Pt.slots] at X23 l23 y23 z23 st23 hQ23
          subst l23 y23 z23
          obtain ⟨rfl, N23q, e23⟩ := hQ23
          have N23 := Fr.app N0 N23q
          refine Run.st (S' := T23.setTop (mkF m 118 #[.val (.int p0), .val (.int p1), .val (.int (68 : Int32)), .val (.ref s_Direction_DOWN)] [(.int (1 : Int32))])) (fun _ k => st23 _ (XS.aloadN X23.here hx rfl (hb hby at_109) rfl rfl (Jvm.RoadKit.acmp (g := (mkF m 110 #[.val (.int p0), .val (.int p1), .val (.int (68 : Int32)), .val (.ref s_Direction_DOWN)] [(.ref s_Direction_DOWN), (FOf (68 : Int32) kA s_Direction_UP s_Direction_LEFT s_Direction_DOWN s_Direction_RIGHT s_Direction_ALL)])) X23 hx rfl (FOf_ref (68 : Int32) kA s_Direction_UP s_Direction_LEFT s_Direction_DOWN s_Direction_RIGHT s_Direction_ALL) rfl (pc0 := 110) (pc' := 113) (same := true) rfl (hb hby at_110) rfl (decide_eq_true (by unfold FOf; simp)) (by decide) (by decide) (XS.iconst X23.here hx rfl (hb hby at_113) (XS.goto X23.here hx rfl (pc0 := 114) (pc' := 118) rfl (hb hby at_114) (by decide) (by decide) k))))) ?_
          refine Run.out X23 hx Bd.notSynchronized Bd.returns rfl (Or.inl ⟨rfl, by simp, _, rfl⟩) (hb hby at_118) (by decide) (by decide) ?_
          rw [e23]
          exact ⟨rfl, N23⟩
        · refine Run.st (S' := s₁.setTop (mkF m 65 #[.val (.int p0), .val (.int p1), .val (.int (82 : Int32)), .val (.int (p0 &&& (3 : Int32)))] [(.int (82 : Int32))])) (fun _ k => XS.icmpYes X0.here hx rfl (pc0 := 33) (pc' := 42) rfl (hb hby at_33) rfl (feq hc33_21).2 (by decide) (by decide) (XS.bipush X0.here hx rfl (hb hby at_42) (XS.istoreN X0.here hx rfl (hb hby at_44) rfl (l' := #[.val (.int p0), .val (.int p1), .val (.int (82 : Int32)), .val (.int (p0 &&& (3 : Int32)))]) rfl (XS.goto X0.here hx rfl (pc0 := 45) (pc' := 51) rfl (hb hby at_45) (by decide) (by decide) (XS.iloadN X0.here hx rfl (hb hby at_51) rfl (XS.bipush X0.here hx rfl (hb hby at_52) (XS.icmpYes X0.here hx rfl (pc0 := 54) (pc' := 64) rfl (hb hby at_54) rfl (feq (show ¬ ((82 : Int32) = (85 : Int32)) from (by decide))).2 (by decide) (by decide) (XS.iloadN X0.here hx rfl (hb hby at_64) rfl k)))))))) ?_
          refine Run.st (S' := s₁.setTop (mkF m 96 #[.val (.int p0), .val (.int p1), .val (.int (82 : Int32)), .val (.int (p0 &&& (3 : Int32)))] [])) (fun _ k => XS.bipush X0.here hx rfl (hb hby at_65) (XS.icmpYes X0.here hx rfl (pc0 := 67) (pc' := 77) rfl (hb hby at_67) rfl (feq (show ¬ ((82 : Int32) = (76 : Int32)) from (by decide))).2 (by decide) (by decide) (XS.iloadN X0.here hx rfl (hb hby at_77) rfl (XS.bipush X0.here hx rfl (hb hby at_78) (XS.icmpYes X0.here hx rfl (pc0 := 80) (pc' := 90) rfl (hb hby at_80) rfl (feq (show ¬ ((82 : Int32) = (68 : Int32)) from (by decide))).2 (by decide) (by decide) (XS.iloadN X0.here hx rfl (hb hby at_90) rfl (XS.bipush X0.here hx rfl (hb hby at_91) (XS.icmpNo X0.here hx rfl (hb hby at_93) rfl (teq (show (82 : Int32) = (82 : Int32) from (by decide))).2 k)))))))) ?_
          obtain ⟨T24, X24, e24, st24⟩ := getS2 X0 hx hZ hown (host := "") (Or.inl (hw _ (List.mem_of_getElem? (i := 15) rfl))) Via.refl e0 S_s_Direction_RIGHT (g := (mkF m 96 #[.val (.int p0), .val (.int p1), .val (.int (82 : Int32)), .val (.int (p0 &&& (3 : Int32)))] [])) rfl (hb hby at_96)
          refine Run.st (S' := T24.setTop (mkF m 106 #[.val (.int p0), .val (.int p1), .val (.int (82 : Int32)), .val (.ref s_Direction_RIGHT)] [(.int (82 : Int32))])) (fun _ k => st24 _ (XS.astoreN X24.here hx rfl (hb hby at_99) rfl rfl (l' := #[.val (.int p0), .val (.int p1), .val (.int (82 : Int32)), .val (.ref s_Direction_RIGHT)]) rfl (XS.goto X24.here hx rfl (pc0 := 100) (pc' := 105) rfl (hb hby at_100) (by decide) (by decide) (XS.iloadN X24.here hx rfl (hb hby at_105) rfl k)))) ?_
          obtain ⟨_, _, ⟨T25, L25, k25, n25⟩, -, X25, ⟨Lc25, hQ25, l25, y25, z25⟩, st25⟩ := Jvm.LawKit.callS X24 hx (y := (⟨"com/example/quorum_tree/quorumtree/maze/Direction", "of", "(C)Lcom/example/quorum_tree/quorumtree/maze/Direction;"⟩ : MethodName)) hown (mvT hZ (hw _ (List.mem_of_getElem? (i := 3) rfl))) (mvT hZ (hw _ (List.mem_of_getElem? (i := 4) rfl))) (mvT hZ (hw _ (List.mem_of_getElem? (i := 1) rfl))) (mvT hZ (hw _ (List.mem_of_getElem? (i := 5) rfl))) (by decide) (backOf (W := 0) (rmOf l Z aV hw [] (82 : Int32) kA s_Direction_UP s_Direction_LEFT s_Direction_DOWN s_Direction_RIGHT s_Direction_ALL h0 n0 Zn S_s_Direction_ALL F_s_Direction_UP F_s_Direction_LEFT F_s_Direction_DOWN F_s_Direction_RIGHT V_s_Direction_ALL) hZ (hw _ (List.mem_of_getElem? (i := 5) rfl)) (hw _ (List.mem_of_getElem? (i := 1) rfl)) (by decide) (by decide)) (g := (mkF m 106 #[.val (.int p0), .val (.int p1), .val (.int (82 : Int32)), .val (.ref s_Direction_RIGHT)] [(.int (82 : Int32))])) rfl (by rw [hml]; rfl) (argsL := [(.int (82 : Int32))]) (rest := []) (lenOf pd_0 rfl) rfl (by show 2 * 0 + _ ≤ _; exact Nat.le_of_eq rfl) (hb hby at_106) (fun _ _ => ⟨rfl, e24, (by decide : 0 + 0 ≤ _), (by decide : 0 + 0 ≤ _)⟩)
          dsimp only [Pt.U, Pt.locs, Pt.cells, Pt.slots] at X25 l25 y25 z25 st25 hQ25
          subst l25 y25 z25
          obtain ⟨rfl, N25q, e25⟩ := hQ25
          have N25 := Fr.app N0 N25q
          refine Run.st (S' := T25.setTop (mkF m 118 #[.val (.int p0), .val (.int p1), .val (.int (82 : Int32)), .val (.ref s_Direction_RIGHT)] [(.int (1 : Int32))])) (fun _ k => st25 _ (XS.aloadN X25.here hx rfl (hb hby at_109) rfl rfl (Jvm.RoadKit.acmp (g := (mkF m 110 #[.val (.int p0), .val (.int p1), .val (.int (82 : Int32)), .val (.ref s_Direction_RIGHT)] [(.ref s_Direction_RIGHT), (FOf (82 : Int32) kA s_Direction_UP s_Direction_LEFT s_Direction_DOWN s_Direction_RIGHT s_Direction_ALL)])) X25 hx rfl (FOf_ref (82 : Int32) kA s_Direction_UP s_Direction_LEFT s_Direction_DOWN s_Direction_RIGHT s_Direction_ALL) rfl (pc0 := 110) (pc' := 113) (same := true) rfl (hb hby at_110) rfl (decide_eq_true (by unfold FOf; simp)) (by decide) (by decide) (XS.iconst X25.here hx rfl (hb hby at_113) (XS.goto X25.here hx rfl (pc0 := 114) (pc' := 118) rfl (hb hby at_114) (by decide) (by decide) k))))) ?_
          refine Run.out X25 hx Bd.notSynchronized Bd.returns rfl (Or.inl ⟨rfl, by simp, _, rfl⟩) (hb hby at_118) (by decide) (by decide) ?_
          rw [e25]
          exact ⟨rfl, N25⟩
set_option maxRecDepth 65536 in
set_option maxHeartbeats 40000000 in
theorem comes_1 {Post : Tables → Env → Array Value → State → Outcome → State → Prop} (hpost : ∀ tb e args s v u, (limb_1_1.after args s (.returned v) u = true ∧ limb_1_2.after args s (.returned v) u = true ∧ True) → FrameEnd s (.returned v) u (Jvm.fieldLocs frame_1_writes args s ++ Jvm.arrayLocs frame_1_arrays args s ++ Jvm.staticLocs frame_1_statics s) 0 0 → Post tb e args s (.returned v) u) :
    ArmFor flags0 classFile x code maxLocals ret World_1 tables_1 room_1 Calls_1 rest_1 Pre_1 Post := by
  intro l hfl _ _ p e ha hc hk s m args below hf hA hF happ hP
  obtain ⟨hcalls, hrest, hpre⟩ := hP
  obtain ⟨-, -, -, hnamed, -, -, -, hat⟩ := (Spec.applies_iff hf).mp happ
  obtain ⟨hg, hn⟩ := and_e (Cond.before_iff.mp (show (Jvm.Cond.and given_1 narrow_1).before args s = true from hpre))
  obtain ⟨gv1, gv2⟩ := and_e hg
  obtain ⟨gv3, gv4⟩ := and_e gv2
  obtain ⟨gv5, gv6⟩ := and_e hn
  obtain ⟨gv7, gv8⟩ := and_e gv6
  obtain ⟨gv9, gv10⟩ := and_e gv8
  obtain ⟨gv11, gv12⟩ := and_e gv10
  obtain ⟨gv13, gv14⟩ := and_e gv12
  obtain ⟨gv15, gv16⟩ := and_e gv14
  obtain ⟨gv17, gv18⟩ := and_e gv16
  obtain ⟨gv19, gv20⟩ := and_e gv18
  obtain ⟨gv21, gv22⟩ := and_e gv20
  obtain ⟨gv23, gv24⟩ := and_e gv22
  obtain ⟨gv25, gv26⟩ := and_e gv24
  obtain ⟨gv27, gv28⟩ := and_e gv26
  obtain ⟨gv29, gv30⟩ := and_e gv28
  obtain ⟨w0, w1, rfl⟩ : ∃ w0 w1 : Value, args = #[w0, w1] := by
    have hs : args.size = 2 := by simpa [Cond.value, given_1] using gv1
    obtain ⟨L⟩ := args
    match L, hs with
    | [w0, w1], _ => exact ⟨w0, w1, rfl⟩
  have hw := fun d (hd : d ∈ tables_1) => atoms_spec (ws := Jvm.Cond.code x code maxLocals ret :: tables_1) hat d (List.mem_cons_of_mem _ hd)
  have hfit : Fit s := fun {y c} hc i hi => by
    obtain ⟨ha, rfl⟩ := Array.getElem?_eq_some_iff.mp hc
    have q := List.all_eq_true.mp ((Array.all_eq_true_iff_forall_mem.mp hF) _ (Array.getElem_mem ha)) i (List.mem_range.mpr hi)
    simpa [Array.getElem?_eq_getElem hi] using q
  obtain ⟨i0, ei0⟩ := is_v gv3
  obtain rfl : w0 = (.int i0) := Option.some.inj ei0
  obtain ⟨i1, ei1⟩ := is_v gv4
  obtain rfl : w1 = (.int i1) := Option.some.inj ei1
  obtain ⟨s_Direction_UP, ev_s_Direction_UP⟩ := exa_v gv5
  have S_s_Direction_UP : Sta s s.heap "com/example/quorum_tree/quorumtree/maze/Direction" "UP" "Lcom/example/quorum_tree/quorumtree/maze/Direction;" (.ref s_Direction_UP) := Sta.start ev_s_Direction_UP (Or.inr ⟨(hw _ (List.mem_of_getElem? (i := 1) rfl)), (hw _ (List.mem_of_getElem? (i := 2) rfl))⟩)
  have E_s_Direction_UP : Exa s s.heap s_Direction_UP "com/example/quorum_tree/quorumtree/maze/Direction" := Exa.start ev_s_Direction_UP gv5
  obtain ⟨s_Direction_ALL, ev_s_Direction_ALL⟩ := arr_v gv7
  have S_s_Direction_ALL : Sta s s.heap "com/example/quorum_tree/quorumtree/maze/Direction" "ALL" "[Lcom/example/quorum_tree/quorumtree/maze/Direction;" (.ref s_Direction_ALL) := Sta.start ev_s_Direction_ALL (Or.inr ⟨(hw _ (List.mem_of_getElem? (i := 1) rfl)), (hw _ (List.mem_of_getElem? (i := 7) rfl))⟩)
  obtain ⟨cl_s_Direction_ALL, A_s_Direction_ALL⟩ := Arr.start ev_s_Direction_ALL gv7
  obtain ⟨s_Direction_DOWN, ev_s_Direction_DOWN⟩ := exa_v gv15
  have S_s_Direction_DOWN : Sta s s.heap "com/example/quorum_tree/quorumtree/maze/Direction" "DOWN" "Lcom/example/quorum_tree/quorumtree/maze/Direction;" (.ref s_Direction_DOWN) := Sta.start ev_s_Direction_DOWN (Or.inr ⟨(hw _ (List.mem_of_getElem? (i := 1) rfl)), (hw _ (List.mem_of_getElem? (i := 11) rfl))⟩)
  have E_s_Direction_DOWN : Exa s s.heap s_Direction_DOWN "com/example/quorum_tree/quorumtree/maze/Direction" := Exa.start ev_s_Direction_DOWN gv15
  obtain ⟨s_Direction_LEFT, ev_s_Direction_LEFT⟩ := exa_v gv17
  have S_s_Direction_LEFT : Sta s s.heap "com/example/quorum_tree/quorumtree/maze/Direction" "LEFT" "Lcom/example/quorum_tree/quorumtree/maze/Direction;" (.ref s_Direction_LEFT) := Sta.start ev_s_Direction_LEFT (Or.inr ⟨(hw _ (List.mem_of_getElem? (i := 1) rfl)), (hw _ (List.mem_of_getElem? (i := 12) rfl))⟩)
  have E_s_Direction_LEFT : Exa s s.heap s_Direction_LEFT "com/example/quorum_tree/quorumtree/maze/Direction" := Exa.start ev_s_Direction_LEFT gv17
  obtain ⟨s_Direction_RIGHT, ev_s_Direction_RIGHT⟩ := exa_v gv27
  have S_s_Direction_RIGHT : Sta s s.heap "com/example/quorum_tree/quorumtree/maze/Direction" "RIGHT" "Lcom/example/quorum_tree/quorumtree/maze/Direction;" (.ref s_Direction_RIGHT) := Sta.start ev_s_Direction_RIGHT (Or.inr ⟨(hw _ (List.mem_of_getElem? (i := 1) rfl)), (hw _ (List.mem_of_getElem? (i := 13) rfl))⟩)
  have E_s_Direction_RIGHT : Exa s s.heap s_Direction_RIGHT "com/example/quorum_tree/quorumtree/maze/Direction" := Exa.start ev_s_Direction_RIGHT gv27
  have len_s_Direction_ALL := arr_len ev_s_Direction_ALL A_s_Direction_ALL gv9
  have el_s_Direction_ALL_0 := arr_elR ev_s_Direction_ALL A_s_Direction_ALL gv11 ev_s_Direction_UP (by decide)
  have F_s_Direction_UP : Fld s s.heap s_Direction_UP "com/example/quorum_tree/quorumtree/maze/Direction" "letter" "C" (.int (85 : Int32)) := ord_v ev_s_Direction_UP gv13
  have el_s_Direction_ALL_1 := arr_elR ev_s_Direction_ALL A_s_Direction_ALL gv19 ev_s_Direction_LEFT (by decide)
  have F_s_Direction_LEFT : Fld s s.heap s_Direction_LEFT "com/example/quorum_tree/quorumtree/maze/Direction" "letter" "C" (.int (76 : Int32)) := ord_v ev_s_Direction_LEFT gv21
  have el_s_Direction_ALL_2 := arr_elR ev_s_Direction_ALL A_s_Direction_ALL gv23 ev_s_Direction_DOWN (by decide)
  have F_s_Direction_DOWN : Fld s s.heap s_Direction_DOWN "com/example/quorum_tree/quorumtree/maze/Direction" "letter" "C" (.int (68 : Int32)) := ord_v ev_s_Direction_DOWN gv25
  have el_s_Direction_ALL_3 := arr_elR ev_s_Direction_ALL A_s_Direction_ALL gv29 ev_s_Direction_RIGHT (by decide)
  have F_s_Direction_RIGHT : Fld s s.heap s_Direction_RIGHT "com/example/quorum_tree/quorumtree/maze/Direction" "letter" "C" (.int (82 : Int32)) := ord_v ev_s_Direction_RIGHT gv30
  have V_s_Direction_ALL : Arv s s.heap s_Direction_ALL cl_s_Direction_ALL.cls (.object "com/example/quorum_tree/quorumtree/maze/Direction") (4 : Int32) [(.ref s_Direction_UP), (.ref s_Direction_LEFT), (.ref s_Direction_DOWN), (.ref s_Direction_RIGHT)] .null := Arv.start hfit A_s_Direction_ALL len_s_Direction_ALL.1 len_s_Direction_ALL.2 (by decide) rfl ⟨el_s_Direction_ALL_0, el_s_Direction_ALL_1, el_s_Direction_ALL_2, el_s_Direction_ALL_3, trivial⟩
  obtain ⟨n, o, h1, h2, h3, _, L, rfl, ⟨rfl, N⟩, hq⟩ := rm0 l s _ hw tables_1 i0 i1 cl_s_Direction_ALL.cls s_Direction_ALL s_Direction_UP s_Direction_LEFT s_Direction_DOWN s_Direction_RIGHT s.heap s.heap.size (Nat.le_refl _) S_s_Direction_ALL S_s_Direction_UP S_s_Direction_LEFT S_s_Direction_DOWN S_s_Direction_RIGHT F_s_Direction_UP F_s_Direction_LEFT F_s_Direction_DOWN F_s_Direction_RIGHT V_s_Direction_ALL p e ha hc hk s m _ below hf ((Spec.applies_iff_loose hf).mp happ).1 ⟨rfl, State.Warmed39.refl s, rfl⟩ trivial
  refine ⟨n, _, h1, h2, h3, hpost _ _ _ _ _ _ ⟨Cond.after_iff.mpr rfl, Cond.after_iff.mpr (eq_i res_at (Term.int_eval (1)) rfl), trivial⟩ ⟨hq.1, hq.2.1, (hq.2.2.sift fun y hy => Or.inr (N y hy)).mono (by decide) (by decide)⟩⟩
theorem main_1_1 : Claimed_1_1 := comes_1 fun _ _ _ _ _ _ h hF => ⟨h.1, hF⟩
theorem main_1_2 : Claimed_1_2 := comes_1 fun _ _ _ _ _ _ h hF => ⟨h.2.1, hF⟩
end Jvm.Pilot.@@N@@
namespace Jvm.Pilot.@@N@@
open Jvm Jvm.ClassFile Sem Op Lib Jvm.Free Jvm.Stand Jvm.Pilot.@@N@@.Jvm.D
/-! MADE BY PROGRAM (witnessworld.py) out of the Statement's table words and the real class files: 13 classes; the members and pool entries that the words name. The judged class is class 1, her method 1. -/
namespace start1
open Jvm.ClassFile
def u (s : String) : CpInfo := .utf8 (stringToUtf16 s)
/-- a pool by its gaps: so many unusable entries, then the entry; so many at the end -/
def gap : Nat → List CpInfo → List CpInfo
  | 0, r => r
  | n + 1, r => .unusable :: gap n r
def poolList (es : List (Nat × CpInfo)) (last : Nat) : List CpInfo := es.foldr (fun e r => gap e.1 (e.2 :: r)) (gap last [])
def pool (es : List (Nat × CpInfo)) (last : Nat) : Array CpInfo := ⟨poolList es last⟩
def fileOf (pool : Array CpInfo) (this : Nat) (attrs : Array Attribute := #[]) (ms : Array MethodInfo := #[]) (fl : Nat := 33) (sup : Nat := 0) (ifs : Array Nat := #[]) (fds : Array FieldInfo := #[]) : ClassFile where
  minorVersion := 0
  majorVersion := 65
  constantPool := pool
  accessFlags := fl
  thisClass := this
  superClass := sup
  interfaces := ifs
  fields := fds
  methods := ms
  attributes := attrs
def plain (name : String) (sup : Option ClassId) : Class where
  name := name
  kind := .ordinary
  loader := none
  accessFlags := 33
  super := sup
  interfaces := #[]
  cf := none
  fields := #[]
  methods := #[]
  instanceTypes := #[]
  staticTypes := #[]
  resolved := #[]
  callSites := []
  init := .initialized
  statics := none
  mirror := none

def pool0 : Array CpInfo := pool [(5, u "<init>"), (0, u "()V"), (1, .class_ 10), (1, u "java/lang/Object")] 113

def k0m0 : Method := { name := "<init>", desc := "()V", sig := { parameters := [], returnType := none }, accessFlags := 1, code := none }
/-- java/lang/Object -/
def k0 : Class := { plain "java/lang/Object" none with
  accessFlags := 33
  interfaces := #[]
  cf := some (fileOf pool0 8 #[] #[{ accessFlags := 1, nameIndex := 5, descriptorIndex := 6, attributes := #[] }] 33 0 #[] #[])
  fields := #[]
  methods := #[k0m0]
  instanceTypes := #[]
  staticTypes := #[]
  resolved := Array.replicate 124 none
  statics := none }

def pool1 : Array CpInfo := pool [(2, .class_ 4), (1, u "java/lang/Object"), (0, u "<init>"), (0, u "()V"), (0, .fieldref 8 9), (0, .class_ 10), (0, .nameAndType 11 12), (0, u "com/example/quorum_tree/quorumtree/maze/Direction"), (0, u "UP"), (0, u "Lcom/example/quorum_tree/quorumtree/maze/Direction;"), (0, .fieldref 8 14), (0, .nameAndType 15 12), (0, u "LEFT"), (0, .fieldref 8 17), (0, .nameAndType 18 12), (0, u "DOWN"), (0, .fieldref 8 20), (0, .nameAndType 21 12), (0, u "RIGHT"), (0, .methodref 8 23), (0, .nameAndType 24 25), (0, u "of"), (0, u "(C)Lcom/example/quorum_tree/quorumtree/maze/Direction;"), (0, .class_ 27), (0, u "com/example/quorum_tree/quorumtree/maze/DirectionOfPinLaw"), (2, u "law"), (0, u "(II)Z")] 3

def k1m0 : Method := { name := "<init>", desc := "()V", sig := { parameters := [], returnType := none }, accessFlags := 1, code := none }
def k1c1 : Code := { maxStack := 2, maxLocals := 4, code := code, exceptionTable := #[], attributes := #[] }
def k1m1 : Method := { name := "law", desc := "(II)Z", sig := { parameters := [.int, .int], returnType := some .boolean }, accessFlags := 9, code := some k1c1 }
/-- com/example/quorum_tree/quorumtree/maze/DirectionOfPinLaw -/
def k1 : Class := { plain "com/example/quorum_tree/quorumtree/maze/DirectionOfPinLaw" (some 0) with
  accessFlags := 49
  interfaces := #[]
  cf := some (fileOf pool1 26 #[] #[{ accessFlags := 1, nameIndex := 5, descriptorIndex := 6, attributes := #[] }, { accessFlags := 9, nameIndex := 30, descriptorIndex := 31, attributes := #[] }] 49 2 #[] #[])
  fields := #[]
  methods := #[k1m0, k1m1]
  instanceTypes := #[]
  staticTypes := #[]
  resolved := Array.replicate 35 none
  statics := none }

def pool2 : Array CpInfo := pool [(1, .class_ 2), (0, u "java/lang/constant/Constable"), (0, .class_ 4), (0, u "java/lang/Object")] 6

/-- java/lang/constant/Constable -/
def k2 : Class := { plain "java/lang/constant/Constable" (some 0) with
  accessFlags := 1537
  interfaces := #[]
  cf := some (fileOf pool2 1 #[] #[] 1537 3 #[] #[])
  fields := #[]
  methods := #[]
  instanceTypes := #[]
  staticTypes := #[]
  resolved := Array.replicate 11 none
  statics := none }

def pool3 : Array CpInfo := pool [(1, .class_ 2), (0, u "java/lang/Comparable"), (0, .class_ 4), (0, u "java/lang/Object")] 7

/-- java/lang/Comparable -/
def k3 : Class := { plain "java/lang/Comparable" (some 0) with
  accessFlags := 1537
  interfaces := #[]
  cf := some (fileOf pool3 1 #[] #[] 1537 3 #[] #[])
  fields := #[]
  methods := #[]
  instanceTypes := #[]
  staticTypes := #[]
  resolved := Array.replicate 12 none
  statics := none }

def pool4 : Array CpInfo := pool [(1, .class_ 2), (0, u "java/io/Serializable"), (0, .class_ 4), (0, u "java/lang/Object")] 2

/-- java/io/Serializable -/
def k4 : Class := { plain "java/io/Serializable" (some 0) with
  accessFlags := 1537
  interfaces := #[]
  cf := some (fileOf pool4 1 #[] #[] 1537 3 #[] #[])
  fields := #[]
  methods := #[]
  instanceTypes := #[]
  staticTypes := #[]
  resolved := Array.replicate 7 none
  statics := none }

def pool5 : Array CpInfo := pool [(2, .class_ 4), (1, u "java/lang/Enum"), (0, u "name"), (0, u "Ljava/lang/String;"), (2, u "ordinal"), (0, u "I"), (1, .class_ 14), (1, u "java/lang/Object"), (4, u "hash"), (86, .class_ 108), (1, u "java/lang/Enum$EnumDesc"), (2, .class_ 112), (0, u "java/lang/constant/Constable"), (0, .class_ 114), (0, u "java/lang/Comparable"), (0, .class_ 116), (0, u "java/io/Serializable")] 87

/-- java/lang/Enum -/
def k5 : Class := { plain "java/lang/Enum" (some 0) with
  accessFlags := 1057
  interfaces := #[2, 3, 4]
  cf := some (fileOf pool5 2 #[.nestMembers #[106]] #[] 1057 12 #[111, 113, 115] #[{ accessFlags := 18, nameIndex := 5, descriptorIndex := 6, attributes := #[] }, { accessFlags := 18, nameIndex := 9, descriptorIndex := 10, attributes := #[] }, { accessFlags := 2, nameIndex := 19, descriptorIndex := 10, attributes := #[] }])
  fields := #[{ name := "name", type := (.object "java/lang/String"), accessFlags := 18, slot := 0, constantValue := 0 }, { name := "ordinal", type := .int, accessFlags := 18, slot := 1, constantValue := 0 }, { name := "hash", type := .int, accessFlags := 2, slot := 2, constantValue := 0 }]
  methods := #[]
  instanceTypes := #[(.object "java/lang/String"), .int, .int]
  staticTypes := #[]
  resolved := Array.replicate 204 none
  statics := none }

def pool6 : Array CpInfo := pool [(1, .class_ 2), (0, u "com/example/quorum_tree/quorumtree/maze/Direction"), (2, u "UP"), (0, u "Lcom/example/quorum_tree/quorumtree/maze/Direction;"), (2, u "LEFT"), (2, u "DOWN"), (2, u "RIGHT"), (2, u "$VALUES"), (0, u "[Lcom/example/quorum_tree/quorumtree/maze/Direction;"), (6, .class_ 28), (1, u "java/lang/Enum"), (6, .fieldref 1 36), (0, .nameAndType 37 38), (0, u "letter"), (0, u "C"), (2, u "rowStep"), (0, u "I"), (2, u "columnStep"), (0, .fieldref 1 47), (0, .nameAndType 48 19), (0, u "ALL"), (30, u "NO_ORDINAL"), (8, u "of"), (0, u "(C)Lcom/example/quorum_tree/quorumtree/maze/Direction;")] 14

def k6c0 : Code := { maxStack := 2, maxLocals := 5, code := prog_31_method_4_code, exceptionTable := #[], attributes := #[] }
def k6m0 : Method := { name := "of", desc := "(C)Lcom/example/quorum_tree/quorumtree/maze/Direction;", sig := { parameters := [.char], returnType := some (.object "com/example/quorum_tree/quorumtree/maze/Direction") }, accessFlags := 9, code := some k6c0 }
/-- com/example/quorum_tree/quorumtree/maze/Direction -/
def k6 : Class := { plain "com/example/quorum_tree/quorumtree/maze/Direction" (some 5) with
  accessFlags := 16433
  interfaces := #[]
  cf := some (fileOf pool6 1 #[] #[{ accessFlags := 9, nameIndex := 88, descriptorIndex := 89, attributes := #[] }] 16433 26 #[] #[{ accessFlags := 16409, nameIndex := 5, descriptorIndex := 6, attributes := #[] }, { accessFlags := 16409, nameIndex := 9, descriptorIndex := 6, attributes := #[] }, { accessFlags := 16409, nameIndex := 12, descriptorIndex := 6, attributes := #[] }, { accessFlags := 16409, nameIndex := 15, descriptorIndex := 6, attributes := #[] }, { accessFlags := 24, nameIndex := 79, descriptorIndex := 42, attributes := #[] }, { accessFlags := 26, nameIndex := 48, descriptorIndex := 19, attributes := #[] }, { accessFlags := 18, nameIndex := 37, descriptorIndex := 38, attributes := #[] }, { accessFlags := 18, nameIndex := 41, descriptorIndex := 42, attributes := #[] }, { accessFlags := 18, nameIndex := 45, descriptorIndex := 42, attributes := #[] }, { accessFlags := 4122, nameIndex := 18, descriptorIndex := 19, attributes := #[] }])
  fields := #[{ name := "UP", type := (.object "com/example/quorum_tree/quorumtree/maze/Direction"), accessFlags := 16409, slot := 0, constantValue := 0 }, { name := "LEFT", type := (.object "com/example/quorum_tree/quorumtree/maze/Direction"), accessFlags := 16409, slot := 1, constantValue := 0 }, { name := "DOWN", type := (.object "com/example/quorum_tree/quorumtree/maze/Direction"), accessFlags := 16409, slot := 2, constantValue := 0 }, { name := "RIGHT", type := (.object "com/example/quorum_tree/quorumtree/maze/Direction"), accessFlags := 16409, slot := 3, constantValue := 0 }, { name := "NO_ORDINAL", type := .int, accessFlags := 24, slot := 4, constantValue := 0 }, { name := "ALL", type := (.array (.object "com/example/quorum_tree/quorumtree/maze/Direction")), accessFlags := 26, slot := 5, constantValue := 0 }, { name := "letter", type := .char, accessFlags := 18, slot := 3, constantValue := 0 }, { name := "rowStep", type := .int, accessFlags := 18, slot := 4, constantValue := 0 }, { name := "columnStep", type := .int, accessFlags := 18, slot := 5, constantValue := 0 }, { name := "$VALUES", type := (.array (.object "com/example/quorum_tree/quorumtree/maze/Direction")), accessFlags := 4122, slot := 6, constantValue := 0 }]
  methods := #[k6m0]
  instanceTypes := #[(.object "java/lang/String"), .int, .int, .char, .int, .int]
  staticTypes := #[(.object "com/example/quorum_tree/quorumtree/maze/Direction"), (.object "com/example/quorum_tree/quorumtree/maze/Direction"), (.object "com/example/quorum_tree/quorumtree/maze/Direction"), (.object "com/example/quorum_tree/quorumtree/maze/Direction"), .int, (.array (.object "com/example/quorum_tree/quorumtree/maze/Direction")), (.array (.object "com/example/quorum_tree/quorumtree/maze/Direction"))]
  resolved := Array.replicate 104 none
  statics := some 0 }

def pool7 : Array CpInfo := pool [(1, u "java/lang/Cloneable"), (0, .class_ 1), (0, u "java/lang/Object"), (0, .class_ 3)] 3

/-- java/lang/Cloneable -/
def k7 : Class := { plain "java/lang/Cloneable" (some 0) with
  accessFlags := 1537
  interfaces := #[]
  cf := some (fileOf pool7 2 #[] #[] 1537 4 #[] #[])
  fields := #[]
  methods := #[]
  instanceTypes := #[]
  staticTypes := #[]
  resolved := Array.replicate 8 none
  statics := none }

/-- the primitive byte -/
def k8 : Class := { plain "byte" none with kind := .primitive 'B', accessFlags := 0x411 }
/-- [B -/
def k9 : Class := { plain "[B" (some 0) with kind := .array 8 .byte, interfaces := #[7, 4], accessFlags := 1041 }

/-- the primitive int -/
def k10 : Class := { plain "int" none with kind := .primitive 'I', accessFlags := 0x411 }
/-- [I -/
def k11 : Class := { plain "[I" (some 0) with kind := .array 10 .int, interfaces := #[7, 4], accessFlags := 1041 }

/-- [Lcom/example/quorum_tree/quorumtree/maze/Direction; -/
def k12 : Class := { plain "[Lcom/example/quorum_tree/quorumtree/maze/Direction;" (some 0) with kind := .array 6 (.object "com/example/quorum_tree/quorumtree/maze/Direction"), interfaces := #[7, 4], accessFlags := 1041 }

def heap : Heap := #[{ cls := 6, slots := #[.ref 2, .ref 4, .ref 3, .ref 5, .int 0, .ref 1, .null], vm := .statics 6 },
  { cls := 12, slots := #[.ref 2, .ref 4, .ref 3, .ref 5], vm := .none },
  { cls := 6, slots := #[.null, .int 0, .int 0, .int 85, .int 0, .int 0], vm := .none },
  { cls := 6, slots := #[.null, .int 0, .int 0, .int 68, .int 0, .int 0], vm := .none },
  { cls := 6, slots := #[.null, .int 0, .int 0, .int 76, .int 0, .int 0], vm := .none },
  { cls := 6, slots := #[.null, .int 0, .int 0, .int 82, .int 0, .int 0], vm := .none }]
def classes : Array Class := #[k0, k1, k2, k3, k4, k5, k6, k7, k8, k9, k10, k11, k12]
def interned : List (Array UInt16 × Addr) := []
def slotsUsed : Nat := 35
def theMethod : MethodId := ⟨1, 1⟩
def args0 : Array Value := #[.int 3, .int 1]
def aboutOver (below : List Frame) : State where
  vm := { classes := classes, interned := interned.toArray }
  heap := heap
  slotsUsed := slotsUsed
  threads := #[{ frames := .invoking theMethod args0 :: below }]
def below0 : List Frame := [.native { method := ⟨0, 0⟩, args := #[] }]
def about1 : State := aboutOver below0
def p0 : Program := .bare "" "" ""
def e0 : Env := launch0.env 0 0 0
theorem w_frames : about1.frames = Frame.invoking theMethod args0 :: below0 := rfl
set_option maxRecDepth 65536 in
theorem w_args : argsFit about1.vm theMethod args0 = true := by decide +kernel
set_option maxRecDepth 65536 in
theorem w_heap : heapFits about1 = true := by decide +kernel
set_option maxRecDepth 65536 in
theorem w_runnable : about1.curStatus? = some .runnable := by decide +kernel
set_option maxRecDepth 65536 in
theorem w_alone : about1.alone = true := by decide +kernel
set_option maxRecDepth 65536 in
theorem w_named : about1.methodNamed? x = some theMethod := by decide +kernel
set_option maxRecDepth 65536 in
theorem w_hears : about1.hears theMethod below0 = true := by decide +kernel
set_option maxRecDepth 65536 in
theorem w_ripe : about1.ripe theMethod args0 below0 = true := by decide +kernel
theorem w_running : about1.status = .running := rfl
set_option maxRecDepth 65536 in
theorem w_room : about1.hasRoom e0.platform room_1 = true :=
  launch0.hasRoom_least _ room_1 (by decide +kernel) (by decide +kernel) (by decide +kernel) (by decide +kernel) (by decide +kernel) (by decide +kernel)
theorem allAtoms_all (ts : List Jvm.Cond) (a : Array Jvm.Value) (st : Jvm.State) : (allAtoms ts).before a st = ts.all (fun c => c.before a st) := by
  induction ts with
  | nil => rfl
  | cons c t ih =>
    show (Jvm.Cond.and c (allAtoms t)).before a st = _
    rw [Jvm.Cond.before_and, ih, List.all_cons]
def words1 : List Jvm.Cond := Jvm.Cond.code x code maxLocals ret :: tables_1
/-- a 'code' word, met by the world's own term for the bytes: nothing is compared byte by byte -/
theorem code_word {y : MethodName} {bytes : ByteArray} {mx : Nat} {rt : Option FieldType} {a : Array Value} {s : State} {m : MethodId} {meth : Method} {c : Code} (h1 : s.methodNamed? y = some m) (h2 : s.vm.method? m = some meth) (h3 : meth.code = some c) (h4 : c.code = bytes)
    (h5 : (c.maxLocals == mx && c.exceptionTable.isEmpty && decide (c.maxStack ≤ mostOperands) && decide (meth.sig.returnType = rt) && !meth.locks && decide (parseMethodDescriptor y.desc = some meth.sig)) = true) : (Jvm.Cond.code y bytes mx rt).before a s = true := by
  simp only [Bool.and_eq_true, beq_iff_eq, Bool.not_eq_true', decide_eq_true_eq] at h5
  obtain ⟨⟨⟨⟨⟨g1, g2⟩, g3⟩, g4⟩, g5⟩, g6⟩ := h5
  simp [Cond.before, Cond.holds, Cond.value, h1, h2, h3, h4, g1, g2, g3, g4, g5, g6]
def isCode : Jvm.Cond → Bool
  | .code _ _ _ _ => true
  | _ => false
theorem all_split {L : List Jvm.Cond} {P : Jvm.Cond → Bool} (h1 : L.all (fun c => isCode c || P c) = true) (h2 : ∀ c ∈ L.filter isCode, P c = true) : L.all P = true := by
  refine List.all_eq_true.mpr fun c hc => ?_
  have h := List.all_eq_true.mp h1 c hc
  rcases Bool.eq_false_or_eq_true (isCode c) with hi | hi
  · exact h2 c (List.mem_filter.mpr ⟨hc, hi⟩)
  · simpa [hi] using h
set_option maxRecDepth 65536 in
theorem w_c0 : (Jvm.Cond.code x code maxLocals ret).before args0 about1 = true := code_word (m := ⟨1, 1⟩) (meth := k1m1) (c := k1c1) (by decide +kernel) rfl rfl rfl (by decide +kernel)
set_option maxRecDepth 65536 in
theorem w_c1 : (Jvm.Cond.code ({ cls := "com/example/quorum_tree/quorumtree/maze/Direction", name := "of", desc := "(C)Lcom/example/quorum_tree/quorumtree/maze/Direction;" } : Jvm.MethodName) prog_31_method_4_code (5 : Nat) (Option.some (Jvm.ClassFile.FieldType.object "com/example/quorum_tree/quorumtree/maze/Direction"))).before args0 about1 = true := code_word (m := ⟨6, 0⟩) (meth := k6m0) (c := k6c0) (by decide +kernel) rfl rfl rfl (by decide +kernel)
def codes1 : List Jvm.Cond := [Jvm.Cond.code x code maxLocals ret, Jvm.Cond.code ({ cls := "com/example/quorum_tree/quorumtree/maze/Direction", name := "of", desc := "(C)Lcom/example/quorum_tree/quorumtree/maze/Direction;" } : Jvm.MethodName) prog_31_method_4_code (5 : Nat) (Option.some (Jvm.ClassFile.FieldType.object "com/example/quorum_tree/quorumtree/maze/Direction"))]
set_option maxRecDepth 65536 in
theorem codes_eq : words1.filter isCode = codes1 := rfl
theorem w_codes : ∀ c ∈ words1.filter isCode, c.before args0 about1 = true := by
  rw [codes_eq]
  intro c hc
  simp only [codes1, List.mem_cons, List.not_mem_nil, or_false] at hc
  rcases hc with rfl | rfl
  · exact w_c0
  · exact w_c1
set_option maxRecDepth 65536 in
theorem w_t1 : words1.all (fun c => isCode c || c.before args0 about1) = true := by decide +kernel
theorem w_tables : (allAtoms (Jvm.Cond.code x code maxLocals ret :: tables_1)).before args0 about1 = true := by
  rw [allAtoms_all]
  show words1.all (fun c => c.before args0 about1) = true
  refine all_split ?_ w_codes
  rw [w_t1]
set_option maxRecDepth 65536 in
theorem w_case : (Jvm.Cond.and given_1 narrow_1).before args0 about1 = true := by decide +kernel
theorem w_applies : (headSpec (Jvm.Cond.code x code maxLocals ret :: tables_1) room_1).applies x e0.platform about1 = true :=
  (Spec.applies_iff w_frames).mpr ⟨w_running, w_runnable, w_alone, w_named, w_hears, w_ripe, w_room, w_tables⟩
theorem atStart : AtStart classFile x code maxLocals ret World_1 tables_1 room_1 Calls_1 rest_1 Pre_1 launch0 p0 e0 about1 theMethod args0 below0 :=
  ⟨lists_1, trivial, launch0.admits_env _ _ _, launch0.least_env, fairChoices_fair.cas, fairChoices_fair.clock, w_frames, w_args, w_heap, w_applies, trivial, trivial, w_case⟩
end start1
theorem witness_1 : WitnessClaimed_1 := ⟨start1.p0, start1.e0, start1.about1, start1.theMethod, start1.args0, start1.below0, start1.atStart⟩
end Jvm.Pilot.@@N@@
