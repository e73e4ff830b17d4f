import JvmDerived
import JvmDerived.Pilot.@@N@@Statement
import JvmDerived.Pilot.@@N@@Code
set_option linter.unusedVariables false
set_option linter.unusedSimpArgs false
namespace Jvm.Pilot.@@N@@
open Jvm Jvm.ClassFile Sem Op Lib Jvm.Free Jvm.Stand Jvm.LawKit Jvm.RoadKit Bundle Jvm.Pilot.@@N@@.Jvm.D
section OwnRun
variable {p : Program} {l : Launch} {e : Env} {R : Room} {s : State} {m : MethodId} {args : Array Value} {below : List Frame} {meth : Method} {c : Code} {T : State} {locs : List Loc} {cells slots : Nat}
/-- from S the run comes to its end, and there Q holds -/
def Run (p : Program) (e : Env) (below : List Frame) (Q : State → Outcome → Prop) (S : State) : Prop := ∃ s₂ o, Steps p.tables e below S s₂ ∧ s₂.status = .running ∧ Ended s₂ below o ∧ Q s₂ o
def Ends (s : State) (Qb : Option Value → Heap → List Loc → Prop) (C S : Nat) : State → Outcome → Prop := fun s₂ o => ∃ v L, o = .returned v ∧ Qb v s₂.heap L ∧ FrameEnd s o s₂ L C S
theorem Run.st {Q : State → Outcome → Prop} {S S' : State} (h : ∀ t, Steps p.tables e below S' t → Steps p.tables e below S t) (r : Run p e below Q S') : Run p e below Q S := by
  obtain ⟨a, b, c, d⟩ := r
  exact ⟨a, b, h _ c, d⟩
theorem Run.out (X : Stand p l e R s m args below meth c T locs cells slots) (hx : p.tables.exec = Jvm.exec) {Qb : Option Value → Heap → List Loc → Prop} {C S : Nat} {pc : Nat} {Ls : Array Slot} {w : Value} {t : FieldType} {i : Instr} {rest : List Value} (hlocks : meth.locks = false) (hret : meth.sig.returnType = some t) (hn : narrow t w = w)
    (hi : (i = .ireturn ∧ (t = .int ∨ t = .boolean ∨ t = .byte ∨ t = .char ∨ t = .short) ∧ ∃ z, w = .int z) ∨ (i = .lreturn ∧ t = .long ∧ ∃ z, w = .long z) ∨ (i = .dreturn ∧ t = .double ∧ ∃ z, w = .double z) ∨ (i = .freturn ∧ t = .float ∧ ∃ z, w = .float z) ∨ (i = .areturn ∧ t.isReference = true ∧ w.isRef = true))
    (hd : decode c.code pc = .ok (i, 1)) (hC : cells ≤ C) (hS : slots ≤ S) (hq : Qb (some w) T.heap locs) : Run p e below (Ends s Qb C S) (T.setTop (mkF m pc Ls (w :: rest))) := by
  obtain ⟨fs, hr, hrun, hended, hW, hsame⟩ := X.leave (v := some w) (fun h => by rw [hret] at h; cases h) hlocks
  exact ⟨_, _, retOut X hx hret hn hi hd hr, hrun, hended, _, _, rfl, hq, ⟨_, rfl⟩, hW, hsame.mono hC hS⟩
theorem Run.outV (X : Stand p l e R s m args below meth c T locs cells slots) (hx : p.tables.exec = Jvm.exec) {Qb : Option Value → Heap → List Loc → Prop} {C S : Nat} {pc : Nat} {Ls : Array Slot} (hlocks : meth.locks = false) (hret : meth.sig.returnType = none)
    (hd : decode c.code pc = .ok (.return_, 1)) (hC : cells ≤ C) (hS : slots ≤ S) (hq : Qb none T.heap locs) : Run p e below (Ends s Qb C S) (T.setTop (mkF m pc Ls [])) := by
  obtain ⟨fs, hr, hrun, hended, hW, hsame⟩ := X.leave (v := none) (fun _ => rfl) hlocks
  exact ⟨_, _, X.returnOut hx hret hd hr, hrun, hended, _, _, rfl, hq, ⟨_, rfl⟩, hW, hsame.mono hC hS⟩
theorem lcYes {cd : ClassFile.Cond} {x y : Int64} {b : Bool} (h : ifCond.holds cd (Jvm.Free.XT.cmpL x y) = b) : ifCond.holds cd (lcmpW x y) = b := h
theorem nb01 {P : Prop} [Decidable P] : narrow .boolean (.int (if P then (1 : Int32) else (0 : Int32))) = .int (if P then (1 : Int32) else (0 : Int32)) := by split <;> rfl
theorem staK {Z : State} {h h' : Heap} {C n d : String} {v : Value} {ws : List Addr} (F : Sta Z h C n d v) (K : Keep h h' ws) (q : ∀ x ∈ ws, ∀ c : Cell, h[x]? = some c → c.vm.isStatics = false) : Sta Z h' C n d v := by
  obtain ⟨cf, i, k, f, st, cell, h1, h2, h3, h4, h5, h6, h7⟩ := F
  refine ⟨cf, i, k, f, st, cell, h1, h2, h3, h4, K.2.1 st cell h5 (fun m => ?_), h6, h7⟩
  have := q st m cell h5
  rw [h6] at this
  cases this
theorem exaP {Z : State} {h : Heap} {a : Addr} {C : String} (E : Exa Z h a C) : ∀ c : Cell, h[a]? = some c → c.vm.isStatics = false := fun c hc => by
  obtain ⟨cell, k, h1, -, -, h4, -⟩ := E
  cases h1.symm.trans hc
  exact h4
theorem arvP {Z : State} {h : Heap} {a : Addr} {k : ClassId} {ty : FieldType} {n : Int32} {vs : List Value} {d : Value} (E : Arv Z h a k ty n vs d) : ∀ c : Cell, h[a]? = some c → c.vm.isStatics = false := fun c hc => by
  obtain ⟨cell, A, -⟩ := E
  cases A.1.symm.trans hc
  exact A.plain
theorem selSelf {s : State} {args : Array Value} {y : MethodName} {n : Nat} (wi : (Jvm.Cond.instantiable y.cls n).before args s = true) (hp : s.PrivateAt y) (hi : (Jvm.Cond.instanceMethod y).before args s = true) (hy : y.cls ≠ "java/lang/invoke/MethodHandle" ∧ y.cls ≠ "java/lang/invoke/VarHandle") : (Jvm.Cond.selects y.cls y y).before args s = true := by
  obtain ⟨c, k, h1, h2, -, h4, -⟩ := Cond.instantiable_spec wi
  rw [Bool.or_eq_false_iff] at h4
  exact selects_self_of_private h1 h2 h4.1 hp hi hy
theorem own_lsw {tb : Tables} [Ours tb] {e : Env} {below : List Frame} {T target : State} {m : MethodId} {c : Code} {g : JFrame} (h : At T m c below) (hx : tb.exec = Jvm.exec) (hg : g.method = m) {dflt : Int} {ps : Array (Int × Int)} {len : Nat} {o : Int} {pc0 pc' : Nat} (hpc : g.pc = pc0) (hd : decode c.code g.pc = .ok (.lookupswitch dflt ps, len)) {i : Int32} {rest : List Value} (hs : g.stack = .int i :: rest)
    (hsort : ∀ q ∈ ps.toList.zip ps.toList.tail, q.1.1 < q.2.1) (hoff : lookupswitch.offset ps.toList dflt i.toInt = o) (ho : 0 ≤ (pc0 : Int) + o) (hp : ((pc0 : Int) + o).toNat = pc')
    (hr : Steps tb e below (T.setTop { g with pc := pc', stack := rest }) target) : Steps tb e below (T.setTop g) target := by
  subst hg hpc hp
  jvm_step h [h.top, hx, hd, hs, hoff, ho, lookupswitch.wp_chain]
  exact ⟨fun a b a1 b1 q => hsort _ q, hr⟩
theorem ord_v {args : Array Value} {s : State} {t : Term} {C n d : String} {k : Int32} {a : Addr} (ht : t.eval args s none [] s = some (.ref a)) (h : (Jvm.Cond.eq (.field t C n d) (.int k)).value args s none s [] = some true) : Fld s s.heap a C n d (.int k) := by
  refine Fld.start ?_
  rw [← fld_at (C := C) (n := n) (dd := d) ht]
  simp only [Cond.value] at h
  cases hv : (Term.field t C n d).eval args s none [] s with
  | none => simp [hv] at h
  | some v => cases v <;> simp_all [Term.eval]
theorem arr_len {args : Array Value} {s : State} {t : Term} {a : Addr} {cl : Cell} {ty : FieldType} {n : Int32} (ht : t.eval args s none [] s = some (.ref a)) (A : Arr s s.heap a cl ty) (h : (Jvm.Cond.eq (.length t) (.int n)).value args s none s [] = some true) : cl.slots.size < 2 ^ 31 ∧ cl.slots.size.toInt32 = n := by
  have ha := A.fin (Vm.Alike.refl s.vm)
  by_cases q : cl.slots.size < 2 ^ 31
  · refine ⟨q, ?_⟩
    have e := len_f ht ha q
    have e2 : (Term.int n).eval args s none [] s = some (.int n) := rfl
    simp only [Cond.value, e, e2] at h
    simpa using h
  · simp [Cond.value, Term.eval, ht, ha, q] at h
theorem arr_elR {args : Array Value} {s : State} {t u : Term} {a b : Addr} {cl : Cell} {ty : FieldType} {j : Int32} (ht : t.eval args s none [] s = some (.ref a)) (A : Arr s s.heap a cl ty) (h : (Jvm.Cond.eq (.elem t (.int j)) u).value args s none s [] = some true) (hu : u.eval args s none [] s = some (.ref b)) (hj : ¬ j < 0) : cl.slots[j.toNatClampNeg]? = some (.ref b) := by
  have ha := A.fin (Vm.Alike.refl s.vm)
  have e : (Term.elem t (.int j)).eval args s none [] s = cl.slots[j.toNatClampNeg]? := elem_f ht rfl ha hj
  simp only [Cond.value, hu, e] at h
  cases hv : cl.slots[j.toNatClampNeg]? with
  | none => simp [hv] at h
  | some v => cases v <;> simp_all
theorem arr_elI {args : Array Value} {s : State} {t : Term} {a : Addr} {cl : Cell} {ty : FieldType} {j k : Int32} (ht : t.eval args s none [] s = some (.ref a)) (A : Arr s s.heap a cl ty) (h : (Jvm.Cond.eq (.elem t (.int j)) (.int k)).value args s none s [] = some true) (hj : ¬ j < 0) : cl.slots[j.toNatClampNeg]? = some (.int k) := by
  have ha := A.fin (Vm.Alike.refl s.vm)
  have e : (Term.elem t (.int j)).eval args s none [] s = cl.slots[j.toNatClampNeg]? := elem_f ht rfl ha hj
  have e2 : (Term.int k).eval args s none [] s = some (.int k) := rfl
  simp only [Cond.value, e, e2] at h
  cases hv : cl.slots[j.toNatClampNeg]? with
  | none => simp [hv] at h
  | some v => cases v <;> simp_all
theorem inb32 {j z : Int32} {n : Int} (hz : z.toInt = n) (h0 : 0 ≤ j.toInt) (h1 : j.toInt < n) : ¬ j < 0 ∧ j < z := by
  rw [Int32.lt_iff_toInt_lt, Int32.lt_iff_toInt_lt, hz]
  have : (0 : Int32).toInt = 0 := by decide
  omega
theorem own_nn {n : Int32} (h : 0 ≤ n.toInt) : ¬ n < 0 := by
  rw [Int32.lt_iff_toInt_lt]
  have : (0 : Int32).toInt = 0 := by decide
  omega
theorem own_cap {n : Int32} {c : Nat} (h : n.toInt < (c : Int) + 1) : n.toNatClampNeg ≤ c := by
  simp only [Int32.toNatClampNeg]
  omega
theorem own_fin (x : Int32) (n : Nat) (hn : n < 2147483648) (h0 : 0 ≤ x.toInt) (h1 : x.toInt < n) : ∃ i : Fin n, x = Int32.ofNat i.1 := by
  refine ⟨⟨x.toInt.toNat, by omega⟩, Int32.toInt_inj.mp ?_⟩
  show x.toInt = (Int32.ofNat x.toInt.toNat).toInt
  rw [Int32.toInt_ofNat_small (by omega)]
  omega
end OwnRun
theorem d4_0 : decode jdk_37_method_2_code 0 = .ok (.aload_n 0, 1) := by decide +kernel
theorem d4_1 : decode jdk_37_method_2_code 1 = .ok (.getfield 7, 3) := by decide +kernel
theorem d4_4 : decode jdk_37_method_2_code 4 = .ok (.ireturn, 1) := by decide +kernel
theorem pn_0 : plainName "java/lang/Enum" = true := by first | (simp [plainName, overriddenIn]; done) | decide +kernel
theorem ef_Ord (m : MethodId) (a0 : Addr) : entryFrame m #[(.ref a0)] 1 = mkF m 0 #[.val (.ref a0)] [] := by first | (simp [entryFrame, mkF, argsToLocals, Value.category]; done) | rfl
def QOrd (Z : State) (a0 : Addr) (od : Int32) (h0 : Heap) (n0 : Nat) (v : Option Value) (h : Heap) (L : List Loc) : Prop := v = some (.int od) ∧ Fr n0 L ∧ h = h0
set_option maxRecDepth 65536 in
set_option maxHeartbeats 40000000 in
theorem rmOrd (l : Launch) (Z : State) (aV : Array Value) (hw : ∀ d ∈ tables_1, d.before aV Z = true) (ws : List Jvm.Cond) (a0 : Addr) (od : Int32) (h0 : Heap) (n0 : Nat) (Zn : n0 ≤ h0.size) (F_o : Fld Z h0 a0 "java/lang/Enum" "ordinal" "I" (.int od)) :
    MetFree l (⟨"java/lang/Enum", "ordinal", "()I"⟩ : MethodName) (head1 (Jvm.Cond.code (⟨"java/lang/Enum", "ordinal", "()I"⟩ : MethodName) jdk_37_method_2_code 1 (some .int) :: ws) ({ frames := 0, cells := 0, slots := 0, locals := 0 } : Room)) (fun a U => a = #[(.ref a0)] ∧ Z.Warmed39 U.vm ∧ U.heap = h0) (fun _ _ _ _ _ => True) (fun _ U o U' => ∃ v L, o = .returned v ∧ QOrd Z a0 od h0 n0 v U'.heap L ∧ FrameEnd U o U' L ({ frames := 0, cells := 0, slots := 0, locals := 0 } : Room).cells ({ frames := 0, cells := 0, slots := 0, locals := 0 } : Room).slots) := by
  refine MetFree.of_bodySF (plainFor_of_name pn_0) hisR ?_
  intro p e s m args below meth c s₁ Bd hml0 hP hK
  obtain ⟨rfl, hZ, hh⟩ := hP
  have hx := Bd.exec
  have hby := Bd.bytes
  have hml : c.maxLocals = 1 := hml0
  have hown : s.vm.findClass "java/lang/Enum" = some m.cls := findClass_of_methodNamed Bd.named
  have hnm := (name_of_methodNamed Bd.named Bd.method).1
  have X0 : Stand p l e ({ frames := 0, cells := 0, slots := 0, locals := 0 } : Room) s m #[(.ref a0)] below meth c s₁ [] 0 0 := Stand.of_body Bd
  have e0 : s₁.heap = h0 := by rw [← hh, Bd.state]; rfl
  have N0 := Fr.nil n0
  have Kp := Keep.refl h0 []
  show Run p e below (Ends s (QOrd Z a0 od h0 n0) ({ frames := 0, cells := 0, slots := 0, locals := 0 } : Room).cells ({ frames := 0, cells := 0, slots := 0, locals := 0 } : Room).slots) _
  refine Run.st (S' := s₁.setTop (mkF m 0 #[.val (.ref a0)] [])) (fun t k => castTop (ef_Ord m a0) k) ?_
  refine Run.st (S' := s₁.setTop (mkF m 1 #[.val (.ref a0)] [(.ref a0)])) (fun _ k => XS.aloadN X0.here hx rfl (hb hby d4_0) rfl rfl k) ?_
  obtain ⟨T1, X1, e1, st1⟩ := getF X0 hx hZ hown (host := "") (Or.inl (hw _ (List.mem_of_getElem? (i := 28) rfl))) Via.refl e0 F_o (g := (mkF m 1 #[.val (.ref a0)] [(.ref a0)])) rfl rfl (hb hby d4_1)
  refine Run.st (S' := T1.setTop (mkF m 4 #[.val (.ref a0)] [(.int od)])) (fun _ k => st1 _ k) ?_
  refine Run.out X1 hx Bd.notSynchronized Bd.returns rfl (Or.inl ⟨rfl, by simp, _, rfl⟩) (hb hby d4_4) (by decide) (by decide) ?_
  rw [e1]
  exact ⟨rfl, N0, rfl⟩
theorem pd_0 : parseMethodDescriptor "()I" = some ⟨[], some .int⟩ := by decide +kernel
theorem d3_0 : decode prog_25_method_6_code 0 = .ok (.aload_n 0, 1) := by decide +kernel
theorem d3_1 : decode prog_25_method_6_code 1 = .ok (.invokevirtual 51, 3) := by decide +kernel
theorem d3_4 : decode prog_25_method_6_code 4 = .ok (.tableswitch 32 0 3 #[42, 46, 50, 65], 32) := by decide +kernel
theorem d3_46 : decode prog_25_method_6_code 46 = .ok (.iconst 1, 1) := by decide +kernel
theorem d3_47 : decode prog_25_method_6_code 47 = .ok (.goto 34, 3) := by decide +kernel
theorem d3_50 : decode prog_25_method_6_code 50 = .ok (.iconst 0, 1) := by decide +kernel
theorem d3_51 : decode prog_25_method_6_code 51 = .ok (.goto 30, 3) := by decide +kernel
theorem d3_54 : decode prog_25_method_6_code 54 = .ok (.aload_n 1, 1) := by decide +kernel
theorem d3_55 : decode prog_25_method_6_code 55 = .ok (.getstatic 60, 3) := by decide +kernel
theorem d3_58 : decode prog_25_method_6_code 58 = .ok (.if_acmp .ne 7, 3) := by decide +kernel
theorem d3_61 : decode prog_25_method_6_code 61 = .ok (.iconst 1, 1) := by decide +kernel
theorem d3_62 : decode prog_25_method_6_code 62 = .ok (.goto 19, 3) := by decide +kernel
theorem d3_65 : decode prog_25_method_6_code 65 = .ok (.iconst 0, 1) := by decide +kernel
theorem d3_66 : decode prog_25_method_6_code 66 = .ok (.goto 15, 3) := by decide +kernel
theorem d3_69 : decode prog_25_method_6_code 69 = .ok (.aload_n 1, 1) := by decide +kernel
theorem d3_70 : decode prog_25_method_6_code 70 = .ok (.getstatic 66, 3) := by decide +kernel
theorem d3_73 : decode prog_25_method_6_code 73 = .ok (.if_acmp .eq 7, 3) := by decide +kernel
theorem d3_76 : decode prog_25_method_6_code 76 = .ok (.iconst 1, 1) := by decide +kernel
theorem d3_77 : decode prog_25_method_6_code 77 = .ok (.goto 4, 3) := by decide +kernel
theorem d3_80 : decode prog_25_method_6_code 80 = .ok (.iconst 0, 1) := by decide +kernel
theorem d3_81 : decode prog_25_method_6_code 81 = .ok (.ireturn, 1) := by decide +kernel
theorem pn_1 : plainName "com/example/quittance/quittance/PeriodRule" = true := by first | (simp [plainName, overriddenIn]; done) | decide +kernel
theorem ef_Pays (m : MethodId) (a0 : Addr) (a1 : Addr) : entryFrame m #[(.ref a0), (.ref a1)] 2 = mkF m 0 #[.val (.ref a0), .val (.ref a1)] [] := by first | (simp [entryFrame, mkF, argsToLocals, Value.category]; done) | rfl
def FPays (a0 : Addr) (a1 : Addr) (od : Int32) (s_Permission_GIVEN : Addr) (s_Permission_REFUSED : Addr) : Int32 := (if od = (0 : Int32) then (1 : Int32) else (if od = (1 : Int32) then (0 : Int32) else (if od = (2 : Int32) then (if a1 = s_Permission_GIVEN then (1 : Int32) else (0 : Int32)) else (if od = (3 : Int32) then (if a1 = s_Permission_REFUSED then (0 : Int32) else (1 : Int32)) else (0 : Int32)))))
def QPays (Z : State) (a0 : Addr) (a1 : Addr) (od : Int32) (s_Permission_GIVEN : Addr) (s_Permission_REFUSED : Addr) (h0 : Heap) (n0 : Nat) (v : Option Value) (h : Heap) (L : List Loc) : Prop := v = some (.int (FPays a0 a1 od s_Permission_GIVEN s_Permission_REFUSED)) ∧ Fr n0 L ∧ h = h0
set_option maxRecDepth 65536 in
set_option maxHeartbeats 40000000 in
theorem rmPays (l : Launch) (Z : State) (aV : Array Value) (hw : ∀ d ∈ tables_1, d.before aV Z = true) (ws : List Jvm.Cond) (a0 : Addr) (a1 : Addr) (od : Int32) (s_Permission_GIVEN : Addr) (s_Permission_REFUSED : Addr) (h0 : Heap) (n0 : Nat) (Zn : n0 ≤ h0.size) (ho : od = (0 : Int32) ∨ od = (1 : Int32) ∨ od = (2 : Int32) ∨ od = (3 : Int32)) (E_a0 : Exa Z h0 a0 "com/example/quittance/quittance/PeriodRule") (F_o : Fld Z h0 a0 "java/lang/Enum" "ordinal" "I" (.int od)) (S_s_Permission_GIVEN : Sta Z h0 "com/example/quittance/quittance/Permission" "GIVEN" "Lcom/example/quittance/quittance/Permission;" (.ref s_Permission_GIVEN)) (S_s_Permission_REFUSED : Sta Z h0 "com/example/quittance/quittance/Permission" "REFUSED" "Lcom/example/quittance/quittance/Permission;" (.ref s_Permission_REFUSED)) :
    MetFree l (⟨"com/example/quittance/quittance/PeriodRule", "pays", "(Lcom/example/quittance/quittance/Permission;)Z"⟩ : MethodName) (head1 (Jvm.Cond.code (⟨"com/example/quittance/quittance/PeriodRule", "pays", "(Lcom/example/quittance/quittance/Permission;)Z"⟩ : MethodName) prog_25_method_6_code 2 (some .boolean) :: ws) ({ frames := 1, cells := 0, slots := 0, locals := 12 } : Room)) (fun a U => a = #[(.ref a0), (.ref a1)] ∧ Z.Warmed39 U.vm ∧ U.heap = h0) (fun _ _ _ _ _ => True) (fun _ U o U' => ∃ v L, o = .returned v ∧ QPays Z a0 a1 od s_Permission_GIVEN s_Permission_REFUSED h0 n0 v U'.heap L ∧ FrameEnd U o U' L ({ frames := 1, cells := 0, slots := 0, locals := 12 } : Room).cells ({ frames := 1, cells := 0, slots := 0, locals := 12 } : Room).slots) := by
  refine MetFree.of_bodySF (plainFor_of_name pn_1) hisR ?_
  intro p e s m args below meth c s₁ Bd hml0 hP hK
  obtain ⟨rfl, hZ, hh⟩ := hP
  have hx := Bd.exec
  have hby := Bd.bytes
  have hml : c.maxLocals = 2 := hml0
  have hown : s.vm.findClass "com/example/quittance/quittance/PeriodRule" = some m.cls := findClass_of_methodNamed Bd.named
  have hnm := (name_of_methodNamed Bd.named Bd.method).1
  have X0 : Stand p l e ({ frames := 1, cells := 0, slots := 0, locals := 12 } : Room) s m #[(.ref a0), (.ref a1)] below meth c s₁ [] 0 0 := Stand.of_body Bd
  have e0 : s₁.heap = h0 := by rw [← hh, Bd.state]; rfl
  have N0 := Fr.nil n0
  have Kp := Keep.refl h0 []
  show Run p e below (Ends s (QPays Z a0 a1 od s_Permission_GIVEN s_Permission_REFUSED h0 n0) ({ frames := 1, cells := 0, slots := 0, locals := 12 } : Room).cells ({ frames := 1, cells := 0, slots := 0, locals := 12 } : Room).slots) _
  refine Run.st (S' := s₁.setTop (mkF m 0 #[.val (.ref a0), .val (.ref a1)] [])) (fun t k => castTop (ef_Pays m a0 a1) k) ?_
  refine Run.st (S' := s₁.setTop (mkF m 1 #[.val (.ref a0), .val (.ref a1)] [(.ref a0)])) (fun _ k => XS.aloadN X0.here hx rfl (hb hby d3_0) rfl rfl k) ?_
  obtain ⟨cq1, kq1, q1a, q1b, q1c⟩ := isOf hZ e0 E_a0
  obtain ⟨_, _, ⟨T1, L1, k1, n1⟩, -, X1, ⟨Lc1, hQ1, l1, y1, z1⟩, st1⟩ := X0.virtualBackUp hx (x := (⟨"com/example/quittance/quittance/PeriodRule", "ordinal", "()I"⟩ : MethodName)) (y := (⟨"java/lang/Enum", "ordinal", "()I"⟩ : MethodName)) (owner := "java/lang/Enum") hown (mvT hZ (hw _ (List.mem_of_getElem? (i := 21) rfl))) (mvT hZ (hw _ (List.mem_of_getElem? (i := 22) rfl))) (mvT hZ (hw _ (List.mem_of_getElem? (i := 23) rfl))) (by decide) (mvT hZ (hw _ (List.mem_of_getElem? (i := 25) rfl))) (mvT hZ (hw _ (List.mem_of_getElem? (i := 24) rfl))) (backOf (W := 0) (rmOrd l Z aV hw [] a0 od h0 n0 Zn F_o) hZ (hw _ (List.mem_of_getElem? (i := 27) rfl)) (hw _ (List.mem_of_getElem? (i := 26) rfl)) (by decide) (by decide)) q1a q1c (g := (mkF m 1 #[.val (.ref a0), .val (.ref a1)] [(.ref a0)])) rfl (by rw [hml]; rfl) (Steps.refl _) (argsL := []) (rest := []) (lenOf pd_0 rfl) rfl (by show 2 * 0 + _ ≤ _; exact Nat.le_of_eq rfl) (hb hby d3_1) (fun _ _ => ⟨rfl, e0, (by decide : 0 + 0 ≤ _), (by decide : 0 + 0 ≤ _)⟩)
  dsimp only [Pt.U, Pt.locs, Pt.cells, Pt.slots] at X1 l1 y1 z1 st1 hQ1
  subst l1 y1 z1
  obtain ⟨rfl, N1q, e1⟩ := hQ1
  have N1 := Fr.app N0 N1q
  refine Run.st (S' := T1.setTop (mkF m 4 #[.val (.ref a0), .val (.ref a1)] [(.int od)])) (fun _ k => st1.trans k) ?_
  by_cases hc4_2 : od = (0 : Int32)
  · refine Run.st (S' := T1.setTop (mkF m 81 #[.val (.ref a0), .val (.ref a1)] [(.int (1 : Int32))])) (fun _ k => XS.tswIn X1.here hx rfl (o := 42) (pc0 := 4) (pc' := 46) rfl (hb hby d3_4) rfl (by rw [show od = (0 : Int32) from hc4_2]; decide) (by rw [show od = (0 : Int32) from hc4_2]; decide) (by decide) (by decide) (XS.iconst X1.here hx rfl (hb hby d3_46) (XS.goto X1.here hx rfl (pc0 := 47) (pc' := 81) rfl (hb hby d3_47) (by decide) (by decide) k))) ?_
    refine Run.out X1 hx Bd.notSynchronized Bd.returns rfl (Or.inl ⟨rfl, by simp, _, rfl⟩) (hb hby d3_81) (by decide) (by decide) ?_
    rw [e1]
    exact ⟨by rw [FPays, if_pos hc4_2], N1, rfl⟩
  · by_cases hc4_3 : od = (1 : Int32)
    · refine Run.st (S' := T1.setTop (mkF m 81 #[.val (.ref a0), .val (.ref a1)] [(.int (0 : Int32))])) (fun _ k => XS.tswIn X1.here hx rfl (o := 46) (pc0 := 4) (pc' := 50) rfl (hb hby d3_4) rfl (by rw [show od = (1 : Int32) from hc4_3]; decide) (by rw [show od = (1 : Int32) from hc4_3]; decide) (by decide) (by decide) (XS.iconst X1.here hx rfl (hb hby d3_50) (XS.goto X1.here hx rfl (pc0 := 51) (pc' := 81) rfl (hb hby d3_51) (by decide) (by decide) k))) ?_
      refine Run.out X1 hx Bd.notSynchronized Bd.returns rfl (Or.inl ⟨rfl, by simp, _, rfl⟩) (hb hby d3_81) (by decide) (by decide) ?_
      rw [e1]
      exact ⟨by rw [FPays, if_neg hc4_2, if_pos hc4_3], N1, rfl⟩
    · by_cases hc4_4 : od = (2 : Int32)
      · refine Run.st (S' := T1.setTop (mkF m 55 #[.val (.ref a0), .val (.ref a1)] [(.ref a1)])) (fun _ k => XS.tswIn X1.here hx rfl (o := 50) (pc0 := 4) (pc' := 54) rfl (hb hby d3_4) rfl (by rw [show od = (2 : Int32) from hc4_4]; decide) (by rw [show od = (2 : Int32) from hc4_4]; decide) (by decide) (by decide) (XS.aloadN X1.here hx rfl (hb hby d3_54) rfl rfl k)) ?_
        obtain ⟨T5, X5, e5, st5⟩ := getS2 X1 hx hZ hown (host := "") (Or.inl (hw _ (List.mem_of_getElem? (i := 39) rfl))) Via.refl e1 S_s_Permission_GIVEN (g := (mkF m 55 #[.val (.ref a0), .val (.ref a1)] [(.ref a1)])) rfl (hb hby d3_55)
        refine Run.st (S' := T5.setTop (mkF m 58 #[.val (.ref a0), .val (.ref a1)] [(.ref s_Permission_GIVEN), (.ref a1)])) (fun _ k => st5 _ k) ?_
        by_cases ha58_6 : a1 = s_Permission_GIVEN
        · refine Run.st (S' := T5.setTop (mkF m 81 #[.val (.ref a0), .val (.ref a1)] [(.int (1 : Int32))])) (fun _ k => Jvm.RoadKit.acmp (g := (mkF m 58 #[.val (.ref a0), .val (.ref a1)] [(.ref s_Permission_GIVEN), (.ref a1)])) X5 hx rfl rfl rfl (pc0 := 58) (pc' := 61) (same := true) rfl (hb hby d3_58) rfl (decide_eq_true (congrArg Value.ref ha58_6)) (by decide) (by decide) (XS.iconst X5.here hx rfl (hb hby d3_61) (XS.goto X5.here hx rfl (pc0 := 62) (pc' := 81) rfl (hb hby d3_62) (by decide) (by decide) k))) ?_
          refine Run.out X5 hx Bd.notSynchronized Bd.returns rfl (Or.inl ⟨rfl, by simp, _, rfl⟩) (hb hby d3_81) (by decide) (by decide) ?_
          rw [e5]
          exact ⟨by rw [FPays, if_neg hc4_2, if_neg hc4_3, if_pos hc4_4, if_pos ha58_6], N1, rfl⟩
        · refine Run.st (S' := T5.setTop (mkF m 81 #[.val (.ref a0), .val (.ref a1)] [(.int (0 : Int32))])) (fun _ k => Jvm.RoadKit.acmp (g := (mkF m 58 #[.val (.ref a0), .val (.ref a1)] [(.ref s_Permission_GIVEN), (.ref a1)])) X5 hx rfl rfl rfl (pc0 := 58) (pc' := 65) (same := false) rfl (hb hby d3_58) rfl (decide_eq_false fun q => ha58_6 (Value.ref.inj q)) (by decide) (by decide) (XS.iconst X5.here hx rfl (hb hby d3_65) (XS.goto X5.here hx rfl (pc0 := 66) (pc' := 81) rfl (hb hby d3_66) (by decide) (by decide) k))) ?_
          refine Run.out X5 hx Bd.notSynchronized Bd.returns rfl (Or.inl ⟨rfl, by simp, _, rfl⟩) (hb hby d3_81) (by decide) (by decide) ?_
          rw [e5]
          exact ⟨by rw [FPays, if_neg hc4_2, if_neg hc4_3, if_pos hc4_4, if_neg ha58_6], N1, rfl⟩
      · by_cases hc4_7 : od = (3 : Int32)
        · refine Run.st (S' := T1.setTop (mkF m 70 #[.val (.ref a0), .val (.ref a1)] [(.ref a1)])) (fun _ k => XS.tswIn X1.here hx rfl (o := 65) (pc0 := 4) (pc' := 69) rfl (hb hby d3_4) rfl (by rw [show od = (3 : Int32) from hc4_7]; decide) (by rw [show od = (3 : Int32) from hc4_7]; decide) (by decide) (by decide) (XS.aloadN X1.here hx rfl (hb hby d3_69) rfl rfl k)) ?_
          obtain ⟨T8, X8, e8, st8⟩ := getS2 X1 hx hZ hown (host := "") (Or.inl (hw _ (List.mem_of_getElem? (i := 36) rfl))) Via.refl e1 S_s_Permission_REFUSED (g := (mkF m 70 #[.val (.ref a0), .val (.ref a1)] [(.ref a1)])) rfl (hb hby d3_70)
          refine Run.st (S' := T8.setTop (mkF m 73 #[.val (.ref a0), .val (.ref a1)] [(.ref s_Permission_REFUSED), (.ref a1)])) (fun _ k => st8 _ k) ?_
          by_cases ha73_9 : a1 = s_Permission_REFUSED
          · refine Run.st (S' := T8.setTop (mkF m 81 #[.val (.ref a0), .val (.ref a1)] [(.int (0 : Int32))])) (fun _ k => Jvm.RoadKit.acmp (g := (mkF m 73 #[.val (.ref a0), .val (.ref a1)] [(.ref s_Permission_REFUSED), (.ref a1)])) X8 hx rfl rfl rfl (pc0 := 73) (pc' := 80) (same := true) rfl (hb hby d3_73) rfl (decide_eq_true (congrArg Value.ref ha73_9)) (by decide) (by decide) (XS.iconst X8.here hx rfl (hb hby d3_80) k)) ?_
            refine Run.out X8 hx Bd.notSynchronized Bd.returns rfl (Or.inl ⟨rfl, by simp, _, rfl⟩) (hb hby d3_81) (by decide) (by decide) ?_
            rw [e8]
            exact ⟨by rw [FPays, if_neg hc4_2, if_neg hc4_3, if_neg hc4_4, if_pos hc4_7, if_pos ha73_9], N1, rfl⟩
          · refine Run.st (S' := T8.setTop (mkF m 81 #[.val (.ref a0), .val (.ref a1)] [(.int (1 : Int32))])) (fun _ k => Jvm.RoadKit.acmp (g := (mkF m 73 #[.val (.ref a0), .val (.ref a1)] [(.ref s_Permission_REFUSED), (.ref a1)])) X8 hx rfl rfl rfl (pc0 := 73) (pc' := 76) (same := false) rfl (hb hby d3_73) rfl (decide_eq_false fun q => ha73_9 (Value.ref.inj q)) (by decide) (by decide) (XS.iconst X8.here hx rfl (hb hby d3_76) (XS.goto X8.here hx rfl (pc0 := 77) (pc' := 81) rfl (hb hby d3_77) (by decide) (by decide) k))) ?_
            refine Run.out X8 hx Bd.notSynchronized Bd.returns rfl (Or.inl ⟨rfl, by simp, _, rfl⟩) (hb hby d3_81) (by decide) (by decide) ?_
            rw [e8]
            exact ⟨by rw [FPays, if_neg hc4_2, if_neg hc4_3, if_neg hc4_4, if_pos hc4_7, if_neg ha73_9], N1, rfl⟩
        · rcases ho with h | h | h | h <;> first | exact absurd h hc4_2 | exact absurd h hc4_3 | exact absurd h hc4_4 | exact absurd h hc4_7
theorem d1_0 : decode method_2_code 0 = .ok (.iload_n 0, 1) := by decide +kernel
theorem d1_1 : decode method_2_code 1 = .ok (.ifCond .ne 7, 3) := by decide +kernel
theorem d1_4 : decode method_2_code 4 = .ok (.getstatic 7, 3) := by decide +kernel
theorem d1_7 : decode method_2_code 7 = .ok (.areturn, 1) := by decide +kernel
theorem d1_8 : decode method_2_code 8 = .ok (.iload_n 0, 1) := by decide +kernel
theorem d1_9 : decode method_2_code 9 = .ok (.iconst 1, 1) := by decide +kernel
theorem d1_10 : decode method_2_code 10 = .ok (.if_icmp .ne 7, 3) := by decide +kernel
theorem d1_13 : decode method_2_code 13 = .ok (.getstatic 13, 3) := by decide +kernel
theorem d1_16 : decode method_2_code 16 = .ok (.areturn, 1) := by decide +kernel
theorem d1_17 : decode method_2_code 17 = .ok (.iload_n 0, 1) := by decide +kernel
theorem d1_18 : decode method_2_code 18 = .ok (.iconst 2, 1) := by decide +kernel
theorem d1_19 : decode method_2_code 19 = .ok (.if_icmp .ne 7, 3) := by decide +kernel
theorem d1_22 : decode method_2_code 22 = .ok (.getstatic 16, 3) := by decide +kernel
theorem d1_25 : decode method_2_code 25 = .ok (.areturn, 1) := by decide +kernel
theorem d1_26 : decode method_2_code 26 = .ok (.getstatic 19, 3) := by decide +kernel
theorem d1_29 : decode method_2_code 29 = .ok (.areturn, 1) := by decide +kernel
theorem pn_2 : plainName "com/example/quittance/quittance/PeriodRuleLimitsPinLaw" = true := by first | (simp [plainName, overriddenIn]; done) | decide +kernel
theorem ef_Rule (m : MethodId) (p0 : Int32) : entryFrame m #[(.int p0)] 1 = mkF m 0 #[.val (.int p0)] [] := by first | (simp [entryFrame, mkF, argsToLocals, Value.category]; done) | rfl
def FRule (p0 : Int32) (s_PeriodRule_YES : Addr) (s_PeriodRule_NO : Addr) (s_PeriodRule_PERMISSION : Addr) (s_PeriodRule_NEGATIVE_PERMISSION : Addr) : Addr := (if p0 = (0 : Int32) then s_PeriodRule_YES else (if p0 = (1 : Int32) then s_PeriodRule_NO else (if p0 = (2 : Int32) then s_PeriodRule_PERMISSION else s_PeriodRule_NEGATIVE_PERMISSION)))
def QRule (Z : State) (p0 : Int32) (s_PeriodRule_YES : Addr) (s_PeriodRule_NO : Addr) (s_PeriodRule_PERMISSION : Addr) (s_PeriodRule_NEGATIVE_PERMISSION : Addr) (h0 : Heap) (n0 : Nat) (v : Option Value) (h : Heap) (L : List Loc) : Prop := v = some (.ref (FRule p0 s_PeriodRule_YES s_PeriodRule_NO s_PeriodRule_PERMISSION s_PeriodRule_NEGATIVE_PERMISSION)) ∧ Fr n0 L ∧ h = h0
set_option maxRecDepth 65536 in
set_option maxHeartbeats 40000000 in
theorem rmRule (l : Launch) (Z : State) (aV : Array Value) (hw : ∀ d ∈ tables_1, d.before aV Z = true) (ws : List Jvm.Cond) (p0 : Int32) (s_PeriodRule_YES : Addr) (s_PeriodRule_NO : Addr) (s_PeriodRule_PERMISSION : Addr) (s_PeriodRule_NEGATIVE_PERMISSION : Addr) (h0 : Heap) (n0 : Nat) (Zn : n0 ≤ h0.size) (S_s_PeriodRule_YES : Sta Z h0 "com/example/quittance/quittance/PeriodRule" "YES" "Lcom/example/quittance/quittance/PeriodRule;" (.ref s_PeriodRule_YES)) (S_s_PeriodRule_NO : Sta Z h0 "com/example/quittance/quittance/PeriodRule" "NO" "Lcom/example/quittance/quittance/PeriodRule;" (.ref s_PeriodRule_NO)) (S_s_PeriodRule_PERMISSION : Sta Z h0 "com/example/quittance/quittance/PeriodRule" "PERMISSION" "Lcom/example/quittance/quittance/PeriodRule;" (.ref s_PeriodRule_PERMISSION)) (S_s_PeriodRule_NEGATIVE_PERMISSION : Sta Z h0 "com/example/quittance/quittance/PeriodRule" "NEGATIVE_PERMISSION" "Lcom/example/quittance/quittance/PeriodRule;" (.ref s_PeriodRule_NEGATIVE_PERMISSION)) :
    MetFree l (⟨"com/example/quittance/quittance/PeriodRuleLimitsPinLaw", "pick", "(I)Lcom/example/quittance/quittance/PeriodRule;"⟩ : MethodName) (head1 (Jvm.Cond.code (⟨"com/example/quittance/quittance/PeriodRuleLimitsPinLaw", "pick", "(I)Lcom/example/quittance/quittance/PeriodRule;"⟩ : MethodName) method_2_code 1 (some (.object "com/example/quittance/quittance/PeriodRule")) :: ws) ({ frames := 0, cells := 0, slots := 0, locals := 0 } : Room)) (fun a U => a = #[(.int p0)] ∧ Z.Warmed39 U.vm ∧ U.heap = h0) (fun _ _ _ _ _ => True) (fun _ U o U' => ∃ v L, o = .returned v ∧ QRule Z p0 s_PeriodRule_YES s_PeriodRule_NO s_PeriodRule_PERMISSION s_PeriodRule_NEGATIVE_PERMISSION h0 n0 v U'.heap L ∧ FrameEnd U o U' L ({ frames := 0, cells := 0, slots := 0, locals := 0 } : Room).cells ({ frames := 0, cells := 0, slots := 0, locals := 0 } : Room).slots) := by
  refine MetFree.of_bodySF (plainFor_of_name pn_2) hisR ?_
  intro p e s m args below meth c s₁ Bd hml0 hP hK
  obtain ⟨rfl, hZ, hh⟩ := hP
  have hx := Bd.exec
  have hby := Bd.bytes
  have hml : c.maxLocals = 1 := hml0
  have hown : s.vm.findClass "com/example/quittance/quittance/PeriodRuleLimitsPinLaw" = some m.cls := findClass_of_methodNamed Bd.named
  have hnm := (name_of_methodNamed Bd.named Bd.method).1
  have X0 : Stand p l e ({ frames := 0, cells := 0, slots := 0, locals := 0 } : Room) s m #[(.int p0)] below meth c s₁ [] 0 0 := Stand.of_body Bd
  have e0 : s₁.heap = h0 := by rw [← hh, Bd.state]; rfl
  have N0 := Fr.nil n0
  have Kp := Keep.refl h0 []
  show Run p e below (Ends s (QRule Z p0 s_PeriodRule_YES s_PeriodRule_NO s_PeriodRule_PERMISSION s_PeriodRule_NEGATIVE_PERMISSION h0 n0) ({ frames := 0, cells := 0, slots := 0, locals := 0 } : Room).cells ({ frames := 0, cells := 0, slots := 0, locals := 0 } : Room).slots) _
  refine Run.st (S' := s₁.setTop (mkF m 0 #[.val (.int p0)] [])) (fun t k => castTop (ef_Rule m p0) k) ?_
  refine Run.st (S' := s₁.setTop (mkF m 1 #[.val (.int p0)] [(.int p0)])) (fun _ k => XS.iloadN X0.here hx rfl (hb hby d1_0) rfl k) ?_
  by_cases hc1_1 : p0 = (0 : Int32)
  · refine Run.st (S' := s₁.setTop (mkF m 4 #[.val (.int p0)] [])) (fun _ k => XS.ifNo X0.here hx rfl (hb hby d1_1) rfl ((if0 _ _).trans (teq hc1_1).2) k) ?_
    obtain ⟨T2, X2, e2, st2⟩ := getS2 X0 hx hZ hown (host := "") (Or.inl (hw _ (List.mem_of_getElem? (i := 4) rfl))) Via.refl e0 S_s_PeriodRule_YES (g := (mkF m 4 #[.val (.int p0)] [])) rfl (hb hby d1_4)
    refine Run.st (S' := T2.setTop (mkF m 7 #[.val (.int p0)] [(.ref s_PeriodRule_YES)])) (fun _ k => st2 _ k) ?_
    refine Run.out X2 hx Bd.notSynchronized Bd.returns rfl (Or.inr (Or.inr (Or.inr (Or.inr ⟨rfl, rfl, rfl⟩)))) (hb hby d1_7) (by decide) (by decide) ?_
    rw [e2]
    exact ⟨by rw [FRule, if_pos hc1_1], N0, rfl⟩
  · refine Run.st (S' := s₁.setTop (mkF m 10 #[.val (.int p0)] [(.int (1 : Int32)), (.int p0)])) (fun _ k => XS.ifYes X0.here hx rfl (pc0 := 1) (pc' := 8) rfl (hb hby d1_1) rfl ((if0 _ _).trans (feq hc1_1).2) (by decide) (by decide) (XS.iloadN X0.here hx rfl (hb hby d1_8) rfl (XS.iconst X0.here hx rfl (hb hby d1_9) k))) ?_
    by_cases hc10_3 : p0 = (1 : Int32)
    · refine Run.st (S' := s₁.setTop (mkF m 13 #[.val (.int p0)] [])) (fun _ k => XS.icmpNo X0.here hx rfl (hb hby d1_10) rfl (teq hc10_3).2 k) ?_
      obtain ⟨T4, X4, e4, st4⟩ := getS2 X0 hx hZ hown (host := "") (Or.inl (hw _ (List.mem_of_getElem? (i := 40) rfl))) Via.refl e0 S_s_PeriodRule_NO (g := (mkF m 13 #[.val (.int p0)] [])) rfl (hb hby d1_13)
      refine Run.st (S' := T4.setTop (mkF m 16 #[.val (.int p0)] [(.ref s_PeriodRule_NO)])) (fun _ k => st4 _ k) ?_
      refine Run.out X4 hx Bd.notSynchronized Bd.returns rfl (Or.inr (Or.inr (Or.inr (Or.inr ⟨rfl, rfl, rfl⟩)))) (hb hby d1_16) (by decide) (by decide) ?_
      rw [e4]
      exact ⟨by rw [FRule, if_neg hc1_1, if_pos hc10_3], N0, rfl⟩
    · refine Run.st (S' := s₁.setTop (mkF m 19 #[.val (.int p0)] [(.int (2 : Int32)), (.int p0)])) (fun _ k => XS.icmpYes X0.here hx rfl (pc0 := 10) (pc' := 17) rfl (hb hby d1_10) rfl (feq hc10_3).2 (by decide) (by decide) (XS.iloadN X0.here hx rfl (hb hby d1_17) rfl (XS.iconst X0.here hx rfl (hb hby d1_18) k))) ?_
      by_cases hc19_5 : p0 = (2 : Int32)
      · refine Run.st (S' := s₁.setTop (mkF m 22 #[.val (.int p0)] [])) (fun _ k => XS.icmpNo X0.here hx rfl (hb hby d1_19) rfl (teq hc19_5).2 k) ?_
        obtain ⟨T6, X6, e6, st6⟩ := getS2 X0 hx hZ hown (host := "") (Or.inl (hw _ (List.mem_of_getElem? (i := 37) rfl))) Via.refl e0 S_s_PeriodRule_PERMISSION (g := (mkF m 22 #[.val (.int p0)] [])) rfl (hb hby d1_22)
        refine Run.st (S' := T6.setTop (mkF m 25 #[.val (.int p0)] [(.ref s_PeriodRule_PERMISSION)])) (fun _ k => st6 _ k) ?_
        refine Run.out X6 hx Bd.notSynchronized Bd.returns rfl (Or.inr (Or.inr (Or.inr (Or.inr ⟨rfl, rfl, rfl⟩)))) (hb hby d1_25) (by decide) (by decide) ?_
        rw [e6]
        exact ⟨by rw [FRule, if_neg hc1_1, if_neg hc10_3, if_pos hc19_5], N0, rfl⟩
      · refine Run.st (S' := s₁.setTop (mkF m 26 #[.val (.int p0)] [])) (fun _ k => XS.icmpYes X0.here hx rfl (pc0 := 19) (pc' := 26) rfl (hb hby d1_19) rfl (feq hc19_5).2 (by decide) (by decide) k) ?_
        obtain ⟨T7, X7, e7, st7⟩ := getS2 X0 hx hZ hown (host := "") (Or.inl (hw _ (List.mem_of_getElem? (i := 34) rfl))) Via.refl e0 S_s_PeriodRule_NEGATIVE_PERMISSION (g := (mkF m 26 #[.val (.int p0)] [])) rfl (hb hby d1_26)
        refine Run.st (S' := T7.setTop (mkF m 29 #[.val (.int p0)] [(.ref s_PeriodRule_NEGATIVE_PERMISSION)])) (fun _ k => st7 _ k) ?_
        refine Run.out X7 hx Bd.notSynchronized Bd.returns rfl (Or.inr (Or.inr (Or.inr (Or.inr ⟨rfl, rfl, rfl⟩)))) (hb hby d1_29) (by decide) (by decide) ?_
        rw [e7]
        exact ⟨by rw [FRule, if_neg hc1_1, if_neg hc10_3, if_neg hc19_5], N0, rfl⟩
theorem d2_0 : decode prog_25_method_5_code 0 = .ok (.aload_n 0, 1) := by decide +kernel
theorem d2_1 : decode prog_25_method_5_code 1 = .ok (.getstatic 3, 3) := by decide +kernel
theorem d2_4 : decode prog_25_method_5_code 4 = .ok (.if_acmp .eq 7, 3) := by decide +kernel
theorem d2_7 : decode prog_25_method_5_code 7 = .ok (.iconst 1, 1) := by decide +kernel
theorem d2_8 : decode prog_25_method_5_code 8 = .ok (.goto 4, 3) := by decide +kernel
theorem d2_11 : decode prog_25_method_5_code 11 = .ok (.iconst 0, 1) := by decide +kernel
theorem d2_12 : decode prog_25_method_5_code 12 = .ok (.ireturn, 1) := by decide +kernel
theorem ef_Lim (m : MethodId) (a0 : Addr) : entryFrame m #[(.ref a0)] 1 = mkF m 0 #[.val (.ref a0)] [] := by first | (simp [entryFrame, mkF, argsToLocals, Value.category]; done) | rfl
def FLim (a0 : Addr) (s_PeriodRule_YES : Addr) : Int32 := (if a0 = s_PeriodRule_YES then (0 : Int32) else (1 : Int32))
def QLim (Z : State) (a0 : Addr) (s_PeriodRule_YES : Addr) (h0 : Heap) (n0 : Nat) (v : Option Value) (h : Heap) (L : List Loc) : Prop := v = some (.int (FLim a0 s_PeriodRule_YES)) ∧ Fr n0 L ∧ h = h0
set_option maxRecDepth 65536 in
set_option maxHeartbeats 40000000 in
theorem rmLim (l : Launch) (Z : State) (aV : Array Value) (hw : ∀ d ∈ tables_1, d.before aV Z = true) (ws : List Jvm.Cond) (a0 : Addr) (s_PeriodRule_YES : Addr) (h0 : Heap) (n0 : Nat) (Zn : n0 ≤ h0.size) (S_s_PeriodRule_YES : Sta Z h0 "com/example/quittance/quittance/PeriodRule" "YES" "Lcom/example/quittance/quittance/PeriodRule;" (.ref s_PeriodRule_YES)) :
    MetFree l (⟨"com/example/quittance/quittance/PeriodRule", "limits", "()Z"⟩ : MethodName) (head1 (Jvm.Cond.code (⟨"com/example/quittance/quittance/PeriodRule", "limits", "()Z"⟩ : MethodName) prog_25_method_5_code 1 (some .boolean) :: ws) ({ frames := 0, cells := 0, slots := 0, locals := 0 } : Room)) (fun a U => a = #[(.ref a0)] ∧ Z.Warmed39 U.vm ∧ U.heap = h0) (fun _ _ _ _ _ => True) (fun _ U o U' => ∃ v L, o = .returned v ∧ QLim Z a0 s_PeriodRule_YES h0 n0 v U'.heap L ∧ FrameEnd U o U' L ({ frames := 0, cells := 0, slots := 0, locals := 0 } : Room).cells ({ frames := 0, cells := 0, slots := 0, locals := 0 } : Room).slots) := by
  refine MetFree.of_bodySF (plainFor_of_name pn_1) hisR ?_
  intro p e s m args below meth c s₁ Bd hml0 hP hK
  obtain ⟨rfl, hZ, hh⟩ := hP
  have hx := Bd.exec
  have hby := Bd.bytes
  have hml : c.maxLocals = 1 := hml0
  have hown : s.vm.findClass "com/example/quittance/quittance/PeriodRule" = some m.cls := findClass_of_methodNamed Bd.named
  have hnm := (name_of_methodNamed Bd.named Bd.method).1
  have X0 : Stand p l e ({ frames := 0, cells := 0, slots := 0, locals := 0 } : Room) s m #[(.ref a0)] below meth c s₁ [] 0 0 := Stand.of_body Bd
  have e0 : s₁.heap = h0 := by rw [← hh, Bd.state]; rfl
  have N0 := Fr.nil n0
  have Kp := Keep.refl h0 []
  show Run p e below (Ends s (QLim Z a0 s_PeriodRule_YES h0 n0) ({ frames := 0, cells := 0, slots := 0, locals := 0 } : Room).cells ({ frames := 0, cells := 0, slots := 0, locals := 0 } : Room).slots) _
  refine Run.st (S' := s₁.setTop (mkF m 0 #[.val (.ref a0)] [])) (fun t k => castTop (ef_Lim m a0) k) ?_
  refine Run.st (S' := s₁.setTop (mkF m 1 #[.val (.ref a0)] [(.ref a0)])) (fun _ k => XS.aloadN X0.here hx rfl (hb hby d2_0) rfl rfl k) ?_
  obtain ⟨T1, X1, e1, st1⟩ := getS2 X0 hx hZ hown (host := "") (Or.inl (hw _ (List.mem_of_getElem? (i := 12) rfl))) Via.refl e0 S_s_PeriodRule_YES (g := (mkF m 1 #[.val (.ref a0)] [(.ref a0)])) rfl (hb hby d2_1)
  refine Run.st (S' := T1.setTop (mkF m 4 #[.val (.ref a0)] [(.ref s_PeriodRule_YES), (.ref a0)])) (fun _ k => st1 _ k) ?_
  by_cases ha4_2 : a0 = s_PeriodRule_YES
  · refine Run.st (S' := T1.setTop (mkF m 12 #[.val (.ref a0)] [(.int (0 : Int32))])) (fun _ k => Jvm.RoadKit.acmp (g := (mkF m 4 #[.val (.ref a0)] [(.ref s_PeriodRule_YES), (.ref a0)])) X1 hx rfl rfl rfl (pc0 := 4) (pc' := 11) (same := true) rfl (hb hby d2_4) rfl (decide_eq_true (congrArg Value.ref ha4_2)) (by decide) (by decide) (XS.iconst X1.here hx rfl (hb hby d2_11) k)) ?_
    refine Run.out X1 hx Bd.notSynchronized Bd.returns rfl (Or.inl ⟨rfl, by simp, _, rfl⟩) (hb hby d2_12) (by decide) (by decide) ?_
    rw [e1]
    exact ⟨by rw [FLim, if_pos ha4_2], N0, rfl⟩
  · refine Run.st (S' := T1.setTop (mkF m 12 #[.val (.ref a0)] [(.int (1 : Int32))])) (fun _ k => Jvm.RoadKit.acmp (g := (mkF m 4 #[.val (.ref a0)] [(.ref s_PeriodRule_YES), (.ref a0)])) X1 hx rfl rfl rfl (pc0 := 4) (pc' := 7) (same := false) rfl (hb hby d2_4) rfl (decide_eq_false fun q => ha4_2 (Value.ref.inj q)) (by decide) (by decide) (XS.iconst X1.here hx rfl (hb hby d2_7) (XS.goto X1.here hx rfl (pc0 := 8) (pc' := 12) rfl (hb hby d2_8) (by decide) (by decide) k))) ?_
    refine Run.out X1 hx Bd.notSynchronized Bd.returns rfl (Or.inl ⟨rfl, by simp, _, rfl⟩) (hb hby d2_12) (by decide) (by decide) ?_
    rw [e1]
    exact ⟨by rw [FLim, if_neg ha4_2], N0, rfl⟩
theorem own_c4 {x : Int32} (h : 0 ≤ x.toInt ∧ x.toInt < 4) : x = (0 : Int32) ∨ x = (1 : Int32) ∨ x = (2 : Int32) ∨ x = (3 : Int32) := by
  simp only [← Int32.toInt_inj]
  have e0 : (0 : Int32).toInt = 0 := by decide
  have e1 : (1 : Int32).toInt = 1 := by decide
  have e2 : (2 : Int32).toInt = 2 := by decide
  have e3 : (3 : Int32).toInt = 3 := by decide
  omega
theorem pd_1 : parseMethodDescriptor "(I)Lcom/example/quittance/quittance/PeriodRule;" = some ⟨[.int], some (.object "com/example/quittance/quittance/PeriodRule")⟩ := by decide +kernel
theorem pd_2 : parseMethodDescriptor "()Z" = some ⟨[], some .boolean⟩ := by decide +kernel
theorem pd_3 : parseMethodDescriptor "(Lcom/example/quittance/quittance/Permission;)Z" = some ⟨[(.object "com/example/quittance/quittance/Permission")], some .boolean⟩ := by decide +kernel
theorem ef_0 (m : MethodId) (p0 : Int32) : entryFrame m #[(.int p0)] maxLocals = mkF m 0 #[.val (.int p0), .unset, .unset, .unset, .unset, .unset] [] := by first | (simp [entryFrame, mkF, argsToLocals, Value.category, maxLocals]; done) | rfl
def Q0 (Z : State) (p0 : Int32) (s_PeriodRule_YES : Addr) (s_PeriodRule_NO : Addr) (s_PeriodRule_PERMISSION : Addr) (s_PeriodRule_NEGATIVE_PERMISSION : Addr) (s_Permission_NOT_STATED : Addr) (s_Permission_GIVEN : Addr) (s_Permission_REFUSED : Addr) (h0 : Heap) (n0 : Nat) (v : Option Value) (h : Heap) (L : List Loc) : Prop := v = some (.int 1) ∧ Fr n0 L
set_option maxRecDepth 65536 in
set_option maxHeartbeats 40000000 in
theorem rm0 (l : Launch) (Z : State) (aV : Array Value) (hw : ∀ d ∈ tables_1, d.before aV Z = true) (ws : List Jvm.Cond) (p0 : Int32) (s_PeriodRule_YES : Addr) (s_PeriodRule_NO : Addr) (s_PeriodRule_PERMISSION : Addr) (s_PeriodRule_NEGATIVE_PERMISSION : Addr) (s_Permission_NOT_STATED : Addr) (s_Permission_GIVEN : Addr) (s_Permission_REFUSED : Addr) (h0 : Heap) (n0 : Nat) (Zn : n0 ≤ h0.size) (E_s_PeriodRule_YES : Exa Z h0 s_PeriodRule_YES "com/example/quittance/quittance/PeriodRule") (S_s_PeriodRule_YES : Sta Z h0 "com/example/quittance/quittance/PeriodRule" "YES" "Lcom/example/quittance/quittance/PeriodRule;" (.ref s_PeriodRule_YES)) (F_s_PeriodRule_YES : Fld Z h0 s_PeriodRule_YES "java/lang/Enum" "ordinal" "I" (.int (0 : Int32))) (E_s_PeriodRule_NO : Exa Z h0 s_PeriodRule_NO "com/example/quittance/quittance/PeriodRule") (S_s_PeriodRule_NO : Sta Z h0 "com/example/quittance/quittance/PeriodRule" "NO" "Lcom/example/quittance/quittance/PeriodRule;" (.ref s_PeriodRule_NO)) (F_s_PeriodRule_NO : Fld Z h0 s_PeriodRule_NO "java/lang/Enum" "ordinal" "I" (.int (1 : Int32))) (E_s_PeriodRule_PERMISSION : Exa Z h0 s_PeriodRule_PERMISSION "com/example/quittance/quittance/PeriodRule") (S_s_PeriodRule_PERMISSION : Sta Z h0 "com/example/quittance/quittance/PeriodRule" "PERMISSION" "Lcom/example/quittance/quittance/PeriodRule;" (.ref s_PeriodRule_PERMISSION)) (F_s_PeriodRule_PERMISSION : Fld Z h0 s_PeriodRule_PERMISSION "java/lang/Enum" "ordinal" "I" (.int (2 : Int32))) (E_s_PeriodRule_NEGATIVE_PERMISSION : Exa Z h0 s_PeriodRule_NEGATIVE_PERMISSION "com/example/quittance/quittance/PeriodRule") (S_s_PeriodRule_NEGATIVE_PERMISSION : Sta Z h0 "com/example/quittance/quittance/PeriodRule" "NEGATIVE_PERMISSION" "Lcom/example/quittance/quittance/PeriodRule;" (.ref s_PeriodRule_NEGATIVE_PERMISSION)) (F_s_PeriodRule_NEGATIVE_PERMISSION : Fld Z h0 s_PeriodRule_NEGATIVE_PERMISSION "java/lang/Enum" "ordinal" "I" (.int (3 : Int32))) (S_s_Permission_NOT_STATED : Sta Z h0 "com/example/quittance/quittance/Permission" "NOT_STATED" "Lcom/example/quittance/quittance/Permission;" (.ref s_Permission_NOT_STATED)) (S_s_Permission_GIVEN : Sta Z h0 "com/example/quittance/quittance/Permission" "GIVEN" "Lcom/example/quittance/quittance/Permission;" (.ref s_Permission_GIVEN)) (S_s_Permission_REFUSED : Sta Z h0 "com/example/quittance/quittance/Permission" "REFUSED" "Lcom/example/quittance/quittance/Permission;" (.ref s_Permission_REFUSED)) (hne1 : s_Permission_NOT_STATED ≠ s_Permission_GIVEN) (hne2 : s_Permission_NOT_STATED ≠ s_Permission_REFUSED) (hne3 : s_Permission_GIVEN ≠ s_Permission_REFUSED) (hy1 : s_PeriodRule_NO ≠ s_PeriodRule_YES) (hy2 : s_PeriodRule_PERMISSION ≠ s_PeriodRule_YES) (hy3 : s_PeriodRule_NEGATIVE_PERMISSION ≠ s_PeriodRule_YES) :
    MetFree l x (head1 (Jvm.Cond.code x code maxLocals ret :: ws) room_1) (fun a U => a = #[(.int p0)] ∧ Z.Warmed39 U.vm ∧ U.heap = h0) (fun _ _ _ _ _ => True) (fun _ U o U' => ∃ v L, o = .returned v ∧ Q0 Z p0 s_PeriodRule_YES s_PeriodRule_NO s_PeriodRule_PERMISSION s_PeriodRule_NEGATIVE_PERMISSION s_Permission_NOT_STATED s_Permission_GIVEN s_Permission_REFUSED h0 n0 v U'.heap L ∧ FrameEnd U o U' L room_1.cells room_1.slots) := by
  refine MetFree.of_bodySF (plainFor_of_name pn_2) hisR ?_
  intro p e s m args below meth c s₁ Bd hml0 hP hK
  obtain ⟨rfl, hZ, hh⟩ := hP
  have hx := Bd.exec
  have hby := Bd.bytes
  have hml : c.maxLocals = 6 := hml0
  have hown : s.vm.findClass "com/example/quittance/quittance/PeriodRuleLimitsPinLaw" = some m.cls := findClass_of_methodNamed Bd.named
  have hnm := (name_of_methodNamed Bd.named Bd.method).1
  have X0 : Stand p l e room_1 s m #[(.int p0)] below meth c s₁ [] 0 0 := Stand.of_body Bd
  have e0 : s₁.heap = h0 := by rw [← hh, Bd.state]; rfl
  have N0 := Fr.nil n0
  have Kp := Keep.refl h0 []
  show Run p e below (Ends s (Q0 Z p0 s_PeriodRule_YES s_PeriodRule_NO s_PeriodRule_PERMISSION s_PeriodRule_NEGATIVE_PERMISSION s_Permission_NOT_STATED s_Permission_GIVEN s_Permission_REFUSED h0 n0) room_1.cells room_1.slots) _
  refine Run.st (S' := s₁.setTop (mkF m 0 #[.val (.int p0), .unset, .unset, .unset, .unset, .unset] [])) (fun t k => castTop (ef_0 m p0) k) ?_
  refine Run.st (S' := s₁.setTop (mkF m 4 #[.val (.int p0), .val (.int (p0 &&& (3 : Int32))), .unset, .unset, .unset, .unset] [])) (fun _ k => XS.iloadN X0.here hx rfl (hb hby at_0) rfl (XS.iconst X0.here hx rfl (hb hby at_1) (XS.iand X0.here hx rfl (hb hby at_2) rfl (XS.istoreN X0.here hx rfl (hb hby at_3) rfl (l' := #[.val (.int p0), .val (.int (p0 &&& (3 : Int32))), .unset, .unset, .unset, .unset]) rfl k)))) ?_
  have hr : 0 ≤ ((p0 &&& (3 : Int32))).toInt ∧ ((p0 &&& (3 : Int32))).toInt < 4 := (by have := rng32 (p0 &&& (3 : Int32)); have := c_mask p0 (3 : Int32) 2 (by decide) (by decide); have := rng32 p0; (try simp only [Int32.lt_iff_toInt_lt, Int64.lt_iff_toInt_lt, Int32.le_iff_toInt_le, Int64.le_iff_toInt_le, ← Int32.toInt_inj, ← Int64.toInt_inj] at  ⊢); omega)
  generalize er : (p0 &&& (3 : Int32)) = r at hr ⊢
  rcases own_c4 hr with rfl | rfl | rfl | rfl
  · refine Run.st (S' := s₁.setTop (mkF m 5 #[.val (.int p0), .val (.int (0 : Int32)), .unset, .unset, .unset, .unset] [(.int (0 : Int32))])) (fun _ k => XS.iloadN X0.here hx rfl (hb hby at_4) rfl k) ?_
    obtain ⟨_, _, ⟨T1, L1, k1, n1⟩, -, X1, ⟨Lc1, hQ1, l1, y1, z1⟩, st1⟩ := Jvm.LawKit.callS X0 hx (y := (⟨"com/example/quittance/quittance/PeriodRuleLimitsPinLaw", "pick", "(I)Lcom/example/quittance/quittance/PeriodRule;"⟩ : MethodName)) hown (mvT hZ (hw _ (List.mem_of_getElem? (i := 0) rfl))) (mvT hZ (hw _ (List.mem_of_getElem? (i := 1) rfl))) (mvT hZ (hw _ (List.mem_of_getElem? (i := 2) rfl))) (mvT hZ (hw _ (List.mem_of_getElem? (i := 3) rfl))) (by decide) (backOf (W := 0) (rmRule l Z aV hw [] (0 : Int32) s_PeriodRule_YES s_PeriodRule_NO s_PeriodRule_PERMISSION s_PeriodRule_NEGATIVE_PERMISSION h0 n0 Zn S_s_PeriodRule_YES S_s_PeriodRule_NO S_s_PeriodRule_PERMISSION S_s_PeriodRule_NEGATIVE_PERMISSION) hZ (hw _ (List.mem_of_getElem? (i := 3) rfl)) (hw _ (List.mem_of_getElem? (i := 2) rfl)) (by decide) (by decide)) (g := (mkF m 5 #[.val (.int p0), .val (.int (0 : Int32)), .unset, .unset, .unset, .unset] [(.int (0 : Int32))])) rfl (by rw [hml]; rfl) (argsL := [(.int (0 : Int32))]) (rest := []) (lenOf pd_1 rfl) rfl (by show 2 * 0 + _ ≤ _; exact Nat.le_of_eq rfl) (hb hby at_5) (fun _ _ => ⟨rfl, e0, (by decide : 0 + 0 ≤ _), (by decide : 0 + 0 ≤ _)⟩)
    dsimp only [Pt.U, Pt.locs, Pt.cells, Pt.slots] at X1 l1 y1 z1 st1 hQ1
    subst l1 y1 z1
    obtain ⟨rfl, N1q, e1⟩ := hQ1
    have N1 := Fr.app N0 N1q
    rw [show (FRule (0 : Int32) s_PeriodRule_YES s_PeriodRule_NO s_PeriodRule_PERMISSION s_PeriodRule_NEGATIVE_PERMISSION) = s_PeriodRule_YES from rfl] at st1
    refine Run.st (S' := T1.setTop (mkF m 20 #[.val (.int p0), .val (.int (0 : Int32)), .val (.ref s_PeriodRule_YES), .val (.int (0 : Int32)), .unset, .unset] [(.ref s_PeriodRule_YES)])) (fun _ k => st1 _ (XS.astoreN X1.here hx rfl (hb hby at_8) rfl rfl (l' := #[.val (.int p0), .val (.int (0 : Int32)), .val (.ref s_PeriodRule_YES), .unset, .unset, .unset]) rfl (XS.iloadN X1.here hx rfl (hb hby at_9) rfl (XS.ifYes X1.here hx rfl (pc0 := 10) (pc' := 17) rfl (hb hby at_10) rfl ((if0 _ _).trans (teq (show (0 : Int32) = (0 : Int32) from (by decide))).1) (by decide) (by decide) (XS.iconst X1.here hx rfl (hb hby at_17) (XS.istoreN X1.here hx rfl (hb hby at_18) rfl (l' := #[.val (.int p0), .val (.int (0 : Int32)), .val (.ref s_PeriodRule_YES), .val (.int (0 : Int32)), .unset, .unset]) rfl (XS.aloadN X1.here hx rfl (hb hby at_19) rfl rfl k))))))) ?_
    obtain ⟨cq2, kq2, q2a, q2b, q2c⟩ := isOf hZ e1 E_s_PeriodRule_YES
    obtain ⟨_, _, ⟨T2, L2, k2, n2⟩, -, X2, ⟨Lc2, hQ2, l2, y2, z2⟩, st2⟩ := X1.virtualBack hx (y := (⟨"com/example/quittance/quittance/PeriodRule", "limits", "()Z"⟩ : MethodName)) (z := (⟨"com/example/quittance/quittance/PeriodRule", "limits", "()Z"⟩ : MethodName)) hown (mvT hZ (hw _ (List.mem_of_getElem? (i := 7) rfl))) (mvT hZ (hw _ (List.mem_of_getElem? (i := 8) rfl))) (notFace_of_selects (args := #[]) (mvT hZ (hw _ (List.mem_of_getElem? (i := 10) rfl)))) (mvT hZ (hw _ (List.mem_of_getElem? (i := 10) rfl))) (mvT hZ (hw _ (List.mem_of_getElem? (i := 9) rfl))) (by decide) (backOf (W := 0) (rmLim l Z aV hw [] s_PeriodRule_YES s_PeriodRule_YES h0 n0 Zn S_s_PeriodRule_YES) hZ (hw _ (List.mem_of_getElem? (i := 11) rfl)) (hw _ (List.mem_of_getElem? (i := 5) rfl)) (by decide) (by decide)) q2a q2c (g := (mkF m 20 #[.val (.int p0), .val (.int (0 : Int32)), .val (.ref s_PeriodRule_YES), .val (.int (0 : Int32)), .unset, .unset] [(.ref s_PeriodRule_YES)])) rfl (by rw [hml]; rfl) (Steps.refl _) (argsL := []) (rest := []) (lenOf pd_2 rfl) rfl (by show 2 * 0 + _ ≤ _; exact Nat.le_of_eq rfl) (hb hby at_20) (fun _ _ => ⟨rfl, e1, (by decide : 0 + 0 ≤ _), (by decide : 0 + 0 ≤ _)⟩)
    dsimp only [Pt.U, Pt.locs, Pt.cells, Pt.slots] at X2 l2 y2 z2 st2 hQ2
    subst l2 y2 z2
    obtain ⟨rfl, N2q, e2⟩ := hQ2
    have N2 := Fr.app N1 N2q
    have hv2 : (FLim s_PeriodRule_YES s_PeriodRule_YES) = (0 : Int32) := by unfold FLim; simp [hy1, hy2, hy3]
    refine Run.st (S' := T2.setTop (mkF m 26 #[.val (.int p0), .val (.int (0 : Int32)), .val (.ref s_PeriodRule_YES), .val (.int (0 : Int32)), .val (.int (FLim s_PeriodRule_YES s_PeriodRule_YES)), .unset] [(.ref s_PeriodRule_YES)])) (fun _ k => st2.trans (XS.istore X2.here hx rfl (hb hby at_23) rfl (l' := #[.val (.int p0), .val (.int (0 : Int32)), .val (.ref s_PeriodRule_YES), .val (.int (0 : Int32)), .val (.int (FLim s_PeriodRule_YES s_PeriodRule_YES)), .unset]) rfl (XS.aloadN X2.here hx rfl (hb hby at_25) rfl rfl k))) ?_
    obtain ⟨T3, X3, e3, st3⟩ := getS2 X2 hx hZ hown (host := "") (Or.inl (hw _ (List.mem_of_getElem? (i := 13) rfl))) Via.refl e2 S_s_Permission_NOT_STATED (g := (mkF m 26 #[.val (.int p0), .val (.int (0 : Int32)), .val (.ref s_PeriodRule_YES), .val (.int (0 : Int32)), .val (.int (FLim s_PeriodRule_YES s_PeriodRule_YES)), .unset] [(.ref s_PeriodRule_YES)])) rfl (hb hby at_26)
    refine Run.st (S' := T3.setTop (mkF m 29 #[.val (.int p0), .val (.int (0 : Int32)), .val (.ref s_PeriodRule_YES), .val (.int (0 : Int32)), .val (.int (FLim s_PeriodRule_YES s_PeriodRule_YES)), .unset] [(.ref s_Permission_NOT_STATED), (.ref s_PeriodRule_YES)])) (fun _ k => st3 _ k) ?_
    obtain ⟨cq4, kq4, q4a, q4b, q4c⟩ := isOf hZ e3 E_s_PeriodRule_YES
    obtain ⟨_, _, ⟨T4, L4, k4, n4⟩, -, X4, ⟨Lc4, hQ4, l4, y4, z4⟩, st4⟩ := X3.virtualBack hx (y := (⟨"com/example/quittance/quittance/PeriodRule", "pays", "(Lcom/example/quittance/quittance/Permission;)Z"⟩ : MethodName)) (z := (⟨"com/example/quittance/quittance/PeriodRule", "pays", "(Lcom/example/quittance/quittance/Permission;)Z"⟩ : MethodName)) hown (mvT hZ (hw _ (List.mem_of_getElem? (i := 16) rfl))) (mvT hZ (hw _ (List.mem_of_getElem? (i := 17) rfl))) (notFace_of_selects (args := #[]) (mvT hZ (hw _ (List.mem_of_getElem? (i := 19) rfl)))) (mvT hZ (hw _ (List.mem_of_getElem? (i := 19) rfl))) (mvT hZ (hw _ (List.mem_of_getElem? (i := 18) rfl))) (by decide) (backOf (W := 0) (rmPays l Z aV hw [] s_PeriodRule_YES s_Permission_NOT_STATED (0 : Int32) s_Permission_GIVEN s_Permission_REFUSED h0 n0 Zn (by decide) E_s_PeriodRule_YES F_s_PeriodRule_YES S_s_Permission_GIVEN S_s_Permission_REFUSED) hZ (hw _ (List.mem_of_getElem? (i := 20) rfl)) (hw _ (List.mem_of_getElem? (i := 5) rfl)) (by decide) (by decide)) q4a q4c (g := (mkF m 29 #[.val (.int p0), .val (.int (0 : Int32)), .val (.ref s_PeriodRule_YES), .val (.int (0 : Int32)), .val (.int (FLim s_PeriodRule_YES s_PeriodRule_YES)), .unset] [(.ref s_Permission_NOT_STATED), (.ref s_PeriodRule_YES)])) rfl (by rw [hml]; rfl) (Steps.refl _) (argsL := [(.ref s_Permission_NOT_STATED)]) (rest := []) (lenOf pd_3 rfl) rfl (by show 2 * 0 + _ ≤ _; exact Nat.le_of_eq rfl) (hb hby at_29) (fun _ _ => ⟨rfl, e3, (by decide : 0 + 0 ≤ _), (by decide : 0 + 0 ≤ _)⟩)
    dsimp only [Pt.U, Pt.locs, Pt.cells, Pt.slots] at X4 l4 y4 z4 st4 hQ4
    subst l4 y4 z4
    obtain ⟨rfl, N4q, e4⟩ := hQ4
    have N4 := Fr.app N2 N4q
    have hv4 : (FPays s_PeriodRule_YES s_Permission_NOT_STATED (0 : Int32) s_Permission_GIVEN s_Permission_REFUSED) = (1 : Int32) := by unfold FPays; simp [hne1, hne2, hne3]
    refine Run.st (S' := T4.setTop (mkF m 36 #[.val (.int p0), .val (.int (0 : Int32)), .val (.ref s_PeriodRule_YES), .val (.int (0 : Int32)), .val (.int (FLim s_PeriodRule_YES s_PeriodRule_YES)), .unset] [(.ref s_PeriodRule_YES)])) (fun _ k => st4.trans (XS.ifNo X4.here hx rfl (hb hby at_32) rfl ((if0 _ _).trans (feq (show ¬ ((FPays s_PeriodRule_YES s_Permission_NOT_STATED (0 : Int32) s_Permission_GIVEN s_Permission_REFUSED) = (0 : Int32)) from (by rw [hv4]; decide))).1) (XS.aloadN X4.here hx rfl (hb hby at_35) rfl rfl k))) ?_
    obtain ⟨T5, X5, e5, st5⟩ := getS2 X4 hx hZ hown (host := "") (Or.inl (hw _ (List.mem_of_getElem? (i := 30) rfl))) Via.refl e4 S_s_Permission_GIVEN (g := (mkF m 36 #[.val (.int p0), .val (.int (0 : Int32)), .val (.ref s_PeriodRule_YES), .val (.int (0 : Int32)), .val (.int (FLim s_PeriodRule_YES s_PeriodRule_YES)), .unset] [(.ref s_PeriodRule_YES)])) rfl (hb hby at_36)
    refine Run.st (S' := T5.setTop (mkF m 39 #[.val (.int p0), .val (.int (0 : Int32)), .val (.ref s_PeriodRule_YES), .val (.int (0 : Int32)), .val (.int (FLim s_PeriodRule_YES s_PeriodRule_YES)), .unset] [(.ref s_Permission_GIVEN), (.ref s_PeriodRule_YES)])) (fun _ k => st5 _ k) ?_
    obtain ⟨cq6, kq6, q6a, q6b, q6c⟩ := isOf hZ e5 E_s_PeriodRule_YES
    obtain ⟨_, _, ⟨T6, L6, k6, n6⟩, -, X6, ⟨Lc6, hQ6, l6, y6, z6⟩, st6⟩ := X5.virtualBack hx (y := (⟨"com/example/quittance/quittance/PeriodRule", "pays", "(Lcom/example/quittance/quittance/Permission;)Z"⟩ : MethodName)) (z := (⟨"com/example/quittance/quittance/PeriodRule", "pays", "(Lcom/example/quittance/quittance/Permission;)Z"⟩ : MethodName)) hown (mvT hZ (hw _ (List.mem_of_getElem? (i := 16) rfl))) (mvT hZ (hw _ (List.mem_of_getElem? (i := 17) rfl))) (notFace_of_selects (args := #[]) (mvT hZ (hw _ (List.mem_of_getElem? (i := 19) rfl)))) (mvT hZ (hw _ (List.mem_of_getElem? (i := 19) rfl))) (mvT hZ (hw _ (List.mem_of_getElem? (i := 18) rfl))) (by decide) (backOf (W := 0) (rmPays l Z aV hw [] s_PeriodRule_YES s_Permission_GIVEN (0 : Int32) s_Permission_GIVEN s_Permission_REFUSED h0 n0 Zn (by decide) E_s_PeriodRule_YES F_s_PeriodRule_YES S_s_Permission_GIVEN S_s_Permission_REFUSED) hZ (hw _ (List.mem_of_getElem? (i := 20) rfl)) (hw _ (List.mem_of_getElem? (i := 5) rfl)) (by decide) (by decide)) q6a q6c (g := (mkF m 39 #[.val (.int p0), .val (.int (0 : Int32)), .val (.ref s_PeriodRule_YES), .val (.int (0 : Int32)), .val (.int (FLim s_PeriodRule_YES s_PeriodRule_YES)), .unset] [(.ref s_Permission_GIVEN), (.ref s_PeriodRule_YES)])) rfl (by rw [hml]; rfl) (Steps.refl _) (argsL := [(.ref s_Permission_GIVEN)]) (rest := []) (lenOf pd_3 rfl) rfl (by show 2 * 0 + _ ≤ _; exact Nat.le_of_eq rfl) (hb hby at_39) (fun _ _ => ⟨rfl, e5, (by decide : 0 + 0 ≤ _), (by decide : 0 + 0 ≤ _)⟩)
    dsimp only [Pt.U, Pt.locs, Pt.cells, Pt.slots] at X6 l6 y6 z6 st6 hQ6
    subst l6 y6 z6
    obtain ⟨rfl, N6q, e6⟩ := hQ6
    have N6 := Fr.app N4 N6q
    have hv6 : (FPays s_PeriodRule_YES s_Permission_GIVEN (0 : Int32) s_Permission_GIVEN s_Permission_REFUSED) = (1 : Int32) := by unfold FPays; simp [hne1, hne2, hne3]
    refine Run.st (S' := T6.setTop (mkF m 46 #[.val (.int p0), .val (.int (0 : Int32)), .val (.ref s_PeriodRule_YES), .val (.int (0 : Int32)), .val (.int (FLim s_PeriodRule_YES s_PeriodRule_YES)), .unset] [(.ref s_PeriodRule_YES)])) (fun _ k => st6.trans (XS.ifNo X6.here hx rfl (hb hby at_42) rfl ((if0 _ _).trans (feq (show ¬ ((FPays s_PeriodRule_YES s_Permission_GIVEN (0 : Int32) s_Permission_GIVEN s_Permission_REFUSED) = (0 : Int32)) from (by rw [hv6]; decide))).1) (XS.aloadN X6.here hx rfl (hb hby at_45) rfl rfl k))) ?_
    obtain ⟨T7, X7, e7, st7⟩ := getS2 X6 hx hZ hown (host := "") (Or.inl (hw _ (List.mem_of_getElem? (i := 32) rfl))) Via.refl e6 S_s_Permission_REFUSED (g := (mkF m 46 #[.val (.int p0), .val (.int (0 : Int32)), .val (.ref s_PeriodRule_YES), .val (.int (0 : Int32)), .val (.int (FLim s_PeriodRule_YES s_PeriodRule_YES)), .unset] [(.ref s_PeriodRule_YES)])) rfl (hb hby at_46)
    refine Run.st (S' := T7.setTop (mkF m 49 #[.val (.int p0), .val (.int (0 : Int32)), .val (.ref s_PeriodRule_YES), .val (.int (0 : Int32)), .val (.int (FLim s_PeriodRule_YES s_PeriodRule_YES)), .unset] [(.ref s_Permission_REFUSED), (.ref s_PeriodRule_YES)])) (fun _ k => st7 _ k) ?_
    obtain ⟨cq8, kq8, q8a, q8b, q8c⟩ := isOf hZ e7 E_s_PeriodRule_YES
    obtain ⟨_, _, ⟨T8, L8, k8, n8⟩, -, X8, ⟨Lc8, hQ8, l8, y8, z8⟩, st8⟩ := X7.virtualBack hx (y := (⟨"com/example/quittance/quittance/PeriodRule", "pays", "(Lcom/example/quittance/quittance/Permission;)Z"⟩ : MethodName)) (z := (⟨"com/example/quittance/quittance/PeriodRule", "pays", "(Lcom/example/quittance/quittance/Permission;)Z"⟩ : MethodName)) hown (mvT hZ (hw _ (List.mem_of_getElem? (i := 16) rfl))) (mvT hZ (hw _ (List.mem_of_getElem? (i := 17) rfl))) (notFace_of_selects (args := #[]) (mvT hZ (hw _ (List.mem_of_getElem? (i := 19) rfl)))) (mvT hZ (hw _ (List.mem_of_getElem? (i := 19) rfl))) (mvT hZ (hw _ (List.mem_of_getElem? (i := 18) rfl))) (by decide) (backOf (W := 0) (rmPays l Z aV hw [] s_PeriodRule_YES s_Permission_REFUSED (0 : Int32) s_Permission_GIVEN s_Permission_REFUSED h0 n0 Zn (by decide) E_s_PeriodRule_YES F_s_PeriodRule_YES S_s_Permission_GIVEN S_s_Permission_REFUSED) hZ (hw _ (List.mem_of_getElem? (i := 20) rfl)) (hw _ (List.mem_of_getElem? (i := 5) rfl)) (by decide) (by decide)) q8a q8c (g := (mkF m 49 #[.val (.int p0), .val (.int (0 : Int32)), .val (.ref s_PeriodRule_YES), .val (.int (0 : Int32)), .val (.int (FLim s_PeriodRule_YES s_PeriodRule_YES)), .unset] [(.ref s_Permission_REFUSED), (.ref s_PeriodRule_YES)])) rfl (by rw [hml]; rfl) (Steps.refl _) (argsL := [(.ref s_Permission_REFUSED)]) (rest := []) (lenOf pd_3 rfl) rfl (by show 2 * 0 + _ ≤ _; exact Nat.le_of_eq rfl) (hb hby at_49) (fun _ _ => ⟨rfl, e7, (by decide : 0 + 0 ≤ _), (by decide : 0 + 0 ≤ _)⟩)
    dsimp only [Pt.U, Pt.locs, Pt.cells, Pt.slots] at X8 l8 y8 z8 st8 hQ8
    subst l8 y8 z8
    obtain ⟨rfl, N8q, e8⟩ := hQ8
    have N8 := Fr.app N6 N8q
    have hv8 : (FPays s_PeriodRule_YES s_Permission_REFUSED (0 : Int32) s_Permission_GIVEN s_Permission_REFUSED) = (1 : Int32) := by unfold FPays; simp [hne1, hne2, hne3]
    refine Run.st (S' := T8.setTop (mkF m 68 #[.val (.int p0), .val (.int (0 : Int32)), .val (.ref s_PeriodRule_YES), .val (.int (0 : Int32)), .val (.int (FLim s_PeriodRule_YES s_PeriodRule_YES)), .val (.int (1 : Int32))] [])) (fun _ k => st8.trans (XS.ifNo X8.here hx rfl (hb hby at_52) rfl ((if0 _ _).trans (feq (show ¬ ((FPays s_PeriodRule_YES s_Permission_REFUSED (0 : Int32) s_Permission_GIVEN s_Permission_REFUSED) = (0 : Int32)) from (by rw [hv8]; decide))).1) (XS.iconst X8.here hx rfl (hb hby at_55) (XS.goto X8.here hx rfl (pc0 := 56) (pc' := 60) rfl (hb hby at_56) (by decide) (by decide) (XS.istore X8.here hx rfl (hb hby at_60) rfl (l' := #[.val (.int p0), .val (.int (0 : Int32)), .val (.ref s_PeriodRule_YES), .val (.int (0 : Int32)), .val (.int (FLim s_PeriodRule_YES s_PeriodRule_YES)), .val (.int (1 : Int32))]) rfl (XS.iload X8.here hx rfl (hb hby at_62) rfl (XS.iloadN X8.here hx rfl (hb hby at_64) rfl (XS.icmpNo X8.here hx rfl (hb hby at_65) rfl (teq (show (FLim s_PeriodRule_YES s_PeriodRule_YES) = (0 : Int32) from hv2)).2 k)))))))) ?_
    refine Run.st (S' := T8.setTop (mkF m 88 #[.val (.int p0), .val (.int (0 : Int32)), .val (.ref s_PeriodRule_YES), .val (.int (0 : Int32)), .val (.int (FLim s_PeriodRule_YES s_PeriodRule_YES)), .val (.int (1 : Int32))] [(.int (1 : Int32))])) (fun _ k => XS.iload X8.here hx rfl (hb hby at_68) rfl (XS.iload X8.here hx rfl (hb hby at_70) rfl (XS.ifYes X8.here hx rfl (pc0 := 72) (pc' := 79) rfl (hb hby at_72) rfl ((if0 _ _).trans (feq (show ¬ ((1 : Int32) = (0 : Int32)) from (by decide))).2) (by decide) (by decide) (XS.iconst X8.here hx rfl (hb hby at_79) (XS.icmpNo X8.here hx rfl (hb hby at_80) rfl (teq (show (FLim s_PeriodRule_YES s_PeriodRule_YES) = (0 : Int32) from hv2)).2 (XS.iconst X8.here hx rfl (hb hby at_83) (XS.goto X8.here hx rfl (pc0 := 84) (pc' := 88) rfl (hb hby at_84) (by decide) (by decide) k))))))) ?_
    refine Run.out X8 hx Bd.notSynchronized Bd.returns rfl (Or.inl ⟨rfl, by simp, _, rfl⟩) (hb hby at_88) (by decide) (by decide) ?_
    rw [e8]
    exact ⟨rfl, N8⟩
  · refine Run.st (S' := s₁.setTop (mkF m 5 #[.val (.int p0), .val (.int (1 : Int32)), .unset, .unset, .unset, .unset] [(.int (1 : Int32))])) (fun _ k => XS.iloadN X0.here hx rfl (hb hby at_4) rfl k) ?_
    obtain ⟨_, _, ⟨T9, L9, k9, n9⟩, -, X9, ⟨Lc9, hQ9, l9, y9, z9⟩, st9⟩ := Jvm.LawKit.callS X0 hx (y := (⟨"com/example/quittance/quittance/PeriodRuleLimitsPinLaw", "pick", "(I)Lcom/example/quittance/quittance/PeriodRule;"⟩ : MethodName)) hown (mvT hZ (hw _ (List.mem_of_getElem? (i := 0) rfl))) (mvT hZ (hw _ (List.mem_of_getElem? (i := 1) rfl))) (mvT hZ (hw _ (List.mem_of_getElem? (i := 2) rfl))) (mvT hZ (hw _ (List.mem_of_getElem? (i := 3) rfl))) (by decide) (backOf (W := 0) (rmRule l Z aV hw [] (1 : Int32) s_PeriodRule_YES s_PeriodRule_NO s_PeriodRule_PERMISSION s_PeriodRule_NEGATIVE_PERMISSION h0 n0 Zn S_s_PeriodRule_YES S_s_PeriodRule_NO S_s_PeriodRule_PERMISSION S_s_PeriodRule_NEGATIVE_PERMISSION) hZ (hw _ (List.mem_of_getElem? (i := 3) rfl)) (hw _ (List.mem_of_getElem? (i := 2) rfl)) (by decide) (by decide)) (g := (mkF m 5 #[.val (.int p0), .val (.int (1 : Int32)), .unset, .unset, .unset, .unset] [(.int (1 : Int32))])) rfl (by rw [hml]; rfl) (argsL := [(.int (1 : Int32))]) (rest := []) (lenOf pd_1 rfl) rfl (by show 2 * 0 + _ ≤ _; exact Nat.le_of_eq rfl) (hb hby at_5) (fun _ _ => ⟨rfl, e0, (by decide : 0 + 0 ≤ _), (by decide : 0 + 0 ≤ _)⟩)
    dsimp only [Pt.U, Pt.locs, Pt.cells, Pt.slots] at X9 l9 y9 z9 st9 hQ9
    subst l9 y9 z9
    obtain ⟨rfl, N9q, e9⟩ := hQ9
    have N9 := Fr.app N0 N9q
    rw [show (FRule (1 : Int32) s_PeriodRule_YES s_PeriodRule_NO s_PeriodRule_PERMISSION s_PeriodRule_NEGATIVE_PERMISSION) = s_PeriodRule_NO from rfl] at st9
    refine Run.st (S' := T9.setTop (mkF m 20 #[.val (.int p0), .val (.int (1 : Int32)), .val (.ref s_PeriodRule_NO), .val (.int (1 : Int32)), .unset, .unset] [(.ref s_PeriodRule_NO)])) (fun _ k => st9 _ (XS.astoreN X9.here hx rfl (hb hby at_8) rfl rfl (l' := #[.val (.int p0), .val (.int (1 : Int32)), .val (.ref s_PeriodRule_NO), .unset, .unset, .unset]) rfl (XS.iloadN X9.here hx rfl (hb hby at_9) rfl (XS.ifNo X9.here hx rfl (hb hby at_10) rfl ((if0 _ _).trans (feq (show ¬ ((1 : Int32) = (0 : Int32)) from (by decide))).1) (XS.iconst X9.here hx rfl (hb hby at_13) (XS.goto X9.here hx rfl (pc0 := 14) (pc' := 18) rfl (hb hby at_14) (by decide) (by decide) (XS.istoreN X9.here hx rfl (hb hby at_18) rfl (l' := #[.val (.int p0), .val (.int (1 : Int32)), .val (.ref s_PeriodRule_NO), .val (.int (1 : Int32)), .unset, .unset]) rfl (XS.aloadN X9.here hx rfl (hb hby at_19) rfl rfl k)))))))) ?_
    obtain ⟨cq10, kq10, q10a, q10b, q10c⟩ := isOf hZ e9 E_s_PeriodRule_NO
    obtain ⟨_, _, ⟨T10, L10, k10, n10⟩, -, X10, ⟨Lc10, hQ10, l10, y10, z10⟩, st10⟩ := X9.virtualBack hx (y := (⟨"com/example/quittance/quittance/PeriodRule", "limits", "()Z"⟩ : MethodName)) (z := (⟨"com/example/quittance/quittance/PeriodRule", "limits", "()Z"⟩ : MethodName)) hown (mvT hZ (hw _ (List.mem_of_getElem? (i := 7) rfl))) (mvT hZ (hw _ (List.mem_of_getElem? (i := 8) rfl))) (notFace_of_selects (args := #[]) (mvT hZ (hw _ (List.mem_of_getElem? (i := 10) rfl)))) (mvT hZ (hw _ (List.mem_of_getElem? (i := 10) rfl))) (mvT hZ (hw _ (List.mem_of_getElem? (i := 9) rfl))) (by decide) (backOf (W := 0) (rmLim l Z aV hw [] s_PeriodRule_NO s_PeriodRule_YES h0 n0 Zn S_s_PeriodRule_YES) hZ (hw _ (List.mem_of_getElem? (i := 11) rfl)) (hw _ (List.mem_of_getElem? (i := 5) rfl)) (by decide) (by decide)) q10a q10c (g := (mkF m 20 #[.val (.int p0), .val (.int (1 : Int32)), .val (.ref s_PeriodRule_NO), .val (.int (1 : Int32)), .unset, .unset] [(.ref s_PeriodRule_NO)])) rfl (by rw [hml]; rfl) (Steps.refl _) (argsL := []) (rest := []) (lenOf pd_2 rfl) rfl (by show 2 * 0 + _ ≤ _; exact Nat.le_of_eq rfl) (hb hby at_20) (fun _ _ => ⟨rfl, e9, (by decide : 0 + 0 ≤ _), (by decide : 0 + 0 ≤ _)⟩)
    dsimp only [Pt.U, Pt.locs, Pt.cells, Pt.slots] at X10 l10 y10 z10 st10 hQ10
    subst l10 y10 z10
    obtain ⟨rfl, N10q, e10⟩ := hQ10
    have N10 := Fr.app N9 N10q
    have hv10 : (FLim s_PeriodRule_NO s_PeriodRule_YES) = (1 : Int32) := by unfold FLim; simp [hy1, hy2, hy3]
    refine Run.st (S' := T10.setTop (mkF m 26 #[.val (.int p0), .val (.int (1 : Int32)), .val (.ref s_PeriodRule_NO), .val (.int (1 : Int32)), .val (.int (FLim s_PeriodRule_NO s_PeriodRule_YES)), .unset] [(.ref s_PeriodRule_NO)])) (fun _ k => st10.trans (XS.istore X10.here hx rfl (hb hby at_23) rfl (l' := #[.val (.int p0), .val (.int (1 : Int32)), .val (.ref s_PeriodRule_NO), .val (.int (1 : Int32)), .val (.int (FLim s_PeriodRule_NO s_PeriodRule_YES)), .unset]) rfl (XS.aloadN X10.here hx rfl (hb hby at_25) rfl rfl k))) ?_
    obtain ⟨T11, X11, e11, st11⟩ := getS2 X10 hx hZ hown (host := "") (Or.inl (hw _ (List.mem_of_getElem? (i := 13) rfl))) Via.refl e10 S_s_Permission_NOT_STATED (g := (mkF m 26 #[.val (.int p0), .val (.int (1 : Int32)), .val (.ref s_PeriodRule_NO), .val (.int (1 : Int32)), .val (.int (FLim s_PeriodRule_NO s_PeriodRule_YES)), .unset] [(.ref s_PeriodRule_NO)])) rfl (hb hby at_26)
    refine Run.st (S' := T11.setTop (mkF m 29 #[.val (.int p0), .val (.int (1 : Int32)), .val (.ref s_PeriodRule_NO), .val (.int (1 : Int32)), .val (.int (FLim s_PeriodRule_NO s_PeriodRule_YES)), .unset] [(.ref s_Permission_NOT_STATED), (.ref s_PeriodRule_NO)])) (fun _ k => st11 _ k) ?_
    obtain ⟨cq12, kq12, q12a, q12b, q12c⟩ := isOf hZ e11 E_s_PeriodRule_NO
    obtain ⟨_, _, ⟨T12, L12, k12, n12⟩, -, X12, ⟨Lc12, hQ12, l12, y12, z12⟩, st12⟩ := X11.virtualBack hx (y := (⟨"com/example/quittance/quittance/PeriodRule", "pays", "(Lcom/example/quittance/quittance/Permission;)Z"⟩ : MethodName)) (z := (⟨"com/example/quittance/quittance/PeriodRule", "pays", "(Lcom/example/quittance/quittance/Permission;)Z"⟩ : MethodName)) hown (mvT hZ (hw _ (List.mem_of_getElem? (i := 16) rfl))) (mvT hZ (hw _ (List.mem_of_getElem? (i := 17) rfl))) (notFace_of_selects (args := #[]) (mvT hZ (hw _ (List.mem_of_getElem? (i := 19) rfl)))) (mvT hZ (hw _ (List.mem_of_getElem? (i := 19) rfl))) (mvT hZ (hw _ (List.mem_of_getElem? (i := 18) rfl))) (by decide) (backOf (W := 0) (rmPays l Z aV hw [] s_PeriodRule_NO s_Permission_NOT_STATED (1 : Int32) s_Permission_GIVEN s_Permission_REFUSED h0 n0 Zn (by decide) E_s_PeriodRule_NO F_s_PeriodRule_NO S_s_Permission_GIVEN S_s_Permission_REFUSED) hZ (hw _ (List.mem_of_getElem? (i := 20) rfl)) (hw _ (List.mem_of_getElem? (i := 5) rfl)) (by decide) (by decide)) q12a q12c (g := (mkF m 29 #[.val (.int p0), .val (.int (1 : Int32)), .val (.ref s_PeriodRule_NO), .val (.int (1 : Int32)), .val (.int (FLim s_PeriodRule_NO s_PeriodRule_YES)), .unset] [(.ref s_Permission_NOT_STATED), (.ref s_PeriodRule_NO)])) rfl (by rw [hml]; rfl) (Steps.refl _) (argsL := [(.ref s_Permission_NOT_STATED)]) (rest := []) (lenOf pd_3 rfl) rfl (by show 2 * 0 + _ ≤ _; exact Nat.le_of_eq rfl) (hb hby at_29) (fun _ _ => ⟨rfl, e11, (by decide : 0 + 0 ≤ _), (by decide : 0 + 0 ≤ _)⟩)
    dsimp only [Pt.U, Pt.locs, Pt.cells, Pt.slots] at X12 l12 y12 z12 st12 hQ12
    subst l12 y12 z12
    obtain ⟨rfl, N12q, e12⟩ := hQ12
    have N12 := Fr.app N10 N12q
    have hv12 : (FPays s_PeriodRule_NO s_Permission_NOT_STATED (1 : Int32) s_Permission_GIVEN s_Permission_REFUSED) = (0 : Int32) := by unfold FPays; simp [hne1, hne2, hne3]
    refine Run.st (S' := T12.setTop (mkF m 70 #[.val (.int p0), .val (.int (1 : Int32)), .val (.ref s_PeriodRule_NO), .val (.int (1 : Int32)), .val (.int (FLim s_PeriodRule_NO s_PeriodRule_YES)), .val (.int (0 : Int32))] [(.int (FLim s_PeriodRule_NO s_PeriodRule_YES))])) (fun _ k => st12.trans (XS.ifYes X12.here hx rfl (pc0 := 32) (pc' := 59) rfl (hb hby at_32) rfl ((if0 _ _).trans (teq (show (FPays s_PeriodRule_NO s_Permission_NOT_STATED (1 : Int32) s_Permission_GIVEN s_Permission_REFUSED) = (0 : Int32) from hv12)).1) (by decide) (by decide) (XS.iconst X12.here hx rfl (hb hby at_59) (XS.istore X12.here hx rfl (hb hby at_60) rfl (l' := #[.val (.int p0), .val (.int (1 : Int32)), .val (.ref s_PeriodRule_NO), .val (.int (1 : Int32)), .val (.int (FLim s_PeriodRule_NO s_PeriodRule_YES)), .val (.int (0 : Int32))]) rfl (XS.iload X12.here hx rfl (hb hby at_62) rfl (XS.iloadN X12.here hx rfl (hb hby at_64) rfl (XS.icmpNo X12.here hx rfl (hb hby at_65) rfl (teq (show (FLim s_PeriodRule_NO s_PeriodRule_YES) = (1 : Int32) from hv10)).2 (XS.iload X12.here hx rfl (hb hby at_68) rfl k)))))))) ?_
    refine Run.st (S' := T12.setTop (mkF m 88 #[.val (.int p0), .val (.int (1 : Int32)), .val (.ref s_PeriodRule_NO), .val (.int (1 : Int32)), .val (.int (FLim s_PeriodRule_NO s_PeriodRule_YES)), .val (.int (0 : Int32))] [(.int (1 : Int32))])) (fun _ k => XS.iload X12.here hx rfl (hb hby at_70) rfl (XS.ifNo X12.here hx rfl (hb hby at_72) rfl ((if0 _ _).trans (teq (show (0 : Int32) = (0 : Int32) from (by decide))).2) (XS.iconst X12.here hx rfl (hb hby at_75) (XS.goto X12.here hx rfl (pc0 := 76) (pc' := 80) rfl (hb hby at_76) (by decide) (by decide) (XS.icmpNo X12.here hx rfl (hb hby at_80) rfl (teq (show (FLim s_PeriodRule_NO s_PeriodRule_YES) = (1 : Int32) from hv10)).2 (XS.iconst X12.here hx rfl (hb hby at_83) (XS.goto X12.here hx rfl (pc0 := 84) (pc' := 88) rfl (hb hby at_84) (by decide) (by decide) k))))))) ?_
    refine Run.out X12 hx Bd.notSynchronized Bd.returns rfl (Or.inl ⟨rfl, by simp, _, rfl⟩) (hb hby at_88) (by decide) (by decide) ?_
    rw [e12]
    exact ⟨rfl, N12⟩
  · refine Run.st (S' := s₁.setTop (mkF m 5 #[.val (.int p0), .val (.int (2 : Int32)), .unset, .unset, .unset, .unset] [(.int (2 : Int32))])) (fun _ k => XS.iloadN X0.here hx rfl (hb hby at_4) rfl k) ?_
    obtain ⟨_, _, ⟨T13, L13, k13, n13⟩, -, X13, ⟨Lc13, hQ13, l13, y13, z13⟩, st13⟩ := Jvm.LawKit.callS X0 hx (y := (⟨"com/example/quittance/quittance/PeriodRuleLimitsPinLaw", "pick", "(I)Lcom/example/quittance/quittance/PeriodRule;"⟩ : MethodName)) hown (mvT hZ (hw _ (List.mem_of_getElem? (i := 0) rfl))) (mvT hZ (hw _ (List.mem_of_getElem? (i := 1) rfl))) (mvT hZ (hw _ (List.mem_of_getElem? (i := 2) rfl))) (mvT hZ (hw _ (List.mem_of_getElem? (i := 3) rfl))) (by decide) (backOf (W := 0) (rmRule l Z aV hw [] (2 : Int32) s_PeriodRule_YES s_PeriodRule_NO s_PeriodRule_PERMISSION s_PeriodRule_NEGATIVE_PERMISSION h0 n0 Zn S_s_PeriodRule_YES S_s_PeriodRule_NO S_s_PeriodRule_PERMISSION S_s_PeriodRule_NEGATIVE_PERMISSION) hZ (hw _ (List.mem_of_getElem? (i := 3) rfl)) (hw _ (List.mem_of_getElem? (i := 2) rfl)) (by decide) (by decide)) (g := (mkF m 5 #[.val (.int p0), .val (.int (2 : Int32)), .unset, .unset, .unset, .unset] [(.int (2 : Int32))])) rfl (by rw [hml]; rfl) (argsL := [(.int (2 : Int32))]) (rest := []) (lenOf pd_1 rfl) rfl (by show 2 * 0 + _ ≤ _; exact Nat.le_of_eq rfl) (hb hby at_5) (fun _ _ => ⟨rfl, e0, (by decide : 0 + 0 ≤ _), (by decide : 0 + 0 ≤ _)⟩)
    dsimp only [Pt.U, Pt.locs, Pt.cells, Pt.slots] at X13 l13 y13 z13 st13 hQ13
    subst l13 y13 z13
    obtain ⟨rfl, N13q, e13⟩ := hQ13
    have N13 := Fr.app N0 N13q
    rw [show (FRule (2 : Int32) s_PeriodRule_YES s_PeriodRule_NO s_PeriodRule_PERMISSION s_PeriodRule_NEGATIVE_PERMISSION) = s_PeriodRule_PERMISSION from rfl] at st13
    refine Run.st (S' := T13.setTop (mkF m 20 #[.val (.int p0), .val (.int (2 : Int32)), .val (.ref s_PeriodRule_PERMISSION), .val (.int (1 : Int32)), .unset, .unset] [(.ref s_PeriodRule_PERMISSION)])) (fun _ k => st13 _ (XS.astoreN X13.here hx rfl (hb hby at_8) rfl rfl (l' := #[.val (.int p0), .val (.int (2 : Int32)), .val (.ref s_PeriodRule_PERMISSION), .unset, .unset, .unset]) rfl (XS.iloadN X13.here hx rfl (hb hby at_9) rfl (XS.ifNo X13.here hx rfl (hb hby at_10) rfl ((if0 _ _).trans (feq (show ¬ ((2 : Int32) = (0 : Int32)) from (by decide))).1) (XS.iconst X13.here hx rfl (hb hby at_13) (XS.goto X13.here hx rfl (pc0 := 14) (pc' := 18) rfl (hb hby at_14) (by decide) (by decide) (XS.istoreN X13.here hx rfl (hb hby at_18) rfl (l' := #[.val (.int p0), .val (.int (2 : Int32)), .val (.ref s_PeriodRule_PERMISSION), .val (.int (1 : Int32)), .unset, .unset]) rfl (XS.aloadN X13.here hx rfl (hb hby at_19) rfl rfl k)))))))) ?_
    obtain ⟨cq14, kq14, q14a, q14b, q14c⟩ := isOf hZ e13 E_s_PeriodRule_PERMISSION
    obtain ⟨_, _, ⟨T14, L14, k14, n14⟩, -, X14, ⟨Lc14, hQ14, l14, y14, z14⟩, st14⟩ := X13.virtualBack hx (y := (⟨"com/example/quittance/quittance/PeriodRule", "limits", "()Z"⟩ : MethodName)) (z := (⟨"com/example/quittance/quittance/PeriodRule", "limits", "()Z"⟩ : MethodName)) hown (mvT hZ (hw _ (List.mem_of_getElem? (i := 7) rfl))) (mvT hZ (hw _ (List.mem_of_getElem? (i := 8) rfl))) (notFace_of_selects (args := #[]) (mvT hZ (hw _ (List.mem_of_getElem? (i := 10) rfl)))) (mvT hZ (hw _ (List.mem_of_getElem? (i := 10) rfl))) (mvT hZ (hw _ (List.mem_of_getElem? (i := 9) rfl))) (by decide) (backOf (W := 0) (rmLim l Z aV hw [] s_PeriodRule_PERMISSION s_PeriodRule_YES h0 n0 Zn S_s_PeriodRule_YES) hZ (hw _ (List.mem_of_getElem? (i := 11) rfl)) (hw _ (List.mem_of_getElem? (i := 5) rfl)) (by decide) (by decide)) q14a q14c (g := (mkF m 20 #[.val (.int p0), .val (.int (2 : Int32)), .val (.ref s_PeriodRule_PERMISSION), .val (.int (1 : Int32)), .unset, .unset] [(.ref s_PeriodRule_PERMISSION)])) rfl (by rw [hml]; rfl) (Steps.refl _) (argsL := []) (rest := []) (lenOf pd_2 rfl) rfl (by show 2 * 0 + _ ≤ _; exact Nat.le_of_eq rfl) (hb hby at_20) (fun _ _ => ⟨rfl, e13, (by decide : 0 + 0 ≤ _), (by decide : 0 + 0 ≤ _)⟩)
    dsimp only [Pt.U, Pt.locs, Pt.cells, Pt.slots] at X14 l14 y14 z14 st14 hQ14
    subst l14 y14 z14
    obtain ⟨rfl, N14q, e14⟩ := hQ14
    have N14 := Fr.app N13 N14q
    have hv14 : (FLim s_PeriodRule_PERMISSION s_PeriodRule_YES) = (1 : Int32) := by unfold FLim; simp [hy1, hy2, hy3]
    refine Run.st (S' := T14.setTop (mkF m 26 #[.val (.int p0), .val (.int (2 : Int32)), .val (.ref s_PeriodRule_PERMISSION), .val (.int (1 : Int32)), .val (.int (FLim s_PeriodRule_PERMISSION s_PeriodRule_YES)), .unset] [(.ref s_PeriodRule_PERMISSION)])) (fun _ k => st14.trans (XS.istore X14.here hx rfl (hb hby at_23) rfl (l' := #[.val (.int p0), .val (.int (2 : Int32)), .val (.ref s_PeriodRule_PERMISSION), .val (.int (1 : Int32)), .val (.int (FLim s_PeriodRule_PERMISSION s_PeriodRule_YES)), .unset]) rfl (XS.aloadN X14.here hx rfl (hb hby at_25) rfl rfl k))) ?_
    obtain ⟨T15, X15, e15, st15⟩ := getS2 X14 hx hZ hown (host := "") (Or.inl (hw _ (List.mem_of_getElem? (i := 13) rfl))) Via.refl e14 S_s_Permission_NOT_STATED (g := (mkF m 26 #[.val (.int p0), .val (.int (2 : Int32)), .val (.ref s_PeriodRule_PERMISSION), .val (.int (1 : Int32)), .val (.int (FLim s_PeriodRule_PERMISSION s_PeriodRule_YES)), .unset] [(.ref s_PeriodRule_PERMISSION)])) rfl (hb hby at_26)
    refine Run.st (S' := T15.setTop (mkF m 29 #[.val (.int p0), .val (.int (2 : Int32)), .val (.ref s_PeriodRule_PERMISSION), .val (.int (1 : Int32)), .val (.int (FLim s_PeriodRule_PERMISSION s_PeriodRule_YES)), .unset] [(.ref s_Permission_NOT_STATED), (.ref s_PeriodRule_PERMISSION)])) (fun _ k => st15 _ k) ?_
    obtain ⟨cq16, kq16, q16a, q16b, q16c⟩ := isOf hZ e15 E_s_PeriodRule_PERMISSION
    obtain ⟨_, _, ⟨T16, L16, k16, n16⟩, -, X16, ⟨Lc16, hQ16, l16, y16, z16⟩, st16⟩ := X15.virtualBack hx (y := (⟨"com/example/quittance/quittance/PeriodRule", "pays", "(Lcom/example/quittance/quittance/Permission;)Z"⟩ : MethodName)) (z := (⟨"com/example/quittance/quittance/PeriodRule", "pays", "(Lcom/example/quittance/quittance/Permission;)Z"⟩ : MethodName)) hown (mvT hZ (hw _ (List.mem_of_getElem? (i := 16) rfl))) (mvT hZ (hw _ (List.mem_of_getElem? (i := 17) rfl))) (notFace_of_selects (args := #[]) (mvT hZ (hw _ (List.mem_of_getElem? (i := 19) rfl)))) (mvT hZ (hw _ (List.mem_of_getElem? (i := 19) rfl))) (mvT hZ (hw _ (List.mem_of_getElem? (i := 18) rfl))) (by decide) (backOf (W := 0) (rmPays l Z aV hw [] s_PeriodRule_PERMISSION s_Permission_NOT_STATED (2 : Int32) s_Permission_GIVEN s_Permission_REFUSED h0 n0 Zn (by decide) E_s_PeriodRule_PERMISSION F_s_PeriodRule_PERMISSION S_s_Permission_GIVEN S_s_Permission_REFUSED) hZ (hw _ (List.mem_of_getElem? (i := 20) rfl)) (hw _ (List.mem_of_getElem? (i := 5) rfl)) (by decide) (by decide)) q16a q16c (g := (mkF m 29 #[.val (.int p0), .val (.int (2 : Int32)), .val (.ref s_PeriodRule_PERMISSION), .val (.int (1 : Int32)), .val (.int (FLim s_PeriodRule_PERMISSION s_PeriodRule_YES)), .unset] [(.ref s_Permission_NOT_STATED), (.ref s_PeriodRule_PERMISSION)])) rfl (by rw [hml]; rfl) (Steps.refl _) (argsL := [(.ref s_Permission_NOT_STATED)]) (rest := []) (lenOf pd_3 rfl) rfl (by show 2 * 0 + _ ≤ _; exact Nat.le_of_eq rfl) (hb hby at_29) (fun _ _ => ⟨rfl, e15, (by decide : 0 + 0 ≤ _), (by decide : 0 + 0 ≤ _)⟩)
    dsimp only [Pt.U, Pt.locs, Pt.cells, Pt.slots] at X16 l16 y16 z16 st16 hQ16
    subst l16 y16 z16
    obtain ⟨rfl, N16q, e16⟩ := hQ16
    have N16 := Fr.app N14 N16q
    have hv16 : (FPays s_PeriodRule_PERMISSION s_Permission_NOT_STATED (2 : Int32) s_Permission_GIVEN s_Permission_REFUSED) = (0 : Int32) := by unfold FPays; simp [hne1, hne2, hne3]
    refine Run.st (S' := T16.setTop (mkF m 70 #[.val (.int p0), .val (.int (2 : Int32)), .val (.ref s_PeriodRule_PERMISSION), .val (.int (1 : Int32)), .val (.int (FLim s_PeriodRule_PERMISSION s_PeriodRule_YES)), .val (.int (0 : Int32))] [(.int (FLim s_PeriodRule_PERMISSION s_PeriodRule_YES))])) (fun _ k => st16.trans (XS.ifYes X16.here hx rfl (pc0 := 32) (pc' := 59) rfl (hb hby at_32) rfl ((if0 _ _).trans (teq (show (FPays s_PeriodRule_PERMISSION s_Permission_NOT_STATED (2 : Int32) s_Permission_GIVEN s_Permission_REFUSED) = (0 : Int32) from hv16)).1) (by decide) (by decide) (XS.iconst X16.here hx rfl (hb hby at_59) (XS.istore X16.here hx rfl (hb hby at_60) rfl (l' := #[.val (.int p0), .val (.int (2 : Int32)), .val (.ref s_PeriodRule_PERMISSION), .val (.int (1 : Int32)), .val (.int (FLim s_PeriodRule_PERMISSION s_PeriodRule_YES)), .val (.int (0 : Int32))]) rfl (XS.iload X16.here hx rfl (hb hby at_62) rfl (XS.iloadN X16.here hx rfl (hb hby at_64) rfl (XS.icmpNo X16.here hx rfl (hb hby at_65) rfl (teq (show (FLim s_PeriodRule_PERMISSION s_PeriodRule_YES) = (1 : Int32) from hv14)).2 (XS.iload X16.here hx rfl (hb hby at_68) rfl k)))))))) ?_
    refine Run.st (S' := T16.setTop (mkF m 88 #[.val (.int p0), .val (.int (2 : Int32)), .val (.ref s_PeriodRule_PERMISSION), .val (.int (1 : Int32)), .val (.int (FLim s_PeriodRule_PERMISSION s_PeriodRule_YES)), .val (.int (0 : Int32))] [(.int (1 : Int32))])) (fun _ k => XS.iload X16.here hx rfl (hb hby at_70) rfl (XS.ifNo X16.here hx rfl (hb hby at_72) rfl ((if0 _ _).trans (teq (show (0 : Int32) = (0 : Int32) from (by decide))).2) (XS.iconst X16.here hx rfl (hb hby at_75) (XS.goto X16.here hx rfl (pc0 := 76) (pc' := 80) rfl (hb hby at_76) (by decide) (by decide) (XS.icmpNo X16.here hx rfl (hb hby at_80) rfl (teq (show (FLim s_PeriodRule_PERMISSION s_PeriodRule_YES) = (1 : Int32) from hv14)).2 (XS.iconst X16.here hx rfl (hb hby at_83) (XS.goto X16.here hx rfl (pc0 := 84) (pc' := 88) rfl (hb hby at_84) (by decide) (by decide) k))))))) ?_
    refine Run.out X16 hx Bd.notSynchronized Bd.returns rfl (Or.inl ⟨rfl, by simp, _, rfl⟩) (hb hby at_88) (by decide) (by decide) ?_
    rw [e16]
    exact ⟨rfl, N16⟩
  · refine Run.st (S' := s₁.setTop (mkF m 5 #[.val (.int p0), .val (.int (3 : Int32)), .unset, .unset, .unset, .unset] [(.int (3 : Int32))])) (fun _ k => XS.iloadN X0.here hx rfl (hb hby at_4) rfl k) ?_
    obtain ⟨_, _, ⟨T17, L17, k17, n17⟩, -, X17, ⟨Lc17, hQ17, l17, y17, z17⟩, st17⟩ := Jvm.LawKit.callS X0 hx (y := (⟨"com/example/quittance/quittance/PeriodRuleLimitsPinLaw", "pick", "(I)Lcom/example/quittance/quittance/PeriodRule;"⟩ : MethodName)) hown (mvT hZ (hw _ (List.mem_of_getElem? (i := 0) rfl))) (mvT hZ (hw _ (List.mem_of_getElem? (i := 1) rfl))) (mvT hZ (hw _ (List.mem_of_getElem? (i := 2) rfl))) (mvT hZ (hw _ (List.mem_of_getElem? (i := 3) rfl))) (by decide) (backOf (W := 0) (rmRule l Z aV hw [] (3 : Int32) s_PeriodRule_YES s_PeriodRule_NO s_PeriodRule_PERMISSION s_PeriodRule_NEGATIVE_PERMISSION h0 n0 Zn S_s_PeriodRule_YES S_s_PeriodRule_NO S_s_PeriodRule_PERMISSION S_s_PeriodRule_NEGATIVE_PERMISSION) hZ (hw _ (List.mem_of_getElem? (i := 3) rfl)) (hw _ (List.mem_of_getElem? (i := 2) rfl)) (by decide) (by decide)) (g := (mkF m 5 #[.val (.int p0), .val (.int (3 : Int32)), .unset, .unset, .unset, .unset] [(.int (3 : Int32))])) rfl (by rw [hml]; rfl) (argsL := [(.int (3 : Int32))]) (rest := []) (lenOf pd_1 rfl) rfl (by show 2 * 0 + _ ≤ _; exact Nat.le_of_eq rfl) (hb hby at_5) (fun _ _ => ⟨rfl, e0, (by decide : 0 + 0 ≤ _), (by decide : 0 + 0 ≤ _)⟩)
    dsimp only [Pt.U, Pt.locs, Pt.cells, Pt.slots] at X17 l17 y17 z17 st17 hQ17
    subst l17 y17 z17
    obtain ⟨rfl, N17q, e17⟩ := hQ17
    have N17 := Fr.app N0 N17q
    rw [show (FRule (3 : Int32) s_PeriodRule_YES s_PeriodRule_NO s_PeriodRule_PERMISSION s_PeriodRule_NEGATIVE_PERMISSION) = s_PeriodRule_NEGATIVE_PERMISSION from rfl] at st17
    refine Run.st (S' := T17.setTop (mkF m 20 #[.val (.int p0), .val (.int (3 : Int32)), .val (.ref s_PeriodRule_NEGATIVE_PERMISSION), .val (.int (1 : Int32)), .unset, .unset] [(.ref s_PeriodRule_NEGATIVE_PERMISSION)])) (fun _ k => st17 _ (XS.astoreN X17.here hx rfl (hb hby at_8) rfl rfl (l' := #[.val (.int p0), .val (.int (3 : Int32)), .val (.ref s_PeriodRule_NEGATIVE_PERMISSION), .unset, .unset, .unset]) rfl (XS.iloadN X17.here hx rfl (hb hby at_9) rfl (XS.ifNo X17.here hx rfl (hb hby at_10) rfl ((if0 _ _).trans (feq (show ¬ ((3 : Int32) = (0 : Int32)) from (by decide))).1) (XS.iconst X17.here hx rfl (hb hby at_13) (XS.goto X17.here hx rfl (pc0 := 14) (pc' := 18) rfl (hb hby at_14) (by decide) (by decide) (XS.istoreN X17.here hx rfl (hb hby at_18) rfl (l' := #[.val (.int p0), .val (.int (3 : Int32)), .val (.ref s_PeriodRule_NEGATIVE_PERMISSION), .val (.int (1 : Int32)), .unset, .unset]) rfl (XS.aloadN X17.here hx rfl (hb hby at_19) rfl rfl k)))))))) ?_
    obtain ⟨cq18, kq18, q18a, q18b, q18c⟩ := isOf hZ e17 E_s_PeriodRule_NEGATIVE_PERMISSION
    obtain ⟨_, _, ⟨T18, L18, k18, n18⟩, -, X18, ⟨Lc18, hQ18, l18, y18, z18⟩, st18⟩ := X17.virtualBack hx (y := (⟨"com/example/quittance/quittance/PeriodRule", "limits", "()Z"⟩ : MethodName)) (z := (⟨"com/example/quittance/quittance/PeriodRule", "limits", "()Z"⟩ : MethodName)) hown (mvT hZ (hw _ (List.mem_of_getElem? (i := 7) rfl))) (mvT hZ (hw _ (List.mem_of_getElem? (i := 8) rfl))) (notFace_of_selects (args := #[]) (mvT hZ (hw _ (List.mem_of_getElem? (i := 10) rfl)))) (mvT hZ (hw _ (List.mem_of_getElem? (i := 10) rfl))) (mvT hZ (hw _ (List.mem_of_getElem? (i := 9) rfl))) (by decide) (backOf (W := 0) (rmLim l Z aV hw [] s_PeriodRule_NEGATIVE_PERMISSION s_PeriodRule_YES h0 n0 Zn S_s_PeriodRule_YES) hZ (hw _ (List.mem_of_getElem? (i := 11) rfl)) (hw _ (List.mem_of_getElem? (i := 5) rfl)) (by decide) (by decide)) q18a q18c (g := (mkF m 20 #[.val (.int p0), .val (.int (3 : Int32)), .val (.ref s_PeriodRule_NEGATIVE_PERMISSION), .val (.int (1 : Int32)), .unset, .unset] [(.ref s_PeriodRule_NEGATIVE_PERMISSION)])) rfl (by rw [hml]; rfl) (Steps.refl _) (argsL := []) (rest := []) (lenOf pd_2 rfl) rfl (by show 2 * 0 + _ ≤ _; exact Nat.le_of_eq rfl) (hb hby at_20) (fun _ _ => ⟨rfl, e17, (by decide : 0 + 0 ≤ _), (by decide : 0 + 0 ≤ _)⟩)
    dsimp only [Pt.U, Pt.locs, Pt.cells, Pt.slots] at X18 l18 y18 z18 st18 hQ18
    subst l18 y18 z18
    obtain ⟨rfl, N18q, e18⟩ := hQ18
    have N18 := Fr.app N17 N18q
    have hv18 : (FLim s_PeriodRule_NEGATIVE_PERMISSION s_PeriodRule_YES) = (1 : Int32) := by unfold FLim; simp [hy1, hy2, hy3]
    refine Run.st (S' := T18.setTop (mkF m 26 #[.val (.int p0), .val (.int (3 : Int32)), .val (.ref s_PeriodRule_NEGATIVE_PERMISSION), .val (.int (1 : Int32)), .val (.int (FLim s_PeriodRule_NEGATIVE_PERMISSION s_PeriodRule_YES)), .unset] [(.ref s_PeriodRule_NEGATIVE_PERMISSION)])) (fun _ k => st18.trans (XS.istore X18.here hx rfl (hb hby at_23) rfl (l' := #[.val (.int p0), .val (.int (3 : Int32)), .val (.ref s_PeriodRule_NEGATIVE_PERMISSION), .val (.int (1 : Int32)), .val (.int (FLim s_PeriodRule_NEGATIVE_PERMISSION s_PeriodRule_YES)), .unset]) rfl (XS.aloadN X18.here hx rfl (hb hby at_25) rfl rfl k))) ?_
    obtain ⟨T19, X19, e19, st19⟩ := getS2 X18 hx hZ hown (host := "") (Or.inl (hw _ (List.mem_of_getElem? (i := 13) rfl))) Via.refl e18 S_s_Permission_NOT_STATED (g := (mkF m 26 #[.val (.int p0), .val (.int (3 : Int32)), .val (.ref s_PeriodRule_NEGATIVE_PERMISSION), .val (.int (1 : Int32)), .val (.int (FLim s_PeriodRule_NEGATIVE_PERMISSION s_PeriodRule_YES)), .unset] [(.ref s_PeriodRule_NEGATIVE_PERMISSION)])) rfl (hb hby at_26)
    refine Run.st (S' := T19.setTop (mkF m 29 #[.val (.int p0), .val (.int (3 : Int32)), .val (.ref s_PeriodRule_NEGATIVE_PERMISSION), .val (.int (1 : Int32)), .val (.int (FLim s_PeriodRule_NEGATIVE_PERMISSION s_PeriodRule_YES)), .unset] [(.ref s_Permission_NOT_STATED), (.ref s_PeriodRule_NEGATIVE_PERMISSION)])) (fun _ k => st19 _ k) ?_
    obtain ⟨cq20, kq20, q20a, q20b, q20c⟩ := isOf hZ e19 E_s_PeriodRule_NEGATIVE_PERMISSION
    obtain ⟨_, _, ⟨T20, L20, k20, n20⟩, -, X20, ⟨Lc20, hQ20, l20, y20, z20⟩, st20⟩ := X19.virtualBack hx (y := (⟨"com/example/quittance/quittance/PeriodRule", "pays", "(Lcom/example/quittance/quittance/Permission;)Z"⟩ : MethodName)) (z := (⟨"com/example/quittance/quittance/PeriodRule", "pays", "(Lcom/example/quittance/quittance/Permission;)Z"⟩ : MethodName)) hown (mvT hZ (hw _ (List.mem_of_getElem? (i := 16) rfl))) (mvT hZ (hw _ (List.mem_of_getElem? (i := 17) rfl))) (notFace_of_selects (args := #[]) (mvT hZ (hw _ (List.mem_of_getElem? (i := 19) rfl)))) (mvT hZ (hw _ (List.mem_of_getElem? (i := 19) rfl))) (mvT hZ (hw _ (List.mem_of_getElem? (i := 18) rfl))) (by decide) (backOf (W := 0) (rmPays l Z aV hw [] s_PeriodRule_NEGATIVE_PERMISSION s_Permission_NOT_STATED (3 : Int32) s_Permission_GIVEN s_Permission_REFUSED h0 n0 Zn (by decide) E_s_PeriodRule_NEGATIVE_PERMISSION F_s_PeriodRule_NEGATIVE_PERMISSION S_s_Permission_GIVEN S_s_Permission_REFUSED) hZ (hw _ (List.mem_of_getElem? (i := 20) rfl)) (hw _ (List.mem_of_getElem? (i := 5) rfl)) (by decide) (by decide)) q20a q20c (g := (mkF m 29 #[.val (.int p0), .val (.int (3 : Int32)), .val (.ref s_PeriodRule_NEGATIVE_PERMISSION), .val (.int (1 : Int32)), .val (.int (FLim s_PeriodRule_NEGATIVE_PERMISSION s_PeriodRule_YES)), .unset] [(.ref s_Permission_NOT_STATED), (.ref s_PeriodRule_NEGATIVE_PERMISSION)])) rfl (by rw [hml]; rfl) (Steps.refl _) (argsL := [(.ref s_Permission_NOT_STATED)]) (rest := []) (lenOf pd_3 rfl) rfl (by show 2 * 0 + _ ≤ _; exact Nat.le_of_eq rfl) (hb hby at_29) (fun _ _ => ⟨rfl, e19, (by decide : 0 + 0 ≤ _), (by decide : 0 + 0 ≤ _)⟩)
    dsimp only [Pt.U, Pt.locs, Pt.cells, Pt.slots] at X20 l20 y20 z20 st20 hQ20
    subst l20 y20 z20
    obtain ⟨rfl, N20q, e20⟩ := hQ20
    have N20 := Fr.app N18 N20q
    have hv20 : (FPays s_PeriodRule_NEGATIVE_PERMISSION s_Permission_NOT_STATED (3 : Int32) s_Permission_GIVEN s_Permission_REFUSED) = (1 : Int32) := by unfold FPays; simp [hne1, hne2, hne3]
    refine Run.st (S' := T20.setTop (mkF m 36 #[.val (.int p0), .val (.int (3 : Int32)), .val (.ref s_PeriodRule_NEGATIVE_PERMISSION), .val (.int (1 : Int32)), .val (.int (FLim s_PeriodRule_NEGATIVE_PERMISSION s_PeriodRule_YES)), .unset] [(.ref s_PeriodRule_NEGATIVE_PERMISSION)])) (fun _ k => st20.trans (XS.ifNo X20.here hx rfl (hb hby at_32) rfl ((if0 _ _).trans (feq (show ¬ ((FPays s_PeriodRule_NEGATIVE_PERMISSION s_Permission_NOT_STATED (3 : Int32) s_Permission_GIVEN s_Permission_REFUSED) = (0 : Int32)) from (by rw [hv20]; decide))).1) (XS.aloadN X20.here hx rfl (hb hby at_35) rfl rfl k))) ?_
    obtain ⟨T21, X21, e21, st21⟩ := getS2 X20 hx hZ hown (host := "") (Or.inl (hw _ (List.mem_of_getElem? (i := 30) rfl))) Via.refl e20 S_s_Permission_GIVEN (g := (mkF m 36 #[.val (.int p0), .val (.int (3 : Int32)), .val (.ref s_PeriodRule_NEGATIVE_PERMISSION), .val (.int (1 : Int32)), .val (.int (FLim s_PeriodRule_NEGATIVE_PERMISSION s_PeriodRule_YES)), .unset] [(.ref s_PeriodRule_NEGATIVE_PERMISSION)])) rfl (hb hby at_36)
    refine Run.st (S' := T21.setTop (mkF m 39 #[.val (.int p0), .val (.int (3 : Int32)), .val (.ref s_PeriodRule_NEGATIVE_PERMISSION), .val (.int (1 : Int32)), .val (.int (FLim s_PeriodRule_NEGATIVE_PERMISSION s_PeriodRule_YES)), .unset] [(.ref s_Permission_GIVEN), (.ref s_PeriodRule_NEGATIVE_PERMISSION)])) (fun _ k => st21 _ k) ?_
    obtain ⟨cq22, kq22, q22a, q22b, q22c⟩ := isOf hZ e21 E_s_PeriodRule_NEGATIVE_PERMISSION
    obtain ⟨_, _, ⟨T22, L22, k22, n22⟩, -, X22, ⟨Lc22, hQ22, l22, y22, z22⟩, st22⟩ := X21.virtualBack hx (y := (⟨"com/example/quittance/quittance/PeriodRule", "pays", "(Lcom/example/quittance/quittance/Permission;)Z"⟩ : MethodName)) (z := (⟨"com/example/quittance/quittance/PeriodRule", "pays", "(Lcom/example/quittance/quittance/Permission;)Z"⟩ : MethodName)) hown (mvT hZ (hw _ (List.mem_of_getElem? (i := 16) rfl))) (mvT hZ (hw _ (List.mem_of_getElem? (i := 17) rfl))) (notFace_of_selects (args := #[]) (mvT hZ (hw _ (List.mem_of_getElem? (i := 19) rfl)))) (mvT hZ (hw _ (List.mem_of_getElem? (i := 19) rfl))) (mvT hZ (hw _ (List.mem_of_getElem? (i := 18) rfl))) (by decide) (backOf (W := 0) (rmPays l Z aV hw [] s_PeriodRule_NEGATIVE_PERMISSION s_Permission_GIVEN (3 : Int32) s_Permission_GIVEN s_Permission_REFUSED h0 n0 Zn (by decide) E_s_PeriodRule_NEGATIVE_PERMISSION F_s_PeriodRule_NEGATIVE_PERMISSION S_s_Permission_GIVEN S_s_Permission_REFUSED) hZ (hw _ (List.mem_of_getElem? (i := 20) rfl)) (hw _ (List.mem_of_getElem? (i := 5) rfl)) (by decide) (by decide)) q22a q22c (g := (mkF m 39 #[.val (.int p0), .val (.int (3 : Int32)), .val (.ref s_PeriodRule_NEGATIVE_PERMISSION), .val (.int (1 : Int32)), .val (.int (FLim s_PeriodRule_NEGATIVE_PERMISSION s_PeriodRule_YES)), .unset] [(.ref s_Permission_GIVEN), (.ref s_PeriodRule_NEGATIVE_PERMISSION)])) rfl (by rw [hml]; rfl) (Steps.refl _) (argsL := [(.ref s_Permission_GIVEN)]) (rest := []) (lenOf pd_3 rfl) rfl (by show 2 * 0 + _ ≤ _; exact Nat.le_of_eq rfl) (hb hby at_39) (fun _ _ => ⟨rfl, e21, (by decide : 0 + 0 ≤ _), (by decide : 0 + 0 ≤ _)⟩)
    dsimp only [Pt.U, Pt.locs, Pt.cells, Pt.slots] at X22 l22 y22 z22 st22 hQ22
    subst l22 y22 z22
    obtain ⟨rfl, N22q, e22⟩ := hQ22
    have N22 := Fr.app N20 N22q
    have hv22 : (FPays s_PeriodRule_NEGATIVE_PERMISSION s_Permission_GIVEN (3 : Int32) s_Permission_GIVEN s_Permission_REFUSED) = (1 : Int32) := by unfold FPays; simp [hne1, hne2, hne3]
    refine Run.st (S' := T22.setTop (mkF m 46 #[.val (.int p0), .val (.int (3 : Int32)), .val (.ref s_PeriodRule_NEGATIVE_PERMISSION), .val (.int (1 : Int32)), .val (.int (FLim s_PeriodRule_NEGATIVE_PERMISSION s_PeriodRule_YES)), .unset] [(.ref s_PeriodRule_NEGATIVE_PERMISSION)])) (fun _ k => st22.trans (XS.ifNo X22.here hx rfl (hb hby at_42) rfl ((if0 _ _).trans (feq (show ¬ ((FPays s_PeriodRule_NEGATIVE_PERMISSION s_Permission_GIVEN (3 : Int32) s_Permission_GIVEN s_Permission_REFUSED) = (0 : Int32)) from (by rw [hv22]; decide))).1) (XS.aloadN X22.here hx rfl (hb hby at_45) rfl rfl k))) ?_
    obtain ⟨T23, X23, e23, st23⟩ := getS2 X22 hx hZ hown (host := "") (Or.inl (hw _ (List.mem_of_getElem? (i := 32) rfl))) Via.refl e22 S_s_Permission_REFUSED (g := (mkF m 46 #[.val (.int p0), .val (.int (3 : Int32)), .val (.ref s_PeriodRule_NEGATIVE_PERMISSION), .val (.int (1 : Int32)), .val (.int (FLim s_PeriodRule_NEGATIVE_PERMISSION s_PeriodRule_YES)), .unset] [(.ref s_PeriodRule_NEGATIVE_PERMISSION)])) rfl (hb hby at_46)
    refine Run.st (S' := T23.setTop (mkF m 49 #[.val (.int p0), .val (.int (3 : Int32)), .val (.ref s_PeriodRule_NEGATIVE_PERMISSION), .val (.int (1 : Int32)), .val (.int (FLim s_PeriodRule_NEGATIVE_PERMISSION s_PeriodRule_YES)), .unset] [(.ref s_Permission_REFUSED), (.ref s_PeriodRule_NEGATIVE_PERMISSION)])) (fun _ k => st23 _ k) ?_
    obtain ⟨cq24, kq24, q24a, q24b, q24c⟩ := isOf hZ e23 E_s_PeriodRule_NEGATIVE_PERMISSION
    obtain ⟨_, _, ⟨T24, L24, k24, n24⟩, -, X24, ⟨Lc24, hQ24, l24, y24, z24⟩, st24⟩ := X23.virtualBack hx (y := (⟨"com/example/quittance/quittance/PeriodRule", "pays", "(Lcom/example/quittance/quittance/Permission;)Z"⟩ : MethodName)) (z := (⟨"com/example/quittance/quittance/PeriodRule", "pays", "(Lcom/example/quittance/quittance/Permission;)Z"⟩ : MethodName)) hown (mvT hZ (hw _ (List.mem_of_getElem? (i := 16) rfl))) (mvT hZ (hw _ (List.mem_of_getElem? (i := 17) rfl))) (notFace_of_selects (args := #[]) (mvT hZ (hw _ (List.mem_of_getElem? (i := 19) rfl)))) (mvT hZ (hw _ (List.mem_of_getElem? (i := 19) rfl))) (mvT hZ (hw _ (List.mem_of_getElem? (i := 18) rfl))) (by decide) (backOf (W := 0) (rmPays l Z aV hw [] s_PeriodRule_NEGATIVE_PERMISSION s_Permission_REFUSED (3 : Int32) s_Permission_GIVEN s_Permission_REFUSED h0 n0 Zn (by decide) E_s_PeriodRule_NEGATIVE_PERMISSION F_s_PeriodRule_NEGATIVE_PERMISSION S_s_Permission_GIVEN S_s_Permission_REFUSED) hZ (hw _ (List.mem_of_getElem? (i := 20) rfl)) (hw _ (List.mem_of_getElem? (i := 5) rfl)) (by decide) (by decide)) q24a q24c (g := (mkF m 49 #[.val (.int p0), .val (.int (3 : Int32)), .val (.ref s_PeriodRule_NEGATIVE_PERMISSION), .val (.int (1 : Int32)), .val (.int (FLim s_PeriodRule_NEGATIVE_PERMISSION s_PeriodRule_YES)), .unset] [(.ref s_Permission_REFUSED), (.ref s_PeriodRule_NEGATIVE_PERMISSION)])) rfl (by rw [hml]; rfl) (Steps.refl _) (argsL := [(.ref s_Permission_REFUSED)]) (rest := []) (lenOf pd_3 rfl) rfl (by show 2 * 0 + _ ≤ _; exact Nat.le_of_eq rfl) (hb hby at_49) (fun _ _ => ⟨rfl, e23, (by decide : 0 + 0 ≤ _), (by decide : 0 + 0 ≤ _)⟩)
    dsimp only [Pt.U, Pt.locs, Pt.cells, Pt.slots] at X24 l24 y24 z24 st24 hQ24
    subst l24 y24 z24
    obtain ⟨rfl, N24q, e24⟩ := hQ24
    have N24 := Fr.app N22 N24q
    have hv24 : (FPays s_PeriodRule_NEGATIVE_PERMISSION s_Permission_REFUSED (3 : Int32) s_Permission_GIVEN s_Permission_REFUSED) = (0 : Int32) := by unfold FPays; simp [hne1, hne2, hne3]
    refine Run.st (S' := T24.setTop (mkF m 70 #[.val (.int p0), .val (.int (3 : Int32)), .val (.ref s_PeriodRule_NEGATIVE_PERMISSION), .val (.int (1 : Int32)), .val (.int (FLim s_PeriodRule_NEGATIVE_PERMISSION s_PeriodRule_YES)), .val (.int (0 : Int32))] [(.int (FLim s_PeriodRule_NEGATIVE_PERMISSION s_PeriodRule_YES))])) (fun _ k => st24.trans (XS.ifYes X24.here hx rfl (pc0 := 52) (pc' := 59) rfl (hb hby at_52) rfl ((if0 _ _).trans (teq (show (FPays s_PeriodRule_NEGATIVE_PERMISSION s_Permission_REFUSED (3 : Int32) s_Permission_GIVEN s_Permission_REFUSED) = (0 : Int32) from hv24)).1) (by decide) (by decide) (XS.iconst X24.here hx rfl (hb hby at_59) (XS.istore X24.here hx rfl (hb hby at_60) rfl (l' := #[.val (.int p0), .val (.int (3 : Int32)), .val (.ref s_PeriodRule_NEGATIVE_PERMISSION), .val (.int (1 : Int32)), .val (.int (FLim s_PeriodRule_NEGATIVE_PERMISSION s_PeriodRule_YES)), .val (.int (0 : Int32))]) rfl (XS.iload X24.here hx rfl (hb hby at_62) rfl (XS.iloadN X24.here hx rfl (hb hby at_64) rfl (XS.icmpNo X24.here hx rfl (hb hby at_65) rfl (teq (show (FLim s_PeriodRule_NEGATIVE_PERMISSION s_PeriodRule_YES) = (1 : Int32) from hv18)).2 (XS.iload X24.here hx rfl (hb hby at_68) rfl k)))))))) ?_
    refine Run.st (S' := T24.setTop (mkF m 88 #[.val (.int p0), .val (.int (3 : Int32)), .val (.ref s_PeriodRule_NEGATIVE_PERMISSION), .val (.int (1 : Int32)), .val (.int (FLim s_PeriodRule_NEGATIVE_PERMISSION s_PeriodRule_YES)), .val (.int (0 : Int32))] [(.int (1 : Int32))])) (fun _ k => XS.iload X24.here hx rfl (hb hby at_70) rfl (XS.ifNo X24.here hx rfl (hb hby at_72) rfl ((if0 _ _).trans (teq (show (0 : Int32) = (0 : Int32) from (by decide))).2) (XS.iconst X24.here hx rfl (hb hby at_75) (XS.goto X24.here hx rfl (pc0 := 76) (pc' := 80) rfl (hb hby at_76) (by decide) (by decide) (XS.icmpNo X24.here hx rfl (hb hby at_80) rfl (teq (show (FLim s_PeriodRule_NEGATIVE_PERMISSION s_PeriodRule_YES) = (1 : Int32) from hv18)).2 (XS.iconst X24.here hx rfl (hb hby at_83) (XS.goto X24.here hx rfl (pc0 := 84) (pc' := 88) rfl (hb hby at_84) (by decide) (by decide) k))))))) ?_
    refine Run.out X24 hx Bd.notSynchronized Bd.returns rfl (Or.inl ⟨rfl, by simp, _, rfl⟩) (hb hby at_88) (by decide) (by decide) ?_
    rw [e24]
    exact ⟨rfl, N24⟩
set_option maxRecDepth 65536 in
set_option maxHeartbeats 40000000 in
theorem comes_1 {Post : Tables → Env → Array Value → State → Outcome → State → Prop} (hpost : ∀ tb e args s v u, (limb_1_1.after args s (.returned v) u = true ∧ limb_1_2.after args s (.returned v) u = true ∧ True) → FrameEnd s (.returned v) u (Jvm.fieldLocs frame_1_writes args s ++ Jvm.arrayLocs frame_1_arrays args s ++ Jvm.staticLocs frame_1_statics s) 0 0 → Post tb e args s (.returned v) u) :
    ArmFor flags0 classFile x code maxLocals ret World_1 tables_1 room_1 Calls_1 rest_1 Pre_1 Post := by
  intro l hfl _ _ p e ha hc hk s m args below hf hA hF happ hP
  obtain ⟨hcalls, hrest, hpre⟩ := hP
  obtain ⟨-, -, -, hnamed, -, -, -, hat⟩ := (Spec.applies_iff hf).mp happ
  obtain ⟨hg, hn⟩ := and_e (Cond.before_iff.mp (show (Jvm.Cond.and given_1 narrow_1).before args s = true from hpre))
  obtain ⟨gv1, gv2⟩ := and_e hg
  obtain ⟨gv3, gv4⟩ := and_e hn
  obtain ⟨gv5, gv6⟩ := and_e gv4
  obtain ⟨gv7, gv8⟩ := and_e gv6
  obtain ⟨gv9, gv10⟩ := and_e gv8
  obtain ⟨gv11, gv12⟩ := and_e gv10
  obtain ⟨gv13, gv14⟩ := and_e gv12
  obtain ⟨gv15, gv16⟩ := and_e gv14
  obtain ⟨gv17, gv18⟩ := and_e gv16
  obtain ⟨gv19, gv20⟩ := and_e gv18
  obtain ⟨gv21, gv22⟩ := and_e gv20
  obtain ⟨gv23, gv24⟩ := and_e gv22
  obtain ⟨gv25, gv26⟩ := and_e gv24
  obtain ⟨gv27, gv28⟩ := and_e gv26
  obtain ⟨w0, rfl⟩ : ∃ w0 : Value, args = #[w0] := by
    have hs : args.size = 1 := by simpa [Cond.value, given_1] using gv1
    obtain ⟨L⟩ := args
    match L, hs with
    | [w0], _ => exact ⟨w0, rfl⟩
  have hw := fun d (hd : d ∈ tables_1) => atoms_spec (ws := Jvm.Cond.code x code maxLocals ret :: tables_1) hat d (List.mem_cons_of_mem _ hd)
  have hfit : Fit s := fun {y c} hc i hi => by
    obtain ⟨ha, rfl⟩ := Array.getElem?_eq_some_iff.mp hc
    have q := List.all_eq_true.mp ((Array.all_eq_true_iff_forall_mem.mp hF) _ (Array.getElem_mem ha)) i (List.mem_range.mpr hi)
    simpa [Array.getElem?_eq_getElem hi] using q
  obtain ⟨i0, ei0⟩ := is_v gv2
  obtain rfl : w0 = (.int i0) := Option.some.inj ei0
  obtain ⟨s_PeriodRule_YES, ev_s_PeriodRule_YES⟩ := exa_v gv3
  have S_s_PeriodRule_YES : Sta s s.heap "com/example/quittance/quittance/PeriodRule" "YES" "Lcom/example/quittance/quittance/PeriodRule;" (.ref s_PeriodRule_YES) := Sta.start ev_s_PeriodRule_YES (Or.inr ⟨(hw _ (List.mem_of_getElem? (i := 5) rfl)), (hw _ (List.mem_of_getElem? (i := 6) rfl))⟩)
  have E_s_PeriodRule_YES : Exa s s.heap s_PeriodRule_YES "com/example/quittance/quittance/PeriodRule" := Exa.start ev_s_PeriodRule_YES gv3
  obtain ⟨s_Permission_NOT_STATED, ev_s_Permission_NOT_STATED⟩ := exa_v gv5
  have S_s_Permission_NOT_STATED : Sta s s.heap "com/example/quittance/quittance/Permission" "NOT_STATED" "Lcom/example/quittance/quittance/Permission;" (.ref s_Permission_NOT_STATED) := Sta.start ev_s_Permission_NOT_STATED (Or.inr ⟨(hw _ (List.mem_of_getElem? (i := 14) rfl)), (hw _ (List.mem_of_getElem? (i := 15) rfl))⟩)
  have E_s_Permission_NOT_STATED : Exa s s.heap s_Permission_NOT_STATED "com/example/quittance/quittance/Permission" := Exa.start ev_s_Permission_NOT_STATED gv5
  obtain ⟨s_Permission_GIVEN, ev_s_Permission_GIVEN⟩ := exa_v gv9
  have S_s_Permission_GIVEN : Sta s s.heap "com/example/quittance/quittance/Permission" "GIVEN" "Lcom/example/quittance/quittance/Permission;" (.ref s_Permission_GIVEN) := Sta.start ev_s_Permission_GIVEN (Or.inr ⟨(hw _ (List.mem_of_getElem? (i := 14) rfl)), (hw _ (List.mem_of_getElem? (i := 31) rfl))⟩)
  have E_s_Permission_GIVEN : Exa s s.heap s_Permission_GIVEN "com/example/quittance/quittance/Permission" := Exa.start ev_s_Permission_GIVEN gv9
  obtain ⟨s_Permission_REFUSED, ev_s_Permission_REFUSED⟩ := exa_v gv11
  have S_s_Permission_REFUSED : Sta s s.heap "com/example/quittance/quittance/Permission" "REFUSED" "Lcom/example/quittance/quittance/Permission;" (.ref s_Permission_REFUSED) := Sta.start ev_s_Permission_REFUSED (Or.inr ⟨(hw _ (List.mem_of_getElem? (i := 14) rfl)), (hw _ (List.mem_of_getElem? (i := 33) rfl))⟩)
  have E_s_Permission_REFUSED : Exa s s.heap s_Permission_REFUSED "com/example/quittance/quittance/Permission" := Exa.start ev_s_Permission_REFUSED gv11
  obtain ⟨s_PeriodRule_NEGATIVE_PERMISSION, ev_s_PeriodRule_NEGATIVE_PERMISSION⟩ := exa_v gv13
  have S_s_PeriodRule_NEGATIVE_PERMISSION : Sta s s.heap "com/example/quittance/quittance/PeriodRule" "NEGATIVE_PERMISSION" "Lcom/example/quittance/quittance/PeriodRule;" (.ref s_PeriodRule_NEGATIVE_PERMISSION) := Sta.start ev_s_PeriodRule_NEGATIVE_PERMISSION (Or.inr ⟨(hw _ (List.mem_of_getElem? (i := 5) rfl)), (hw _ (List.mem_of_getElem? (i := 35) rfl))⟩)
  have E_s_PeriodRule_NEGATIVE_PERMISSION : Exa s s.heap s_PeriodRule_NEGATIVE_PERMISSION "com/example/quittance/quittance/PeriodRule" := Exa.start ev_s_PeriodRule_NEGATIVE_PERMISSION gv13
  obtain ⟨s_PeriodRule_PERMISSION, ev_s_PeriodRule_PERMISSION⟩ := exa_v gv23
  have S_s_PeriodRule_PERMISSION : Sta s s.heap "com/example/quittance/quittance/PeriodRule" "PERMISSION" "Lcom/example/quittance/quittance/PeriodRule;" (.ref s_PeriodRule_PERMISSION) := Sta.start ev_s_PeriodRule_PERMISSION (Or.inr ⟨(hw _ (List.mem_of_getElem? (i := 5) rfl)), (hw _ (List.mem_of_getElem? (i := 38) rfl))⟩)
  have E_s_PeriodRule_PERMISSION : Exa s s.heap s_PeriodRule_PERMISSION "com/example/quittance/quittance/PeriodRule" := Exa.start ev_s_PeriodRule_PERMISSION gv23
  obtain ⟨s_PeriodRule_NO, ev_s_PeriodRule_NO⟩ := exa_v gv27
  have S_s_PeriodRule_NO : Sta s s.heap "com/example/quittance/quittance/PeriodRule" "NO" "Lcom/example/quittance/quittance/PeriodRule;" (.ref s_PeriodRule_NO) := Sta.start ev_s_PeriodRule_NO (Or.inr ⟨(hw _ (List.mem_of_getElem? (i := 5) rfl)), (hw _ (List.mem_of_getElem? (i := 41) rfl))⟩)
  have E_s_PeriodRule_NO : Exa s s.heap s_PeriodRule_NO "com/example/quittance/quittance/PeriodRule" := Exa.start ev_s_PeriodRule_NO gv27
  have F_s_PeriodRule_YES : Fld s s.heap s_PeriodRule_YES "java/lang/Enum" "ordinal" "I" (.int (0 : Int32)) := ord_v ev_s_PeriodRule_YES gv7
  have F_s_PeriodRule_NEGATIVE_PERMISSION : Fld s s.heap s_PeriodRule_NEGATIVE_PERMISSION "java/lang/Enum" "ordinal" "I" (.int (3 : Int32)) := ord_v ev_s_PeriodRule_NEGATIVE_PERMISSION gv15
  have F_s_Permission_NOT_STATED : Fld s s.heap s_Permission_NOT_STATED "java/lang/Enum" "ordinal" "I" (.int (0 : Int32)) := ord_v ev_s_Permission_NOT_STATED gv17
  have F_s_Permission_REFUSED : Fld s s.heap s_Permission_REFUSED "java/lang/Enum" "ordinal" "I" (.int (2 : Int32)) := ord_v ev_s_Permission_REFUSED gv19
  have F_s_Permission_GIVEN : Fld s s.heap s_Permission_GIVEN "java/lang/Enum" "ordinal" "I" (.int (1 : Int32)) := ord_v ev_s_Permission_GIVEN gv21
  have F_s_PeriodRule_PERMISSION : Fld s s.heap s_PeriodRule_PERMISSION "java/lang/Enum" "ordinal" "I" (.int (2 : Int32)) := ord_v ev_s_PeriodRule_PERMISSION gv25
  have F_s_PeriodRule_NO : Fld s s.heap s_PeriodRule_NO "java/lang/Enum" "ordinal" "I" (.int (1 : Int32)) := ord_v ev_s_PeriodRule_NO gv28
  obtain ⟨n, o, h1, h2, h3, _, L, rfl, ⟨rfl, N⟩, hq⟩ := rm0 l s _ hw tables_1 i0 s_PeriodRule_YES s_PeriodRule_NO s_PeriodRule_PERMISSION s_PeriodRule_NEGATIVE_PERMISSION s_Permission_NOT_STATED s_Permission_GIVEN s_Permission_REFUSED s.heap s.heap.size (Nat.le_refl _) E_s_PeriodRule_YES S_s_PeriodRule_YES F_s_PeriodRule_YES E_s_PeriodRule_NO S_s_PeriodRule_NO F_s_PeriodRule_NO E_s_PeriodRule_PERMISSION S_s_PeriodRule_PERMISSION F_s_PeriodRule_PERMISSION E_s_PeriodRule_NEGATIVE_PERMISSION S_s_PeriodRule_NEGATIVE_PERMISSION F_s_PeriodRule_NEGATIVE_PERMISSION S_s_Permission_NOT_STATED S_s_Permission_GIVEN S_s_Permission_REFUSED (Fld.ne F_s_Permission_NOT_STATED F_s_Permission_GIVEN (by decide)) (Fld.ne F_s_Permission_NOT_STATED F_s_Permission_REFUSED (by decide)) (Fld.ne F_s_Permission_GIVEN F_s_Permission_REFUSED (by decide)) (Fld.ne F_s_PeriodRule_NO F_s_PeriodRule_YES (by decide)) (Fld.ne F_s_PeriodRule_PERMISSION F_s_PeriodRule_YES (by decide)) (Fld.ne F_s_PeriodRule_NEGATIVE_PERMISSION F_s_PeriodRule_YES (by decide)) p e ha hc hk s m _ below hf ((Spec.applies_iff_loose hf).mp happ).1 ⟨rfl, State.Warmed39.refl s, rfl⟩ trivial
  refine ⟨n, _, h1, h2, h3, hpost _ _ _ _ _ _ ⟨Cond.after_iff.mpr rfl, Cond.after_iff.mpr (eq_i res_at (Term.int_eval (1)) rfl), trivial⟩ ⟨hq.1, hq.2.1, (hq.2.2.sift fun y hy => Or.inr (N y hy)).mono (by decide) (by decide)⟩⟩
theorem main_1_1 : Claimed_1_1 := comes_1 fun _ _ _ _ _ _ h hF => ⟨h.1, hF⟩
theorem main_1_2 : Claimed_1_2 := comes_1 fun _ _ _ _ _ _ h hF => ⟨h.2.1, hF⟩
end Jvm.Pilot.@@N@@
namespace Jvm.Pilot.@@N@@
open Jvm Jvm.ClassFile Sem Op Lib Jvm.Free Jvm.Stand Jvm.Pilot.@@N@@.Jvm.D
/-! MADE BY PROGRAM (witnessworld.py) out of the Statement's table words and the real class files: 13 classes; the members and pool entries that the words name. The judged class is class 1, her method 2. -/
namespace start1
open Jvm.ClassFile
def u (s : String) : CpInfo := .utf8 (stringToUtf16 s)
/-- a pool by its gaps: so many unusable entries, then the entry; so many at the end -/
def gap : Nat → List CpInfo → List CpInfo
  | 0, r => r
  | n + 1, r => .unusable :: gap n r
def poolList (es : List (Nat × CpInfo)) (last : Nat) : List CpInfo := es.foldr (fun e r => gap e.1 (e.2 :: r)) (gap last [])
def pool (es : List (Nat × CpInfo)) (last : Nat) : Array CpInfo := ⟨poolList es last⟩
def fileOf (pool : Array CpInfo) (this : Nat) (attrs : Array Attribute := #[]) (ms : Array MethodInfo := #[]) (fl : Nat := 33) (sup : Nat := 0) (ifs : Array Nat := #[]) (fds : Array FieldInfo := #[]) : ClassFile where
  minorVersion := 0
  majorVersion := 65
  constantPool := pool
  accessFlags := fl
  thisClass := this
  superClass := sup
  interfaces := ifs
  fields := fds
  methods := ms
  attributes := attrs
def plain (name : String) (sup : Option ClassId) : Class where
  name := name
  kind := .ordinary
  loader := none
  accessFlags := 33
  super := sup
  interfaces := #[]
  cf := none
  fields := #[]
  methods := #[]
  instanceTypes := #[]
  staticTypes := #[]
  resolved := #[]
  callSites := []
  init := .initialized
  statics := none
  mirror := none

def pool0 : Array CpInfo := pool [(5, u "<init>"), (0, u "()V"), (1, .class_ 10), (1, u "java/lang/Object")] 113

def k0m0 : Method := { name := "<init>", desc := "()V", sig := { parameters := [], returnType := none }, accessFlags := 1, code := none }
/-- java/lang/Object -/
def k0 : Class := { plain "java/lang/Object" none with
  accessFlags := 33
  interfaces := #[]
  cf := some (fileOf pool0 8 #[] #[{ accessFlags := 1, nameIndex := 5, descriptorIndex := 6, attributes := #[] }] 33 0 #[] #[])
  fields := #[]
  methods := #[k0m0]
  instanceTypes := #[]
  staticTypes := #[]
  resolved := Array.replicate 124 none
  statics := none }

def pool1 : Array CpInfo := pool [(2, .class_ 4), (1, u "java/lang/Object"), (0, u "<init>"), (0, u "()V"), (0, .fieldref 8 9), (0, .class_ 10), (0, .nameAndType 11 12), (0, u "com/example/quittance/quittance/PeriodRule"), (0, u "YES"), (0, u "Lcom/example/quittance/quittance/PeriodRule;"), (0, .fieldref 8 14), (0, .nameAndType 15 12), (0, u "NO"), (0, .fieldref 8 17), (0, .nameAndType 18 12), (0, u "PERMISSION"), (0, .fieldref 8 20), (0, .nameAndType 21 12), (0, u "NEGATIVE_PERMISSION"), (0, .methodref 23 24), (0, .class_ 25), (0, .nameAndType 26 27), (0, u "com/example/quittance/quittance/PeriodRuleLimitsPinLaw"), (0, u "pick"), (0, u "(I)Lcom/example/quittance/quittance/PeriodRule;"), (0, .methodref 8 29), (0, .nameAndType 30 31), (0, u "limits"), (0, u "()Z"), (0, .fieldref 33 34), (0, .class_ 35), (0, .nameAndType 36 37), (0, u "com/example/quittance/quittance/Permission"), (0, u "NOT_STATED"), (0, u "Lcom/example/quittance/quittance/Permission;"), (0, .methodref 8 39), (0, .nameAndType 40 41), (0, u "pays"), (0, u "(Lcom/example/quittance/quittance/Permission;)Z"), (0, .fieldref 33 43), (0, .nameAndType 44 37), (0, u "GIVEN"), (0, .fieldref 33 46), (0, .nameAndType 47 37), (0, u "REFUSED"), (3, u "law"), (0, u "(I)Z")] 2

def k1m0 : Method := { name := "<init>", desc := "()V", sig := { parameters := [], returnType := none }, accessFlags := 2, code := none }
def k1c1 : Code := { maxStack := 2, maxLocals := 1, code := method_2_code, exceptionTable := #[], attributes := #[] }
def k1m1 : Method := { name := "pick", desc := "(I)Lcom/example/quittance/quittance/PeriodRule;", sig := { parameters := [.int], returnType := some (.object "com/example/quittance/quittance/PeriodRule") }, accessFlags := 10, code := some k1c1 }
def k1c2 : Code := { maxStack := 2, maxLocals := 6, code := code, exceptionTable := #[], attributes := #[] }
def k1m2 : Method := { name := "law", desc := "(I)Z", sig := { parameters := [.int], returnType := some .boolean }, accessFlags := 9, code := some k1c2 }
/-- com/example/quittance/quittance/PeriodRuleLimitsPinLaw -/
def k1 : Class := { plain "com/example/quittance/quittance/PeriodRuleLimitsPinLaw" (some 0) with
  accessFlags := 49
  interfaces := #[]
  cf := some (fileOf pool1 23 #[] #[{ accessFlags := 2, nameIndex := 5, descriptorIndex := 6, attributes := #[] }, { accessFlags := 10, nameIndex := 26, descriptorIndex := 27, attributes := #[] }, { accessFlags := 9, nameIndex := 51, descriptorIndex := 52, attributes := #[] }] 49 2 #[] #[])
  fields := #[]
  methods := #[k1m0, k1m1, k1m2]
  instanceTypes := #[]
  staticTypes := #[]
  resolved := Array.replicate 55 none
  statics := none }

def pool2 : Array CpInfo := pool [(1, .class_ 2), (0, u "java/lang/constant/Constable"), (0, .class_ 4), (0, u "java/lang/Object")] 6

/-- java/lang/constant/Constable -/
def k2 : Class := { plain "java/lang/constant/Constable" (some 0) with
  accessFlags := 1537
  interfaces := #[]
  cf := some (fileOf pool2 1 #[] #[] 1537 3 #[] #[])
  fields := #[]
  methods := #[]
  instanceTypes := #[]
  staticTypes := #[]
  resolved := Array.replicate 11 none
  statics := none }

def pool3 : Array CpInfo := pool [(1, .class_ 2), (0, u "java/lang/Comparable"), (0, .class_ 4), (0, u "java/lang/Object")] 7

/-- java/lang/Comparable -/
def k3 : Class := { plain "java/lang/Comparable" (some 0) with
  accessFlags := 1537
  interfaces := #[]
  cf := some (fileOf pool3 1 #[] #[] 1537 3 #[] #[])
  fields := #[]
  methods := #[]
  instanceTypes := #[]
  staticTypes := #[]
  resolved := Array.replicate 12 none
  statics := none }

def pool4 : Array CpInfo := pool [(1, .class_ 2), (0, u "java/io/Serializable"), (0, .class_ 4), (0, u "java/lang/Object")] 2

/-- java/io/Serializable -/
def k4 : Class := { plain "java/io/Serializable" (some 0) with
  accessFlags := 1537
  interfaces := #[]
  cf := some (fileOf pool4 1 #[] #[] 1537 3 #[] #[])
  fields := #[]
  methods := #[]
  instanceTypes := #[]
  staticTypes := #[]
  resolved := Array.replicate 7 none
  statics := none }

def pool5 : Array CpInfo := pool [(2, .class_ 4), (1, u "java/lang/Enum"), (0, u "name"), (0, u "Ljava/lang/String;"), (0, .fieldref 2 8), (0, .nameAndType 9 10), (0, u "ordinal"), (0, u "I"), (1, .class_ 14), (1, u "java/lang/Object"), (4, u "hash"), (86, .class_ 108), (1, u "java/lang/Enum$EnumDesc"), (2, .class_ 112), (0, u "java/lang/constant/Constable"), (0, .class_ 114), (0, u "java/lang/Comparable"), (0, .class_ 116), (0, u "java/io/Serializable"), (9, u "()I")] 77

def k5c0 : Code := { maxStack := 1, maxLocals := 1, code := jdk_37_method_2_code, exceptionTable := #[], attributes := #[] }
def k5m0 : Method := { name := "ordinal", desc := "()I", sig := { parameters := [], returnType := some .int }, accessFlags := 17, code := some k5c0 }
/-- java/lang/Enum -/
def k5 : Class := { plain "java/lang/Enum" (some 0) with
  accessFlags := 1057
  interfaces := #[2, 3, 4]
  cf := some (fileOf pool5 2 #[.nestMembers #[106]] #[{ accessFlags := 17, nameIndex := 9, descriptorIndex := 126, attributes := #[] }] 1057 12 #[111, 113, 115] #[{ accessFlags := 18, nameIndex := 5, descriptorIndex := 6, attributes := #[] }, { accessFlags := 18, nameIndex := 9, descriptorIndex := 10, attributes := #[] }, { accessFlags := 2, nameIndex := 19, descriptorIndex := 10, attributes := #[] }])
  fields := #[{ name := "name", type := (.object "java/lang/String"), accessFlags := 18, slot := 0, constantValue := 0 }, { name := "ordinal", type := .int, accessFlags := 18, slot := 1, constantValue := 0 }, { name := "hash", type := .int, accessFlags := 2, slot := 2, constantValue := 0 }]
  methods := #[k5m0]
  instanceTypes := #[(.object "java/lang/String"), .int, .int]
  staticTypes := #[]
  resolved := Array.replicate 204 none
  statics := none }

def pool6 : Array CpInfo := pool [(1, .class_ 2), (0, u "com/example/quittance/quittance/PeriodRule"), (0, .fieldref 1 4), (0, .nameAndType 5 6), (0, u "YES"), (0, u "Lcom/example/quittance/quittance/PeriodRule;"), (2, u "NO"), (2, u "PERMISSION"), (2, u "NEGATIVE_PERMISSION"), (2, u "$VALUES"), (0, u "[Lcom/example/quittance/quittance/PeriodRule;"), (6, .class_ 28), (1, u "java/lang/Enum"), (22, .methodref 1 52), (0, .nameAndType 53 54), (0, u "ordinal"), (0, u "()I"), (5, .fieldref 61 62), (0, .class_ 63), (0, .nameAndType 64 65), (0, u "com/example/quittance/quittance/Permission"), (0, u "GIVEN"), (0, u "Lcom/example/quittance/quittance/Permission;"), (0, .fieldref 61 67), (0, .nameAndType 68 65), (0, u "REFUSED"), (17, u "limits"), (0, u "()Z"), (1, u "pays"), (0, u "(Lcom/example/quittance/quittance/Permission;)Z")] 4

def k6c0 : Code := { maxStack := 2, maxLocals := 1, code := prog_25_method_5_code, exceptionTable := #[], attributes := #[] }
def k6m0 : Method := { name := "limits", desc := "()Z", sig := { parameters := [], returnType := some .boolean }, accessFlags := 0, code := some k6c0 }
def k6c1 : Code := { maxStack := 4, maxLocals := 2, code := prog_25_method_6_code, exceptionTable := #[], attributes := #[] }
def k6m1 : Method := { name := "pays", desc := "(Lcom/example/quittance/quittance/Permission;)Z", sig := { parameters := [(.object "com/example/quittance/quittance/Permission")], returnType := some .boolean }, accessFlags := 0, code := some k6c1 }
/-- com/example/quittance/quittance/PeriodRule -/
def k6 : Class := { plain "com/example/quittance/quittance/PeriodRule" (some 5) with
  accessFlags := 16433
  interfaces := #[]
  cf := some (fileOf pool6 1 #[] #[{ accessFlags := 0, nameIndex := 86, descriptorIndex := 87, attributes := #[] }, { accessFlags := 0, nameIndex := 89, descriptorIndex := 90, attributes := #[] }] 16433 26 #[] #[{ accessFlags := 16409, nameIndex := 5, descriptorIndex := 6, attributes := #[] }, { accessFlags := 16409, nameIndex := 9, descriptorIndex := 6, attributes := #[] }, { accessFlags := 16409, nameIndex := 12, descriptorIndex := 6, attributes := #[] }, { accessFlags := 16409, nameIndex := 15, descriptorIndex := 6, attributes := #[] }, { accessFlags := 4122, nameIndex := 18, descriptorIndex := 19, attributes := #[] }])
  fields := #[{ name := "YES", type := (.object "com/example/quittance/quittance/PeriodRule"), accessFlags := 16409, slot := 0, constantValue := 0 }, { name := "NO", type := (.object "com/example/quittance/quittance/PeriodRule"), accessFlags := 16409, slot := 1, constantValue := 0 }, { name := "PERMISSION", type := (.object "com/example/quittance/quittance/PeriodRule"), accessFlags := 16409, slot := 2, constantValue := 0 }, { name := "NEGATIVE_PERMISSION", type := (.object "com/example/quittance/quittance/PeriodRule"), accessFlags := 16409, slot := 3, constantValue := 0 }, { name := "$VALUES", type := (.array (.object "com/example/quittance/quittance/PeriodRule")), accessFlags := 4122, slot := 4, constantValue := 0 }]
  methods := #[k6m0, k6m1]
  instanceTypes := #[(.object "java/lang/String"), .int, .int]
  staticTypes := #[(.object "com/example/quittance/quittance/PeriodRule"), (.object "com/example/quittance/quittance/PeriodRule"), (.object "com/example/quittance/quittance/PeriodRule"), (.object "com/example/quittance/quittance/PeriodRule"), (.array (.object "com/example/quittance/quittance/PeriodRule"))]
  resolved := Array.replicate 95 none
  statics := some 0 }

def pool7 : Array CpInfo := pool [(1, .class_ 2), (0, u "com/example/quittance/quittance/Permission"), (2, u "NOT_STATED"), (0, u "Lcom/example/quittance/quittance/Permission;"), (2, u "GIVEN"), (2, u "REFUSED"), (2, u "$VALUES"), (0, u "[Lcom/example/quittance/quittance/Permission;"), (6, .class_ 25), (1, u "java/lang/Enum")] 42

/-- com/example/quittance/quittance/Permission -/
def k7 : Class := { plain "com/example/quittance/quittance/Permission" (some 5) with
  accessFlags := 16433
  interfaces := #[]
  cf := some (fileOf pool7 1 #[] #[] 16433 23 #[] #[{ accessFlags := 16409, nameIndex := 5, descriptorIndex := 6, attributes := #[] }, { accessFlags := 16409, nameIndex := 9, descriptorIndex := 6, attributes := #[] }, { accessFlags := 16409, nameIndex := 12, descriptorIndex := 6, attributes := #[] }, { accessFlags := 4122, nameIndex := 15, descriptorIndex := 16, attributes := #[] }])
  fields := #[{ name := "NOT_STATED", type := (.object "com/example/quittance/quittance/Permission"), accessFlags := 16409, slot := 0, constantValue := 0 }, { name := "GIVEN", type := (.object "com/example/quittance/quittance/Permission"), accessFlags := 16409, slot := 1, constantValue := 0 }, { name := "REFUSED", type := (.object "com/example/quittance/quittance/Permission"), accessFlags := 16409, slot := 2, constantValue := 0 }, { name := "$VALUES", type := (.array (.object "com/example/quittance/quittance/Permission")), accessFlags := 4122, slot := 3, constantValue := 0 }]
  methods := #[]
  instanceTypes := #[(.object "java/lang/String"), .int, .int]
  staticTypes := #[(.object "com/example/quittance/quittance/Permission"), (.object "com/example/quittance/quittance/Permission"), (.object "com/example/quittance/quittance/Permission"), (.array (.object "com/example/quittance/quittance/Permission"))]
  resolved := Array.replicate 68 none
  statics := some 1 }

def pool8 : Array CpInfo := pool [(1, u "java/lang/Cloneable"), (0, .class_ 1), (0, u "java/lang/Object"), (0, .class_ 3)] 3

/-- java/lang/Cloneable -/
def k8 : Class := { plain "java/lang/Cloneable" (some 0) with
  accessFlags := 1537
  interfaces := #[]
  cf := some (fileOf pool8 2 #[] #[] 1537 4 #[] #[])
  fields := #[]
  methods := #[]
  instanceTypes := #[]
  staticTypes := #[]
  resolved := Array.replicate 8 none
  statics := none }

/-- the primitive byte -/
def k9 : Class := { plain "byte" none with kind := .primitive 'B', accessFlags := 0x411 }
/-- [B -/
def k10 : Class := { plain "[B" (some 0) with kind := .array 9 .byte, interfaces := #[8, 4], accessFlags := 1041 }

/-- the primitive int -/
def k11 : Class := { plain "int" none with kind := .primitive 'I', accessFlags := 0x411 }
/-- [I -/
def k12 : Class := { plain "[I" (some 0) with kind := .array 11 .int, interfaces := #[8, 4], accessFlags := 1041 }

def heap : Heap := #[{ cls := 6, slots := #[.ref 2, .ref 8, .ref 7, .ref 6, .null], vm := .statics 6 },
  { cls := 7, slots := #[.ref 3, .ref 4, .ref 5, .null], vm := .statics 7 },
  { cls := 6, slots := #[.null, .int 0, .int 0], vm := .none },
  { cls := 7, slots := #[.null, .int 0, .int 0], vm := .none },
  { cls := 7, slots := #[.null, .int 1, .int 0], vm := .none },
  { cls := 7, slots := #[.null, .int 2, .int 0], vm := .none },
  { cls := 6, slots := #[.null, .int 3, .int 0], vm := .none },
  { cls := 6, slots := #[.null, .int 2, .int 0], vm := .none },
  { cls := 6, slots := #[.null, .int 1, .int 0], vm := .none }]
def classes : Array Class := #[k0, k1, k2, k3, k4, k5, k6, k7, k8, k9, k10, k11, k12]
def interned : List (Array UInt16 × Addr) := []
def slotsUsed : Nat := 30
def theMethod : MethodId := ⟨1, 2⟩
def args0 : Array Value := #[.int 2]
def aboutOver (below : List Frame) : State where
  vm := { classes := classes, interned := interned.toArray }
  heap := heap
  slotsUsed := slotsUsed
  threads := #[{ frames := .invoking theMethod args0 :: below }]
def below0 : List Frame := [.native { method := ⟨0, 0⟩, args := #[] }]
def about1 : State := aboutOver below0
def p0 : Program := .bare "" "" ""
def e0 : Env := launch0.env 0 0 0
theorem w_frames : about1.frames = Frame.invoking theMethod args0 :: below0 := rfl
set_option maxRecDepth 65536 in
theorem w_args : argsFit about1.vm theMethod args0 = true := by decide +kernel
set_option maxRecDepth 65536 in
theorem w_heap : heapFits about1 = true := by decide +kernel
set_option maxRecDepth 65536 in
theorem w_runnable : about1.curStatus? = some .runnable := by decide +kernel
set_option maxRecDepth 65536 in
theorem w_alone : about1.alone = true := by decide +kernel
set_option maxRecDepth 65536 in
theorem w_named : about1.methodNamed? x = some theMethod := by decide +kernel
set_option maxRecDepth 65536 in
theorem w_hears : about1.hears theMethod below0 = true := by decide +kernel
set_option maxRecDepth 65536 in
theorem w_ripe : about1.ripe theMethod args0 below0 = true := by decide +kernel
theorem w_running : about1.status = .running := rfl
set_option maxRecDepth 65536 in
theorem w_room : about1.hasRoom e0.platform room_1 = true :=
  launch0.hasRoom_least _ room_1 (by decide +kernel) (by decide +kernel) (by decide +kernel) (by decide +kernel) (by decide +kernel) (by decide +kernel)
theorem allAtoms_all (ts : List Jvm.Cond) (a : Array Jvm.Value) (st : Jvm.State) : (allAtoms ts).before a st = ts.all (fun c => c.before a st) := by
  induction ts with
  | nil => rfl
  | cons c t ih =>
    show (Jvm.Cond.and c (allAtoms t)).before a st = _
    rw [Jvm.Cond.before_and, ih, List.all_cons]
def words1 : List Jvm.Cond := Jvm.Cond.code x code maxLocals ret :: tables_1
/-- a 'code' word, met by the world's own term for the bytes: nothing is compared byte by byte -/
theorem code_word {y : MethodName} {bytes : ByteArray} {mx : Nat} {rt : Option FieldType} {a : Array Value} {s : State} {m : MethodId} {meth : Method} {c : Code} (h1 : s.methodNamed? y = some m) (h2 : s.vm.method? m = some meth) (h3 : meth.code = some c) (h4 : c.code = bytes)
    (h5 : (c.maxLocals == mx && c.exceptionTable.isEmpty && decide (c.maxStack ≤ mostOperands) && decide (meth.sig.returnType = rt) && !meth.locks && decide (parseMethodDescriptor y.desc = some meth.sig)) = true) : (Jvm.Cond.code y bytes mx rt).before a s = true := by
  simp only [Bool.and_eq_true, beq_iff_eq, Bool.not_eq_true', decide_eq_true_eq] at h5
  obtain ⟨⟨⟨⟨⟨g1, g2⟩, g3⟩, g4⟩, g5⟩, g6⟩ := h5
  simp [Cond.before, Cond.holds, Cond.value, h1, h2, h3, h4, g1, g2, g3, g4, g5, g6]
def isCode : Jvm.Cond → Bool
  | .code _ _ _ _ => true
  | _ => false
theorem all_split {L : List Jvm.Cond} {P : Jvm.Cond → Bool} (h1 : L.all (fun c => isCode c || P c) = true) (h2 : ∀ c ∈ L.filter isCode, P c = true) : L.all P = true := by
  refine List.all_eq_true.mpr fun c hc => ?_
  have h := List.all_eq_true.mp h1 c hc
  rcases Bool.eq_false_or_eq_true (isCode c) with hi | hi
  · exact h2 c (List.mem_filter.mpr ⟨hc, hi⟩)
  · simpa [hi] using h
set_option maxRecDepth 65536 in
theorem w_c0 : (Jvm.Cond.code x code maxLocals ret).before args0 about1 = true := code_word (m := ⟨1, 2⟩) (meth := k1m2) (c := k1c2) (by decide +kernel) rfl rfl rfl (by decide +kernel)
set_option maxRecDepth 65536 in
theorem w_c1 : (Jvm.Cond.code ({ cls := "com/example/quittance/quittance/PeriodRuleLimitsPinLaw", name := "pick", desc := "(I)Lcom/example/quittance/quittance/PeriodRule;" } : Jvm.MethodName) method_2_code (1 : Nat) (Option.some (Jvm.ClassFile.FieldType.object "com/example/quittance/quittance/PeriodRule"))).before args0 about1 = true := code_word (m := ⟨1, 1⟩) (meth := k1m1) (c := k1c1) (by decide +kernel) rfl rfl rfl (by decide +kernel)
set_option maxRecDepth 65536 in
theorem w_c2 : (Jvm.Cond.code ({ cls := "com/example/quittance/quittance/PeriodRule", name := "limits", desc := "()Z" } : Jvm.MethodName) prog_25_method_5_code (1 : Nat) (Option.some Jvm.ClassFile.FieldType.boolean)).before args0 about1 = true := code_word (m := ⟨6, 0⟩) (meth := k6m0) (c := k6c0) (by decide +kernel) rfl rfl rfl (by decide +kernel)
set_option maxRecDepth 65536 in
theorem w_c3 : (Jvm.Cond.code ({ cls := "com/example/quittance/quittance/PeriodRule", name := "pays", desc := "(Lcom/example/quittance/quittance/Permission;)Z" } : Jvm.MethodName) prog_25_method_6_code (2 : Nat) (Option.some Jvm.ClassFile.FieldType.boolean)).before args0 about1 = true := code_word (m := ⟨6, 1⟩) (meth := k6m1) (c := k6c1) (by decide +kernel) rfl rfl rfl (by decide +kernel)
set_option maxRecDepth 65536 in
theorem w_c4 : (Jvm.Cond.code ({ cls := "java/lang/Enum", name := "ordinal", desc := "()I" } : Jvm.MethodName) jdk_37_method_2_code (1 : Nat) (Option.some Jvm.ClassFile.FieldType.int)).before args0 about1 = true := code_word (m := ⟨5, 0⟩) (meth := k5m0) (c := k5c0) (by decide +kernel) rfl rfl rfl (by decide +kernel)
def codes1 : List Jvm.Cond := [Jvm.Cond.code x code maxLocals ret, Jvm.Cond.code ({ cls := "com/example/quittance/quittance/PeriodRuleLimitsPinLaw", name := "pick", desc := "(I)Lcom/example/quittance/quittance/PeriodRule;" } : Jvm.MethodName) method_2_code (1 : Nat) (Option.some (Jvm.ClassFile.FieldType.object "com/example/quittance/quittance/PeriodRule")), Jvm.Cond.code ({ cls := "com/example/quittance/quittance/PeriodRule", name := "limits", desc := "()Z" } : Jvm.MethodName) prog_25_method_5_code (1 : Nat) (Option.some Jvm.ClassFile.FieldType.boolean), Jvm.Cond.code ({ cls := "com/example/quittance/quittance/PeriodRule", name := "pays", desc := "(Lcom/example/quittance/quittance/Permission;)Z" } : Jvm.MethodName) prog_25_method_6_code (2 : Nat) (Option.some Jvm.ClassFile.FieldType.boolean), Jvm.Cond.code ({ cls := "java/lang/Enum", name := "ordinal", desc := "()I" } : Jvm.MethodName) jdk_37_method_2_code (1 : Nat) (Option.some Jvm.ClassFile.FieldType.int)]
set_option maxRecDepth 65536 in
theorem codes_eq : words1.filter isCode = codes1 := rfl
theorem w_codes : ∀ c ∈ words1.filter isCode, c.before args0 about1 = true := by
  rw [codes_eq]
  intro c hc
  simp only [codes1, List.mem_cons, List.not_mem_nil, or_false] at hc
  rcases hc with rfl | rfl | rfl | rfl | rfl
  · exact w_c0
  · exact w_c1
  · exact w_c2
  · exact w_c3
  · exact w_c4
set_option maxRecDepth 65536 in
theorem w_t1 : (words1.take 24).all (fun c => isCode c || c.before args0 about1) = true := by decide +kernel
set_option maxRecDepth 65536 in
theorem w_t2 : (words1.drop 24).all (fun c => isCode c || c.before args0 about1) = true := by decide +kernel
theorem w_tables : (allAtoms (Jvm.Cond.code x code maxLocals ret :: tables_1)).before args0 about1 = true := by
  rw [allAtoms_all]
  show words1.all (fun c => c.before args0 about1) = true
  refine all_split ?_ w_codes
  rw [← List.take_append_drop 24 words1, List.all_append, w_t1, w_t2]
  rfl
set_option maxRecDepth 65536 in
theorem w_case : (Jvm.Cond.and given_1 narrow_1).before args0 about1 = true := by decide +kernel
theorem w_applies : (headSpec (Jvm.Cond.code x code maxLocals ret :: tables_1) room_1).applies x e0.platform about1 = true :=
  (Spec.applies_iff w_frames).mpr ⟨w_running, w_runnable, w_alone, w_named, w_hears, w_ripe, w_room, w_tables⟩
theorem atStart : AtStart classFile x code maxLocals ret World_1 tables_1 room_1 Calls_1 rest_1 Pre_1 launch0 p0 e0 about1 theMethod args0 below0 :=
  ⟨lists_1, trivial, launch0.admits_env _ _ _, launch0.least_env, fairChoices_fair.cas, fairChoices_fair.clock, w_frames, w_args, w_heap, w_applies, trivial, trivial, w_case⟩
end start1
theorem witness_1 : WitnessClaimed_1 := ⟨start1.p0, start1.e0, start1.about1, start1.theMethod, start1.args0, start1.below0, start1.atStart⟩
end Jvm.Pilot.@@N@@
