import JvmDerived
import JvmDerived.Pilot.@@N@@Statement
import JvmDerived.Pilot.@@N@@Code
set_option linter.unusedVariables false
set_option linter.unusedSimpArgs false
namespace Jvm.Pilot.@@N@@
open Jvm Jvm.ClassFile Sem Op Lib Jvm.Free Jvm.Stand Jvm.LawKit Jvm.RoadKit Bundle Jvm.Pilot.@@N@@.Jvm.D
section OwnRun
variable {p : Program} {l : Launch} {e : Env} {R : Room} {s : State} {m : MethodId} {args : Array Value} {below : List Frame} {meth : Method} {c : Code} {T : State} {locs : List Loc} {cells slots : Nat}
/-- from S the run comes to its end, and there Q holds -/
def Run (p : Program) (e : Env) (below : List Frame) (Q : State → Outcome → Prop) (S : State) : Prop := ∃ s₂ o, Steps p.tables e below S s₂ ∧ s₂.status = .running ∧ Ended s₂ below o ∧ Q s₂ o
def Ends (s : State) (Qb : Option Value → Heap → List Loc → Prop) (C S : Nat) : State → Outcome → Prop := fun s₂ o => ∃ v L, o = .returned v ∧ Qb v s₂.heap L ∧ FrameEnd s o s₂ L C S
theorem Run.st {Q : State → Outcome → Prop} {S S' : State} (h : ∀ t, Steps p.tables e below S' t → Steps p.tables e below S t) (r : Run p e below Q S') : Run p e below Q S := by
  obtain ⟨a, b, c, d⟩ := r
  exact ⟨a, b, h _ c, d⟩
theorem Run.out (X : Stand p l e R s m args below meth c T locs cells slots) (hx : p.tables.exec = Jvm.exec) {Qb : Option Value → Heap → List Loc → Prop} {C S : Nat} {pc : Nat} {Ls : Array Slot} {w : Value} {t : FieldType} {i : Instr} {rest : List Value} (hlocks : meth.locks = false) (hret : meth.sig.returnType = some t) (hn : narrow t w = w)
    (hi : (i = .ireturn ∧ (t = .int ∨ t = .boolean ∨ t = .byte ∨ t = .char ∨ t = .short) ∧ ∃ z, w = .int z) ∨ (i = .lreturn ∧ t = .long ∧ ∃ z, w = .long z) ∨ (i = .dreturn ∧ t = .double ∧ ∃ z, w = .double z) ∨ (i = .freturn ∧ t = .float ∧ ∃ z, w = .float z) ∨ (i = .areturn ∧ t.isReference = true ∧ w.isRef = true))
    (hd : decode c.code pc = .ok (i, 1)) (hC : cells ≤ C) (hS : slots ≤ S) (hq : Qb (some w) T.heap locs) : Run p e below (Ends s Qb C S) (T.setTop (mkF m pc Ls (w :: rest))) := by
  obtain ⟨fs, hr, hrun, hended, hW, hsame⟩ := X.leave (v := some w) (fun h => by rw [hret] at h; cases h) hlocks
  exact ⟨_, _, retOut X hx hret hn hi hd hr, hrun, hended, _, _, rfl, hq, ⟨_, rfl⟩, hW, hsame.mono hC hS⟩
theorem Run.outV (X : Stand p l e R s m args below meth c T locs cells slots) (hx : p.tables.exec = Jvm.exec) {Qb : Option Value → Heap → List Loc → Prop} {C S : Nat} {pc : Nat} {Ls : Array Slot} (hlocks : meth.locks = false) (hret : meth.sig.returnType = none)
    (hd : decode c.code pc = .ok (.return_, 1)) (hC : cells ≤ C) (hS : slots ≤ S) (hq : Qb none T.heap locs) : Run p e below (Ends s Qb C S) (T.setTop (mkF m pc Ls [])) := by
  obtain ⟨fs, hr, hrun, hended, hW, hsame⟩ := X.leave (v := none) (fun _ => rfl) hlocks
  exact ⟨_, _, X.returnOut hx hret hd hr, hrun, hended, _, _, rfl, hq, ⟨_, rfl⟩, hW, hsame.mono hC hS⟩
theorem lcYes {cd : ClassFile.Cond} {x y : Int64} {b : Bool} (h : ifCond.holds cd (Jvm.Free.XT.cmpL x y) = b) : ifCond.holds cd (lcmpW x y) = b := h
theorem nb01 {P : Prop} [Decidable P] : narrow .boolean (.int (if P then (1 : Int32) else (0 : Int32))) = .int (if P then (1 : Int32) else (0 : Int32)) := by split <;> rfl
theorem staK {Z : State} {h h' : Heap} {C n d : String} {v : Value} {ws : List Addr} (F : Sta Z h C n d v) (K : Keep h h' ws) (q : ∀ x ∈ ws, ∀ c : Cell, h[x]? = some c → c.vm.isStatics = false) : Sta Z h' C n d v := by
  obtain ⟨cf, i, k, f, st, cell, h1, h2, h3, h4, h5, h6, h7⟩ := F
  refine ⟨cf, i, k, f, st, cell, h1, h2, h3, h4, K.2.1 st cell h5 (fun m => ?_), h6, h7⟩
  have := q st m cell h5
  rw [h6] at this
  cases this
theorem exaP {Z : State} {h : Heap} {a : Addr} {C : String} (E : Exa Z h a C) : ∀ c : Cell, h[a]? = some c → c.vm.isStatics = false := fun c hc => by
  obtain ⟨cell, k, h1, -, -, h4, -⟩ := E
  cases h1.symm.trans hc
  exact h4
theorem arvP {Z : State} {h : Heap} {a : Addr} {k : ClassId} {ty : FieldType} {n : Int32} {vs : List Value} {d : Value} (E : Arv Z h a k ty n vs d) : ∀ c : Cell, h[a]? = some c → c.vm.isStatics = false := fun c hc => by
  obtain ⟨cell, A, -⟩ := E
  cases A.1.symm.trans hc
  exact A.plain
theorem selSelf {s : State} {args : Array Value} {y : MethodName} {n : Nat} (wi : (Jvm.Cond.instantiable y.cls n).before args s = true) (hp : s.PrivateAt y) (hi : (Jvm.Cond.instanceMethod y).before args s = true) (hy : y.cls ≠ "java/lang/invoke/MethodHandle" ∧ y.cls ≠ "java/lang/invoke/VarHandle") : (Jvm.Cond.selects y.cls y y).before args s = true := by
  obtain ⟨c, k, h1, h2, -, h4, -⟩ := Cond.instantiable_spec wi
  rw [Bool.or_eq_false_iff] at h4
  exact selects_self_of_private h1 h2 h4.1 hp hi hy
theorem own_lsw {tb : Tables} [Ours tb] {e : Env} {below : List Frame} {T target : State} {m : MethodId} {c : Code} {g : JFrame} (h : At T m c below) (hx : tb.exec = Jvm.exec) (hg : g.method = m) {dflt : Int} {ps : Array (Int × Int)} {len : Nat} {o : Int} {pc0 pc' : Nat} (hpc : g.pc = pc0) (hd : decode c.code g.pc = .ok (.lookupswitch dflt ps, len)) {i : Int32} {rest : List Value} (hs : g.stack = .int i :: rest)
    (hsort : ∀ q ∈ ps.toList.zip ps.toList.tail, q.1.1 < q.2.1) (hoff : lookupswitch.offset ps.toList dflt i.toInt = o) (ho : 0 ≤ (pc0 : Int) + o) (hp : ((pc0 : Int) + o).toNat = pc')
    (hr : Steps tb e below (T.setTop { g with pc := pc', stack := rest }) target) : Steps tb e below (T.setTop g) target := by
  subst hg hpc hp
  jvm_step h [h.top, hx, hd, hs, hoff, ho, lookupswitch.wp_chain]
  exact ⟨fun a b a1 b1 q => hsort _ q, hr⟩
theorem ord_v {args : Array Value} {s : State} {t : Term} {C n d : String} {k : Int32} {a : Addr} (ht : t.eval args s none [] s = some (.ref a)) (h : (Jvm.Cond.eq (.field t C n d) (.int k)).value args s none s [] = some true) : Fld s s.heap a C n d (.int k) := by
  refine Fld.start ?_
  rw [← fld_at (C := C) (n := n) (dd := d) ht]
  simp only [Cond.value] at h
  cases hv : (Term.field t C n d).eval args s none [] s with
  | none => simp [hv] at h
  | some v => cases v <;> simp_all [Term.eval]
theorem arr_len {args : Array Value} {s : State} {t : Term} {a : Addr} {cl : Cell} {ty : FieldType} {n : Int32} (ht : t.eval args s none [] s = some (.ref a)) (A : Arr s s.heap a cl ty) (h : (Jvm.Cond.eq (.length t) (.int n)).value args s none s [] = some true) : cl.slots.size < 2 ^ 31 ∧ cl.slots.size.toInt32 = n := by
  have ha := A.fin (Vm.Alike.refl s.vm)
  by_cases q : cl.slots.size < 2 ^ 31
  · refine ⟨q, ?_⟩
    have e := len_f ht ha q
    have e2 : (Term.int n).eval args s none [] s = some (.int n) := rfl
    simp only [Cond.value, e, e2] at h
    simpa using h
  · simp [Cond.value, Term.eval, ht, ha, q] at h
theorem arr_elR {args : Array Value} {s : State} {t u : Term} {a b : Addr} {cl : Cell} {ty : FieldType} {j : Int32} (ht : t.eval args s none [] s = some (.ref a)) (A : Arr s s.heap a cl ty) (h : (Jvm.Cond.eq (.elem t (.int j)) u).value args s none s [] = some true) (hu : u.eval args s none [] s = some (.ref b)) (hj : ¬ j < 0) : cl.slots[j.toNatClampNeg]? = some (.ref b) := by
  have ha := A.fin (Vm.Alike.refl s.vm)
  have e : (Term.elem t (.int j)).eval args s none [] s = cl.slots[j.toNatClampNeg]? := elem_f ht rfl ha hj
  simp only [Cond.value, hu, e] at h
  cases hv : cl.slots[j.toNatClampNeg]? with
  | none => simp [hv] at h
  | some v => cases v <;> simp_all
theorem arr_elI {args : Array Value} {s : State} {t : Term} {a : Addr} {cl : Cell} {ty : FieldType} {j k : Int32} (ht : t.eval args s none [] s = some (.ref a)) (A : Arr s s.heap a cl ty) (h : (Jvm.Cond.eq (.elem t (.int j)) (.int k)).value args s none s [] = some true) (hj : ¬ j < 0) : cl.slots[j.toNatClampNeg]? = some (.int k) := by
  have ha := A.fin (Vm.Alike.refl s.vm)
  have e : (Term.elem t (.int j)).eval args s none [] s = cl.slots[j.toNatClampNeg]? := elem_f ht rfl ha hj
  have e2 : (Term.int k).eval args s none [] s = some (.int k) := rfl
  simp only [Cond.value, e, e2] at h
  cases hv : cl.slots[j.toNatClampNeg]? with
  | none => simp [hv] at h
  | some v => cases v <;> simp_all
theorem inb32 {j z : Int32} {n : Int} (hz : z.toInt = n) (h0 : 0 ≤ j.toInt) (h1 : j.toInt < n) : ¬ j < 0 ∧ j < z := by
  rw [Int32.lt_iff_toInt_lt, Int32.lt_iff_toInt_lt, hz]
  have : (0 : Int32).toInt = 0 := by decide
  omega
theorem own_nn {n : Int32} (h : 0 ≤ n.toInt) : ¬ n < 0 := by
  rw [Int32.lt_iff_toInt_lt]
  have : (0 : Int32).toInt = 0 := by decide
  omega
theorem own_cap {n : Int32} {c : Nat} (h : n.toInt < (c : Int) + 1) : n.toNatClampNeg ≤ c := by
  simp only [Int32.toNatClampNeg]
  omega
theorem own_fin (x : Int32) (n : Nat) (hn : n < 2147483648) (h0 : 0 ≤ x.toInt) (h1 : x.toInt < n) : ∃ i : Fin n, x = Int32.ofNat i.1 := by
  refine ⟨⟨x.toInt.toNat, by omega⟩, Int32.toInt_inj.mp ?_⟩
  show x.toInt = (Int32.ofNat x.toInt.toNat).toInt
  rw [Int32.toInt_ofNat_small (by omega)]
  omega
end OwnRun
theorem d4_0 : decode jdk_37_method_2_code 0 = .ok (.aload_n 0, 1) := by decide +kernel
theorem d4_1 : decode jdk_37_method_2_code 1 = .ok (.getfield 7, 3) := by decide +kernel
theorem d4_4 : decode jdk_37_method_2_code 4 = .ok (.ireturn, 1) := by decide +kernel
theorem pn_0 : plainName "java/lang/Enum" = true := by first | (simp [plainName, overriddenIn]; done) | decide +kernel
theorem ef_Ord (m : MethodId) (a0 : Addr) : entryFrame m #[(.ref a0)] 1 = mkF m 0 #[.val (.ref a0)] [] := by first | (simp [entryFrame, mkF, argsToLocals, Value.category]; done) | rfl
def QOrd (Z : State) (a0 : Addr) (od : Int32) (h0 : Heap) (n0 : Nat) (v : Option Value) (h : Heap) (L : List Loc) : Prop := v = some (.int od) ∧ Fr n0 L ∧ h = h0
set_option maxRecDepth 65536 in
set_option maxHeartbeats 40000000 in
theorem rmOrd (l : Launch) (Z : State) (aV : Array Value) (hw : ∀ d ∈ tables_1, d.before aV Z = true) (ws : List Jvm.Cond) (a0 : Addr) (od : Int32) (h0 : Heap) (n0 : Nat) (Zn : n0 ≤ h0.size) (F_o : Fld Z h0 a0 "java/lang/Enum" "ordinal" "I" (.int od)) :
    MetFree l (⟨"java/lang/Enum", "ordinal", "()I"⟩ : MethodName) (head1 (Jvm.Cond.code (⟨"java/lang/Enum", "ordinal", "()I"⟩ : MethodName) jdk_37_method_2_code 1 (some .int) :: ws) ({ frames := 0, cells := 0, slots := 0, locals := 0 } : Room)) (fun a U => a = #[(.ref a0)] ∧ Z.Warmed39 U.vm ∧ U.heap = h0) (fun _ _ _ _ _ => True) (fun _ U o U' => ∃ v L, o = .returned v ∧ QOrd Z a0 od h0 n0 v U'.heap L ∧ FrameEnd U o U' L ({ frames := 0, cells := 0, slots := 0, locals := 0 } : Room).cells ({ frames := 0, cells := 0, slots := 0, locals := 0 } : Room).slots) := by
  refine MetFree.of_bodySF (plainFor_of_name pn_0) hisR ?_
  intro p e s m args below meth c s₁ Bd hml0 hP hK
  obtain ⟨rfl, hZ, hh⟩ := hP
  have hx := Bd.exec
  have hby := Bd.bytes
  have hml : c.maxLocals = 1 := hml0
  have hown : s.vm.findClass "java/lang/Enum" = some m.cls := findClass_of_methodNamed Bd.named
  have hnm := (name_of_methodNamed Bd.named Bd.method).1
  have X0 : Stand p l e ({ frames := 0, cells := 0, slots := 0, locals := 0 } : Room) s m #[(.ref a0)] below meth c s₁ [] 0 0 := Stand.of_body Bd
  have e0 : s₁.heap = h0 := by rw [← hh, Bd.state]; rfl
  have N0 := Fr.nil n0
  have Kp := Keep.refl h0 []
  show Run p e below (Ends s (QOrd Z a0 od h0 n0) ({ frames := 0, cells := 0, slots := 0, locals := 0 } : Room).cells ({ frames := 0, cells := 0, slots := 0, locals := 0 } : Room).slots) _
  refine Run.st (S' := s₁.setTop (mkF m 0 #[.val (.ref a0)] [])) (fun t k => castTop (ef_Ord m a0) k) ?_
  refine Run.st (S' := s₁.setTop (mkF m 1 #[.val (.ref a0)] [(.ref a0)])) (fun _ k => XS.aloadN X0.here hx rfl (hb hby d4_0) rfl rfl k) ?_
  obtain ⟨T1, X1, e1, st1⟩ := getF X0 hx hZ hown (host := "") (Or.inl (hw _ (List.mem_of_getElem? (i := 26) rfl))) Via.refl e0 F_o (g := (mkF m 1 #[.val (.ref a0)] [(.ref a0)])) rfl rfl (hb hby d4_1)
  refine Run.st (S' := T1.setTop (mkF m 4 #[.val (.ref a0)] [(.int od)])) (fun _ k => st1 _ k) ?_
  refine Run.out X1 hx Bd.notSynchronized Bd.returns rfl (Or.inl ⟨rfl, by simp, _, rfl⟩) (hb hby d4_4) (by decide) (by decide) ?_
  rw [e1]
  exact ⟨rfl, N0, rfl⟩
theorem pd_0 : parseMethodDescriptor "()I" = some ⟨[], some .int⟩ := by decide +kernel
theorem d3_0 : decode prog_25_method_6_code 0 = .ok (.aload_n 0, 1) := by decide +kernel
theorem d3_1 : decode prog_25_method_6_code 1 = .ok (.invokevirtual 51, 3) := by decide +kernel
theorem d3_4 : decode prog_25_method_6_code 4 = .ok (.tableswitch 32 0 3 #[42, 46, 50, 65], 32) := by decide +kernel
theorem d3_46 : decode prog_25_method_6_code 46 = .ok (.iconst 1, 1) := by decide +kernel
theorem d3_47 : decode prog_25_method_6_code 47 = .ok (.goto 34, 3) := by decide +kernel
theorem d3_50 : decode prog_25_method_6_code 50 = .ok (.iconst 0, 1) := by decide +kernel
theorem d3_51 : decode prog_25_method_6_code 51 = .ok (.goto 30, 3) := by decide +kernel
theorem d3_54 : decode prog_25_method_6_code 54 = .ok (.aload_n 1, 1) := by decide +kernel
theorem d3_55 : decode prog_25_method_6_code 55 = .ok (.getstatic 60, 3) := by decide +kernel
theorem d3_58 : decode prog_25_method_6_code 58 = .ok (.if_acmp .ne 7, 3) := by decide +kernel
theorem d3_61 : decode prog_25_method_6_code 61 = .ok (.iconst 1, 1) := by decide +kernel
theorem d3_62 : decode prog_25_method_6_code 62 = .ok (.goto 19, 3) := by decide +kernel
theorem d3_65 : decode prog_25_method_6_code 65 = .ok (.iconst 0, 1) := by decide +kernel
theorem d3_66 : decode prog_25_method_6_code 66 = .ok (.goto 15, 3) := by decide +kernel
theorem d3_69 : decode prog_25_method_6_code 69 = .ok (.aload_n 1, 1) := by decide +kernel
theorem d3_70 : decode prog_25_method_6_code 70 = .ok (.getstatic 66, 3) := by decide +kernel
theorem d3_73 : decode prog_25_method_6_code 73 = .ok (.if_acmp .eq 7, 3) := by decide +kernel
theorem d3_76 : decode prog_25_method_6_code 76 = .ok (.iconst 1, 1) := by decide +kernel
theorem d3_77 : decode prog_25_method_6_code 77 = .ok (.goto 4, 3) := by decide +kernel
theorem d3_80 : decode prog_25_method_6_code 80 = .ok (.iconst 0, 1) := by decide +kernel
theorem d3_81 : decode prog_25_method_6_code 81 = .ok (.ireturn, 1) := by decide +kernel
theorem pn_1 : plainName "com/example/quittance/quittance/PeriodRule" = true := by first | (simp [plainName, overriddenIn]; done) | decide +kernel
theorem ef_Pays (m : MethodId) (a0 : Addr) (a1 : Addr) : entryFrame m #[(.ref a0), (.ref a1)] 2 = mkF m 0 #[.val (.ref a0), .val (.ref a1)] [] := by first | (simp [entryFrame, mkF, argsToLocals, Value.category]; done) | rfl
def FPays (a0 : Addr) (a1 : Addr) (od : Int32) (s_Permission_GIVEN : Addr) (s_Permission_REFUSED : Addr) : Int32 := (if od = (0 : Int32) then (1 : Int32) else (if od = (1 : Int32) then (0 : Int32) else (if od = (2 : Int32) then (if a1 = s_Permission_GIVEN then (1 : Int32) else (0 : Int32)) else (if od = (3 : Int32) then (if a1 = s_Permission_REFUSED then (0 : Int32) else (1 : Int32)) else (0 : Int32)))))
def QPays (Z : State) (a0 : Addr) (a1 : Addr) (od : Int32) (s_Permission_GIVEN : Addr) (s_Permission_REFUSED : Addr) (h0 : Heap) (n0 : Nat) (v : Option Value) (h : Heap) (L : List Loc) : Prop := v = some (.int (FPays a0 a1 od s_Permission_GIVEN s_Permission_REFUSED)) ∧ Fr n0 L ∧ h = h0
set_option maxRecDepth 65536 in
set_option maxHeartbeats 40000000 in
theorem rmPays (l : Launch) (Z : State) (aV : Array Value) (hw : ∀ d ∈ tables_1, d.before aV Z = true) (ws : List Jvm.Cond) (a0 : Addr) (a1 : Addr) (od : Int32) (s_Permission_GIVEN : Addr) (s_Permission_REFUSED : Addr) (h0 : Heap) (n0 : Nat) (Zn : n0 ≤ h0.size) (ho : od = (0 : Int32) ∨ od = (1 : Int32) ∨ od = (2 : Int32) ∨ od = (3 : Int32)) (E_a0 : Exa Z h0 a0 "com/example/quittance/quittance/PeriodRule") (F_o : Fld Z h0 a0 "java/lang/Enum" "ordinal" "I" (.int od)) (S_s_Permission_GIVEN : Sta Z h0 "com/example/quittance/quittance/Permission" "GIVEN" "Lcom/example/quittance/quittance/Permission;" (.ref s_Permission_GIVEN)) (S_s_Permission_REFUSED : Sta Z h0 "com/example/quittance/quittance/Permission" "REFUSED" "Lcom/example/quittance/quittance/Permission;" (.ref s_Permission_REFUSED)) :
    MetFree l (⟨"com/example/quittance/quittance/PeriodRule", "pays", "(Lcom/example/quittance/quittance/Permission;)Z"⟩ : MethodName) (head1 (Jvm.Cond.code (⟨"com/example/quittance/quittance/PeriodRule", "pays", "(Lcom/example/quittance/quittance/Permission;)Z"⟩ : MethodName) prog_25_method_6_code 2 (some .boolean) :: ws) ({ frames := 1, cells := 0, slots := 0, locals := 12 } : Room)) (fun a U => a = #[(.ref a0), (.ref a1)] ∧ Z.Warmed39 U.vm ∧ U.heap = h0) (fun _ _ _ _ _ => True) (fun _ U o U' => ∃ v L, o = .returned v ∧ QPays Z a0 a1 od s_Permission_GIVEN s_Permission_REFUSED h0 n0 v U'.heap L ∧ FrameEnd U o U' L ({ frames := 1, cells := 0, slots := 0, locals := 12 } : Room).cells ({ frames := 1, cells := 0, slots := 0, locals := 12 } : Room).slots) := by
  refine MetFree.of_bodySF (plainFor_of_name pn_1) hisR ?_
  intro p e s m args below meth c s₁ Bd hml0 hP hK
  obtain ⟨rfl, hZ, hh⟩ := hP
  have hx := Bd.exec
  have hby := Bd.bytes
  have hml : c.maxLocals = 2 := hml0
  have hown : s.vm.findClass "com/example/quittance/quittance/PeriodRule" = some m.cls := findClass_of_methodNamed Bd.named
  have hnm := (name_of_methodNamed Bd.named Bd.method).1
  have X0 : Stand p l e ({ frames := 1, cells := 0, slots := 0, locals := 12 } : Room) s m #[(.ref a0), (.ref a1)] below meth c s₁ [] 0 0 := Stand.of_body Bd
  have e0 : s₁.heap = h0 := by rw [← hh, Bd.state]; rfl
  have N0 := Fr.nil n0
  have Kp := Keep.refl h0 []
  show Run p e below (Ends s (QPays Z a0 a1 od s_Permission_GIVEN s_Permission_REFUSED h0 n0) ({ frames := 1, cells := 0, slots := 0, locals := 12 } : Room).cells ({ frames := 1, cells := 0, slots := 0, locals := 12 } : Room).slots) _
  refine Run.st (S' := s₁.setTop (mkF m 0 #[.val (.ref a0), .val (.ref a1)] [])) (fun t k => castTop (ef_Pays m a0 a1) k) ?_
  refine Run.st (S' := s₁.setTop (mkF m 1 #[.val (.ref a0), .val (.ref a1)] [(.ref a0)])) (fun _ k => XS.aloadN X0.here hx rfl (hb hby d3_0) rfl rfl k) ?_
  obtain ⟨cq1, kq1, q1a, q1b, q1c⟩ := isOf hZ e0 E_a0
  obtain ⟨_, _, ⟨T1, L1, k1, n1⟩, -, X1, ⟨Lc1, hQ1, l1, y1, z1⟩, st1⟩ := X0.virtualBackUp hx (x := (⟨"com/example/quittance/quittance/PeriodRule", "ordinal", "()I"⟩ : MethodName)) (y := (⟨"java/lang/Enum", "ordinal", "()I"⟩ : MethodName)) (owner := "java/lang/Enum") hown (mvT hZ (hw _ (List.mem_of_getElem? (i := 19) rfl))) (mvT hZ (hw _ (List.mem_of_getElem? (i := 20) rfl))) (mvT hZ (hw _ (List.mem_of_getElem? (i := 21) rfl))) (by decide) (mvT hZ (hw _ (List.mem_of_getElem? (i := 23) rfl))) (mvT hZ (hw _ (List.mem_of_getElem? (i := 22) rfl))) (backOf (W := 0) (rmOrd l Z aV hw [] a0 od h0 n0 Zn F_o) hZ (hw _ (List.mem_of_getElem? (i := 25) rfl)) (hw _ (List.mem_of_getElem? (i := 24) rfl)) (by decide) (by decide)) q1a q1c (g := (mkF m 1 #[.val (.ref a0), .val (.ref a1)] [(.ref a0)])) rfl (by rw [hml]; rfl) (Steps.refl _) (argsL := []) (rest := []) (lenOf pd_0 rfl) rfl (by show 2 * 0 + _ ≤ _; exact Nat.le_of_eq rfl) (hb hby d3_1) (fun _ _ => ⟨rfl, e0, (by decide : 0 + 0 ≤ _), (by decide : 0 + 0 ≤ _)⟩)
  dsimp only [Pt.U, Pt.locs, Pt.cells, Pt.slots] at X1 l1 y1 z1 st1 hQ1
  subst l1 y1 z1
  obtain ⟨rfl, N1q, e1⟩ := hQ1
  have N1 := Fr.app N0 N1q
  refine Run.st (S' := T1.setTop (mkF m 4 #[.val (.ref a0), .val (.ref a1)] [(.int od)])) (fun _ k => st1.trans k) ?_
  by_cases hc4_2 : od = (0 : Int32)
  · refine Run.st (S' := T1.setTop (mkF m 81 #[.val (.ref a0), .val (.ref a1)] [(.int (1 : Int32))])) (fun _ k => XS.tswIn X1.here hx rfl (o := 42) (pc0 := 4) (pc' := 46) rfl (hb hby d3_4) rfl (by rw [show od = (0 : Int32) from hc4_2]; decide) (by rw [show od = (0 : Int32) from hc4_2]; decide) (by decide) (by decide) (XS.iconst X1.here hx rfl (hb hby d3_46) (XS.goto X1.here hx rfl (pc0 := 47) (pc' := 81) rfl (hb hby d3_47) (by decide) (by decide) k))) ?_
    refine Run.out X1 hx Bd.notSynchronized Bd.returns rfl (Or.inl ⟨rfl, by simp, _, rfl⟩) (hb hby d3_81) (by decide) (by decide) ?_
    rw [e1]
    exact ⟨by rw [FPays, if_pos hc4_2], N1, rfl⟩
  · by_cases hc4_3 : od = (1 : Int32)
    · refine Run.st (S' := T1.setTop (mkF m 81 #[.val (.ref a0), .val (.ref a1)] [(.int (0 : Int32))])) (fun _ k => XS.tswIn X1.here hx rfl (o := 46) (pc0 := 4) (pc' := 50) rfl (hb hby d3_4) rfl (by rw [show od = (1 : Int32) from hc4_3]; decide) (by rw [show od = (1 : Int32) from hc4_3]; decide) (by decide) (by decide) (XS.iconst X1.here hx rfl (hb hby d3_50) (XS.goto X1.here hx rfl (pc0 := 51) (pc' := 81) rfl (hb hby d3_51) (by decide) (by decide) k))) ?_
      refine Run.out X1 hx Bd.notSynchronized Bd.returns rfl (Or.inl ⟨rfl, by simp, _, rfl⟩) (hb hby d3_81) (by decide) (by decide) ?_
      rw [e1]
      exact ⟨by rw [FPays, if_neg hc4_2, if_pos hc4_3], N1, rfl⟩
    · by_cases hc4_4 : od = (2 : Int32)
      · refine Run.st (S' := T1.setTop (mkF m 55 #[.val (.ref a0), .val (.ref a1)] [(.ref a1)])) (fun _ k => XS.tswIn X1.here hx rfl (o := 50) (pc0 := 4) (pc' := 54) rfl (hb hby d3_4) rfl (by rw [show od = (2 : Int32) from hc4_4]; decide) (by rw [show od = (2 : Int32) from hc4_4]; decide) (by decide) (by decide) (XS.aloadN X1.here hx rfl (hb hby d3_54) rfl rfl k)) ?_
        obtain ⟨T5, X5, e5, st5⟩ := getS2 X1 hx hZ hown (host := "") (Or.inl (hw _ (List.mem_of_getElem? (i := 32) rfl))) Via.refl e1 S_s_Permission_GIVEN (g := (mkF m 55 #[.val (.ref a0), .val (.ref a1)] [(.ref a1)])) rfl (hb hby d3_55)
        refine Run.st (S' := T5.setTop (mkF m 58 #[.val (.ref a0), .val (.ref a1)] [(.ref s_Permission_GIVEN), (.ref a1)])) (fun _ k => st5 _ k) ?_
        by_cases ha58_6 : a1 = s_Permission_GIVEN
        · refine Run.st (S' := T5.setTop (mkF m 81 #[.val (.ref a0), .val (.ref a1)] [(.int (1 : Int32))])) (fun _ k => Jvm.RoadKit.acmp (g := (mkF m 58 #[.val (.ref a0), .val (.ref a1)] [(.ref s_Permission_GIVEN), (.ref a1)])) X5 hx rfl rfl rfl (pc0 := 58) (pc' := 61) (same := true) rfl (hb hby d3_58) rfl (decide_eq_true (congrArg Value.ref ha58_6)) (by decide) (by decide) (XS.iconst X5.here hx rfl (hb hby d3_61) (XS.goto X5.here hx rfl (pc0 := 62) (pc' := 81) rfl (hb hby d3_62) (by decide) (by decide) k))) ?_
          refine Run.out X5 hx Bd.notSynchronized Bd.returns rfl (Or.inl ⟨rfl, by simp, _, rfl⟩) (hb hby d3_81) (by decide) (by decide) ?_
          rw [e5]
          exact ⟨by rw [FPays, if_neg hc4_2, if_neg hc4_3, if_pos hc4_4, if_pos ha58_6], N1, rfl⟩
        · refine Run.st (S' := T5.setTop (mkF m 81 #[.val (.ref a0), .val (.ref a1)] [(.int (0 : Int32))])) (fun _ k => Jvm.RoadKit.acmp (g := (mkF m 58 #[.val (.ref a0), .val (.ref a1)] [(.ref s_Permission_GIVEN), (.ref a1)])) X5 hx rfl rfl rfl (pc0 := 58) (pc' := 65) (same := false) rfl (hb hby d3_58) rfl (decide_eq_false fun q => ha58_6 (Value.ref.inj q)) (by decide) (by decide) (XS.iconst X5.here hx rfl (hb hby d3_65) (XS.goto X5.here hx rfl (pc0 := 66) (pc' := 81) rfl (hb hby d3_66) (by decide) (by decide) k))) ?_
          refine Run.out X5 hx Bd.notSynchronized Bd.returns rfl (Or.inl ⟨rfl, by simp, _, rfl⟩) (hb hby d3_81) (by decide) (by decide) ?_
          rw [e5]
          exact ⟨by rw [FPays, if_neg hc4_2, if_neg hc4_3, if_pos hc4_4, if_neg ha58_6], N1, rfl⟩
      · by_cases hc4_7 : od = (3 : Int32)
        · refine Run.st (S' := T1.setTop (mkF m 70 #[.val (.ref a0), .val (.ref a1)] [(.ref a1)])) (fun _ k => XS.tswIn X1.here hx rfl (o := 65) (pc0 := 4) (pc' := 69) rfl (hb hby d3_4) rfl (by rw [show od = (3 : Int32) from hc4_7]; decide) (by rw [show od = (3 : Int32) from hc4_7]; decide) (by decide) (by decide) (XS.aloadN X1.here hx rfl (hb hby d3_69) rfl rfl k)) ?_
          obtain ⟨T8, X8, e8, st8⟩ := getS2 X1 hx hZ hown (host := "") (Or.inl (hw _ (List.mem_of_getElem? (i := 39) rfl))) Via.refl e1 S_s_Permission_REFUSED (g := (mkF m 70 #[.val (.ref a0), .val (.ref a1)] [(.ref a1)])) rfl (hb hby d3_70)
          refine Run.st (S' := T8.setTop (mkF m 73 #[.val (.ref a0), .val (.ref a1)] [(.ref s_Permission_REFUSED), (.ref a1)])) (fun _ k => st8 _ k) ?_
          by_cases ha73_9 : a1 = s_Permission_REFUSED
          · refine Run.st (S' := T8.setTop (mkF m 81 #[.val (.ref a0), .val (.ref a1)] [(.int (0 : Int32))])) (fun _ k => Jvm.RoadKit.acmp (g := (mkF m 73 #[.val (.ref a0), .val (.ref a1)] [(.ref s_Permission_REFUSED), (.ref a1)])) X8 hx rfl rfl rfl (pc0 := 73) (pc' := 80) (same := true) rfl (hb hby d3_73) rfl (decide_eq_true (congrArg Value.ref ha73_9)) (by decide) (by decide) (XS.iconst X8.here hx rfl (hb hby d3_80) k)) ?_
            refine Run.out X8 hx Bd.notSynchronized Bd.returns rfl (Or.inl ⟨rfl, by simp, _, rfl⟩) (hb hby d3_81) (by decide) (by decide) ?_
            rw [e8]
            exact ⟨by rw [FPays, if_neg hc4_2, if_neg hc4_3, if_neg hc4_4, if_pos hc4_7, if_pos ha73_9], N1, rfl⟩
          · refine Run.st (S' := T8.setTop (mkF m 81 #[.val (.ref a0), .val (.ref a1)] [(.int (1 : Int32))])) (fun _ k => Jvm.RoadKit.acmp (g := (mkF m 73 #[.val (.ref a0), .val (.ref a1)] [(.ref s_Permission_REFUSED), (.ref a1)])) X8 hx rfl rfl rfl (pc0 := 73) (pc' := 76) (same := false) rfl (hb hby d3_73) rfl (decide_eq_false fun q => ha73_9 (Value.ref.inj q)) (by decide) (by decide) (XS.iconst X8.here hx rfl (hb hby d3_76) (XS.goto X8.here hx rfl (pc0 := 77) (pc' := 81) rfl (hb hby d3_77) (by decide) (by decide) k))) ?_
            refine Run.out X8 hx Bd.notSynchronized Bd.returns rfl (Or.inl ⟨rfl, by simp, _, rfl⟩) (hb hby d3_81) (by decide) (by decide) ?_
            rw [e8]
            exact ⟨by rw [FPays, if_neg hc4_2, if_neg hc4_3, if_neg hc4_4, if_pos hc4_7, if_neg ha73_9], N1, rfl⟩
        · rcases ho with h | h | h | h <;> first | exact absurd h hc4_2 | exact absurd h hc4_3 | exact absurd h hc4_4 | exact absurd h hc4_7
theorem d1_0 : decode method_2_code 0 = .ok (.iload_n 0, 1) := by decide +kernel
theorem d1_1 : decode method_2_code 1 = .ok (.ifCond .ne 7, 3) := by decide +kernel
theorem d1_4 : decode method_2_code 4 = .ok (.getstatic 7, 3) := by decide +kernel
theorem d1_7 : decode method_2_code 7 = .ok (.areturn, 1) := by decide +kernel
theorem d1_8 : decode method_2_code 8 = .ok (.iload_n 0, 1) := by decide +kernel
theorem d1_9 : decode method_2_code 9 = .ok (.iconst 1, 1) := by decide +kernel
theorem d1_10 : decode method_2_code 10 = .ok (.if_icmp .ne 7, 3) := by decide +kernel
theorem d1_13 : decode method_2_code 13 = .ok (.getstatic 13, 3) := by decide +kernel
theorem d1_16 : decode method_2_code 16 = .ok (.areturn, 1) := by decide +kernel
theorem d1_17 : decode method_2_code 17 = .ok (.iload_n 0, 1) := by decide +kernel
theorem d1_18 : decode method_2_code 18 = .ok (.iconst 2, 1) := by decide +kernel
theorem d1_19 : decode method_2_code 19 = .ok (.if_icmp .ne 7, 3) := by decide +kernel
theorem d1_22 : decode method_2_code 22 = .ok (.getstatic 16, 3) := by decide +kernel
theorem d1_25 : decode method_2_code 25 = .ok (.areturn, 1) := by decide +kernel
theorem d1_26 : decode method_2_code 26 = .ok (.getstatic 19, 3) := by decide +kernel
theorem d1_29 : decode method_2_code 29 = .ok (.areturn, 1) := by decide +kernel
theorem pn_2 : plainName "com/example/quittance/quittance/PeriodRulePaysPinLaw" = true := by first | (simp [plainName, overriddenIn]; done) | decide +kernel
theorem ef_Rule (m : MethodId) (p0 : Int32) : entryFrame m #[(.int p0)] 1 = mkF m 0 #[.val (.int p0)] [] := by first | (simp [entryFrame, mkF, argsToLocals, Value.category]; done) | rfl
def FRule (p0 : Int32) (s_PeriodRule_YES : Addr) (s_PeriodRule_NO : Addr) (s_PeriodRule_PERMISSION : Addr) (s_PeriodRule_NEGATIVE_PERMISSION : Addr) : Addr := (if p0 = (0 : Int32) then s_PeriodRule_YES else (if p0 = (1 : Int32) then s_PeriodRule_NO else (if p0 = (2 : Int32) then s_PeriodRule_PERMISSION else s_PeriodRule_NEGATIVE_PERMISSION)))
def QRule (Z : State) (p0 : Int32) (s_PeriodRule_YES : Addr) (s_PeriodRule_NO : Addr) (s_PeriodRule_PERMISSION : Addr) (s_PeriodRule_NEGATIVE_PERMISSION : Addr) (h0 : Heap) (n0 : Nat) (v : Option Value) (h : Heap) (L : List Loc) : Prop := v = some (.ref (FRule p0 s_PeriodRule_YES s_PeriodRule_NO s_PeriodRule_PERMISSION s_PeriodRule_NEGATIVE_PERMISSION)) ∧ Fr n0 L ∧ h = h0
set_option maxRecDepth 65536 in
set_option maxHeartbeats 40000000 in
theorem rmRule (l : Launch) (Z : State) (aV : Array Value) (hw : ∀ d ∈ tables_1, d.before aV Z = true) (ws : List Jvm.Cond) (p0 : Int32) (s_PeriodRule_YES : Addr) (s_PeriodRule_NO : Addr) (s_PeriodRule_PERMISSION : Addr) (s_PeriodRule_NEGATIVE_PERMISSION : Addr) (h0 : Heap) (n0 : Nat) (Zn : n0 ≤ h0.size) (S_s_PeriodRule_YES : Sta Z h0 "com/example/quittance/quittance/PeriodRule" "YES" "Lcom/example/quittance/quittance/PeriodRule;" (.ref s_PeriodRule_YES)) (S_s_PeriodRule_NO : Sta Z h0 "com/example/quittance/quittance/PeriodRule" "NO" "Lcom/example/quittance/quittance/PeriodRule;" (.ref s_PeriodRule_NO)) (S_s_PeriodRule_PERMISSION : Sta Z h0 "com/example/quittance/quittance/PeriodRule" "PERMISSION" "Lcom/example/quittance/quittance/PeriodRule;" (.ref s_PeriodRule_PERMISSION)) (S_s_PeriodRule_NEGATIVE_PERMISSION : Sta Z h0 "com/example/quittance/quittance/PeriodRule" "NEGATIVE_PERMISSION" "Lcom/example/quittance/quittance/PeriodRule;" (.ref s_PeriodRule_NEGATIVE_PERMISSION)) :
    MetFree l (⟨"com/example/quittance/quittance/PeriodRulePaysPinLaw", "rule", "(I)Lcom/example/quittance/quittance/PeriodRule;"⟩ : MethodName) (head1 (Jvm.Cond.code (⟨"com/example/quittance/quittance/PeriodRulePaysPinLaw", "rule", "(I)Lcom/example/quittance/quittance/PeriodRule;"⟩ : MethodName) method_2_code 1 (some (.object "com/example/quittance/quittance/PeriodRule")) :: ws) ({ frames := 0, cells := 0, slots := 0, locals := 0 } : Room)) (fun a U => a = #[(.int p0)] ∧ Z.Warmed39 U.vm ∧ U.heap = h0) (fun _ _ _ _ _ => True) (fun _ U o U' => ∃ v L, o = .returned v ∧ QRule Z p0 s_PeriodRule_YES s_PeriodRule_NO s_PeriodRule_PERMISSION s_PeriodRule_NEGATIVE_PERMISSION h0 n0 v U'.heap L ∧ FrameEnd U o U' L ({ frames := 0, cells := 0, slots := 0, locals := 0 } : Room).cells ({ frames := 0, cells := 0, slots := 0, locals := 0 } : Room).slots) := by
  refine MetFree.of_bodySF (plainFor_of_name pn_2) hisR ?_
  intro p e s m args below meth c s₁ Bd hml0 hP hK
  obtain ⟨rfl, hZ, hh⟩ := hP
  have hx := Bd.exec
  have hby := Bd.bytes
  have hml : c.maxLocals = 1 := hml0
  have hown : s.vm.findClass "com/example/quittance/quittance/PeriodRulePaysPinLaw" = some m.cls := findClass_of_methodNamed Bd.named
  have hnm := (name_of_methodNamed Bd.named Bd.method).1
  have X0 : Stand p l e ({ frames := 0, cells := 0, slots := 0, locals := 0 } : Room) s m #[(.int p0)] below meth c s₁ [] 0 0 := Stand.of_body Bd
  have e0 : s₁.heap = h0 := by rw [← hh, Bd.state]; rfl
  have N0 := Fr.nil n0
  have Kp := Keep.refl h0 []
  show Run p e below (Ends s (QRule Z p0 s_PeriodRule_YES s_PeriodRule_NO s_PeriodRule_PERMISSION s_PeriodRule_NEGATIVE_PERMISSION h0 n0) ({ frames := 0, cells := 0, slots := 0, locals := 0 } : Room).cells ({ frames := 0, cells := 0, slots := 0, locals := 0 } : Room).slots) _
  refine Run.st (S' := s₁.setTop (mkF m 0 #[.val (.int p0)] [])) (fun t k => castTop (ef_Rule m p0) k) ?_
  refine Run.st (S' := s₁.setTop (mkF m 1 #[.val (.int p0)] [(.int p0)])) (fun _ k => XS.iloadN X0.here hx rfl (hb hby d1_0) rfl k) ?_
  by_cases hc1_1 : p0 = (0 : Int32)
  · refine Run.st (S' := s₁.setTop (mkF m 4 #[.val (.int p0)] [])) (fun _ k => XS.ifNo X0.here hx rfl (hb hby d1_1) rfl ((if0 _ _).trans (teq hc1_1).2) k) ?_
    obtain ⟨T2, X2, e2, st2⟩ := getS2 X0 hx hZ hown (host := "") (Or.inl (hw _ (List.mem_of_getElem? (i := 5) rfl))) Via.refl e0 S_s_PeriodRule_YES (g := (mkF m 4 #[.val (.int p0)] [])) rfl (hb hby d1_4)
    refine Run.st (S' := T2.setTop (mkF m 7 #[.val (.int p0)] [(.ref s_PeriodRule_YES)])) (fun _ k => st2 _ k) ?_
    refine Run.out X2 hx Bd.notSynchronized Bd.returns rfl (Or.inr (Or.inr (Or.inr (Or.inr ⟨rfl, rfl, rfl⟩)))) (hb hby d1_7) (by decide) (by decide) ?_
    rw [e2]
    exact ⟨by rw [FRule, if_pos hc1_1], N0, rfl⟩
  · refine Run.st (S' := s₁.setTop (mkF m 10 #[.val (.int p0)] [(.int (1 : Int32)), (.int p0)])) (fun _ k => XS.ifYes X0.here hx rfl (pc0 := 1) (pc' := 8) rfl (hb hby d1_1) rfl ((if0 _ _).trans (feq hc1_1).2) (by decide) (by decide) (XS.iloadN X0.here hx rfl (hb hby d1_8) rfl (XS.iconst X0.here hx rfl (hb hby d1_9) k))) ?_
    by_cases hc10_3 : p0 = (1 : Int32)
    · refine Run.st (S' := s₁.setTop (mkF m 13 #[.val (.int p0)] [])) (fun _ k => XS.icmpNo X0.here hx rfl (hb hby d1_10) rfl (teq hc10_3).2 k) ?_
      obtain ⟨T4, X4, e4, st4⟩ := getS2 X0 hx hZ hown (host := "") (Or.inl (hw _ (List.mem_of_getElem? (i := 35) rfl))) Via.refl e0 S_s_PeriodRule_NO (g := (mkF m 13 #[.val (.int p0)] [])) rfl (hb hby d1_13)
      refine Run.st (S' := T4.setTop (mkF m 16 #[.val (.int p0)] [(.ref s_PeriodRule_NO)])) (fun _ k => st4 _ k) ?_
      refine Run.out X4 hx Bd.notSynchronized Bd.returns rfl (Or.inr (Or.inr (Or.inr (Or.inr ⟨rfl, rfl, rfl⟩)))) (hb hby d1_16) (by decide) (by decide) ?_
      rw [e4]
      exact ⟨by rw [FRule, if_neg hc1_1, if_pos hc10_3], N0, rfl⟩
    · refine Run.st (S' := s₁.setTop (mkF m 19 #[.val (.int p0)] [(.int (2 : Int32)), (.int p0)])) (fun _ k => XS.icmpYes X0.here hx rfl (pc0 := 10) (pc' := 17) rfl (hb hby d1_10) rfl (feq hc10_3).2 (by decide) (by decide) (XS.iloadN X0.here hx rfl (hb hby d1_17) rfl (XS.iconst X0.here hx rfl (hb hby d1_18) k))) ?_
      by_cases hc19_5 : p0 = (2 : Int32)
      · refine Run.st (S' := s₁.setTop (mkF m 22 #[.val (.int p0)] [])) (fun _ k => XS.icmpNo X0.here hx rfl (hb hby d1_19) rfl (teq hc19_5).2 k) ?_
        obtain ⟨T6, X6, e6, st6⟩ := getS2 X0 hx hZ hown (host := "") (Or.inl (hw _ (List.mem_of_getElem? (i := 28) rfl))) Via.refl e0 S_s_PeriodRule_PERMISSION (g := (mkF m 22 #[.val (.int p0)] [])) rfl (hb hby d1_22)
        refine Run.st (S' := T6.setTop (mkF m 25 #[.val (.int p0)] [(.ref s_PeriodRule_PERMISSION)])) (fun _ k => st6 _ k) ?_
        refine Run.out X6 hx Bd.notSynchronized Bd.returns rfl (Or.inr (Or.inr (Or.inr (Or.inr ⟨rfl, rfl, rfl⟩)))) (hb hby d1_25) (by decide) (by decide) ?_
        rw [e6]
        exact ⟨by rw [FRule, if_neg hc1_1, if_neg hc10_3, if_pos hc19_5], N0, rfl⟩
      · refine Run.st (S' := s₁.setTop (mkF m 26 #[.val (.int p0)] [])) (fun _ k => XS.icmpYes X0.here hx rfl (pc0 := 19) (pc' := 26) rfl (hb hby d1_19) rfl (feq hc19_5).2 (by decide) (by decide) k) ?_
        obtain ⟨T7, X7, e7, st7⟩ := getS2 X0 hx hZ hown (host := "") (Or.inl (hw _ (List.mem_of_getElem? (i := 37) rfl))) Via.refl e0 S_s_PeriodRule_NEGATIVE_PERMISSION (g := (mkF m 26 #[.val (.int p0)] [])) rfl (hb hby d1_26)
        refine Run.st (S' := T7.setTop (mkF m 29 #[.val (.int p0)] [(.ref s_PeriodRule_NEGATIVE_PERMISSION)])) (fun _ k => st7 _ k) ?_
        refine Run.out X7 hx Bd.notSynchronized Bd.returns rfl (Or.inr (Or.inr (Or.inr (Or.inr ⟨rfl, rfl, rfl⟩)))) (hb hby d1_29) (by decide) (by decide) ?_
        rw [e7]
        exact ⟨by rw [FRule, if_neg hc1_1, if_neg hc10_3, if_neg hc19_5], N0, rfl⟩
theorem d2_0 : decode method_3_code 0 = .ok (.iload_n 0, 1) := by decide +kernel
theorem d2_1 : decode method_3_code 1 = .ok (.ifCond .ne 7, 3) := by decide +kernel
theorem d2_4 : decode method_3_code 4 = .ok (.getstatic 22, 3) := by decide +kernel
theorem d2_7 : decode method_3_code 7 = .ok (.areturn, 1) := by decide +kernel
theorem d2_8 : decode method_3_code 8 = .ok (.iload_n 0, 1) := by decide +kernel
theorem d2_9 : decode method_3_code 9 = .ok (.iconst 1, 1) := by decide +kernel
theorem d2_10 : decode method_3_code 10 = .ok (.if_icmp .ne 7, 3) := by decide +kernel
theorem d2_13 : decode method_3_code 13 = .ok (.getstatic 28, 3) := by decide +kernel
theorem d2_16 : decode method_3_code 16 = .ok (.areturn, 1) := by decide +kernel
theorem d2_17 : decode method_3_code 17 = .ok (.getstatic 31, 3) := by decide +kernel
theorem d2_20 : decode method_3_code 20 = .ok (.areturn, 1) := by decide +kernel
theorem ef_Perm (m : MethodId) (p0 : Int32) : entryFrame m #[(.int p0)] 1 = mkF m 0 #[.val (.int p0)] [] := by first | (simp [entryFrame, mkF, argsToLocals, Value.category]; done) | rfl
def FPerm (p0 : Int32) (s_Permission_NOT_STATED : Addr) (s_Permission_GIVEN : Addr) (s_Permission_REFUSED : Addr) : Addr := (if p0 = (0 : Int32) then s_Permission_NOT_STATED else (if p0 = (1 : Int32) then s_Permission_GIVEN else s_Permission_REFUSED))
def QPerm (Z : State) (p0 : Int32) (s_Permission_NOT_STATED : Addr) (s_Permission_GIVEN : Addr) (s_Permission_REFUSED : Addr) (h0 : Heap) (n0 : Nat) (v : Option Value) (h : Heap) (L : List Loc) : Prop := v = some (.ref (FPerm p0 s_Permission_NOT_STATED s_Permission_GIVEN s_Permission_REFUSED)) ∧ Fr n0 L ∧ h = h0
set_option maxRecDepth 65536 in
set_option maxHeartbeats 40000000 in
theorem rmPerm (l : Launch) (Z : State) (aV : Array Value) (hw : ∀ d ∈ tables_1, d.before aV Z = true) (ws : List Jvm.Cond) (p0 : Int32) (s_Permission_NOT_STATED : Addr) (s_Permission_GIVEN : Addr) (s_Permission_REFUSED : Addr) (h0 : Heap) (n0 : Nat) (Zn : n0 ≤ h0.size) (S_s_Permission_NOT_STATED : Sta Z h0 "com/example/quittance/quittance/Permission" "NOT_STATED" "Lcom/example/quittance/quittance/Permission;" (.ref s_Permission_NOT_STATED)) (S_s_Permission_GIVEN : Sta Z h0 "com/example/quittance/quittance/Permission" "GIVEN" "Lcom/example/quittance/quittance/Permission;" (.ref s_Permission_GIVEN)) (S_s_Permission_REFUSED : Sta Z h0 "com/example/quittance/quittance/Permission" "REFUSED" "Lcom/example/quittance/quittance/Permission;" (.ref s_Permission_REFUSED)) :
    MetFree l (⟨"com/example/quittance/quittance/PeriodRulePaysPinLaw", "permission", "(I)Lcom/example/quittance/quittance/Permission;"⟩ : MethodName) (head1 (Jvm.Cond.code (⟨"com/example/quittance/quittance/PeriodRulePaysPinLaw", "permission", "(I)Lcom/example/quittance/quittance/Permission;"⟩ : MethodName) method_3_code 1 (some (.object "com/example/quittance/quittance/Permission")) :: ws) ({ frames := 0, cells := 0, slots := 0, locals := 0 } : Room)) (fun a U => a = #[(.int p0)] ∧ Z.Warmed39 U.vm ∧ U.heap = h0) (fun _ _ _ _ _ => True) (fun _ U o U' => ∃ v L, o = .returned v ∧ QPerm Z p0 s_Permission_NOT_STATED s_Permission_GIVEN s_Permission_REFUSED h0 n0 v U'.heap L ∧ FrameEnd U o U' L ({ frames := 0, cells := 0, slots := 0, locals := 0 } : Room).cells ({ frames := 0, cells := 0, slots := 0, locals := 0 } : Room).slots) := by
  refine MetFree.of_bodySF (plainFor_of_name pn_2) hisR ?_
  intro p e s m args below meth c s₁ Bd hml0 hP hK
  obtain ⟨rfl, hZ, hh⟩ := hP
  have hx := Bd.exec
  have hby := Bd.bytes
  have hml : c.maxLocals = 1 := hml0
  have hown : s.vm.findClass "com/example/quittance/quittance/PeriodRulePaysPinLaw" = some m.cls := findClass_of_methodNamed Bd.named
  have hnm := (name_of_methodNamed Bd.named Bd.method).1
  have X0 : Stand p l e ({ frames := 0, cells := 0, slots := 0, locals := 0 } : Room) s m #[(.int p0)] below meth c s₁ [] 0 0 := Stand.of_body Bd
  have e0 : s₁.heap = h0 := by rw [← hh, Bd.state]; rfl
  have N0 := Fr.nil n0
  have Kp := Keep.refl h0 []
  show Run p e below (Ends s (QPerm Z p0 s_Permission_NOT_STATED s_Permission_GIVEN s_Permission_REFUSED h0 n0) ({ frames := 0, cells := 0, slots := 0, locals := 0 } : Room).cells ({ frames := 0, cells := 0, slots := 0, locals := 0 } : Room).slots) _
  refine Run.st (S' := s₁.setTop (mkF m 0 #[.val (.int p0)] [])) (fun t k => castTop (ef_Perm m p0) k) ?_
  refine Run.st (S' := s₁.setTop (mkF m 1 #[.val (.int p0)] [(.int p0)])) (fun _ k => XS.iloadN X0.here hx rfl (hb hby d2_0) rfl k) ?_
  by_cases hc1_1 : p0 = (0 : Int32)
  · refine Run.st (S' := s₁.setTop (mkF m 4 #[.val (.int p0)] [])) (fun _ k => XS.ifNo X0.here hx rfl (hb hby d2_1) rfl ((if0 _ _).trans (teq hc1_1).2) k) ?_
    obtain ⟨T2, X2, e2, st2⟩ := getS2 X0 hx hZ hown (host := "") (Or.inl (hw _ (List.mem_of_getElem? (i := 11) rfl))) Via.refl e0 S_s_Permission_NOT_STATED (g := (mkF m 4 #[.val (.int p0)] [])) rfl (hb hby d2_4)
    refine Run.st (S' := T2.setTop (mkF m 7 #[.val (.int p0)] [(.ref s_Permission_NOT_STATED)])) (fun _ k => st2 _ k) ?_
    refine Run.out X2 hx Bd.notSynchronized Bd.returns rfl (Or.inr (Or.inr (Or.inr (Or.inr ⟨rfl, rfl, rfl⟩)))) (hb hby d2_7) (by decide) (by decide) ?_
    rw [e2]
    exact ⟨by rw [FPerm, if_pos hc1_1], N0, rfl⟩
  · refine Run.st (S' := s₁.setTop (mkF m 10 #[.val (.int p0)] [(.int (1 : Int32)), (.int p0)])) (fun _ k => XS.ifYes X0.here hx rfl (pc0 := 1) (pc' := 8) rfl (hb hby d2_1) rfl ((if0 _ _).trans (feq hc1_1).2) (by decide) (by decide) (XS.iloadN X0.here hx rfl (hb hby d2_8) rfl (XS.iconst X0.here hx rfl (hb hby d2_9) k))) ?_
    by_cases hc10_3 : p0 = (1 : Int32)
    · refine Run.st (S' := s₁.setTop (mkF m 13 #[.val (.int p0)] [])) (fun _ k => XS.icmpNo X0.here hx rfl (hb hby d2_10) rfl (teq hc10_3).2 k) ?_
      obtain ⟨T4, X4, e4, st4⟩ := getS2 X0 hx hZ hown (host := "") (Or.inl (hw _ (List.mem_of_getElem? (i := 30) rfl))) Via.refl e0 S_s_Permission_GIVEN (g := (mkF m 13 #[.val (.int p0)] [])) rfl (hb hby d2_13)
      refine Run.st (S' := T4.setTop (mkF m 16 #[.val (.int p0)] [(.ref s_Permission_GIVEN)])) (fun _ k => st4 _ k) ?_
      refine Run.out X4 hx Bd.notSynchronized Bd.returns rfl (Or.inr (Or.inr (Or.inr (Or.inr ⟨rfl, rfl, rfl⟩)))) (hb hby d2_16) (by decide) (by decide) ?_
      rw [e4]
      exact ⟨by rw [FPerm, if_neg hc1_1, if_pos hc10_3], N0, rfl⟩
    · refine Run.st (S' := s₁.setTop (mkF m 17 #[.val (.int p0)] [])) (fun _ k => XS.icmpYes X0.here hx rfl (pc0 := 10) (pc' := 17) rfl (hb hby d2_10) rfl (feq hc10_3).2 (by decide) (by decide) k) ?_
      obtain ⟨T5, X5, e5, st5⟩ := getS2 X0 hx hZ hown (host := "") (Or.inl (hw _ (List.mem_of_getElem? (i := 33) rfl))) Via.refl e0 S_s_Permission_REFUSED (g := (mkF m 17 #[.val (.int p0)] [])) rfl (hb hby d2_17)
      refine Run.st (S' := T5.setTop (mkF m 20 #[.val (.int p0)] [(.ref s_Permission_REFUSED)])) (fun _ k => st5 _ k) ?_
      refine Run.out X5 hx Bd.notSynchronized Bd.returns rfl (Or.inr (Or.inr (Or.inr (Or.inr ⟨rfl, rfl, rfl⟩)))) (hb hby d2_20) (by decide) (by decide) ?_
      rw [e5]
      exact ⟨by rw [FPerm, if_neg hc1_1, if_neg hc10_3], N0, rfl⟩
theorem own_c4 {x : Int32} (h : 0 ≤ x.toInt ∧ x.toInt < 4) : x = (0 : Int32) ∨ x = (1 : Int32) ∨ x = (2 : Int32) ∨ x = (3 : Int32) := by
  simp only [← Int32.toInt_inj]
  have e0 : (0 : Int32).toInt = 0 := by decide
  have e1 : (1 : Int32).toInt = 1 := by decide
  have e2 : (2 : Int32).toInt = 2 := by decide
  have e3 : (3 : Int32).toInt = 3 := by decide
  omega
theorem own_c3 {x : Int32} (h : 0 ≤ x.toInt ∧ x.toInt < 3) : x = (0 : Int32) ∨ x = (1 : Int32) ∨ x = (2 : Int32) := by
  simp only [← Int32.toInt_inj]
  have e0 : (0 : Int32).toInt = 0 := by decide
  have e1 : (1 : Int32).toInt = 1 := by decide
  have e2 : (2 : Int32).toInt = 2 := by decide
  omega
theorem pd_1 : parseMethodDescriptor "(I)Lcom/example/quittance/quittance/PeriodRule;" = some ⟨[.int], some (.object "com/example/quittance/quittance/PeriodRule")⟩ := by decide +kernel
theorem pd_2 : parseMethodDescriptor "(I)Lcom/example/quittance/quittance/Permission;" = some ⟨[.int], some (.object "com/example/quittance/quittance/Permission")⟩ := by decide +kernel
theorem pd_3 : parseMethodDescriptor "(Lcom/example/quittance/quittance/Permission;)Z" = some ⟨[(.object "com/example/quittance/quittance/Permission")], some .boolean⟩ := by decide +kernel
theorem ef_0 (m : MethodId) (p0 : Int32) (p1 : Int32) : entryFrame m #[(.int p0), (.int p1)] maxLocals = mkF m 0 #[.val (.int p0), .val (.int p1), .unset, .unset, .unset, .unset] [] := by first | (simp [entryFrame, mkF, argsToLocals, Value.category, maxLocals]; done) | rfl
def Q0 (Z : State) (p0 : Int32) (p1 : Int32) (s_PeriodRule_YES : Addr) (s_PeriodRule_NO : Addr) (s_PeriodRule_PERMISSION : Addr) (s_PeriodRule_NEGATIVE_PERMISSION : Addr) (s_Permission_NOT_STATED : Addr) (s_Permission_GIVEN : Addr) (s_Permission_REFUSED : Addr) (h0 : Heap) (n0 : Nat) (v : Option Value) (h : Heap) (L : List Loc) : Prop := v = some (.int 1) ∧ Fr n0 L
set_option maxRecDepth 65536 in
set_option maxHeartbeats 40000000 in
theorem rm0 (l : Launch) (Z : State) (aV : Array Value) (hw : ∀ d ∈ tables_1, d.before aV Z = true) (ws : List Jvm.Cond) (p0 : Int32) (p1 : Int32) (s_PeriodRule_YES : Addr) (s_PeriodRule_NO : Addr) (s_PeriodRule_PERMISSION : Addr) (s_PeriodRule_NEGATIVE_PERMISSION : Addr) (s_Permission_NOT_STATED : Addr) (s_Permission_GIVEN : Addr) (s_Permission_REFUSED : Addr) (h0 : Heap) (n0 : Nat) (Zn : n0 ≤ h0.size) (E_s_PeriodRule_YES : Exa Z h0 s_PeriodRule_YES "com/example/quittance/quittance/PeriodRule") (S_s_PeriodRule_YES : Sta Z h0 "com/example/quittance/quittance/PeriodRule" "YES" "Lcom/example/quittance/quittance/PeriodRule;" (.ref s_PeriodRule_YES)) (F_s_PeriodRule_YES : Fld Z h0 s_PeriodRule_YES "java/lang/Enum" "ordinal" "I" (.int (0 : Int32))) (E_s_PeriodRule_NO : Exa Z h0 s_PeriodRule_NO "com/example/quittance/quittance/PeriodRule") (S_s_PeriodRule_NO : Sta Z h0 "com/example/quittance/quittance/PeriodRule" "NO" "Lcom/example/quittance/quittance/PeriodRule;" (.ref s_PeriodRule_NO)) (F_s_PeriodRule_NO : Fld Z h0 s_PeriodRule_NO "java/lang/Enum" "ordinal" "I" (.int (1 : Int32))) (E_s_PeriodRule_PERMISSION : Exa Z h0 s_PeriodRule_PERMISSION "com/example/quittance/quittance/PeriodRule") (S_s_PeriodRule_PERMISSION : Sta Z h0 "com/example/quittance/quittance/PeriodRule" "PERMISSION" "Lcom/example/quittance/quittance/PeriodRule;" (.ref s_PeriodRule_PERMISSION)) (F_s_PeriodRule_PERMISSION : Fld Z h0 s_PeriodRule_PERMISSION "java/lang/Enum" "ordinal" "I" (.int (2 : Int32))) (E_s_PeriodRule_NEGATIVE_PERMISSION : Exa Z h0 s_PeriodRule_NEGATIVE_PERMISSION "com/example/quittance/quittance/PeriodRule") (S_s_PeriodRule_NEGATIVE_PERMISSION : Sta Z h0 "com/example/quittance/quittance/PeriodRule" "NEGATIVE_PERMISSION" "Lcom/example/quittance/quittance/PeriodRule;" (.ref s_PeriodRule_NEGATIVE_PERMISSION)) (F_s_PeriodRule_NEGATIVE_PERMISSION : Fld Z h0 s_PeriodRule_NEGATIVE_PERMISSION "java/lang/Enum" "ordinal" "I" (.int (3 : Int32))) (S_s_Permission_NOT_STATED : Sta Z h0 "com/example/quittance/quittance/Permission" "NOT_STATED" "Lcom/example/quittance/quittance/Permission;" (.ref s_Permission_NOT_STATED)) (S_s_Permission_GIVEN : Sta Z h0 "com/example/quittance/quittance/Permission" "GIVEN" "Lcom/example/quittance/quittance/Permission;" (.ref s_Permission_GIVEN)) (S_s_Permission_REFUSED : Sta Z h0 "com/example/quittance/quittance/Permission" "REFUSED" "Lcom/example/quittance/quittance/Permission;" (.ref s_Permission_REFUSED)) (hne1 : s_Permission_NOT_STATED ≠ s_Permission_GIVEN) (hne2 : s_Permission_NOT_STATED ≠ s_Permission_REFUSED) (hne3 : s_Permission_GIVEN ≠ s_Permission_REFUSED) :
    MetFree l x (head1 (Jvm.Cond.code x code maxLocals ret :: ws) room_1) (fun a U => a = #[(.int p0), (.int p1)] ∧ Z.Warmed39 U.vm ∧ U.heap = h0) (fun _ _ _ _ _ => True) (fun _ U o U' => ∃ v L, o = .returned v ∧ Q0 Z p0 p1 s_PeriodRule_YES s_PeriodRule_NO s_PeriodRule_PERMISSION s_PeriodRule_NEGATIVE_PERMISSION s_Permission_NOT_STATED s_Permission_GIVEN s_Permission_REFUSED h0 n0 v U'.heap L ∧ FrameEnd U o U' L room_1.cells room_1.slots) := by
  refine MetFree.of_bodySF (plainFor_of_name pn_2) hisR ?_
  intro p e s m args below meth c s₁ Bd hml0 hP hK
  obtain ⟨rfl, hZ, hh⟩ := hP
  have hx := Bd.exec
  have hby := Bd.bytes
  have hml : c.maxLocals = 6 := hml0
  have hown : s.vm.findClass "com/example/quittance/quittance/PeriodRulePaysPinLaw" = some m.cls := findClass_of_methodNamed Bd.named
  have hnm := (name_of_methodNamed Bd.named Bd.method).1
  have X0 : Stand p l e room_1 s m #[(.int p0), (.int p1)] below meth c s₁ [] 0 0 := Stand.of_body Bd
  have e0 : s₁.heap = h0 := by rw [← hh, Bd.state]; rfl
  have N0 := Fr.nil n0
  have Kp := Keep.refl h0 []
  show Run p e below (Ends s (Q0 Z p0 p1 s_PeriodRule_YES s_PeriodRule_NO s_PeriodRule_PERMISSION s_PeriodRule_NEGATIVE_PERMISSION s_Permission_NOT_STATED s_Permission_GIVEN s_Permission_REFUSED h0 n0) room_1.cells room_1.slots) _
  refine Run.st (S' := s₁.setTop (mkF m 0 #[.val (.int p0), .val (.int p1), .unset, .unset, .unset, .unset] [])) (fun t k => castTop (ef_0 m p0 p1) k) ?_
  refine Run.st (S' := s₁.setTop (mkF m 9 #[.val (.int p0), .val (.int p1), .val (.int (p0 &&& (3 : Int32))), .unset, .unset, .unset] [(.int (3 : Int32)), (.int (p1 &&& (2147483647 : Int32)))])) (fun _ k => XS.iloadN X0.here hx rfl (hb hby at_0) rfl (XS.iconst X0.here hx rfl (hb hby at_1) (XS.iand X0.here hx rfl (hb hby at_2) rfl (XS.istoreN X0.here hx rfl (hb hby at_3) rfl (l' := #[.val (.int p0), .val (.int p1), .val (.int (p0 &&& (3 : Int32))), .unset, .unset, .unset]) rfl (XS.iloadN X0.here hx rfl (hb hby at_4) rfl (X0.ldcInt hx hown (mvT hZ (hw _ (List.mem_of_getElem? (i := 0) rfl))) (g := (mkF m 5 #[.val (.int p0), .val (.int p1), .val (.int (p0 &&& (3 : Int32))), .unset, .unset, .unset] [(.int p1)])) rfl (hb hby at_5) _ (XS.iand X0.here hx rfl (hb hby at_7) rfl (XS.iconst X0.here hx rfl (hb hby at_8) k)))))))) ?_
  refine Run.st (S' := s₁.setTop (mkF m 11 #[.val (.int p0), .val (.int p1), .val (.int (p0 &&& (3 : Int32))), .val (.int ((p1 &&& (2147483647 : Int32)) % (3 : Int32))), .unset, .unset] [])) (fun _ k => iremM X0 hx rfl (hb hby at_9) rfl (by decide) (XS.istoreN X0.here hx rfl (hb hby at_10) rfl (l' := #[.val (.int p0), .val (.int p1), .val (.int (p0 &&& (3 : Int32))), .val (.int ((p1 &&& (2147483647 : Int32)) % (3 : Int32))), .unset, .unset]) rfl k)) ?_
  have hr : 0 ≤ ((p0 &&& (3 : Int32))).toInt ∧ ((p0 &&& (3 : Int32))).toInt < 4 := (by have := rng32 (p0 &&& (3 : Int32)); have := c_mask p0 (3 : Int32) 2 (by decide) (by decide); have := rng32 p0; (try simp only [Int32.lt_iff_toInt_lt, Int64.lt_iff_toInt_lt, Int32.le_iff_toInt_le, Int64.le_iff_toInt_le, ← Int32.toInt_inj, ← Int64.toInt_inj] at  ⊢); omega)
  generalize er : (p0 &&& (3 : Int32)) = r at hr ⊢
  have hq : 0 ≤ (((p1 &&& (2147483647 : Int32)) % (3 : Int32))).toInt ∧ (((p1 &&& (2147483647 : Int32)) % (3 : Int32))).toInt < 3 := (by have := rng32 ((p1 &&& (2147483647 : Int32)) % (3 : Int32)); have := c_irem (p1 &&& (2147483647 : Int32)) (3 : Int32) 3 (by decide); have := rng32 (p1 &&& (2147483647 : Int32)); have := c_mask p1 (2147483647 : Int32) 31 (by decide) (by decide); have := rng32 p1; (try simp only [Int32.lt_iff_toInt_lt, Int64.lt_iff_toInt_lt, Int32.le_iff_toInt_le, Int64.le_iff_toInt_le, ← Int32.toInt_inj, ← Int64.toInt_inj] at  ⊢); omega)
  generalize eq : ((p1 &&& (2147483647 : Int32)) % (3 : Int32)) = q at hq ⊢
  rcases own_c4 hr with rfl | rfl | rfl | rfl
  · clear hr
    rcases own_c3 hq with rfl | rfl | rfl
    · refine Run.st (S' := s₁.setTop (mkF m 21 #[.val (.int p0), .val (.int p1), .val (.int (0 : Int32)), .val (.int (0 : Int32)), .unset, .unset] [(.int (1 : Int32)), (.int (1671 : Int32))])) (fun _ k => XS.sipush X0.here hx rfl (hb hby at_11) (XS.iconst X0.here hx rfl (hb hby at_14) (XS.iloadN X0.here hx rfl (hb hby at_15) rfl (XS.imul X0.here hx rfl (hb hby at_16) rfl (XS.iloadN X0.here hx rfl (hb hby at_17) rfl (XS.iadd X0.here hx rfl (hb hby at_18) rfl (XS.ishr X0.here hx rfl (hb hby at_19) rfl (XS.iconst X0.here hx rfl (hb hby at_20) k)))))))) ?_
      refine Run.st (S' := s₁.setTop (mkF m 33 #[.val (.int p0), .val (.int p1), .val (.int (0 : Int32)), .val (.int (0 : Int32)), .val (.int (1 : Int32)), .unset] [(.int (0 : Int32))])) (fun _ k => XS.iand X0.here hx rfl (hb hby at_21) rfl (XS.ifNo X0.here hx rfl (hb hby at_22) rfl ((if0 _ _).trans (feq (show ¬ ((1 : Int32) = (0 : Int32)) from (by decide))).1) (XS.iconst X0.here hx rfl (hb hby at_25) (XS.goto X0.here hx rfl (pc0 := 26) (pc' := 30) rfl (hb hby at_26) (by decide) (by decide) (XS.istore X0.here hx rfl (hb hby at_30) rfl (l' := #[.val (.int p0), .val (.int p1), .val (.int (0 : Int32)), .val (.int (0 : Int32)), .val (.int (1 : Int32)), .unset]) rfl (XS.iloadN X0.here hx rfl (hb hby at_32) rfl k)))))) ?_
      obtain ⟨_, _, ⟨T1, L1, k1, n1⟩, -, X1, ⟨Lc1, hQ1, l1, y1, z1⟩, st1⟩ := Jvm.LawKit.callS X0 hx (y := (⟨"com/example/quittance/quittance/PeriodRulePaysPinLaw", "rule", "(I)Lcom/example/quittance/quittance/PeriodRule;"⟩ : MethodName)) hown (mvT hZ (hw _ (List.mem_of_getElem? (i := 1) rfl))) (mvT hZ (hw _ (List.mem_of_getElem? (i := 2) rfl))) (mvT hZ (hw _ (List.mem_of_getElem? (i := 3) rfl))) (mvT hZ (hw _ (List.mem_of_getElem? (i := 4) rfl))) (by decide) (backOf (W := 0) (rmRule l Z aV hw [] (0 : Int32) s_PeriodRule_YES s_PeriodRule_NO s_PeriodRule_PERMISSION s_PeriodRule_NEGATIVE_PERMISSION h0 n0 Zn S_s_PeriodRule_YES S_s_PeriodRule_NO S_s_PeriodRule_PERMISSION S_s_PeriodRule_NEGATIVE_PERMISSION) hZ (hw _ (List.mem_of_getElem? (i := 4) rfl)) (hw _ (List.mem_of_getElem? (i := 3) rfl)) (by decide) (by decide)) (g := (mkF m 33 #[.val (.int p0), .val (.int p1), .val (.int (0 : Int32)), .val (.int (0 : Int32)), .val (.int (1 : Int32)), .unset] [(.int (0 : Int32))])) rfl (by rw [hml]; rfl) (argsL := [(.int (0 : Int32))]) (rest := []) (lenOf pd_1 rfl) rfl (by show 2 * 0 + _ ≤ _; exact Nat.le_of_eq rfl) (hb hby at_33) (fun _ _ => ⟨rfl, e0, (by decide : 0 + 0 ≤ _), (by decide : 0 + 0 ≤ _)⟩)
      dsimp only [Pt.U, Pt.locs, Pt.cells, Pt.slots] at X1 l1 y1 z1 st1 hQ1
      subst l1 y1 z1
      obtain ⟨rfl, N1q, e1⟩ := hQ1
      have N1 := Fr.app N0 N1q
      rw [show (FRule (0 : Int32) s_PeriodRule_YES s_PeriodRule_NO s_PeriodRule_PERMISSION s_PeriodRule_NEGATIVE_PERMISSION) = s_PeriodRule_YES from rfl] at st1
      refine Run.st (S' := T1.setTop (mkF m 37 #[.val (.int p0), .val (.int p1), .val (.int (0 : Int32)), .val (.int (0 : Int32)), .val (.int (1 : Int32)), .unset] [(.int (0 : Int32)), (.ref s_PeriodRule_YES)])) (fun _ k => st1 _ (XS.iloadN X1.here hx rfl (hb hby at_36) rfl k)) ?_
      obtain ⟨_, _, ⟨T2, L2, k2, n2⟩, -, X2, ⟨Lc2, hQ2, l2, y2, z2⟩, st2⟩ := Jvm.LawKit.callS X1 hx (y := (⟨"com/example/quittance/quittance/PeriodRulePaysPinLaw", "permission", "(I)Lcom/example/quittance/quittance/Permission;"⟩ : MethodName)) hown (mvT hZ (hw _ (List.mem_of_getElem? (i := 8) rfl))) (mvT hZ (hw _ (List.mem_of_getElem? (i := 9) rfl))) (mvT hZ (hw _ (List.mem_of_getElem? (i := 3) rfl))) (mvT hZ (hw _ (List.mem_of_getElem? (i := 10) rfl))) (by decide) (backOf (W := 1) (rmPerm l Z aV hw [] (0 : Int32) s_Permission_NOT_STATED s_Permission_GIVEN s_Permission_REFUSED h0 n0 Zn S_s_Permission_NOT_STATED S_s_Permission_GIVEN S_s_Permission_REFUSED) hZ (hw _ (List.mem_of_getElem? (i := 10) rfl)) (hw _ (List.mem_of_getElem? (i := 3) rfl)) (by decide) (by decide)) (g := (mkF m 37 #[.val (.int p0), .val (.int p1), .val (.int (0 : Int32)), .val (.int (0 : Int32)), .val (.int (1 : Int32)), .unset] [(.int (0 : Int32)), (.ref s_PeriodRule_YES)])) rfl (by rw [hml]; rfl) (argsL := [(.int (0 : Int32))]) (rest := [(.ref s_PeriodRule_YES)]) (lenOf pd_2 rfl) rfl (by show 2 * 0 + _ ≤ _; exact Nat.le_of_eq rfl) (hb hby at_37) (fun _ _ => ⟨rfl, e1, (by decide : 0 + 0 ≤ _), (by decide : 0 + 0 ≤ _)⟩)
      dsimp only [Pt.U, Pt.locs, Pt.cells, Pt.slots] at X2 l2 y2 z2 st2 hQ2
      subst l2 y2 z2
      obtain ⟨rfl, N2q, e2⟩ := hQ2
      have N2 := Fr.app N1 N2q
      rw [show (FPerm (0 : Int32) s_Permission_NOT_STATED s_Permission_GIVEN s_Permission_REFUSED) = s_Permission_NOT_STATED from rfl] at st2
      refine Run.st (S' := T2.setTop (mkF m 40 #[.val (.int p0), .val (.int p1), .val (.int (0 : Int32)), .val (.int (0 : Int32)), .val (.int (1 : Int32)), .unset] [(.ref s_Permission_NOT_STATED), (.ref s_PeriodRule_YES)])) (fun _ k => st2 _ k) ?_
      obtain ⟨cq3, kq3, q3a, q3b, q3c⟩ := isOf hZ e2 E_s_PeriodRule_YES
      obtain ⟨_, _, ⟨T3, L3, k3, n3⟩, -, X3, ⟨Lc3, hQ3, l3, y3, z3⟩, st3⟩ := X2.virtualBack hx (y := (⟨"com/example/quittance/quittance/PeriodRule", "pays", "(Lcom/example/quittance/quittance/Permission;)Z"⟩ : MethodName)) (z := (⟨"com/example/quittance/quittance/PeriodRule", "pays", "(Lcom/example/quittance/quittance/Permission;)Z"⟩ : MethodName)) hown (mvT hZ (hw _ (List.mem_of_getElem? (i := 14) rfl))) (mvT hZ (hw _ (List.mem_of_getElem? (i := 15) rfl))) (notFace_of_selects (args := #[]) (mvT hZ (hw _ (List.mem_of_getElem? (i := 17) rfl)))) (mvT hZ (hw _ (List.mem_of_getElem? (i := 17) rfl))) (mvT hZ (hw _ (List.mem_of_getElem? (i := 16) rfl))) (by decide) (backOf (W := 0) (rmPays l Z aV hw [] s_PeriodRule_YES s_Permission_NOT_STATED (0 : Int32) s_Permission_GIVEN s_Permission_REFUSED h0 n0 Zn (by decide) E_s_PeriodRule_YES F_s_PeriodRule_YES S_s_Permission_GIVEN S_s_Permission_REFUSED) hZ (hw _ (List.mem_of_getElem? (i := 18) rfl)) (hw _ (List.mem_of_getElem? (i := 6) rfl)) (by decide) (by decide)) q3a q3c (g := (mkF m 40 #[.val (.int p0), .val (.int p1), .val (.int (0 : Int32)), .val (.int (0 : Int32)), .val (.int (1 : Int32)), .unset] [(.ref s_Permission_NOT_STATED), (.ref s_PeriodRule_YES)])) rfl (by rw [hml]; rfl) (Steps.refl _) (argsL := [(.ref s_Permission_NOT_STATED)]) (rest := []) (lenOf pd_3 rfl) rfl (by show 2 * 0 + _ ≤ _; exact Nat.le_of_eq rfl) (hb hby at_40) (fun _ _ => ⟨rfl, e2, (by decide : 0 + 0 ≤ _), (by decide : 0 + 0 ≤ _)⟩)
      dsimp only [Pt.U, Pt.locs, Pt.cells, Pt.slots] at X3 l3 y3 z3 st3 hQ3
      subst l3 y3 z3
      obtain ⟨rfl, N3q, e3⟩ := hQ3
      have N3 := Fr.app N2 N3q
      have hv3 : (FPays s_PeriodRule_YES s_Permission_NOT_STATED (0 : Int32) s_Permission_GIVEN s_Permission_REFUSED) = (1 : Int32) := by unfold FPays; simp [hne1, hne2, hne3, Ne.symm hne1, Ne.symm hne2, Ne.symm hne3]
      refine Run.st (S' := T3.setTop (mkF m 57 #[.val (.int p0), .val (.int p1), .val (.int (0 : Int32)), .val (.int (0 : Int32)), .val (.int (1 : Int32)), .val (.int (FPays s_PeriodRule_YES s_Permission_NOT_STATED (0 : Int32) s_Permission_GIVEN s_Permission_REFUSED))] [(.int (1 : Int32))])) (fun _ k => st3.trans (XS.istore X3.here hx rfl (hb hby at_43) rfl (l' := #[.val (.int p0), .val (.int p1), .val (.int (0 : Int32)), .val (.int (0 : Int32)), .val (.int (1 : Int32)), .val (.int (FPays s_PeriodRule_YES s_Permission_NOT_STATED (0 : Int32) s_Permission_GIVEN s_Permission_REFUSED))]) rfl (XS.iload X3.here hx rfl (hb hby at_45) rfl (XS.iload X3.here hx rfl (hb hby at_47) rfl (XS.icmpNo X3.here hx rfl (hb hby at_49) rfl (teq (show (FPays s_PeriodRule_YES s_Permission_NOT_STATED (0 : Int32) s_Permission_GIVEN s_Permission_REFUSED) = (1 : Int32) from hv3)).2 (XS.iconst X3.here hx rfl (hb hby at_52) (XS.goto X3.here hx rfl (pc0 := 53) (pc' := 57) rfl (hb hby at_53) (by decide) (by decide) k))))))) ?_
      refine Run.out X3 hx Bd.notSynchronized Bd.returns rfl (Or.inl ⟨rfl, by simp, _, rfl⟩) (hb hby at_57) (by decide) (by decide) ?_
      rw [e3]
      exact ⟨rfl, N3⟩
    · refine Run.st (S' := s₁.setTop (mkF m 21 #[.val (.int p0), .val (.int p1), .val (.int (0 : Int32)), .val (.int (1 : Int32)), .unset, .unset] [(.int (1 : Int32)), (.int (835 : Int32))])) (fun _ k => XS.sipush X0.here hx rfl (hb hby at_11) (XS.iconst X0.here hx rfl (hb hby at_14) (XS.iloadN X0.here hx rfl (hb hby at_15) rfl (XS.imul X0.here hx rfl (hb hby at_16) rfl (XS.iloadN X0.here hx rfl (hb hby at_17) rfl (XS.iadd X0.here hx rfl (hb hby at_18) rfl (XS.ishr X0.here hx rfl (hb hby at_19) rfl (XS.iconst X0.here hx rfl (hb hby at_20) k)))))))) ?_
      refine Run.st (S' := s₁.setTop (mkF m 33 #[.val (.int p0), .val (.int p1), .val (.int (0 : Int32)), .val (.int (1 : Int32)), .val (.int (1 : Int32)), .unset] [(.int (0 : Int32))])) (fun _ k => XS.iand X0.here hx rfl (hb hby at_21) rfl (XS.ifNo X0.here hx rfl (hb hby at_22) rfl ((if0 _ _).trans (feq (show ¬ ((1 : Int32) = (0 : Int32)) from (by decide))).1) (XS.iconst X0.here hx rfl (hb hby at_25) (XS.goto X0.here hx rfl (pc0 := 26) (pc' := 30) rfl (hb hby at_26) (by decide) (by decide) (XS.istore X0.here hx rfl (hb hby at_30) rfl (l' := #[.val (.int p0), .val (.int p1), .val (.int (0 : Int32)), .val (.int (1 : Int32)), .val (.int (1 : Int32)), .unset]) rfl (XS.iloadN X0.here hx rfl (hb hby at_32) rfl k)))))) ?_
      obtain ⟨_, _, ⟨T4, L4, k4, n4⟩, -, X4, ⟨Lc4, hQ4, l4, y4, z4⟩, st4⟩ := Jvm.LawKit.callS X0 hx (y := (⟨"com/example/quittance/quittance/PeriodRulePaysPinLaw", "rule", "(I)Lcom/example/quittance/quittance/PeriodRule;"⟩ : MethodName)) hown (mvT hZ (hw _ (List.mem_of_getElem? (i := 1) rfl))) (mvT hZ (hw _ (List.mem_of_getElem? (i := 2) rfl))) (mvT hZ (hw _ (List.mem_of_getElem? (i := 3) rfl))) (mvT hZ (hw _ (List.mem_of_getElem? (i := 4) rfl))) (by decide) (backOf (W := 0) (rmRule l Z aV hw [] (0 : Int32) s_PeriodRule_YES s_PeriodRule_NO s_PeriodRule_PERMISSION s_PeriodRule_NEGATIVE_PERMISSION h0 n0 Zn S_s_PeriodRule_YES S_s_PeriodRule_NO S_s_PeriodRule_PERMISSION S_s_PeriodRule_NEGATIVE_PERMISSION) hZ (hw _ (List.mem_of_getElem? (i := 4) rfl)) (hw _ (List.mem_of_getElem? (i := 3) rfl)) (by decide) (by decide)) (g := (mkF m 33 #[.val (.int p0), .val (.int p1), .val (.int (0 : Int32)), .val (.int (1 : Int32)), .val (.int (1 : Int32)), .unset] [(.int (0 : Int32))])) rfl (by rw [hml]; rfl) (argsL := [(.int (0 : Int32))]) (rest := []) (lenOf pd_1 rfl) rfl (by show 2 * 0 + _ ≤ _; exact Nat.le_of_eq rfl) (hb hby at_33) (fun _ _ => ⟨rfl, e0, (by decide : 0 + 0 ≤ _), (by decide : 0 + 0 ≤ _)⟩)
      dsimp only [Pt.U, Pt.locs, Pt.cells, Pt.slots] at X4 l4 y4 z4 st4 hQ4
      subst l4 y4 z4
      obtain ⟨rfl, N4q, e4⟩ := hQ4
      have N4 := Fr.app N0 N4q
      rw [show (FRule (0 : Int32) s_PeriodRule_YES s_PeriodRule_NO s_PeriodRule_PERMISSION s_PeriodRule_NEGATIVE_PERMISSION) = s_PeriodRule_YES from rfl] at st4
      refine Run.st (S' := T4.setTop (mkF m 37 #[.val (.int p0), .val (.int p1), .val (.int (0 : Int32)), .val (.int (1 : Int32)), .val (.int (1 : Int32)), .unset] [(.int (1 : Int32)), (.ref s_PeriodRule_YES)])) (fun _ k => st4 _ (XS.iloadN X4.here hx rfl (hb hby at_36) rfl k)) ?_
      obtain ⟨_, _, ⟨T5, L5, k5, n5⟩, -, X5, ⟨Lc5, hQ5, l5, y5, z5⟩, st5⟩ := Jvm.LawKit.callS X4 hx (y := (⟨"com/example/quittance/quittance/PeriodRulePaysPinLaw", "permission", "(I)Lcom/example/quittance/quittance/Permission;"⟩ : MethodName)) hown (mvT hZ (hw _ (List.mem_of_getElem? (i := 8) rfl))) (mvT hZ (hw _ (List.mem_of_getElem? (i := 9) rfl))) (mvT hZ (hw _ (List.mem_of_getElem? (i := 3) rfl))) (mvT hZ (hw _ (List.mem_of_getElem? (i := 10) rfl))) (by decide) (backOf (W := 1) (rmPerm l Z aV hw [] (1 : Int32) s_Permission_NOT_STATED s_Permission_GIVEN s_Permission_REFUSED h0 n0 Zn S_s_Permission_NOT_STATED S_s_Permission_GIVEN S_s_Permission_REFUSED) hZ (hw _ (List.mem_of_getElem? (i := 10) rfl)) (hw _ (List.mem_of_getElem? (i := 3) rfl)) (by decide) (by decide)) (g := (mkF m 37 #[.val (.int p0), .val (.int p1), .val (.int (0 : Int32)), .val (.int (1 : Int32)), .val (.int (1 : Int32)), .unset] [(.int (1 : Int32)), (.ref s_PeriodRule_YES)])) rfl (by rw [hml]; rfl) (argsL := [(.int (1 : Int32))]) (rest := [(.ref s_PeriodRule_YES)]) (lenOf pd_2 rfl) rfl (by show 2 * 0 + _ ≤ _; exact Nat.le_of_eq rfl) (hb hby at_37) (fun _ _ => ⟨rfl, e4, (by decide : 0 + 0 ≤ _), (by decide : 0 + 0 ≤ _)⟩)
      dsimp only [Pt.U, Pt.locs, Pt.cells, Pt.slots] at X5 l5 y5 z5 st5 hQ5
      subst l5 y5 z5
      obtain ⟨rfl, N5q, e5⟩ := hQ5
      have N5 := Fr.app N4 N5q
      rw [show (FPerm (1 : Int32) s_Permission_NOT_STATED s_Permission_GIVEN s_Permission_REFUSED) = s_Permission_GIVEN from rfl] at st5
      refine Run.st (S' := T5.setTop (mkF m 40 #[.val (.int p0), .val (.int p1), .val (.int (0 : Int32)), .val (.int (1 : Int32)), .val (.int (1 : Int32)), .unset] [(.ref s_Permission_GIVEN), (.ref s_PeriodRule_YES)])) (fun _ k => st5 _ k) ?_
      obtain ⟨cq6, kq6, q6a, q6b, q6c⟩ := isOf hZ e5 E_s_PeriodRule_YES
      obtain ⟨_, _, ⟨T6, L6, k6, n6⟩, -, X6, ⟨Lc6, hQ6, l6, y6, z6⟩, st6⟩ := X5.virtualBack hx (y := (⟨"com/example/quittance/quittance/PeriodRule", "pays", "(Lcom/example/quittance/quittance/Permission;)Z"⟩ : MethodName)) (z := (⟨"com/example/quittance/quittance/PeriodRule", "pays", "(Lcom/example/quittance/quittance/Permission;)Z"⟩ : MethodName)) hown (mvT hZ (hw _ (List.mem_of_getElem? (i := 14) rfl))) (mvT hZ (hw _ (List.mem_of_getElem? (i := 15) rfl))) (notFace_of_selects (args := #[]) (mvT hZ (hw _ (List.mem_of_getElem? (i := 17) rfl)))) (mvT hZ (hw _ (List.mem_of_getElem? (i := 17) rfl))) (mvT hZ (hw _ (List.mem_of_getElem? (i := 16) rfl))) (by decide) (backOf (W := 0) (rmPays l Z aV hw [] s_PeriodRule_YES s_Permission_GIVEN (0 : Int32) s_Permission_GIVEN s_Permission_REFUSED h0 n0 Zn (by decide) E_s_PeriodRule_YES F_s_PeriodRule_YES S_s_Permission_GIVEN S_s_Permission_REFUSED) hZ (hw _ (List.mem_of_getElem? (i := 18) rfl)) (hw _ (List.mem_of_getElem? (i := 6) rfl)) (by decide) (by decide)) q6a q6c (g := (mkF m 40 #[.val (.int p0), .val (.int p1), .val (.int (0 : Int32)), .val (.int (1 : Int32)), .val (.int (1 : Int32)), .unset] [(.ref s_Permission_GIVEN), (.ref s_PeriodRule_YES)])) rfl (by rw [hml]; rfl) (Steps.refl _) (argsL := [(.ref s_Permission_GIVEN)]) (rest := []) (lenOf pd_3 rfl) rfl (by show 2 * 0 + _ ≤ _; exact Nat.le_of_eq rfl) (hb hby at_40) (fun _ _ => ⟨rfl, e5, (by decide : 0 + 0 ≤ _), (by decide : 0 + 0 ≤ _)⟩)
      dsimp only [Pt.U, Pt.locs, Pt.cells, Pt.slots] at X6 l6 y6 z6 st6 hQ6
      subst l6 y6 z6
      obtain ⟨rfl, N6q, e6⟩ := hQ6
      have N6 := Fr.app N5 N6q
      have hv6 : (FPays s_PeriodRule_YES s_Permission_GIVEN (0 : Int32) s_Permission_GIVEN s_Permission_REFUSED) = (1 : Int32) := by unfold FPays; simp [hne1, hne2, hne3, Ne.symm hne1, Ne.symm hne2, Ne.symm hne3]
      refine Run.st (S' := T6.setTop (mkF m 57 #[.val (.int p0), .val (.int p1), .val (.int (0 : Int32)), .val (.int (1 : Int32)), .val (.int (1 : Int32)), .val (.int (FPays s_PeriodRule_YES s_Permission_GIVEN (0 : Int32) s_Permission_GIVEN s_Permission_REFUSED))] [(.int (1 : Int32))])) (fun _ k => st6.trans (XS.istore X6.here hx rfl (hb hby at_43) rfl (l' := #[.val (.int p0), .val (.int p1), .val (.int (0 : Int32)), .val (.int (1 : Int32)), .val (.int (1 : Int32)), .val (.int (FPays s_PeriodRule_YES s_Permission_GIVEN (0 : Int32) s_Permission_GIVEN s_Permission_REFUSED))]) rfl (XS.iload X6.here hx rfl (hb hby at_45) rfl (XS.iload X6.here hx rfl (hb hby at_47) rfl (XS.icmpNo X6.here hx rfl (hb hby at_49) rfl (teq (show (FPays s_PeriodRule_YES s_Permission_GIVEN (0 : Int32) s_Permission_GIVEN s_Permission_REFUSED) = (1 : Int32) from hv6)).2 (XS.iconst X6.here hx rfl (hb hby at_52) (XS.goto X6.here hx rfl (pc0 := 53) (pc' := 57) rfl (hb hby at_53) (by decide) (by decide) k))))))) ?_
      refine Run.out X6 hx Bd.notSynchronized Bd.returns rfl (Or.inl ⟨rfl, by simp, _, rfl⟩) (hb hby at_57) (by decide) (by decide) ?_
      rw [e6]
      exact ⟨rfl, N6⟩
    · refine Run.st (S' := s₁.setTop (mkF m 21 #[.val (.int p0), .val (.int p1), .val (.int (0 : Int32)), .val (.int (2 : Int32)), .unset, .unset] [(.int (1 : Int32)), (.int (417 : Int32))])) (fun _ k => XS.sipush X0.here hx rfl (hb hby at_11) (XS.iconst X0.here hx rfl (hb hby at_14) (XS.iloadN X0.here hx rfl (hb hby at_15) rfl (XS.imul X0.here hx rfl (hb hby at_16) rfl (XS.iloadN X0.here hx rfl (hb hby at_17) rfl (XS.iadd X0.here hx rfl (hb hby at_18) rfl (XS.ishr X0.here hx rfl (hb hby at_19) rfl (XS.iconst X0.here hx rfl (hb hby at_20) k)))))))) ?_
      refine Run.st (S' := s₁.setTop (mkF m 33 #[.val (.int p0), .val (.int p1), .val (.int (0 : Int32)), .val (.int (2 : Int32)), .val (.int (1 : Int32)), .unset] [(.int (0 : Int32))])) (fun _ k => XS.iand X0.here hx rfl (hb hby at_21) rfl (XS.ifNo X0.here hx rfl (hb hby at_22) rfl ((if0 _ _).trans (feq (show ¬ ((1 : Int32) = (0 : Int32)) from (by decide))).1) (XS.iconst X0.here hx rfl (hb hby at_25) (XS.goto X0.here hx rfl (pc0 := 26) (pc' := 30) rfl (hb hby at_26) (by decide) (by decide) (XS.istore X0.here hx rfl (hb hby at_30) rfl (l' := #[.val (.int p0), .val (.int p1), .val (.int (0 : Int32)), .val (.int (2 : Int32)), .val (.int (1 : Int32)), .unset]) rfl (XS.iloadN X0.here hx rfl (hb hby at_32) rfl k)))))) ?_
      obtain ⟨_, _, ⟨T7, L7, k7, n7⟩, -, X7, ⟨Lc7, hQ7, l7, y7, z7⟩, st7⟩ := Jvm.LawKit.callS X0 hx (y := (⟨"com/example/quittance/quittance/PeriodRulePaysPinLaw", "rule", "(I)Lcom/example/quittance/quittance/PeriodRule;"⟩ : MethodName)) hown (mvT hZ (hw _ (List.mem_of_getElem? (i := 1) rfl))) (mvT hZ (hw _ (List.mem_of_getElem? (i := 2) rfl))) (mvT hZ (hw _ (List.mem_of_getElem? (i := 3) rfl))) (mvT hZ (hw _ (List.mem_of_getElem? (i := 4) rfl))) (by decide) (backOf (W := 0) (rmRule l Z aV hw [] (0 : Int32) s_PeriodRule_YES s_PeriodRule_NO s_PeriodRule_PERMISSION s_PeriodRule_NEGATIVE_PERMISSION h0 n0 Zn S_s_PeriodRule_YES S_s_PeriodRule_NO S_s_PeriodRule_PERMISSION S_s_PeriodRule_NEGATIVE_PERMISSION) hZ (hw _ (List.mem_of_getElem? (i := 4) rfl)) (hw _ (List.mem_of_getElem? (i := 3) rfl)) (by decide) (by decide)) (g := (mkF m 33 #[.val (.int p0), .val (.int p1), .val (.int (0 : Int32)), .val (.int (2 : Int32)), .val (.int (1 : Int32)), .unset] [(.int (0 : Int32))])) rfl (by rw [hml]; rfl) (argsL := [(.int (0 : Int32))]) (rest := []) (lenOf pd_1 rfl) rfl (by show 2 * 0 + _ ≤ _; exact Nat.le_of_eq rfl) (hb hby at_33) (fun _ _ => ⟨rfl, e0, (by decide : 0 + 0 ≤ _), (by decide : 0 + 0 ≤ _)⟩)
      dsimp only [Pt.U, Pt.locs, Pt.cells, Pt.slots] at X7 l7 y7 z7 st7 hQ7
      subst l7 y7 z7
      obtain ⟨rfl, N7q, e7⟩ := hQ7
      have N7 := Fr.app N0 N7q
      rw [show (FRule (0 : Int32) s_PeriodRule_YES s_PeriodRule_NO s_PeriodRule_PERMISSION s_PeriodRule_NEGATIVE_PERMISSION) = s_PeriodRule_YES from rfl] at st7
      refine Run.st (S' := T7.setTop (mkF m 37 #[.val (.int p0), .val (.int p1), .val (.int (0 : Int32)), .val (.int (2 : Int32)), .val (.int (1 : Int32)), .unset] [(.int (2 : Int32)), (.ref s_PeriodRule_YES)])) (fun _ k => st7 _ (XS.iloadN X7.here hx rfl (hb hby at_36) rfl k)) ?_
      obtain ⟨_, _, ⟨T8, L8, k8, n8⟩, -, X8, ⟨Lc8, hQ8, l8, y8, z8⟩, st8⟩ := Jvm.LawKit.callS X7 hx (y := (⟨"com/example/quittance/quittance/PeriodRulePaysPinLaw", "permission", "(I)Lcom/example/quittance/quittance/Permission;"⟩ : MethodName)) hown (mvT hZ (hw _ (List.mem_of_getElem? (i := 8) rfl))) (mvT hZ (hw _ (List.mem_of_getElem? (i := 9) rfl))) (mvT hZ (hw _ (List.mem_of_getElem? (i := 3) rfl))) (mvT hZ (hw _ (List.mem_of_getElem? (i := 10) rfl))) (by decide) (backOf (W := 1) (rmPerm l Z aV hw [] (2 : Int32) s_Permission_NOT_STATED s_Permission_GIVEN s_Permission_REFUSED h0 n0 Zn S_s_Permission_NOT_STATED S_s_Permission_GIVEN S_s_Permission_REFUSED) hZ (hw _ (List.mem_of_getElem? (i := 10) rfl)) (hw _ (List.mem_of_getElem? (i := 3) rfl)) (by decide) (by decide)) (g := (mkF m 37 #[.val (.int p0), .val (.int p1), .val (.int (0 : Int32)), .val (.int (2 : Int32)), .val (.int (1 : Int32)), .unset] [(.int (2 : Int32)), (.ref s_PeriodRule_YES)])) rfl (by rw [hml]; rfl) (argsL := [(.int (2 : Int32))]) (rest := [(.ref s_PeriodRule_YES)]) (lenOf pd_2 rfl) rfl (by show 2 * 0 + _ ≤ _; exact Nat.le_of_eq rfl) (hb hby at_37) (fun _ _ => ⟨rfl, e7, (by decide : 0 + 0 ≤ _), (by decide : 0 + 0 ≤ _)⟩)
      dsimp only [Pt.U, Pt.locs, Pt.cells, Pt.slots] at X8 l8 y8 z8 st8 hQ8
      subst l8 y8 z8
      obtain ⟨rfl, N8q, e8⟩ := hQ8
      have N8 := Fr.app N7 N8q
      rw [show (FPerm (2 : Int32) s_Permission_NOT_STATED s_Permission_GIVEN s_Permission_REFUSED) = s_Permission_REFUSED from rfl] at st8
      refine Run.st (S' := T8.setTop (mkF m 40 #[.val (.int p0), .val (.int p1), .val (.int (0 : Int32)), .val (.int (2 : Int32)), .val (.int (1 : Int32)), .unset] [(.ref s_Permission_REFUSED), (.ref s_PeriodRule_YES)])) (fun _ k => st8 _ k) ?_
      obtain ⟨cq9, kq9, q9a, q9b, q9c⟩ := isOf hZ e8 E_s_PeriodRule_YES
      obtain ⟨_, _, ⟨T9, L9, k9, n9⟩, -, X9, ⟨Lc9, hQ9, l9, y9, z9⟩, st9⟩ := X8.virtualBack hx (y := (⟨"com/example/quittance/quittance/PeriodRule", "pays", "(Lcom/example/quittance/quittance/Permission;)Z"⟩ : MethodName)) (z := (⟨"com/example/quittance/quittance/PeriodRule", "pays", "(Lcom/example/quittance/quittance/Permission;)Z"⟩ : MethodName)) hown (mvT hZ (hw _ (List.mem_of_getElem? (i := 14) rfl))) (mvT hZ (hw _ (List.mem_of_getElem? (i := 15) rfl))) (notFace_of_selects (args := #[]) (mvT hZ (hw _ (List.mem_of_getElem? (i := 17) rfl)))) (mvT hZ (hw _ (List.mem_of_getElem? (i := 17) rfl))) (mvT hZ (hw _ (List.mem_of_getElem? (i := 16) rfl))) (by decide) (backOf (W := 0) (rmPays l Z aV hw [] s_PeriodRule_YES s_Permission_REFUSED (0 : Int32) s_Permission_GIVEN s_Permission_REFUSED h0 n0 Zn (by decide) E_s_PeriodRule_YES F_s_PeriodRule_YES S_s_Permission_GIVEN S_s_Permission_REFUSED) hZ (hw _ (List.mem_of_getElem? (i := 18) rfl)) (hw _ (List.mem_of_getElem? (i := 6) rfl)) (by decide) (by decide)) q9a q9c (g := (mkF m 40 #[.val (.int p0), .val (.int p1), .val (.int (0 : Int32)), .val (.int (2 : Int32)), .val (.int (1 : Int32)), .unset] [(.ref s_Permission_REFUSED), (.ref s_PeriodRule_YES)])) rfl (by rw [hml]; rfl) (Steps.refl _) (argsL := [(.ref s_Permission_REFUSED)]) (rest := []) (lenOf pd_3 rfl) rfl (by show 2 * 0 + _ ≤ _; exact Nat.le_of_eq rfl) (hb hby at_40) (fun _ _ => ⟨rfl, e8, (by decide : 0 + 0 ≤ _), (by decide : 0 + 0 ≤ _)⟩)
      dsimp only [Pt.U, Pt.locs, Pt.cells, Pt.slots] at X9 l9 y9 z9 st9 hQ9
      subst l9 y9 z9
      obtain ⟨rfl, N9q, e9⟩ := hQ9
      have N9 := Fr.app N8 N9q
      have hv9 : (FPays s_PeriodRule_YES s_Permission_REFUSED (0 : Int32) s_Permission_GIVEN s_Permission_REFUSED) = (1 : Int32) := by unfold FPays; simp [hne1, hne2, hne3, Ne.symm hne1, Ne.symm hne2, Ne.symm hne3]
      refine Run.st (S' := T9.setTop (mkF m 57 #[.val (.int p0), .val (.int p1), .val (.int (0 : Int32)), .val (.int (2 : Int32)), .val (.int (1 : Int32)), .val (.int (FPays s_PeriodRule_YES s_Permission_REFUSED (0 : Int32) s_Permission_GIVEN s_Permission_REFUSED))] [(.int (1 : Int32))])) (fun _ k => st9.trans (XS.istore X9.here hx rfl (hb hby at_43) rfl (l' := #[.val (.int p0), .val (.int p1), .val (.int (0 : Int32)), .val (.int (2 : Int32)), .val (.int (1 : Int32)), .val (.int (FPays s_PeriodRule_YES s_Permission_REFUSED (0 : Int32) s_Permission_GIVEN s_Permission_REFUSED))]) rfl (XS.iload X9.here hx rfl (hb hby at_45) rfl (XS.iload X9.here hx rfl (hb hby at_47) rfl (XS.icmpNo X9.here hx rfl (hb hby at_49) rfl (teq (show (FPays s_PeriodRule_YES s_Permission_REFUSED (0 : Int32) s_Permission_GIVEN s_Permission_REFUSED) = (1 : Int32) from hv9)).2 (XS.iconst X9.here hx rfl (hb hby at_52) (XS.goto X9.here hx rfl (pc0 := 53) (pc' := 57) rfl (hb hby at_53) (by decide) (by decide) k))))))) ?_
      refine Run.out X9 hx Bd.notSynchronized Bd.returns rfl (Or.inl ⟨rfl, by simp, _, rfl⟩) (hb hby at_57) (by decide) (by decide) ?_
      rw [e9]
      exact ⟨rfl, N9⟩
  · clear hr
    rcases own_c3 hq with rfl | rfl | rfl
    · refine Run.st (S' := s₁.setTop (mkF m 21 #[.val (.int p0), .val (.int p1), .val (.int (1 : Int32)), .val (.int (0 : Int32)), .unset, .unset] [(.int (1 : Int32)), (.int (208 : Int32))])) (fun _ k => XS.sipush X0.here hx rfl (hb hby at_11) (XS.iconst X0.here hx rfl (hb hby at_14) (XS.iloadN X0.here hx rfl (hb hby at_15) rfl (XS.imul X0.here hx rfl (hb hby at_16) rfl (XS.iloadN X0.here hx rfl (hb hby at_17) rfl (XS.iadd X0.here hx rfl (hb hby at_18) rfl (XS.ishr X0.here hx rfl (hb hby at_19) rfl (XS.iconst X0.here hx rfl (hb hby at_20) k)))))))) ?_
      refine Run.st (S' := s₁.setTop (mkF m 33 #[.val (.int p0), .val (.int p1), .val (.int (1 : Int32)), .val (.int (0 : Int32)), .val (.int (0 : Int32)), .unset] [(.int (1 : Int32))])) (fun _ k => XS.iand X0.here hx rfl (hb hby at_21) rfl (XS.ifYes X0.here hx rfl (pc0 := 22) (pc' := 29) rfl (hb hby at_22) rfl ((if0 _ _).trans (teq (show (0 : Int32) = (0 : Int32) from (by decide))).1) (by decide) (by decide) (XS.iconst X0.here hx rfl (hb hby at_29) (XS.istore X0.here hx rfl (hb hby at_30) rfl (l' := #[.val (.int p0), .val (.int p1), .val (.int (1 : Int32)), .val (.int (0 : Int32)), .val (.int (0 : Int32)), .unset]) rfl (XS.iloadN X0.here hx rfl (hb hby at_32) rfl k))))) ?_
      obtain ⟨_, _, ⟨T10, L10, k10, n10⟩, -, X10, ⟨Lc10, hQ10, l10, y10, z10⟩, st10⟩ := Jvm.LawKit.callS X0 hx (y := (⟨"com/example/quittance/quittance/PeriodRulePaysPinLaw", "rule", "(I)Lcom/example/quittance/quittance/PeriodRule;"⟩ : MethodName)) hown (mvT hZ (hw _ (List.mem_of_getElem? (i := 1) rfl))) (mvT hZ (hw _ (List.mem_of_getElem? (i := 2) rfl))) (mvT hZ (hw _ (List.mem_of_getElem? (i := 3) rfl))) (mvT hZ (hw _ (List.mem_of_getElem? (i := 4) rfl))) (by decide) (backOf (W := 0) (rmRule l Z aV hw [] (1 : Int32) s_PeriodRule_YES s_PeriodRule_NO s_PeriodRule_PERMISSION s_PeriodRule_NEGATIVE_PERMISSION h0 n0 Zn S_s_PeriodRule_YES S_s_PeriodRule_NO S_s_PeriodRule_PERMISSION S_s_PeriodRule_NEGATIVE_PERMISSION) hZ (hw _ (List.mem_of_getElem? (i := 4) rfl)) (hw _ (List.mem_of_getElem? (i := 3) rfl)) (by decide) (by decide)) (g := (mkF m 33 #[.val (.int p0), .val (.int p1), .val (.int (1 : Int32)), .val (.int (0 : Int32)), .val (.int (0 : Int32)), .unset] [(.int (1 : Int32))])) rfl (by rw [hml]; rfl) (argsL := [(.int (1 : Int32))]) (rest := []) (lenOf pd_1 rfl) rfl (by show 2 * 0 + _ ≤ _; exact Nat.le_of_eq rfl) (hb hby at_33) (fun _ _ => ⟨rfl, e0, (by decide : 0 + 0 ≤ _), (by decide : 0 + 0 ≤ _)⟩)
      dsimp only [Pt.U, Pt.locs, Pt.cells, Pt.slots] at X10 l10 y10 z10 st10 hQ10
      subst l10 y10 z10
      obtain ⟨rfl, N10q, e10⟩ := hQ10
      have N10 := Fr.app N0 N10q
      rw [show (FRule (1 : Int32) s_PeriodRule_YES s_PeriodRule_NO s_PeriodRule_PERMISSION s_PeriodRule_NEGATIVE_PERMISSION) = s_PeriodRule_NO from rfl] at st10
      refine Run.st (S' := T10.setTop (mkF m 37 #[.val (.int p0), .val (.int p1), .val (.int (1 : Int32)), .val (.int (0 : Int32)), .val (.int (0 : Int32)), .unset] [(.int (0 : Int32)), (.ref s_PeriodRule_NO)])) (fun _ k => st10 _ (XS.iloadN X10.here hx rfl (hb hby at_36) rfl k)) ?_
      obtain ⟨_, _, ⟨T11, L11, k11, n11⟩, -, X11, ⟨Lc11, hQ11, l11, y11, z11⟩, st11⟩ := Jvm.LawKit.callS X10 hx (y := (⟨"com/example/quittance/quittance/PeriodRulePaysPinLaw", "permission", "(I)Lcom/example/quittance/quittance/Permission;"⟩ : MethodName)) hown (mvT hZ (hw _ (List.mem_of_getElem? (i := 8) rfl))) (mvT hZ (hw _ (List.mem_of_getElem? (i := 9) rfl))) (mvT hZ (hw _ (List.mem_of_getElem? (i := 3) rfl))) (mvT hZ (hw _ (List.mem_of_getElem? (i := 10) rfl))) (by decide) (backOf (W := 1) (rmPerm l Z aV hw [] (0 : Int32) s_Permission_NOT_STATED s_Permission_GIVEN s_Permission_REFUSED h0 n0 Zn S_s_Permission_NOT_STATED S_s_Permission_GIVEN S_s_Permission_REFUSED) hZ (hw _ (List.mem_of_getElem? (i := 10) rfl)) (hw _ (List.mem_of_getElem? (i := 3) rfl)) (by decide) (by decide)) (g := (mkF m 37 #[.val (.int p0), .val (.int p1), .val (.int (1 : Int32)), .val (.int (0 : Int32)), .val (.int (0 : Int32)), .unset] [(.int (0 : Int32)), (.ref s_PeriodRule_NO)])) rfl (by rw [hml]; rfl) (argsL := [(.int (0 : Int32))]) (rest := [(.ref s_PeriodRule_NO)]) (lenOf pd_2 rfl) rfl (by show 2 * 0 + _ ≤ _; exact Nat.le_of_eq rfl) (hb hby at_37) (fun _ _ => ⟨rfl, e10, (by decide : 0 + 0 ≤ _), (by decide : 0 + 0 ≤ _)⟩)
      dsimp only [Pt.U, Pt.locs, Pt.cells, Pt.slots] at X11 l11 y11 z11 st11 hQ11
      subst l11 y11 z11
      obtain ⟨rfl, N11q, e11⟩ := hQ11
      have N11 := Fr.app N10 N11q
      rw [show (FPerm (0 : Int32) s_Permission_NOT_STATED s_Permission_GIVEN s_Permission_REFUSED) = s_Permission_NOT_STATED from rfl] at st11
      refine Run.st (S' := T11.setTop (mkF m 40 #[.val (.int p0), .val (.int p1), .val (.int (1 : Int32)), .val (.int (0 : Int32)), .val (.int (0 : Int32)), .unset] [(.ref s_Permission_NOT_STATED), (.ref s_PeriodRule_NO)])) (fun _ k => st11 _ k) ?_
      obtain ⟨cq12, kq12, q12a, q12b, q12c⟩ := isOf hZ e11 E_s_PeriodRule_NO
      obtain ⟨_, _, ⟨T12, L12, k12, n12⟩, -, X12, ⟨Lc12, hQ12, l12, y12, z12⟩, st12⟩ := X11.virtualBack hx (y := (⟨"com/example/quittance/quittance/PeriodRule", "pays", "(Lcom/example/quittance/quittance/Permission;)Z"⟩ : MethodName)) (z := (⟨"com/example/quittance/quittance/PeriodRule", "pays", "(Lcom/example/quittance/quittance/Permission;)Z"⟩ : MethodName)) hown (mvT hZ (hw _ (List.mem_of_getElem? (i := 14) rfl))) (mvT hZ (hw _ (List.mem_of_getElem? (i := 15) rfl))) (notFace_of_selects (args := #[]) (mvT hZ (hw _ (List.mem_of_getElem? (i := 17) rfl)))) (mvT hZ (hw _ (List.mem_of_getElem? (i := 17) rfl))) (mvT hZ (hw _ (List.mem_of_getElem? (i := 16) rfl))) (by decide) (backOf (W := 0) (rmPays l Z aV hw [] s_PeriodRule_NO s_Permission_NOT_STATED (1 : Int32) s_Permission_GIVEN s_Permission_REFUSED h0 n0 Zn (by decide) E_s_PeriodRule_NO F_s_PeriodRule_NO S_s_Permission_GIVEN S_s_Permission_REFUSED) hZ (hw _ (List.mem_of_getElem? (i := 18) rfl)) (hw _ (List.mem_of_getElem? (i := 6) rfl)) (by decide) (by decide)) q12a q12c (g := (mkF m 40 #[.val (.int p0), .val (.int p1), .val (.int (1 : Int32)), .val (.int (0 : Int32)), .val (.int (0 : Int32)), .unset] [(.ref s_Permission_NOT_STATED), (.ref s_PeriodRule_NO)])) rfl (by rw [hml]; rfl) (Steps.refl _) (argsL := [(.ref s_Permission_NOT_STATED)]) (rest := []) (lenOf pd_3 rfl) rfl (by show 2 * 0 + _ ≤ _; exact Nat.le_of_eq rfl) (hb hby at_40) (fun _ _ => ⟨rfl, e11, (by decide : 0 + 0 ≤ _), (by decide : 0 + 0 ≤ _)⟩)
      dsimp only [Pt.U, Pt.locs, Pt.cells, Pt.slots] at X12 l12 y12 z12 st12 hQ12
      subst l12 y12 z12
      obtain ⟨rfl, N12q, e12⟩ := hQ12
      have N12 := Fr.app N11 N12q
      have hv12 : (FPays s_PeriodRule_NO s_Permission_NOT_STATED (1 : Int32) s_Permission_GIVEN s_Permission_REFUSED) = (0 : Int32) := by unfold FPays; simp [hne1, hne2, hne3, Ne.symm hne1, Ne.symm hne2, Ne.symm hne3]
      refine Run.st (S' := T12.setTop (mkF m 57 #[.val (.int p0), .val (.int p1), .val (.int (1 : Int32)), .val (.int (0 : Int32)), .val (.int (0 : Int32)), .val (.int (FPays s_PeriodRule_NO s_Permission_NOT_STATED (1 : Int32) s_Permission_GIVEN s_Permission_REFUSED))] [(.int (1 : Int32))])) (fun _ k => st12.trans (XS.istore X12.here hx rfl (hb hby at_43) rfl (l' := #[.val (.int p0), .val (.int p1), .val (.int (1 : Int32)), .val (.int (0 : Int32)), .val (.int (0 : Int32)), .val (.int (FPays s_PeriodRule_NO s_Permission_NOT_STATED (1 : Int32) s_Permission_GIVEN s_Permission_REFUSED))]) rfl (XS.iload X12.here hx rfl (hb hby at_45) rfl (XS.iload X12.here hx rfl (hb hby at_47) rfl (XS.icmpNo X12.here hx rfl (hb hby at_49) rfl (teq (show (FPays s_PeriodRule_NO s_Permission_NOT_STATED (1 : Int32) s_Permission_GIVEN s_Permission_REFUSED) = (0 : Int32) from hv12)).2 (XS.iconst X12.here hx rfl (hb hby at_52) (XS.goto X12.here hx rfl (pc0 := 53) (pc' := 57) rfl (hb hby at_53) (by decide) (by decide) k))))))) ?_
      refine Run.out X12 hx Bd.notSynchronized Bd.returns rfl (Or.inl ⟨rfl, by simp, _, rfl⟩) (hb hby at_57) (by decide) (by decide) ?_
      rw [e12]
      exact ⟨rfl, N12⟩
    · refine Run.st (S' := s₁.setTop (mkF m 21 #[.val (.int p0), .val (.int p1), .val (.int (1 : Int32)), .val (.int (1 : Int32)), .unset, .unset] [(.int (1 : Int32)), (.int (104 : Int32))])) (fun _ k => XS.sipush X0.here hx rfl (hb hby at_11) (XS.iconst X0.here hx rfl (hb hby at_14) (XS.iloadN X0.here hx rfl (hb hby at_15) rfl (XS.imul X0.here hx rfl (hb hby at_16) rfl (XS.iloadN X0.here hx rfl (hb hby at_17) rfl (XS.iadd X0.here hx rfl (hb hby at_18) rfl (XS.ishr X0.here hx rfl (hb hby at_19) rfl (XS.iconst X0.here hx rfl (hb hby at_20) k)))))))) ?_
      refine Run.st (S' := s₁.setTop (mkF m 33 #[.val (.int p0), .val (.int p1), .val (.int (1 : Int32)), .val (.int (1 : Int32)), .val (.int (0 : Int32)), .unset] [(.int (1 : Int32))])) (fun _ k => XS.iand X0.here hx rfl (hb hby at_21) rfl (XS.ifYes X0.here hx rfl (pc0 := 22) (pc' := 29) rfl (hb hby at_22) rfl ((if0 _ _).trans (teq (show (0 : Int32) = (0 : Int32) from (by decide))).1) (by decide) (by decide) (XS.iconst X0.here hx rfl (hb hby at_29) (XS.istore X0.here hx rfl (hb hby at_30) rfl (l' := #[.val (.int p0), .val (.int p1), .val (.int (1 : Int32)), .val (.int (1 : Int32)), .val (.int (0 : Int32)), .unset]) rfl (XS.iloadN X0.here hx rfl (hb hby at_32) rfl k))))) ?_
      obtain ⟨_, _, ⟨T13, L13, k13, n13⟩, -, X13, ⟨Lc13, hQ13, l13, y13, z13⟩, st13⟩ := Jvm.LawKit.callS X0 hx (y := (⟨"com/example/quittance/quittance/PeriodRulePaysPinLaw", "rule", "(I)Lcom/example/quittance/quittance/PeriodRule;"⟩ : MethodName)) hown (mvT hZ (hw _ (List.mem_of_getElem? (i := 1) rfl))) (mvT hZ (hw _ (List.mem_of_getElem? (i := 2) rfl))) (mvT hZ (hw _ (List.mem_of_getElem? (i := 3) rfl))) (mvT hZ (hw _ (List.mem_of_getElem? (i := 4) rfl))) (by decide) (backOf (W := 0) (rmRule l Z aV hw [] (1 : Int32) s_PeriodRule_YES s_PeriodRule_NO s_PeriodRule_PERMISSION s_PeriodRule_NEGATIVE_PERMISSION h0 n0 Zn S_s_PeriodRule_YES S_s_PeriodRule_NO S_s_PeriodRule_PERMISSION S_s_PeriodRule_NEGATIVE_PERMISSION) hZ (hw _ (List.mem_of_getElem? (i := 4) rfl)) (hw _ (List.mem_of_getElem? (i := 3) rfl)) (by decide) (by decide)) (g := (mkF m 33 #[.val (.int p0), .val (.int p1), .val (.int (1 : Int32)), .val (.int (1 : Int32)), .val (.int (0 : Int32)), .unset] [(.int (1 : Int32))])) rfl (by rw [hml]; rfl) (argsL := [(.int (1 : Int32))]) (rest := []) (lenOf pd_1 rfl) rfl (by show 2 * 0 + _ ≤ _; exact Nat.le_of_eq rfl) (hb hby at_33) (fun _ _ => ⟨rfl, e0, (by decide : 0 + 0 ≤ _), (by decide : 0 + 0 ≤ _)⟩)
      dsimp only [Pt.U, Pt.locs, Pt.cells, Pt.slots] at X13 l13 y13 z13 st13 hQ13
      subst l13 y13 z13
      obtain ⟨rfl, N13q, e13⟩ := hQ13
      have N13 := Fr.app N0 N13q
      rw [show (FRule (1 : Int32) s_PeriodRule_YES s_PeriodRule_NO s_PeriodRule_PERMISSION s_PeriodRule_NEGATIVE_PERMISSION) = s_PeriodRule_NO from rfl] at st13
      refine Run.st (S' := T13.setTop (mkF m 37 #[.val (.int p0), .val (.int p1), .val (.int (1 : Int32)), .val (.int (1 : Int32)), .val (.int (0 : Int32)), .unset] [(.int (1 : Int32)), (.ref s_PeriodRule_NO)])) (fun _ k => st13 _ (XS.iloadN X13.here hx rfl (hb hby at_36) rfl k)) ?_
      obtain ⟨_, _, ⟨T14, L14, k14, n14⟩, -, X14, ⟨Lc14, hQ14, l14, y14, z14⟩, st14⟩ := Jvm.LawKit.callS X13 hx (y := (⟨"com/example/quittance/quittance/PeriodRulePaysPinLaw", "permission", "(I)Lcom/example/quittance/quittance/Permission;"⟩ : MethodName)) hown (mvT hZ (hw _ (List.mem_of_getElem? (i := 8) rfl))) (mvT hZ (hw _ (List.mem_of_getElem? (i := 9) rfl))) (mvT hZ (hw _ (List.mem_of_getElem? (i := 3) rfl))) (mvT hZ (hw _ (List.mem_of_getElem? (i := 10) rfl))) (by decide) (backOf (W := 1) (rmPerm l Z aV hw [] (1 : Int32) s_Permission_NOT_STATED s_Permission_GIVEN s_Permission_REFUSED h0 n0 Zn S_s_Permission_NOT_STATED S_s_Permission_GIVEN S_s_Permission_REFUSED) hZ (hw _ (List.mem_of_getElem? (i := 10) rfl)) (hw _ (List.mem_of_getElem? (i := 3) rfl)) (by decide) (by decide)) (g := (mkF m 37 #[.val (.int p0), .val (.int p1), .val (.int (1 : Int32)), .val (.int (1 : Int32)), .val (.int (0 : Int32)), .unset] [(.int (1 : Int32)), (.ref s_PeriodRule_NO)])) rfl (by rw [hml]; rfl) (argsL := [(.int (1 : Int32))]) (rest := [(.ref s_PeriodRule_NO)]) (lenOf pd_2 rfl) rfl (by show 2 * 0 + _ ≤ _; exact Nat.le_of_eq rfl) (hb hby at_37) (fun _ _ => ⟨rfl, e13, (by decide : 0 + 0 ≤ _), (by decide : 0 + 0 ≤ _)⟩)
      dsimp only [Pt.U, Pt.locs, Pt.cells, Pt.slots] at X14 l14 y14 z14 st14 hQ14
      subst l14 y14 z14
      obtain ⟨rfl, N14q, e14⟩ := hQ14
      have N14 := Fr.app N13 N14q
      rw [show (FPerm (1 : Int32) s_Permission_NOT_STATED s_Permission_GIVEN s_Permission_REFUSED) = s_Permission_GIVEN from rfl] at st14
      refine Run.st (S' := T14.setTop (mkF m 40 #[.val (.int p0), .val (.int p1), .val (.int (1 : Int32)), .val (.int (1 : Int32)), .val (.int (0 : Int32)), .unset] [(.ref s_Permission_GIVEN), (.ref s_PeriodRule_NO)])) (fun _ k => st14 _ k) ?_
      obtain ⟨cq15, kq15, q15a, q15b, q15c⟩ := isOf hZ e14 E_s_PeriodRule_NO
      obtain ⟨_, _, ⟨T15, L15, k15, n15⟩, -, X15, ⟨Lc15, hQ15, l15, y15, z15⟩, st15⟩ := X14.virtualBack hx (y := (⟨"com/example/quittance/quittance/PeriodRule", "pays", "(Lcom/example/quittance/quittance/Permission;)Z"⟩ : MethodName)) (z := (⟨"com/example/quittance/quittance/PeriodRule", "pays", "(Lcom/example/quittance/quittance/Permission;)Z"⟩ : MethodName)) hown (mvT hZ (hw _ (List.mem_of_getElem? (i := 14) rfl))) (mvT hZ (hw _ (List.mem_of_getElem? (i := 15) rfl))) (notFace_of_selects (args := #[]) (mvT hZ (hw _ (List.mem_of_getElem? (i := 17) rfl)))) (mvT hZ (hw _ (List.mem_of_getElem? (i := 17) rfl))) (mvT hZ (hw _ (List.mem_of_getElem? (i := 16) rfl))) (by decide) (backOf (W := 0) (rmPays l Z aV hw [] s_PeriodRule_NO s_Permission_GIVEN (1 : Int32) s_Permission_GIVEN s_Permission_REFUSED h0 n0 Zn (by decide) E_s_PeriodRule_NO F_s_PeriodRule_NO S_s_Permission_GIVEN S_s_Permission_REFUSED) hZ (hw _ (List.mem_of_getElem? (i := 18) rfl)) (hw _ (List.mem_of_getElem? (i := 6) rfl)) (by decide) (by decide)) q15a q15c (g := (mkF m 40 #[.val (.int p0), .val (.int p1), .val (.int (1 : Int32)), .val (.int (1 : Int32)), .val (.int (0 : Int32)), .unset] [(.ref s_Permission_GIVEN), (.ref s_PeriodRule_NO)])) rfl (by rw [hml]; rfl) (Steps.refl _) (argsL := [(.ref s_Permission_GIVEN)]) (rest := []) (lenOf pd_3 rfl) rfl (by show 2 * 0 + _ ≤ _; exact Nat.le_of_eq rfl) (hb hby at_40) (fun _ _ => ⟨rfl, e14, (by decide : 0 + 0 ≤ _), (by decide : 0 + 0 ≤ _)⟩)
      dsimp only [Pt.U, Pt.locs, Pt.cells, Pt.slots] at X15 l15 y15 z15 st15 hQ15
      subst l15 y15 z15
      obtain ⟨rfl, N15q, e15⟩ := hQ15
      have N15 := Fr.app N14 N15q
      have hv15 : (FPays s_PeriodRule_NO s_Permission_GIVEN (1 : Int32) s_Permission_GIVEN s_Permission_REFUSED) = (0 : Int32) := by unfold FPays; simp [hne1, hne2, hne3, Ne.symm hne1, Ne.symm hne2, Ne.symm hne3]
      refine Run.st (S' := T15.setTop (mkF m 57 #[.val (.int p0), .val (.int p1), .val (.int (1 : Int32)), .val (.int (1 : Int32)), .val (.int (0 : Int32)), .val (.int (FPays s_PeriodRule_NO s_Permission_GIVEN (1 : Int32) s_Permission_GIVEN s_Permission_REFUSED))] [(.int (1 : Int32))])) (fun _ k => st15.trans (XS.istore X15.here hx rfl (hb hby at_43) rfl (l' := #[.val (.int p0), .val (.int p1), .val (.int (1 : Int32)), .val (.int (1 : Int32)), .val (.int (0 : Int32)), .val (.int (FPays s_PeriodRule_NO s_Permission_GIVEN (1 : Int32) s_Permission_GIVEN s_Permission_REFUSED))]) rfl (XS.iload X15.here hx rfl (hb hby at_45) rfl (XS.iload X15.here hx rfl (hb hby at_47) rfl (XS.icmpNo X15.here hx rfl (hb hby at_49) rfl (teq (show (FPays s_PeriodRule_NO s_Permission_GIVEN (1 : Int32) s_Permission_GIVEN s_Permission_REFUSED) = (0 : Int32) from hv15)).2 (XS.iconst X15.here hx rfl (hb hby at_52) (XS.goto X15.here hx rfl (pc0 := 53) (pc' := 57) rfl (hb hby at_53) (by decide) (by decide) k))))))) ?_
      refine Run.out X15 hx Bd.notSynchronized Bd.returns rfl (Or.inl ⟨rfl, by simp, _, rfl⟩) (hb hby at_57) (by decide) (by decide) ?_
      rw [e15]
      exact ⟨rfl, N15⟩
    · refine Run.st (S' := s₁.setTop (mkF m 21 #[.val (.int p0), .val (.int p1), .val (.int (1 : Int32)), .val (.int (2 : Int32)), .unset, .unset] [(.int (1 : Int32)), (.int (52 : Int32))])) (fun _ k => XS.sipush X0.here hx rfl (hb hby at_11) (XS.iconst X0.here hx rfl (hb hby at_14) (XS.iloadN X0.here hx rfl (hb hby at_15) rfl (XS.imul X0.here hx rfl (hb hby at_16) rfl (XS.iloadN X0.here hx rfl (hb hby at_17) rfl (XS.iadd X0.here hx rfl (hb hby at_18) rfl (XS.ishr X0.here hx rfl (hb hby at_19) rfl (XS.iconst X0.here hx rfl (hb hby at_20) k)))))))) ?_
      refine Run.st (S' := s₁.setTop (mkF m 33 #[.val (.int p0), .val (.int p1), .val (.int (1 : Int32)), .val (.int (2 : Int32)), .val (.int (0 : Int32)), .unset] [(.int (1 : Int32))])) (fun _ k => XS.iand X0.here hx rfl (hb hby at_21) rfl (XS.ifYes X0.here hx rfl (pc0 := 22) (pc' := 29) rfl (hb hby at_22) rfl ((if0 _ _).trans (teq (show (0 : Int32) = (0 : Int32) from (by decide))).1) (by decide) (by decide) (XS.iconst X0.here hx rfl (hb hby at_29) (XS.istore X0.here hx rfl (hb hby at_30) rfl (l' := #[.val (.int p0), .val (.int p1), .val (.int (1 : Int32)), .val (.int (2 : Int32)), .val (.int (0 : Int32)), .unset]) rfl (XS.iloadN X0.here hx rfl (hb hby at_32) rfl k))))) ?_
      obtain ⟨_, _, ⟨T16, L16, k16, n16⟩, -, X16, ⟨Lc16, hQ16, l16, y16, z16⟩, st16⟩ := Jvm.LawKit.callS X0 hx (y := (⟨"com/example/quittance/quittance/PeriodRulePaysPinLaw", "rule", "(I)Lcom/example/quittance/quittance/PeriodRule;"⟩ : MethodName)) hown (mvT hZ (hw _ (List.mem_of_getElem? (i := 1) rfl))) (mvT hZ (hw _ (List.mem_of_getElem? (i := 2) rfl))) (mvT hZ (hw _ (List.mem_of_getElem? (i := 3) rfl))) (mvT hZ (hw _ (List.mem_of_getElem? (i := 4) rfl))) (by decide) (backOf (W := 0) (rmRule l Z aV hw [] (1 : Int32) s_PeriodRule_YES s_PeriodRule_NO s_PeriodRule_PERMISSION s_PeriodRule_NEGATIVE_PERMISSION h0 n0 Zn S_s_PeriodRule_YES S_s_PeriodRule_NO S_s_PeriodRule_PERMISSION S_s_PeriodRule_NEGATIVE_PERMISSION) hZ (hw _ (List.mem_of_getElem? (i := 4) rfl)) (hw _ (List.mem_of_getElem? (i := 3) rfl)) (by decide) (by decide)) (g := (mkF m 33 #[.val (.int p0), .val (.int p1), .val (.int (1 : Int32)), .val (.int (2 : Int32)), .val (.int (0 : Int32)), .unset] [(.int (1 : Int32))])) rfl (by rw [hml]; rfl) (argsL := [(.int (1 : Int32))]) (rest := []) (lenOf pd_1 rfl) rfl (by show 2 * 0 + _ ≤ _; exact Nat.le_of_eq rfl) (hb hby at_33) (fun _ _ => ⟨rfl, e0, (by decide : 0 + 0 ≤ _), (by decide : 0 + 0 ≤ _)⟩)
      dsimp only [Pt.U, Pt.locs, Pt.cells, Pt.slots] at X16 l16 y16 z16 st16 hQ16
      subst l16 y16 z16
      obtain ⟨rfl, N16q, e16⟩ := hQ16
      have N16 := Fr.app N0 N16q
      rw [show (FRule (1 : Int32) s_PeriodRule_YES s_PeriodRule_NO s_PeriodRule_PERMISSION s_PeriodRule_NEGATIVE_PERMISSION) = s_PeriodRule_NO from rfl] at st16
      refine Run.st (S' := T16.setTop (mkF m 37 #[.val (.int p0), .val (.int p1), .val (.int (1 : Int32)), .val (.int (2 : Int32)), .val (.int (0 : Int32)), .unset] [(.int (2 : Int32)), (.ref s_PeriodRule_NO)])) (fun _ k => st16 _ (XS.iloadN X16.here hx rfl (hb hby at_36) rfl k)) ?_
      obtain ⟨_, _, ⟨T17, L17, k17, n17⟩, -, X17, ⟨Lc17, hQ17, l17, y17, z17⟩, st17⟩ := Jvm.LawKit.callS X16 hx (y := (⟨"com/example/quittance/quittance/PeriodRulePaysPinLaw", "permission", "(I)Lcom/example/quittance/quittance/Permission;"⟩ : MethodName)) hown (mvT hZ (hw _ (List.mem_of_getElem? (i := 8) rfl))) (mvT hZ (hw _ (List.mem_of_getElem? (i := 9) rfl))) (mvT hZ (hw _ (List.mem_of_getElem? (i := 3) rfl))) (mvT hZ (hw _ (List.mem_of_getElem? (i := 10) rfl))) (by decide) (backOf (W := 1) (rmPerm l Z aV hw [] (2 : Int32) s_Permission_NOT_STATED s_Permission_GIVEN s_Permission_REFUSED h0 n0 Zn S_s_Permission_NOT_STATED S_s_Permission_GIVEN S_s_Permission_REFUSED) hZ (hw _ (List.mem_of_getElem? (i := 10) rfl)) (hw _ (List.mem_of_getElem? (i := 3) rfl)) (by decide) (by decide)) (g := (mkF m 37 #[.val (.int p0), .val (.int p1), .val (.int (1 : Int32)), .val (.int (2 : Int32)), .val (.int (0 : Int32)), .unset] [(.int (2 : Int32)), (.ref s_PeriodRule_NO)])) rfl (by rw [hml]; rfl) (argsL := [(.int (2 : Int32))]) (rest := [(.ref s_PeriodRule_NO)]) (lenOf pd_2 rfl) rfl (by show 2 * 0 + _ ≤ _; exact Nat.le_of_eq rfl) (hb hby at_37) (fun _ _ => ⟨rfl, e16, (by decide : 0 + 0 ≤ _), (by decide : 0 + 0 ≤ _)⟩)
      dsimp only [Pt.U, Pt.locs, Pt.cells, Pt.slots] at X17 l17 y17 z17 st17 hQ17
      subst l17 y17 z17
      obtain ⟨rfl, N17q, e17⟩ := hQ17
      have N17 := Fr.app N16 N17q
      rw [show (FPerm (2 : Int32) s_Permission_NOT_STATED s_Permission_GIVEN s_Permission_REFUSED) = s_Permission_REFUSED from rfl] at st17
      refine Run.st (S' := T17.setTop (mkF m 40 #[.val (.int p0), .val (.int p1), .val (.int (1 : Int32)), .val (.int (2 : Int32)), .val (.int (0 : Int32)), .unset] [(.ref s_Permission_REFUSED), (.ref s_PeriodRule_NO)])) (fun _ k => st17 _ k) ?_
      obtain ⟨cq18, kq18, q18a, q18b, q18c⟩ := isOf hZ e17 E_s_PeriodRule_NO
      obtain ⟨_, _, ⟨T18, L18, k18, n18⟩, -, X18, ⟨Lc18, hQ18, l18, y18, z18⟩, st18⟩ := X17.virtualBack hx (y := (⟨"com/example/quittance/quittance/PeriodRule", "pays", "(Lcom/example/quittance/quittance/Permission;)Z"⟩ : MethodName)) (z := (⟨"com/example/quittance/quittance/PeriodRule", "pays", "(Lcom/example/quittance/quittance/Permission;)Z"⟩ : MethodName)) hown (mvT hZ (hw _ (List.mem_of_getElem? (i := 14) rfl))) (mvT hZ (hw _ (List.mem_of_getElem? (i := 15) rfl))) (notFace_of_selects (args := #[]) (mvT hZ (hw _ (List.mem_of_getElem? (i := 17) rfl)))) (mvT hZ (hw _ (List.mem_of_getElem? (i := 17) rfl))) (mvT hZ (hw _ (List.mem_of_getElem? (i := 16) rfl))) (by decide) (backOf (W := 0) (rmPays l Z aV hw [] s_PeriodRule_NO s_Permission_REFUSED (1 : Int32) s_Permission_GIVEN s_Permission_REFUSED h0 n0 Zn (by decide) E_s_PeriodRule_NO F_s_PeriodRule_NO S_s_Permission_GIVEN S_s_Permission_REFUSED) hZ (hw _ (List.mem_of_getElem? (i := 18) rfl)) (hw _ (List.mem_of_getElem? (i := 6) rfl)) (by decide) (by decide)) q18a q18c (g := (mkF m 40 #[.val (.int p0), .val (.int p1), .val (.int (1 : Int32)), .val (.int (2 : Int32)), .val (.int (0 : Int32)), .unset] [(.ref s_Permission_REFUSED), (.ref s_PeriodRule_NO)])) rfl (by rw [hml]; rfl) (Steps.refl _) (argsL := [(.ref s_Permission_REFUSED)]) (rest := []) (lenOf pd_3 rfl) rfl (by show 2 * 0 + _ ≤ _; exact Nat.le_of_eq rfl) (hb hby at_40) (fun _ _ => ⟨rfl, e17, (by decide : 0 + 0 ≤ _), (by decide : 0 + 0 ≤ _)⟩)
      dsimp only [Pt.U, Pt.locs, Pt.cells, Pt.slots] at X18 l18 y18 z18 st18 hQ18
      subst l18 y18 z18
      obtain ⟨rfl, N18q, e18⟩ := hQ18
      have N18 := Fr.app N17 N18q
      have hv18 : (FPays s_PeriodRule_NO s_Permission_REFUSED (1 : Int32) s_Permission_GIVEN s_Permission_REFUSED) = (0 : Int32) := by unfold FPays; simp [hne1, hne2, hne3, Ne.symm hne1, Ne.symm hne2, Ne.symm hne3]
      refine Run.st (S' := T18.setTop (mkF m 57 #[.val (.int p0), .val (.int p1), .val (.int (1 : Int32)), .val (.int (2 : Int32)), .val (.int (0 : Int32)), .val (.int (FPays s_PeriodRule_NO s_Permission_REFUSED (1 : Int32) s_Permission_GIVEN s_Permission_REFUSED))] [(.int (1 : Int32))])) (fun _ k => st18.trans (XS.istore X18.here hx rfl (hb hby at_43) rfl (l' := #[.val (.int p0), .val (.int p1), .val (.int (1 : Int32)), .val (.int (2 : Int32)), .val (.int (0 : Int32)), .val (.int (FPays s_PeriodRule_NO s_Permission_REFUSED (1 : Int32) s_Permission_GIVEN s_Permission_REFUSED))]) rfl (XS.iload X18.here hx rfl (hb hby at_45) rfl (XS.iload X18.here hx rfl (hb hby at_47) rfl (XS.icmpNo X18.here hx rfl (hb hby at_49) rfl (teq (show (FPays s_PeriodRule_NO s_Permission_REFUSED (1 : Int32) s_Permission_GIVEN s_Permission_REFUSED) = (0 : Int32) from hv18)).2 (XS.iconst X18.here hx rfl (hb hby at_52) (XS.goto X18.here hx rfl (pc0 := 53) (pc' := 57) rfl (hb hby at_53) (by decide) (by decide) k))))))) ?_
      refine Run.out X18 hx Bd.notSynchronized Bd.returns rfl (Or.inl ⟨rfl, by simp, _, rfl⟩) (hb hby at_57) (by decide) (by decide) ?_
      rw [e18]
      exact ⟨rfl, N18⟩
  · clear hr
    rcases own_c3 hq with rfl | rfl | rfl
    · refine Run.st (S' := s₁.setTop (mkF m 21 #[.val (.int p0), .val (.int p1), .val (.int (2 : Int32)), .val (.int (0 : Int32)), .unset, .unset] [(.int (1 : Int32)), (.int (26 : Int32))])) (fun _ k => XS.sipush X0.here hx rfl (hb hby at_11) (XS.iconst X0.here hx rfl (hb hby at_14) (XS.iloadN X0.here hx rfl (hb hby at_15) rfl (XS.imul X0.here hx rfl (hb hby at_16) rfl (XS.iloadN X0.here hx rfl (hb hby at_17) rfl (XS.iadd X0.here hx rfl (hb hby at_18) rfl (XS.ishr X0.here hx rfl (hb hby at_19) rfl (XS.iconst X0.here hx rfl (hb hby at_20) k)))))))) ?_
      refine Run.st (S' := s₁.setTop (mkF m 33 #[.val (.int p0), .val (.int p1), .val (.int (2 : Int32)), .val (.int (0 : Int32)), .val (.int (0 : Int32)), .unset] [(.int (2 : Int32))])) (fun _ k => XS.iand X0.here hx rfl (hb hby at_21) rfl (XS.ifYes X0.here hx rfl (pc0 := 22) (pc' := 29) rfl (hb hby at_22) rfl ((if0 _ _).trans (teq (show (0 : Int32) = (0 : Int32) from (by decide))).1) (by decide) (by decide) (XS.iconst X0.here hx rfl (hb hby at_29) (XS.istore X0.here hx rfl (hb hby at_30) rfl (l' := #[.val (.int p0), .val (.int p1), .val (.int (2 : Int32)), .val (.int (0 : Int32)), .val (.int (0 : Int32)), .unset]) rfl (XS.iloadN X0.here hx rfl (hb hby at_32) rfl k))))) ?_
      obtain ⟨_, _, ⟨T19, L19, k19, n19⟩, -, X19, ⟨Lc19, hQ19, l19, y19, z19⟩, st19⟩ := Jvm.LawKit.callS X0 hx (y := (⟨"com/example/quittance/quittance/PeriodRulePaysPinLaw", "rule", "(I)Lcom/example/quittance/quittance/PeriodRule;"⟩ : MethodName)) hown (mvT hZ (hw _ (List.mem_of_getElem? (i := 1) rfl))) (mvT hZ (hw _ (List.mem_of_getElem? (i := 2) rfl))) (mvT hZ (hw _ (List.mem_of_getElem? (i := 3) rfl))) (mvT hZ (hw _ (List.mem_of_getElem? (i := 4) rfl))) (by decide) (backOf (W := 0) (rmRule l Z aV hw [] (2 : Int32) s_PeriodRule_YES s_PeriodRule_NO s_PeriodRule_PERMISSION s_PeriodRule_NEGATIVE_PERMISSION h0 n0 Zn S_s_PeriodRule_YES S_s_PeriodRule_NO S_s_PeriodRule_PERMISSION S_s_PeriodRule_NEGATIVE_PERMISSION) hZ (hw _ (List.mem_of_getElem? (i := 4) rfl)) (hw _ (List.mem_of_getElem? (i := 3) rfl)) (by decide) (by decide)) (g := (mkF m 33 #[.val (.int p0), .val (.int p1), .val (.int (2 : Int32)), .val (.int (0 : Int32)), .val (.int (0 : Int32)), .unset] [(.int (2 : Int32))])) rfl (by rw [hml]; rfl) (argsL := [(.int (2 : Int32))]) (rest := []) (lenOf pd_1 rfl) rfl (by show 2 * 0 + _ ≤ _; exact Nat.le_of_eq rfl) (hb hby at_33) (fun _ _ => ⟨rfl, e0, (by decide : 0 + 0 ≤ _), (by decide : 0 + 0 ≤ _)⟩)
      dsimp only [Pt.U, Pt.locs, Pt.cells, Pt.slots] at X19 l19 y19 z19 st19 hQ19
      subst l19 y19 z19
      obtain ⟨rfl, N19q, e19⟩ := hQ19
      have N19 := Fr.app N0 N19q
      rw [show (FRule (2 : Int32) s_PeriodRule_YES s_PeriodRule_NO s_PeriodRule_PERMISSION s_PeriodRule_NEGATIVE_PERMISSION) = s_PeriodRule_PERMISSION from rfl] at st19
      refine Run.st (S' := T19.setTop (mkF m 37 #[.val (.int p0), .val (.int p1), .val (.int (2 : Int32)), .val (.int (0 : Int32)), .val (.int (0 : Int32)), .unset] [(.int (0 : Int32)), (.ref s_PeriodRule_PERMISSION)])) (fun _ k => st19 _ (XS.iloadN X19.here hx rfl (hb hby at_36) rfl k)) ?_
      obtain ⟨_, _, ⟨T20, L20, k20, n20⟩, -, X20, ⟨Lc20, hQ20, l20, y20, z20⟩, st20⟩ := Jvm.LawKit.callS X19 hx (y := (⟨"com/example/quittance/quittance/PeriodRulePaysPinLaw", "permission", "(I)Lcom/example/quittance/quittance/Permission;"⟩ : MethodName)) hown (mvT hZ (hw _ (List.mem_of_getElem? (i := 8) rfl))) (mvT hZ (hw _ (List.mem_of_getElem? (i := 9) rfl))) (mvT hZ (hw _ (List.mem_of_getElem? (i := 3) rfl))) (mvT hZ (hw _ (List.mem_of_getElem? (i := 10) rfl))) (by decide) (backOf (W := 1) (rmPerm l Z aV hw [] (0 : Int32) s_Permission_NOT_STATED s_Permission_GIVEN s_Permission_REFUSED h0 n0 Zn S_s_Permission_NOT_STATED S_s_Permission_GIVEN S_s_Permission_REFUSED) hZ (hw _ (List.mem_of_getElem? (i := 10) rfl)) (hw _ (List.mem_of_getElem? (i := 3) rfl)) (by decide) (by decide)) (g := (mkF m 37 #[.val (.int p0), .val (.int p1), .val (.int (2 : Int32)), .val (.int (0 : Int32)), .val (.int (0 : Int32)), .unset] [(.int (0 : Int32)), (.ref s_PeriodRule_PERMISSION)])) rfl (by rw [hml]; rfl) (argsL := [(.int (0 : Int32))]) (rest := [(.ref s_PeriodRule_PERMISSION)]) (lenOf pd_2 rfl) rfl (by show 2 * 0 + _ ≤ _; exact Nat.le_of_eq rfl) (hb hby at_37) (fun _ _ => ⟨rfl, e19, (by decide : 0 + 0 ≤ _), (by decide : 0 + 0 ≤ _)⟩)
      dsimp only [Pt.U, Pt.locs, Pt.cells, Pt.slots] at X20 l20 y20 z20 st20 hQ20
      subst l20 y20 z20
      obtain ⟨rfl, N20q, e20⟩ := hQ20
      have N20 := Fr.app N19 N20q
      rw [show (FPerm (0 : Int32) s_Permission_NOT_STATED s_Permission_GIVEN s_Permission_REFUSED) = s_Permission_NOT_STATED from rfl] at st20
      refine Run.st (S' := T20.setTop (mkF m 40 #[.val (.int p0), .val (.int p1), .val (.int (2 : Int32)), .val (.int (0 : Int32)), .val (.int (0 : Int32)), .unset] [(.ref s_Permission_NOT_STATED), (.ref s_PeriodRule_PERMISSION)])) (fun _ k => st20 _ k) ?_
      obtain ⟨cq21, kq21, q21a, q21b, q21c⟩ := isOf hZ e20 E_s_PeriodRule_PERMISSION
      obtain ⟨_, _, ⟨T21, L21, k21, n21⟩, -, X21, ⟨Lc21, hQ21, l21, y21, z21⟩, st21⟩ := X20.virtualBack hx (y := (⟨"com/example/quittance/quittance/PeriodRule", "pays", "(Lcom/example/quittance/quittance/Permission;)Z"⟩ : MethodName)) (z := (⟨"com/example/quittance/quittance/PeriodRule", "pays", "(Lcom/example/quittance/quittance/Permission;)Z"⟩ : MethodName)) hown (mvT hZ (hw _ (List.mem_of_getElem? (i := 14) rfl))) (mvT hZ (hw _ (List.mem_of_getElem? (i := 15) rfl))) (notFace_of_selects (args := #[]) (mvT hZ (hw _ (List.mem_of_getElem? (i := 17) rfl)))) (mvT hZ (hw _ (List.mem_of_getElem? (i := 17) rfl))) (mvT hZ (hw _ (List.mem_of_getElem? (i := 16) rfl))) (by decide) (backOf (W := 0) (rmPays l Z aV hw [] s_PeriodRule_PERMISSION s_Permission_NOT_STATED (2 : Int32) s_Permission_GIVEN s_Permission_REFUSED h0 n0 Zn (by decide) E_s_PeriodRule_PERMISSION F_s_PeriodRule_PERMISSION S_s_Permission_GIVEN S_s_Permission_REFUSED) hZ (hw _ (List.mem_of_getElem? (i := 18) rfl)) (hw _ (List.mem_of_getElem? (i := 6) rfl)) (by decide) (by decide)) q21a q21c (g := (mkF m 40 #[.val (.int p0), .val (.int p1), .val (.int (2 : Int32)), .val (.int (0 : Int32)), .val (.int (0 : Int32)), .unset] [(.ref s_Permission_NOT_STATED), (.ref s_PeriodRule_PERMISSION)])) rfl (by rw [hml]; rfl) (Steps.refl _) (argsL := [(.ref s_Permission_NOT_STATED)]) (rest := []) (lenOf pd_3 rfl) rfl (by show 2 * 0 + _ ≤ _; exact Nat.le_of_eq rfl) (hb hby at_40) (fun _ _ => ⟨rfl, e20, (by decide : 0 + 0 ≤ _), (by decide : 0 + 0 ≤ _)⟩)
      dsimp only [Pt.U, Pt.locs, Pt.cells, Pt.slots] at X21 l21 y21 z21 st21 hQ21
      subst l21 y21 z21
      obtain ⟨rfl, N21q, e21⟩ := hQ21
      have N21 := Fr.app N20 N21q
      have hv21 : (FPays s_PeriodRule_PERMISSION s_Permission_NOT_STATED (2 : Int32) s_Permission_GIVEN s_Permission_REFUSED) = (0 : Int32) := by unfold FPays; simp [hne1, hne2, hne3, Ne.symm hne1, Ne.symm hne2, Ne.symm hne3]
      refine Run.st (S' := T21.setTop (mkF m 57 #[.val (.int p0), .val (.int p1), .val (.int (2 : Int32)), .val (.int (0 : Int32)), .val (.int (0 : Int32)), .val (.int (FPays s_PeriodRule_PERMISSION s_Permission_NOT_STATED (2 : Int32) s_Permission_GIVEN s_Permission_REFUSED))] [(.int (1 : Int32))])) (fun _ k => st21.trans (XS.istore X21.here hx rfl (hb hby at_43) rfl (l' := #[.val (.int p0), .val (.int p1), .val (.int (2 : Int32)), .val (.int (0 : Int32)), .val (.int (0 : Int32)), .val (.int (FPays s_PeriodRule_PERMISSION s_Permission_NOT_STATED (2 : Int32) s_Permission_GIVEN s_Permission_REFUSED))]) rfl (XS.iload X21.here hx rfl (hb hby at_45) rfl (XS.iload X21.here hx rfl (hb hby at_47) rfl (XS.icmpNo X21.here hx rfl (hb hby at_49) rfl (teq (show (FPays s_PeriodRule_PERMISSION s_Permission_NOT_STATED (2 : Int32) s_Permission_GIVEN s_Permission_REFUSED) = (0 : Int32) from hv21)).2 (XS.iconst X21.here hx rfl (hb hby at_52) (XS.goto X21.here hx rfl (pc0 := 53) (pc' := 57) rfl (hb hby at_53) (by decide) (by decide) k))))))) ?_
      refine Run.out X21 hx Bd.notSynchronized Bd.returns rfl (Or.inl ⟨rfl, by simp, _, rfl⟩) (hb hby at_57) (by decide) (by decide) ?_
      rw [e21]
      exact ⟨rfl, N21⟩
    · refine Run.st (S' := s₁.setTop (mkF m 21 #[.val (.int p0), .val (.int p1), .val (.int (2 : Int32)), .val (.int (1 : Int32)), .unset, .unset] [(.int (1 : Int32)), (.int (13 : Int32))])) (fun _ k => XS.sipush X0.here hx rfl (hb hby at_11) (XS.iconst X0.here hx rfl (hb hby at_14) (XS.iloadN X0.here hx rfl (hb hby at_15) rfl (XS.imul X0.here hx rfl (hb hby at_16) rfl (XS.iloadN X0.here hx rfl (hb hby at_17) rfl (XS.iadd X0.here hx rfl (hb hby at_18) rfl (XS.ishr X0.here hx rfl (hb hby at_19) rfl (XS.iconst X0.here hx rfl (hb hby at_20) k)))))))) ?_
      refine Run.st (S' := s₁.setTop (mkF m 33 #[.val (.int p0), .val (.int p1), .val (.int (2 : Int32)), .val (.int (1 : Int32)), .val (.int (1 : Int32)), .unset] [(.int (2 : Int32))])) (fun _ k => XS.iand X0.here hx rfl (hb hby at_21) rfl (XS.ifNo X0.here hx rfl (hb hby at_22) rfl ((if0 _ _).trans (feq (show ¬ ((1 : Int32) = (0 : Int32)) from (by decide))).1) (XS.iconst X0.here hx rfl (hb hby at_25) (XS.goto X0.here hx rfl (pc0 := 26) (pc' := 30) rfl (hb hby at_26) (by decide) (by decide) (XS.istore X0.here hx rfl (hb hby at_30) rfl (l' := #[.val (.int p0), .val (.int p1), .val (.int (2 : Int32)), .val (.int (1 : Int32)), .val (.int (1 : Int32)), .unset]) rfl (XS.iloadN X0.here hx rfl (hb hby at_32) rfl k)))))) ?_
      obtain ⟨_, _, ⟨T22, L22, k22, n22⟩, -, X22, ⟨Lc22, hQ22, l22, y22, z22⟩, st22⟩ := Jvm.LawKit.callS X0 hx (y := (⟨"com/example/quittance/quittance/PeriodRulePaysPinLaw", "rule", "(I)Lcom/example/quittance/quittance/PeriodRule;"⟩ : MethodName)) hown (mvT hZ (hw _ (List.mem_of_getElem? (i := 1) rfl))) (mvT hZ (hw _ (List.mem_of_getElem? (i := 2) rfl))) (mvT hZ (hw _ (List.mem_of_getElem? (i := 3) rfl))) (mvT hZ (hw _ (List.mem_of_getElem? (i := 4) rfl))) (by decide) (backOf (W := 0) (rmRule l Z aV hw [] (2 : Int32) s_PeriodRule_YES s_PeriodRule_NO s_PeriodRule_PERMISSION s_PeriodRule_NEGATIVE_PERMISSION h0 n0 Zn S_s_PeriodRule_YES S_s_PeriodRule_NO S_s_PeriodRule_PERMISSION S_s_PeriodRule_NEGATIVE_PERMISSION) hZ (hw _ (List.mem_of_getElem? (i := 4) rfl)) (hw _ (List.mem_of_getElem? (i := 3) rfl)) (by decide) (by decide)) (g := (mkF m 33 #[.val (.int p0), .val (.int p1), .val (.int (2 : Int32)), .val (.int (1 : Int32)), .val (.int (1 : Int32)), .unset] [(.int (2 : Int32))])) rfl (by rw [hml]; rfl) (argsL := [(.int (2 : Int32))]) (rest := []) (lenOf pd_1 rfl) rfl (by show 2 * 0 + _ ≤ _; exact Nat.le_of_eq rfl) (hb hby at_33) (fun _ _ => ⟨rfl, e0, (by decide : 0 + 0 ≤ _), (by decide : 0 + 0 ≤ _)⟩)
      dsimp only [Pt.U, Pt.locs, Pt.cells, Pt.slots] at X22 l22 y22 z22 st22 hQ22
      subst l22 y22 z22
      obtain ⟨rfl, N22q, e22⟩ := hQ22
      have N22 := Fr.app N0 N22q
      rw [show (FRule (2 : Int32) s_PeriodRule_YES s_PeriodRule_NO s_PeriodRule_PERMISSION s_PeriodRule_NEGATIVE_PERMISSION) = s_PeriodRule_PERMISSION from rfl] at st22
      refine Run.st (S' := T22.setTop (mkF m 37 #[.val (.int p0), .val (.int p1), .val (.int (2 : Int32)), .val (.int (1 : Int32)), .val (.int (1 : Int32)), .unset] [(.int (1 : Int32)), (.ref s_PeriodRule_PERMISSION)])) (fun _ k => st22 _ (XS.iloadN X22.here hx rfl (hb hby at_36) rfl k)) ?_
      obtain ⟨_, _, ⟨T23, L23, k23, n23⟩, -, X23, ⟨Lc23, hQ23, l23, y23, z23⟩, st23⟩ := Jvm.LawKit.callS X22 hx (y := (⟨"com/example/quittance/quittance/PeriodRulePaysPinLaw", "permission", "(I)Lcom/example/quittance/quittance/Permission;"⟩ : MethodName)) hown (mvT hZ (hw _ (List.mem_of_getElem? (i := 8) rfl))) (mvT hZ (hw _ (List.mem_of_getElem? (i := 9) rfl))) (mvT hZ (hw _ (List.mem_of_getElem? (i := 3) rfl))) (mvT hZ (hw _ (List.mem_of_getElem? (i := 10) rfl))) (by decide) (backOf (W := 1) (rmPerm l Z aV hw [] (1 : Int32) s_Permission_NOT_STATED s_Permission_GIVEN s_Permission_REFUSED h0 n0 Zn S_s_Permission_NOT_STATED S_s_Permission_GIVEN S_s_Permission_REFUSED) hZ (hw _ (List.mem_of_getElem? (i := 10) rfl)) (hw _ (List.mem_of_getElem? (i := 3) rfl)) (by decide) (by decide)) (g := (mkF m 37 #[.val (.int p0), .val (.int p1), .val (.int (2 : Int32)), .val (.int (1 : Int32)), .val (.int (1 : Int32)), .unset] [(.int (1 : Int32)), (.ref s_PeriodRule_PERMISSION)])) rfl (by rw [hml]; rfl) (argsL := [(.int (1 : Int32))]) (rest := [(.ref s_PeriodRule_PERMISSION)]) (lenOf pd_2 rfl) rfl (by show 2 * 0 + _ ≤ _; exact Nat.le_of_eq rfl) (hb hby at_37) (fun _ _ => ⟨rfl, e22, (by decide : 0 + 0 ≤ _), (by decide : 0 + 0 ≤ _)⟩)
      dsimp only [Pt.U, Pt.locs, Pt.cells, Pt.slots] at X23 l23 y23 z23 st23 hQ23
      subst l23 y23 z23
      obtain ⟨rfl, N23q, e23⟩ := hQ23
      have N23 := Fr.app N22 N23q
      rw [show (FPerm (1 : Int32) s_Permission_NOT_STATED s_Permission_GIVEN s_Permission_REFUSED) = s_Permission_GIVEN from rfl] at st23
      refine Run.st (S' := T23.setTop (mkF m 40 #[.val (.int p0), .val (.int p1), .val (.int (2 : Int32)), .val (.int (1 : Int32)), .val (.int (1 : Int32)), .unset] [(.ref s_Permission_GIVEN), (.ref s_PeriodRule_PERMISSION)])) (fun _ k => st23 _ k) ?_
      obtain ⟨cq24, kq24, q24a, q24b, q24c⟩ := isOf hZ e23 E_s_PeriodRule_PERMISSION
      obtain ⟨_, _, ⟨T24, L24, k24, n24⟩, -, X24, ⟨Lc24, hQ24, l24, y24, z24⟩, st24⟩ := X23.virtualBack hx (y := (⟨"com/example/quittance/quittance/PeriodRule", "pays", "(Lcom/example/quittance/quittance/Permission;)Z"⟩ : MethodName)) (z := (⟨"com/example/quittance/quittance/PeriodRule", "pays", "(Lcom/example/quittance/quittance/Permission;)Z"⟩ : MethodName)) hown (mvT hZ (hw _ (List.mem_of_getElem? (i := 14) rfl))) (mvT hZ (hw _ (List.mem_of_getElem? (i := 15) rfl))) (notFace_of_selects (args := #[]) (mvT hZ (hw _ (List.mem_of_getElem? (i := 17) rfl)))) (mvT hZ (hw _ (List.mem_of_getElem? (i := 17) rfl))) (mvT hZ (hw _ (List.mem_of_getElem? (i := 16) rfl))) (by decide) (backOf (W := 0) (rmPays l Z aV hw [] s_PeriodRule_PERMISSION s_Permission_GIVEN (2 : Int32) s_Permission_GIVEN s_Permission_REFUSED h0 n0 Zn (by decide) E_s_PeriodRule_PERMISSION F_s_PeriodRule_PERMISSION S_s_Permission_GIVEN S_s_Permission_REFUSED) hZ (hw _ (List.mem_of_getElem? (i := 18) rfl)) (hw _ (List.mem_of_getElem? (i := 6) rfl)) (by decide) (by decide)) q24a q24c (g := (mkF m 40 #[.val (.int p0), .val (.int p1), .val (.int (2 : Int32)), .val (.int (1 : Int32)), .val (.int (1 : Int32)), .unset] [(.ref s_Permission_GIVEN), (.ref s_PeriodRule_PERMISSION)])) rfl (by rw [hml]; rfl) (Steps.refl _) (argsL := [(.ref s_Permission_GIVEN)]) (rest := []) (lenOf pd_3 rfl) rfl (by show 2 * 0 + _ ≤ _; exact Nat.le_of_eq rfl) (hb hby at_40) (fun _ _ => ⟨rfl, e23, (by decide : 0 + 0 ≤ _), (by decide : 0 + 0 ≤ _)⟩)
      dsimp only [Pt.U, Pt.locs, Pt.cells, Pt.slots] at X24 l24 y24 z24 st24 hQ24
      subst l24 y24 z24
      obtain ⟨rfl, N24q, e24⟩ := hQ24
      have N24 := Fr.app N23 N24q
      have hv24 : (FPays s_PeriodRule_PERMISSION s_Permission_GIVEN (2 : Int32) s_Permission_GIVEN s_Permission_REFUSED) = (1 : Int32) := by unfold FPays; simp [hne1, hne2, hne3, Ne.symm hne1, Ne.symm hne2, Ne.symm hne3]
      refine Run.st (S' := T24.setTop (mkF m 57 #[.val (.int p0), .val (.int p1), .val (.int (2 : Int32)), .val (.int (1 : Int32)), .val (.int (1 : Int32)), .val (.int (FPays s_PeriodRule_PERMISSION s_Permission_GIVEN (2 : Int32) s_Permission_GIVEN s_Permission_REFUSED))] [(.int (1 : Int32))])) (fun _ k => st24.trans (XS.istore X24.here hx rfl (hb hby at_43) rfl (l' := #[.val (.int p0), .val (.int p1), .val (.int (2 : Int32)), .val (.int (1 : Int32)), .val (.int (1 : Int32)), .val (.int (FPays s_PeriodRule_PERMISSION s_Permission_GIVEN (2 : Int32) s_Permission_GIVEN s_Permission_REFUSED))]) rfl (XS.iload X24.here hx rfl (hb hby at_45) rfl (XS.iload X24.here hx rfl (hb hby at_47) rfl (XS.icmpNo X24.here hx rfl (hb hby at_49) rfl (teq (show (FPays s_PeriodRule_PERMISSION s_Permission_GIVEN (2 : Int32) s_Permission_GIVEN s_Permission_REFUSED) = (1 : Int32) from hv24)).2 (XS.iconst X24.here hx rfl (hb hby at_52) (XS.goto X24.here hx rfl (pc0 := 53) (pc' := 57) rfl (hb hby at_53) (by decide) (by decide) k))))))) ?_
      refine Run.out X24 hx Bd.notSynchronized Bd.returns rfl (Or.inl ⟨rfl, by simp, _, rfl⟩) (hb hby at_57) (by decide) (by decide) ?_
      rw [e24]
      exact ⟨rfl, N24⟩
    · refine Run.st (S' := s₁.setTop (mkF m 21 #[.val (.int p0), .val (.int p1), .val (.int (2 : Int32)), .val (.int (2 : Int32)), .unset, .unset] [(.int (1 : Int32)), (.int (6 : Int32))])) (fun _ k => XS.sipush X0.here hx rfl (hb hby at_11) (XS.iconst X0.here hx rfl (hb hby at_14) (XS.iloadN X0.here hx rfl (hb hby at_15) rfl (XS.imul X0.here hx rfl (hb hby at_16) rfl (XS.iloadN X0.here hx rfl (hb hby at_17) rfl (XS.iadd X0.here hx rfl (hb hby at_18) rfl (XS.ishr X0.here hx rfl (hb hby at_19) rfl (XS.iconst X0.here hx rfl (hb hby at_20) k)))))))) ?_
      refine Run.st (S' := s₁.setTop (mkF m 33 #[.val (.int p0), .val (.int p1), .val (.int (2 : Int32)), .val (.int (2 : Int32)), .val (.int (0 : Int32)), .unset] [(.int (2 : Int32))])) (fun _ k => XS.iand X0.here hx rfl (hb hby at_21) rfl (XS.ifYes X0.here hx rfl (pc0 := 22) (pc' := 29) rfl (hb hby at_22) rfl ((if0 _ _).trans (teq (show (0 : Int32) = (0 : Int32) from (by decide))).1) (by decide) (by decide) (XS.iconst X0.here hx rfl (hb hby at_29) (XS.istore X0.here hx rfl (hb hby at_30) rfl (l' := #[.val (.int p0), .val (.int p1), .val (.int (2 : Int32)), .val (.int (2 : Int32)), .val (.int (0 : Int32)), .unset]) rfl (XS.iloadN X0.here hx rfl (hb hby at_32) rfl k))))) ?_
      obtain ⟨_, _, ⟨T25, L25, k25, n25⟩, -, X25, ⟨Lc25, hQ25, l25, y25, z25⟩, st25⟩ := Jvm.LawKit.callS X0 hx (y := (⟨"com/example/quittance/quittance/PeriodRulePaysPinLaw", "rule", "(I)Lcom/example/quittance/quittance/PeriodRule;"⟩ : MethodName)) hown (mvT hZ (hw _ (List.mem_of_getElem? (i := 1) rfl))) (mvT hZ (hw _ (List.mem_of_getElem? (i := 2) rfl))) (mvT hZ (hw _ (List.mem_of_getElem? (i := 3) rfl))) (mvT hZ (hw _ (List.mem_of_getElem? (i := 4) rfl))) (by decide) (backOf (W := 0) (rmRule l Z aV hw [] (2 : Int32) s_PeriodRule_YES s_PeriodRule_NO s_PeriodRule_PERMISSION s_PeriodRule_NEGATIVE_PERMISSION h0 n0 Zn S_s_PeriodRule_YES S_s_PeriodRule_NO S_s_PeriodRule_PERMISSION S_s_PeriodRule_NEGATIVE_PERMISSION) hZ (hw _ (List.mem_of_getElem? (i := 4) rfl)) (hw _ (List.mem_of_getElem? (i := 3) rfl)) (by decide) (by decide)) (g := (mkF m 33 #[.val (.int p0), .val (.int p1), .val (.int (2 : Int32)), .val (.int (2 : Int32)), .val (.int (0 : Int32)), .unset] [(.int (2 : Int32))])) rfl (by rw [hml]; rfl) (argsL := [(.int (2 : Int32))]) (rest := []) (lenOf pd_1 rfl) rfl (by show 2 * 0 + _ ≤ _; exact Nat.le_of_eq rfl) (hb hby at_33) (fun _ _ => ⟨rfl, e0, (by decide : 0 + 0 ≤ _), (by decide : 0 + 0 ≤ _)⟩)
      dsimp only [Pt.U, Pt.locs, Pt.cells, Pt.slots] at X25 l25 y25 z25 st25 hQ25
      subst l25 y25 z25
      obtain ⟨rfl, N25q, e25⟩ := hQ25
      have N25 := Fr.app N0 N25q
      rw [show (FRule (2 : Int32) s_PeriodRule_YES s_PeriodRule_NO s_PeriodRule_PERMISSION s_PeriodRule_NEGATIVE_PERMISSION) = s_PeriodRule_PERMISSION from rfl] at st25
      refine Run.st (S' := T25.setTop (mkF m 37 #[.val (.int p0), .val (.int p1), .val (.int (2 : Int32)), .val (.int (2 : Int32)), .val (.int (0 : Int32)), .unset] [(.int (2 : Int32)), (.ref s_PeriodRule_PERMISSION)])) (fun _ k => st25 _ (XS.iloadN X25.here hx rfl (hb hby at_36) rfl k)) ?_
      obtain ⟨_, _, ⟨T26, L26, k26, n26⟩, -, X26, ⟨Lc26, hQ26, l26, y26, z26⟩, st26⟩ := Jvm.LawKit.callS X25 hx (y := (⟨"com/example/quittance/quittance/PeriodRulePaysPinLaw", "permission", "(I)Lcom/example/quittance/quittance/Permission;"⟩ : MethodName)) hown (mvT hZ (hw _ (List.mem_of_getElem? (i := 8) rfl))) (mvT hZ (hw _ (List.mem_of_getElem? (i := 9) rfl))) (mvT hZ (hw _ (List.mem_of_getElem? (i := 3) rfl))) (mvT hZ (hw _ (List.mem_of_getElem? (i := 10) rfl))) (by decide) (backOf (W := 1) (rmPerm l Z aV hw [] (2 : Int32) s_Permission_NOT_STATED s_Permission_GIVEN s_Permission_REFUSED h0 n0 Zn S_s_Permission_NOT_STATED S_s_Permission_GIVEN S_s_Permission_REFUSED) hZ (hw _ (List.mem_of_getElem? (i := 10) rfl)) (hw _ (List.mem_of_getElem? (i := 3) rfl)) (by decide) (by decide)) (g := (mkF m 37 #[.val (.int p0), .val (.int p1), .val (.int (2 : Int32)), .val (.int (2 : Int32)), .val (.int (0 : Int32)), .unset] [(.int (2 : Int32)), (.ref s_PeriodRule_PERMISSION)])) rfl (by rw [hml]; rfl) (argsL := [(.int (2 : Int32))]) (rest := [(.ref s_PeriodRule_PERMISSION)]) (lenOf pd_2 rfl) rfl (by show 2 * 0 + _ ≤ _; exact Nat.le_of_eq rfl) (hb hby at_37) (fun _ _ => ⟨rfl, e25, (by decide : 0 + 0 ≤ _), (by decide : 0 + 0 ≤ _)⟩)
      dsimp only [Pt.U, Pt.locs, Pt.cells, Pt.slots] at X26 l26 y26 z26 st26 hQ26
      subst l26 y26 z26
      obtain ⟨rfl, N26q, e26⟩ := hQ26
      have N26 := Fr.app N25 N26q
      rw [show (FPerm (2 : Int32) s_Permission_NOT_STATED s_Permission_GIVEN s_Permission_REFUSED) = s_Permission_REFUSED from rfl] at st26
      refine Run.st (S' := T26.setTop (mkF m 40 #[.val (.int p0), .val (.int p1), .val (.int (2 : Int32)), .val (.int (2 : Int32)), .val (.int (0 : Int32)), .unset] [(.ref s_Permission_REFUSED), (.ref s_PeriodRule_PERMISSION)])) (fun _ k => st26 _ k) ?_
      obtain ⟨cq27, kq27, q27a, q27b, q27c⟩ := isOf hZ e26 E_s_PeriodRule_PERMISSION
      obtain ⟨_, _, ⟨T27, L27, k27, n27⟩, -, X27, ⟨Lc27, hQ27, l27, y27, z27⟩, st27⟩ := X26.virtualBack hx (y := (⟨"com/example/quittance/quittance/PeriodRule", "pays", "(Lcom/example/quittance/quittance/Permission;)Z"⟩ : MethodName)) (z := (⟨"com/example/quittance/quittance/PeriodRule", "pays", "(Lcom/example/quittance/quittance/Permission;)Z"⟩ : MethodName)) hown (mvT hZ (hw _ (List.mem_of_getElem? (i := 14) rfl))) (mvT hZ (hw _ (List.mem_of_getElem? (i := 15) rfl))) (notFace_of_selects (args := #[]) (mvT hZ (hw _ (List.mem_of_getElem? (i := 17) rfl)))) (mvT hZ (hw _ (List.mem_of_getElem? (i := 17) rfl))) (mvT hZ (hw _ (List.mem_of_getElem? (i := 16) rfl))) (by decide) (backOf (W := 0) (rmPays l Z aV hw [] s_PeriodRule_PERMISSION s_Permission_REFUSED (2 : Int32) s_Permission_GIVEN s_Permission_REFUSED h0 n0 Zn (by decide) E_s_PeriodRule_PERMISSION F_s_PeriodRule_PERMISSION S_s_Permission_GIVEN S_s_Permission_REFUSED) hZ (hw _ (List.mem_of_getElem? (i := 18) rfl)) (hw _ (List.mem_of_getElem? (i := 6) rfl)) (by decide) (by decide)) q27a q27c (g := (mkF m 40 #[.val (.int p0), .val (.int p1), .val (.int (2 : Int32)), .val (.int (2 : Int32)), .val (.int (0 : Int32)), .unset] [(.ref s_Permission_REFUSED), (.ref s_PeriodRule_PERMISSION)])) rfl (by rw [hml]; rfl) (Steps.refl _) (argsL := [(.ref s_Permission_REFUSED)]) (rest := []) (lenOf pd_3 rfl) rfl (by show 2 * 0 + _ ≤ _; exact Nat.le_of_eq rfl) (hb hby at_40) (fun _ _ => ⟨rfl, e26, (by decide : 0 + 0 ≤ _), (by decide : 0 + 0 ≤ _)⟩)
      dsimp only [Pt.U, Pt.locs, Pt.cells, Pt.slots] at X27 l27 y27 z27 st27 hQ27
      subst l27 y27 z27
      obtain ⟨rfl, N27q, e27⟩ := hQ27
      have N27 := Fr.app N26 N27q
      have hv27 : (FPays s_PeriodRule_PERMISSION s_Permission_REFUSED (2 : Int32) s_Permission_GIVEN s_Permission_REFUSED) = (0 : Int32) := by unfold FPays; simp [hne1, hne2, hne3, Ne.symm hne1, Ne.symm hne2, Ne.symm hne3]
      refine Run.st (S' := T27.setTop (mkF m 57 #[.val (.int p0), .val (.int p1), .val (.int (2 : Int32)), .val (.int (2 : Int32)), .val (.int (0 : Int32)), .val (.int (FPays s_PeriodRule_PERMISSION s_Permission_REFUSED (2 : Int32) s_Permission_GIVEN s_Permission_REFUSED))] [(.int (1 : Int32))])) (fun _ k => st27.trans (XS.istore X27.here hx rfl (hb hby at_43) rfl (l' := #[.val (.int p0), .val (.int p1), .val (.int (2 : Int32)), .val (.int (2 : Int32)), .val (.int (0 : Int32)), .val (.int (FPays s_PeriodRule_PERMISSION s_Permission_REFUSED (2 : Int32) s_Permission_GIVEN s_Permission_REFUSED))]) rfl (XS.iload X27.here hx rfl (hb hby at_45) rfl (XS.iload X27.here hx rfl (hb hby at_47) rfl (XS.icmpNo X27.here hx rfl (hb hby at_49) rfl (teq (show (FPays s_PeriodRule_PERMISSION s_Permission_REFUSED (2 : Int32) s_Permission_GIVEN s_Permission_REFUSED) = (0 : Int32) from hv27)).2 (XS.iconst X27.here hx rfl (hb hby at_52) (XS.goto X27.here hx rfl (pc0 := 53) (pc' := 57) rfl (hb hby at_53) (by decide) (by decide) k))))))) ?_
      refine Run.out X27 hx Bd.notSynchronized Bd.returns rfl (Or.inl ⟨rfl, by simp, _, rfl⟩) (hb hby at_57) (by decide) (by decide) ?_
      rw [e27]
      exact ⟨rfl, N27⟩
  · clear hr
    rcases own_c3 hq with rfl | rfl | rfl
    · refine Run.st (S' := s₁.setTop (mkF m 21 #[.val (.int p0), .val (.int p1), .val (.int (3 : Int32)), .val (.int (0 : Int32)), .unset, .unset] [(.int (1 : Int32)), (.int (3 : Int32))])) (fun _ k => XS.sipush X0.here hx rfl (hb hby at_11) (XS.iconst X0.here hx rfl (hb hby at_14) (XS.iloadN X0.here hx rfl (hb hby at_15) rfl (XS.imul X0.here hx rfl (hb hby at_16) rfl (XS.iloadN X0.here hx rfl (hb hby at_17) rfl (XS.iadd X0.here hx rfl (hb hby at_18) rfl (XS.ishr X0.here hx rfl (hb hby at_19) rfl (XS.iconst X0.here hx rfl (hb hby at_20) k)))))))) ?_
      refine Run.st (S' := s₁.setTop (mkF m 33 #[.val (.int p0), .val (.int p1), .val (.int (3 : Int32)), .val (.int (0 : Int32)), .val (.int (1 : Int32)), .unset] [(.int (3 : Int32))])) (fun _ k => XS.iand X0.here hx rfl (hb hby at_21) rfl (XS.ifNo X0.here hx rfl (hb hby at_22) rfl ((if0 _ _).trans (feq (show ¬ ((1 : Int32) = (0 : Int32)) from (by decide))).1) (XS.iconst X0.here hx rfl (hb hby at_25) (XS.goto X0.here hx rfl (pc0 := 26) (pc' := 30) rfl (hb hby at_26) (by decide) (by decide) (XS.istore X0.here hx rfl (hb hby at_30) rfl (l' := #[.val (.int p0), .val (.int p1), .val (.int (3 : Int32)), .val (.int (0 : Int32)), .val (.int (1 : Int32)), .unset]) rfl (XS.iloadN X0.here hx rfl (hb hby at_32) rfl k)))))) ?_
      obtain ⟨_, _, ⟨T28, L28, k28, n28⟩, -, X28, ⟨Lc28, hQ28, l28, y28, z28⟩, st28⟩ := Jvm.LawKit.callS X0 hx (y := (⟨"com/example/quittance/quittance/PeriodRulePaysPinLaw", "rule", "(I)Lcom/example/quittance/quittance/PeriodRule;"⟩ : MethodName)) hown (mvT hZ (hw _ (List.mem_of_getElem? (i := 1) rfl))) (mvT hZ (hw _ (List.mem_of_getElem? (i := 2) rfl))) (mvT hZ (hw _ (List.mem_of_getElem? (i := 3) rfl))) (mvT hZ (hw _ (List.mem_of_getElem? (i := 4) rfl))) (by decide) (backOf (W := 0) (rmRule l Z aV hw [] (3 : Int32) s_PeriodRule_YES s_PeriodRule_NO s_PeriodRule_PERMISSION s_PeriodRule_NEGATIVE_PERMISSION h0 n0 Zn S_s_PeriodRule_YES S_s_PeriodRule_NO S_s_PeriodRule_PERMISSION S_s_PeriodRule_NEGATIVE_PERMISSION) hZ (hw _ (List.mem_of_getElem? (i := 4) rfl)) (hw _ (List.mem_of_getElem? (i := 3) rfl)) (by decide) (by decide)) (g := (mkF m 33 #[.val (.int p0), .val (.int p1), .val (.int (3 : Int32)), .val (.int (0 : Int32)), .val (.int (1 : Int32)), .unset] [(.int (3 : Int32))])) rfl (by rw [hml]; rfl) (argsL := [(.int (3 : Int32))]) (rest := []) (lenOf pd_1 rfl) rfl (by show 2 * 0 + _ ≤ _; exact Nat.le_of_eq rfl) (hb hby at_33) (fun _ _ => ⟨rfl, e0, (by decide : 0 + 0 ≤ _), (by decide : 0 + 0 ≤ _)⟩)
      dsimp only [Pt.U, Pt.locs, Pt.cells, Pt.slots] at X28 l28 y28 z28 st28 hQ28
      subst l28 y28 z28
      obtain ⟨rfl, N28q, e28⟩ := hQ28
      have N28 := Fr.app N0 N28q
      rw [show (FRule (3 : Int32) s_PeriodRule_YES s_PeriodRule_NO s_PeriodRule_PERMISSION s_PeriodRule_NEGATIVE_PERMISSION) = s_PeriodRule_NEGATIVE_PERMISSION from rfl] at st28
      refine Run.st (S' := T28.setTop (mkF m 37 #[.val (.int p0), .val (.int p1), .val (.int (3 : Int32)), .val (.int (0 : Int32)), .val (.int (1 : Int32)), .unset] [(.int (0 : Int32)), (.ref s_PeriodRule_NEGATIVE_PERMISSION)])) (fun _ k => st28 _ (XS.iloadN X28.here hx rfl (hb hby at_36) rfl k)) ?_
      obtain ⟨_, _, ⟨T29, L29, k29, n29⟩, -, X29, ⟨Lc29, hQ29, l29, y29, z29⟩, st29⟩ := Jvm.LawKit.callS X28 hx (y := (⟨"com/example/quittance/quittance/PeriodRulePaysPinLaw", "permission", "(I)Lcom/example/quittance/quittance/Permission;"⟩ : MethodName)) hown (mvT hZ (hw _ (List.mem_of_getElem? (i := 8) rfl))) (mvT hZ (hw _ (List.mem_of_getElem? (i := 9) rfl))) (mvT hZ (hw _ (List.mem_of_getElem? (i := 3) rfl))) (mvT hZ (hw _ (List.mem_of_getElem? (i := 10) rfl))) (by decide) (backOf (W := 1) (rmPerm l Z aV hw [] (0 : Int32) s_Permission_NOT_STATED s_Permission_GIVEN s_Permission_REFUSED h0 n0 Zn S_s_Permission_NOT_STATED S_s_Permission_GIVEN S_s_Permission_REFUSED) hZ (hw _ (List.mem_of_getElem? (i := 10) rfl)) (hw _ (List.mem_of_getElem? (i := 3) rfl)) (by decide) (by decide)) (g := (mkF m 37 #[.val (.int p0), .val (.int p1), .val (.int (3 : Int32)), .val (.int (0 : Int32)), .val (.int (1 : Int32)), .unset] [(.int (0 : Int32)), (.ref s_PeriodRule_NEGATIVE_PERMISSION)])) rfl (by rw [hml]; rfl) (argsL := [(.int (0 : Int32))]) (rest := [(.ref s_PeriodRule_NEGATIVE_PERMISSION)]) (lenOf pd_2 rfl) rfl (by show 2 * 0 + _ ≤ _; exact Nat.le_of_eq rfl) (hb hby at_37) (fun _ _ => ⟨rfl, e28, (by decide : 0 + 0 ≤ _), (by decide : 0 + 0 ≤ _)⟩)
      dsimp only [Pt.U, Pt.locs, Pt.cells, Pt.slots] at X29 l29 y29 z29 st29 hQ29
      subst l29 y29 z29
      obtain ⟨rfl, N29q, e29⟩ := hQ29
      have N29 := Fr.app N28 N29q
      rw [show (FPerm (0 : Int32) s_Permission_NOT_STATED s_Permission_GIVEN s_Permission_REFUSED) = s_Permission_NOT_STATED from rfl] at st29
      refine Run.st (S' := T29.setTop (mkF m 40 #[.val (.int p0), .val (.int p1), .val (.int (3 : Int32)), .val (.int (0 : Int32)), .val (.int (1 : Int32)), .unset] [(.ref s_Permission_NOT_STATED), (.ref s_PeriodRule_NEGATIVE_PERMISSION)])) (fun _ k => st29 _ k) ?_
      obtain ⟨cq30, kq30, q30a, q30b, q30c⟩ := isOf hZ e29 E_s_PeriodRule_NEGATIVE_PERMISSION
      obtain ⟨_, _, ⟨T30, L30, k30, n30⟩, -, X30, ⟨Lc30, hQ30, l30, y30, z30⟩, st30⟩ := X29.virtualBack hx (y := (⟨"com/example/quittance/quittance/PeriodRule", "pays", "(Lcom/example/quittance/quittance/Permission;)Z"⟩ : MethodName)) (z := (⟨"com/example/quittance/quittance/PeriodRule", "pays", "(Lcom/example/quittance/quittance/Permission;)Z"⟩ : MethodName)) hown (mvT hZ (hw _ (List.mem_of_getElem? (i := 14) rfl))) (mvT hZ (hw _ (List.mem_of_getElem? (i := 15) rfl))) (notFace_of_selects (args := #[]) (mvT hZ (hw _ (List.mem_of_getElem? (i := 17) rfl)))) (mvT hZ (hw _ (List.mem_of_getElem? (i := 17) rfl))) (mvT hZ (hw _ (List.mem_of_getElem? (i := 16) rfl))) (by decide) (backOf (W := 0) (rmPays l Z aV hw [] s_PeriodRule_NEGATIVE_PERMISSION s_Permission_NOT_STATED (3 : Int32) s_Permission_GIVEN s_Permission_REFUSED h0 n0 Zn (by decide) E_s_PeriodRule_NEGATIVE_PERMISSION F_s_PeriodRule_NEGATIVE_PERMISSION S_s_Permission_GIVEN S_s_Permission_REFUSED) hZ (hw _ (List.mem_of_getElem? (i := 18) rfl)) (hw _ (List.mem_of_getElem? (i := 6) rfl)) (by decide) (by decide)) q30a q30c (g := (mkF m 40 #[.val (.int p0), .val (.int p1), .val (.int (3 : Int32)), .val (.int (0 : Int32)), .val (.int (1 : Int32)), .unset] [(.ref s_Permission_NOT_STATED), (.ref s_PeriodRule_NEGATIVE_PERMISSION)])) rfl (by rw [hml]; rfl) (Steps.refl _) (argsL := [(.ref s_Permission_NOT_STATED)]) (rest := []) (lenOf pd_3 rfl) rfl (by show 2 * 0 + _ ≤ _; exact Nat.le_of_eq rfl) (hb hby at_40) (fun _ _ => ⟨rfl, e29, (by decide : 0 + 0 ≤ _), (by decide : 0 + 0 ≤ _)⟩)
      dsimp only [Pt.U, Pt.locs, Pt.cells, Pt.slots] at X30 l30 y30 z30 st30 hQ30
      subst l30 y30 z30
      obtain ⟨rfl, N30q, e30⟩ := hQ30
      have N30 := Fr.app N29 N30q
      have hv30 : (FPays s_PeriodRule_NEGATIVE_PERMISSION s_Permission_NOT_STATED (3 : Int32) s_Permission_GIVEN s_Permission_REFUSED) = (1 : Int32) := by unfold FPays; simp [hne1, hne2, hne3, Ne.symm hne1, Ne.symm hne2, Ne.symm hne3]
      refine Run.st (S' := T30.setTop (mkF m 57 #[.val (.int p0), .val (.int p1), .val (.int (3 : Int32)), .val (.int (0 : Int32)), .val (.int (1 : Int32)), .val (.int (FPays s_PeriodRule_NEGATIVE_PERMISSION s_Permission_NOT_STATED (3 : Int32) s_Permission_GIVEN s_Permission_REFUSED))] [(.int (1 : Int32))])) (fun _ k => st30.trans (XS.istore X30.here hx rfl (hb hby at_43) rfl (l' := #[.val (.int p0), .val (.int p1), .val (.int (3 : Int32)), .val (.int (0 : Int32)), .val (.int (1 : Int32)), .val (.int (FPays s_PeriodRule_NEGATIVE_PERMISSION s_Permission_NOT_STATED (3 : Int32) s_Permission_GIVEN s_Permission_REFUSED))]) rfl (XS.iload X30.here hx rfl (hb hby at_45) rfl (XS.iload X30.here hx rfl (hb hby at_47) rfl (XS.icmpNo X30.here hx rfl (hb hby at_49) rfl (teq (show (FPays s_PeriodRule_NEGATIVE_PERMISSION s_Permission_NOT_STATED (3 : Int32) s_Permission_GIVEN s_Permission_REFUSED) = (1 : Int32) from hv30)).2 (XS.iconst X30.here hx rfl (hb hby at_52) (XS.goto X30.here hx rfl (pc0 := 53) (pc' := 57) rfl (hb hby at_53) (by decide) (by decide) k))))))) ?_
      refine Run.out X30 hx Bd.notSynchronized Bd.returns rfl (Or.inl ⟨rfl, by simp, _, rfl⟩) (hb hby at_57) (by decide) (by decide) ?_
      rw [e30]
      exact ⟨rfl, N30⟩
    · refine Run.st (S' := s₁.setTop (mkF m 21 #[.val (.int p0), .val (.int p1), .val (.int (3 : Int32)), .val (.int (1 : Int32)), .unset, .unset] [(.int (1 : Int32)), (.int (1 : Int32))])) (fun _ k => XS.sipush X0.here hx rfl (hb hby at_11) (XS.iconst X0.here hx rfl (hb hby at_14) (XS.iloadN X0.here hx rfl (hb hby at_15) rfl (XS.imul X0.here hx rfl (hb hby at_16) rfl (XS.iloadN X0.here hx rfl (hb hby at_17) rfl (XS.iadd X0.here hx rfl (hb hby at_18) rfl (XS.ishr X0.here hx rfl (hb hby at_19) rfl (XS.iconst X0.here hx rfl (hb hby at_20) k)))))))) ?_
      refine Run.st (S' := s₁.setTop (mkF m 33 #[.val (.int p0), .val (.int p1), .val (.int (3 : Int32)), .val (.int (1 : Int32)), .val (.int (1 : Int32)), .unset] [(.int (3 : Int32))])) (fun _ k => XS.iand X0.here hx rfl (hb hby at_21) rfl (XS.ifNo X0.here hx rfl (hb hby at_22) rfl ((if0 _ _).trans (feq (show ¬ ((1 : Int32) = (0 : Int32)) from (by decide))).1) (XS.iconst X0.here hx rfl (hb hby at_25) (XS.goto X0.here hx rfl (pc0 := 26) (pc' := 30) rfl (hb hby at_26) (by decide) (by decide) (XS.istore X0.here hx rfl (hb hby at_30) rfl (l' := #[.val (.int p0), .val (.int p1), .val (.int (3 : Int32)), .val (.int (1 : Int32)), .val (.int (1 : Int32)), .unset]) rfl (XS.iloadN X0.here hx rfl (hb hby at_32) rfl k)))))) ?_
      obtain ⟨_, _, ⟨T31, L31, k31, n31⟩, -, X31, ⟨Lc31, hQ31, l31, y31, z31⟩, st31⟩ := Jvm.LawKit.callS X0 hx (y := (⟨"com/example/quittance/quittance/PeriodRulePaysPinLaw", "rule", "(I)Lcom/example/quittance/quittance/PeriodRule;"⟩ : MethodName)) hown (mvT hZ (hw _ (List.mem_of_getElem? (i := 1) rfl))) (mvT hZ (hw _ (List.mem_of_getElem? (i := 2) rfl))) (mvT hZ (hw _ (List.mem_of_getElem? (i := 3) rfl))) (mvT hZ (hw _ (List.mem_of_getElem? (i := 4) rfl))) (by decide) (backOf (W := 0) (rmRule l Z aV hw [] (3 : Int32) s_PeriodRule_YES s_PeriodRule_NO s_PeriodRule_PERMISSION s_PeriodRule_NEGATIVE_PERMISSION h0 n0 Zn S_s_PeriodRule_YES S_s_PeriodRule_NO S_s_PeriodRule_PERMISSION S_s_PeriodRule_NEGATIVE_PERMISSION) hZ (hw _ (List.mem_of_getElem? (i := 4) rfl)) (hw _ (List.mem_of_getElem? (i := 3) rfl)) (by decide) (by decide)) (g := (mkF m 33 #[.val (.int p0), .val (.int p1), .val (.int (3 : Int32)), .val (.int (1 : Int32)), .val (.int (1 : Int32)), .unset] [(.int (3 : Int32))])) rfl (by rw [hml]; rfl) (argsL := [(.int (3 : Int32))]) (rest := []) (lenOf pd_1 rfl) rfl (by show 2 * 0 + _ ≤ _; exact Nat.le_of_eq rfl) (hb hby at_33) (fun _ _ => ⟨rfl, e0, (by decide : 0 + 0 ≤ _), (by decide : 0 + 0 ≤ _)⟩)
      dsimp only [Pt.U, Pt.locs, Pt.cells, Pt.slots] at X31 l31 y31 z31 st31 hQ31
      subst l31 y31 z31
      obtain ⟨rfl, N31q, e31⟩ := hQ31
      have N31 := Fr.app N0 N31q
      rw [show (FRule (3 : Int32) s_PeriodRule_YES s_PeriodRule_NO s_PeriodRule_PERMISSION s_PeriodRule_NEGATIVE_PERMISSION) = s_PeriodRule_NEGATIVE_PERMISSION from rfl] at st31
      refine Run.st (S' := T31.setTop (mkF m 37 #[.val (.int p0), .val (.int p1), .val (.int (3 : Int32)), .val (.int (1 : Int32)), .val (.int (1 : Int32)), .unset] [(.int (1 : Int32)), (.ref s_PeriodRule_NEGATIVE_PERMISSION)])) (fun _ k => st31 _ (XS.iloadN X31.here hx rfl (hb hby at_36) rfl k)) ?_
      obtain ⟨_, _, ⟨T32, L32, k32, n32⟩, -, X32, ⟨Lc32, hQ32, l32, y32, z32⟩, st32⟩ := Jvm.LawKit.callS X31 hx (y := (⟨"com/example/quittance/quittance/PeriodRulePaysPinLaw", "permission", "(I)Lcom/example/quittance/quittance/Permission;"⟩ : MethodName)) hown (mvT hZ (hw _ (List.mem_of_getElem? (i := 8) rfl))) (mvT hZ (hw _ (List.mem_of_getElem? (i := 9) rfl))) (mvT hZ (hw _ (List.mem_of_getElem? (i := 3) rfl))) (mvT hZ (hw _ (List.mem_of_getElem? (i := 10) rfl))) (by decide) (backOf (W := 1) (rmPerm l Z aV hw [] (1 : Int32) s_Permission_NOT_STATED s_Permission_GIVEN s_Permission_REFUSED h0 n0 Zn S_s_Permission_NOT_STATED S_s_Permission_GIVEN S_s_Permission_REFUSED) hZ (hw _ (List.mem_of_getElem? (i := 10) rfl)) (hw _ (List.mem_of_getElem? (i := 3) rfl)) (by decide) (by decide)) (g := (mkF m 37 #[.val (.int p0), .val (.int p1), .val (.int (3 : Int32)), .val (.int (1 : Int32)), .val (.int (1 : Int32)), .unset] [(.int (1 : Int32)), (.ref s_PeriodRule_NEGATIVE_PERMISSION)])) rfl (by rw [hml]; rfl) (argsL := [(.int (1 : Int32))]) (rest := [(.ref s_PeriodRule_NEGATIVE_PERMISSION)]) (lenOf pd_2 rfl) rfl (by show 2 * 0 + _ ≤ _; exact Nat.le_of_eq rfl) (hb hby at_37) (fun _ _ => ⟨rfl, e31, (by decide : 0 + 0 ≤ _), (by decide : 0 + 0 ≤ _)⟩)
      dsimp only [Pt.U, Pt.locs, Pt.cells, Pt.slots] at X32 l32 y32 z32 st32 hQ32
      subst l32 y32 z32
      obtain ⟨rfl, N32q, e32⟩ := hQ32
      have N32 := Fr.app N31 N32q
      rw [show (FPerm (1 : Int32) s_Permission_NOT_STATED s_Permission_GIVEN s_Permission_REFUSED) = s_Permission_GIVEN from rfl] at st32
      refine Run.st (S' := T32.setTop (mkF m 40 #[.val (.int p0), .val (.int p1), .val (.int (3 : Int32)), .val (.int (1 : Int32)), .val (.int (1 : Int32)), .unset] [(.ref s_Permission_GIVEN), (.ref s_PeriodRule_NEGATIVE_PERMISSION)])) (fun _ k => st32 _ k) ?_
      obtain ⟨cq33, kq33, q33a, q33b, q33c⟩ := isOf hZ e32 E_s_PeriodRule_NEGATIVE_PERMISSION
      obtain ⟨_, _, ⟨T33, L33, k33, n33⟩, -, X33, ⟨Lc33, hQ33, l33, y33, z33⟩, st33⟩ := X32.virtualBack hx (y := (⟨"com/example/quittance/quittance/PeriodRule", "pays", "(Lcom/example/quittance/quittance/Permission;)Z"⟩ : MethodName)) (z := (⟨"com/example/quittance/quittance/PeriodRule", "pays", "(Lcom/example/quittance/quittance/Permission;)Z"⟩ : MethodName)) hown (mvT hZ (hw _ (List.mem_of_getElem? (i := 14) rfl))) (mvT hZ (hw _ (List.mem_of_getElem? (i := 15) rfl))) (notFace_of_selects (args := #[]) (mvT hZ (hw _ (List.mem_of_getElem? (i := 17) rfl)))) (mvT hZ (hw _ (List.mem_of_getElem? (i := 17) rfl))) (mvT hZ (hw _ (List.mem_of_getElem? (i := 16) rfl))) (by decide) (backOf (W := 0) (rmPays l Z aV hw [] s_PeriodRule_NEGATIVE_PERMISSION s_Permission_GIVEN (3 : Int32) s_Permission_GIVEN s_Permission_REFUSED h0 n0 Zn (by decide) E_s_PeriodRule_NEGATIVE_PERMISSION F_s_PeriodRule_NEGATIVE_PERMISSION S_s_Permission_GIVEN S_s_Permission_REFUSED) hZ (hw _ (List.mem_of_getElem? (i := 18) rfl)) (hw _ (List.mem_of_getElem? (i := 6) rfl)) (by decide) (by decide)) q33a q33c (g := (mkF m 40 #[.val (.int p0), .val (.int p1), .val (.int (3 : Int32)), .val (.int (1 : Int32)), .val (.int (1 : Int32)), .unset] [(.ref s_Permission_GIVEN), (.ref s_PeriodRule_NEGATIVE_PERMISSION)])) rfl (by rw [hml]; rfl) (Steps.refl _) (argsL := [(.ref s_Permission_GIVEN)]) (rest := []) (lenOf pd_3 rfl) rfl (by show 2 * 0 + _ ≤ _; exact Nat.le_of_eq rfl) (hb hby at_40) (fun _ _ => ⟨rfl, e32, (by decide : 0 + 0 ≤ _), (by decide : 0 + 0 ≤ _)⟩)
      dsimp only [Pt.U, Pt.locs, Pt.cells, Pt.slots] at X33 l33 y33 z33 st33 hQ33
      subst l33 y33 z33
      obtain ⟨rfl, N33q, e33⟩ := hQ33
      have N33 := Fr.app N32 N33q
      have hv33 : (FPays s_PeriodRule_NEGATIVE_PERMISSION s_Permission_GIVEN (3 : Int32) s_Permission_GIVEN s_Permission_REFUSED) = (1 : Int32) := by unfold FPays; simp [hne1, hne2, hne3, Ne.symm hne1, Ne.symm hne2, Ne.symm hne3]
      refine Run.st (S' := T33.setTop (mkF m 57 #[.val (.int p0), .val (.int p1), .val (.int (3 : Int32)), .val (.int (1 : Int32)), .val (.int (1 : Int32)), .val (.int (FPays s_PeriodRule_NEGATIVE_PERMISSION s_Permission_GIVEN (3 : Int32) s_Permission_GIVEN s_Permission_REFUSED))] [(.int (1 : Int32))])) (fun _ k => st33.trans (XS.istore X33.here hx rfl (hb hby at_43) rfl (l' := #[.val (.int p0), .val (.int p1), .val (.int (3 : Int32)), .val (.int (1 : Int32)), .val (.int (1 : Int32)), .val (.int (FPays s_PeriodRule_NEGATIVE_PERMISSION s_Permission_GIVEN (3 : Int32) s_Permission_GIVEN s_Permission_REFUSED))]) rfl (XS.iload X33.here hx rfl (hb hby at_45) rfl (XS.iload X33.here hx rfl (hb hby at_47) rfl (XS.icmpNo X33.here hx rfl (hb hby at_49) rfl (teq (show (FPays s_PeriodRule_NEGATIVE_PERMISSION s_Permission_GIVEN (3 : Int32) s_Permission_GIVEN s_Permission_REFUSED) = (1 : Int32) from hv33)).2 (XS.iconst X33.here hx rfl (hb hby at_52) (XS.goto X33.here hx rfl (pc0 := 53) (pc' := 57) rfl (hb hby at_53) (by decide) (by decide) k))))))) ?_
      refine Run.out X33 hx Bd.notSynchronized Bd.returns rfl (Or.inl ⟨rfl, by simp, _, rfl⟩) (hb hby at_57) (by decide) (by decide) ?_
      rw [e33]
      exact ⟨rfl, N33⟩
    · refine Run.st (S' := s₁.setTop (mkF m 21 #[.val (.int p0), .val (.int p1), .val (.int (3 : Int32)), .val (.int (2 : Int32)), .unset, .unset] [(.int (1 : Int32)), (.int (0 : Int32))])) (fun _ k => XS.sipush X0.here hx rfl (hb hby at_11) (XS.iconst X0.here hx rfl (hb hby at_14) (XS.iloadN X0.here hx rfl (hb hby at_15) rfl (XS.imul X0.here hx rfl (hb hby at_16) rfl (XS.iloadN X0.here hx rfl (hb hby at_17) rfl (XS.iadd X0.here hx rfl (hb hby at_18) rfl (XS.ishr X0.here hx rfl (hb hby at_19) rfl (XS.iconst X0.here hx rfl (hb hby at_20) k)))))))) ?_
      refine Run.st (S' := s₁.setTop (mkF m 33 #[.val (.int p0), .val (.int p1), .val (.int (3 : Int32)), .val (.int (2 : Int32)), .val (.int (0 : Int32)), .unset] [(.int (3 : Int32))])) (fun _ k => XS.iand X0.here hx rfl (hb hby at_21) rfl (XS.ifYes X0.here hx rfl (pc0 := 22) (pc' := 29) rfl (hb hby at_22) rfl ((if0 _ _).trans (teq (show (0 : Int32) = (0 : Int32) from (by decide))).1) (by decide) (by decide) (XS.iconst X0.here hx rfl (hb hby at_29) (XS.istore X0.here hx rfl (hb hby at_30) rfl (l' := #[.val (.int p0), .val (.int p1), .val (.int (3 : Int32)), .val (.int (2 : Int32)), .val (.int (0 : Int32)), .unset]) rfl (XS.iloadN X0.here hx rfl (hb hby at_32) rfl k))))) ?_
      obtain ⟨_, _, ⟨T34, L34, k34, n34⟩, -, X34, ⟨Lc34, hQ34, l34, y34, z34⟩, st34⟩ := Jvm.LawKit.callS X0 hx (y := (⟨"com/example/quittance/quittance/PeriodRulePaysPinLaw", "rule", "(I)Lcom/example/quittance/quittance/PeriodRule;"⟩ : MethodName)) hown (mvT hZ (hw _ (List.mem_of_getElem? (i := 1) rfl))) (mvT hZ (hw _ (List.mem_of_getElem? (i := 2) rfl))) (mvT hZ (hw _ (List.mem_of_getElem? (i := 3) rfl))) (mvT hZ (hw _ (List.mem_of_getElem? (i := 4) rfl))) (by decide) (backOf (W := 0) (rmRule l Z aV hw [] (3 : Int32) s_PeriodRule_YES s_PeriodRule_NO s_PeriodRule_PERMISSION s_PeriodRule_NEGATIVE_PERMISSION h0 n0 Zn S_s_PeriodRule_YES S_s_PeriodRule_NO S_s_PeriodRule_PERMISSION S_s_PeriodRule_NEGATIVE_PERMISSION) hZ (hw _ (List.mem_of_getElem? (i := 4) rfl)) (hw _ (List.mem_of_getElem? (i := 3) rfl)) (by decide) (by decide)) (g := (mkF m 33 #[.val (.int p0), .val (.int p1), .val (.int (3 : Int32)), .val (.int (2 : Int32)), .val (.int (0 : Int32)), .unset] [(.int (3 : Int32))])) rfl (by rw [hml]; rfl) (argsL := [(.int (3 : Int32))]) (rest := []) (lenOf pd_1 rfl) rfl (by show 2 * 0 + _ ≤ _; exact Nat.le_of_eq rfl) (hb hby at_33) (fun _ _ => ⟨rfl, e0, (by decide : 0 + 0 ≤ _), (by decide : 0 + 0 ≤ _)⟩)
      dsimp only [Pt.U, Pt.locs, Pt.cells, Pt.slots] at X34 l34 y34 z34 st34 hQ34
      subst l34 y34 z34
      obtain ⟨rfl, N34q, e34⟩ := hQ34
      have N34 := Fr.app N0 N34q
      rw [show (FRule (3 : Int32) s_PeriodRule_YES s_PeriodRule_NO s_PeriodRule_PERMISSION s_PeriodRule_NEGATIVE_PERMISSION) = s_PeriodRule_NEGATIVE_PERMISSION from rfl] at st34
      refine Run.st (S' := T34.setTop (mkF m 37 #[.val (.int p0), .val (.int p1), .val (.int (3 : Int32)), .val (.int (2 : Int32)), .val (.int (0 : Int32)), .unset] [(.int (2 : Int32)), (.ref s_PeriodRule_NEGATIVE_PERMISSION)])) (fun _ k => st34 _ (XS.iloadN X34.here hx rfl (hb hby at_36) rfl k)) ?_
      obtain ⟨_, _, ⟨T35, L35, k35, n35⟩, -, X35, ⟨Lc35, hQ35, l35, y35, z35⟩, st35⟩ := Jvm.LawKit.callS X34 hx (y := (⟨"com/example/quittance/quittance/PeriodRulePaysPinLaw", "permission", "(I)Lcom/example/quittance/quittance/Permission;"⟩ : MethodName)) hown (mvT hZ (hw _ (List.mem_of_getElem? (i := 8) rfl))) (mvT hZ (hw _ (List.mem_of_getElem? (i := 9) rfl))) (mvT hZ (hw _ (List.mem_of_getElem? (i := 3) rfl))) (mvT hZ (hw _ (List.mem_of_getElem? (i := 10) rfl))) (by decide) (backOf (W := 1) (rmPerm l Z aV hw [] (2 : Int32) s_Permission_NOT_STATED s_Permission_GIVEN s_Permission_REFUSED h0 n0 Zn S_s_Permission_NOT_STATED S_s_Permission_GIVEN S_s_Permission_REFUSED) hZ (hw _ (List.mem_of_getElem? (i := 10) rfl)) (hw _ (List.mem_of_getElem? (i := 3) rfl)) (by decide) (by decide)) (g := (mkF m 37 #[.val (.int p0), .val (.int p1), .val (.int (3 : Int32)), .val (.int (2 : Int32)), .val (.int (0 : Int32)), .unset] [(.int (2 : Int32)), (.ref s_PeriodRule_NEGATIVE_PERMISSION)])) rfl (by rw [hml]; rfl) (argsL := [(.int (2 : Int32))]) (rest := [(.ref s_PeriodRule_NEGATIVE_PERMISSION)]) (lenOf pd_2 rfl) rfl (by show 2 * 0 + _ ≤ _; exact Nat.le_of_eq rfl) (hb hby at_37) (fun _ _ => ⟨rfl, e34, (by decide : 0 + 0 ≤ _), (by decide : 0 + 0 ≤ _)⟩)
      dsimp only [Pt.U, Pt.locs, Pt.cells, Pt.slots] at X35 l35 y35 z35 st35 hQ35
      subst l35 y35 z35
      obtain ⟨rfl, N35q, e35⟩ := hQ35
      have N35 := Fr.app N34 N35q
      rw [show (FPerm (2 : Int32) s_Permission_NOT_STATED s_Permission_GIVEN s_Permission_REFUSED) = s_Permission_REFUSED from rfl] at st35
      refine Run.st (S' := T35.setTop (mkF m 40 #[.val (.int p0), .val (.int p1), .val (.int (3 : Int32)), .val (.int (2 : Int32)), .val (.int (0 : Int32)), .unset] [(.ref s_Permission_REFUSED), (.ref s_PeriodRule_NEGATIVE_PERMISSION)])) (fun _ k => st35 _ k) ?_
      obtain ⟨cq36, kq36, q36a, q36b, q36c⟩ := isOf hZ e35 E_s_PeriodRule_NEGATIVE_PERMISSION
      obtain ⟨_, _, ⟨T36, L36, k36, n36⟩, -, X36, ⟨Lc36, hQ36, l36, y36, z36⟩, st36⟩ := X35.virtualBack hx (y := (⟨"com/example/quittance/quittance/PeriodRule", "pays", "(Lcom/example/quittance/quittance/Permission;)Z"⟩ : MethodName)) (z := (⟨"com/example/quittance/quittance/PeriodRule", "pays", "(Lcom/example/quittance/quittance/Permission;)Z"⟩ : MethodName)) hown (mvT hZ (hw _ (List.mem_of_getElem? (i := 14) rfl))) (mvT hZ (hw _ (List.mem_of_getElem? (i := 15) rfl))) (notFace_of_selects (args := #[]) (mvT hZ (hw _ (List.mem_of_getElem? (i := 17) rfl)))) (mvT hZ (hw _ (List.mem_of_getElem? (i := 17) rfl))) (mvT hZ (hw _ (List.mem_of_getElem? (i := 16) rfl))) (by decide) (backOf (W := 0) (rmPays l Z aV hw [] s_PeriodRule_NEGATIVE_PERMISSION s_Permission_REFUSED (3 : Int32) s_Permission_GIVEN s_Permission_REFUSED h0 n0 Zn (by decide) E_s_PeriodRule_NEGATIVE_PERMISSION F_s_PeriodRule_NEGATIVE_PERMISSION S_s_Permission_GIVEN S_s_Permission_REFUSED) hZ (hw _ (List.mem_of_getElem? (i := 18) rfl)) (hw _ (List.mem_of_getElem? (i := 6) rfl)) (by decide) (by decide)) q36a q36c (g := (mkF m 40 #[.val (.int p0), .val (.int p1), .val (.int (3 : Int32)), .val (.int (2 : Int32)), .val (.int (0 : Int32)), .unset] [(.ref s_Permission_REFUSED), (.ref s_PeriodRule_NEGATIVE_PERMISSION)])) rfl (by rw [hml]; rfl) (Steps.refl _) (argsL := [(.ref s_Permission_REFUSED)]) (rest := []) (lenOf pd_3 rfl) rfl (by show 2 * 0 + _ ≤ _; exact Nat.le_of_eq rfl) (hb hby at_40) (fun _ _ => ⟨rfl, e35, (by decide : 0 + 0 ≤ _), (by decide : 0 + 0 ≤ _)⟩)
      dsimp only [Pt.U, Pt.locs, Pt.cells, Pt.slots] at X36 l36 y36 z36 st36 hQ36
      subst l36 y36 z36
      obtain ⟨rfl, N36q, e36⟩ := hQ36
      have N36 := Fr.app N35 N36q
      have hv36 : (FPays s_PeriodRule_NEGATIVE_PERMISSION s_Permission_REFUSED (3 : Int32) s_Permission_GIVEN s_Permission_REFUSED) = (0 : Int32) := by unfold FPays; simp [hne1, hne2, hne3, Ne.symm hne1, Ne.symm hne2, Ne.symm hne3]
      refine Run.st (S' := T36.setTop (mkF m 57 #[.val (.int p0), .val (.int p1), .val (.int (3 : Int32)), .val (.int (2 : Int32)), .val (.int (0 : Int32)), .val (.int (FPays s_PeriodRule_NEGATIVE_PERMISSION s_Permission_REFUSED (3 : Int32) s_Permission_GIVEN s_Permission_REFUSED))] [(.int (1 : Int32))])) (fun _ k => st36.trans (XS.istore X36.here hx rfl (hb hby at_43) rfl (l' := #[.val (.int p0), .val (.int p1), .val (.int (3 : Int32)), .val (.int (2 : Int32)), .val (.int (0 : Int32)), .val (.int (FPays s_PeriodRule_NEGATIVE_PERMISSION s_Permission_REFUSED (3 : Int32) s_Permission_GIVEN s_Permission_REFUSED))]) rfl (XS.iload X36.here hx rfl (hb hby at_45) rfl (XS.iload X36.here hx rfl (hb hby at_47) rfl (XS.icmpNo X36.here hx rfl (hb hby at_49) rfl (teq (show (FPays s_PeriodRule_NEGATIVE_PERMISSION s_Permission_REFUSED (3 : Int32) s_Permission_GIVEN s_Permission_REFUSED) = (0 : Int32) from hv36)).2 (XS.iconst X36.here hx rfl (hb hby at_52) (XS.goto X36.here hx rfl (pc0 := 53) (pc' := 57) rfl (hb hby at_53) (by decide) (by decide) k))))))) ?_
      refine Run.out X36 hx Bd.notSynchronized Bd.returns rfl (Or.inl ⟨rfl, by simp, _, rfl⟩) (hb hby at_57) (by decide) (by decide) ?_
      rw [e36]
      exact ⟨rfl, N36⟩
set_option maxRecDepth 65536 in
set_option maxHeartbeats 40000000 in
theorem comes_1 {Post : Tables → Env → Array Value → State → Outcome → State → Prop} (hpost : ∀ tb e args s v u, (limb_1_1.after args s (.returned v) u = true ∧ limb_1_2.after args s (.returned v) u = true ∧ True) → FrameEnd s (.returned v) u (Jvm.fieldLocs frame_1_writes args s ++ Jvm.arrayLocs frame_1_arrays args s ++ Jvm.staticLocs frame_1_statics s) 0 0 → Post tb e args s (.returned v) u) :
    ArmFor flags0 classFile x code maxLocals ret World_1 tables_1 room_1 Calls_1 rest_1 Pre_1 Post := by
  intro l hfl _ _ p e ha hc hk s m args below hf hA hF happ hP
  obtain ⟨hcalls, hrest, hpre⟩ := hP
  obtain ⟨-, -, -, hnamed, -, -, -, hat⟩ := (Spec.applies_iff hf).mp happ
  obtain ⟨hg, hn⟩ := and_e (Cond.before_iff.mp (show (Jvm.Cond.and given_1 narrow_1).before args s = true from hpre))
  obtain ⟨gv1, gv2⟩ := and_e hg
  obtain ⟨gv3, gv4⟩ := and_e gv2
  obtain ⟨gv5, gv6⟩ := and_e hn
  obtain ⟨gv7, gv8⟩ := and_e gv6
  obtain ⟨gv9, gv10⟩ := and_e gv8
  obtain ⟨gv11, gv12⟩ := and_e gv10
  obtain ⟨gv13, gv14⟩ := and_e gv12
  obtain ⟨gv15, gv16⟩ := and_e gv14
  obtain ⟨gv17, gv18⟩ := and_e gv16
  obtain ⟨gv19, gv20⟩ := and_e gv18
  obtain ⟨gv21, gv22⟩ := and_e gv20
  obtain ⟨gv23, gv24⟩ := and_e gv22
  obtain ⟨gv25, gv26⟩ := and_e gv24
  obtain ⟨gv27, gv28⟩ := and_e gv26
  obtain ⟨gv29, gv30⟩ := and_e gv28
  obtain ⟨w0, w1, rfl⟩ : ∃ w0 w1 : Value, args = #[w0, w1] := by
    have hs : args.size = 2 := by simpa [Cond.value, given_1] using gv1
    obtain ⟨L⟩ := args
    match L, hs with
    | [w0, w1], _ => exact ⟨w0, w1, rfl⟩
  have hw := fun d (hd : d ∈ tables_1) => atoms_spec (ws := Jvm.Cond.code x code maxLocals ret :: tables_1) hat d (List.mem_cons_of_mem _ hd)
  have hfit : Fit s := fun {y c} hc i hi => by
    obtain ⟨ha, rfl⟩ := Array.getElem?_eq_some_iff.mp hc
    have q := List.all_eq_true.mp ((Array.all_eq_true_iff_forall_mem.mp hF) _ (Array.getElem_mem ha)) i (List.mem_range.mpr hi)
    simpa [Array.getElem?_eq_getElem hi] using q
  obtain ⟨i0, ei0⟩ := is_v gv3
  obtain rfl : w0 = (.int i0) := Option.some.inj ei0
  obtain ⟨i1, ei1⟩ := is_v gv4
  obtain rfl : w1 = (.int i1) := Option.some.inj ei1
  obtain ⟨s_PeriodRule_YES, ev_s_PeriodRule_YES⟩ := exa_v gv5
  have S_s_PeriodRule_YES : Sta s s.heap "com/example/quittance/quittance/PeriodRule" "YES" "Lcom/example/quittance/quittance/PeriodRule;" (.ref s_PeriodRule_YES) := Sta.start ev_s_PeriodRule_YES (Or.inr ⟨(hw _ (List.mem_of_getElem? (i := 6) rfl)), (hw _ (List.mem_of_getElem? (i := 7) rfl))⟩)
  have E_s_PeriodRule_YES : Exa s s.heap s_PeriodRule_YES "com/example/quittance/quittance/PeriodRule" := Exa.start ev_s_PeriodRule_YES gv5
  obtain ⟨s_Permission_NOT_STATED, ev_s_Permission_NOT_STATED⟩ := exa_v gv7
  have S_s_Permission_NOT_STATED : Sta s s.heap "com/example/quittance/quittance/Permission" "NOT_STATED" "Lcom/example/quittance/quittance/Permission;" (.ref s_Permission_NOT_STATED) := Sta.start ev_s_Permission_NOT_STATED (Or.inr ⟨(hw _ (List.mem_of_getElem? (i := 12) rfl)), (hw _ (List.mem_of_getElem? (i := 13) rfl))⟩)
  have E_s_Permission_NOT_STATED : Exa s s.heap s_Permission_NOT_STATED "com/example/quittance/quittance/Permission" := Exa.start ev_s_Permission_NOT_STATED gv7
  obtain ⟨s_PeriodRule_PERMISSION, ev_s_PeriodRule_PERMISSION⟩ := exa_v gv11
  have S_s_PeriodRule_PERMISSION : Sta s s.heap "com/example/quittance/quittance/PeriodRule" "PERMISSION" "Lcom/example/quittance/quittance/PeriodRule;" (.ref s_PeriodRule_PERMISSION) := Sta.start ev_s_PeriodRule_PERMISSION (Or.inr ⟨(hw _ (List.mem_of_getElem? (i := 6) rfl)), (hw _ (List.mem_of_getElem? (i := 29) rfl))⟩)
  have E_s_PeriodRule_PERMISSION : Exa s s.heap s_PeriodRule_PERMISSION "com/example/quittance/quittance/PeriodRule" := Exa.start ev_s_PeriodRule_PERMISSION gv11
  obtain ⟨s_Permission_GIVEN, ev_s_Permission_GIVEN⟩ := exa_v gv13
  have S_s_Permission_GIVEN : Sta s s.heap "com/example/quittance/quittance/Permission" "GIVEN" "Lcom/example/quittance/quittance/Permission;" (.ref s_Permission_GIVEN) := Sta.start ev_s_Permission_GIVEN (Or.inr ⟨(hw _ (List.mem_of_getElem? (i := 12) rfl)), (hw _ (List.mem_of_getElem? (i := 31) rfl))⟩)
  have E_s_Permission_GIVEN : Exa s s.heap s_Permission_GIVEN "com/example/quittance/quittance/Permission" := Exa.start ev_s_Permission_GIVEN gv13
  obtain ⟨s_Permission_REFUSED, ev_s_Permission_REFUSED⟩ := exa_v gv17
  have S_s_Permission_REFUSED : Sta s s.heap "com/example/quittance/quittance/Permission" "REFUSED" "Lcom/example/quittance/quittance/Permission;" (.ref s_Permission_REFUSED) := Sta.start ev_s_Permission_REFUSED (Or.inr ⟨(hw _ (List.mem_of_getElem? (i := 12) rfl)), (hw _ (List.mem_of_getElem? (i := 34) rfl))⟩)
  have E_s_Permission_REFUSED : Exa s s.heap s_Permission_REFUSED "com/example/quittance/quittance/Permission" := Exa.start ev_s_Permission_REFUSED gv17
  obtain ⟨s_PeriodRule_NO, ev_s_PeriodRule_NO⟩ := exa_v gv19
  have S_s_PeriodRule_NO : Sta s s.heap "com/example/quittance/quittance/PeriodRule" "NO" "Lcom/example/quittance/quittance/PeriodRule;" (.ref s_PeriodRule_NO) := Sta.start ev_s_PeriodRule_NO (Or.inr ⟨(hw _ (List.mem_of_getElem? (i := 6) rfl)), (hw _ (List.mem_of_getElem? (i := 36) rfl))⟩)
  have E_s_PeriodRule_NO : Exa s s.heap s_PeriodRule_NO "com/example/quittance/quittance/PeriodRule" := Exa.start ev_s_PeriodRule_NO gv19
  obtain ⟨s_PeriodRule_NEGATIVE_PERMISSION, ev_s_PeriodRule_NEGATIVE_PERMISSION⟩ := exa_v gv23
  have S_s_PeriodRule_NEGATIVE_PERMISSION : Sta s s.heap "com/example/quittance/quittance/PeriodRule" "NEGATIVE_PERMISSION" "Lcom/example/quittance/quittance/PeriodRule;" (.ref s_PeriodRule_NEGATIVE_PERMISSION) := Sta.start ev_s_PeriodRule_NEGATIVE_PERMISSION (Or.inr ⟨(hw _ (List.mem_of_getElem? (i := 6) rfl)), (hw _ (List.mem_of_getElem? (i := 38) rfl))⟩)
  have E_s_PeriodRule_NEGATIVE_PERMISSION : Exa s s.heap s_PeriodRule_NEGATIVE_PERMISSION "com/example/quittance/quittance/PeriodRule" := Exa.start ev_s_PeriodRule_NEGATIVE_PERMISSION gv23
  have F_s_PeriodRule_YES : Fld s s.heap s_PeriodRule_YES "java/lang/Enum" "ordinal" "I" (.int (0 : Int32)) := ord_v ev_s_PeriodRule_YES gv9
  have F_s_PeriodRule_PERMISSION : Fld s s.heap s_PeriodRule_PERMISSION "java/lang/Enum" "ordinal" "I" (.int (2 : Int32)) := ord_v ev_s_PeriodRule_PERMISSION gv15
  have F_s_PeriodRule_NO : Fld s s.heap s_PeriodRule_NO "java/lang/Enum" "ordinal" "I" (.int (1 : Int32)) := ord_v ev_s_PeriodRule_NO gv21
  have F_s_PeriodRule_NEGATIVE_PERMISSION : Fld s s.heap s_PeriodRule_NEGATIVE_PERMISSION "java/lang/Enum" "ordinal" "I" (.int (3 : Int32)) := ord_v ev_s_PeriodRule_NEGATIVE_PERMISSION gv25
  have F_s_Permission_GIVEN : Fld s s.heap s_Permission_GIVEN "java/lang/Enum" "ordinal" "I" (.int (1 : Int32)) := ord_v ev_s_Permission_GIVEN gv27
  have F_s_Permission_REFUSED : Fld s s.heap s_Permission_REFUSED "java/lang/Enum" "ordinal" "I" (.int (2 : Int32)) := ord_v ev_s_Permission_REFUSED gv29
  have F_s_Permission_NOT_STATED : Fld s s.heap s_Permission_NOT_STATED "java/lang/Enum" "ordinal" "I" (.int (0 : Int32)) := ord_v ev_s_Permission_NOT_STATED gv30
  obtain ⟨n, o, h1, h2, h3, _, L, rfl, ⟨rfl, N⟩, hq⟩ := rm0 l s _ hw tables_1 i0 i1 s_PeriodRule_YES s_PeriodRule_NO s_PeriodRule_PERMISSION s_PeriodRule_NEGATIVE_PERMISSION s_Permission_NOT_STATED s_Permission_GIVEN s_Permission_REFUSED s.heap s.heap.size (Nat.le_refl _) E_s_PeriodRule_YES S_s_PeriodRule_YES F_s_PeriodRule_YES E_s_PeriodRule_NO S_s_PeriodRule_NO F_s_PeriodRule_NO E_s_PeriodRule_PERMISSION S_s_PeriodRule_PERMISSION F_s_PeriodRule_PERMISSION E_s_PeriodRule_NEGATIVE_PERMISSION S_s_PeriodRule_NEGATIVE_PERMISSION F_s_PeriodRule_NEGATIVE_PERMISSION S_s_Permission_NOT_STATED S_s_Permission_GIVEN S_s_Permission_REFUSED (Fld.ne F_s_Permission_NOT_STATED F_s_Permission_GIVEN (by decide)) (Fld.ne F_s_Permission_NOT_STATED F_s_Permission_REFUSED (by decide)) (Fld.ne F_s_Permission_GIVEN F_s_Permission_REFUSED (by decide)) p e ha hc hk s m _ below hf ((Spec.applies_iff_loose hf).mp happ).1 ⟨rfl, State.Warmed39.refl s, rfl⟩ trivial
  refine ⟨n, _, h1, h2, h3, hpost _ _ _ _ _ _ ⟨Cond.after_iff.mpr rfl, Cond.after_iff.mpr (eq_i res_at (Term.int_eval (1)) rfl), trivial⟩ ⟨hq.1, hq.2.1, (hq.2.2.sift fun y hy => Or.inr (N y hy)).mono (by decide) (by decide)⟩⟩
theorem main_1_1 : Claimed_1_1 := comes_1 fun _ _ _ _ _ _ h hF => ⟨h.1, hF⟩
theorem main_1_2 : Claimed_1_2 := comes_1 fun _ _ _ _ _ _ h hF => ⟨h.2.1, hF⟩
end Jvm.Pilot.@@N@@
namespace Jvm.Pilot.@@N@@
open Jvm Jvm.ClassFile Sem Op Lib Jvm.Free Jvm.Stand Jvm.Pilot.@@N@@.Jvm.D
/-! MADE BY PROGRAM (witnessworld.py) out of the Statement's table words and the real class files: 13 classes; the members and pool entries that the words name. The judged class is class 1, her method 3. -/
namespace start1
open Jvm.ClassFile
def u (s : String) : CpInfo := .utf8 (stringToUtf16 s)
/-- a pool by its gaps: so many unusable entries, then the entry; so many at the end -/
def gap : Nat → List CpInfo → List CpInfo
  | 0, r => r
  | n + 1, r => .unusable :: gap n r
def poolList (es : List (Nat × CpInfo)) (last : Nat) : List CpInfo := es.foldr (fun e r => gap e.1 (e.2 :: r)) (gap last [])
def pool (es : List (Nat × CpInfo)) (last : Nat) : Array CpInfo := ⟨poolList es last⟩
def fileOf (pool : Array CpInfo) (this : Nat) (attrs : Array Attribute := #[]) (ms : Array MethodInfo := #[]) (fl : Nat := 33) (sup : Nat := 0) (ifs : Array Nat := #[]) (fds : Array FieldInfo := #[]) : ClassFile where
  minorVersion := 0
  majorVersion := 65
  constantPool := pool
  accessFlags := fl
  thisClass := this
  superClass := sup
  interfaces := ifs
  fields := fds
  methods := ms
  attributes := attrs
def plain (name : String) (sup : Option ClassId) : Class where
  name := name
  kind := .ordinary
  loader := none
  accessFlags := 33
  super := sup
  interfaces := #[]
  cf := none
  fields := #[]
  methods := #[]
  instanceTypes := #[]
  staticTypes := #[]
  resolved := #[]
  callSites := []
  init := .initialized
  statics := none
  mirror := none

def pool0 : Array CpInfo := pool [(5, u "<init>"), (0, u "()V"), (1, .class_ 10), (1, u "java/lang/Object")] 113

def k0m0 : Method := { name := "<init>", desc := "()V", sig := { parameters := [], returnType := none }, accessFlags := 1, code := none }
/-- java/lang/Object -/
def k0 : Class := { plain "java/lang/Object" none with
  accessFlags := 33
  interfaces := #[]
  cf := some (fileOf pool0 8 #[] #[{ accessFlags := 1, nameIndex := 5, descriptorIndex := 6, attributes := #[] }] 33 0 #[] #[])
  fields := #[]
  methods := #[k0m0]
  instanceTypes := #[]
  staticTypes := #[]
  resolved := Array.replicate 124 none
  statics := none }

def pool1 : Array CpInfo := pool [(2, .class_ 4), (1, u "java/lang/Object"), (0, u "<init>"), (0, u "()V"), (0, .fieldref 8 9), (0, .class_ 10), (0, .nameAndType 11 12), (0, u "com/example/quittance/quittance/PeriodRule"), (0, u "YES"), (0, u "Lcom/example/quittance/quittance/PeriodRule;"), (0, .fieldref 8 14), (0, .nameAndType 15 12), (0, u "NO"), (0, .fieldref 8 17), (0, .nameAndType 18 12), (0, u "PERMISSION"), (0, .fieldref 8 20), (0, .nameAndType 21 12), (0, u "NEGATIVE_PERMISSION"), (0, .fieldref 23 24), (0, .class_ 25), (0, .nameAndType 26 27), (0, u "com/example/quittance/quittance/Permission"), (0, u "NOT_STATED"), (0, u "Lcom/example/quittance/quittance/Permission;"), (0, .fieldref 23 29), (0, .nameAndType 30 27), (0, u "GIVEN"), (0, .fieldref 23 32), (0, .nameAndType 33 27), (0, u "REFUSED"), (0, .integer 2147483647), (0, .class_ 36), (0, u "com/example/quittance/quittance/PeriodRulePaysPinLaw"), (0, .methodref 35 38), (0, .nameAndType 39 40), (0, u "rule"), (0, u "(I)Lcom/example/quittance/quittance/PeriodRule;"), (0, .methodref 35 42), (0, .nameAndType 43 44), (0, u "permission"), (0, u "(I)Lcom/example/quittance/quittance/Permission;"), (0, .methodref 8 46), (0, .nameAndType 47 48), (0, u "pays"), (0, u "(Lcom/example/quittance/quittance/Permission;)Z"), (0, u "TABLE"), (0, u "I"), (5, u "law"), (0, u "(II)Z")] 2

def k1m0 : Method := { name := "<init>", desc := "()V", sig := { parameters := [], returnType := none }, accessFlags := 2, code := none }
def k1c1 : Code := { maxStack := 2, maxLocals := 1, code := method_2_code, exceptionTable := #[], attributes := #[] }
def k1m1 : Method := { name := "rule", desc := "(I)Lcom/example/quittance/quittance/PeriodRule;", sig := { parameters := [.int], returnType := some (.object "com/example/quittance/quittance/PeriodRule") }, accessFlags := 10, code := some k1c1 }
def k1c2 : Code := { maxStack := 2, maxLocals := 1, code := method_3_code, exceptionTable := #[], attributes := #[] }
def k1m2 : Method := { name := "permission", desc := "(I)Lcom/example/quittance/quittance/Permission;", sig := { parameters := [.int], returnType := some (.object "com/example/quittance/quittance/Permission") }, accessFlags := 10, code := some k1c2 }
def k1c3 : Code := { maxStack := 3, maxLocals := 6, code := code, exceptionTable := #[], attributes := #[] }
def k1m3 : Method := { name := "law", desc := "(II)Z", sig := { parameters := [.int, .int], returnType := some .boolean }, accessFlags := 9, code := some k1c3 }
/-- com/example/quittance/quittance/PeriodRulePaysPinLaw -/
def k1 : Class := { plain "com/example/quittance/quittance/PeriodRulePaysPinLaw" (some 0) with
  accessFlags := 49
  interfaces := #[]
  cf := some (fileOf pool1 35 #[] #[{ accessFlags := 2, nameIndex := 5, descriptorIndex := 6, attributes := #[] }, { accessFlags := 10, nameIndex := 39, descriptorIndex := 40, attributes := #[] }, { accessFlags := 10, nameIndex := 43, descriptorIndex := 44, attributes := #[] }, { accessFlags := 9, nameIndex := 56, descriptorIndex := 57, attributes := #[] }] 49 2 #[] #[{ accessFlags := 26, nameIndex := 49, descriptorIndex := 50, attributes := #[] }])
  fields := #[{ name := "TABLE", type := .int, accessFlags := 26, slot := 0, constantValue := 0 }]
  methods := #[k1m0, k1m1, k1m2, k1m3]
  instanceTypes := #[]
  staticTypes := #[.int]
  resolved := Array.replicate 60 none
  statics := none }

def pool2 : Array CpInfo := pool [(1, .class_ 2), (0, u "java/lang/constant/Constable"), (0, .class_ 4), (0, u "java/lang/Object")] 6

/-- java/lang/constant/Constable -/
def k2 : Class := { plain "java/lang/constant/Constable" (some 0) with
  accessFlags := 1537
  interfaces := #[]
  cf := some (fileOf pool2 1 #[] #[] 1537 3 #[] #[])
  fields := #[]
  methods := #[]
  instanceTypes := #[]
  staticTypes := #[]
  resolved := Array.replicate 11 none
  statics := none }

def pool3 : Array CpInfo := pool [(1, .class_ 2), (0, u "java/lang/Comparable"), (0, .class_ 4), (0, u "java/lang/Object")] 7

/-- java/lang/Comparable -/
def k3 : Class := { plain "java/lang/Comparable" (some 0) with
  accessFlags := 1537
  interfaces := #[]
  cf := some (fileOf pool3 1 #[] #[] 1537 3 #[] #[])
  fields := #[]
  methods := #[]
  instanceTypes := #[]
  staticTypes := #[]
  resolved := Array.replicate 12 none
  statics := none }

def pool4 : Array CpInfo := pool [(1, .class_ 2), (0, u "java/io/Serializable"), (0, .class_ 4), (0, u "java/lang/Object")] 2

/-- java/io/Serializable -/
def k4 : Class := { plain "java/io/Serializable" (some 0) with
  accessFlags := 1537
  interfaces := #[]
  cf := some (fileOf pool4 1 #[] #[] 1537 3 #[] #[])
  fields := #[]
  methods := #[]
  instanceTypes := #[]
  staticTypes := #[]
  resolved := Array.replicate 7 none
  statics := none }

def pool5 : Array CpInfo := pool [(2, .class_ 4), (1, u "java/lang/Enum"), (0, u "name"), (0, u "Ljava/lang/String;"), (0, .fieldref 2 8), (0, .nameAndType 9 10), (0, u "ordinal"), (0, u "I"), (1, .class_ 14), (1, u "java/lang/Object"), (4, u "hash"), (86, .class_ 108), (1, u "java/lang/Enum$EnumDesc"), (2, .class_ 112), (0, u "java/lang/constant/Constable"), (0, .class_ 114), (0, u "java/lang/Comparable"), (0, .class_ 116), (0, u "java/io/Serializable"), (9, u "()I")] 77

def k5c0 : Code := { maxStack := 1, maxLocals := 1, code := jdk_37_method_2_code, exceptionTable := #[], attributes := #[] }
def k5m0 : Method := { name := "ordinal", desc := "()I", sig := { parameters := [], returnType := some .int }, accessFlags := 17, code := some k5c0 }
/-- java/lang/Enum -/
def k5 : Class := { plain "java/lang/Enum" (some 0) with
  accessFlags := 1057
  interfaces := #[2, 3, 4]
  cf := some (fileOf pool5 2 #[.nestMembers #[106]] #[{ accessFlags := 17, nameIndex := 9, descriptorIndex := 126, attributes := #[] }] 1057 12 #[111, 113, 115] #[{ accessFlags := 18, nameIndex := 5, descriptorIndex := 6, attributes := #[] }, { accessFlags := 18, nameIndex := 9, descriptorIndex := 10, attributes := #[] }, { accessFlags := 2, nameIndex := 19, descriptorIndex := 10, attributes := #[] }])
  fields := #[{ name := "name", type := (.object "java/lang/String"), accessFlags := 18, slot := 0, constantValue := 0 }, { name := "ordinal", type := .int, accessFlags := 18, slot := 1, constantValue := 0 }, { name := "hash", type := .int, accessFlags := 2, slot := 2, constantValue := 0 }]
  methods := #[k5m0]
  instanceTypes := #[(.object "java/lang/String"), .int, .int]
  staticTypes := #[]
  resolved := Array.replicate 204 none
  statics := none }

def pool6 : Array CpInfo := pool [(1, .class_ 2), (0, u "com/example/quittance/quittance/PeriodRule"), (2, u "YES"), (0, u "Lcom/example/quittance/quittance/PeriodRule;"), (2, u "NO"), (2, u "PERMISSION"), (2, u "NEGATIVE_PERMISSION"), (2, u "$VALUES"), (0, u "[Lcom/example/quittance/quittance/PeriodRule;"), (6, .class_ 28), (1, u "java/lang/Enum"), (22, .methodref 1 52), (0, .nameAndType 53 54), (0, u "ordinal"), (0, u "()I"), (5, .fieldref 61 62), (0, .class_ 63), (0, .nameAndType 64 65), (0, u "com/example/quittance/quittance/Permission"), (0, u "GIVEN"), (0, u "Lcom/example/quittance/quittance/Permission;"), (0, .fieldref 61 67), (0, .nameAndType 68 65), (0, u "REFUSED"), (20, u "pays"), (0, u "(Lcom/example/quittance/quittance/Permission;)Z")] 4

def k6c0 : Code := { maxStack := 4, maxLocals := 2, code := prog_25_method_6_code, exceptionTable := #[], attributes := #[] }
def k6m0 : Method := { name := "pays", desc := "(Lcom/example/quittance/quittance/Permission;)Z", sig := { parameters := [(.object "com/example/quittance/quittance/Permission")], returnType := some .boolean }, accessFlags := 0, code := some k6c0 }
/-- com/example/quittance/quittance/PeriodRule -/
def k6 : Class := { plain "com/example/quittance/quittance/PeriodRule" (some 5) with
  accessFlags := 16433
  interfaces := #[]
  cf := some (fileOf pool6 1 #[] #[{ accessFlags := 0, nameIndex := 89, descriptorIndex := 90, attributes := #[] }] 16433 26 #[] #[{ accessFlags := 16409, nameIndex := 5, descriptorIndex := 6, attributes := #[] }, { accessFlags := 16409, nameIndex := 9, descriptorIndex := 6, attributes := #[] }, { accessFlags := 16409, nameIndex := 12, descriptorIndex := 6, attributes := #[] }, { accessFlags := 16409, nameIndex := 15, descriptorIndex := 6, attributes := #[] }, { accessFlags := 4122, nameIndex := 18, descriptorIndex := 19, attributes := #[] }])
  fields := #[{ name := "YES", type := (.object "com/example/quittance/quittance/PeriodRule"), accessFlags := 16409, slot := 0, constantValue := 0 }, { name := "NO", type := (.object "com/example/quittance/quittance/PeriodRule"), accessFlags := 16409, slot := 1, constantValue := 0 }, { name := "PERMISSION", type := (.object "com/example/quittance/quittance/PeriodRule"), accessFlags := 16409, slot := 2, constantValue := 0 }, { name := "NEGATIVE_PERMISSION", type := (.object "com/example/quittance/quittance/PeriodRule"), accessFlags := 16409, slot := 3, constantValue := 0 }, { name := "$VALUES", type := (.array (.object "com/example/quittance/quittance/PeriodRule")), accessFlags := 4122, slot := 4, constantValue := 0 }]
  methods := #[k6m0]
  instanceTypes := #[(.object "java/lang/String"), .int, .int]
  staticTypes := #[(.object "com/example/quittance/quittance/PeriodRule"), (.object "com/example/quittance/quittance/PeriodRule"), (.object "com/example/quittance/quittance/PeriodRule"), (.object "com/example/quittance/quittance/PeriodRule"), (.array (.object "com/example/quittance/quittance/PeriodRule"))]
  resolved := Array.replicate 95 none
  statics := some 0 }

def pool7 : Array CpInfo := pool [(1, .class_ 2), (0, u "com/example/quittance/quittance/Permission"), (2, u "NOT_STATED"), (0, u "Lcom/example/quittance/quittance/Permission;"), (2, u "GIVEN"), (2, u "REFUSED"), (2, u "$VALUES"), (0, u "[Lcom/example/quittance/quittance/Permission;"), (6, .class_ 25), (1, u "java/lang/Enum")] 42

/-- com/example/quittance/quittance/Permission -/
def k7 : Class := { plain "com/example/quittance/quittance/Permission" (some 5) with
  accessFlags := 16433
  interfaces := #[]
  cf := some (fileOf pool7 1 #[] #[] 16433 23 #[] #[{ accessFlags := 16409, nameIndex := 5, descriptorIndex := 6, attributes := #[] }, { accessFlags := 16409, nameIndex := 9, descriptorIndex := 6, attributes := #[] }, { accessFlags := 16409, nameIndex := 12, descriptorIndex := 6, attributes := #[] }, { accessFlags := 4122, nameIndex := 15, descriptorIndex := 16, attributes := #[] }])
  fields := #[{ name := "NOT_STATED", type := (.object "com/example/quittance/quittance/Permission"), accessFlags := 16409, slot := 0, constantValue := 0 }, { name := "GIVEN", type := (.object "com/example/quittance/quittance/Permission"), accessFlags := 16409, slot := 1, constantValue := 0 }, { name := "REFUSED", type := (.object "com/example/quittance/quittance/Permission"), accessFlags := 16409, slot := 2, constantValue := 0 }, { name := "$VALUES", type := (.array (.object "com/example/quittance/quittance/Permission")), accessFlags := 4122, slot := 3, constantValue := 0 }]
  methods := #[]
  instanceTypes := #[(.object "java/lang/String"), .int, .int]
  staticTypes := #[(.object "com/example/quittance/quittance/Permission"), (.object "com/example/quittance/quittance/Permission"), (.object "com/example/quittance/quittance/Permission"), (.array (.object "com/example/quittance/quittance/Permission"))]
  resolved := Array.replicate 68 none
  statics := some 1 }

def pool8 : Array CpInfo := pool [(1, u "java/lang/Cloneable"), (0, .class_ 1), (0, u "java/lang/Object"), (0, .class_ 3)] 3

/-- java/lang/Cloneable -/
def k8 : Class := { plain "java/lang/Cloneable" (some 0) with
  accessFlags := 1537
  interfaces := #[]
  cf := some (fileOf pool8 2 #[] #[] 1537 4 #[] #[])
  fields := #[]
  methods := #[]
  instanceTypes := #[]
  staticTypes := #[]
  resolved := Array.replicate 8 none
  statics := none }

/-- the primitive byte -/
def k9 : Class := { plain "byte" none with kind := .primitive 'B', accessFlags := 0x411 }
/-- [B -/
def k10 : Class := { plain "[B" (some 0) with kind := .array 9 .byte, interfaces := #[8, 4], accessFlags := 1041 }

/-- the primitive int -/
def k11 : Class := { plain "int" none with kind := .primitive 'I', accessFlags := 0x411 }
/-- [I -/
def k12 : Class := { plain "[I" (some 0) with kind := .array 11 .int, interfaces := #[8, 4], accessFlags := 1041 }

def heap : Heap := #[{ cls := 6, slots := #[.ref 2, .ref 7, .ref 4, .ref 8, .null], vm := .statics 6 },
  { cls := 7, slots := #[.ref 3, .ref 5, .ref 6, .null], vm := .statics 7 },
  { cls := 6, slots := #[.null, .int 0, .int 0], vm := .none },
  { cls := 7, slots := #[.null, .int 0, .int 0], vm := .none },
  { cls := 6, slots := #[.null, .int 2, .int 0], vm := .none },
  { cls := 7, slots := #[.null, .int 1, .int 0], vm := .none },
  { cls := 7, slots := #[.null, .int 2, .int 0], vm := .none },
  { cls := 6, slots := #[.null, .int 1, .int 0], vm := .none },
  { cls := 6, slots := #[.null, .int 3, .int 0], vm := .none }]
def classes : Array Class := #[k0, k1, k2, k3, k4, k5, k6, k7, k8, k9, k10, k11, k12]
def interned : List (Array UInt16 × Addr) := []
def slotsUsed : Nat := 30
def theMethod : MethodId := ⟨1, 3⟩
def args0 : Array Value := #[.int 2, .int 1]
def aboutOver (below : List Frame) : State where
  vm := { classes := classes, interned := interned.toArray }
  heap := heap
  slotsUsed := slotsUsed
  threads := #[{ frames := .invoking theMethod args0 :: below }]
def below0 : List Frame := [.native { method := ⟨0, 0⟩, args := #[] }]
def about1 : State := aboutOver below0
def p0 : Program := .bare "" "" ""
def e0 : Env := launch0.env 0 0 0
theorem w_frames : about1.frames = Frame.invoking theMethod args0 :: below0 := rfl
set_option maxRecDepth 65536 in
theorem w_args : argsFit about1.vm theMethod args0 = true := by decide +kernel
set_option maxRecDepth 65536 in
theorem w_heap : heapFits about1 = true := by decide +kernel
set_option maxRecDepth 65536 in
theorem w_runnable : about1.curStatus? = some .runnable := by decide +kernel
set_option maxRecDepth 65536 in
theorem w_alone : about1.alone = true := by decide +kernel
set_option maxRecDepth 65536 in
theorem w_named : about1.methodNamed? x = some theMethod := by decide +kernel
set_option maxRecDepth 65536 in
theorem w_hears : about1.hears theMethod below0 = true := by decide +kernel
set_option maxRecDepth 65536 in
theorem w_ripe : about1.ripe theMethod args0 below0 = true := by decide +kernel
theorem w_running : about1.status = .running := rfl
set_option maxRecDepth 65536 in
theorem w_room : about1.hasRoom e0.platform room_1 = true :=
  launch0.hasRoom_least _ room_1 (by decide +kernel) (by decide +kernel) (by decide +kernel) (by decide +kernel) (by decide +kernel) (by decide +kernel)
theorem allAtoms_all (ts : List Jvm.Cond) (a : Array Jvm.Value) (st : Jvm.State) : (allAtoms ts).before a st = ts.all (fun c => c.before a st) := by
  induction ts with
  | nil => rfl
  | cons c t ih =>
    show (Jvm.Cond.and c (allAtoms t)).before a st = _
    rw [Jvm.Cond.before_and, ih, List.all_cons]
def words1 : List Jvm.Cond := Jvm.Cond.code x code maxLocals ret :: tables_1
/-- a 'code' word, met by the world's own term for the bytes: nothing is compared byte by byte -/
theorem code_word {y : MethodName} {bytes : ByteArray} {mx : Nat} {rt : Option FieldType} {a : Array Value} {s : State} {m : MethodId} {meth : Method} {c : Code} (h1 : s.methodNamed? y = some m) (h2 : s.vm.method? m = some meth) (h3 : meth.code = some c) (h4 : c.code = bytes)
    (h5 : (c.maxLocals == mx && c.exceptionTable.isEmpty && decide (c.maxStack ≤ mostOperands) && decide (meth.sig.returnType = rt) && !meth.locks && decide (parseMethodDescriptor y.desc = some meth.sig)) = true) : (Jvm.Cond.code y bytes mx rt).before a s = true := by
  simp only [Bool.and_eq_true, beq_iff_eq, Bool.not_eq_true', decide_eq_true_eq] at h5
  obtain ⟨⟨⟨⟨⟨g1, g2⟩, g3⟩, g4⟩, g5⟩, g6⟩ := h5
  simp [Cond.before, Cond.holds, Cond.value, h1, h2, h3, h4, g1, g2, g3, g4, g5, g6]
def isCode : Jvm.Cond → Bool
  | .code _ _ _ _ => true
  | _ => false
theorem all_split {L : List Jvm.Cond} {P : Jvm.Cond → Bool} (h1 : L.all (fun c => isCode c || P c) = true) (h2 : ∀ c ∈ L.filter isCode, P c = true) : L.all P = true := by
  refine List.all_eq_true.mpr fun c hc => ?_
  have h := List.all_eq_true.mp h1 c hc
  rcases Bool.eq_false_or_eq_true (isCode c) with hi | hi
  · exact h2 c (List.mem_filter.mpr ⟨hc, hi⟩)
  · simpa [hi] using h
set_option maxRecDepth 65536 in
theorem w_c0 : (Jvm.Cond.code x code maxLocals ret).before args0 about1 = true := code_word (m := ⟨1, 3⟩) (meth := k1m3) (c := k1c3) (by decide +kernel) rfl rfl rfl (by decide +kernel)
set_option maxRecDepth 65536 in
theorem w_c1 : (Jvm.Cond.code ({ cls := "com/example/quittance/quittance/PeriodRulePaysPinLaw", name := "rule", desc := "(I)Lcom/example/quittance/quittance/PeriodRule;" } : Jvm.MethodName) method_2_code (1 : Nat) (Option.some (Jvm.ClassFile.FieldType.object "com/example/quittance/quittance/PeriodRule"))).before args0 about1 = true := code_word (m := ⟨1, 1⟩) (meth := k1m1) (c := k1c1) (by decide +kernel) rfl rfl rfl (by decide +kernel)
set_option maxRecDepth 65536 in
theorem w_c2 : (Jvm.Cond.code ({ cls := "com/example/quittance/quittance/PeriodRulePaysPinLaw", name := "permission", desc := "(I)Lcom/example/quittance/quittance/Permission;" } : Jvm.MethodName) method_3_code (1 : Nat) (Option.some (Jvm.ClassFile.FieldType.object "com/example/quittance/quittance/Permission"))).before args0 about1 = true := code_word (m := ⟨1, 2⟩) (meth := k1m2) (c := k1c2) (by decide +kernel) rfl rfl rfl (by decide +kernel)
set_option maxRecDepth 65536 in
theorem w_c3 : (Jvm.Cond.code ({ cls := "com/example/quittance/quittance/PeriodRule", name := "pays", desc := "(Lcom/example/quittance/quittance/Permission;)Z" } : Jvm.MethodName) prog_25_method_6_code (2 : Nat) (Option.some Jvm.ClassFile.FieldType.boolean)).before args0 about1 = true := code_word (m := ⟨6, 0⟩) (meth := k6m0) (c := k6c0) (by decide +kernel) rfl rfl rfl (by decide +kernel)
set_option maxRecDepth 65536 in
theorem w_c4 : (Jvm.Cond.code ({ cls := "java/lang/Enum", name := "ordinal", desc := "()I" } : Jvm.MethodName) jdk_37_method_2_code (1 : Nat) (Option.some Jvm.ClassFile.FieldType.int)).before args0 about1 = true := code_word (m := ⟨5, 0⟩) (meth := k5m0) (c := k5c0) (by decide +kernel) rfl rfl rfl (by decide +kernel)
def codes1 : List Jvm.Cond := [Jvm.Cond.code x code maxLocals ret, Jvm.Cond.code ({ cls := "com/example/quittance/quittance/PeriodRulePaysPinLaw", name := "rule", desc := "(I)Lcom/example/quittance/quittance/PeriodRule;" } : Jvm.MethodName) method_2_code (1 : Nat) (Option.some (Jvm.ClassFile.FieldType.object "com/example/quittance/quittance/PeriodRule")), Jvm.Cond.code ({ cls := "com/example/quittance/quittance/PeriodRulePaysPinLaw", name := "permission", desc := "(I)Lcom/example/quittance/quittance/Permission;" } : Jvm.MethodName) method_3_code (1 : Nat) (Option.some (Jvm.ClassFile.FieldType.object "com/example/quittance/quittance/Permission")), Jvm.Cond.code ({ cls := "com/example/quittance/quittance/PeriodRule", name := "pays", desc := "(Lcom/example/quittance/quittance/Permission;)Z" } : Jvm.MethodName) prog_25_method_6_code (2 : Nat) (Option.some Jvm.ClassFile.FieldType.boolean), Jvm.Cond.code ({ cls := "java/lang/Enum", name := "ordinal", desc := "()I" } : Jvm.MethodName) jdk_37_method_2_code (1 : Nat) (Option.some Jvm.ClassFile.FieldType.int)]
set_option maxRecDepth 65536 in
theorem codes_eq : words1.filter isCode = codes1 := rfl
theorem w_codes : ∀ c ∈ words1.filter isCode, c.before args0 about1 = true := by
  rw [codes_eq]
  intro c hc
  simp only [codes1, List.mem_cons, List.not_mem_nil, or_false] at hc
  rcases hc with rfl | rfl | rfl | rfl | rfl
  · exact w_c0
  · exact w_c1
  · exact w_c2
  · exact w_c3
  · exact w_c4
set_option maxRecDepth 65536 in
theorem w_t1 : (words1.take 24).all (fun c => isCode c || c.before args0 about1) = true := by decide +kernel
set_option maxRecDepth 65536 in
theorem w_t2 : (words1.drop 24).all (fun c => isCode c || c.before args0 about1) = true := by decide +kernel
theorem w_tables : (allAtoms (Jvm.Cond.code x code maxLocals ret :: tables_1)).before args0 about1 = true := by
  rw [allAtoms_all]
  show words1.all (fun c => c.before args0 about1) = true
  refine all_split ?_ w_codes
  rw [← List.take_append_drop 24 words1, List.all_append, w_t1, w_t2]
  rfl
set_option maxRecDepth 65536 in
theorem w_case : (Jvm.Cond.and given_1 narrow_1).before args0 about1 = true := by decide +kernel
theorem w_applies : (headSpec (Jvm.Cond.code x code maxLocals ret :: tables_1) room_1).applies x e0.platform about1 = true :=
  (Spec.applies_iff w_frames).mpr ⟨w_running, w_runnable, w_alone, w_named, w_hears, w_ripe, w_room, w_tables⟩
theorem atStart : AtStart classFile x code maxLocals ret World_1 tables_1 room_1 Calls_1 rest_1 Pre_1 launch0 p0 e0 about1 theMethod args0 below0 :=
  ⟨lists_1, trivial, launch0.admits_env _ _ _, launch0.least_env, fairChoices_fair.cas, fairChoices_fair.clock, w_frames, w_args, w_heap, w_applies, trivial, trivial, w_case⟩
end start1
theorem witness_1 : WitnessClaimed_1 := ⟨start1.p0, start1.e0, start1.about1, start1.theMethod, start1.args0, start1.below0, start1.atStart⟩
end Jvm.Pilot.@@N@@
