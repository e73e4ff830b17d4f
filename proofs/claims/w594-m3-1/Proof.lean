import JvmDerived
import JvmDerived.Pilot.@@N@@Statement
import JvmDerived.Pilot.@@N@@Code
set_option linter.unusedVariables false
set_option linter.unusedSimpArgs false
namespace Jvm.Pilot.@@N@@
open Jvm Jvm.ClassFile Sem Op Lib Jvm.Free Jvm.Stand Jvm.LawKit Jvm.RoadKit Bundle Jvm.Pilot.@@N@@.Jvm.D
section OwnRun
variable {p : Program} {l : Launch} {e : Env} {R : Room} {s : State} {m : MethodId} {args : Array Value} {below : List Frame} {meth : Method} {c : Code} {T : State} {locs : List Loc} {cells slots : Nat}
/-- from S the run comes to its end, and there Q holds -/
def Run (p : Program) (e : Env) (below : List Frame) (Q : State → Outcome → Prop) (S : State) : Prop := ∃ s₂ o, Steps p.tables e below S s₂ ∧ s₂.status = .running ∧ Ended s₂ below o ∧ Q s₂ o
def Ends (s : State) (Qb : Option Value → Heap → List Loc → Prop) (C S : Nat) : State → Outcome → Prop := fun s₂ o => ∃ v L, o = .returned v ∧ Qb v s₂.heap L ∧ FrameEnd s o s₂ L C S
theorem Run.st {Q : State → Outcome → Prop} {S S' : State} (h : ∀ t, Steps p.tables e below S' t → Steps p.tables e below S t) (r : Run p e below Q S') : Run p e below Q S := by
  obtain ⟨a, b, c, d⟩ := r
  exact ⟨a, b, h _ c, d⟩
theorem Run.out (X : Stand p l e R s m args below meth c T locs cells slots) (hx : p.tables.exec = Jvm.exec) {Qb : Option Value → Heap → List Loc → Prop} {C S : Nat} {pc : Nat} {Ls : Array Slot} {w : Value} {t : FieldType} {i : Instr} {rest : List Value} (hlocks : meth.locks = false) (hret : meth.sig.returnType = some t) (hn : narrow t w = w)
    (hi : (i = .ireturn ∧ (t = .int ∨ t = .boolean ∨ t = .byte ∨ t = .char ∨ t = .short) ∧ ∃ z, w = .int z) ∨ (i = .lreturn ∧ t = .long ∧ ∃ z, w = .long z) ∨ (i = .dreturn ∧ t = .double ∧ ∃ z, w = .double z) ∨ (i = .freturn ∧ t = .float ∧ ∃ z, w = .float z) ∨ (i = .areturn ∧ t.isReference = true ∧ w.isRef = true))
    (hd : decode c.code pc = .ok (i, 1)) (hC : cells ≤ C) (hS : slots ≤ S) (hq : Qb (some w) T.heap locs) : Run p e below (Ends s Qb C S) (T.setTop (mkF m pc Ls (w :: rest))) := by
  obtain ⟨fs, hr, hrun, hended, hW, hsame⟩ := X.leave (v := some w) (fun h => by rw [hret] at h; cases h) hlocks
  exact ⟨_, _, retOut X hx hret hn hi hd hr, hrun, hended, _, _, rfl, hq, ⟨_, rfl⟩, hW, hsame.mono hC hS⟩
theorem Run.outV (X : Stand p l e R s m args below meth c T locs cells slots) (hx : p.tables.exec = Jvm.exec) {Qb : Option Value → Heap → List Loc → Prop} {C S : Nat} {pc : Nat} {Ls : Array Slot} (hlocks : meth.locks = false) (hret : meth.sig.returnType = none)
    (hd : decode c.code pc = .ok (.return_, 1)) (hC : cells ≤ C) (hS : slots ≤ S) (hq : Qb none T.heap locs) : Run p e below (Ends s Qb C S) (T.setTop (mkF m pc Ls [])) := by
  obtain ⟨fs, hr, hrun, hended, hW, hsame⟩ := X.leave (v := none) (fun _ => rfl) hlocks
  exact ⟨_, _, X.returnOut hx hret hd hr, hrun, hended, _, _, rfl, hq, ⟨_, rfl⟩, hW, hsame.mono hC hS⟩
theorem lcYes {cd : ClassFile.Cond} {x y : Int64} {b : Bool} (h : ifCond.holds cd (Jvm.Free.XT.cmpL x y) = b) : ifCond.holds cd (lcmpW x y) = b := h
theorem nb01 {P : Prop} [Decidable P] : narrow .boolean (.int (if P then (1 : Int32) else (0 : Int32))) = .int (if P then (1 : Int32) else (0 : Int32)) := by split <;> rfl
theorem staK {Z : State} {h h' : Heap} {C n d : String} {v : Value} {ws : List Addr} (F : Sta Z h C n d v) (K : Keep h h' ws) (q : ∀ x ∈ ws, ∀ c : Cell, h[x]? = some c → c.vm.isStatics = false) : Sta Z h' C n d v := by
  obtain ⟨cf, i, k, f, st, cell, h1, h2, h3, h4, h5, h6, h7⟩ := F
  refine ⟨cf, i, k, f, st, cell, h1, h2, h3, h4, K.2.1 st cell h5 (fun m => ?_), h6, h7⟩
  have := q st m cell h5
  rw [h6] at this
  cases this
theorem exaP {Z : State} {h : Heap} {a : Addr} {C : String} (E : Exa Z h a C) : ∀ c : Cell, h[a]? = some c → c.vm.isStatics = false := fun c hc => by
  obtain ⟨cell, k, h1, -, -, h4, -⟩ := E
  cases h1.symm.trans hc
  exact h4
theorem arvP {Z : State} {h : Heap} {a : Addr} {k : ClassId} {ty : FieldType} {n : Int32} {vs : List Value} {d : Value} (E : Arv Z h a k ty n vs d) : ∀ c : Cell, h[a]? = some c → c.vm.isStatics = false := fun c hc => by
  obtain ⟨cell, A, -⟩ := E
  cases A.1.symm.trans hc
  exact A.plain
theorem selSelf {s : State} {args : Array Value} {y : MethodName} {n : Nat} (wi : (Jvm.Cond.instantiable y.cls n).before args s = true) (hp : s.PrivateAt y) (hi : (Jvm.Cond.instanceMethod y).before args s = true) (hy : y.cls ≠ "java/lang/invoke/MethodHandle" ∧ y.cls ≠ "java/lang/invoke/VarHandle") : (Jvm.Cond.selects y.cls y y).before args s = true := by
  obtain ⟨c, k, h1, h2, -, h4, -⟩ := Cond.instantiable_spec wi
  rw [Bool.or_eq_false_iff] at h4
  exact selects_self_of_private h1 h2 h4.1 hp hi hy
theorem own_lsw {tb : Tables} [Ours tb] {e : Env} {below : List Frame} {T target : State} {m : MethodId} {c : Code} {g : JFrame} (h : At T m c below) (hx : tb.exec = Jvm.exec) (hg : g.method = m) {dflt : Int} {ps : Array (Int × Int)} {len : Nat} {o : Int} {pc0 pc' : Nat} (hpc : g.pc = pc0) (hd : decode c.code g.pc = .ok (.lookupswitch dflt ps, len)) {i : Int32} {rest : List Value} (hs : g.stack = .int i :: rest)
    (hsort : ∀ q ∈ ps.toList.zip ps.toList.tail, q.1.1 < q.2.1) (hoff : lookupswitch.offset ps.toList dflt i.toInt = o) (ho : 0 ≤ (pc0 : Int) + o) (hp : ((pc0 : Int) + o).toNat = pc')
    (hr : Steps tb e below (T.setTop { g with pc := pc', stack := rest }) target) : Steps tb e below (T.setTop g) target := by
  subst hg hpc hp
  jvm_step h [h.top, hx, hd, hs, hoff, ho, lookupswitch.wp_chain]
  exact ⟨fun a b a1 b1 q => hsort _ q, hr⟩
theorem ord_v {args : Array Value} {s : State} {t : Term} {C n d : String} {k : Int32} {a : Addr} (ht : t.eval args s none [] s = some (.ref a)) (h : (Jvm.Cond.eq (.field t C n d) (.int k)).value args s none s [] = some true) : Fld s s.heap a C n d (.int k) := by
  refine Fld.start ?_
  rw [← fld_at (C := C) (n := n) (dd := d) ht]
  simp only [Cond.value] at h
  cases hv : (Term.field t C n d).eval args s none [] s with
  | none => simp [hv] at h
  | some v => cases v <;> simp_all [Term.eval]
theorem arr_len {args : Array Value} {s : State} {t : Term} {a : Addr} {cl : Cell} {ty : FieldType} {n : Int32} (ht : t.eval args s none [] s = some (.ref a)) (A : Arr s s.heap a cl ty) (h : (Jvm.Cond.eq (.length t) (.int n)).value args s none s [] = some true) : cl.slots.size < 2 ^ 31 ∧ cl.slots.size.toInt32 = n := by
  have ha := A.fin (Vm.Alike.refl s.vm)
  by_cases q : cl.slots.size < 2 ^ 31
  · refine ⟨q, ?_⟩
    have e := len_f ht ha q
    have e2 : (Term.int n).eval args s none [] s = some (.int n) := rfl
    simp only [Cond.value, e, e2] at h
    simpa using h
  · simp [Cond.value, Term.eval, ht, ha, q] at h
theorem arr_elR {args : Array Value} {s : State} {t u : Term} {a b : Addr} {cl : Cell} {ty : FieldType} {j : Int32} (ht : t.eval args s none [] s = some (.ref a)) (A : Arr s s.heap a cl ty) (h : (Jvm.Cond.eq (.elem t (.int j)) u).value args s none s [] = some true) (hu : u.eval args s none [] s = some (.ref b)) (hj : ¬ j < 0) : cl.slots[j.toNatClampNeg]? = some (.ref b) := by
  have ha := A.fin (Vm.Alike.refl s.vm)
  have e : (Term.elem t (.int j)).eval args s none [] s = cl.slots[j.toNatClampNeg]? := elem_f ht rfl ha hj
  simp only [Cond.value, hu, e] at h
  cases hv : cl.slots[j.toNatClampNeg]? with
  | none => simp [hv] at h
  | some v => cases v <;> simp_all
theorem arr_elI {args : Array Value} {s : State} {t : Term} {a : Addr} {cl : Cell} {ty : FieldType} {j k : Int32} (ht : t.eval args s none [] s = some (.ref a)) (A : Arr s s.heap a cl ty) (h : (Jvm.Cond.eq (.elem t (.int j)) (.int k)).value args s none s [] = some true) (hj : ¬ j < 0) : cl.slots[j.toNatClampNeg]? = some (.int k) := by
  have ha := A.fin (Vm.Alike.refl s.vm)
  have e : (Term.elem t (.int j)).eval args s none [] s = cl.slots[j.toNatClampNeg]? := elem_f ht rfl ha hj
  have e2 : (Term.int k).eval args s none [] s = some (.int k) := rfl
  simp only [Cond.value, e, e2] at h
  cases hv : cl.slots[j.toNatClampNeg]? with
  | none => simp [hv] at h
  | some v => cases v <;> simp_all
theorem inb32 {j z : Int32} {n : Int} (hz : z.toInt = n) (h0 : 0 ≤ j.toInt) (h1 : j.toInt < n) : ¬ j < 0 ∧ j < z := by
  rw [Int32.lt_iff_toInt_lt, Int32.lt_iff_toInt_lt, hz]
  have : (0 : Int32).toInt = 0 := by decide
  omega
theorem own_nn {n : Int32} (h : 0 ≤ n.toInt) : ¬ n < 0 := by
  rw [Int32.lt_iff_toInt_lt]
  have : (0 : Int32).toInt = 0 := by decide
  omega
theorem own_cap {n : Int32} {c : Nat} (h : n.toInt < (c : Int) + 1) : n.toNatClampNeg ≤ c := by
  simp only [Int32.toNatClampNeg]
  omega
theorem own_fin (x : Int32) (n : Nat) (hn : n < 2147483648) (h0 : 0 ≤ x.toInt) (h1 : x.toInt < n) : ∃ i : Fin n, x = Int32.ofNat i.1 := by
  refine ⟨⟨x.toInt.toNat, by omega⟩, Int32.toInt_inj.mp ?_⟩
  show x.toInt = (Int32.ofNat x.toInt.toNat).toInt
  rw [Int32.toInt_ofNat_small (by omega)]
  omega
end OwnRun
theorem d6_0 : decode jdk_65_method_153_code 0 = .ok (.aload_n 0, 1) := by decide +kernel
theorem d6_1 : decode jdk_65_method_153_code 1 = .ok (.ifnonnull 5, 3) := by decide +kernel
theorem d6_6 : decode jdk_65_method_153_code 6 = .ok (.aload_n 0, 1) := by decide +kernel
theorem d6_7 : decode jdk_65_method_153_code 7 = .ok (.arraylength, 1) := by decide +kernel
theorem d6_8 : decode jdk_65_method_153_code 8 = .ok (.lookupswitch 41 #[(0, 28), (1, 32)], 28) := by decide +kernel
theorem d6_36 : decode jdk_65_method_153_code 36 = .ok (.iconst 1, 1) := by decide +kernel
theorem d6_37 : decode jdk_65_method_153_code 37 = .ok (.goto 22, 3) := by decide +kernel
theorem d6_59 : decode jdk_65_method_153_code 59 = .ok (.ireturn, 1) := by decide +kernel
theorem pn_0 : plainName "java/util/Arrays" = true := by first | (simp [plainName, overriddenIn]; done) | decide +kernel
theorem ef_Hc (m : MethodId) (a0 : Addr) : entryFrame m #[(.ref a0)] 1 = mkF m 0 #[.val (.ref a0)] [] := by first | (simp [entryFrame, mkF, argsToLocals, Value.category]; done) | rfl
def FHc (a0 : Addr) (kb : ClassId) : Int32 := (1 : Int32)
def QHc (Z : State) (a0 : Addr) (kb : ClassId) (h0 : Heap) (n0 : Nat) (v : Option Value) (h : Heap) (L : List Loc) : Prop := v = some (.int (FHc a0 kb)) ∧ Fr n0 L ∧ h = h0
set_option maxRecDepth 65536 in
set_option maxHeartbeats 40000000 in
theorem rmHc (l : Launch) (Z : State) (aV : Array Value) (hw : ∀ d ∈ tables_1, d.before aV Z = true) (ws : List Jvm.Cond) (a0 : Addr) (kb : ClassId) (h0 : Heap) (n0 : Nat) (Zn : n0 ≤ h0.size) (V_a0 : Arv Z h0 a0 kb .byte (0 : Int32) [] (.int (0 : Int32))) :
    MetFree l (⟨"java/util/Arrays", "hashCode", "([B)I"⟩ : MethodName) (head1 (Jvm.Cond.code (⟨"java/util/Arrays", "hashCode", "([B)I"⟩ : MethodName) jdk_65_method_153_code 1 (some .int) :: ws) ({ frames := 0, cells := 0, slots := 0, locals := 0 } : Room)) (fun a U => a = #[(.ref a0)] ∧ Z.Warmed39 U.vm ∧ U.heap = h0) (fun _ _ _ _ _ => True) (fun _ U o U' => ∃ v L, o = .returned v ∧ QHc Z a0 kb h0 n0 v U'.heap L ∧ FrameEnd U o U' L ({ frames := 0, cells := 0, slots := 0, locals := 0 } : Room).cells ({ frames := 0, cells := 0, slots := 0, locals := 0 } : Room).slots) := by
  refine MetFree.of_bodySF (plainFor_of_name pn_0) hisR ?_
  intro p e s m args below meth c s₁ Bd hml0 hP hK
  obtain ⟨rfl, hZ, hh⟩ := hP
  have hx := Bd.exec
  have hby := Bd.bytes
  have hml : c.maxLocals = 1 := hml0
  have hown : s.vm.findClass "java/util/Arrays" = some m.cls := findClass_of_methodNamed Bd.named
  have hnm := (name_of_methodNamed Bd.named Bd.method).1
  have X0 : Stand p l e ({ frames := 0, cells := 0, slots := 0, locals := 0 } : Room) s m #[(.ref a0)] below meth c s₁ [] 0 0 := Stand.of_body Bd
  have e0 : s₁.heap = h0 := by rw [← hh, Bd.state]; rfl
  have N0 := Fr.nil n0
  have Kp := Keep.refl h0 []
  show Run p e below (Ends s (QHc Z a0 kb h0 n0) ({ frames := 0, cells := 0, slots := 0, locals := 0 } : Room).cells ({ frames := 0, cells := 0, slots := 0, locals := 0 } : Room).slots) _
  refine Run.st (S' := s₁.setTop (mkF m 0 #[.val (.ref a0)] [])) (fun t k => castTop (ef_Hc m a0) k) ?_
  refine Run.st (S' := s₁.setTop (mkF m 7 #[.val (.ref a0)] [(.ref a0)])) (fun _ k => XS.aloadN X0.here hx rfl (hb hby d6_0) rfl rfl (XS.ifnonnullYes X0.here hx rfl (pc0 := 1) (pc' := 6) rfl (hb hby d6_1) rfl (by decide) (by decide) (XS.aloadN X0.here hx rfl (hb hby d6_6) rfl rfl k))) ?_
  obtain ⟨cl1, Ar1, -, Sa1, Na1, -, -⟩ := id V_a0
  refine Run.st (S' := s₁.setTop (mkF m 8 #[.val (.ref a0)] [(.int (0 : Int32))])) (fun _ k => X0.arraylength hx (by rw [e0]; exact Ar1.1) (State.isArrayOf_alike hZ.alike Ar1.2.1) (g := (mkF m 7 #[.val (.ref a0)] [(.ref a0)])) rfl rfl (hb hby d6_7) _ (by rw [len_of Sa1 Na1]; exact k)) ?_
  refine Run.st (S' := s₁.setTop (mkF m 59 #[.val (.ref a0)] [(.int (1 : Int32))])) (fun _ k => own_lsw X0.here hx rfl (pc0 := 8) (pc' := 36) rfl (hb hby d6_8) rfl (o := 28) (by decide) (by decide) (by decide) (by decide) (XS.iconst X0.here hx rfl (hb hby d6_36) (XS.goto X0.here hx rfl (pc0 := 37) (pc' := 59) rfl (hb hby d6_37) (by decide) (by decide) k))) ?_
  refine Run.out X0 hx Bd.notSynchronized Bd.returns rfl (Or.inl ⟨rfl, by simp, _, rfl⟩) (hb hby d6_59) (by decide) (by decide) ?_
  rw [e0]
  exact ⟨rfl, N0, rfl⟩
theorem pd_0 : parseMethodDescriptor "([B)I" = some ⟨[(.array .byte)], some .int⟩ := by decide +kernel
theorem d5_0 : decode prog_42_method_2_code 0 = .ok (.aload_n 0, 1) := by decide +kernel
theorem d5_1 : decode prog_42_method_2_code 1 = .ok (.invokestatic 24, 3) := by decide +kernel
theorem d5_4 : decode prog_42_method_2_code 4 = .ok (.istore_n 1, 1) := by decide +kernel
theorem d5_5 : decode prog_42_method_2_code 5 = .ok (.iload_n 1, 1) := by decide +kernel
theorem d5_6 : decode prog_42_method_2_code 6 = .ok (.iload_n 1, 1) := by decide +kernel
theorem d5_7 : decode prog_42_method_2_code 7 = .ok (.bipush 16, 2) := by decide +kernel
theorem d5_9 : decode prog_42_method_2_code 9 = .ok (.iushr, 1) := by decide +kernel
theorem d5_10 : decode prog_42_method_2_code 10 = .ok (.ixor, 1) := by decide +kernel
theorem d5_11 : decode prog_42_method_2_code 11 = .ok (.ireturn, 1) := by decide +kernel
theorem pn_1 : plainName "com/example/keys_to_structures/keystostructures/store/Entry" = true := by first | (simp [plainName, overriddenIn]; done) | decide +kernel
theorem ef_Hash (m : MethodId) (a0 : Addr) : entryFrame m #[(.ref a0)] 2 = mkF m 0 #[.val (.ref a0), .unset] [] := by first | (simp [entryFrame, mkF, argsToLocals, Value.category]; done) | rfl
def FHash (a0 : Addr) (kb : ClassId) : Int32 := ((FHc a0 kb) ^^^ (((FHc a0 kb).toUInt32 >>> ((16 : Int32) &&& 31).toUInt32).toInt32))
def QHash (Z : State) (a0 : Addr) (kb : ClassId) (h0 : Heap) (n0 : Nat) (v : Option Value) (h : Heap) (L : List Loc) : Prop := v = some (.int (FHash a0 kb)) ∧ Fr n0 L ∧ h = h0
set_option maxRecDepth 65536 in
set_option maxHeartbeats 40000000 in
theorem rmHash (l : Launch) (Z : State) (aV : Array Value) (hw : ∀ d ∈ tables_1, d.before aV Z = true) (ws : List Jvm.Cond) (a0 : Addr) (kb : ClassId) (h0 : Heap) (n0 : Nat) (Zn : n0 ≤ h0.size) (V_a0 : Arv Z h0 a0 kb .byte (0 : Int32) [] (.int (0 : Int32))) :
    MetFree l (⟨"com/example/keys_to_structures/keystostructures/store/Entry", "hash", "([B)I"⟩ : MethodName) (head1 (Jvm.Cond.code (⟨"com/example/keys_to_structures/keystostructures/store/Entry", "hash", "([B)I"⟩ : MethodName) prog_42_method_2_code 2 (some .int) :: ws) ({ frames := 1, cells := 0, slots := 0, locals := 12 } : Room)) (fun a U => a = #[(.ref a0)] ∧ Z.Warmed39 U.vm ∧ U.heap = h0) (fun _ _ _ _ _ => True) (fun _ U o U' => ∃ v L, o = .returned v ∧ QHash Z a0 kb h0 n0 v U'.heap L ∧ FrameEnd U o U' L ({ frames := 1, cells := 0, slots := 0, locals := 12 } : Room).cells ({ frames := 1, cells := 0, slots := 0, locals := 12 } : Room).slots) := by
  refine MetFree.of_bodySF (plainFor_of_name pn_1) hisR ?_
  intro p e s m args below meth c s₁ Bd hml0 hP hK
  obtain ⟨rfl, hZ, hh⟩ := hP
  have hx := Bd.exec
  have hby := Bd.bytes
  have hml : c.maxLocals = 2 := hml0
  have hown : s.vm.findClass "com/example/keys_to_structures/keystostructures/store/Entry" = some m.cls := findClass_of_methodNamed Bd.named
  have hnm := (name_of_methodNamed Bd.named Bd.method).1
  have X0 : Stand p l e ({ frames := 1, cells := 0, slots := 0, locals := 12 } : Room) s m #[(.ref a0)] below meth c s₁ [] 0 0 := Stand.of_body Bd
  have e0 : s₁.heap = h0 := by rw [← hh, Bd.state]; rfl
  have N0 := Fr.nil n0
  have Kp := Keep.refl h0 []
  show Run p e below (Ends s (QHash Z a0 kb h0 n0) ({ frames := 1, cells := 0, slots := 0, locals := 12 } : Room).cells ({ frames := 1, cells := 0, slots := 0, locals := 12 } : Room).slots) _
  refine Run.st (S' := s₁.setTop (mkF m 0 #[.val (.ref a0), .unset] [])) (fun t k => castTop (ef_Hash m a0) k) ?_
  refine Run.st (S' := s₁.setTop (mkF m 1 #[.val (.ref a0), .unset] [(.ref a0)])) (fun _ k => XS.aloadN X0.here hx rfl (hb hby d5_0) rfl rfl k) ?_
  obtain ⟨_, _, ⟨T1, L1, k1, n1⟩, -, X1, ⟨Lc1, hQ1, l1, y1, z1⟩, st1⟩ := Jvm.LawKit.callS X0 hx (y := (⟨"java/util/Arrays", "hashCode", "([B)I"⟩ : MethodName)) hown (mvT hZ (hw _ (List.mem_of_getElem? (i := 33) rfl))) (mvT hZ (hw _ (List.mem_of_getElem? (i := 34) rfl))) (mvT hZ (hw _ (List.mem_of_getElem? (i := 35) rfl))) (mvT hZ (hw _ (List.mem_of_getElem? (i := 36) rfl))) (by decide) (backOf (W := 0) (rmHc l Z aV hw [] a0 kb h0 n0 Zn V_a0) hZ (hw _ (List.mem_of_getElem? (i := 36) rfl)) (hw _ (List.mem_of_getElem? (i := 35) rfl)) (by decide) (by decide)) (g := (mkF m 1 #[.val (.ref a0), .unset] [(.ref a0)])) rfl (by rw [hml]; rfl) (argsL := [(.ref a0)]) (rest := []) (lenOf pd_0 rfl) rfl (by show 2 * 0 + _ ≤ _; exact Nat.le_of_eq rfl) (hb hby d5_1) (fun _ _ => ⟨rfl, e0, (by decide : 0 + 0 ≤ _), (by decide : 0 + 0 ≤ _)⟩)
  dsimp only [Pt.U, Pt.locs, Pt.cells, Pt.slots] at X1 l1 y1 z1 st1 hQ1
  subst l1 y1 z1
  obtain ⟨rfl, N1q, e1⟩ := hQ1
  have N1 := Fr.app N0 N1q
  refine Run.st (S' := T1.setTop (mkF m 11 #[.val (.ref a0), .val (.int (FHc a0 kb))] [(.int ((FHc a0 kb) ^^^ (((FHc a0 kb).toUInt32 >>> ((16 : Int32) &&& 31).toUInt32).toInt32)))])) (fun _ k => st1 _ (XS.istoreN X1.here hx rfl (hb hby d5_4) rfl (l' := #[.val (.ref a0), .val (.int (FHc a0 kb))]) rfl (XS.iloadN X1.here hx rfl (hb hby d5_5) rfl (XS.iloadN X1.here hx rfl (hb hby d5_6) rfl (XS.bipush X1.here hx rfl (hb hby d5_7) (XS.iushr X1.here hx rfl (hb hby d5_9) rfl (XS.ixor X1.here hx rfl (hb hby d5_10) rfl k))))))) ?_
  refine Run.out X1 hx Bd.notSynchronized Bd.returns rfl (Or.inl ⟨rfl, by simp, _, rfl⟩) (hb hby d5_11) (by decide) (by decide) ?_
  rw [e1]
  exact ⟨rfl, N1, rfl⟩
theorem d4_0 : decode prog_42_method_1_code 0 = .ok (.aload_n 0, 1) := by decide +kernel
theorem d4_1 : decode prog_42_method_1_code 1 = .ok (.invokespecial 1, 3) := by decide +kernel
theorem d4_4 : decode prog_42_method_1_code 4 = .ok (.aload_n 0, 1) := by decide +kernel
theorem d4_5 : decode prog_42_method_1_code 5 = .ok (.aload_n 1, 1) := by decide +kernel
theorem d4_6 : decode prog_42_method_1_code 6 = .ok (.putfield 7, 3) := by decide +kernel
theorem d4_9 : decode prog_42_method_1_code 9 = .ok (.aload_n 0, 1) := by decide +kernel
theorem d4_10 : decode prog_42_method_1_code 10 = .ok (.aload_n 2, 1) := by decide +kernel
theorem d4_11 : decode prog_42_method_1_code 11 = .ok (.putfield 13, 3) := by decide +kernel
theorem d4_14 : decode prog_42_method_1_code 14 = .ok (.aload_n 0, 1) := by decide +kernel
theorem d4_15 : decode prog_42_method_1_code 15 = .ok (.aload_n 1, 1) := by decide +kernel
theorem d4_16 : decode prog_42_method_1_code 16 = .ok (.invokestatic 17, 3) := by decide +kernel
theorem d4_19 : decode prog_42_method_1_code 19 = .ok (.putfield 21, 3) := by decide +kernel
theorem d4_22 : decode prog_42_method_1_code 22 = .ok (.return_, 1) := by decide +kernel
theorem ef_EIni (m : MethodId) (a0 : Addr) (a1 : Addr) : entryFrame m #[(.ref a0), (.ref a1), .null] 3 = mkF m 0 #[.val (.ref a0), .val (.ref a1), .val .null] [] := by first | (simp [entryFrame, mkF, argsToLocals, Value.category]; done) | rfl
def QEIni (Z : State) (a0 : Addr) (a1 : Addr) (kb : ClassId) (h0 : Heap) (n0 : Nat) (v : Option Value) (h : Heap) (L : List Loc) : Prop := v = none ∧ Fr n0 L ∧ Keep h0 h [a0] ∧ Exa Z h a0 "com/example/keys_to_structures/keystostructures/store/TimedEntry" ∧ Fld Z h a0 "com/example/keys_to_structures/keystostructures/store/TimedEntry" "deadline" "J" (.long (0 : Int64)) ∧ Fld Z h a0 "com/example/keys_to_structures/keystostructures/store/TimedEntry" "position" "I" (.int (0 : Int32)) ∧ Fld Z h a0 "com/example/keys_to_structures/keystostructures/store/Entry" "key" "[B" (.ref a1) ∧ Fld Z h a0 "com/example/keys_to_structures/keystostructures/store/Entry" "value" "Ljava/lang/Object;" .null ∧ Fld Z h a0 "com/example/keys_to_structures/keystostructures/store/Entry" "hash" "I" (.int (FHash a1 kb))
set_option maxRecDepth 65536 in
set_option maxHeartbeats 40000000 in
theorem rmEIni (l : Launch) (Z : State) (aV : Array Value) (hw : ∀ d ∈ tables_1, d.before aV Z = true) (ws : List Jvm.Cond) (a0 : Addr) (a1 : Addr) (kb : ClassId) (h0 : Heap) (n0 : Nat) (Zn : n0 ≤ h0.size) (g_a0 : n0 ≤ a0) (E_a0 : Exa Z h0 a0 "com/example/keys_to_structures/keystostructures/store/TimedEntry") (F_d : Fld Z h0 a0 "com/example/keys_to_structures/keystostructures/store/TimedEntry" "deadline" "J" (.long (0 : Int64))) (F_p : Fld Z h0 a0 "com/example/keys_to_structures/keystostructures/store/TimedEntry" "position" "I" (.int (0 : Int32))) (F_key : Fld Z h0 a0 "com/example/keys_to_structures/keystostructures/store/Entry" "key" "[B" .null) (F_val : Fld Z h0 a0 "com/example/keys_to_structures/keystostructures/store/Entry" "value" "Ljava/lang/Object;" .null) (F_hash : Fld Z h0 a0 "com/example/keys_to_structures/keystostructures/store/Entry" "hash" "I" (.int (0 : Int32))) (V_a1 : Arv Z h0 a1 kb .byte (0 : Int32) [] (.int (0 : Int32))) (ne_a0__a1 : a0 ≠ a1) :
    MetFree l (⟨"com/example/keys_to_structures/keystostructures/store/Entry", "<init>", "([BLjava/lang/Object;)V"⟩ : MethodName) (head1 (Jvm.Cond.code (⟨"com/example/keys_to_structures/keystostructures/store/Entry", "<init>", "([BLjava/lang/Object;)V"⟩ : MethodName) prog_42_method_1_code 3 none :: ws) ({ frames := 2, cells := 0, slots := 0, locals := 26 } : Room)) (fun a U => a = #[(.ref a0), (.ref a1), .null] ∧ Z.Warmed39 U.vm ∧ U.heap = h0) (fun _ _ _ _ _ => True) (fun _ U o U' => ∃ v L, o = .returned v ∧ QEIni Z a0 a1 kb h0 n0 v U'.heap L ∧ FrameEnd U o U' L ({ frames := 2, cells := 0, slots := 0, locals := 26 } : Room).cells ({ frames := 2, cells := 0, slots := 0, locals := 26 } : Room).slots) := by
  refine MetFree.of_bodySF (plainFor_of_name pn_1) hisR ?_
  intro p e s m args below meth c s₁ Bd hml0 hP hK
  obtain ⟨rfl, hZ, hh⟩ := hP
  have hx := Bd.exec
  have hby := Bd.bytes
  have hml : c.maxLocals = 3 := hml0
  have hown : s.vm.findClass "com/example/keys_to_structures/keystostructures/store/Entry" = some m.cls := findClass_of_methodNamed Bd.named
  have hnm := (name_of_methodNamed Bd.named Bd.method).1
  have X0 : Stand p l e ({ frames := 2, cells := 0, slots := 0, locals := 26 } : Room) s m #[(.ref a0), (.ref a1), .null] below meth c s₁ [] 0 0 := Stand.of_body Bd
  have e0 : s₁.heap = h0 := by rw [← hh, Bd.state]; rfl
  have N0 := Fr.nil n0
  have Kp := Keep.refl h0 [a0]
  show Run p e below (Ends s (QEIni Z a0 a1 kb h0 n0) ({ frames := 2, cells := 0, slots := 0, locals := 26 } : Room).cells ({ frames := 2, cells := 0, slots := 0, locals := 26 } : Room).slots) _
  refine Run.st (S' := s₁.setTop (mkF m 0 #[.val (.ref a0), .val (.ref a1), .val .null] [])) (fun t k => castTop (ef_EIni m a0 a1) k) ?_
  refine Run.st (S' := s₁.setTop (mkF m 1 #[.val (.ref a0), .val (.ref a1), .val .null] [(.ref a0)])) (fun _ k => XS.aloadN X0.here hx rfl (hb hby d4_0) rfl rfl k) ?_
  obtain ⟨T1, X1, e1, st1⟩ := initO X0 hx hZ hown (hw _ (List.mem_of_getElem? (i := 25) rfl)) (hw _ (List.mem_of_getElem? (i := 7) rfl)) (hw _ (List.mem_of_getElem? (i := 8) rfl)) e0 (g := (mkF m 1 #[.val (.ref a0), .val (.ref a1), .val .null] [(.ref a0)])) rfl (by rw [hml]; rfl) rfl (hb hby d4_1) (by decide) (W := 0) (by show 2 * 0 + _ ≤ _; exact Nat.le_of_eq rfl) (by decide)
  refine Run.st (S' := T1.setTop (mkF m 6 #[.val (.ref a0), .val (.ref a1), .val .null] [(.ref a1), (.ref a0)])) (fun _ k => st1 _ (XS.aloadN X1.here hx rfl (hb hby d4_4) rfl rfl (XS.aloadN X1.here hx rfl (hb hby d4_5) rfl rfl k))) ?_
  obtain ⟨T2, h2, X2, e2, W2, st2⟩ := putF X1 hx hZ hown (host := "") (Or.inl (hw _ (List.mem_of_getElem? (i := 26) rfl))) Via.refl e1 F_key E_a0 (Or.inr ⟨(hw _ (List.mem_of_getElem? (i := 27) rfl)), rfl, hnm⟩) (hw _ (List.mem_of_getElem? (i := 14) rfl)) (ty := (.array .byte)) (by decide) rfl rfl (g := (mkF m 6 #[.val (.ref a0), .val (.ref a1), .val .null] [(.ref a1), (.ref a0)])) rfl rfl (hb hby d4_6)
  have F_key := F_key.same W2
  have E_a0 := E_a0.wr W2
  have F_d := F_d.other W2 (Or.inr (slot_ne (Or.inl (hw _ (List.mem_of_getElem? (i := 40) rfl))) (Or.inr (hw _ (List.mem_of_getElem? (i := 27) rfl))) (by decide) (t := .long) (t' := (.array .byte)) (by decide) (by decide)))
  have F_p := F_p.other W2 (Or.inr (slot_ne (Or.inl (hw _ (List.mem_of_getElem? (i := 73) rfl))) (Or.inr (hw _ (List.mem_of_getElem? (i := 27) rfl))) (by decide) (t := .int) (t' := (.array .byte)) (by decide) (by decide)))
  have F_val := F_val.other W2 (Or.inr (slot_ne (Or.inl (hw _ (List.mem_of_getElem? (i := 29) rfl))) (Or.inr (hw _ (List.mem_of_getElem? (i := 27) rfl))) (by decide) (t := (.object "java/lang/Object")) (t' := (.array .byte)) (by decide) (by decide)))
  have F_hash := F_hash.other W2 (Or.inr (slot_ne (Or.inr (hw _ (List.mem_of_getElem? (i := 38) rfl))) (Or.inr (hw _ (List.mem_of_getElem? (i := 27) rfl))) (by decide) (t := .int) (t' := (.array .byte)) (by decide) (by decide)))
  have V_a1 := V_a1.other W2 (Ne.symm ne_a0__a1)
  have N2 := Fr.snoc X2 N0 g_a0
  have Kp := Kp.wr W2 (Or.inl (by simp))
  have Zn := Nat.le_trans Zn (Nat.le_of_eq W2.size.symm)
  refine Run.st (S' := T2.setTop (mkF m 11 #[.val (.ref a0), .val (.ref a1), .val .null] [.null, (.ref a0)])) (fun _ k => st2 _ (XS.aloadN X2.here hx rfl (hb hby d4_9) rfl rfl (XS.aloadN X2.here hx rfl (hb hby d4_10) rfl rfl k))) ?_
  obtain ⟨T3, h3, X3, e3, W3, st3⟩ := putF X2 hx hZ hown (host := "") (Or.inl (hw _ (List.mem_of_getElem? (i := 28) rfl))) Via.refl e2 F_val E_a0 (Or.inl (hw _ (List.mem_of_getElem? (i := 29) rfl))) (hw _ (List.mem_of_getElem? (i := 14) rfl)) (ty := (.object "java/lang/Object")) (by decide) rfl rfl (g := (mkF m 11 #[.val (.ref a0), .val (.ref a1), .val .null] [.null, (.ref a0)])) rfl rfl (hb hby d4_11)
  have F_val := F_val.same W3
  have E_a0 := E_a0.wr W3
  have F_d := F_d.other W3 (Or.inr (slot_ne (Or.inl (hw _ (List.mem_of_getElem? (i := 40) rfl))) (Or.inl (hw _ (List.mem_of_getElem? (i := 29) rfl))) (by decide) (t := .long) (t' := (.object "java/lang/Object")) (by decide) (by decide)))
  have F_p := F_p.other W3 (Or.inr (slot_ne (Or.inl (hw _ (List.mem_of_getElem? (i := 73) rfl))) (Or.inl (hw _ (List.mem_of_getElem? (i := 29) rfl))) (by decide) (t := .int) (t' := (.object "java/lang/Object")) (by decide) (by decide)))
  have F_key := F_key.other W3 (Or.inr (slot_ne (Or.inr (hw _ (List.mem_of_getElem? (i := 27) rfl))) (Or.inl (hw _ (List.mem_of_getElem? (i := 29) rfl))) (by decide) (t := (.array .byte)) (t' := (.object "java/lang/Object")) (by decide) (by decide)))
  have F_hash := F_hash.other W3 (Or.inr (slot_ne (Or.inr (hw _ (List.mem_of_getElem? (i := 38) rfl))) (Or.inl (hw _ (List.mem_of_getElem? (i := 29) rfl))) (by decide) (t := .int) (t' := (.object "java/lang/Object")) (by decide) (by decide)))
  have V_a1 := V_a1.other W3 (Ne.symm ne_a0__a1)
  have N3 := Fr.snoc X3 N2 g_a0
  have Kp := Kp.wr W3 (Or.inl (by simp))
  have Zn := Nat.le_trans Zn (Nat.le_of_eq W3.size.symm)
  refine Run.st (S' := T3.setTop (mkF m 16 #[.val (.ref a0), .val (.ref a1), .val .null] [(.ref a1), (.ref a0)])) (fun _ k => st3 _ (XS.aloadN X3.here hx rfl (hb hby d4_14) rfl rfl (XS.aloadN X3.here hx rfl (hb hby d4_15) rfl rfl k))) ?_
  obtain ⟨_, _, ⟨T4, L4, k4, n4⟩, -, X4, ⟨Lc4, hQ4, l4, y4, z4⟩, st4⟩ := Jvm.LawKit.callS X3 hx (y := (⟨"com/example/keys_to_structures/keystostructures/store/Entry", "hash", "([B)I"⟩ : MethodName)) hown (mvT hZ (hw _ (List.mem_of_getElem? (i := 30) rfl))) (mvT hZ (hw _ (List.mem_of_getElem? (i := 31) rfl))) (mvT hZ (hw _ (List.mem_of_getElem? (i := 23) rfl))) (mvT hZ (hw _ (List.mem_of_getElem? (i := 32) rfl))) (by decide) (backOf (W := 1) (rmHash l Z aV hw [] a1 kb h3 n0 Zn V_a1) hZ (hw _ (List.mem_of_getElem? (i := 32) rfl)) (hw _ (List.mem_of_getElem? (i := 23) rfl)) (by decide) (by decide)) (g := (mkF m 16 #[.val (.ref a0), .val (.ref a1), .val .null] [(.ref a1), (.ref a0)])) rfl (by rw [hml]; rfl) (argsL := [(.ref a1)]) (rest := [(.ref a0)]) (lenOf pd_0 rfl) rfl (by show 2 * 0 + _ ≤ _; exact Nat.le_of_eq rfl) (hb hby d4_16) (fun _ _ => ⟨rfl, e3, (by decide : 0 + 0 ≤ _), (by decide : 0 + 0 ≤ _)⟩)
  dsimp only [Pt.U, Pt.locs, Pt.cells, Pt.slots] at X4 l4 y4 z4 st4 hQ4
  subst l4 y4 z4
  obtain ⟨rfl, N4q, e4⟩ := hQ4
  have N4 := Fr.app N3 N4q
  refine Run.st (S' := T4.setTop (mkF m 19 #[.val (.ref a0), .val (.ref a1), .val .null] [(.int (FHash a1 kb)), (.ref a0)])) (fun _ k => st4 _ k) ?_
  obtain ⟨T5, h5, X5, e5, W5, st5⟩ := putF X4 hx hZ hown (host := "") (Or.inl (hw _ (List.mem_of_getElem? (i := 37) rfl))) Via.refl e4 F_hash E_a0 (Or.inr ⟨(hw _ (List.mem_of_getElem? (i := 38) rfl)), rfl, hnm⟩) (hw _ (List.mem_of_getElem? (i := 14) rfl)) (ty := .int) (by decide) rfl rfl (g := (mkF m 19 #[.val (.ref a0), .val (.ref a1), .val .null] [(.int (FHash a1 kb)), (.ref a0)])) rfl rfl (hb hby d4_19)
  have F_hash := F_hash.same W5
  have E_a0 := E_a0.wr W5
  have F_d := F_d.other W5 (Or.inr (slot_ne (Or.inl (hw _ (List.mem_of_getElem? (i := 40) rfl))) (Or.inr (hw _ (List.mem_of_getElem? (i := 38) rfl))) (by decide) (t := .long) (t' := .int) (by decide) (by decide)))
  have F_p := F_p.other W5 (Or.inr (slot_ne (Or.inl (hw _ (List.mem_of_getElem? (i := 73) rfl))) (Or.inr (hw _ (List.mem_of_getElem? (i := 38) rfl))) (by decide) (t := .int) (t' := .int) (by decide) (by decide)))
  have F_key := F_key.other W5 (Or.inr (slot_ne (Or.inr (hw _ (List.mem_of_getElem? (i := 27) rfl))) (Or.inr (hw _ (List.mem_of_getElem? (i := 38) rfl))) (by decide) (t := (.array .byte)) (t' := .int) (by decide) (by decide)))
  have F_val := F_val.other W5 (Or.inr (slot_ne (Or.inl (hw _ (List.mem_of_getElem? (i := 29) rfl))) (Or.inr (hw _ (List.mem_of_getElem? (i := 38) rfl))) (by decide) (t := (.object "java/lang/Object")) (t' := .int) (by decide) (by decide)))
  have V_a1 := V_a1.other W5 (Ne.symm ne_a0__a1)
  have N5 := Fr.snoc X5 N4 g_a0
  have Kp := Kp.wr W5 (Or.inl (by simp))
  have Zn := Nat.le_trans Zn (Nat.le_of_eq W5.size.symm)
  refine Run.st (S' := T5.setTop (mkF m 22 #[.val (.ref a0), .val (.ref a1), .val .null] [])) (fun _ k => st5 _ k) ?_
  refine Run.outV X5 hx Bd.notSynchronized Bd.returns (hb hby d4_22) (by decide) (by decide) ?_
  rw [e5]
  exact ⟨rfl, N5, Kp, E_a0, F_d, F_p, F_key, F_val, F_hash⟩
theorem pd_1 : parseMethodDescriptor "([BLjava/lang/Object;)V" = some ⟨[(.array .byte), (.object "java/lang/Object")], none⟩ := by decide +kernel
theorem d3_0 : decode prog_51_method_1_code 0 = .ok (.aload_n 0, 1) := by decide +kernel
theorem d3_1 : decode prog_51_method_1_code 1 = .ok (.aload_n 1, 1) := by decide +kernel
theorem d3_2 : decode prog_51_method_1_code 2 = .ok (.aload_n 2, 1) := by decide +kernel
theorem d3_3 : decode prog_51_method_1_code 3 = .ok (.invokespecial 1, 3) := by decide +kernel
theorem d3_6 : decode prog_51_method_1_code 6 = .ok (.aload_n 0, 1) := by decide +kernel
theorem d3_7 : decode prog_51_method_1_code 7 = .ok (.lload_n 3, 1) := by decide +kernel
theorem d3_8 : decode prog_51_method_1_code 8 = .ok (.putfield 7, 3) := by decide +kernel
theorem d3_11 : decode prog_51_method_1_code 11 = .ok (.return_, 1) := by decide +kernel
theorem pn_2 : plainName "com/example/keys_to_structures/keystostructures/store/TimedEntry" = true := by first | (simp [plainName, overriddenIn]; done) | decide +kernel
theorem ef_TIni (m : MethodId) (a0 : Addr) (a1 : Addr) (dl : Int64) : entryFrame m #[(.ref a0), (.ref a1), .null, (.long dl)] 5 = mkF m 0 #[.val (.ref a0), .val (.ref a1), .val .null, .val (.long dl), .second] [] := by first | (simp [entryFrame, mkF, argsToLocals, Value.category]; done) | rfl
def QTIni (Z : State) (a0 : Addr) (a1 : Addr) (dl : Int64) (kb : ClassId) (h0 : Heap) (n0 : Nat) (v : Option Value) (h : Heap) (L : List Loc) : Prop := v = none ∧ Fr n0 L ∧ Keep h0 h [a0] ∧ Exa Z h a0 "com/example/keys_to_structures/keystostructures/store/TimedEntry" ∧ Fld Z h a0 "com/example/keys_to_structures/keystostructures/store/TimedEntry" "deadline" "J" (.long dl) ∧ Fld Z h a0 "com/example/keys_to_structures/keystostructures/store/TimedEntry" "position" "I" (.int (0 : Int32)) ∧ Fld Z h a0 "com/example/keys_to_structures/keystostructures/store/Entry" "key" "[B" (.ref a1) ∧ Fld Z h a0 "com/example/keys_to_structures/keystostructures/store/Entry" "value" "Ljava/lang/Object;" .null ∧ Fld Z h a0 "com/example/keys_to_structures/keystostructures/store/Entry" "hash" "I" (.int (FHash a1 kb))
set_option maxRecDepth 65536 in
set_option maxHeartbeats 40000000 in
theorem rmTIni (l : Launch) (Z : State) (aV : Array Value) (hw : ∀ d ∈ tables_1, d.before aV Z = true) (ws : List Jvm.Cond) (a0 : Addr) (a1 : Addr) (dl : Int64) (kb : ClassId) (h0 : Heap) (n0 : Nat) (Zn : n0 ≤ h0.size) (g_a0 : n0 ≤ a0) (E_a0 : Exa Z h0 a0 "com/example/keys_to_structures/keystostructures/store/TimedEntry") (F_d : Fld Z h0 a0 "com/example/keys_to_structures/keystostructures/store/TimedEntry" "deadline" "J" (.long (0 : Int64))) (F_p : Fld Z h0 a0 "com/example/keys_to_structures/keystostructures/store/TimedEntry" "position" "I" (.int (0 : Int32))) (F_key : Fld Z h0 a0 "com/example/keys_to_structures/keystostructures/store/Entry" "key" "[B" .null) (F_val : Fld Z h0 a0 "com/example/keys_to_structures/keystostructures/store/Entry" "value" "Ljava/lang/Object;" .null) (F_hash : Fld Z h0 a0 "com/example/keys_to_structures/keystostructures/store/Entry" "hash" "I" (.int (0 : Int32))) (V_a1 : Arv Z h0 a1 kb .byte (0 : Int32) [] (.int (0 : Int32))) (ne_a0__a1 : a0 ≠ a1) :
    MetFree l (⟨"com/example/keys_to_structures/keystostructures/store/TimedEntry", "<init>", "([BLjava/lang/Object;J)V"⟩ : MethodName) (head1 (Jvm.Cond.code (⟨"com/example/keys_to_structures/keystostructures/store/TimedEntry", "<init>", "([BLjava/lang/Object;J)V"⟩ : MethodName) prog_51_method_1_code 5 none :: ws) ({ frames := 3, cells := 0, slots := 0, locals := 40 } : Room)) (fun a U => a = #[(.ref a0), (.ref a1), .null, (.long dl)] ∧ Z.Warmed39 U.vm ∧ U.heap = h0) (fun _ _ _ _ _ => True) (fun _ U o U' => ∃ v L, o = .returned v ∧ QTIni Z a0 a1 dl kb h0 n0 v U'.heap L ∧ FrameEnd U o U' L ({ frames := 3, cells := 0, slots := 0, locals := 40 } : Room).cells ({ frames := 3, cells := 0, slots := 0, locals := 40 } : Room).slots) := by
  refine MetFree.of_bodySF (plainFor_of_name pn_2) hisR ?_
  intro p e s m args below meth c s₁ Bd hml0 hP hK
  obtain ⟨rfl, hZ, hh⟩ := hP
  have hx := Bd.exec
  have hby := Bd.bytes
  have hml : c.maxLocals = 5 := hml0
  have hown : s.vm.findClass "com/example/keys_to_structures/keystostructures/store/TimedEntry" = some m.cls := findClass_of_methodNamed Bd.named
  have hnm := (name_of_methodNamed Bd.named Bd.method).1
  have X0 : Stand p l e ({ frames := 3, cells := 0, slots := 0, locals := 40 } : Room) s m #[(.ref a0), (.ref a1), .null, (.long dl)] below meth c s₁ [] 0 0 := Stand.of_body Bd
  have e0 : s₁.heap = h0 := by rw [← hh, Bd.state]; rfl
  have N0 := Fr.nil n0
  have Kp := Keep.refl h0 [a0]
  show Run p e below (Ends s (QTIni Z a0 a1 dl kb h0 n0) ({ frames := 3, cells := 0, slots := 0, locals := 40 } : Room).cells ({ frames := 3, cells := 0, slots := 0, locals := 40 } : Room).slots) _
  refine Run.st (S' := s₁.setTop (mkF m 0 #[.val (.ref a0), .val (.ref a1), .val .null, .val (.long dl), .second] [])) (fun t k => castTop (ef_TIni m a0 a1 dl) k) ?_
  refine Run.st (S' := s₁.setTop (mkF m 3 #[.val (.ref a0), .val (.ref a1), .val .null, .val (.long dl), .second] [.null, (.ref a1), (.ref a0)])) (fun _ k => XS.aloadN X0.here hx rfl (hb hby d3_0) rfl rfl (XS.aloadN X0.here hx rfl (hb hby d3_1) rfl rfl (XS.aloadN X0.here hx rfl (hb hby d3_2) rfl rfl k))) ?_
  obtain ⟨_, _, ⟨T1, L1, k1, n1⟩, -, X1, ⟨Lc1, hQ1, l1, y1, z1⟩, st1⟩ := X0.specialBack hx (y := (⟨"com/example/keys_to_structures/keystostructures/store/Entry", "<init>", "([BLjava/lang/Object;)V"⟩ : MethodName)) rfl hown (mvT hZ (hw _ (List.mem_of_getElem? (i := 20) rfl))) (mvT hZ (hw _ (List.mem_of_getElem? (i := 21) rfl))) (mvT hZ (hw _ (List.mem_of_getElem? (i := 24) rfl))) (by decide) (backOf (W := 0) (rmEIni l Z aV hw [] a0 a1 kb h0 n0 Zn g_a0 E_a0 F_d F_p F_key F_val F_hash V_a1 ne_a0__a1) hZ (hw _ (List.mem_of_getElem? (i := 24) rfl)) (hw _ (List.mem_of_getElem? (i := 23) rfl)) (by decide) (by decide)) (g := (mkF m 3 #[.val (.ref a0), .val (.ref a1), .val .null, .val (.long dl), .second] [.null, (.ref a1), (.ref a0)])) rfl (by rw [hml]; rfl) (Steps.refl _) (a := a0) (argsL := [(.ref a1), .null]) (rest := []) (lenOf pd_1 rfl) rfl (by show 2 * 0 + _ ≤ _; exact Nat.le_of_eq rfl) (hb hby d3_3) (fun _ _ => ⟨rfl, e0, (by decide : 0 + 0 ≤ _), (by decide : 0 + 0 ≤ _)⟩)
  dsimp only [Pt.U, Pt.locs, Pt.cells, Pt.slots] at X1 l1 y1 z1 st1 hQ1
  subst l1 y1 z1
  obtain ⟨rfl, N1q, K1, q1_0, q1_1, q1_2, q1_3, q1_4, q1_5⟩ := hQ1
  have V_a1 := V_a1.keep K1 (ninS (Ne.symm ne_a0__a1) nin0)
  have E_a0 := q1_0
  have F_d := q1_1
  have F_p := q1_2
  have F_key := q1_3
  have F_val := q1_4
  have F_hash := q1_5
  have Kp := Kp.trans K1 (allS (Or.inl (by simp)) all0)
  have Zn := Nat.le_trans Zn K1.1
  have N1 := Fr.app N0 N1q
  refine Run.st (S' := T1.setTop (mkF m 8 #[.val (.ref a0), .val (.ref a1), .val .null, .val (.long dl), .second] [(.long dl), (.ref a0)])) (fun _ k => st1.trans (XS.aloadN X1.here hx rfl (hb hby d3_6) rfl rfl (XS.lloadN X1.here hx rfl (hb hby d3_7) rfl k))) ?_
  obtain ⟨T2, h2, X2, e2, W2, st2⟩ := putF X1 hx hZ hown (host := "") (Or.inl (hw _ (List.mem_of_getElem? (i := 39) rfl))) Via.refl rfl F_d E_a0 (Or.inl (hw _ (List.mem_of_getElem? (i := 40) rfl))) (hw _ (List.mem_of_getElem? (i := 14) rfl)) (ty := .long) (by decide) rfl rfl (g := (mkF m 8 #[.val (.ref a0), .val (.ref a1), .val .null, .val (.long dl), .second] [(.long dl), (.ref a0)])) rfl rfl (hb hby d3_8)
  have F_d := F_d.same W2
  have E_a0 := E_a0.wr W2
  have F_p := F_p.other W2 (Or.inr (slot_ne (Or.inl (hw _ (List.mem_of_getElem? (i := 73) rfl))) (Or.inl (hw _ (List.mem_of_getElem? (i := 40) rfl))) (by decide) (t := .int) (t' := .long) (by decide) (by decide)))
  have F_key := F_key.other W2 (Or.inr (slot_ne (Or.inr (hw _ (List.mem_of_getElem? (i := 27) rfl))) (Or.inl (hw _ (List.mem_of_getElem? (i := 40) rfl))) (by decide) (t := (.array .byte)) (t' := .long) (by decide) (by decide)))
  have F_val := F_val.other W2 (Or.inr (slot_ne (Or.inl (hw _ (List.mem_of_getElem? (i := 29) rfl))) (Or.inl (hw _ (List.mem_of_getElem? (i := 40) rfl))) (by decide) (t := (.object "java/lang/Object")) (t' := .long) (by decide) (by decide)))
  have F_hash := F_hash.other W2 (Or.inr (slot_ne (Or.inr (hw _ (List.mem_of_getElem? (i := 38) rfl))) (Or.inl (hw _ (List.mem_of_getElem? (i := 40) rfl))) (by decide) (t := .int) (t' := .long) (by decide) (by decide)))
  have V_a1 := V_a1.other W2 (Ne.symm ne_a0__a1)
  have N2 := Fr.snoc X2 N1 g_a0
  have Kp := Kp.wr W2 (Or.inl (by simp))
  have Zn := Nat.le_trans Zn (Nat.le_of_eq W2.size.symm)
  refine Run.st (S' := T2.setTop (mkF m 11 #[.val (.ref a0), .val (.ref a1), .val .null, .val (.long dl), .second] [])) (fun _ k => st2 _ k) ?_
  refine Run.outV X2 hx Bd.notSynchronized Bd.returns (hb hby d3_11) (by decide) (by decide) ?_
  rw [e2]
  exact ⟨rfl, N2, Kp, E_a0, F_d, F_p, F_key, F_val, F_hash⟩
theorem d14_0 : decode prog_51_method_2_code 0 = .ok (.aload_n 0, 1) := by decide +kernel
theorem d14_1 : decode prog_51_method_2_code 1 = .ok (.getfield 7, 3) := by decide +kernel
theorem d14_4 : decode prog_51_method_2_code 4 = .ok (.lreturn, 1) := by decide +kernel
theorem ef_Dl (m : MethodId) (a0 : Addr) : entryFrame m #[(.ref a0)] 1 = mkF m 0 #[.val (.ref a0)] [] := by first | (simp [entryFrame, mkF, argsToLocals, Value.category]; done) | rfl
def QDl (Z : State) (a0 : Addr) (dl : Int64) (h0 : Heap) (n0 : Nat) (v : Option Value) (h : Heap) (L : List Loc) : Prop := v = some (.long dl) ∧ Fr n0 L ∧ h = h0
set_option maxRecDepth 65536 in
set_option maxHeartbeats 40000000 in
theorem rmDl (l : Launch) (Z : State) (aV : Array Value) (hw : ∀ d ∈ tables_1, d.before aV Z = true) (ws : List Jvm.Cond) (a0 : Addr) (dl : Int64) (h0 : Heap) (n0 : Nat) (Zn : n0 ≤ h0.size) (F_d : Fld Z h0 a0 "com/example/keys_to_structures/keystostructures/store/TimedEntry" "deadline" "J" (.long dl)) :
    MetFree l (⟨"com/example/keys_to_structures/keystostructures/store/TimedEntry", "deadline", "()J"⟩ : MethodName) (head1 (Jvm.Cond.code (⟨"com/example/keys_to_structures/keystostructures/store/TimedEntry", "deadline", "()J"⟩ : MethodName) prog_51_method_2_code 1 (some .long) :: ws) ({ frames := 0, cells := 0, slots := 0, locals := 0 } : Room)) (fun a U => a = #[(.ref a0)] ∧ Z.Warmed39 U.vm ∧ U.heap = h0) (fun _ _ _ _ _ => True) (fun _ U o U' => ∃ v L, o = .returned v ∧ QDl Z a0 dl h0 n0 v U'.heap L ∧ FrameEnd U o U' L ({ frames := 0, cells := 0, slots := 0, locals := 0 } : Room).cells ({ frames := 0, cells := 0, slots := 0, locals := 0 } : Room).slots) := by
  refine MetFree.of_bodySF (plainFor_of_name pn_2) hisR ?_
  intro p e s m args below meth c s₁ Bd hml0 hP hK
  obtain ⟨rfl, hZ, hh⟩ := hP
  have hx := Bd.exec
  have hby := Bd.bytes
  have hml : c.maxLocals = 1 := hml0
  have hown : s.vm.findClass "com/example/keys_to_structures/keystostructures/store/TimedEntry" = some m.cls := findClass_of_methodNamed Bd.named
  have hnm := (name_of_methodNamed Bd.named Bd.method).1
  have X0 : Stand p l e ({ frames := 0, cells := 0, slots := 0, locals := 0 } : Room) s m #[(.ref a0)] below meth c s₁ [] 0 0 := Stand.of_body Bd
  have e0 : s₁.heap = h0 := by rw [← hh, Bd.state]; rfl
  have N0 := Fr.nil n0
  have Kp := Keep.refl h0 []
  show Run p e below (Ends s (QDl Z a0 dl h0 n0) ({ frames := 0, cells := 0, slots := 0, locals := 0 } : Room).cells ({ frames := 0, cells := 0, slots := 0, locals := 0 } : Room).slots) _
  refine Run.st (S' := s₁.setTop (mkF m 0 #[.val (.ref a0)] [])) (fun t k => castTop (ef_Dl m a0) k) ?_
  refine Run.st (S' := s₁.setTop (mkF m 1 #[.val (.ref a0)] [(.ref a0)])) (fun _ k => XS.aloadN X0.here hx rfl (hb hby d14_0) rfl rfl k) ?_
  obtain ⟨T1, X1, e1, st1⟩ := getF X0 hx hZ hown (host := "") (Or.inl (hw _ (List.mem_of_getElem? (i := 39) rfl))) Via.refl e0 F_d (g := (mkF m 1 #[.val (.ref a0)] [(.ref a0)])) rfl rfl (hb hby d14_1)
  refine Run.st (S' := T1.setTop (mkF m 4 #[.val (.ref a0)] [(.long dl)])) (fun _ k => st1 _ k) ?_
  refine Run.out X1 hx Bd.notSynchronized Bd.returns rfl (Or.inr (Or.inl ⟨rfl, rfl, _, rfl⟩)) (hb hby d14_4) (by decide) (by decide) ?_
  rw [e1]
  exact ⟨rfl, N0, rfl⟩
theorem d13_0 : decode prog_51_method_4_code 0 = .ok (.aload_n 0, 1) := by decide +kernel
theorem d13_1 : decode prog_51_method_4_code 1 = .ok (.getfield 13, 3) := by decide +kernel
theorem d13_4 : decode prog_51_method_4_code 4 = .ok (.ireturn, 1) := by decide +kernel
theorem ef_Po (m : MethodId) (a0 : Addr) : entryFrame m #[(.ref a0)] 1 = mkF m 0 #[.val (.ref a0)] [] := by first | (simp [entryFrame, mkF, argsToLocals, Value.category]; done) | rfl
def QPo (Z : State) (a0 : Addr) (po : Int32) (h0 : Heap) (n0 : Nat) (v : Option Value) (h : Heap) (L : List Loc) : Prop := v = some (.int po) ∧ Fr n0 L ∧ h = h0
set_option maxRecDepth 65536 in
set_option maxHeartbeats 40000000 in
theorem rmPo (l : Launch) (Z : State) (aV : Array Value) (hw : ∀ d ∈ tables_1, d.before aV Z = true) (ws : List Jvm.Cond) (a0 : Addr) (po : Int32) (h0 : Heap) (n0 : Nat) (Zn : n0 ≤ h0.size) (F_p : Fld Z h0 a0 "com/example/keys_to_structures/keystostructures/store/TimedEntry" "position" "I" (.int po)) :
    MetFree l (⟨"com/example/keys_to_structures/keystostructures/store/TimedEntry", "position", "()I"⟩ : MethodName) (head1 (Jvm.Cond.code (⟨"com/example/keys_to_structures/keystostructures/store/TimedEntry", "position", "()I"⟩ : MethodName) prog_51_method_4_code 1 (some .int) :: ws) ({ frames := 0, cells := 0, slots := 0, locals := 0 } : Room)) (fun a U => a = #[(.ref a0)] ∧ Z.Warmed39 U.vm ∧ U.heap = h0) (fun _ _ _ _ _ => True) (fun _ U o U' => ∃ v L, o = .returned v ∧ QPo Z a0 po h0 n0 v U'.heap L ∧ FrameEnd U o U' L ({ frames := 0, cells := 0, slots := 0, locals := 0 } : Room).cells ({ frames := 0, cells := 0, slots := 0, locals := 0 } : Room).slots) := by
  refine MetFree.of_bodySF (plainFor_of_name pn_2) hisR ?_
  intro p e s m args below meth c s₁ Bd hml0 hP hK
  obtain ⟨rfl, hZ, hh⟩ := hP
  have hx := Bd.exec
  have hby := Bd.bytes
  have hml : c.maxLocals = 1 := hml0
  have hown : s.vm.findClass "com/example/keys_to_structures/keystostructures/store/TimedEntry" = some m.cls := findClass_of_methodNamed Bd.named
  have hnm := (name_of_methodNamed Bd.named Bd.method).1
  have X0 : Stand p l e ({ frames := 0, cells := 0, slots := 0, locals := 0 } : Room) s m #[(.ref a0)] below meth c s₁ [] 0 0 := Stand.of_body Bd
  have e0 : s₁.heap = h0 := by rw [← hh, Bd.state]; rfl
  have N0 := Fr.nil n0
  have Kp := Keep.refl h0 []
  show Run p e below (Ends s (QPo Z a0 po h0 n0) ({ frames := 0, cells := 0, slots := 0, locals := 0 } : Room).cells ({ frames := 0, cells := 0, slots := 0, locals := 0 } : Room).slots) _
  refine Run.st (S' := s₁.setTop (mkF m 0 #[.val (.ref a0)] [])) (fun t k => castTop (ef_Po m a0) k) ?_
  refine Run.st (S' := s₁.setTop (mkF m 1 #[.val (.ref a0)] [(.ref a0)])) (fun _ k => XS.aloadN X0.here hx rfl (hb hby d13_0) rfl rfl k) ?_
  obtain ⟨T1, X1, e1, st1⟩ := getF X0 hx hZ hown (host := "") (Or.inl (hw _ (List.mem_of_getElem? (i := 72) rfl))) Via.refl e0 F_p (g := (mkF m 1 #[.val (.ref a0)] [(.ref a0)])) rfl rfl (hb hby d13_1)
  refine Run.st (S' := T1.setTop (mkF m 4 #[.val (.ref a0)] [(.int po)])) (fun _ k => st1 _ k) ?_
  refine Run.out X1 hx Bd.notSynchronized Bd.returns rfl (Or.inl ⟨rfl, by simp, _, rfl⟩) (hb hby d13_4) (by decide) (by decide) ?_
  rw [e1]
  exact ⟨rfl, N0, rfl⟩
theorem d12_0 : decode prog_51_method_5_code 0 = .ok (.aload_n 0, 1) := by decide +kernel
theorem d12_1 : decode prog_51_method_5_code 1 = .ok (.iload_n 1, 1) := by decide +kernel
theorem d12_2 : decode prog_51_method_5_code 2 = .ok (.putfield 13, 3) := by decide +kernel
theorem d12_5 : decode prog_51_method_5_code 5 = .ok (.return_, 1) := by decide +kernel
theorem ef_SPo (m : MethodId) (a0 : Addr) (p1 : Int32) : entryFrame m #[(.ref a0), (.int p1)] 2 = mkF m 0 #[.val (.ref a0), .val (.int p1)] [] := by first | (simp [entryFrame, mkF, argsToLocals, Value.category]; done) | rfl
def QSPo (Z : State) (a0 : Addr) (p1 : Int32) (po : Int32) (dl : Int64) (h0 : Heap) (n0 : Nat) (v : Option Value) (h : Heap) (L : List Loc) : Prop := v = none ∧ Fr n0 L ∧ Keep h0 h [a0] ∧ Exa Z h a0 "com/example/keys_to_structures/keystostructures/store/TimedEntry" ∧ Fld Z h a0 "com/example/keys_to_structures/keystostructures/store/TimedEntry" "deadline" "J" (.long dl) ∧ Fld Z h a0 "com/example/keys_to_structures/keystostructures/store/TimedEntry" "position" "I" (.int p1)
set_option maxRecDepth 65536 in
set_option maxHeartbeats 40000000 in
theorem rmSPo (l : Launch) (Z : State) (aV : Array Value) (hw : ∀ d ∈ tables_1, d.before aV Z = true) (ws : List Jvm.Cond) (a0 : Addr) (p1 : Int32) (po : Int32) (dl : Int64) (h0 : Heap) (n0 : Nat) (Zn : n0 ≤ h0.size) (g_a0 : n0 ≤ a0) (E_a0 : Exa Z h0 a0 "com/example/keys_to_structures/keystostructures/store/TimedEntry") (F_d : Fld Z h0 a0 "com/example/keys_to_structures/keystostructures/store/TimedEntry" "deadline" "J" (.long dl)) (F_p : Fld Z h0 a0 "com/example/keys_to_structures/keystostructures/store/TimedEntry" "position" "I" (.int po)) :
    MetFree l (⟨"com/example/keys_to_structures/keystostructures/store/TimedEntry", "setPosition", "(I)V"⟩ : MethodName) (head1 (Jvm.Cond.code (⟨"com/example/keys_to_structures/keystostructures/store/TimedEntry", "setPosition", "(I)V"⟩ : MethodName) prog_51_method_5_code 2 none :: ws) ({ frames := 0, cells := 0, slots := 0, locals := 0 } : Room)) (fun a U => a = #[(.ref a0), (.int p1)] ∧ Z.Warmed39 U.vm ∧ U.heap = h0) (fun _ _ _ _ _ => True) (fun _ U o U' => ∃ v L, o = .returned v ∧ QSPo Z a0 p1 po dl h0 n0 v U'.heap L ∧ FrameEnd U o U' L ({ frames := 0, cells := 0, slots := 0, locals := 0 } : Room).cells ({ frames := 0, cells := 0, slots := 0, locals := 0 } : Room).slots) := by
  refine MetFree.of_bodySF (plainFor_of_name pn_2) hisR ?_
  intro p e s m args below meth c s₁ Bd hml0 hP hK
  obtain ⟨rfl, hZ, hh⟩ := hP
  have hx := Bd.exec
  have hby := Bd.bytes
  have hml : c.maxLocals = 2 := hml0
  have hown : s.vm.findClass "com/example/keys_to_structures/keystostructures/store/TimedEntry" = some m.cls := findClass_of_methodNamed Bd.named
  have hnm := (name_of_methodNamed Bd.named Bd.method).1
  have X0 : Stand p l e ({ frames := 0, cells := 0, slots := 0, locals := 0 } : Room) s m #[(.ref a0), (.int p1)] below meth c s₁ [] 0 0 := Stand.of_body Bd
  have e0 : s₁.heap = h0 := by rw [← hh, Bd.state]; rfl
  have N0 := Fr.nil n0
  have Kp := Keep.refl h0 [a0]
  show Run p e below (Ends s (QSPo Z a0 p1 po dl h0 n0) ({ frames := 0, cells := 0, slots := 0, locals := 0 } : Room).cells ({ frames := 0, cells := 0, slots := 0, locals := 0 } : Room).slots) _
  refine Run.st (S' := s₁.setTop (mkF m 0 #[.val (.ref a0), .val (.int p1)] [])) (fun t k => castTop (ef_SPo m a0 p1) k) ?_
  refine Run.st (S' := s₁.setTop (mkF m 2 #[.val (.ref a0), .val (.int p1)] [(.int p1), (.ref a0)])) (fun _ k => XS.aloadN X0.here hx rfl (hb hby d12_0) rfl rfl (XS.iloadN X0.here hx rfl (hb hby d12_1) rfl k)) ?_
  obtain ⟨T1, h1, X1, e1, W1, st1⟩ := putF X0 hx hZ hown (host := "") (Or.inl (hw _ (List.mem_of_getElem? (i := 72) rfl))) Via.refl e0 F_p E_a0 (Or.inl (hw _ (List.mem_of_getElem? (i := 73) rfl))) (hw _ (List.mem_of_getElem? (i := 14) rfl)) (ty := .int) (by decide) rfl rfl (g := (mkF m 2 #[.val (.ref a0), .val (.int p1)] [(.int p1), (.ref a0)])) rfl rfl (hb hby d12_2)
  have F_p := F_p.same W1
  have E_a0 := E_a0.wr W1
  have F_d := F_d.other W1 (Or.inr (slot_ne (Or.inl (hw _ (List.mem_of_getElem? (i := 40) rfl))) (Or.inl (hw _ (List.mem_of_getElem? (i := 73) rfl))) (by decide) (t := .long) (t' := .int) (by decide) (by decide)))
  have N1 := Fr.snoc X1 N0 g_a0
  have Kp := Kp.wr W1 (Or.inl (by simp))
  have Zn := Nat.le_trans Zn (Nat.le_of_eq W1.size.symm)
  refine Run.st (S' := T1.setTop (mkF m 5 #[.val (.ref a0), .val (.int p1)] [])) (fun _ k => st1 _ k) ?_
  refine Run.outV X1 hx Bd.notSynchronized Bd.returns (hb hby d12_5) (by decide) (by decide) ?_
  rw [e1]
  exact ⟨rfl, N1, Kp, E_a0, F_d, F_p⟩
theorem pd_2 : parseMethodDescriptor "(I)V" = some ⟨[.int], none⟩ := by decide +kernel
theorem d11_0 : decode prog_43_method_9_code 0 = .ok (.aload_n 0, 1) := by decide +kernel
theorem d11_1 : decode prog_43_method_9_code 1 = .ok (.getfield 11, 3) := by decide +kernel
theorem d11_4 : decode prog_43_method_9_code 4 = .ok (.iload_n 2, 1) := by decide +kernel
theorem d11_5 : decode prog_43_method_9_code 5 = .ok (.aload_n 1, 1) := by decide +kernel
theorem d11_6 : decode prog_43_method_9_code 6 = .ok (.aastore, 1) := by decide +kernel
theorem d11_7 : decode prog_43_method_9_code 7 = .ok (.aload_n 1, 1) := by decide +kernel
theorem d11_8 : decode prog_43_method_9_code 8 = .ok (.iload_n 2, 1) := by decide +kernel
theorem d11_9 : decode prog_43_method_9_code 9 = .ok (.invokevirtual 41, 3) := by decide +kernel
theorem d11_12 : decode prog_43_method_9_code 12 = .ok (.return_, 1) := by decide +kernel
theorem pn_3 : plainName "com/example/keys_to_structures/keystostructures/store/ExpiryQueue" = true := by first | (simp [plainName, overriddenIn]; done) | decide +kernel
theorem ef_Pl0 (m : MethodId) (a0 : Addr) (a1 : Addr) : entryFrame m #[(.ref a0), (.ref a1), (.int (0 : Int32))] 3 = mkF m 0 #[.val (.ref a0), .val (.ref a1), .val (.int (0 : Int32))] [] := by first | (simp [entryFrame, mkF, argsToLocals, Value.category]; done) | rfl
def QPl0 (Z : State) (a0 : Addr) (a1 : Addr) (hp : Addr) (kA : ClassId) (v0 : Value) (v1 : Value) (v2 : Value) (po : Int32) (dl : Int64) (h0 : Heap) (n0 : Nat) (v : Option Value) (h : Heap) (L : List Loc) : Prop := v = none ∧ Fr n0 L ∧ Keep h0 h [hp, a1] ∧ Arv Z h hp kA (.object "com/example/keys_to_structures/keystostructures/store/TimedEntry") (16 : Int32) [(.ref a1), v1, v2, .null, .null, .null, .null, .null, .null, .null, .null, .null, .null, .null, .null, .null] .null ∧ Exa Z h a1 "com/example/keys_to_structures/keystostructures/store/TimedEntry" ∧ Fld Z h a1 "com/example/keys_to_structures/keystostructures/store/TimedEntry" "deadline" "J" (.long dl) ∧ Fld Z h a1 "com/example/keys_to_structures/keystostructures/store/TimedEntry" "position" "I" (.int (0 : Int32))
set_option maxRecDepth 65536 in
set_option maxHeartbeats 40000000 in
theorem rmPl0 (l : Launch) (Z : State) (aV : Array Value) (hw : ∀ d ∈ tables_1, d.before aV Z = true) (ws : List Jvm.Cond) (a0 : Addr) (a1 : Addr) (hp : Addr) (kA : ClassId) (v0 : Value) (v1 : Value) (v2 : Value) (po : Int32) (dl : Int64) (h0 : Heap) (n0 : Nat) (Zn : n0 ≤ h0.size) (g_hp : n0 ≤ hp) (g_a1 : n0 ≤ a1) (O_kA : Ovr Z kA "com/example/keys_to_structures/keystostructures/store/TimedEntry") (E_a0 : Exa Z h0 a0 "com/example/keys_to_structures/keystostructures/store/ExpiryQueue") (F_heap : Fld Z h0 a0 "com/example/keys_to_structures/keystostructures/store/ExpiryQueue" "heap" "[Lcom/example/keys_to_structures/keystostructures/store/TimedEntry;" (.ref hp)) (V_hp : Arv Z h0 hp kA (.object "com/example/keys_to_structures/keystostructures/store/TimedEntry") (16 : Int32) [v0, v1, v2, .null, .null, .null, .null, .null, .null, .null, .null, .null, .null, .null, .null, .null] .null) (E_a1 : Exa Z h0 a1 "com/example/keys_to_structures/keystostructures/store/TimedEntry") (F_d_a1 : Fld Z h0 a1 "com/example/keys_to_structures/keystostructures/store/TimedEntry" "deadline" "J" (.long dl)) (F_p_a1 : Fld Z h0 a1 "com/example/keys_to_structures/keystostructures/store/TimedEntry" "position" "I" (.int po)) (ne_a0__hp : a0 ≠ hp) (ne_a0__a1 : a0 ≠ a1) (ne_hp__a1 : hp ≠ a1) :
    MetFree l (⟨"com/example/keys_to_structures/keystostructures/store/ExpiryQueue", "place", "(Lcom/example/keys_to_structures/keystostructures/store/TimedEntry;I)V"⟩ : MethodName) (head1 (Jvm.Cond.code (⟨"com/example/keys_to_structures/keystostructures/store/ExpiryQueue", "place", "(Lcom/example/keys_to_structures/keystostructures/store/TimedEntry;I)V"⟩ : MethodName) prog_43_method_9_code 3 none :: ws) ({ frames := 1, cells := 0, slots := 0, locals := 13 } : Room)) (fun a U => a = #[(.ref a0), (.ref a1), (.int (0 : Int32))] ∧ Z.Warmed39 U.vm ∧ U.heap = h0) (fun _ _ _ _ _ => True) (fun _ U o U' => ∃ v L, o = .returned v ∧ QPl0 Z a0 a1 hp kA v0 v1 v2 po dl h0 n0 v U'.heap L ∧ FrameEnd U o U' L ({ frames := 1, cells := 0, slots := 0, locals := 13 } : Room).cells ({ frames := 1, cells := 0, slots := 0, locals := 13 } : Room).slots) := by
  refine MetFree.of_bodySF (plainFor_of_name pn_3) hisR ?_
  intro p e s m args below meth c s₁ Bd hml0 hP hK
  obtain ⟨rfl, hZ, hh⟩ := hP
  have hx := Bd.exec
  have hby := Bd.bytes
  have hml : c.maxLocals = 3 := hml0
  have hown : s.vm.findClass "com/example/keys_to_structures/keystostructures/store/ExpiryQueue" = some m.cls := findClass_of_methodNamed Bd.named
  have hnm := (name_of_methodNamed Bd.named Bd.method).1
  have X0 : Stand p l e ({ frames := 1, cells := 0, slots := 0, locals := 13 } : Room) s m #[(.ref a0), (.ref a1), (.int (0 : Int32))] below meth c s₁ [] 0 0 := Stand.of_body Bd
  have e0 : s₁.heap = h0 := by rw [← hh, Bd.state]; rfl
  have N0 := Fr.nil n0
  have Kp := Keep.refl h0 [hp, a1]
  show Run p e below (Ends s (QPl0 Z a0 a1 hp kA v0 v1 v2 po dl h0 n0) ({ frames := 1, cells := 0, slots := 0, locals := 13 } : Room).cells ({ frames := 1, cells := 0, slots := 0, locals := 13 } : Room).slots) _
  refine Run.st (S' := s₁.setTop (mkF m 0 #[.val (.ref a0), .val (.ref a1), .val (.int (0 : Int32))] [])) (fun t k => castTop (ef_Pl0 m a0 a1) k) ?_
  refine Run.st (S' := s₁.setTop (mkF m 1 #[.val (.ref a0), .val (.ref a1), .val (.int (0 : Int32))] [(.ref a0)])) (fun _ k => XS.aloadN X0.here hx rfl (hb hby d11_0) rfl rfl k) ?_
  obtain ⟨T1, X1, e1, st1⟩ := getF X0 hx hZ hown (host := "") (Or.inl (hw _ (List.mem_of_getElem? (i := 11) rfl))) Via.refl e0 F_heap (g := (mkF m 1 #[.val (.ref a0), .val (.ref a1), .val (.int (0 : Int32))] [(.ref a0)])) rfl rfl (hb hby d11_1)
  refine Run.st (S' := T1.setTop (mkF m 6 #[.val (.ref a0), .val (.ref a1), .val (.int (0 : Int32))] [(.ref a1), (.int (0 : Int32)), (.ref hp)])) (fun _ k => st1 _ (XS.iloadN X1.here hx rfl (hb hby d11_4) rfl (XS.aloadN X1.here hx rfl (hb hby d11_5) rfl rfl k))) ?_
  obtain ⟨cl2, Ar2, qa2, Sa2, Na2, Ha2, Ga2⟩ := V_hp
  have hin2 : ¬ ((0 : Int32) < 0 ∨ cl2.slots.size ≤ ((0 : Int32)).toNatClampNeg) := inb_of Sa2 ⟨by decide, by decide⟩
  obtain ⟨T2, h2, X2, e2, W2, st2⟩ := stR X1 hx hZ e1 Ar2 (j := (0 : Int32)) hin2 rfl (Sto.ofV Ar2 qa2 O_kA (Ins.self E_a1)) (g := (mkF m 6 #[.val (.ref a0), .val (.ref a1), .val (.int (0 : Int32))] [(.ref a1), (.int (0 : Int32)), (.ref hp)])) rfl rfl (hb hby d11_6)
  have V_hp := Arv.set Ar2 qa2 Sa2 Na2 Ha2 Ga2 rfl W2 0 rfl (Nat.le_of_ble_eq_true rfl)
  have V_hp : Arv Z h2 hp kA (.object "com/example/keys_to_structures/keystostructures/store/TimedEntry") (16 : Int32) [(.ref a1), v1, v2, .null, .null, .null, .null, .null, .null, .null, .null, .null, .null, .null, .null, .null] .null := V_hp
  have E_a0 := E_a0.wr W2
  have F_heap := F_heap.other W2 (Or.inl ne_a0__hp)
  have E_a1 := E_a1.wr W2
  have F_d_a1 := F_d_a1.other W2 (Or.inl (Ne.symm ne_hp__a1))
  have F_p_a1 := F_p_a1.other W2 (Or.inl (Ne.symm ne_hp__a1))
  have N2 := Fr.snoc X2 N0 g_hp
  have Kp := Kp.wr W2 (Or.inl (by simp))
  have Zn := Nat.le_trans Zn (Nat.le_of_eq W2.size.symm)
  refine Run.st (S' := T2.setTop (mkF m 9 #[.val (.ref a0), .val (.ref a1), .val (.int (0 : Int32))] [(.int (0 : Int32)), (.ref a1)])) (fun _ k => st2 _ (XS.aloadN X2.here hx rfl (hb hby d11_7) rfl rfl (XS.iloadN X2.here hx rfl (hb hby d11_8) rfl k))) ?_
  obtain ⟨cq3, kq3, q3a, q3b, q3c⟩ := isOf hZ e2 E_a1
  obtain ⟨_, _, ⟨T3, L3, k3, n3⟩, -, X3, ⟨Lc3, hQ3, l3, y3, z3⟩, st3⟩ := X2.virtualBack hx (y := (⟨"com/example/keys_to_structures/keystostructures/store/TimedEntry", "setPosition", "(I)V"⟩ : MethodName)) (z := (⟨"com/example/keys_to_structures/keystostructures/store/TimedEntry", "setPosition", "(I)V"⟩ : MethodName)) hown (mvT hZ (hw _ (List.mem_of_getElem? (i := 67) rfl))) (mvT hZ (hw _ (List.mem_of_getElem? (i := 68) rfl))) (notFace_of_selects (args := #[]) (mvT hZ (hw _ (List.mem_of_getElem? (i := 70) rfl)))) (mvT hZ (hw _ (List.mem_of_getElem? (i := 70) rfl))) (mvT hZ (hw _ (List.mem_of_getElem? (i := 69) rfl))) (by decide) (backOf (W := 0) (rmSPo l Z aV hw [] a1 (0 : Int32) po dl h2 n0 Zn g_a1 E_a1 F_d_a1 F_p_a1) hZ (hw _ (List.mem_of_getElem? (i := 71) rfl)) (hw _ (List.mem_of_getElem? (i := 15) rfl)) (by decide) (by decide)) q3a q3c (g := (mkF m 9 #[.val (.ref a0), .val (.ref a1), .val (.int (0 : Int32))] [(.int (0 : Int32)), (.ref a1)])) rfl (by rw [hml]; rfl) (Steps.refl _) (argsL := [(.int (0 : Int32))]) (rest := []) (lenOf pd_2 rfl) rfl (by show 2 * 0 + _ ≤ _; exact Nat.le_of_eq rfl) (hb hby d11_9) (fun _ _ => ⟨rfl, e2, (by decide : 0 + 0 ≤ _), (by decide : 0 + 0 ≤ _)⟩)
  dsimp only [Pt.U, Pt.locs, Pt.cells, Pt.slots] at X3 l3 y3 z3 st3 hQ3
  subst l3 y3 z3
  obtain ⟨rfl, N3q, K3, q3_0, q3_1, q3_2⟩ := hQ3
  have E_a0 := E_a0.keep K3
  have F_heap := F_heap.keep K3 (ninS ne_a0__a1 nin0)
  have V_hp := V_hp.keep K3 (ninS ne_hp__a1 nin0)
  have E_a1 := q3_0
  have F_d_a1 := q3_1
  have F_p_a1 := q3_2
  have Kp := Kp.trans K3 (allS (Or.inl (by simp)) all0)
  have Zn := Nat.le_trans Zn K3.1
  have N3 := Fr.app N2 N3q
  refine Run.st (S' := T3.setTop (mkF m 12 #[.val (.ref a0), .val (.ref a1), .val (.int (0 : Int32))] [])) (fun _ k => st3.trans k) ?_
  refine Run.outV X3 hx Bd.notSynchronized Bd.returns (hb hby d11_12) (by decide) (by decide) ?_
  exact ⟨rfl, N3, Kp, V_hp, E_a1, F_d_a1, F_p_a1⟩
theorem ef_Pl1 (m : MethodId) (a0 : Addr) (a1 : Addr) : entryFrame m #[(.ref a0), (.ref a1), (.int (1 : Int32))] 3 = mkF m 0 #[.val (.ref a0), .val (.ref a1), .val (.int (1 : Int32))] [] := by first | (simp [entryFrame, mkF, argsToLocals, Value.category]; done) | rfl
def QPl1 (Z : State) (a0 : Addr) (a1 : Addr) (hp : Addr) (kA : ClassId) (v0 : Value) (v1 : Value) (v2 : Value) (po : Int32) (dl : Int64) (h0 : Heap) (n0 : Nat) (v : Option Value) (h : Heap) (L : List Loc) : Prop := v = none ∧ Fr n0 L ∧ Keep h0 h [hp, a1] ∧ Arv Z h hp kA (.object "com/example/keys_to_structures/keystostructures/store/TimedEntry") (16 : Int32) [v0, (.ref a1), v2, .null, .null, .null, .null, .null, .null, .null, .null, .null, .null, .null, .null, .null] .null ∧ Exa Z h a1 "com/example/keys_to_structures/keystostructures/store/TimedEntry" ∧ Fld Z h a1 "com/example/keys_to_structures/keystostructures/store/TimedEntry" "deadline" "J" (.long dl) ∧ Fld Z h a1 "com/example/keys_to_structures/keystostructures/store/TimedEntry" "position" "I" (.int (1 : Int32))
set_option maxRecDepth 65536 in
set_option maxHeartbeats 40000000 in
theorem rmPl1 (l : Launch) (Z : State) (aV : Array Value) (hw : ∀ d ∈ tables_1, d.before aV Z = true) (ws : List Jvm.Cond) (a0 : Addr) (a1 : Addr) (hp : Addr) (kA : ClassId) (v0 : Value) (v1 : Value) (v2 : Value) (po : Int32) (dl : Int64) (h0 : Heap) (n0 : Nat) (Zn : n0 ≤ h0.size) (g_hp : n0 ≤ hp) (g_a1 : n0 ≤ a1) (O_kA : Ovr Z kA "com/example/keys_to_structures/keystostructures/store/TimedEntry") (E_a0 : Exa Z h0 a0 "com/example/keys_to_structures/keystostructures/store/ExpiryQueue") (F_heap : Fld Z h0 a0 "com/example/keys_to_structures/keystostructures/store/ExpiryQueue" "heap" "[Lcom/example/keys_to_structures/keystostructures/store/TimedEntry;" (.ref hp)) (V_hp : Arv Z h0 hp kA (.object "com/example/keys_to_structures/keystostructures/store/TimedEntry") (16 : Int32) [v0, v1, v2, .null, .null, .null, .null, .null, .null, .null, .null, .null, .null, .null, .null, .null] .null) (E_a1 : Exa Z h0 a1 "com/example/keys_to_structures/keystostructures/store/TimedEntry") (F_d_a1 : Fld Z h0 a1 "com/example/keys_to_structures/keystostructures/store/TimedEntry" "deadline" "J" (.long dl)) (F_p_a1 : Fld Z h0 a1 "com/example/keys_to_structures/keystostructures/store/TimedEntry" "position" "I" (.int po)) (ne_a0__hp : a0 ≠ hp) (ne_a0__a1 : a0 ≠ a1) (ne_hp__a1 : hp ≠ a1) :
    MetFree l (⟨"com/example/keys_to_structures/keystostructures/store/ExpiryQueue", "place", "(Lcom/example/keys_to_structures/keystostructures/store/TimedEntry;I)V"⟩ : MethodName) (head1 (Jvm.Cond.code (⟨"com/example/keys_to_structures/keystostructures/store/ExpiryQueue", "place", "(Lcom/example/keys_to_structures/keystostructures/store/TimedEntry;I)V"⟩ : MethodName) prog_43_method_9_code 3 none :: ws) ({ frames := 1, cells := 0, slots := 0, locals := 13 } : Room)) (fun a U => a = #[(.ref a0), (.ref a1), (.int (1 : Int32))] ∧ Z.Warmed39 U.vm ∧ U.heap = h0) (fun _ _ _ _ _ => True) (fun _ U o U' => ∃ v L, o = .returned v ∧ QPl1 Z a0 a1 hp kA v0 v1 v2 po dl h0 n0 v U'.heap L ∧ FrameEnd U o U' L ({ frames := 1, cells := 0, slots := 0, locals := 13 } : Room).cells ({ frames := 1, cells := 0, slots := 0, locals := 13 } : Room).slots) := by
  refine MetFree.of_bodySF (plainFor_of_name pn_3) hisR ?_
  intro p e s m args below meth c s₁ Bd hml0 hP hK
  obtain ⟨rfl, hZ, hh⟩ := hP
  have hx := Bd.exec
  have hby := Bd.bytes
  have hml : c.maxLocals = 3 := hml0
  have hown : s.vm.findClass "com/example/keys_to_structures/keystostructures/store/ExpiryQueue" = some m.cls := findClass_of_methodNamed Bd.named
  have hnm := (name_of_methodNamed Bd.named Bd.method).1
  have X0 : Stand p l e ({ frames := 1, cells := 0, slots := 0, locals := 13 } : Room) s m #[(.ref a0), (.ref a1), (.int (1 : Int32))] below meth c s₁ [] 0 0 := Stand.of_body Bd
  have e0 : s₁.heap = h0 := by rw [← hh, Bd.state]; rfl
  have N0 := Fr.nil n0
  have Kp := Keep.refl h0 [hp, a1]
  show Run p e below (Ends s (QPl1 Z a0 a1 hp kA v0 v1 v2 po dl h0 n0) ({ frames := 1, cells := 0, slots := 0, locals := 13 } : Room).cells ({ frames := 1, cells := 0, slots := 0, locals := 13 } : Room).slots) _
  refine Run.st (S' := s₁.setTop (mkF m 0 #[.val (.ref a0), .val (.ref a1), .val (.int (1 : Int32))] [])) (fun t k => castTop (ef_Pl1 m a0 a1) k) ?_
  refine Run.st (S' := s₁.setTop (mkF m 1 #[.val (.ref a0), .val (.ref a1), .val (.int (1 : Int32))] [(.ref a0)])) (fun _ k => XS.aloadN X0.here hx rfl (hb hby d11_0) rfl rfl k) ?_
  obtain ⟨T1, X1, e1, st1⟩ := getF X0 hx hZ hown (host := "") (Or.inl (hw _ (List.mem_of_getElem? (i := 11) rfl))) Via.refl e0 F_heap (g := (mkF m 1 #[.val (.ref a0), .val (.ref a1), .val (.int (1 : Int32))] [(.ref a0)])) rfl rfl (hb hby d11_1)
  refine Run.st (S' := T1.setTop (mkF m 6 #[.val (.ref a0), .val (.ref a1), .val (.int (1 : Int32))] [(.ref a1), (.int (1 : Int32)), (.ref hp)])) (fun _ k => st1 _ (XS.iloadN X1.here hx rfl (hb hby d11_4) rfl (XS.aloadN X1.here hx rfl (hb hby d11_5) rfl rfl k))) ?_
  obtain ⟨cl2, Ar2, qa2, Sa2, Na2, Ha2, Ga2⟩ := V_hp
  have hin2 : ¬ ((1 : Int32) < 0 ∨ cl2.slots.size ≤ ((1 : Int32)).toNatClampNeg) := inb_of Sa2 ⟨by decide, by decide⟩
  obtain ⟨T2, h2, X2, e2, W2, st2⟩ := stR X1 hx hZ e1 Ar2 (j := (1 : Int32)) hin2 rfl (Sto.ofV Ar2 qa2 O_kA (Ins.self E_a1)) (g := (mkF m 6 #[.val (.ref a0), .val (.ref a1), .val (.int (1 : Int32))] [(.ref a1), (.int (1 : Int32)), (.ref hp)])) rfl rfl (hb hby d11_6)
  have V_hp := Arv.set Ar2 qa2 Sa2 Na2 Ha2 Ga2 rfl W2 1 rfl (Nat.le_of_ble_eq_true rfl)
  have V_hp : Arv Z h2 hp kA (.object "com/example/keys_to_structures/keystostructures/store/TimedEntry") (16 : Int32) [v0, (.ref a1), v2, .null, .null, .null, .null, .null, .null, .null, .null, .null, .null, .null, .null, .null] .null := V_hp
  have E_a0 := E_a0.wr W2
  have F_heap := F_heap.other W2 (Or.inl ne_a0__hp)
  have E_a1 := E_a1.wr W2
  have F_d_a1 := F_d_a1.other W2 (Or.inl (Ne.symm ne_hp__a1))
  have F_p_a1 := F_p_a1.other W2 (Or.inl (Ne.symm ne_hp__a1))
  have N2 := Fr.snoc X2 N0 g_hp
  have Kp := Kp.wr W2 (Or.inl (by simp))
  have Zn := Nat.le_trans Zn (Nat.le_of_eq W2.size.symm)
  refine Run.st (S' := T2.setTop (mkF m 9 #[.val (.ref a0), .val (.ref a1), .val (.int (1 : Int32))] [(.int (1 : Int32)), (.ref a1)])) (fun _ k => st2 _ (XS.aloadN X2.here hx rfl (hb hby d11_7) rfl rfl (XS.iloadN X2.here hx rfl (hb hby d11_8) rfl k))) ?_
  obtain ⟨cq3, kq3, q3a, q3b, q3c⟩ := isOf hZ e2 E_a1
  obtain ⟨_, _, ⟨T3, L3, k3, n3⟩, -, X3, ⟨Lc3, hQ3, l3, y3, z3⟩, st3⟩ := X2.virtualBack hx (y := (⟨"com/example/keys_to_structures/keystostructures/store/TimedEntry", "setPosition", "(I)V"⟩ : MethodName)) (z := (⟨"com/example/keys_to_structures/keystostructures/store/TimedEntry", "setPosition", "(I)V"⟩ : MethodName)) hown (mvT hZ (hw _ (List.mem_of_getElem? (i := 67) rfl))) (mvT hZ (hw _ (List.mem_of_getElem? (i := 68) rfl))) (notFace_of_selects (args := #[]) (mvT hZ (hw _ (List.mem_of_getElem? (i := 70) rfl)))) (mvT hZ (hw _ (List.mem_of_getElem? (i := 70) rfl))) (mvT hZ (hw _ (List.mem_of_getElem? (i := 69) rfl))) (by decide) (backOf (W := 0) (rmSPo l Z aV hw [] a1 (1 : Int32) po dl h2 n0 Zn g_a1 E_a1 F_d_a1 F_p_a1) hZ (hw _ (List.mem_of_getElem? (i := 71) rfl)) (hw _ (List.mem_of_getElem? (i := 15) rfl)) (by decide) (by decide)) q3a q3c (g := (mkF m 9 #[.val (.ref a0), .val (.ref a1), .val (.int (1 : Int32))] [(.int (1 : Int32)), (.ref a1)])) rfl (by rw [hml]; rfl) (Steps.refl _) (argsL := [(.int (1 : Int32))]) (rest := []) (lenOf pd_2 rfl) rfl (by show 2 * 0 + _ ≤ _; exact Nat.le_of_eq rfl) (hb hby d11_9) (fun _ _ => ⟨rfl, e2, (by decide : 0 + 0 ≤ _), (by decide : 0 + 0 ≤ _)⟩)
  dsimp only [Pt.U, Pt.locs, Pt.cells, Pt.slots] at X3 l3 y3 z3 st3 hQ3
  subst l3 y3 z3
  obtain ⟨rfl, N3q, K3, q3_0, q3_1, q3_2⟩ := hQ3
  have E_a0 := E_a0.keep K3
  have F_heap := F_heap.keep K3 (ninS ne_a0__a1 nin0)
  have V_hp := V_hp.keep K3 (ninS ne_hp__a1 nin0)
  have E_a1 := q3_0
  have F_d_a1 := q3_1
  have F_p_a1 := q3_2
  have Kp := Kp.trans K3 (allS (Or.inl (by simp)) all0)
  have Zn := Nat.le_trans Zn K3.1
  have N3 := Fr.app N2 N3q
  refine Run.st (S' := T3.setTop (mkF m 12 #[.val (.ref a0), .val (.ref a1), .val (.int (1 : Int32))] [])) (fun _ k => st3.trans k) ?_
  refine Run.outV X3 hx Bd.notSynchronized Bd.returns (hb hby d11_12) (by decide) (by decide) ?_
  exact ⟨rfl, N3, Kp, V_hp, E_a1, F_d_a1, F_p_a1⟩
theorem pd_3 : parseMethodDescriptor "(Lcom/example/keys_to_structures/keystostructures/store/TimedEntry;I)V" = some ⟨[(.object "com/example/keys_to_structures/keystostructures/store/TimedEntry"), .int], none⟩ := by decide +kernel
theorem d10_0 : decode prog_43_method_7_code 0 = .ok (.iload_n 2, 1) := by decide +kernel
theorem d10_1 : decode prog_43_method_7_code 1 = .ok (.istore_n 3, 1) := by decide +kernel
theorem d10_2 : decode prog_43_method_7_code 2 = .ok (.iload_n 3, 1) := by decide +kernel
theorem d10_3 : decode prog_43_method_7_code 3 = .ok (.ifCond .le 49, 3) := by decide +kernel
theorem d10_52 : decode prog_43_method_7_code 52 = .ok (.aload_n 0, 1) := by decide +kernel
theorem d10_53 : decode prog_43_method_7_code 53 = .ok (.aload_n 1, 1) := by decide +kernel
theorem d10_54 : decode prog_43_method_7_code 54 = .ok (.iload_n 3, 1) := by decide +kernel
theorem d10_55 : decode prog_43_method_7_code 55 = .ok (.invokevirtual 38, 3) := by decide +kernel
theorem d10_58 : decode prog_43_method_7_code 58 = .ok (.return_, 1) := by decide +kernel
theorem ef_Mu0 (m : MethodId) (a0 : Addr) (a1 : Addr) : entryFrame m #[(.ref a0), (.ref a1), (.int (0 : Int32))] 5 = mkF m 0 #[.val (.ref a0), .val (.ref a1), .val (.int (0 : Int32)), .unset, .unset] [] := by first | (simp [entryFrame, mkF, argsToLocals, Value.category]; done) | rfl
def QMu0 (Z : State) (a0 : Addr) (a1 : Addr) (hp : Addr) (kA : ClassId) (v0 : Value) (v1 : Value) (v2 : Value) (da1 : Int64) (pa1 : Int32) (h0 : Heap) (n0 : Nat) (v : Option Value) (h : Heap) (L : List Loc) : Prop := v = none ∧ Fr n0 L ∧ Keep h0 h [hp, a1] ∧ Arv Z h hp kA (.object "com/example/keys_to_structures/keystostructures/store/TimedEntry") (16 : Int32) [(.ref a1), v1, v2, .null, .null, .null, .null, .null, .null, .null, .null, .null, .null, .null, .null, .null] .null ∧ Exa Z h a1 "com/example/keys_to_structures/keystostructures/store/TimedEntry" ∧ Fld Z h a1 "com/example/keys_to_structures/keystostructures/store/TimedEntry" "deadline" "J" (.long da1) ∧ Fld Z h a1 "com/example/keys_to_structures/keystostructures/store/TimedEntry" "position" "I" (.int (0 : Int32))
set_option maxRecDepth 65536 in
set_option maxHeartbeats 40000000 in
theorem rmMu0 (l : Launch) (Z : State) (aV : Array Value) (hw : ∀ d ∈ tables_1, d.before aV Z = true) (ws : List Jvm.Cond) (a0 : Addr) (a1 : Addr) (hp : Addr) (kA : ClassId) (v0 : Value) (v1 : Value) (v2 : Value) (da1 : Int64) (pa1 : Int32) (h0 : Heap) (n0 : Nat) (Zn : n0 ≤ h0.size) (g_hp : n0 ≤ hp) (O_kA : Ovr Z kA "com/example/keys_to_structures/keystostructures/store/TimedEntry") (g_a1 : n0 ≤ a1) (E_a0 : Exa Z h0 a0 "com/example/keys_to_structures/keystostructures/store/ExpiryQueue") (F_heap : Fld Z h0 a0 "com/example/keys_to_structures/keystostructures/store/ExpiryQueue" "heap" "[Lcom/example/keys_to_structures/keystostructures/store/TimedEntry;" (.ref hp)) (V_hp : Arv Z h0 hp kA (.object "com/example/keys_to_structures/keystostructures/store/TimedEntry") (16 : Int32) [v0, v1, v2, .null, .null, .null, .null, .null, .null, .null, .null, .null, .null, .null, .null, .null] .null) (E_a1 : Exa Z h0 a1 "com/example/keys_to_structures/keystostructures/store/TimedEntry") (F_d_a1 : Fld Z h0 a1 "com/example/keys_to_structures/keystostructures/store/TimedEntry" "deadline" "J" (.long da1)) (F_p_a1 : Fld Z h0 a1 "com/example/keys_to_structures/keystostructures/store/TimedEntry" "position" "I" (.int pa1)) (ne_a0__hp : a0 ≠ hp) (ne_a0__a1 : a0 ≠ a1) (ne_hp__a1 : hp ≠ a1) :
    MetFree l (⟨"com/example/keys_to_structures/keystostructures/store/ExpiryQueue", "moveUp", "(Lcom/example/keys_to_structures/keystostructures/store/TimedEntry;I)V"⟩ : MethodName) (head1 (Jvm.Cond.code (⟨"com/example/keys_to_structures/keystostructures/store/ExpiryQueue", "moveUp", "(Lcom/example/keys_to_structures/keystostructures/store/TimedEntry;I)V"⟩ : MethodName) prog_43_method_7_code 5 none :: ws) ({ frames := 2, cells := 0, slots := 0, locals := 27 } : Room)) (fun a U => a = #[(.ref a0), (.ref a1), (.int (0 : Int32))] ∧ Z.Warmed39 U.vm ∧ U.heap = h0) (fun _ _ _ _ _ => True) (fun _ U o U' => ∃ v L, o = .returned v ∧ QMu0 Z a0 a1 hp kA v0 v1 v2 da1 pa1 h0 n0 v U'.heap L ∧ FrameEnd U o U' L ({ frames := 2, cells := 0, slots := 0, locals := 27 } : Room).cells ({ frames := 2, cells := 0, slots := 0, locals := 27 } : Room).slots) := by
  refine MetFree.of_bodySF (plainFor_of_name pn_3) hisR ?_
  intro p e s m args below meth c s₁ Bd hml0 hP hK
  obtain ⟨rfl, hZ, hh⟩ := hP
  have hx := Bd.exec
  have hby := Bd.bytes
  have hml : c.maxLocals = 5 := hml0
  have hown : s.vm.findClass "com/example/keys_to_structures/keystostructures/store/ExpiryQueue" = some m.cls := findClass_of_methodNamed Bd.named
  have hnm := (name_of_methodNamed Bd.named Bd.method).1
  have X0 : Stand p l e ({ frames := 2, cells := 0, slots := 0, locals := 27 } : Room) s m #[(.ref a0), (.ref a1), (.int (0 : Int32))] below meth c s₁ [] 0 0 := Stand.of_body Bd
  have e0 : s₁.heap = h0 := by rw [← hh, Bd.state]; rfl
  have N0 := Fr.nil n0
  have Kp := Keep.refl h0 [hp, a1]
  show Run p e below (Ends s (QMu0 Z a0 a1 hp kA v0 v1 v2 da1 pa1 h0 n0) ({ frames := 2, cells := 0, slots := 0, locals := 27 } : Room).cells ({ frames := 2, cells := 0, slots := 0, locals := 27 } : Room).slots) _
  refine Run.st (S' := s₁.setTop (mkF m 0 #[.val (.ref a0), .val (.ref a1), .val (.int (0 : Int32)), .unset, .unset] [])) (fun t k => castTop (ef_Mu0 m a0 a1) k) ?_
  refine Run.st (S' := s₁.setTop (mkF m 55 #[.val (.ref a0), .val (.ref a1), .val (.int (0 : Int32)), .val (.int (0 : Int32)), .unset] [(.int (0 : Int32)), (.ref a1), (.ref a0)])) (fun _ k => XS.iloadN X0.here hx rfl (hb hby d10_0) rfl (XS.istoreN X0.here hx rfl (hb hby d10_1) rfl (l' := #[.val (.ref a0), .val (.ref a1), .val (.int (0 : Int32)), .val (.int (0 : Int32)), .unset]) rfl (XS.iloadN X0.here hx rfl (hb hby d10_2) rfl (XS.ifYes X0.here hx rfl (pc0 := 3) (pc' := 52) rfl (hb hby d10_3) rfl ((if0 _ _).trans (flt (show ¬ ((0 : Int32) < (0 : Int32)) from (by decide))).2.2.2) (by decide) (by decide) (XS.aloadN X0.here hx rfl (hb hby d10_52) rfl rfl (XS.aloadN X0.here hx rfl (hb hby d10_53) rfl rfl (XS.iloadN X0.here hx rfl (hb hby d10_54) rfl k))))))) ?_
  obtain ⟨cq1, q1, q1'⟩ := E_a0.cell
  obtain ⟨_, _, ⟨T1, L1, k1, n1⟩, -, X1, ⟨Lc1, hQ1, l1, y1, z1⟩, st1⟩ := X0.privateBack hx (y := (⟨"com/example/keys_to_structures/keystostructures/store/ExpiryQueue", "place", "(Lcom/example/keys_to_structures/keystostructures/store/TimedEntry;I)V"⟩ : MethodName)) hown (mvT hZ (hw _ (List.mem_of_getElem? (i := 62) rfl))) (mvT hZ (hw _ (List.mem_of_getElem? (i := 63) rfl))) (selSelf (y := (⟨"com/example/keys_to_structures/keystostructures/store/ExpiryQueue", "place", "(Lcom/example/keys_to_structures/keystostructures/store/TimedEntry;I)V"⟩ : MethodName)) (mvT hZ (hw _ (List.mem_of_getElem? (i := 1) rfl))) (Cond.privateMethod_at (mvP hZ (hw _ (List.mem_of_getElem? (i := 64) rfl)) (args := #[]))) (mvT hZ (hw _ (List.mem_of_getElem? (i := 63) rfl))) (by decide)) (Cond.privateMethod_at (mvP hZ (hw _ (List.mem_of_getElem? (i := 64) rfl)) (args := #[]))) (mvT hZ (hw _ (List.mem_of_getElem? (i := 65) rfl))) (by decide) (backOf (W := 0) (rmPl0 l Z aV hw [] a0 a1 hp kA v0 v1 v2 pa1 da1 h0 n0 Zn g_hp g_a1 O_kA E_a0 F_heap V_hp E_a1 F_d_a1 F_p_a1 ne_a0__hp ne_a0__a1 ne_hp__a1) hZ (hw _ (List.mem_of_getElem? (i := 65) rfl)) (hw _ (List.mem_of_getElem? (i := 2) rfl)) (by decide) (by decide)) (g := (mkF m 55 #[.val (.ref a0), .val (.ref a1), .val (.int (0 : Int32)), .val (.int (0 : Int32)), .unset] [(.int (0 : Int32)), (.ref a1), (.ref a0)])) rfl (by rw [hml]; rfl) (Steps.refl _) (a := a0) (by rw [e0]; exact q1) q1' (argsL := [(.ref a1), (.int (0 : Int32))]) (rest := []) (lenOf pd_3 rfl) rfl (by show 2 * 0 + _ ≤ _; exact Nat.le_of_eq rfl) (hb hby d10_55) (fun _ _ => ⟨rfl, e0, (by decide : 0 + 0 ≤ _), (by decide : 0 + 0 ≤ _)⟩)
  dsimp only [Pt.U, Pt.locs, Pt.cells, Pt.slots] at X1 l1 y1 z1 st1 hQ1
  subst l1 y1 z1
  obtain ⟨rfl, N1q, K1, q1_0, q1_1, q1_2, q1_3⟩ := hQ1
  have E_a0 := E_a0.keep K1
  have F_heap := F_heap.keep K1 (ninS ne_a0__hp (ninS ne_a0__a1 nin0))
  have V_hp := q1_0
  have E_a1 := q1_1
  have F_d_a1 := q1_2
  have F_p_a1 := q1_3
  have Kp := Kp.trans K1 (allS (Or.inl (by simp)) (allS (Or.inl (by simp)) all0))
  have Zn := Nat.le_trans Zn K1.1
  have N1 := Fr.app N0 N1q
  refine Run.st (S' := T1.setTop (mkF m 58 #[.val (.ref a0), .val (.ref a1), .val (.int (0 : Int32)), .val (.int (0 : Int32)), .unset] [])) (fun _ k => st1.trans k) ?_
  refine Run.outV X1 hx Bd.notSynchronized Bd.returns (hb hby d10_58) (by decide) (by decide) ?_
  exact ⟨rfl, N1, Kp, V_hp, E_a1, F_d_a1, F_p_a1⟩
theorem pd_4 : parseMethodDescriptor "()J" = some ⟨[], some .long⟩ := by decide +kernel
theorem d10_6 : decode prog_43_method_7_code 6 = .ok (.iload_n 3, 1) := by decide +kernel
theorem d10_7 : decode prog_43_method_7_code 7 = .ok (.iconst 1, 1) := by decide +kernel
theorem d10_8 : decode prog_43_method_7_code 8 = .ok (.isub, 1) := by decide +kernel
theorem d10_9 : decode prog_43_method_7_code 9 = .ok (.iconst 2, 1) := by decide +kernel
theorem d10_10 : decode prog_43_method_7_code 10 = .ok (.idiv, 1) := by decide +kernel
theorem d10_11 : decode prog_43_method_7_code 11 = .ok (.istore 4, 2) := by decide +kernel
theorem d10_13 : decode prog_43_method_7_code 13 = .ok (.aload_n 0, 1) := by decide +kernel
theorem d10_14 : decode prog_43_method_7_code 14 = .ok (.getfield 11, 3) := by decide +kernel
theorem d10_17 : decode prog_43_method_7_code 17 = .ok (.iload 4, 2) := by decide +kernel
theorem d10_19 : decode prog_43_method_7_code 19 = .ok (.aaload, 1) := by decide +kernel
theorem d10_20 : decode prog_43_method_7_code 20 = .ok (.invokevirtual 34, 3) := by decide +kernel
theorem d10_23 : decode prog_43_method_7_code 23 = .ok (.aload_n 1, 1) := by decide +kernel
theorem d10_24 : decode prog_43_method_7_code 24 = .ok (.invokevirtual 34, 3) := by decide +kernel
theorem d10_27 : decode prog_43_method_7_code 27 = .ok (.lcmp, 1) := by decide +kernel
theorem d10_28 : decode prog_43_method_7_code 28 = .ok (.ifCond .gt 6, 3) := by decide +kernel
theorem d10_31 : decode prog_43_method_7_code 31 = .ok (.goto 21, 3) := by decide +kernel
theorem ef_Mu1 (m : MethodId) (a0 : Addr) (a1 : Addr) : entryFrame m #[(.ref a0), (.ref a1), (.int (1 : Int32))] 5 = mkF m 0 #[.val (.ref a0), .val (.ref a1), .val (.int (1 : Int32)), .unset, .unset] [] := by first | (simp [entryFrame, mkF, argsToLocals, Value.category]; done) | rfl
def QMu1 (Z : State) (a0 : Addr) (a1 : Addr) (hp : Addr) (kA : ClassId) (v1 : Value) (v2 : Value) (da1 : Int64) (pa1 : Int32) (x0 : Addr) (dx0 : Int64) (px0 : Int32) (h0 : Heap) (n0 : Nat) (v : Option Value) (h : Heap) (L : List Loc) : Prop := v = none ∧ Fr n0 L ∧ Keep h0 h [hp, a1] ∧ Arv Z h hp kA (.object "com/example/keys_to_structures/keystostructures/store/TimedEntry") (16 : Int32) [(.ref x0), (.ref a1), v2, .null, .null, .null, .null, .null, .null, .null, .null, .null, .null, .null, .null, .null] .null ∧ Exa Z h a1 "com/example/keys_to_structures/keystostructures/store/TimedEntry" ∧ Fld Z h a1 "com/example/keys_to_structures/keystostructures/store/TimedEntry" "deadline" "J" (.long da1) ∧ Fld Z h a1 "com/example/keys_to_structures/keystostructures/store/TimedEntry" "position" "I" (.int (1 : Int32))
set_option maxRecDepth 65536 in
set_option maxHeartbeats 40000000 in
theorem rmMu1 (l : Launch) (Z : State) (aV : Array Value) (hw : ∀ d ∈ tables_1, d.before aV Z = true) (ws : List Jvm.Cond) (a0 : Addr) (a1 : Addr) (hp : Addr) (kA : ClassId) (v1 : Value) (v2 : Value) (da1 : Int64) (pa1 : Int32) (x0 : Addr) (dx0 : Int64) (px0 : Int32) (h0 : Heap) (n0 : Nat) (Zn : n0 ≤ h0.size) (g_hp : n0 ≤ hp) (O_kA : Ovr Z kA "com/example/keys_to_structures/keystostructures/store/TimedEntry") (g_a1 : n0 ≤ a1) (g_x0 : n0 ≤ x0) (E_a0 : Exa Z h0 a0 "com/example/keys_to_structures/keystostructures/store/ExpiryQueue") (F_heap : Fld Z h0 a0 "com/example/keys_to_structures/keystostructures/store/ExpiryQueue" "heap" "[Lcom/example/keys_to_structures/keystostructures/store/TimedEntry;" (.ref hp)) (V_hp : Arv Z h0 hp kA (.object "com/example/keys_to_structures/keystostructures/store/TimedEntry") (16 : Int32) [(.ref x0), v1, v2, .null, .null, .null, .null, .null, .null, .null, .null, .null, .null, .null, .null, .null] .null) (E_a1 : Exa Z h0 a1 "com/example/keys_to_structures/keystostructures/store/TimedEntry") (F_d_a1 : Fld Z h0 a1 "com/example/keys_to_structures/keystostructures/store/TimedEntry" "deadline" "J" (.long da1)) (F_p_a1 : Fld Z h0 a1 "com/example/keys_to_structures/keystostructures/store/TimedEntry" "position" "I" (.int pa1)) (E_x0 : Exa Z h0 x0 "com/example/keys_to_structures/keystostructures/store/TimedEntry") (F_d_x0 : Fld Z h0 x0 "com/example/keys_to_structures/keystostructures/store/TimedEntry" "deadline" "J" (.long dx0)) (F_p_x0 : Fld Z h0 x0 "com/example/keys_to_structures/keystostructures/store/TimedEntry" "position" "I" (.int px0)) (ne_a0__hp : a0 ≠ hp) (ne_a0__a1 : a0 ≠ a1) (ne_a0__x0 : a0 ≠ x0) (ne_hp__a1 : hp ≠ a1) (ne_hp__x0 : hp ≠ x0) (ne_a1__x0 : a1 ≠ x0) (hsw : ¬ (da1 < dx0)) :
    MetFree l (⟨"com/example/keys_to_structures/keystostructures/store/ExpiryQueue", "moveUp", "(Lcom/example/keys_to_structures/keystostructures/store/TimedEntry;I)V"⟩ : MethodName) (head1 (Jvm.Cond.code (⟨"com/example/keys_to_structures/keystostructures/store/ExpiryQueue", "moveUp", "(Lcom/example/keys_to_structures/keystostructures/store/TimedEntry;I)V"⟩ : MethodName) prog_43_method_7_code 5 none :: ws) ({ frames := 2, cells := 0, slots := 0, locals := 27 } : Room)) (fun a U => a = #[(.ref a0), (.ref a1), (.int (1 : Int32))] ∧ Z.Warmed39 U.vm ∧ U.heap = h0) (fun _ _ _ _ _ => True) (fun _ U o U' => ∃ v L, o = .returned v ∧ QMu1 Z a0 a1 hp kA v1 v2 da1 pa1 x0 dx0 px0 h0 n0 v U'.heap L ∧ FrameEnd U o U' L ({ frames := 2, cells := 0, slots := 0, locals := 27 } : Room).cells ({ frames := 2, cells := 0, slots := 0, locals := 27 } : Room).slots) := by
  refine MetFree.of_bodySF (plainFor_of_name pn_3) hisR ?_
  intro p e s m args below meth c s₁ Bd hml0 hP hK
  obtain ⟨rfl, hZ, hh⟩ := hP
  have hx := Bd.exec
  have hby := Bd.bytes
  have hml : c.maxLocals = 5 := hml0
  have hown : s.vm.findClass "com/example/keys_to_structures/keystostructures/store/ExpiryQueue" = some m.cls := findClass_of_methodNamed Bd.named
  have hnm := (name_of_methodNamed Bd.named Bd.method).1
  have X0 : Stand p l e ({ frames := 2, cells := 0, slots := 0, locals := 27 } : Room) s m #[(.ref a0), (.ref a1), (.int (1 : Int32))] below meth c s₁ [] 0 0 := Stand.of_body Bd
  have e0 : s₁.heap = h0 := by rw [← hh, Bd.state]; rfl
  have N0 := Fr.nil n0
  have Kp := Keep.refl h0 [hp, a1]
  show Run p e below (Ends s (QMu1 Z a0 a1 hp kA v1 v2 da1 pa1 x0 dx0 px0 h0 n0) ({ frames := 2, cells := 0, slots := 0, locals := 27 } : Room).cells ({ frames := 2, cells := 0, slots := 0, locals := 27 } : Room).slots) _
  refine Run.st (S' := s₁.setTop (mkF m 0 #[.val (.ref a0), .val (.ref a1), .val (.int (1 : Int32)), .unset, .unset] [])) (fun t k => castTop (ef_Mu1 m a0 a1) k) ?_
  refine Run.st (S' := s₁.setTop (mkF m 10 #[.val (.ref a0), .val (.ref a1), .val (.int (1 : Int32)), .val (.int (1 : Int32)), .unset] [(.int (2 : Int32)), (.int (0 : Int32))])) (fun _ k => XS.iloadN X0.here hx rfl (hb hby d10_0) rfl (XS.istoreN X0.here hx rfl (hb hby d10_1) rfl (l' := #[.val (.ref a0), .val (.ref a1), .val (.int (1 : Int32)), .val (.int (1 : Int32)), .unset]) rfl (XS.iloadN X0.here hx rfl (hb hby d10_2) rfl (XS.ifNo X0.here hx rfl (hb hby d10_3) rfl ((if0 _ _).trans (tlt (show (0 : Int32) < (1 : Int32) from (by decide))).2.2.2) (XS.iloadN X0.here hx rfl (hb hby d10_6) rfl (XS.iconst X0.here hx rfl (hb hby d10_7) (XS.isub X0.here hx rfl (hb hby d10_8) rfl (XS.iconst X0.here hx rfl (hb hby d10_9) k)))))))) ?_
  refine Run.st (S' := s₁.setTop (mkF m 14 #[.val (.ref a0), .val (.ref a1), .val (.int (1 : Int32)), .val (.int (1 : Int32)), .val (.int (0 : Int32))] [(.ref a0)])) (fun _ k => XS.idiv X0.here hx rfl (hb hby d10_10) rfl (by decide) (XS.istore X0.here hx rfl (hb hby d10_11) rfl (l' := #[.val (.ref a0), .val (.ref a1), .val (.int (1 : Int32)), .val (.int (1 : Int32)), .val (.int (0 : Int32))]) rfl (XS.aloadN X0.here hx rfl (hb hby d10_13) rfl rfl k))) ?_
  obtain ⟨T1, X1, e1, st1⟩ := getF X0 hx hZ hown (host := "") (Or.inl (hw _ (List.mem_of_getElem? (i := 11) rfl))) Via.refl e0 F_heap (g := (mkF m 14 #[.val (.ref a0), .val (.ref a1), .val (.int (1 : Int32)), .val (.int (1 : Int32)), .val (.int (0 : Int32))] [(.ref a0)])) rfl rfl (hb hby d10_14)
  refine Run.st (S' := T1.setTop (mkF m 19 #[.val (.ref a0), .val (.ref a1), .val (.int (1 : Int32)), .val (.int (1 : Int32)), .val (.int (0 : Int32))] [(.int (0 : Int32)), (.ref hp)])) (fun _ k => st1 _ (XS.iload X1.here hx rfl (hb hby d10_17) rfl k)) ?_
  obtain ⟨cl2, Ar2, qa2, Sa2, Na2, Ha2, Ga2⟩ := id V_hp
  have hin2 : ¬ ((0 : Int32) < 0 ∨ cl2.slots.size ≤ ((0 : Int32)).toNatClampNeg) := inb_of Sa2 ⟨by decide, by decide⟩
  have hat2 : cl2.slots[((0 : Int32)).toNatClampNeg]? = some (.ref x0) := Has.at Ha2 hin2 rfl
  refine Run.st (S' := T1.setTop (mkF m 20 #[.val (.ref a0), .val (.ref a1), .val (.int (1 : Int32)), .val (.int (1 : Int32)), .val (.int (0 : Int32))] [(.ref x0)])) (fun _ k => X1.aaload hx (j := (0 : Int32)) (v := (.ref x0)) (by rw [e1]; exact Ar2.1) (State.isArrayOf_alike hZ.alike Ar2.2.1) rfl Ar2.2.2 hin2 hat2 (g := (mkF m 19 #[.val (.ref a0), .val (.ref a1), .val (.int (1 : Int32)), .val (.int (1 : Int32)), .val (.int (0 : Int32))] [(.int (0 : Int32)), (.ref hp)])) rfl rfl (hb hby d10_19) _ k) ?_
  obtain ⟨cq3, kq3, q3a, q3b, q3c⟩ := isOf hZ e1 E_x0
  obtain ⟨_, _, ⟨T3, L3, k3, n3⟩, -, X3, ⟨Lc3, hQ3, l3, y3, z3⟩, st3⟩ := X1.virtualBack hx (y := (⟨"com/example/keys_to_structures/keystostructures/store/TimedEntry", "deadline", "()J"⟩ : MethodName)) (z := (⟨"com/example/keys_to_structures/keystostructures/store/TimedEntry", "deadline", "()J"⟩ : MethodName)) hown (mvT hZ (hw _ (List.mem_of_getElem? (i := 79) rfl))) (mvT hZ (hw _ (List.mem_of_getElem? (i := 80) rfl))) (notFace_of_selects (args := #[]) (mvT hZ (hw _ (List.mem_of_getElem? (i := 82) rfl)))) (mvT hZ (hw _ (List.mem_of_getElem? (i := 82) rfl))) (mvT hZ (hw _ (List.mem_of_getElem? (i := 81) rfl))) (by decide) (backOf (W := 0) (rmDl l Z aV hw [] x0 dx0 h0 n0 Zn F_d_x0) hZ (hw _ (List.mem_of_getElem? (i := 83) rfl)) (hw _ (List.mem_of_getElem? (i := 15) rfl)) (by decide) (by decide)) q3a q3c (g := (mkF m 20 #[.val (.ref a0), .val (.ref a1), .val (.int (1 : Int32)), .val (.int (1 : Int32)), .val (.int (0 : Int32))] [(.ref x0)])) rfl (by rw [hml]; rfl) (Steps.refl _) (argsL := []) (rest := []) (lenOf pd_4 rfl) rfl (by show 2 * 0 + _ ≤ _; exact Nat.le_of_eq rfl) (hb hby d10_20) (fun _ _ => ⟨rfl, e1, (by decide : 0 + 0 ≤ _), (by decide : 0 + 0 ≤ _)⟩)
  dsimp only [Pt.U, Pt.locs, Pt.cells, Pt.slots] at X3 l3 y3 z3 st3 hQ3
  subst l3 y3 z3
  obtain ⟨rfl, N3q, e3⟩ := hQ3
  have N3 := Fr.app N0 N3q
  refine Run.st (S' := T3.setTop (mkF m 24 #[.val (.ref a0), .val (.ref a1), .val (.int (1 : Int32)), .val (.int (1 : Int32)), .val (.int (0 : Int32))] [(.ref a1), (.long dx0)])) (fun _ k => st3.trans (XS.aloadN X3.here hx rfl (hb hby d10_23) rfl rfl k)) ?_
  obtain ⟨cq4, kq4, q4a, q4b, q4c⟩ := isOf hZ e3 E_a1
  obtain ⟨_, _, ⟨T4, L4, k4, n4⟩, -, X4, ⟨Lc4, hQ4, l4, y4, z4⟩, st4⟩ := X3.virtualBack hx (y := (⟨"com/example/keys_to_structures/keystostructures/store/TimedEntry", "deadline", "()J"⟩ : MethodName)) (z := (⟨"com/example/keys_to_structures/keystostructures/store/TimedEntry", "deadline", "()J"⟩ : MethodName)) hown (mvT hZ (hw _ (List.mem_of_getElem? (i := 79) rfl))) (mvT hZ (hw _ (List.mem_of_getElem? (i := 80) rfl))) (notFace_of_selects (args := #[]) (mvT hZ (hw _ (List.mem_of_getElem? (i := 82) rfl)))) (mvT hZ (hw _ (List.mem_of_getElem? (i := 82) rfl))) (mvT hZ (hw _ (List.mem_of_getElem? (i := 81) rfl))) (by decide) (backOf (W := 2) (rmDl l Z aV hw [] a1 da1 h0 n0 Zn F_d_a1) hZ (hw _ (List.mem_of_getElem? (i := 83) rfl)) (hw _ (List.mem_of_getElem? (i := 15) rfl)) (by decide) (by decide)) q4a q4c (g := (mkF m 24 #[.val (.ref a0), .val (.ref a1), .val (.int (1 : Int32)), .val (.int (1 : Int32)), .val (.int (0 : Int32))] [(.ref a1), (.long dx0)])) rfl (by rw [hml]; rfl) (Steps.refl _) (argsL := []) (rest := [(.long dx0)]) (lenOf pd_4 rfl) rfl (by show 2 * 0 + _ ≤ _; exact Nat.le_of_eq rfl) (hb hby d10_24) (fun _ _ => ⟨rfl, e3, (by decide : 0 + 0 ≤ _), (by decide : 0 + 0 ≤ _)⟩)
  dsimp only [Pt.U, Pt.locs, Pt.cells, Pt.slots] at X4 l4 y4 z4 st4 hQ4
  subst l4 y4 z4
  obtain ⟨rfl, N4q, e4⟩ := hQ4
  have N4 := Fr.app N3 N4q
  refine Run.st (S' := T4.setTop (mkF m 55 #[.val (.ref a0), .val (.ref a1), .val (.int (1 : Int32)), .val (.int (1 : Int32)), .val (.int (0 : Int32))] [(.int (1 : Int32)), (.ref a1), (.ref a0)])) (fun _ k => st4.trans (XS.lcmp X4.here hx rfl (hb hby d10_27) rfl (XS.ifNo X4.here hx rfl (hb hby d10_28) rfl (lcYes (Jvm.Free.XT.ll_gt_f (show ¬ (da1 < dx0) from hsw))) (XS.goto X4.here hx rfl (pc0 := 31) (pc' := 52) rfl (hb hby d10_31) (by decide) (by decide) (XS.aloadN X4.here hx rfl (hb hby d10_52) rfl rfl (XS.aloadN X4.here hx rfl (hb hby d10_53) rfl rfl (XS.iloadN X4.here hx rfl (hb hby d10_54) rfl k))))))) ?_
  obtain ⟨cq5, q5, q5'⟩ := E_a0.cell
  obtain ⟨_, _, ⟨T5, L5, k5, n5⟩, -, X5, ⟨Lc5, hQ5, l5, y5, z5⟩, st5⟩ := X4.privateBack hx (y := (⟨"com/example/keys_to_structures/keystostructures/store/ExpiryQueue", "place", "(Lcom/example/keys_to_structures/keystostructures/store/TimedEntry;I)V"⟩ : MethodName)) hown (mvT hZ (hw _ (List.mem_of_getElem? (i := 62) rfl))) (mvT hZ (hw _ (List.mem_of_getElem? (i := 63) rfl))) (selSelf (y := (⟨"com/example/keys_to_structures/keystostructures/store/ExpiryQueue", "place", "(Lcom/example/keys_to_structures/keystostructures/store/TimedEntry;I)V"⟩ : MethodName)) (mvT hZ (hw _ (List.mem_of_getElem? (i := 1) rfl))) (Cond.privateMethod_at (mvP hZ (hw _ (List.mem_of_getElem? (i := 64) rfl)) (args := #[]))) (mvT hZ (hw _ (List.mem_of_getElem? (i := 63) rfl))) (by decide)) (Cond.privateMethod_at (mvP hZ (hw _ (List.mem_of_getElem? (i := 64) rfl)) (args := #[]))) (mvT hZ (hw _ (List.mem_of_getElem? (i := 65) rfl))) (by decide) (backOf (W := 0) (rmPl1 l Z aV hw [] a0 a1 hp kA (.ref x0) v1 v2 pa1 da1 h0 n0 Zn g_hp g_a1 O_kA E_a0 F_heap V_hp E_a1 F_d_a1 F_p_a1 ne_a0__hp ne_a0__a1 ne_hp__a1) hZ (hw _ (List.mem_of_getElem? (i := 65) rfl)) (hw _ (List.mem_of_getElem? (i := 2) rfl)) (by decide) (by decide)) (g := (mkF m 55 #[.val (.ref a0), .val (.ref a1), .val (.int (1 : Int32)), .val (.int (1 : Int32)), .val (.int (0 : Int32))] [(.int (1 : Int32)), (.ref a1), (.ref a0)])) rfl (by rw [hml]; rfl) (Steps.refl _) (a := a0) (by rw [e4]; exact q5) q5' (argsL := [(.ref a1), (.int (1 : Int32))]) (rest := []) (lenOf pd_3 rfl) rfl (by show 2 * 0 + _ ≤ _; exact Nat.le_of_eq rfl) (hb hby d10_55) (fun _ _ => ⟨rfl, e4, (by decide : 0 + 0 ≤ _), (by decide : 0 + 0 ≤ _)⟩)
  dsimp only [Pt.U, Pt.locs, Pt.cells, Pt.slots] at X5 l5 y5 z5 st5 hQ5
  subst l5 y5 z5
  obtain ⟨rfl, N5q, K5, q5_0, q5_1, q5_2, q5_3⟩ := hQ5
  have E_a0 := E_a0.keep K5
  have F_heap := F_heap.keep K5 (ninS ne_a0__hp (ninS ne_a0__a1 nin0))
  have E_x0 := E_x0.keep K5
  have F_d_x0 := F_d_x0.keep K5 (ninS (Ne.symm ne_hp__x0) (ninS (Ne.symm ne_a1__x0) nin0))
  have F_p_x0 := F_p_x0.keep K5 (ninS (Ne.symm ne_hp__x0) (ninS (Ne.symm ne_a1__x0) nin0))
  have V_hp := q5_0
  have E_a1 := q5_1
  have F_d_a1 := q5_2
  have F_p_a1 := q5_3
  have Kp := Kp.trans K5 (allS (Or.inl (by simp)) (allS (Or.inl (by simp)) all0))
  have Zn := Nat.le_trans Zn K5.1
  have N5 := Fr.app N4 N5q
  refine Run.st (S' := T5.setTop (mkF m 58 #[.val (.ref a0), .val (.ref a1), .val (.int (1 : Int32)), .val (.int (1 : Int32)), .val (.int (0 : Int32))] [])) (fun _ k => st5.trans k) ?_
  refine Run.outV X5 hx Bd.notSynchronized Bd.returns (hb hby d10_58) (by decide) (by decide) ?_
  exact ⟨rfl, N5, Kp, V_hp, E_a1, F_d_a1, F_p_a1⟩
theorem d10_34 : decode prog_43_method_7_code 34 = .ok (.aload_n 0, 1) := by decide +kernel
theorem d10_35 : decode prog_43_method_7_code 35 = .ok (.aload_n 0, 1) := by decide +kernel
theorem d10_36 : decode prog_43_method_7_code 36 = .ok (.getfield 11, 3) := by decide +kernel
theorem d10_39 : decode prog_43_method_7_code 39 = .ok (.iload 4, 2) := by decide +kernel
theorem d10_41 : decode prog_43_method_7_code 41 = .ok (.aaload, 1) := by decide +kernel
theorem d10_42 : decode prog_43_method_7_code 42 = .ok (.iload_n 3, 1) := by decide +kernel
theorem d10_43 : decode prog_43_method_7_code 43 = .ok (.invokevirtual 38, 3) := by decide +kernel
theorem d10_46 : decode prog_43_method_7_code 46 = .ok (.iload 4, 2) := by decide +kernel
theorem d10_48 : decode prog_43_method_7_code 48 = .ok (.istore_n 3, 1) := by decide +kernel
theorem d10_49 : decode prog_43_method_7_code 49 = .ok (.goto (-47), 3) := by decide +kernel
theorem ef_Mu1s (m : MethodId) (a0 : Addr) (a1 : Addr) : entryFrame m #[(.ref a0), (.ref a1), (.int (1 : Int32))] 5 = mkF m 0 #[.val (.ref a0), .val (.ref a1), .val (.int (1 : Int32)), .unset, .unset] [] := by first | (simp [entryFrame, mkF, argsToLocals, Value.category]; done) | rfl
def QMu1s (Z : State) (a0 : Addr) (a1 : Addr) (hp : Addr) (kA : ClassId) (v1 : Value) (v2 : Value) (da1 : Int64) (pa1 : Int32) (x0 : Addr) (dx0 : Int64) (px0 : Int32) (h0 : Heap) (n0 : Nat) (v : Option Value) (h : Heap) (L : List Loc) : Prop := v = none ∧ Fr n0 L ∧ Keep h0 h [hp, a1, x0] ∧ Arv Z h hp kA (.object "com/example/keys_to_structures/keystostructures/store/TimedEntry") (16 : Int32) [(.ref a1), (.ref x0), v2, .null, .null, .null, .null, .null, .null, .null, .null, .null, .null, .null, .null, .null] .null ∧ Exa Z h a1 "com/example/keys_to_structures/keystostructures/store/TimedEntry" ∧ Fld Z h a1 "com/example/keys_to_structures/keystostructures/store/TimedEntry" "deadline" "J" (.long da1) ∧ Fld Z h a1 "com/example/keys_to_structures/keystostructures/store/TimedEntry" "position" "I" (.int (0 : Int32)) ∧ Exa Z h x0 "com/example/keys_to_structures/keystostructures/store/TimedEntry" ∧ Fld Z h x0 "com/example/keys_to_structures/keystostructures/store/TimedEntry" "deadline" "J" (.long dx0) ∧ Fld Z h x0 "com/example/keys_to_structures/keystostructures/store/TimedEntry" "position" "I" (.int (1 : Int32))
set_option maxRecDepth 65536 in
set_option maxHeartbeats 40000000 in
theorem rmMu1s (l : Launch) (Z : State) (aV : Array Value) (hw : ∀ d ∈ tables_1, d.before aV Z = true) (ws : List Jvm.Cond) (a0 : Addr) (a1 : Addr) (hp : Addr) (kA : ClassId) (v1 : Value) (v2 : Value) (da1 : Int64) (pa1 : Int32) (x0 : Addr) (dx0 : Int64) (px0 : Int32) (h0 : Heap) (n0 : Nat) (Zn : n0 ≤ h0.size) (g_hp : n0 ≤ hp) (O_kA : Ovr Z kA "com/example/keys_to_structures/keystostructures/store/TimedEntry") (g_a1 : n0 ≤ a1) (g_x0 : n0 ≤ x0) (E_a0 : Exa Z h0 a0 "com/example/keys_to_structures/keystostructures/store/ExpiryQueue") (F_heap : Fld Z h0 a0 "com/example/keys_to_structures/keystostructures/store/ExpiryQueue" "heap" "[Lcom/example/keys_to_structures/keystostructures/store/TimedEntry;" (.ref hp)) (V_hp : Arv Z h0 hp kA (.object "com/example/keys_to_structures/keystostructures/store/TimedEntry") (16 : Int32) [(.ref x0), v1, v2, .null, .null, .null, .null, .null, .null, .null, .null, .null, .null, .null, .null, .null] .null) (E_a1 : Exa Z h0 a1 "com/example/keys_to_structures/keystostructures/store/TimedEntry") (F_d_a1 : Fld Z h0 a1 "com/example/keys_to_structures/keystostructures/store/TimedEntry" "deadline" "J" (.long da1)) (F_p_a1 : Fld Z h0 a1 "com/example/keys_to_structures/keystostructures/store/TimedEntry" "position" "I" (.int pa1)) (E_x0 : Exa Z h0 x0 "com/example/keys_to_structures/keystostructures/store/TimedEntry") (F_d_x0 : Fld Z h0 x0 "com/example/keys_to_structures/keystostructures/store/TimedEntry" "deadline" "J" (.long dx0)) (F_p_x0 : Fld Z h0 x0 "com/example/keys_to_structures/keystostructures/store/TimedEntry" "position" "I" (.int px0)) (ne_a0__hp : a0 ≠ hp) (ne_a0__a1 : a0 ≠ a1) (ne_a0__x0 : a0 ≠ x0) (ne_hp__a1 : hp ≠ a1) (ne_hp__x0 : hp ≠ x0) (ne_a1__x0 : a1 ≠ x0) (hsw : da1 < dx0) :
    MetFree l (⟨"com/example/keys_to_structures/keystostructures/store/ExpiryQueue", "moveUp", "(Lcom/example/keys_to_structures/keystostructures/store/TimedEntry;I)V"⟩ : MethodName) (head1 (Jvm.Cond.code (⟨"com/example/keys_to_structures/keystostructures/store/ExpiryQueue", "moveUp", "(Lcom/example/keys_to_structures/keystostructures/store/TimedEntry;I)V"⟩ : MethodName) prog_43_method_7_code 5 none :: ws) ({ frames := 2, cells := 0, slots := 0, locals := 27 } : Room)) (fun a U => a = #[(.ref a0), (.ref a1), (.int (1 : Int32))] ∧ Z.Warmed39 U.vm ∧ U.heap = h0) (fun _ _ _ _ _ => True) (fun _ U o U' => ∃ v L, o = .returned v ∧ QMu1s Z a0 a1 hp kA v1 v2 da1 pa1 x0 dx0 px0 h0 n0 v U'.heap L ∧ FrameEnd U o U' L ({ frames := 2, cells := 0, slots := 0, locals := 27 } : Room).cells ({ frames := 2, cells := 0, slots := 0, locals := 27 } : Room).slots) := by
  refine MetFree.of_bodySF (plainFor_of_name pn_3) hisR ?_
  intro p e s m args below meth c s₁ Bd hml0 hP hK
  obtain ⟨rfl, hZ, hh⟩ := hP
  have hx := Bd.exec
  have hby := Bd.bytes
  have hml : c.maxLocals = 5 := hml0
  have hown : s.vm.findClass "com/example/keys_to_structures/keystostructures/store/ExpiryQueue" = some m.cls := findClass_of_methodNamed Bd.named
  have hnm := (name_of_methodNamed Bd.named Bd.method).1
  have X0 : Stand p l e ({ frames := 2, cells := 0, slots := 0, locals := 27 } : Room) s m #[(.ref a0), (.ref a1), (.int (1 : Int32))] below meth c s₁ [] 0 0 := Stand.of_body Bd
  have e0 : s₁.heap = h0 := by rw [← hh, Bd.state]; rfl
  have N0 := Fr.nil n0
  have Kp := Keep.refl h0 [hp, a1, x0]
  show Run p e below (Ends s (QMu1s Z a0 a1 hp kA v1 v2 da1 pa1 x0 dx0 px0 h0 n0) ({ frames := 2, cells := 0, slots := 0, locals := 27 } : Room).cells ({ frames := 2, cells := 0, slots := 0, locals := 27 } : Room).slots) _
  refine Run.st (S' := s₁.setTop (mkF m 0 #[.val (.ref a0), .val (.ref a1), .val (.int (1 : Int32)), .unset, .unset] [])) (fun t k => castTop (ef_Mu1s m a0 a1) k) ?_
  refine Run.st (S' := s₁.setTop (mkF m 10 #[.val (.ref a0), .val (.ref a1), .val (.int (1 : Int32)), .val (.int (1 : Int32)), .unset] [(.int (2 : Int32)), (.int (0 : Int32))])) (fun _ k => XS.iloadN X0.here hx rfl (hb hby d10_0) rfl (XS.istoreN X0.here hx rfl (hb hby d10_1) rfl (l' := #[.val (.ref a0), .val (.ref a1), .val (.int (1 : Int32)), .val (.int (1 : Int32)), .unset]) rfl (XS.iloadN X0.here hx rfl (hb hby d10_2) rfl (XS.ifNo X0.here hx rfl (hb hby d10_3) rfl ((if0 _ _).trans (tlt (show (0 : Int32) < (1 : Int32) from (by decide))).2.2.2) (XS.iloadN X0.here hx rfl (hb hby d10_6) rfl (XS.iconst X0.here hx rfl (hb hby d10_7) (XS.isub X0.here hx rfl (hb hby d10_8) rfl (XS.iconst X0.here hx rfl (hb hby d10_9) k)))))))) ?_
  refine Run.st (S' := s₁.setTop (mkF m 14 #[.val (.ref a0), .val (.ref a1), .val (.int (1 : Int32)), .val (.int (1 : Int32)), .val (.int (0 : Int32))] [(.ref a0)])) (fun _ k => XS.idiv X0.here hx rfl (hb hby d10_10) rfl (by decide) (XS.istore X0.here hx rfl (hb hby d10_11) rfl (l' := #[.val (.ref a0), .val (.ref a1), .val (.int (1 : Int32)), .val (.int (1 : Int32)), .val (.int (0 : Int32))]) rfl (XS.aloadN X0.here hx rfl (hb hby d10_13) rfl rfl k))) ?_
  obtain ⟨T1, X1, e1, st1⟩ := getF X0 hx hZ hown (host := "") (Or.inl (hw _ (List.mem_of_getElem? (i := 11) rfl))) Via.refl e0 F_heap (g := (mkF m 14 #[.val (.ref a0), .val (.ref a1), .val (.int (1 : Int32)), .val (.int (1 : Int32)), .val (.int (0 : Int32))] [(.ref a0)])) rfl rfl (hb hby d10_14)
  refine Run.st (S' := T1.setTop (mkF m 19 #[.val (.ref a0), .val (.ref a1), .val (.int (1 : Int32)), .val (.int (1 : Int32)), .val (.int (0 : Int32))] [(.int (0 : Int32)), (.ref hp)])) (fun _ k => st1 _ (XS.iload X1.here hx rfl (hb hby d10_17) rfl k)) ?_
  obtain ⟨cl2, Ar2, qa2, Sa2, Na2, Ha2, Ga2⟩ := id V_hp
  have hin2 : ¬ ((0 : Int32) < 0 ∨ cl2.slots.size ≤ ((0 : Int32)).toNatClampNeg) := inb_of Sa2 ⟨by decide, by decide⟩
  have hat2 : cl2.slots[((0 : Int32)).toNatClampNeg]? = some (.ref x0) := Has.at Ha2 hin2 rfl
  refine Run.st (S' := T1.setTop (mkF m 20 #[.val (.ref a0), .val (.ref a1), .val (.int (1 : Int32)), .val (.int (1 : Int32)), .val (.int (0 : Int32))] [(.ref x0)])) (fun _ k => X1.aaload hx (j := (0 : Int32)) (v := (.ref x0)) (by rw [e1]; exact Ar2.1) (State.isArrayOf_alike hZ.alike Ar2.2.1) rfl Ar2.2.2 hin2 hat2 (g := (mkF m 19 #[.val (.ref a0), .val (.ref a1), .val (.int (1 : Int32)), .val (.int (1 : Int32)), .val (.int (0 : Int32))] [(.int (0 : Int32)), (.ref hp)])) rfl rfl (hb hby d10_19) _ k) ?_
  obtain ⟨cq3, kq3, q3a, q3b, q3c⟩ := isOf hZ e1 E_x0
  obtain ⟨_, _, ⟨T3, L3, k3, n3⟩, -, X3, ⟨Lc3, hQ3, l3, y3, z3⟩, st3⟩ := X1.virtualBack hx (y := (⟨"com/example/keys_to_structures/keystostructures/store/TimedEntry", "deadline", "()J"⟩ : MethodName)) (z := (⟨"com/example/keys_to_structures/keystostructures/store/TimedEntry", "deadline", "()J"⟩ : MethodName)) hown (mvT hZ (hw _ (List.mem_of_getElem? (i := 79) rfl))) (mvT hZ (hw _ (List.mem_of_getElem? (i := 80) rfl))) (notFace_of_selects (args := #[]) (mvT hZ (hw _ (List.mem_of_getElem? (i := 82) rfl)))) (mvT hZ (hw _ (List.mem_of_getElem? (i := 82) rfl))) (mvT hZ (hw _ (List.mem_of_getElem? (i := 81) rfl))) (by decide) (backOf (W := 0) (rmDl l Z aV hw [] x0 dx0 h0 n0 Zn F_d_x0) hZ (hw _ (List.mem_of_getElem? (i := 83) rfl)) (hw _ (List.mem_of_getElem? (i := 15) rfl)) (by decide) (by decide)) q3a q3c (g := (mkF m 20 #[.val (.ref a0), .val (.ref a1), .val (.int (1 : Int32)), .val (.int (1 : Int32)), .val (.int (0 : Int32))] [(.ref x0)])) rfl (by rw [hml]; rfl) (Steps.refl _) (argsL := []) (rest := []) (lenOf pd_4 rfl) rfl (by show 2 * 0 + _ ≤ _; exact Nat.le_of_eq rfl) (hb hby d10_20) (fun _ _ => ⟨rfl, e1, (by decide : 0 + 0 ≤ _), (by decide : 0 + 0 ≤ _)⟩)
  dsimp only [Pt.U, Pt.locs, Pt.cells, Pt.slots] at X3 l3 y3 z3 st3 hQ3
  subst l3 y3 z3
  obtain ⟨rfl, N3q, e3⟩ := hQ3
  have N3 := Fr.app N0 N3q
  refine Run.st (S' := T3.setTop (mkF m 24 #[.val (.ref a0), .val (.ref a1), .val (.int (1 : Int32)), .val (.int (1 : Int32)), .val (.int (0 : Int32))] [(.ref a1), (.long dx0)])) (fun _ k => st3.trans (XS.aloadN X3.here hx rfl (hb hby d10_23) rfl rfl k)) ?_
  obtain ⟨cq4, kq4, q4a, q4b, q4c⟩ := isOf hZ e3 E_a1
  obtain ⟨_, _, ⟨T4, L4, k4, n4⟩, -, X4, ⟨Lc4, hQ4, l4, y4, z4⟩, st4⟩ := X3.virtualBack hx (y := (⟨"com/example/keys_to_structures/keystostructures/store/TimedEntry", "deadline", "()J"⟩ : MethodName)) (z := (⟨"com/example/keys_to_structures/keystostructures/store/TimedEntry", "deadline", "()J"⟩ : MethodName)) hown (mvT hZ (hw _ (List.mem_of_getElem? (i := 79) rfl))) (mvT hZ (hw _ (List.mem_of_getElem? (i := 80) rfl))) (notFace_of_selects (args := #[]) (mvT hZ (hw _ (List.mem_of_getElem? (i := 82) rfl)))) (mvT hZ (hw _ (List.mem_of_getElem? (i := 82) rfl))) (mvT hZ (hw _ (List.mem_of_getElem? (i := 81) rfl))) (by decide) (backOf (W := 2) (rmDl l Z aV hw [] a1 da1 h0 n0 Zn F_d_a1) hZ (hw _ (List.mem_of_getElem? (i := 83) rfl)) (hw _ (List.mem_of_getElem? (i := 15) rfl)) (by decide) (by decide)) q4a q4c (g := (mkF m 24 #[.val (.ref a0), .val (.ref a1), .val (.int (1 : Int32)), .val (.int (1 : Int32)), .val (.int (0 : Int32))] [(.ref a1), (.long dx0)])) rfl (by rw [hml]; rfl) (Steps.refl _) (argsL := []) (rest := [(.long dx0)]) (lenOf pd_4 rfl) rfl (by show 2 * 0 + _ ≤ _; exact Nat.le_of_eq rfl) (hb hby d10_24) (fun _ _ => ⟨rfl, e3, (by decide : 0 + 0 ≤ _), (by decide : 0 + 0 ≤ _)⟩)
  dsimp only [Pt.U, Pt.locs, Pt.cells, Pt.slots] at X4 l4 y4 z4 st4 hQ4
  subst l4 y4 z4
  obtain ⟨rfl, N4q, e4⟩ := hQ4
  have N4 := Fr.app N3 N4q
  refine Run.st (S' := T4.setTop (mkF m 36 #[.val (.ref a0), .val (.ref a1), .val (.int (1 : Int32)), .val (.int (1 : Int32)), .val (.int (0 : Int32))] [(.ref a0), (.ref a0)])) (fun _ k => st4.trans (XS.lcmp X4.here hx rfl (hb hby d10_27) rfl (XS.ifYes X4.here hx rfl (pc0 := 28) (pc' := 34) rfl (hb hby d10_28) rfl (lcYes (Jvm.Free.XT.ll_gt_t (show da1 < dx0 from hsw))) (by decide) (by decide) (XS.aloadN X4.here hx rfl (hb hby d10_34) rfl rfl (XS.aloadN X4.here hx rfl (hb hby d10_35) rfl rfl k))))) ?_
  obtain ⟨T5, X5, e5, st5⟩ := getF X4 hx hZ hown (host := "") (Or.inl (hw _ (List.mem_of_getElem? (i := 11) rfl))) Via.refl e4 F_heap (g := (mkF m 36 #[.val (.ref a0), .val (.ref a1), .val (.int (1 : Int32)), .val (.int (1 : Int32)), .val (.int (0 : Int32))] [(.ref a0), (.ref a0)])) rfl rfl (hb hby d10_36)
  refine Run.st (S' := T5.setTop (mkF m 41 #[.val (.ref a0), .val (.ref a1), .val (.int (1 : Int32)), .val (.int (1 : Int32)), .val (.int (0 : Int32))] [(.int (0 : Int32)), (.ref hp), (.ref a0)])) (fun _ k => st5 _ (XS.iload X5.here hx rfl (hb hby d10_39) rfl k)) ?_
  obtain ⟨cl6, Ar6, qa6, Sa6, Na6, Ha6, Ga6⟩ := id V_hp
  have hin6 : ¬ ((0 : Int32) < 0 ∨ cl6.slots.size ≤ ((0 : Int32)).toNatClampNeg) := inb_of Sa6 ⟨by decide, by decide⟩
  have hat6 : cl6.slots[((0 : Int32)).toNatClampNeg]? = some (.ref x0) := Has.at Ha6 hin6 rfl
  refine Run.st (S' := T5.setTop (mkF m 43 #[.val (.ref a0), .val (.ref a1), .val (.int (1 : Int32)), .val (.int (1 : Int32)), .val (.int (0 : Int32))] [(.int (1 : Int32)), (.ref x0), (.ref a0)])) (fun _ k => X5.aaload hx (j := (0 : Int32)) (v := (.ref x0)) (by rw [e5]; exact Ar6.1) (State.isArrayOf_alike hZ.alike Ar6.2.1) rfl Ar6.2.2 hin6 hat6 (g := (mkF m 41 #[.val (.ref a0), .val (.ref a1), .val (.int (1 : Int32)), .val (.int (1 : Int32)), .val (.int (0 : Int32))] [(.int (0 : Int32)), (.ref hp), (.ref a0)])) rfl rfl (hb hby d10_41) _ (XS.iloadN X5.here hx rfl (hb hby d10_42) rfl k)) ?_
  obtain ⟨cq7, q7, q7'⟩ := E_a0.cell
  obtain ⟨_, _, ⟨T7, L7, k7, n7⟩, -, X7, ⟨Lc7, hQ7, l7, y7, z7⟩, st7⟩ := X5.privateBack hx (y := (⟨"com/example/keys_to_structures/keystostructures/store/ExpiryQueue", "place", "(Lcom/example/keys_to_structures/keystostructures/store/TimedEntry;I)V"⟩ : MethodName)) hown (mvT hZ (hw _ (List.mem_of_getElem? (i := 62) rfl))) (mvT hZ (hw _ (List.mem_of_getElem? (i := 63) rfl))) (selSelf (y := (⟨"com/example/keys_to_structures/keystostructures/store/ExpiryQueue", "place", "(Lcom/example/keys_to_structures/keystostructures/store/TimedEntry;I)V"⟩ : MethodName)) (mvT hZ (hw _ (List.mem_of_getElem? (i := 1) rfl))) (Cond.privateMethod_at (mvP hZ (hw _ (List.mem_of_getElem? (i := 64) rfl)) (args := #[]))) (mvT hZ (hw _ (List.mem_of_getElem? (i := 63) rfl))) (by decide)) (Cond.privateMethod_at (mvP hZ (hw _ (List.mem_of_getElem? (i := 64) rfl)) (args := #[]))) (mvT hZ (hw _ (List.mem_of_getElem? (i := 65) rfl))) (by decide) (backOf (W := 0) (rmPl1 l Z aV hw [] a0 x0 hp kA (.ref x0) v1 v2 px0 dx0 h0 n0 Zn g_hp g_x0 O_kA E_a0 F_heap V_hp E_x0 F_d_x0 F_p_x0 ne_a0__hp ne_a0__x0 ne_hp__x0) hZ (hw _ (List.mem_of_getElem? (i := 65) rfl)) (hw _ (List.mem_of_getElem? (i := 2) rfl)) (by decide) (by decide)) (g := (mkF m 43 #[.val (.ref a0), .val (.ref a1), .val (.int (1 : Int32)), .val (.int (1 : Int32)), .val (.int (0 : Int32))] [(.int (1 : Int32)), (.ref x0), (.ref a0)])) rfl (by rw [hml]; rfl) (Steps.refl _) (a := a0) (by rw [e5]; exact q7) q7' (argsL := [(.ref x0), (.int (1 : Int32))]) (rest := []) (lenOf pd_3 rfl) rfl (by show 2 * 0 + _ ≤ _; exact Nat.le_of_eq rfl) (hb hby d10_43) (fun _ _ => ⟨rfl, e5, (by decide : 0 + 0 ≤ _), (by decide : 0 + 0 ≤ _)⟩)
  dsimp only [Pt.U, Pt.locs, Pt.cells, Pt.slots] at X7 l7 y7 z7 st7 hQ7
  subst l7 y7 z7
  obtain ⟨rfl, N7q, K7, q7_0, q7_1, q7_2, q7_3⟩ := hQ7
  have E_a0 := E_a0.keep K7
  have F_heap := F_heap.keep K7 (ninS ne_a0__hp (ninS ne_a0__x0 nin0))
  have E_a1 := E_a1.keep K7
  have F_d_a1 := F_d_a1.keep K7 (ninS (Ne.symm ne_hp__a1) (ninS ne_a1__x0 nin0))
  have F_p_a1 := F_p_a1.keep K7 (ninS (Ne.symm ne_hp__a1) (ninS ne_a1__x0 nin0))
  have V_hp := q7_0
  have E_x0 := q7_1
  have F_d_x0 := q7_2
  have F_p_x0 := q7_3
  have Kp := Kp.trans K7 (allS (Or.inl (by simp)) (allS (Or.inl (by simp)) all0))
  have Zn := Nat.le_trans Zn K7.1
  have N7 := Fr.app N4 N7q
  refine Run.st (S' := T7.setTop (mkF m 54 #[.val (.ref a0), .val (.ref a1), .val (.int (1 : Int32)), .val (.int (0 : Int32)), .val (.int (0 : Int32))] [(.ref a1), (.ref a0)])) (fun _ k => st7.trans (XS.iload X7.here hx rfl (hb hby d10_46) rfl (XS.istoreN X7.here hx rfl (hb hby d10_48) rfl (l' := #[.val (.ref a0), .val (.ref a1), .val (.int (1 : Int32)), .val (.int (0 : Int32)), .val (.int (0 : Int32))]) rfl (XS.goto X7.here hx rfl (pc0 := 49) (pc' := 2) rfl (hb hby d10_49) (by decide) (by decide) (XS.iloadN X7.here hx rfl (hb hby d10_2) rfl (XS.ifYes X7.here hx rfl (pc0 := 3) (pc' := 52) rfl (hb hby d10_3) rfl ((if0 _ _).trans (flt (show ¬ ((0 : Int32) < (0 : Int32)) from (by decide))).2.2.2) (by decide) (by decide) (XS.aloadN X7.here hx rfl (hb hby d10_52) rfl rfl (XS.aloadN X7.here hx rfl (hb hby d10_53) rfl rfl k)))))))) ?_
  refine Run.st (S' := T7.setTop (mkF m 55 #[.val (.ref a0), .val (.ref a1), .val (.int (1 : Int32)), .val (.int (0 : Int32)), .val (.int (0 : Int32))] [(.int (0 : Int32)), (.ref a1), (.ref a0)])) (fun _ k => XS.iloadN X7.here hx rfl (hb hby d10_54) rfl k) ?_
  obtain ⟨cq8, q8, q8'⟩ := E_a0.cell
  obtain ⟨_, _, ⟨T8, L8, k8, n8⟩, -, X8, ⟨Lc8, hQ8, l8, y8, z8⟩, st8⟩ := X7.privateBack hx (y := (⟨"com/example/keys_to_structures/keystostructures/store/ExpiryQueue", "place", "(Lcom/example/keys_to_structures/keystostructures/store/TimedEntry;I)V"⟩ : MethodName)) hown (mvT hZ (hw _ (List.mem_of_getElem? (i := 62) rfl))) (mvT hZ (hw _ (List.mem_of_getElem? (i := 63) rfl))) (selSelf (y := (⟨"com/example/keys_to_structures/keystostructures/store/ExpiryQueue", "place", "(Lcom/example/keys_to_structures/keystostructures/store/TimedEntry;I)V"⟩ : MethodName)) (mvT hZ (hw _ (List.mem_of_getElem? (i := 1) rfl))) (Cond.privateMethod_at (mvP hZ (hw _ (List.mem_of_getElem? (i := 64) rfl)) (args := #[]))) (mvT hZ (hw _ (List.mem_of_getElem? (i := 63) rfl))) (by decide)) (Cond.privateMethod_at (mvP hZ (hw _ (List.mem_of_getElem? (i := 64) rfl)) (args := #[]))) (mvT hZ (hw _ (List.mem_of_getElem? (i := 65) rfl))) (by decide) (backOf (W := 0) (rmPl0 l Z aV hw [] a0 a1 hp kA (.ref x0) (.ref x0) v2 pa1 da1 T7.heap n0 Zn g_hp g_a1 O_kA E_a0 F_heap V_hp E_a1 F_d_a1 F_p_a1 ne_a0__hp ne_a0__a1 ne_hp__a1) hZ (hw _ (List.mem_of_getElem? (i := 65) rfl)) (hw _ (List.mem_of_getElem? (i := 2) rfl)) (by decide) (by decide)) (g := (mkF m 55 #[.val (.ref a0), .val (.ref a1), .val (.int (1 : Int32)), .val (.int (0 : Int32)), .val (.int (0 : Int32))] [(.int (0 : Int32)), (.ref a1), (.ref a0)])) rfl (by rw [hml]; rfl) (Steps.refl _) (a := a0) q8 q8' (argsL := [(.ref a1), (.int (0 : Int32))]) (rest := []) (lenOf pd_3 rfl) rfl (by show 2 * 0 + _ ≤ _; exact Nat.le_of_eq rfl) (hb hby d10_55) (fun _ _ => ⟨rfl, rfl, (by decide : 0 + 0 ≤ _), (by decide : 0 + 0 ≤ _)⟩)
  dsimp only [Pt.U, Pt.locs, Pt.cells, Pt.slots] at X8 l8 y8 z8 st8 hQ8
  subst l8 y8 z8
  obtain ⟨rfl, N8q, K8, q8_0, q8_1, q8_2, q8_3⟩ := hQ8
  have E_a0 := E_a0.keep K8
  have F_heap := F_heap.keep K8 (ninS ne_a0__hp (ninS ne_a0__a1 nin0))
  have E_x0 := E_x0.keep K8
  have F_d_x0 := F_d_x0.keep K8 (ninS (Ne.symm ne_hp__x0) (ninS (Ne.symm ne_a1__x0) nin0))
  have F_p_x0 := F_p_x0.keep K8 (ninS (Ne.symm ne_hp__x0) (ninS (Ne.symm ne_a1__x0) nin0))
  have V_hp := q8_0
  have E_a1 := q8_1
  have F_d_a1 := q8_2
  have F_p_a1 := q8_3
  have Kp := Kp.trans K8 (allS (Or.inl (by simp)) (allS (Or.inl (by simp)) all0))
  have Zn := Nat.le_trans Zn K8.1
  have N8 := Fr.app N7 N8q
  refine Run.st (S' := T8.setTop (mkF m 58 #[.val (.ref a0), .val (.ref a1), .val (.int (1 : Int32)), .val (.int (0 : Int32)), .val (.int (0 : Int32))] [])) (fun _ k => st8.trans k) ?_
  refine Run.outV X8 hx Bd.notSynchronized Bd.returns (hb hby d10_58) (by decide) (by decide) ?_
  exact ⟨rfl, N8, Kp, V_hp, E_a1, F_d_a1, F_p_a1, E_x0, F_d_x0, F_p_x0⟩
theorem d9_0 : decode prog_43_method_3_code 0 = .ok (.aload_n 0, 1) := by decide +kernel
theorem d9_1 : decode prog_43_method_3_code 1 = .ok (.getfield 15, 3) := by decide +kernel
theorem d9_4 : decode prog_43_method_3_code 4 = .ok (.aload_n 0, 1) := by decide +kernel
theorem d9_5 : decode prog_43_method_3_code 5 = .ok (.getfield 11, 3) := by decide +kernel
theorem d9_8 : decode prog_43_method_3_code 8 = .ok (.arraylength, 1) := by decide +kernel
theorem d9_9 : decode prog_43_method_3_code 9 = .ok (.if_icmp .ne 14, 3) := by decide +kernel
theorem d9_23 : decode prog_43_method_3_code 23 = .ok (.aload_n 0, 1) := by decide +kernel
theorem d9_24 : decode prog_43_method_3_code 24 = .ok (.dup, 1) := by decide +kernel
theorem d9_25 : decode prog_43_method_3_code 25 = .ok (.getfield 15, 3) := by decide +kernel
theorem d9_28 : decode prog_43_method_3_code 28 = .ok (.iconst 1, 1) := by decide +kernel
theorem d9_29 : decode prog_43_method_3_code 29 = .ok (.iadd, 1) := by decide +kernel
theorem d9_30 : decode prog_43_method_3_code 30 = .ok (.putfield 15, 3) := by decide +kernel
theorem d9_33 : decode prog_43_method_3_code 33 = .ok (.aload_n 0, 1) := by decide +kernel
theorem d9_34 : decode prog_43_method_3_code 34 = .ok (.aload_n 1, 1) := by decide +kernel
theorem d9_35 : decode prog_43_method_3_code 35 = .ok (.aload_n 0, 1) := by decide +kernel
theorem d9_36 : decode prog_43_method_3_code 36 = .ok (.getfield 15, 3) := by decide +kernel
theorem d9_39 : decode prog_43_method_3_code 39 = .ok (.iconst 1, 1) := by decide +kernel
theorem d9_40 : decode prog_43_method_3_code 40 = .ok (.isub, 1) := by decide +kernel
theorem d9_41 : decode prog_43_method_3_code 41 = .ok (.invokevirtual 23, 3) := by decide +kernel
theorem d9_44 : decode prog_43_method_3_code 44 = .ok (.return_, 1) := by decide +kernel
theorem ef_Ad0 (m : MethodId) (a0 : Addr) (a1 : Addr) : entryFrame m #[(.ref a0), (.ref a1)] 2 = mkF m 0 #[.val (.ref a0), .val (.ref a1)] [] := by first | (simp [entryFrame, mkF, argsToLocals, Value.category]; done) | rfl
def QAd0 (Z : State) (a0 : Addr) (a1 : Addr) (hp : Addr) (kA : ClassId) (v0 : Value) (v1 : Value) (v2 : Value) (da1 : Int64) (pa1 : Int32) (h0 : Heap) (n0 : Nat) (v : Option Value) (h : Heap) (L : List Loc) : Prop := v = none ∧ Fr n0 L ∧ Keep h0 h [a0, hp, a1] ∧ Exa Z h a0 "com/example/keys_to_structures/keystostructures/store/ExpiryQueue" ∧ Fld Z h a0 "com/example/keys_to_structures/keystostructures/store/ExpiryQueue" "heap" "[Lcom/example/keys_to_structures/keystostructures/store/TimedEntry;" (.ref hp) ∧ Fld Z h a0 "com/example/keys_to_structures/keystostructures/store/ExpiryQueue" "size" "I" (.int (1 : Int32)) ∧ Arv Z h hp kA (.object "com/example/keys_to_structures/keystostructures/store/TimedEntry") (16 : Int32) [(.ref a1), v1, v2, .null, .null, .null, .null, .null, .null, .null, .null, .null, .null, .null, .null, .null] .null ∧ Exa Z h a1 "com/example/keys_to_structures/keystostructures/store/TimedEntry" ∧ Fld Z h a1 "com/example/keys_to_structures/keystostructures/store/TimedEntry" "deadline" "J" (.long da1) ∧ Fld Z h a1 "com/example/keys_to_structures/keystostructures/store/TimedEntry" "position" "I" (.int (0 : Int32))
set_option maxRecDepth 65536 in
set_option maxHeartbeats 40000000 in
theorem rmAd0 (l : Launch) (Z : State) (aV : Array Value) (hw : ∀ d ∈ tables_1, d.before aV Z = true) (ws : List Jvm.Cond) (a0 : Addr) (a1 : Addr) (hp : Addr) (kA : ClassId) (v0 : Value) (v1 : Value) (v2 : Value) (da1 : Int64) (pa1 : Int32) (h0 : Heap) (n0 : Nat) (Zn : n0 ≤ h0.size) (g_a0 : n0 ≤ a0) (g_hp : n0 ≤ hp) (O_kA : Ovr Z kA "com/example/keys_to_structures/keystostructures/store/TimedEntry") (g_a1 : n0 ≤ a1) (E_a0 : Exa Z h0 a0 "com/example/keys_to_structures/keystostructures/store/ExpiryQueue") (F_heap : Fld Z h0 a0 "com/example/keys_to_structures/keystostructures/store/ExpiryQueue" "heap" "[Lcom/example/keys_to_structures/keystostructures/store/TimedEntry;" (.ref hp)) (F_size : Fld Z h0 a0 "com/example/keys_to_structures/keystostructures/store/ExpiryQueue" "size" "I" (.int (0 : Int32))) (V_hp : Arv Z h0 hp kA (.object "com/example/keys_to_structures/keystostructures/store/TimedEntry") (16 : Int32) [v0, v1, v2, .null, .null, .null, .null, .null, .null, .null, .null, .null, .null, .null, .null, .null] .null) (E_a1 : Exa Z h0 a1 "com/example/keys_to_structures/keystostructures/store/TimedEntry") (F_d_a1 : Fld Z h0 a1 "com/example/keys_to_structures/keystostructures/store/TimedEntry" "deadline" "J" (.long da1)) (F_p_a1 : Fld Z h0 a1 "com/example/keys_to_structures/keystostructures/store/TimedEntry" "position" "I" (.int pa1)) (ne_a0__hp : a0 ≠ hp) (ne_a0__a1 : a0 ≠ a1) (ne_hp__a1 : hp ≠ a1) :
    MetFree l (⟨"com/example/keys_to_structures/keystostructures/store/ExpiryQueue", "add", "(Lcom/example/keys_to_structures/keystostructures/store/TimedEntry;)V"⟩ : MethodName) (head1 (Jvm.Cond.code (⟨"com/example/keys_to_structures/keystostructures/store/ExpiryQueue", "add", "(Lcom/example/keys_to_structures/keystostructures/store/TimedEntry;)V"⟩ : MethodName) prog_43_method_3_code 2 none :: ws) ({ frames := 3, cells := 0, slots := 0, locals := 43 } : Room)) (fun a U => a = #[(.ref a0), (.ref a1)] ∧ Z.Warmed39 U.vm ∧ U.heap = h0) (fun _ _ _ _ _ => True) (fun _ U o U' => ∃ v L, o = .returned v ∧ QAd0 Z a0 a1 hp kA v0 v1 v2 da1 pa1 h0 n0 v U'.heap L ∧ FrameEnd U o U' L ({ frames := 3, cells := 0, slots := 0, locals := 43 } : Room).cells ({ frames := 3, cells := 0, slots := 0, locals := 43 } : Room).slots) := by
  refine MetFree.of_bodySF (plainFor_of_name pn_3) hisR ?_
  intro p e s m args below meth c s₁ Bd hml0 hP hK
  obtain ⟨rfl, hZ, hh⟩ := hP
  have hx := Bd.exec
  have hby := Bd.bytes
  have hml : c.maxLocals = 2 := hml0
  have hown : s.vm.findClass "com/example/keys_to_structures/keystostructures/store/ExpiryQueue" = some m.cls := findClass_of_methodNamed Bd.named
  have hnm := (name_of_methodNamed Bd.named Bd.method).1
  have X0 : Stand p l e ({ frames := 3, cells := 0, slots := 0, locals := 43 } : Room) s m #[(.ref a0), (.ref a1)] below meth c s₁ [] 0 0 := Stand.of_body Bd
  have e0 : s₁.heap = h0 := by rw [← hh, Bd.state]; rfl
  have N0 := Fr.nil n0
  have Kp := Keep.refl h0 [a0, hp, a1]
  show Run p e below (Ends s (QAd0 Z a0 a1 hp kA v0 v1 v2 da1 pa1 h0 n0) ({ frames := 3, cells := 0, slots := 0, locals := 43 } : Room).cells ({ frames := 3, cells := 0, slots := 0, locals := 43 } : Room).slots) _
  refine Run.st (S' := s₁.setTop (mkF m 0 #[.val (.ref a0), .val (.ref a1)] [])) (fun t k => castTop (ef_Ad0 m a0 a1) k) ?_
  refine Run.st (S' := s₁.setTop (mkF m 1 #[.val (.ref a0), .val (.ref a1)] [(.ref a0)])) (fun _ k => XS.aloadN X0.here hx rfl (hb hby d9_0) rfl rfl k) ?_
  obtain ⟨T1, X1, e1, st1⟩ := getF X0 hx hZ hown (host := "") (Or.inl (hw _ (List.mem_of_getElem? (i := 46) rfl))) Via.refl e0 F_size (g := (mkF m 1 #[.val (.ref a0), .val (.ref a1)] [(.ref a0)])) rfl rfl (hb hby d9_1)
  refine Run.st (S' := T1.setTop (mkF m 5 #[.val (.ref a0), .val (.ref a1)] [(.ref a0), (.int (0 : Int32))])) (fun _ k => st1 _ (XS.aloadN X1.here hx rfl (hb hby d9_4) rfl rfl k)) ?_
  obtain ⟨T2, X2, e2, st2⟩ := getF X1 hx hZ hown (host := "") (Or.inl (hw _ (List.mem_of_getElem? (i := 11) rfl))) Via.refl e1 F_heap (g := (mkF m 5 #[.val (.ref a0), .val (.ref a1)] [(.ref a0), (.int (0 : Int32))])) rfl rfl (hb hby d9_5)
  refine Run.st (S' := T2.setTop (mkF m 8 #[.val (.ref a0), .val (.ref a1)] [(.ref hp), (.int (0 : Int32))])) (fun _ k => st2 _ k) ?_
  obtain ⟨cl3, Ar3, -, Sa3, Na3, -, -⟩ := id V_hp
  refine Run.st (S' := T2.setTop (mkF m 9 #[.val (.ref a0), .val (.ref a1)] [(.int (16 : Int32)), (.int (0 : Int32))])) (fun _ k => X2.arraylength hx (by rw [e2]; exact Ar3.1) (State.isArrayOf_alike hZ.alike Ar3.2.1) (g := (mkF m 8 #[.val (.ref a0), .val (.ref a1)] [(.ref hp), (.int (0 : Int32))])) rfl rfl (hb hby d9_8) _ (by rw [len_of Sa3 Na3]; exact k)) ?_
  refine Run.st (S' := T2.setTop (mkF m 25 #[.val (.ref a0), .val (.ref a1)] [(.ref a0), (.ref a0)])) (fun _ k => XS.icmpYes X2.here hx rfl (pc0 := 9) (pc' := 23) rfl (hb hby d9_9) rfl (feq (show ¬ ((0 : Int32) = (16 : Int32)) from (by decide))).2 (by decide) (by decide) (XS.aloadN X2.here hx rfl (hb hby d9_23) rfl rfl (XS.dup X2.here hx rfl (hb hby d9_24) rfl rfl k))) ?_
  obtain ⟨T4, X4, e4, st4⟩ := getF X2 hx hZ hown (host := "") (Or.inl (hw _ (List.mem_of_getElem? (i := 46) rfl))) Via.refl e2 F_size (g := (mkF m 25 #[.val (.ref a0), .val (.ref a1)] [(.ref a0), (.ref a0)])) rfl rfl (hb hby d9_25)
  refine Run.st (S' := T4.setTop (mkF m 30 #[.val (.ref a0), .val (.ref a1)] [(.int (1 : Int32)), (.ref a0)])) (fun _ k => st4 _ (XS.iconst X4.here hx rfl (hb hby d9_28) (XS.iadd X4.here hx rfl (hb hby d9_29) rfl k))) ?_
  obtain ⟨T5, h5, X5, e5, W5, st5⟩ := putF X4 hx hZ hown (host := "") (Or.inl (hw _ (List.mem_of_getElem? (i := 46) rfl))) Via.refl e4 F_size E_a0 (Or.inl (hw _ (List.mem_of_getElem? (i := 47) rfl))) (hw _ (List.mem_of_getElem? (i := 1) rfl)) (ty := .int) (by decide) rfl rfl (g := (mkF m 30 #[.val (.ref a0), .val (.ref a1)] [(.int (1 : Int32)), (.ref a0)])) rfl rfl (hb hby d9_30)
  have F_size := F_size.same W5
  have E_a0 := E_a0.wr W5
  have F_heap := F_heap.other W5 (Or.inr (slot_ne (Or.inl (hw _ (List.mem_of_getElem? (i := 12) rfl))) (Or.inl (hw _ (List.mem_of_getElem? (i := 47) rfl))) (by decide) (t := (.array (.object "com/example/keys_to_structures/keystostructures/store/TimedEntry"))) (t' := .int) (by decide) (by decide)))
  have V_hp := V_hp.other W5 (Ne.symm ne_a0__hp)
  have E_a1 := E_a1.wr W5
  have F_d_a1 := F_d_a1.other W5 (Or.inl (Ne.symm ne_a0__a1))
  have F_p_a1 := F_p_a1.other W5 (Or.inl (Ne.symm ne_a0__a1))
  have N5 := Fr.snoc X5 N0 g_a0
  have Kp := Kp.wr W5 (Or.inl (by simp))
  have Zn := Nat.le_trans Zn (Nat.le_of_eq W5.size.symm)
  refine Run.st (S' := T5.setTop (mkF m 36 #[.val (.ref a0), .val (.ref a1)] [(.ref a0), (.ref a1), (.ref a0)])) (fun _ k => st5 _ (XS.aloadN X5.here hx rfl (hb hby d9_33) rfl rfl (XS.aloadN X5.here hx rfl (hb hby d9_34) rfl rfl (XS.aloadN X5.here hx rfl (hb hby d9_35) rfl rfl k)))) ?_
  obtain ⟨T6, X6, e6, st6⟩ := getF X5 hx hZ hown (host := "") (Or.inl (hw _ (List.mem_of_getElem? (i := 46) rfl))) Via.refl e5 F_size (g := (mkF m 36 #[.val (.ref a0), .val (.ref a1)] [(.ref a0), (.ref a1), (.ref a0)])) rfl rfl (hb hby d9_36)
  refine Run.st (S' := T6.setTop (mkF m 41 #[.val (.ref a0), .val (.ref a1)] [(.int (0 : Int32)), (.ref a1), (.ref a0)])) (fun _ k => st6 _ (XS.iconst X6.here hx rfl (hb hby d9_39) (XS.isub X6.here hx rfl (hb hby d9_40) rfl k))) ?_
  obtain ⟨cq7, q7, q7'⟩ := E_a0.cell
  obtain ⟨_, _, ⟨T7, L7, k7, n7⟩, -, X7, ⟨Lc7, hQ7, l7, y7, z7⟩, st7⟩ := X6.privateBack hx (y := (⟨"com/example/keys_to_structures/keystostructures/store/ExpiryQueue", "moveUp", "(Lcom/example/keys_to_structures/keystostructures/store/TimedEntry;I)V"⟩ : MethodName)) hown (mvT hZ (hw _ (List.mem_of_getElem? (i := 58) rfl))) (mvT hZ (hw _ (List.mem_of_getElem? (i := 59) rfl))) (selSelf (y := (⟨"com/example/keys_to_structures/keystostructures/store/ExpiryQueue", "moveUp", "(Lcom/example/keys_to_structures/keystostructures/store/TimedEntry;I)V"⟩ : MethodName)) (mvT hZ (hw _ (List.mem_of_getElem? (i := 1) rfl))) (Cond.privateMethod_at (mvP hZ (hw _ (List.mem_of_getElem? (i := 60) rfl)) (args := #[]))) (mvT hZ (hw _ (List.mem_of_getElem? (i := 59) rfl))) (by decide)) (Cond.privateMethod_at (mvP hZ (hw _ (List.mem_of_getElem? (i := 60) rfl)) (args := #[]))) (mvT hZ (hw _ (List.mem_of_getElem? (i := 61) rfl))) (by decide) (backOf (W := 0) (rmMu0 l Z aV hw [] a0 a1 hp kA v0 v1 v2 da1 pa1 h5 n0 Zn g_hp O_kA g_a1 E_a0 F_heap V_hp E_a1 F_d_a1 F_p_a1 ne_a0__hp ne_a0__a1 ne_hp__a1) hZ (hw _ (List.mem_of_getElem? (i := 61) rfl)) (hw _ (List.mem_of_getElem? (i := 2) rfl)) (by decide) (by decide)) (g := (mkF m 41 #[.val (.ref a0), .val (.ref a1)] [(.int (0 : Int32)), (.ref a1), (.ref a0)])) rfl (by rw [hml]; rfl) (Steps.refl _) (a := a0) (by rw [e6]; exact q7) q7' (argsL := [(.ref a1), (.int (0 : Int32))]) (rest := []) (lenOf pd_3 rfl) rfl (by show 2 * 0 + _ ≤ _; exact Nat.le_of_eq rfl) (hb hby d9_41) (fun _ _ => ⟨rfl, e6, (by decide : 0 + 0 ≤ _), (by decide : 0 + 0 ≤ _)⟩)
  dsimp only [Pt.U, Pt.locs, Pt.cells, Pt.slots] at X7 l7 y7 z7 st7 hQ7
  subst l7 y7 z7
  obtain ⟨rfl, N7q, K7, q7_0, q7_1, q7_2, q7_3⟩ := hQ7
  have E_a0 := E_a0.keep K7
  have F_heap := F_heap.keep K7 (ninS ne_a0__hp (ninS ne_a0__a1 nin0))
  have F_size := F_size.keep K7 (ninS ne_a0__hp (ninS ne_a0__a1 nin0))
  have V_hp := q7_0
  have E_a1 := q7_1
  have F_d_a1 := q7_2
  have F_p_a1 := q7_3
  have Kp := Kp.trans K7 (allS (Or.inl (by simp)) (allS (Or.inl (by simp)) all0))
  have Zn := Nat.le_trans Zn K7.1
  have N7 := Fr.app N5 N7q
  refine Run.st (S' := T7.setTop (mkF m 44 #[.val (.ref a0), .val (.ref a1)] [])) (fun _ k => st7.trans k) ?_
  refine Run.outV X7 hx Bd.notSynchronized Bd.returns (hb hby d9_44) (by decide) (by decide) ?_
  exact ⟨rfl, N7, Kp, E_a0, F_heap, F_size, V_hp, E_a1, F_d_a1, F_p_a1⟩
theorem ef_Ad1 (m : MethodId) (a0 : Addr) (a1 : Addr) : entryFrame m #[(.ref a0), (.ref a1)] 2 = mkF m 0 #[.val (.ref a0), .val (.ref a1)] [] := by first | (simp [entryFrame, mkF, argsToLocals, Value.category]; done) | rfl
def QAd1 (Z : State) (a0 : Addr) (a1 : Addr) (hp : Addr) (kA : ClassId) (v1 : Value) (v2 : Value) (da1 : Int64) (pa1 : Int32) (x0 : Addr) (dx0 : Int64) (px0 : Int32) (h0 : Heap) (n0 : Nat) (v : Option Value) (h : Heap) (L : List Loc) : Prop := v = none ∧ Fr n0 L ∧ Keep h0 h [a0, hp, a1] ∧ Exa Z h a0 "com/example/keys_to_structures/keystostructures/store/ExpiryQueue" ∧ Fld Z h a0 "com/example/keys_to_structures/keystostructures/store/ExpiryQueue" "heap" "[Lcom/example/keys_to_structures/keystostructures/store/TimedEntry;" (.ref hp) ∧ Fld Z h a0 "com/example/keys_to_structures/keystostructures/store/ExpiryQueue" "size" "I" (.int (2 : Int32)) ∧ Arv Z h hp kA (.object "com/example/keys_to_structures/keystostructures/store/TimedEntry") (16 : Int32) [(.ref x0), (.ref a1), v2, .null, .null, .null, .null, .null, .null, .null, .null, .null, .null, .null, .null, .null] .null ∧ Exa Z h a1 "com/example/keys_to_structures/keystostructures/store/TimedEntry" ∧ Fld Z h a1 "com/example/keys_to_structures/keystostructures/store/TimedEntry" "deadline" "J" (.long da1) ∧ Fld Z h a1 "com/example/keys_to_structures/keystostructures/store/TimedEntry" "position" "I" (.int (1 : Int32))
set_option maxRecDepth 65536 in
set_option maxHeartbeats 40000000 in
theorem rmAd1 (l : Launch) (Z : State) (aV : Array Value) (hw : ∀ d ∈ tables_1, d.before aV Z = true) (ws : List Jvm.Cond) (a0 : Addr) (a1 : Addr) (hp : Addr) (kA : ClassId) (v1 : Value) (v2 : Value) (da1 : Int64) (pa1 : Int32) (x0 : Addr) (dx0 : Int64) (px0 : Int32) (h0 : Heap) (n0 : Nat) (Zn : n0 ≤ h0.size) (g_a0 : n0 ≤ a0) (g_hp : n0 ≤ hp) (O_kA : Ovr Z kA "com/example/keys_to_structures/keystostructures/store/TimedEntry") (g_a1 : n0 ≤ a1) (g_x0 : n0 ≤ x0) (E_a0 : Exa Z h0 a0 "com/example/keys_to_structures/keystostructures/store/ExpiryQueue") (F_heap : Fld Z h0 a0 "com/example/keys_to_structures/keystostructures/store/ExpiryQueue" "heap" "[Lcom/example/keys_to_structures/keystostructures/store/TimedEntry;" (.ref hp)) (F_size : Fld Z h0 a0 "com/example/keys_to_structures/keystostructures/store/ExpiryQueue" "size" "I" (.int (1 : Int32))) (V_hp : Arv Z h0 hp kA (.object "com/example/keys_to_structures/keystostructures/store/TimedEntry") (16 : Int32) [(.ref x0), v1, v2, .null, .null, .null, .null, .null, .null, .null, .null, .null, .null, .null, .null, .null] .null) (E_a1 : Exa Z h0 a1 "com/example/keys_to_structures/keystostructures/store/TimedEntry") (F_d_a1 : Fld Z h0 a1 "com/example/keys_to_structures/keystostructures/store/TimedEntry" "deadline" "J" (.long da1)) (F_p_a1 : Fld Z h0 a1 "com/example/keys_to_structures/keystostructures/store/TimedEntry" "position" "I" (.int pa1)) (E_x0 : Exa Z h0 x0 "com/example/keys_to_structures/keystostructures/store/TimedEntry") (F_d_x0 : Fld Z h0 x0 "com/example/keys_to_structures/keystostructures/store/TimedEntry" "deadline" "J" (.long dx0)) (F_p_x0 : Fld Z h0 x0 "com/example/keys_to_structures/keystostructures/store/TimedEntry" "position" "I" (.int px0)) (ne_a0__hp : a0 ≠ hp) (ne_a0__a1 : a0 ≠ a1) (ne_a0__x0 : a0 ≠ x0) (ne_hp__a1 : hp ≠ a1) (ne_hp__x0 : hp ≠ x0) (ne_a1__x0 : a1 ≠ x0) (hsw : ¬ (da1 < dx0)) :
    MetFree l (⟨"com/example/keys_to_structures/keystostructures/store/ExpiryQueue", "add", "(Lcom/example/keys_to_structures/keystostructures/store/TimedEntry;)V"⟩ : MethodName) (head1 (Jvm.Cond.code (⟨"com/example/keys_to_structures/keystostructures/store/ExpiryQueue", "add", "(Lcom/example/keys_to_structures/keystostructures/store/TimedEntry;)V"⟩ : MethodName) prog_43_method_3_code 2 none :: ws) ({ frames := 3, cells := 0, slots := 0, locals := 43 } : Room)) (fun a U => a = #[(.ref a0), (.ref a1)] ∧ Z.Warmed39 U.vm ∧ U.heap = h0) (fun _ _ _ _ _ => True) (fun _ U o U' => ∃ v L, o = .returned v ∧ QAd1 Z a0 a1 hp kA v1 v2 da1 pa1 x0 dx0 px0 h0 n0 v U'.heap L ∧ FrameEnd U o U' L ({ frames := 3, cells := 0, slots := 0, locals := 43 } : Room).cells ({ frames := 3, cells := 0, slots := 0, locals := 43 } : Room).slots) := by
  refine MetFree.of_bodySF (plainFor_of_name pn_3) hisR ?_
  intro p e s m args below meth c s₁ Bd hml0 hP hK
  obtain ⟨rfl, hZ, hh⟩ := hP
  have hx := Bd.exec
  have hby := Bd.bytes
  have hml : c.maxLocals = 2 := hml0
  have hown : s.vm.findClass "com/example/keys_to_structures/keystostructures/store/ExpiryQueue" = some m.cls := findClass_of_methodNamed Bd.named
  have hnm := (name_of_methodNamed Bd.named Bd.method).1
  have X0 : Stand p l e ({ frames := 3, cells := 0, slots := 0, locals := 43 } : Room) s m #[(.ref a0), (.ref a1)] below meth c s₁ [] 0 0 := Stand.of_body Bd
  have e0 : s₁.heap = h0 := by rw [← hh, Bd.state]; rfl
  have N0 := Fr.nil n0
  have Kp := Keep.refl h0 [a0, hp, a1]
  show Run p e below (Ends s (QAd1 Z a0 a1 hp kA v1 v2 da1 pa1 x0 dx0 px0 h0 n0) ({ frames := 3, cells := 0, slots := 0, locals := 43 } : Room).cells ({ frames := 3, cells := 0, slots := 0, locals := 43 } : Room).slots) _
  refine Run.st (S' := s₁.setTop (mkF m 0 #[.val (.ref a0), .val (.ref a1)] [])) (fun t k => castTop (ef_Ad1 m a0 a1) k) ?_
  refine Run.st (S' := s₁.setTop (mkF m 1 #[.val (.ref a0), .val (.ref a1)] [(.ref a0)])) (fun _ k => XS.aloadN X0.here hx rfl (hb hby d9_0) rfl rfl k) ?_
  obtain ⟨T1, X1, e1, st1⟩ := getF X0 hx hZ hown (host := "") (Or.inl (hw _ (List.mem_of_getElem? (i := 46) rfl))) Via.refl e0 F_size (g := (mkF m 1 #[.val (.ref a0), .val (.ref a1)] [(.ref a0)])) rfl rfl (hb hby d9_1)
  refine Run.st (S' := T1.setTop (mkF m 5 #[.val (.ref a0), .val (.ref a1)] [(.ref a0), (.int (1 : Int32))])) (fun _ k => st1 _ (XS.aloadN X1.here hx rfl (hb hby d9_4) rfl rfl k)) ?_
  obtain ⟨T2, X2, e2, st2⟩ := getF X1 hx hZ hown (host := "") (Or.inl (hw _ (List.mem_of_getElem? (i := 11) rfl))) Via.refl e1 F_heap (g := (mkF m 5 #[.val (.ref a0), .val (.ref a1)] [(.ref a0), (.int (1 : Int32))])) rfl rfl (hb hby d9_5)
  refine Run.st (S' := T2.setTop (mkF m 8 #[.val (.ref a0), .val (.ref a1)] [(.ref hp), (.int (1 : Int32))])) (fun _ k => st2 _ k) ?_
  obtain ⟨cl3, Ar3, -, Sa3, Na3, -, -⟩ := id V_hp
  refine Run.st (S' := T2.setTop (mkF m 9 #[.val (.ref a0), .val (.ref a1)] [(.int (16 : Int32)), (.int (1 : Int32))])) (fun _ k => X2.arraylength hx (by rw [e2]; exact Ar3.1) (State.isArrayOf_alike hZ.alike Ar3.2.1) (g := (mkF m 8 #[.val (.ref a0), .val (.ref a1)] [(.ref hp), (.int (1 : Int32))])) rfl rfl (hb hby d9_8) _ (by rw [len_of Sa3 Na3]; exact k)) ?_
  refine Run.st (S' := T2.setTop (mkF m 25 #[.val (.ref a0), .val (.ref a1)] [(.ref a0), (.ref a0)])) (fun _ k => XS.icmpYes X2.here hx rfl (pc0 := 9) (pc' := 23) rfl (hb hby d9_9) rfl (feq (show ¬ ((1 : Int32) = (16 : Int32)) from (by decide))).2 (by decide) (by decide) (XS.aloadN X2.here hx rfl (hb hby d9_23) rfl rfl (XS.dup X2.here hx rfl (hb hby d9_24) rfl rfl k))) ?_
  obtain ⟨T4, X4, e4, st4⟩ := getF X2 hx hZ hown (host := "") (Or.inl (hw _ (List.mem_of_getElem? (i := 46) rfl))) Via.refl e2 F_size (g := (mkF m 25 #[.val (.ref a0), .val (.ref a1)] [(.ref a0), (.ref a0)])) rfl rfl (hb hby d9_25)
  refine Run.st (S' := T4.setTop (mkF m 30 #[.val (.ref a0), .val (.ref a1)] [(.int (2 : Int32)), (.ref a0)])) (fun _ k => st4 _ (XS.iconst X4.here hx rfl (hb hby d9_28) (XS.iadd X4.here hx rfl (hb hby d9_29) rfl k))) ?_
  obtain ⟨T5, h5, X5, e5, W5, st5⟩ := putF X4 hx hZ hown (host := "") (Or.inl (hw _ (List.mem_of_getElem? (i := 46) rfl))) Via.refl e4 F_size E_a0 (Or.inl (hw _ (List.mem_of_getElem? (i := 47) rfl))) (hw _ (List.mem_of_getElem? (i := 1) rfl)) (ty := .int) (by decide) rfl rfl (g := (mkF m 30 #[.val (.ref a0), .val (.ref a1)] [(.int (2 : Int32)), (.ref a0)])) rfl rfl (hb hby d9_30)
  have F_size := F_size.same W5
  have E_a0 := E_a0.wr W5
  have F_heap := F_heap.other W5 (Or.inr (slot_ne (Or.inl (hw _ (List.mem_of_getElem? (i := 12) rfl))) (Or.inl (hw _ (List.mem_of_getElem? (i := 47) rfl))) (by decide) (t := (.array (.object "com/example/keys_to_structures/keystostructures/store/TimedEntry"))) (t' := .int) (by decide) (by decide)))
  have V_hp := V_hp.other W5 (Ne.symm ne_a0__hp)
  have E_a1 := E_a1.wr W5
  have F_d_a1 := F_d_a1.other W5 (Or.inl (Ne.symm ne_a0__a1))
  have F_p_a1 := F_p_a1.other W5 (Or.inl (Ne.symm ne_a0__a1))
  have E_x0 := E_x0.wr W5
  have F_d_x0 := F_d_x0.other W5 (Or.inl (Ne.symm ne_a0__x0))
  have F_p_x0 := F_p_x0.other W5 (Or.inl (Ne.symm ne_a0__x0))
  have N5 := Fr.snoc X5 N0 g_a0
  have Kp := Kp.wr W5 (Or.inl (by simp))
  have Zn := Nat.le_trans Zn (Nat.le_of_eq W5.size.symm)
  refine Run.st (S' := T5.setTop (mkF m 36 #[.val (.ref a0), .val (.ref a1)] [(.ref a0), (.ref a1), (.ref a0)])) (fun _ k => st5 _ (XS.aloadN X5.here hx rfl (hb hby d9_33) rfl rfl (XS.aloadN X5.here hx rfl (hb hby d9_34) rfl rfl (XS.aloadN X5.here hx rfl (hb hby d9_35) rfl rfl k)))) ?_
  obtain ⟨T6, X6, e6, st6⟩ := getF X5 hx hZ hown (host := "") (Or.inl (hw _ (List.mem_of_getElem? (i := 46) rfl))) Via.refl e5 F_size (g := (mkF m 36 #[.val (.ref a0), .val (.ref a1)] [(.ref a0), (.ref a1), (.ref a0)])) rfl rfl (hb hby d9_36)
  refine Run.st (S' := T6.setTop (mkF m 41 #[.val (.ref a0), .val (.ref a1)] [(.int (1 : Int32)), (.ref a1), (.ref a0)])) (fun _ k => st6 _ (XS.iconst X6.here hx rfl (hb hby d9_39) (XS.isub X6.here hx rfl (hb hby d9_40) rfl k))) ?_
  obtain ⟨cq7, q7, q7'⟩ := E_a0.cell
  obtain ⟨_, _, ⟨T7, L7, k7, n7⟩, -, X7, ⟨Lc7, hQ7, l7, y7, z7⟩, st7⟩ := X6.privateBack hx (y := (⟨"com/example/keys_to_structures/keystostructures/store/ExpiryQueue", "moveUp", "(Lcom/example/keys_to_structures/keystostructures/store/TimedEntry;I)V"⟩ : MethodName)) hown (mvT hZ (hw _ (List.mem_of_getElem? (i := 58) rfl))) (mvT hZ (hw _ (List.mem_of_getElem? (i := 59) rfl))) (selSelf (y := (⟨"com/example/keys_to_structures/keystostructures/store/ExpiryQueue", "moveUp", "(Lcom/example/keys_to_structures/keystostructures/store/TimedEntry;I)V"⟩ : MethodName)) (mvT hZ (hw _ (List.mem_of_getElem? (i := 1) rfl))) (Cond.privateMethod_at (mvP hZ (hw _ (List.mem_of_getElem? (i := 60) rfl)) (args := #[]))) (mvT hZ (hw _ (List.mem_of_getElem? (i := 59) rfl))) (by decide)) (Cond.privateMethod_at (mvP hZ (hw _ (List.mem_of_getElem? (i := 60) rfl)) (args := #[]))) (mvT hZ (hw _ (List.mem_of_getElem? (i := 61) rfl))) (by decide) (backOf (W := 0) (rmMu1 l Z aV hw [] a0 a1 hp kA v1 v2 da1 pa1 x0 dx0 px0 h5 n0 Zn g_hp O_kA g_a1 g_x0 E_a0 F_heap V_hp E_a1 F_d_a1 F_p_a1 E_x0 F_d_x0 F_p_x0 ne_a0__hp ne_a0__a1 ne_a0__x0 ne_hp__a1 ne_hp__x0 ne_a1__x0 hsw) hZ (hw _ (List.mem_of_getElem? (i := 61) rfl)) (hw _ (List.mem_of_getElem? (i := 2) rfl)) (by decide) (by decide)) (g := (mkF m 41 #[.val (.ref a0), .val (.ref a1)] [(.int (1 : Int32)), (.ref a1), (.ref a0)])) rfl (by rw [hml]; rfl) (Steps.refl _) (a := a0) (by rw [e6]; exact q7) q7' (argsL := [(.ref a1), (.int (1 : Int32))]) (rest := []) (lenOf pd_3 rfl) rfl (by show 2 * 0 + _ ≤ _; exact Nat.le_of_eq rfl) (hb hby d9_41) (fun _ _ => ⟨rfl, e6, (by decide : 0 + 0 ≤ _), (by decide : 0 + 0 ≤ _)⟩)
  dsimp only [Pt.U, Pt.locs, Pt.cells, Pt.slots] at X7 l7 y7 z7 st7 hQ7
  subst l7 y7 z7
  obtain ⟨rfl, N7q, K7, q7_0, q7_1, q7_2, q7_3⟩ := hQ7
  have E_a0 := E_a0.keep K7
  have F_heap := F_heap.keep K7 (ninS ne_a0__hp (ninS ne_a0__a1 nin0))
  have F_size := F_size.keep K7 (ninS ne_a0__hp (ninS ne_a0__a1 nin0))
  have E_x0 := E_x0.keep K7
  have F_d_x0 := F_d_x0.keep K7 (ninS (Ne.symm ne_hp__x0) (ninS (Ne.symm ne_a1__x0) nin0))
  have F_p_x0 := F_p_x0.keep K7 (ninS (Ne.symm ne_hp__x0) (ninS (Ne.symm ne_a1__x0) nin0))
  have V_hp := q7_0
  have E_a1 := q7_1
  have F_d_a1 := q7_2
  have F_p_a1 := q7_3
  have Kp := Kp.trans K7 (allS (Or.inl (by simp)) (allS (Or.inl (by simp)) all0))
  have Zn := Nat.le_trans Zn K7.1
  have N7 := Fr.app N5 N7q
  refine Run.st (S' := T7.setTop (mkF m 44 #[.val (.ref a0), .val (.ref a1)] [])) (fun _ k => st7.trans k) ?_
  refine Run.outV X7 hx Bd.notSynchronized Bd.returns (hb hby d9_44) (by decide) (by decide) ?_
  exact ⟨rfl, N7, Kp, E_a0, F_heap, F_size, V_hp, E_a1, F_d_a1, F_p_a1⟩
theorem ef_Ad1s (m : MethodId) (a0 : Addr) (a1 : Addr) : entryFrame m #[(.ref a0), (.ref a1)] 2 = mkF m 0 #[.val (.ref a0), .val (.ref a1)] [] := by first | (simp [entryFrame, mkF, argsToLocals, Value.category]; done) | rfl
def QAd1s (Z : State) (a0 : Addr) (a1 : Addr) (hp : Addr) (kA : ClassId) (v1 : Value) (v2 : Value) (da1 : Int64) (pa1 : Int32) (x0 : Addr) (dx0 : Int64) (px0 : Int32) (h0 : Heap) (n0 : Nat) (v : Option Value) (h : Heap) (L : List Loc) : Prop := v = none ∧ Fr n0 L ∧ Keep h0 h [a0, hp, a1, x0] ∧ Exa Z h a0 "com/example/keys_to_structures/keystostructures/store/ExpiryQueue" ∧ Fld Z h a0 "com/example/keys_to_structures/keystostructures/store/ExpiryQueue" "heap" "[Lcom/example/keys_to_structures/keystostructures/store/TimedEntry;" (.ref hp) ∧ Fld Z h a0 "com/example/keys_to_structures/keystostructures/store/ExpiryQueue" "size" "I" (.int (2 : Int32)) ∧ Arv Z h hp kA (.object "com/example/keys_to_structures/keystostructures/store/TimedEntry") (16 : Int32) [(.ref a1), (.ref x0), v2, .null, .null, .null, .null, .null, .null, .null, .null, .null, .null, .null, .null, .null] .null ∧ Exa Z h a1 "com/example/keys_to_structures/keystostructures/store/TimedEntry" ∧ Fld Z h a1 "com/example/keys_to_structures/keystostructures/store/TimedEntry" "deadline" "J" (.long da1) ∧ Fld Z h a1 "com/example/keys_to_structures/keystostructures/store/TimedEntry" "position" "I" (.int (0 : Int32)) ∧ Exa Z h x0 "com/example/keys_to_structures/keystostructures/store/TimedEntry" ∧ Fld Z h x0 "com/example/keys_to_structures/keystostructures/store/TimedEntry" "deadline" "J" (.long dx0) ∧ Fld Z h x0 "com/example/keys_to_structures/keystostructures/store/TimedEntry" "position" "I" (.int (1 : Int32))
set_option maxRecDepth 65536 in
set_option maxHeartbeats 40000000 in
theorem rmAd1s (l : Launch) (Z : State) (aV : Array Value) (hw : ∀ d ∈ tables_1, d.before aV Z = true) (ws : List Jvm.Cond) (a0 : Addr) (a1 : Addr) (hp : Addr) (kA : ClassId) (v1 : Value) (v2 : Value) (da1 : Int64) (pa1 : Int32) (x0 : Addr) (dx0 : Int64) (px0 : Int32) (h0 : Heap) (n0 : Nat) (Zn : n0 ≤ h0.size) (g_a0 : n0 ≤ a0) (g_hp : n0 ≤ hp) (O_kA : Ovr Z kA "com/example/keys_to_structures/keystostructures/store/TimedEntry") (g_a1 : n0 ≤ a1) (g_x0 : n0 ≤ x0) (E_a0 : Exa Z h0 a0 "com/example/keys_to_structures/keystostructures/store/ExpiryQueue") (F_heap : Fld Z h0 a0 "com/example/keys_to_structures/keystostructures/store/ExpiryQueue" "heap" "[Lcom/example/keys_to_structures/keystostructures/store/TimedEntry;" (.ref hp)) (F_size : Fld Z h0 a0 "com/example/keys_to_structures/keystostructures/store/ExpiryQueue" "size" "I" (.int (1 : Int32))) (V_hp : Arv Z h0 hp kA (.object "com/example/keys_to_structures/keystostructures/store/TimedEntry") (16 : Int32) [(.ref x0), v1, v2, .null, .null, .null, .null, .null, .null, .null, .null, .null, .null, .null, .null, .null] .null) (E_a1 : Exa Z h0 a1 "com/example/keys_to_structures/keystostructures/store/TimedEntry") (F_d_a1 : Fld Z h0 a1 "com/example/keys_to_structures/keystostructures/store/TimedEntry" "deadline" "J" (.long da1)) (F_p_a1 : Fld Z h0 a1 "com/example/keys_to_structures/keystostructures/store/TimedEntry" "position" "I" (.int pa1)) (E_x0 : Exa Z h0 x0 "com/example/keys_to_structures/keystostructures/store/TimedEntry") (F_d_x0 : Fld Z h0 x0 "com/example/keys_to_structures/keystostructures/store/TimedEntry" "deadline" "J" (.long dx0)) (F_p_x0 : Fld Z h0 x0 "com/example/keys_to_structures/keystostructures/store/TimedEntry" "position" "I" (.int px0)) (ne_a0__hp : a0 ≠ hp) (ne_a0__a1 : a0 ≠ a1) (ne_a0__x0 : a0 ≠ x0) (ne_hp__a1 : hp ≠ a1) (ne_hp__x0 : hp ≠ x0) (ne_a1__x0 : a1 ≠ x0) (hsw : da1 < dx0) :
    MetFree l (⟨"com/example/keys_to_structures/keystostructures/store/ExpiryQueue", "add", "(Lcom/example/keys_to_structures/keystostructures/store/TimedEntry;)V"⟩ : MethodName) (head1 (Jvm.Cond.code (⟨"com/example/keys_to_structures/keystostructures/store/ExpiryQueue", "add", "(Lcom/example/keys_to_structures/keystostructures/store/TimedEntry;)V"⟩ : MethodName) prog_43_method_3_code 2 none :: ws) ({ frames := 3, cells := 0, slots := 0, locals := 43 } : Room)) (fun a U => a = #[(.ref a0), (.ref a1)] ∧ Z.Warmed39 U.vm ∧ U.heap = h0) (fun _ _ _ _ _ => True) (fun _ U o U' => ∃ v L, o = .returned v ∧ QAd1s Z a0 a1 hp kA v1 v2 da1 pa1 x0 dx0 px0 h0 n0 v U'.heap L ∧ FrameEnd U o U' L ({ frames := 3, cells := 0, slots := 0, locals := 43 } : Room).cells ({ frames := 3, cells := 0, slots := 0, locals := 43 } : Room).slots) := by
  refine MetFree.of_bodySF (plainFor_of_name pn_3) hisR ?_
  intro p e s m args below meth c s₁ Bd hml0 hP hK
  obtain ⟨rfl, hZ, hh⟩ := hP
  have hx := Bd.exec
  have hby := Bd.bytes
  have hml : c.maxLocals = 2 := hml0
  have hown : s.vm.findClass "com/example/keys_to_structures/keystostructures/store/ExpiryQueue" = some m.cls := findClass_of_methodNamed Bd.named
  have hnm := (name_of_methodNamed Bd.named Bd.method).1
  have X0 : Stand p l e ({ frames := 3, cells := 0, slots := 0, locals := 43 } : Room) s m #[(.ref a0), (.ref a1)] below meth c s₁ [] 0 0 := Stand.of_body Bd
  have e0 : s₁.heap = h0 := by rw [← hh, Bd.state]; rfl
  have N0 := Fr.nil n0
  have Kp := Keep.refl h0 [a0, hp, a1, x0]
  show Run p e below (Ends s (QAd1s Z a0 a1 hp kA v1 v2 da1 pa1 x0 dx0 px0 h0 n0) ({ frames := 3, cells := 0, slots := 0, locals := 43 } : Room).cells ({ frames := 3, cells := 0, slots := 0, locals := 43 } : Room).slots) _
  refine Run.st (S' := s₁.setTop (mkF m 0 #[.val (.ref a0), .val (.ref a1)] [])) (fun t k => castTop (ef_Ad1s m a0 a1) k) ?_
  refine Run.st (S' := s₁.setTop (mkF m 1 #[.val (.ref a0), .val (.ref a1)] [(.ref a0)])) (fun _ k => XS.aloadN X0.here hx rfl (hb hby d9_0) rfl rfl k) ?_
  obtain ⟨T1, X1, e1, st1⟩ := getF X0 hx hZ hown (host := "") (Or.inl (hw _ (List.mem_of_getElem? (i := 46) rfl))) Via.refl e0 F_size (g := (mkF m 1 #[.val (.ref a0), .val (.ref a1)] [(.ref a0)])) rfl rfl (hb hby d9_1)
  refine Run.st (S' := T1.setTop (mkF m 5 #[.val (.ref a0), .val (.ref a1)] [(.ref a0), (.int (1 : Int32))])) (fun _ k => st1 _ (XS.aloadN X1.here hx rfl (hb hby d9_4) rfl rfl k)) ?_
  obtain ⟨T2, X2, e2, st2⟩ := getF X1 hx hZ hown (host := "") (Or.inl (hw _ (List.mem_of_getElem? (i := 11) rfl))) Via.refl e1 F_heap (g := (mkF m 5 #[.val (.ref a0), .val (.ref a1)] [(.ref a0), (.int (1 : Int32))])) rfl rfl (hb hby d9_5)
  refine Run.st (S' := T2.setTop (mkF m 8 #[.val (.ref a0), .val (.ref a1)] [(.ref hp), (.int (1 : Int32))])) (fun _ k => st2 _ k) ?_
  obtain ⟨cl3, Ar3, -, Sa3, Na3, -, -⟩ := id V_hp
  refine Run.st (S' := T2.setTop (mkF m 9 #[.val (.ref a0), .val (.ref a1)] [(.int (16 : Int32)), (.int (1 : Int32))])) (fun _ k => X2.arraylength hx (by rw [e2]; exact Ar3.1) (State.isArrayOf_alike hZ.alike Ar3.2.1) (g := (mkF m 8 #[.val (.ref a0), .val (.ref a1)] [(.ref hp), (.int (1 : Int32))])) rfl rfl (hb hby d9_8) _ (by rw [len_of Sa3 Na3]; exact k)) ?_
  refine Run.st (S' := T2.setTop (mkF m 25 #[.val (.ref a0), .val (.ref a1)] [(.ref a0), (.ref a0)])) (fun _ k => XS.icmpYes X2.here hx rfl (pc0 := 9) (pc' := 23) rfl (hb hby d9_9) rfl (feq (show ¬ ((1 : Int32) = (16 : Int32)) from (by decide))).2 (by decide) (by decide) (XS.aloadN X2.here hx rfl (hb hby d9_23) rfl rfl (XS.dup X2.here hx rfl (hb hby d9_24) rfl rfl k))) ?_
  obtain ⟨T4, X4, e4, st4⟩ := getF X2 hx hZ hown (host := "") (Or.inl (hw _ (List.mem_of_getElem? (i := 46) rfl))) Via.refl e2 F_size (g := (mkF m 25 #[.val (.ref a0), .val (.ref a1)] [(.ref a0), (.ref a0)])) rfl rfl (hb hby d9_25)
  refine Run.st (S' := T4.setTop (mkF m 30 #[.val (.ref a0), .val (.ref a1)] [(.int (2 : Int32)), (.ref a0)])) (fun _ k => st4 _ (XS.iconst X4.here hx rfl (hb hby d9_28) (XS.iadd X4.here hx rfl (hb hby d9_29) rfl k))) ?_
  obtain ⟨T5, h5, X5, e5, W5, st5⟩ := putF X4 hx hZ hown (host := "") (Or.inl (hw _ (List.mem_of_getElem? (i := 46) rfl))) Via.refl e4 F_size E_a0 (Or.inl (hw _ (List.mem_of_getElem? (i := 47) rfl))) (hw _ (List.mem_of_getElem? (i := 1) rfl)) (ty := .int) (by decide) rfl rfl (g := (mkF m 30 #[.val (.ref a0), .val (.ref a1)] [(.int (2 : Int32)), (.ref a0)])) rfl rfl (hb hby d9_30)
  have F_size := F_size.same W5
  have E_a0 := E_a0.wr W5
  have F_heap := F_heap.other W5 (Or.inr (slot_ne (Or.inl (hw _ (List.mem_of_getElem? (i := 12) rfl))) (Or.inl (hw _ (List.mem_of_getElem? (i := 47) rfl))) (by decide) (t := (.array (.object "com/example/keys_to_structures/keystostructures/store/TimedEntry"))) (t' := .int) (by decide) (by decide)))
  have V_hp := V_hp.other W5 (Ne.symm ne_a0__hp)
  have E_a1 := E_a1.wr W5
  have F_d_a1 := F_d_a1.other W5 (Or.inl (Ne.symm ne_a0__a1))
  have F_p_a1 := F_p_a1.other W5 (Or.inl (Ne.symm ne_a0__a1))
  have E_x0 := E_x0.wr W5
  have F_d_x0 := F_d_x0.other W5 (Or.inl (Ne.symm ne_a0__x0))
  have F_p_x0 := F_p_x0.other W5 (Or.inl (Ne.symm ne_a0__x0))
  have N5 := Fr.snoc X5 N0 g_a0
  have Kp := Kp.wr W5 (Or.inl (by simp))
  have Zn := Nat.le_trans Zn (Nat.le_of_eq W5.size.symm)
  refine Run.st (S' := T5.setTop (mkF m 36 #[.val (.ref a0), .val (.ref a1)] [(.ref a0), (.ref a1), (.ref a0)])) (fun _ k => st5 _ (XS.aloadN X5.here hx rfl (hb hby d9_33) rfl rfl (XS.aloadN X5.here hx rfl (hb hby d9_34) rfl rfl (XS.aloadN X5.here hx rfl (hb hby d9_35) rfl rfl k)))) ?_
  obtain ⟨T6, X6, e6, st6⟩ := getF X5 hx hZ hown (host := "") (Or.inl (hw _ (List.mem_of_getElem? (i := 46) rfl))) Via.refl e5 F_size (g := (mkF m 36 #[.val (.ref a0), .val (.ref a1)] [(.ref a0), (.ref a1), (.ref a0)])) rfl rfl (hb hby d9_36)
  refine Run.st (S' := T6.setTop (mkF m 41 #[.val (.ref a0), .val (.ref a1)] [(.int (1 : Int32)), (.ref a1), (.ref a0)])) (fun _ k => st6 _ (XS.iconst X6.here hx rfl (hb hby d9_39) (XS.isub X6.here hx rfl (hb hby d9_40) rfl k))) ?_
  obtain ⟨cq7, q7, q7'⟩ := E_a0.cell
  obtain ⟨_, _, ⟨T7, L7, k7, n7⟩, -, X7, ⟨Lc7, hQ7, l7, y7, z7⟩, st7⟩ := X6.privateBack hx (y := (⟨"com/example/keys_to_structures/keystostructures/store/ExpiryQueue", "moveUp", "(Lcom/example/keys_to_structures/keystostructures/store/TimedEntry;I)V"⟩ : MethodName)) hown (mvT hZ (hw _ (List.mem_of_getElem? (i := 58) rfl))) (mvT hZ (hw _ (List.mem_of_getElem? (i := 59) rfl))) (selSelf (y := (⟨"com/example/keys_to_structures/keystostructures/store/ExpiryQueue", "moveUp", "(Lcom/example/keys_to_structures/keystostructures/store/TimedEntry;I)V"⟩ : MethodName)) (mvT hZ (hw _ (List.mem_of_getElem? (i := 1) rfl))) (Cond.privateMethod_at (mvP hZ (hw _ (List.mem_of_getElem? (i := 60) rfl)) (args := #[]))) (mvT hZ (hw _ (List.mem_of_getElem? (i := 59) rfl))) (by decide)) (Cond.privateMethod_at (mvP hZ (hw _ (List.mem_of_getElem? (i := 60) rfl)) (args := #[]))) (mvT hZ (hw _ (List.mem_of_getElem? (i := 61) rfl))) (by decide) (backOf (W := 0) (rmMu1s l Z aV hw [] a0 a1 hp kA v1 v2 da1 pa1 x0 dx0 px0 h5 n0 Zn g_hp O_kA g_a1 g_x0 E_a0 F_heap V_hp E_a1 F_d_a1 F_p_a1 E_x0 F_d_x0 F_p_x0 ne_a0__hp ne_a0__a1 ne_a0__x0 ne_hp__a1 ne_hp__x0 ne_a1__x0 hsw) hZ (hw _ (List.mem_of_getElem? (i := 61) rfl)) (hw _ (List.mem_of_getElem? (i := 2) rfl)) (by decide) (by decide)) (g := (mkF m 41 #[.val (.ref a0), .val (.ref a1)] [(.int (1 : Int32)), (.ref a1), (.ref a0)])) rfl (by rw [hml]; rfl) (Steps.refl _) (a := a0) (by rw [e6]; exact q7) q7' (argsL := [(.ref a1), (.int (1 : Int32))]) (rest := []) (lenOf pd_3 rfl) rfl (by show 2 * 0 + _ ≤ _; exact Nat.le_of_eq rfl) (hb hby d9_41) (fun _ _ => ⟨rfl, e6, (by decide : 0 + 0 ≤ _), (by decide : 0 + 0 ≤ _)⟩)
  dsimp only [Pt.U, Pt.locs, Pt.cells, Pt.slots] at X7 l7 y7 z7 st7 hQ7
  subst l7 y7 z7
  obtain ⟨rfl, N7q, K7, q7_0, q7_1, q7_2, q7_3, q7_4, q7_5, q7_6⟩ := hQ7
  have E_a0 := E_a0.keep K7
  have F_heap := F_heap.keep K7 (ninS ne_a0__hp (ninS ne_a0__a1 (ninS ne_a0__x0 nin0)))
  have F_size := F_size.keep K7 (ninS ne_a0__hp (ninS ne_a0__a1 (ninS ne_a0__x0 nin0)))
  have V_hp := q7_0
  have E_a1 := q7_1
  have F_d_a1 := q7_2
  have F_p_a1 := q7_3
  have E_x0 := q7_4
  have F_d_x0 := q7_5
  have F_p_x0 := q7_6
  have Kp := Kp.trans K7 (allS (Or.inl (by simp)) (allS (Or.inl (by simp)) (allS (Or.inl (by simp)) all0)))
  have Zn := Nat.le_trans Zn K7.1
  have N7 := Fr.app N5 N7q
  refine Run.st (S' := T7.setTop (mkF m 44 #[.val (.ref a0), .val (.ref a1)] [])) (fun _ k => st7.trans k) ?_
  refine Run.outV X7 hx Bd.notSynchronized Bd.returns (hb hby d9_44) (by decide) (by decide) ?_
  exact ⟨rfl, N7, Kp, E_a0, F_heap, F_size, V_hp, E_a1, F_d_a1, F_p_a1, E_x0, F_d_x0, F_p_x0⟩
theorem d8_0 : decode prog_43_method_2_code 0 = .ok (.aload_n 0, 1) := by decide +kernel
theorem d8_1 : decode prog_43_method_2_code 1 = .ok (.getfield 15, 3) := by decide +kernel
theorem d8_4 : decode prog_43_method_2_code 4 = .ok (.ifCond .ne 7, 3) := by decide +kernel
theorem d8_7 : decode prog_43_method_2_code 7 = .ok (.aconst_null, 1) := by decide +kernel
theorem d8_8 : decode prog_43_method_2_code 8 = .ok (.goto 9, 3) := by decide +kernel
theorem d8_17 : decode prog_43_method_2_code 17 = .ok (.areturn, 1) := by decide +kernel
theorem ef_Fi0 (m : MethodId) (a0 : Addr) : entryFrame m #[(.ref a0)] 1 = mkF m 0 #[.val (.ref a0)] [] := by first | (simp [entryFrame, mkF, argsToLocals, Value.category]; done) | rfl
def QFi0 (Z : State) (a0 : Addr) (hp : Addr) (kA : ClassId) (v0 : Value) (v1 : Value) (v2 : Value) (h0 : Heap) (n0 : Nat) (v : Option Value) (h : Heap) (L : List Loc) : Prop := v = some .null ∧ Fr n0 L ∧ h = h0
set_option maxRecDepth 65536 in
set_option maxHeartbeats 40000000 in
theorem rmFi0 (l : Launch) (Z : State) (aV : Array Value) (hw : ∀ d ∈ tables_1, d.before aV Z = true) (ws : List Jvm.Cond) (a0 : Addr) (hp : Addr) (kA : ClassId) (v0 : Value) (v1 : Value) (v2 : Value) (h0 : Heap) (n0 : Nat) (Zn : n0 ≤ h0.size) (F_heap : Fld Z h0 a0 "com/example/keys_to_structures/keystostructures/store/ExpiryQueue" "heap" "[Lcom/example/keys_to_structures/keystostructures/store/TimedEntry;" (.ref hp)) (F_size : Fld Z h0 a0 "com/example/keys_to_structures/keystostructures/store/ExpiryQueue" "size" "I" (.int (0 : Int32))) (V_hp : Arv Z h0 hp kA (.object "com/example/keys_to_structures/keystostructures/store/TimedEntry") (16 : Int32) [v0, v1, v2, .null, .null, .null, .null, .null, .null, .null, .null, .null, .null, .null, .null, .null] .null) :
    MetFree l (⟨"com/example/keys_to_structures/keystostructures/store/ExpiryQueue", "first", "()Lcom/example/keys_to_structures/keystostructures/store/TimedEntry;"⟩ : MethodName) (head1 (Jvm.Cond.code (⟨"com/example/keys_to_structures/keystostructures/store/ExpiryQueue", "first", "()Lcom/example/keys_to_structures/keystostructures/store/TimedEntry;"⟩ : MethodName) prog_43_method_2_code 1 (some (.object "com/example/keys_to_structures/keystostructures/store/TimedEntry")) :: ws) ({ frames := 0, cells := 0, slots := 0, locals := 0 } : Room)) (fun a U => a = #[(.ref a0)] ∧ Z.Warmed39 U.vm ∧ U.heap = h0) (fun _ _ _ _ _ => True) (fun _ U o U' => ∃ v L, o = .returned v ∧ QFi0 Z a0 hp kA v0 v1 v2 h0 n0 v U'.heap L ∧ FrameEnd U o U' L ({ frames := 0, cells := 0, slots := 0, locals := 0 } : Room).cells ({ frames := 0, cells := 0, slots := 0, locals := 0 } : Room).slots) := by
  refine MetFree.of_bodySF (plainFor_of_name pn_3) hisR ?_
  intro p e s m args below meth c s₁ Bd hml0 hP hK
  obtain ⟨rfl, hZ, hh⟩ := hP
  have hx := Bd.exec
  have hby := Bd.bytes
  have hml : c.maxLocals = 1 := hml0
  have hown : s.vm.findClass "com/example/keys_to_structures/keystostructures/store/ExpiryQueue" = some m.cls := findClass_of_methodNamed Bd.named
  have hnm := (name_of_methodNamed Bd.named Bd.method).1
  have X0 : Stand p l e ({ frames := 0, cells := 0, slots := 0, locals := 0 } : Room) s m #[(.ref a0)] below meth c s₁ [] 0 0 := Stand.of_body Bd
  have e0 : s₁.heap = h0 := by rw [← hh, Bd.state]; rfl
  have N0 := Fr.nil n0
  have Kp := Keep.refl h0 []
  show Run p e below (Ends s (QFi0 Z a0 hp kA v0 v1 v2 h0 n0) ({ frames := 0, cells := 0, slots := 0, locals := 0 } : Room).cells ({ frames := 0, cells := 0, slots := 0, locals := 0 } : Room).slots) _
  refine Run.st (S' := s₁.setTop (mkF m 0 #[.val (.ref a0)] [])) (fun t k => castTop (ef_Fi0 m a0) k) ?_
  refine Run.st (S' := s₁.setTop (mkF m 1 #[.val (.ref a0)] [(.ref a0)])) (fun _ k => XS.aloadN X0.here hx rfl (hb hby d8_0) rfl rfl k) ?_
  obtain ⟨T1, X1, e1, st1⟩ := getF X0 hx hZ hown (host := "") (Or.inl (hw _ (List.mem_of_getElem? (i := 46) rfl))) Via.refl e0 F_size (g := (mkF m 1 #[.val (.ref a0)] [(.ref a0)])) rfl rfl (hb hby d8_1)
  refine Run.st (S' := T1.setTop (mkF m 17 #[.val (.ref a0)] [.null])) (fun _ k => st1 _ (XS.ifNo X1.here hx rfl (hb hby d8_4) rfl ((if0 _ _).trans (teq (show (0 : Int32) = (0 : Int32) from (by decide))).2) (XS.aconstNull X1.here hx rfl (hb hby d8_7) (XS.goto X1.here hx rfl (pc0 := 8) (pc' := 17) rfl (hb hby d8_8) (by decide) (by decide) k)))) ?_
  refine Run.out X1 hx Bd.notSynchronized Bd.returns rfl (Or.inr (Or.inr (Or.inr (Or.inr ⟨rfl, rfl, rfl⟩)))) (hb hby d8_17) (by decide) (by decide) ?_
  rw [e1]
  exact ⟨rfl, N0, rfl⟩
theorem d8_11 : decode prog_43_method_2_code 11 = .ok (.aload_n 0, 1) := by decide +kernel
theorem d8_12 : decode prog_43_method_2_code 12 = .ok (.getfield 11, 3) := by decide +kernel
theorem d8_15 : decode prog_43_method_2_code 15 = .ok (.iconst 0, 1) := by decide +kernel
theorem d8_16 : decode prog_43_method_2_code 16 = .ok (.aaload, 1) := by decide +kernel
theorem ef_Fi1 (m : MethodId) (a0 : Addr) : entryFrame m #[(.ref a0)] 1 = mkF m 0 #[.val (.ref a0)] [] := by first | (simp [entryFrame, mkF, argsToLocals, Value.category]; done) | rfl
def QFi1 (Z : State) (a0 : Addr) (hp : Addr) (kA : ClassId) (x0 : Addr) (v1 : Value) (v2 : Value) (h0 : Heap) (n0 : Nat) (v : Option Value) (h : Heap) (L : List Loc) : Prop := v = some (.ref x0) ∧ Fr n0 L ∧ h = h0
set_option maxRecDepth 65536 in
set_option maxHeartbeats 40000000 in
theorem rmFi1 (l : Launch) (Z : State) (aV : Array Value) (hw : ∀ d ∈ tables_1, d.before aV Z = true) (ws : List Jvm.Cond) (a0 : Addr) (hp : Addr) (kA : ClassId) (x0 : Addr) (v1 : Value) (v2 : Value) (h0 : Heap) (n0 : Nat) (Zn : n0 ≤ h0.size) (F_heap : Fld Z h0 a0 "com/example/keys_to_structures/keystostructures/store/ExpiryQueue" "heap" "[Lcom/example/keys_to_structures/keystostructures/store/TimedEntry;" (.ref hp)) (F_size : Fld Z h0 a0 "com/example/keys_to_structures/keystostructures/store/ExpiryQueue" "size" "I" (.int (1 : Int32))) (V_hp : Arv Z h0 hp kA (.object "com/example/keys_to_structures/keystostructures/store/TimedEntry") (16 : Int32) [(.ref x0), v1, v2, .null, .null, .null, .null, .null, .null, .null, .null, .null, .null, .null, .null, .null] .null) :
    MetFree l (⟨"com/example/keys_to_structures/keystostructures/store/ExpiryQueue", "first", "()Lcom/example/keys_to_structures/keystostructures/store/TimedEntry;"⟩ : MethodName) (head1 (Jvm.Cond.code (⟨"com/example/keys_to_structures/keystostructures/store/ExpiryQueue", "first", "()Lcom/example/keys_to_structures/keystostructures/store/TimedEntry;"⟩ : MethodName) prog_43_method_2_code 1 (some (.object "com/example/keys_to_structures/keystostructures/store/TimedEntry")) :: ws) ({ frames := 0, cells := 0, slots := 0, locals := 0 } : Room)) (fun a U => a = #[(.ref a0)] ∧ Z.Warmed39 U.vm ∧ U.heap = h0) (fun _ _ _ _ _ => True) (fun _ U o U' => ∃ v L, o = .returned v ∧ QFi1 Z a0 hp kA x0 v1 v2 h0 n0 v U'.heap L ∧ FrameEnd U o U' L ({ frames := 0, cells := 0, slots := 0, locals := 0 } : Room).cells ({ frames := 0, cells := 0, slots := 0, locals := 0 } : Room).slots) := by
  refine MetFree.of_bodySF (plainFor_of_name pn_3) hisR ?_
  intro p e s m args below meth c s₁ Bd hml0 hP hK
  obtain ⟨rfl, hZ, hh⟩ := hP
  have hx := Bd.exec
  have hby := Bd.bytes
  have hml : c.maxLocals = 1 := hml0
  have hown : s.vm.findClass "com/example/keys_to_structures/keystostructures/store/ExpiryQueue" = some m.cls := findClass_of_methodNamed Bd.named
  have hnm := (name_of_methodNamed Bd.named Bd.method).1
  have X0 : Stand p l e ({ frames := 0, cells := 0, slots := 0, locals := 0 } : Room) s m #[(.ref a0)] below meth c s₁ [] 0 0 := Stand.of_body Bd
  have e0 : s₁.heap = h0 := by rw [← hh, Bd.state]; rfl
  have N0 := Fr.nil n0
  have Kp := Keep.refl h0 []
  show Run p e below (Ends s (QFi1 Z a0 hp kA x0 v1 v2 h0 n0) ({ frames := 0, cells := 0, slots := 0, locals := 0 } : Room).cells ({ frames := 0, cells := 0, slots := 0, locals := 0 } : Room).slots) _
  refine Run.st (S' := s₁.setTop (mkF m 0 #[.val (.ref a0)] [])) (fun t k => castTop (ef_Fi1 m a0) k) ?_
  refine Run.st (S' := s₁.setTop (mkF m 1 #[.val (.ref a0)] [(.ref a0)])) (fun _ k => XS.aloadN X0.here hx rfl (hb hby d8_0) rfl rfl k) ?_
  obtain ⟨T1, X1, e1, st1⟩ := getF X0 hx hZ hown (host := "") (Or.inl (hw _ (List.mem_of_getElem? (i := 46) rfl))) Via.refl e0 F_size (g := (mkF m 1 #[.val (.ref a0)] [(.ref a0)])) rfl rfl (hb hby d8_1)
  refine Run.st (S' := T1.setTop (mkF m 12 #[.val (.ref a0)] [(.ref a0)])) (fun _ k => st1 _ (XS.ifYes X1.here hx rfl (pc0 := 4) (pc' := 11) rfl (hb hby d8_4) rfl ((if0 _ _).trans (feq (show ¬ ((1 : Int32) = (0 : Int32)) from (by decide))).2) (by decide) (by decide) (XS.aloadN X1.here hx rfl (hb hby d8_11) rfl rfl k))) ?_
  obtain ⟨T2, X2, e2, st2⟩ := getF X1 hx hZ hown (host := "") (Or.inl (hw _ (List.mem_of_getElem? (i := 11) rfl))) Via.refl e1 F_heap (g := (mkF m 12 #[.val (.ref a0)] [(.ref a0)])) rfl rfl (hb hby d8_12)
  refine Run.st (S' := T2.setTop (mkF m 16 #[.val (.ref a0)] [(.int (0 : Int32)), (.ref hp)])) (fun _ k => st2 _ (XS.iconst X2.here hx rfl (hb hby d8_15) k)) ?_
  obtain ⟨cl3, Ar3, qa3, Sa3, Na3, Ha3, Ga3⟩ := id V_hp
  have hin3 : ¬ ((0 : Int32) < 0 ∨ cl3.slots.size ≤ ((0 : Int32)).toNatClampNeg) := inb_of Sa3 ⟨by decide, by decide⟩
  have hat3 : cl3.slots[((0 : Int32)).toNatClampNeg]? = some (.ref x0) := Has.at Ha3 hin3 rfl
  refine Run.st (S' := T2.setTop (mkF m 17 #[.val (.ref a0)] [(.ref x0)])) (fun _ k => X2.aaload hx (j := (0 : Int32)) (v := (.ref x0)) (by rw [e2]; exact Ar3.1) (State.isArrayOf_alike hZ.alike Ar3.2.1) rfl Ar3.2.2 hin3 hat3 (g := (mkF m 16 #[.val (.ref a0)] [(.int (0 : Int32)), (.ref hp)])) rfl rfl (hb hby d8_16) _ k) ?_
  refine Run.out X2 hx Bd.notSynchronized Bd.returns rfl (Or.inr (Or.inr (Or.inr (Or.inr ⟨rfl, rfl, rfl⟩)))) (hb hby d8_17) (by decide) (by decide) ?_
  rw [e2]
  exact ⟨rfl, N0, rfl⟩
theorem ef_Fi2 (m : MethodId) (a0 : Addr) : entryFrame m #[(.ref a0)] 1 = mkF m 0 #[.val (.ref a0)] [] := by first | (simp [entryFrame, mkF, argsToLocals, Value.category]; done) | rfl
def QFi2 (Z : State) (a0 : Addr) (hp : Addr) (kA : ClassId) (x0 : Addr) (v1 : Value) (v2 : Value) (h0 : Heap) (n0 : Nat) (v : Option Value) (h : Heap) (L : List Loc) : Prop := v = some (.ref x0) ∧ Fr n0 L ∧ h = h0
set_option maxRecDepth 65536 in
set_option maxHeartbeats 40000000 in
theorem rmFi2 (l : Launch) (Z : State) (aV : Array Value) (hw : ∀ d ∈ tables_1, d.before aV Z = true) (ws : List Jvm.Cond) (a0 : Addr) (hp : Addr) (kA : ClassId) (x0 : Addr) (v1 : Value) (v2 : Value) (h0 : Heap) (n0 : Nat) (Zn : n0 ≤ h0.size) (F_heap : Fld Z h0 a0 "com/example/keys_to_structures/keystostructures/store/ExpiryQueue" "heap" "[Lcom/example/keys_to_structures/keystostructures/store/TimedEntry;" (.ref hp)) (F_size : Fld Z h0 a0 "com/example/keys_to_structures/keystostructures/store/ExpiryQueue" "size" "I" (.int (2 : Int32))) (V_hp : Arv Z h0 hp kA (.object "com/example/keys_to_structures/keystostructures/store/TimedEntry") (16 : Int32) [(.ref x0), v1, v2, .null, .null, .null, .null, .null, .null, .null, .null, .null, .null, .null, .null, .null] .null) :
    MetFree l (⟨"com/example/keys_to_structures/keystostructures/store/ExpiryQueue", "first", "()Lcom/example/keys_to_structures/keystostructures/store/TimedEntry;"⟩ : MethodName) (head1 (Jvm.Cond.code (⟨"com/example/keys_to_structures/keystostructures/store/ExpiryQueue", "first", "()Lcom/example/keys_to_structures/keystostructures/store/TimedEntry;"⟩ : MethodName) prog_43_method_2_code 1 (some (.object "com/example/keys_to_structures/keystostructures/store/TimedEntry")) :: ws) ({ frames := 0, cells := 0, slots := 0, locals := 0 } : Room)) (fun a U => a = #[(.ref a0)] ∧ Z.Warmed39 U.vm ∧ U.heap = h0) (fun _ _ _ _ _ => True) (fun _ U o U' => ∃ v L, o = .returned v ∧ QFi2 Z a0 hp kA x0 v1 v2 h0 n0 v U'.heap L ∧ FrameEnd U o U' L ({ frames := 0, cells := 0, slots := 0, locals := 0 } : Room).cells ({ frames := 0, cells := 0, slots := 0, locals := 0 } : Room).slots) := by
  refine MetFree.of_bodySF (plainFor_of_name pn_3) hisR ?_
  intro p e s m args below meth c s₁ Bd hml0 hP hK
  obtain ⟨rfl, hZ, hh⟩ := hP
  have hx := Bd.exec
  have hby := Bd.bytes
  have hml : c.maxLocals = 1 := hml0
  have hown : s.vm.findClass "com/example/keys_to_structures/keystostructures/store/ExpiryQueue" = some m.cls := findClass_of_methodNamed Bd.named
  have hnm := (name_of_methodNamed Bd.named Bd.method).1
  have X0 : Stand p l e ({ frames := 0, cells := 0, slots := 0, locals := 0 } : Room) s m #[(.ref a0)] below meth c s₁ [] 0 0 := Stand.of_body Bd
  have e0 : s₁.heap = h0 := by rw [← hh, Bd.state]; rfl
  have N0 := Fr.nil n0
  have Kp := Keep.refl h0 []
  show Run p e below (Ends s (QFi2 Z a0 hp kA x0 v1 v2 h0 n0) ({ frames := 0, cells := 0, slots := 0, locals := 0 } : Room).cells ({ frames := 0, cells := 0, slots := 0, locals := 0 } : Room).slots) _
  refine Run.st (S' := s₁.setTop (mkF m 0 #[.val (.ref a0)] [])) (fun t k => castTop (ef_Fi2 m a0) k) ?_
  refine Run.st (S' := s₁.setTop (mkF m 1 #[.val (.ref a0)] [(.ref a0)])) (fun _ k => XS.aloadN X0.here hx rfl (hb hby d8_0) rfl rfl k) ?_
  obtain ⟨T1, X1, e1, st1⟩ := getF X0 hx hZ hown (host := "") (Or.inl (hw _ (List.mem_of_getElem? (i := 46) rfl))) Via.refl e0 F_size (g := (mkF m 1 #[.val (.ref a0)] [(.ref a0)])) rfl rfl (hb hby d8_1)
  refine Run.st (S' := T1.setTop (mkF m 12 #[.val (.ref a0)] [(.ref a0)])) (fun _ k => st1 _ (XS.ifYes X1.here hx rfl (pc0 := 4) (pc' := 11) rfl (hb hby d8_4) rfl ((if0 _ _).trans (feq (show ¬ ((2 : Int32) = (0 : Int32)) from (by decide))).2) (by decide) (by decide) (XS.aloadN X1.here hx rfl (hb hby d8_11) rfl rfl k))) ?_
  obtain ⟨T2, X2, e2, st2⟩ := getF X1 hx hZ hown (host := "") (Or.inl (hw _ (List.mem_of_getElem? (i := 11) rfl))) Via.refl e1 F_heap (g := (mkF m 12 #[.val (.ref a0)] [(.ref a0)])) rfl rfl (hb hby d8_12)
  refine Run.st (S' := T2.setTop (mkF m 16 #[.val (.ref a0)] [(.int (0 : Int32)), (.ref hp)])) (fun _ k => st2 _ (XS.iconst X2.here hx rfl (hb hby d8_15) k)) ?_
  obtain ⟨cl3, Ar3, qa3, Sa3, Na3, Ha3, Ga3⟩ := id V_hp
  have hin3 : ¬ ((0 : Int32) < 0 ∨ cl3.slots.size ≤ ((0 : Int32)).toNatClampNeg) := inb_of Sa3 ⟨by decide, by decide⟩
  have hat3 : cl3.slots[((0 : Int32)).toNatClampNeg]? = some (.ref x0) := Has.at Ha3 hin3 rfl
  refine Run.st (S' := T2.setTop (mkF m 17 #[.val (.ref a0)] [(.ref x0)])) (fun _ k => X2.aaload hx (j := (0 : Int32)) (v := (.ref x0)) (by rw [e2]; exact Ar3.1) (State.isArrayOf_alike hZ.alike Ar3.2.1) rfl Ar3.2.2 hin3 hat3 (g := (mkF m 16 #[.val (.ref a0)] [(.int (0 : Int32)), (.ref hp)])) rfl rfl (hb hby d8_16) _ k) ?_
  refine Run.out X2 hx Bd.notSynchronized Bd.returns rfl (Or.inr (Or.inr (Or.inr (Or.inr ⟨rfl, rfl, rfl⟩)))) (hb hby d8_17) (by decide) (by decide) ?_
  rw [e2]
  exact ⟨rfl, N0, rfl⟩
theorem d1_0 : decode prog_43_method_1_code 0 = .ok (.aload_n 0, 1) := by decide +kernel
theorem d1_1 : decode prog_43_method_1_code 1 = .ok (.invokespecial 1, 3) := by decide +kernel
theorem d1_4 : decode prog_43_method_1_code 4 = .ok (.aload_n 0, 1) := by decide +kernel
theorem d1_5 : decode prog_43_method_1_code 5 = .ok (.bipush 16, 2) := by decide +kernel
theorem d1_7 : decode prog_43_method_1_code 7 = .ok (.anewarray 9, 3) := by decide +kernel
theorem d1_10 : decode prog_43_method_1_code 10 = .ok (.putfield 11, 3) := by decide +kernel
theorem d1_13 : decode prog_43_method_1_code 13 = .ok (.return_, 1) := by decide +kernel
theorem ef_QIni (m : MethodId) (a0 : Addr) : entryFrame m #[(.ref a0)] 1 = mkF m 0 #[.val (.ref a0)] [] := by first | (simp [entryFrame, mkF, argsToLocals, Value.category]; done) | rfl
def QQIni (Z : State) (a0 : Addr) (h0 : Heap) (n0 : Nat) (v : Option Value) (h : Heap) (L : List Loc) : Prop := ∃ (y0 : Addr) (ky0 : ClassId), v = none ∧ Fr n0 L ∧ Keep h0 h [a0] ∧ n0 ≤ y0 ∧ h0.size ≤ y0 ∧ Ovr Z ky0 "com/example/keys_to_structures/keystostructures/store/TimedEntry" ∧ Exa Z h a0 "com/example/keys_to_structures/keystostructures/store/ExpiryQueue" ∧ Fld Z h a0 "com/example/keys_to_structures/keystostructures/store/ExpiryQueue" "heap" "[Lcom/example/keys_to_structures/keystostructures/store/TimedEntry;" (.ref y0) ∧ Fld Z h a0 "com/example/keys_to_structures/keystostructures/store/ExpiryQueue" "size" "I" (.int (0 : Int32)) ∧ Arv Z h y0 ky0 (.object "com/example/keys_to_structures/keystostructures/store/TimedEntry") (16 : Int32) [.null, .null, .null, .null, .null, .null, .null, .null, .null, .null, .null, .null, .null, .null, .null, .null] .null
set_option maxRecDepth 65536 in
set_option maxHeartbeats 40000000 in
theorem rmQIni (l : Launch) (Z : State) (aV : Array Value) (hw : ∀ d ∈ tables_1, d.before aV Z = true) (ws : List Jvm.Cond) (a0 : Addr) (h0 : Heap) (n0 : Nat) (Zn : n0 ≤ h0.size) (g_a0 : n0 ≤ a0) (E_a0 : Exa Z h0 a0 "com/example/keys_to_structures/keystostructures/store/ExpiryQueue") (F_heap : Fld Z h0 a0 "com/example/keys_to_structures/keystostructures/store/ExpiryQueue" "heap" "[Lcom/example/keys_to_structures/keystostructures/store/TimedEntry;" .null) (F_size : Fld Z h0 a0 "com/example/keys_to_structures/keystostructures/store/ExpiryQueue" "size" "I" (.int (0 : Int32))) :
    MetFree l (⟨"com/example/keys_to_structures/keystostructures/store/ExpiryQueue", "<init>", "()V"⟩ : MethodName) (head1 (Jvm.Cond.code (⟨"com/example/keys_to_structures/keystostructures/store/ExpiryQueue", "<init>", "()V"⟩ : MethodName) prog_43_method_1_code 1 none :: ws) ({ frames := 1, cells := 1, slots := 16, locals := 12 } : Room)) (fun a U => a = #[(.ref a0)] ∧ Z.Warmed39 U.vm ∧ U.heap = h0) (fun _ _ _ _ _ => True) (fun _ U o U' => ∃ v L, o = .returned v ∧ QQIni Z a0 h0 n0 v U'.heap L ∧ FrameEnd U o U' L ({ frames := 1, cells := 1, slots := 16, locals := 12 } : Room).cells ({ frames := 1, cells := 1, slots := 16, locals := 12 } : Room).slots) := by
  refine MetFree.of_bodySF (plainFor_of_name pn_3) hisR ?_
  intro p e s m args below meth c s₁ Bd hml0 hP hK
  obtain ⟨rfl, hZ, hh⟩ := hP
  have hx := Bd.exec
  have hby := Bd.bytes
  have hml : c.maxLocals = 1 := hml0
  have hown : s.vm.findClass "com/example/keys_to_structures/keystostructures/store/ExpiryQueue" = some m.cls := findClass_of_methodNamed Bd.named
  have hnm := (name_of_methodNamed Bd.named Bd.method).1
  have X0 : Stand p l e ({ frames := 1, cells := 1, slots := 16, locals := 12 } : Room) s m #[(.ref a0)] below meth c s₁ [] 0 0 := Stand.of_body Bd
  have e0 : s₁.heap = h0 := by rw [← hh, Bd.state]; rfl
  have N0 := Fr.nil n0
  have Kp := Keep.refl h0 [a0]
  show Run p e below (Ends s (QQIni Z a0 h0 n0) ({ frames := 1, cells := 1, slots := 16, locals := 12 } : Room).cells ({ frames := 1, cells := 1, slots := 16, locals := 12 } : Room).slots) _
  refine Run.st (S' := s₁.setTop (mkF m 0 #[.val (.ref a0)] [])) (fun t k => castTop (ef_QIni m a0) k) ?_
  refine Run.st (S' := s₁.setTop (mkF m 1 #[.val (.ref a0)] [(.ref a0)])) (fun _ k => XS.aloadN X0.here hx rfl (hb hby d1_0) rfl rfl k) ?_
  obtain ⟨T1, X1, e1, st1⟩ := initO X0 hx hZ hown (hw _ (List.mem_of_getElem? (i := 6) rfl)) (hw _ (List.mem_of_getElem? (i := 7) rfl)) (hw _ (List.mem_of_getElem? (i := 8) rfl)) e0 (g := (mkF m 1 #[.val (.ref a0)] [(.ref a0)])) rfl (by rw [hml]; rfl) rfl (hb hby d1_1) (by decide) (W := 0) (by show 2 * 0 + _ ≤ _; exact Nat.le_of_eq rfl) (by decide)
  refine Run.st (S' := T1.setTop (mkF m 7 #[.val (.ref a0)] [(.int (16 : Int32)), (.ref a0)])) (fun _ k => st1 _ (XS.aloadN X1.here hx rfl (hb hby d1_4) rfl rfl (XS.bipush X1.here hx rfl (hb hby d1_5) k))) ?_
  obtain ⟨T2, h2, k2, X2, e2, E2, A2, O2, st2⟩ := newR X1 hx hZ hown (hw _ (List.mem_of_getElem? (i := 9) rfl)) (hw _ (List.mem_of_getElem? (i := 10) rfl)) e1 (g := (mkF m 7 #[.val (.ref a0)] [(.int (16 : Int32)), (.ref a0)])) rfl (hb hby d1_7) rfl (by decide) (cap := 16) (by decide) (by decide) (by decide) (by decide)
  obtain ⟨b2, g2⟩ : ∃ z, z = h0.size := ⟨_, rfl⟩
  rw [← g2] at A2 st2
  have ne_a0_b2 : a0 ≠ b2 := Nat.ne_of_lt (Nat.lt_of_lt_of_le E_a0.lt (Nat.le_of_eq g2.symm))
  have E_a0 := E_a0.ext E2
  have F_heap := F_heap.ext E2
  have F_size := F_size.ext E2
  have g_b2 : n0 ≤ b2 := Nat.le_trans Zn (Nat.le_of_eq g2.symm)
  have Zn := Nat.le_trans Zn E2.1
  have sz_b2 : h0.size ≤ b2 := Nat.le_trans Kp.1 (Nat.le_of_eq g2.symm)
  have Kp := Kp.ext E2
  have V_b2 : Arv Z h2 b2 k2 (.object "com/example/keys_to_structures/keystostructures/store/TimedEntry") (16 : Int32) [.null, .null, .null, .null, .null, .null, .null, .null, .null, .null, .null, .null, .null, .null, .null, .null] .null := (Arv.new A2 (by decide)).pad (pad_rep [] .null 16)
  refine Run.st (S' := T2.setTop (mkF m 10 #[.val (.ref a0)] [(.ref b2), (.ref a0)])) (fun _ k => st2 _ k) ?_
  obtain ⟨T3, h3, X3, e3, W3, st3⟩ := putF X2 hx hZ hown (host := "") (Or.inl (hw _ (List.mem_of_getElem? (i := 11) rfl))) Via.refl e2 F_heap E_a0 (Or.inl (hw _ (List.mem_of_getElem? (i := 12) rfl))) (hw _ (List.mem_of_getElem? (i := 1) rfl)) (ty := (.array (.object "com/example/keys_to_structures/keystostructures/store/TimedEntry"))) (by decide) rfl rfl (g := (mkF m 10 #[.val (.ref a0)] [(.ref b2), (.ref a0)])) rfl rfl (hb hby d1_10)
  have F_heap := F_heap.same W3
  have E_a0 := E_a0.wr W3
  have F_size := F_size.other W3 (Or.inr (slot_ne (Or.inl (hw _ (List.mem_of_getElem? (i := 47) rfl))) (Or.inl (hw _ (List.mem_of_getElem? (i := 12) rfl))) (by decide) (t := .int) (t' := (.array (.object "com/example/keys_to_structures/keystostructures/store/TimedEntry"))) (by decide) (by decide)))
  have V_b2 := V_b2.other W3 (Ne.symm ne_a0_b2)
  have N3 := Fr.snoc X3 N0 g_a0
  have Kp := Kp.wr W3 (Or.inl (by simp))
  have Zn := Nat.le_trans Zn (Nat.le_of_eq W3.size.symm)
  refine Run.st (S' := T3.setTop (mkF m 13 #[.val (.ref a0)] [])) (fun _ k => st3 _ k) ?_
  refine Run.outV X3 hx Bd.notSynchronized Bd.returns (hb hby d1_13) (by decide) (by decide) ?_
  rw [e3]
  exact ⟨b2, k2, rfl, N3, Kp, g_b2, sz_b2, O2, E_a0, F_heap, F_size, V_b2⟩
theorem d7_0 : decode prog_43_method_6_code 0 = .ok (.aload_n 0, 1) := by decide +kernel
theorem d7_1 : decode prog_43_method_6_code 1 = .ok (.bipush 16, 2) := by decide +kernel
theorem d7_3 : decode prog_43_method_6_code 3 = .ok (.anewarray 9, 3) := by decide +kernel
theorem d7_6 : decode prog_43_method_6_code 6 = .ok (.putfield 11, 3) := by decide +kernel
theorem d7_9 : decode prog_43_method_6_code 9 = .ok (.aload_n 0, 1) := by decide +kernel
theorem d7_10 : decode prog_43_method_6_code 10 = .ok (.iconst 0, 1) := by decide +kernel
theorem d7_11 : decode prog_43_method_6_code 11 = .ok (.putfield 15, 3) := by decide +kernel
theorem d7_14 : decode prog_43_method_6_code 14 = .ok (.return_, 1) := by decide +kernel
theorem ef_Clr (m : MethodId) (a0 : Addr) : entryFrame m #[(.ref a0)] 1 = mkF m 0 #[.val (.ref a0)] [] := by first | (simp [entryFrame, mkF, argsToLocals, Value.category]; done) | rfl
def QClr (Z : State) (a0 : Addr) (u0 : Addr) (sz : Int32) (h0 : Heap) (n0 : Nat) (v : Option Value) (h : Heap) (L : List Loc) : Prop := ∃ (y0 : Addr) (ky0 : ClassId), v = none ∧ Fr n0 L ∧ Keep h0 h [a0] ∧ n0 ≤ y0 ∧ h0.size ≤ y0 ∧ Ovr Z ky0 "com/example/keys_to_structures/keystostructures/store/TimedEntry" ∧ Exa Z h a0 "com/example/keys_to_structures/keystostructures/store/ExpiryQueue" ∧ Fld Z h a0 "com/example/keys_to_structures/keystostructures/store/ExpiryQueue" "heap" "[Lcom/example/keys_to_structures/keystostructures/store/TimedEntry;" (.ref y0) ∧ Fld Z h a0 "com/example/keys_to_structures/keystostructures/store/ExpiryQueue" "size" "I" (.int (0 : Int32)) ∧ Arv Z h y0 ky0 (.object "com/example/keys_to_structures/keystostructures/store/TimedEntry") (16 : Int32) [.null, .null, .null, .null, .null, .null, .null, .null, .null, .null, .null, .null, .null, .null, .null, .null] .null
set_option maxRecDepth 65536 in
set_option maxHeartbeats 40000000 in
theorem rmClr (l : Launch) (Z : State) (aV : Array Value) (hw : ∀ d ∈ tables_1, d.before aV Z = true) (ws : List Jvm.Cond) (a0 : Addr) (u0 : Addr) (sz : Int32) (h0 : Heap) (n0 : Nat) (Zn : n0 ≤ h0.size) (g_a0 : n0 ≤ a0) (E_a0 : Exa Z h0 a0 "com/example/keys_to_structures/keystostructures/store/ExpiryQueue") (F_heap : Fld Z h0 a0 "com/example/keys_to_structures/keystostructures/store/ExpiryQueue" "heap" "[Lcom/example/keys_to_structures/keystostructures/store/TimedEntry;" (.ref u0)) (F_size : Fld Z h0 a0 "com/example/keys_to_structures/keystostructures/store/ExpiryQueue" "size" "I" (.int sz)) :
    MetFree l (⟨"com/example/keys_to_structures/keystostructures/store/ExpiryQueue", "clear", "()V"⟩ : MethodName) (head1 (Jvm.Cond.code (⟨"com/example/keys_to_structures/keystostructures/store/ExpiryQueue", "clear", "()V"⟩ : MethodName) prog_43_method_6_code 1 none :: ws) ({ frames := 0, cells := 1, slots := 16, locals := 0 } : Room)) (fun a U => a = #[(.ref a0)] ∧ Z.Warmed39 U.vm ∧ U.heap = h0) (fun _ _ _ _ _ => True) (fun _ U o U' => ∃ v L, o = .returned v ∧ QClr Z a0 u0 sz h0 n0 v U'.heap L ∧ FrameEnd U o U' L ({ frames := 0, cells := 1, slots := 16, locals := 0 } : Room).cells ({ frames := 0, cells := 1, slots := 16, locals := 0 } : Room).slots) := by
  refine MetFree.of_bodySF (plainFor_of_name pn_3) hisR ?_
  intro p e s m args below meth c s₁ Bd hml0 hP hK
  obtain ⟨rfl, hZ, hh⟩ := hP
  have hx := Bd.exec
  have hby := Bd.bytes
  have hml : c.maxLocals = 1 := hml0
  have hown : s.vm.findClass "com/example/keys_to_structures/keystostructures/store/ExpiryQueue" = some m.cls := findClass_of_methodNamed Bd.named
  have hnm := (name_of_methodNamed Bd.named Bd.method).1
  have X0 : Stand p l e ({ frames := 0, cells := 1, slots := 16, locals := 0 } : Room) s m #[(.ref a0)] below meth c s₁ [] 0 0 := Stand.of_body Bd
  have e0 : s₁.heap = h0 := by rw [← hh, Bd.state]; rfl
  have N0 := Fr.nil n0
  have Kp := Keep.refl h0 [a0]
  show Run p e below (Ends s (QClr Z a0 u0 sz h0 n0) ({ frames := 0, cells := 1, slots := 16, locals := 0 } : Room).cells ({ frames := 0, cells := 1, slots := 16, locals := 0 } : Room).slots) _
  refine Run.st (S' := s₁.setTop (mkF m 0 #[.val (.ref a0)] [])) (fun t k => castTop (ef_Clr m a0) k) ?_
  refine Run.st (S' := s₁.setTop (mkF m 3 #[.val (.ref a0)] [(.int (16 : Int32)), (.ref a0)])) (fun _ k => XS.aloadN X0.here hx rfl (hb hby d7_0) rfl rfl (XS.bipush X0.here hx rfl (hb hby d7_1) k)) ?_
  obtain ⟨T1, h1, k1, X1, e1, E1, A1, O1, st1⟩ := newR X0 hx hZ hown (hw _ (List.mem_of_getElem? (i := 9) rfl)) (hw _ (List.mem_of_getElem? (i := 10) rfl)) e0 (g := (mkF m 3 #[.val (.ref a0)] [(.int (16 : Int32)), (.ref a0)])) rfl (hb hby d7_3) rfl (by decide) (cap := 16) (by decide) (by decide) (by decide) (by decide)
  obtain ⟨b1, g1⟩ : ∃ z, z = h0.size := ⟨_, rfl⟩
  rw [← g1] at A1 st1
  have ne_a0_b1 : a0 ≠ b1 := Nat.ne_of_lt (Nat.lt_of_lt_of_le E_a0.lt (Nat.le_of_eq g1.symm))
  have E_a0 := E_a0.ext E1
  have F_heap := F_heap.ext E1
  have F_size := F_size.ext E1
  have g_b1 : n0 ≤ b1 := Nat.le_trans Zn (Nat.le_of_eq g1.symm)
  have Zn := Nat.le_trans Zn E1.1
  have sz_b1 : h0.size ≤ b1 := Nat.le_trans Kp.1 (Nat.le_of_eq g1.symm)
  have Kp := Kp.ext E1
  have V_b1 : Arv Z h1 b1 k1 (.object "com/example/keys_to_structures/keystostructures/store/TimedEntry") (16 : Int32) [.null, .null, .null, .null, .null, .null, .null, .null, .null, .null, .null, .null, .null, .null, .null, .null] .null := (Arv.new A1 (by decide)).pad (pad_rep [] .null 16)
  refine Run.st (S' := T1.setTop (mkF m 6 #[.val (.ref a0)] [(.ref b1), (.ref a0)])) (fun _ k => st1 _ k) ?_
  obtain ⟨T2, h2, X2, e2, W2, st2⟩ := putF X1 hx hZ hown (host := "") (Or.inl (hw _ (List.mem_of_getElem? (i := 11) rfl))) Via.refl e1 F_heap E_a0 (Or.inl (hw _ (List.mem_of_getElem? (i := 12) rfl))) (hw _ (List.mem_of_getElem? (i := 1) rfl)) (ty := (.array (.object "com/example/keys_to_structures/keystostructures/store/TimedEntry"))) (by decide) rfl rfl (g := (mkF m 6 #[.val (.ref a0)] [(.ref b1), (.ref a0)])) rfl rfl (hb hby d7_6)
  have F_heap := F_heap.same W2
  have E_a0 := E_a0.wr W2
  have F_size := F_size.other W2 (Or.inr (slot_ne (Or.inl (hw _ (List.mem_of_getElem? (i := 47) rfl))) (Or.inl (hw _ (List.mem_of_getElem? (i := 12) rfl))) (by decide) (t := .int) (t' := (.array (.object "com/example/keys_to_structures/keystostructures/store/TimedEntry"))) (by decide) (by decide)))
  have V_b1 := V_b1.other W2 (Ne.symm ne_a0_b1)
  have N2 := Fr.snoc X2 N0 g_a0
  have Kp := Kp.wr W2 (Or.inl (by simp))
  have Zn := Nat.le_trans Zn (Nat.le_of_eq W2.size.symm)
  refine Run.st (S' := T2.setTop (mkF m 11 #[.val (.ref a0)] [(.int (0 : Int32)), (.ref a0)])) (fun _ k => st2 _ (XS.aloadN X2.here hx rfl (hb hby d7_9) rfl rfl (XS.iconst X2.here hx rfl (hb hby d7_10) k))) ?_
  obtain ⟨T3, h3, X3, e3, W3, st3⟩ := putF X2 hx hZ hown (host := "") (Or.inl (hw _ (List.mem_of_getElem? (i := 46) rfl))) Via.refl e2 F_size E_a0 (Or.inl (hw _ (List.mem_of_getElem? (i := 47) rfl))) (hw _ (List.mem_of_getElem? (i := 1) rfl)) (ty := .int) (by decide) rfl rfl (g := (mkF m 11 #[.val (.ref a0)] [(.int (0 : Int32)), (.ref a0)])) rfl rfl (hb hby d7_11)
  have F_size := F_size.same W3
  have E_a0 := E_a0.wr W3
  have F_heap := F_heap.other W3 (Or.inr (slot_ne (Or.inl (hw _ (List.mem_of_getElem? (i := 12) rfl))) (Or.inl (hw _ (List.mem_of_getElem? (i := 47) rfl))) (by decide) (t := (.array (.object "com/example/keys_to_structures/keystostructures/store/TimedEntry"))) (t' := .int) (by decide) (by decide)))
  have V_b1 := V_b1.other W3 (Ne.symm ne_a0_b1)
  have N3 := Fr.snoc X3 N2 g_a0
  have Kp := Kp.wr W3 (Or.inl (by simp))
  have Zn := Nat.le_trans Zn (Nat.le_of_eq W3.size.symm)
  refine Run.st (S' := T3.setTop (mkF m 14 #[.val (.ref a0)] [])) (fun _ k => st3 _ k) ?_
  refine Run.outV X3 hx Bd.notSynchronized Bd.returns (hb hby d7_14) (by decide) (by decide) ?_
  rw [e3]
  exact ⟨b1, k1, rfl, N3, Kp, g_b1, sz_b1, O1, E_a0, F_heap, F_size, V_b1⟩
theorem pd_5 : parseMethodDescriptor "()V" = some ⟨[], none⟩ := by decide +kernel
theorem pd_6 : parseMethodDescriptor "([BLjava/lang/Object;J)V" = some ⟨[(.array .byte), (.object "java/lang/Object"), .long], none⟩ := by decide +kernel
theorem pd_7 : parseMethodDescriptor "()Lcom/example/keys_to_structures/keystostructures/store/TimedEntry;" = some ⟨[], some (.object "com/example/keys_to_structures/keystostructures/store/TimedEntry")⟩ := by decide +kernel
theorem pd_8 : parseMethodDescriptor "(Lcom/example/keys_to_structures/keystostructures/store/TimedEntry;)V" = some ⟨[(.object "com/example/keys_to_structures/keystostructures/store/TimedEntry")], none⟩ := by decide +kernel
theorem pd_9 : parseMethodDescriptor "()I" = some ⟨[], some .int⟩ := by decide +kernel
theorem pn_4 : plainName "com/example/keys_to_structures/keystostructures/store/ExpiryQueueClearPinLaw" = true := by first | (simp [plainName, overriddenIn]; done) | decide +kernel
theorem ef_0 (m : MethodId) (p0 : Int32) (q1 : Int64) (q2 : Int64) (q3 : Int64) (q4 : Int64) : entryFrame m #[(.int p0), (.long q1), (.long q2), (.long q3), (.long q4)] maxLocals = mkF m 0 #[.val (.int p0), .val (.long q1), .second, .val (.long q2), .second, .val (.long q3), .second, .val (.long q4), .second, .unset, .unset, .unset, .unset, .unset, .unset, .unset] [] := by first | (simp [entryFrame, mkF, argsToLocals, Value.category, maxLocals]; done) | rfl
def Q0 (Z : State) (p0 : Int32) (q1 : Int64) (q2 : Int64) (q3 : Int64) (q4 : Int64) (h0 : Heap) (n0 : Nat) (v : Option Value) (h : Heap) (L : List Loc) : Prop := v = some (.int 1) ∧ Fr n0 L
set_option maxRecDepth 65536 in
set_option maxHeartbeats 40000000 in
theorem rm0 (l : Launch) (Z : State) (aV : Array Value) (hw : ∀ d ∈ tables_1, d.before aV Z = true) (ws : List Jvm.Cond) (p0 : Int32) (q1 : Int64) (q2 : Int64) (q3 : Int64) (q4 : Int64) (h0 : Heap) (n0 : Nat) (Zn : n0 ≤ h0.size) :
    MetFree l x (head1 (Jvm.Cond.code x code maxLocals ret :: ws) room_1) (fun a U => a = #[(.int p0), (.long q1), (.long q2), (.long q3), (.long q4)] ∧ Z.Warmed39 U.vm ∧ U.heap = h0) (fun _ _ _ _ _ => True) (fun _ U o U' => ∃ v L, o = .returned v ∧ Q0 Z p0 q1 q2 q3 q4 h0 n0 v U'.heap L ∧ FrameEnd U o U' L room_1.cells room_1.slots) := by
  refine MetFree.of_bodySF (plainFor_of_name pn_4) hisR ?_
  intro p e s m args below meth c s₁ Bd hml0 hP hK
  obtain ⟨rfl, hZ, hh⟩ := hP
  have hx := Bd.exec
  have hby := Bd.bytes
  have hml : c.maxLocals = 16 := hml0
  have hown : s.vm.findClass "com/example/keys_to_structures/keystostructures/store/ExpiryQueueClearPinLaw" = some m.cls := findClass_of_methodNamed Bd.named
  have hnm := (name_of_methodNamed Bd.named Bd.method).1
  have X0 : Stand p l e room_1 s m #[(.int p0), (.long q1), (.long q2), (.long q3), (.long q4)] below meth c s₁ [] 0 0 := Stand.of_body Bd
  have e0 : s₁.heap = h0 := by rw [← hh, Bd.state]; rfl
  have N0 := Fr.nil n0
  have Kp := Keep.refl h0 []
  show Run p e below (Ends s (Q0 Z p0 q1 q2 q3 q4 h0 n0) room_1.cells room_1.slots) _
  refine Run.st (S' := s₁.setTop (mkF m 0 #[.val (.int p0), .val (.long q1), .second, .val (.long q2), .second, .val (.long q3), .second, .val (.long q4), .second, .unset, .unset, .unset, .unset, .unset, .unset, .unset] [])) (fun t k => castTop (ef_0 m p0 q1 q2 q3 q4) k) ?_
  obtain ⟨T1, h1, X1, e1, E1, A1, D1, -, st1⟩ := newO X0 hx hZ hown (hw _ (List.mem_of_getElem? (i := 0) rfl)) (hw _ (List.mem_of_getElem? (i := 1) rfl)) (hw _ (List.mem_of_getElem? (i := 2) rfl)) e0 (g := (mkF m 0 #[.val (.int p0), .val (.long q1), .second, .val (.long q2), .second, .val (.long q3), .second, .val (.long q4), .second, .unset, .unset, .unset, .unset, .unset, .unset, .unset] [])) rfl (hb hby at_0) (by decide) (by decide)
  obtain ⟨b1, g1⟩ : ∃ z, z = h0.size := ⟨_, rfl⟩
  rw [← g1] at A1 D1 st1
  have g_b1 : n0 ≤ b1 := Nat.le_trans Zn (Nat.le_of_eq g1.symm)
  have Zn := Nat.le_trans Zn E1.1
  have sz_b1 : h0.size ≤ b1 := Nat.le_trans Kp.1 (Nat.le_of_eq g1.symm)
  have Kp := Kp.ext E1
  have E_b1 := A1
  have F_heap_b1 : Fld Z h1 b1 "com/example/keys_to_structures/keystostructures/store/ExpiryQueue" "heap" "[Lcom/example/keys_to_structures/keystostructures/store/TimedEntry;" .null := D1 (Or.inl (hw _ (List.mem_of_getElem? (i := 12) rfl))) (ty := (.array (.object "com/example/keys_to_structures/keystostructures/store/TimedEntry"))) (by decide)
  have F_size_b1 : Fld Z h1 b1 "com/example/keys_to_structures/keystostructures/store/ExpiryQueue" "size" "I" (.int (0 : Int32)) := D1 (Or.inl (hw _ (List.mem_of_getElem? (i := 47) rfl))) (ty := .int) (by decide)
  refine Run.st (S' := T1.setTop (mkF m 4 #[.val (.int p0), .val (.long q1), .second, .val (.long q2), .second, .val (.long q3), .second, .val (.long q4), .second, .unset, .unset, .unset, .unset, .unset, .unset, .unset] [(.ref b1), (.ref b1)])) (fun _ k => st1 _ (XS.dup X1.here hx rfl (hb hby at_3) rfl rfl k)) ?_
  obtain ⟨_, _, ⟨T2, L2, k2, n2⟩, -, X2, ⟨Lc2, hQ2, l2, y2, z2⟩, st2⟩ := X1.specialBack hx (y := (⟨"com/example/keys_to_structures/keystostructures/store/ExpiryQueue", "<init>", "()V"⟩ : MethodName)) rfl hown (mvT hZ (hw _ (List.mem_of_getElem? (i := 3) rfl))) (mvT hZ (hw _ (List.mem_of_getElem? (i := 4) rfl))) (mvT hZ (hw _ (List.mem_of_getElem? (i := 5) rfl))) (by decide) (backOf (W := 1) (rmQIni l Z aV hw [] b1 h1 n0 Zn g_b1 E_b1 F_heap_b1 F_size_b1) hZ (hw _ (List.mem_of_getElem? (i := 5) rfl)) (hw _ (List.mem_of_getElem? (i := 2) rfl)) (by decide) (by decide)) (g := (mkF m 4 #[.val (.int p0), .val (.long q1), .second, .val (.long q2), .second, .val (.long q3), .second, .val (.long q4), .second, .unset, .unset, .unset, .unset, .unset, .unset, .unset] [(.ref b1), (.ref b1)])) rfl (by rw [hml]; rfl) (Steps.refl _) (a := b1) (argsL := []) (rest := [(.ref b1)]) (lenOf pd_5 rfl) rfl (by show 2 * 0 + _ ≤ _; exact Nat.le_of_eq rfl) (hb hby at_4) (fun _ _ => ⟨rfl, e1, (by decide : 1 + 1 ≤ _), (by decide : 2 + 16 ≤ _)⟩)
  dsimp only [Pt.U, Pt.locs, Pt.cells, Pt.slots] at X2 l2 y2 z2 st2 hQ2
  subst l2 y2 z2
  obtain ⟨b2, kb2, rfl, N2q, K2, g_b2, z_b2, O_kb2, q2_0, q2_1, q2_2, q2_3⟩ := hQ2
  have ne_b1_b2 : b1 ≠ b2 := Nat.ne_of_lt (Nat.lt_of_lt_of_le E_b1.lt z_b2)
  have sz_b2 : h0.size ≤ b2 := Nat.le_trans Kp.1 z_b2
  have E_b1 := q2_0
  have F_heap_b1 := q2_1
  have F_size_b1 := q2_2
  have V_b2 := q2_3
  have Kp := Kp.trans K2 (allS (Or.inr sz_b1) all0)
  have Zn := Nat.le_trans Zn K2.1
  have N2 := Fr.app N0 N2q
  refine Run.st (S' := T2.setTop (mkF m 9 #[.val (.int p0), .val (.long q1), .second, .val (.long q2), .second, .val (.long q3), .second, .val (.long q4), .second, .val (.ref b1), .unset, .unset, .unset, .unset, .unset, .unset] [])) (fun _ k => st2.trans (XS.astore X2.here hx rfl (hb hby at_7) rfl rfl (l' := #[.val (.int p0), .val (.long q1), .second, .val (.long q2), .second, .val (.long q3), .second, .val (.long q4), .second, .val (.ref b1), .unset, .unset, .unset, .unset, .unset, .unset]) rfl k)) ?_
  obtain ⟨T3, h3, X3, e3, E3, A3, D3, -, st3⟩ := newO X2 hx hZ hown (hw _ (List.mem_of_getElem? (i := 13) rfl)) (hw _ (List.mem_of_getElem? (i := 14) rfl)) (hw _ (List.mem_of_getElem? (i := 15) rfl)) rfl (g := (mkF m 9 #[.val (.int p0), .val (.long q1), .second, .val (.long q2), .second, .val (.long q3), .second, .val (.long q4), .second, .val (.ref b1), .unset, .unset, .unset, .unset, .unset, .unset] [])) rfl (hb hby at_9) (by decide) (by decide)
  obtain ⟨b3, g3⟩ : ∃ z, z = T2.heap.size := ⟨_, rfl⟩
  rw [← g3] at A3 D3 st3
  have ne_b1_b3 : b1 ≠ b3 := Nat.ne_of_lt (Nat.lt_of_lt_of_le E_b1.lt (Nat.le_of_eq g3.symm))
  have ne_b2_b3 : b2 ≠ b3 := Nat.ne_of_lt (Nat.lt_of_lt_of_le V_b2.lt (Nat.le_of_eq g3.symm))
  have E_b1 := E_b1.ext E3
  have F_heap_b1 := F_heap_b1.ext E3
  have F_size_b1 := F_size_b1.ext E3
  have V_b2 := V_b2.ext E3
  have g_b3 : n0 ≤ b3 := Nat.le_trans Zn (Nat.le_of_eq g3.symm)
  have Zn := Nat.le_trans Zn E3.1
  have sz_b3 : h0.size ≤ b3 := Nat.le_trans Kp.1 (Nat.le_of_eq g3.symm)
  have Kp := Kp.ext E3
  have E_b3 := A3
  have F_key_b3 : Fld Z h3 b3 "com/example/keys_to_structures/keystostructures/store/Entry" "key" "[B" .null := D3 (Or.inr (hw _ (List.mem_of_getElem? (i := 27) rfl))) (ty := (.array .byte)) (by decide)
  have F_value_b3 : Fld Z h3 b3 "com/example/keys_to_structures/keystostructures/store/Entry" "value" "Ljava/lang/Object;" .null := D3 (Or.inl (hw _ (List.mem_of_getElem? (i := 29) rfl))) (ty := (.object "java/lang/Object")) (by decide)
  have F_hash_b3 : Fld Z h3 b3 "com/example/keys_to_structures/keystostructures/store/Entry" "hash" "I" (.int (0 : Int32)) := D3 (Or.inr (hw _ (List.mem_of_getElem? (i := 38) rfl))) (ty := .int) (by decide)
  have F_deadline_b3 : Fld Z h3 b3 "com/example/keys_to_structures/keystostructures/store/TimedEntry" "deadline" "J" (.long (0 : Int64)) := D3 (Or.inl (hw _ (List.mem_of_getElem? (i := 40) rfl))) (ty := .long) (by decide)
  have F_position_b3 : Fld Z h3 b3 "com/example/keys_to_structures/keystostructures/store/TimedEntry" "position" "I" (.int (0 : Int32)) := D3 (Or.inl (hw _ (List.mem_of_getElem? (i := 73) rfl))) (ty := .int) (by decide)
  refine Run.st (S' := T3.setTop (mkF m 14 #[.val (.int p0), .val (.long q1), .second, .val (.long q2), .second, .val (.long q3), .second, .val (.long q4), .second, .val (.ref b1), .unset, .unset, .unset, .unset, .unset, .unset] [(.int (0 : Int32)), (.ref b3), (.ref b3)])) (fun _ k => st3 _ (XS.dup X3.here hx rfl (hb hby at_12) rfl rfl (XS.iconst X3.here hx rfl (hb hby at_13) k))) ?_
  obtain ⟨T4, h4, k4, X4, e4, E4, A4, st4⟩ := newP X3 hx hZ (hw _ (List.mem_of_getElem? (i := 16) rfl)) e3 (g := (mkF m 14 #[.val (.int p0), .val (.long q1), .second, .val (.long q2), .second, .val (.long q3), .second, .val (.long q4), .second, .val (.ref b1), .unset, .unset, .unset, .unset, .unset, .unset] [(.int (0 : Int32)), (.ref b3), (.ref b3)])) rfl (hb hby at_14) rfl (by decide) (cap := 0) (by decide) (by decide) (by decide) (by decide)
  obtain ⟨b4, g4⟩ : ∃ z, z = h3.size := ⟨_, rfl⟩
  rw [← g4] at A4 st4
  have ne_b1_b4 : b1 ≠ b4 := Nat.ne_of_lt (Nat.lt_of_lt_of_le E_b1.lt (Nat.le_of_eq g4.symm))
  have ne_b2_b4 : b2 ≠ b4 := Nat.ne_of_lt (Nat.lt_of_lt_of_le V_b2.lt (Nat.le_of_eq g4.symm))
  have ne_b3_b4 : b3 ≠ b4 := Nat.ne_of_lt (Nat.lt_of_lt_of_le E_b3.lt (Nat.le_of_eq g4.symm))
  have E_b1 := E_b1.ext E4
  have F_heap_b1 := F_heap_b1.ext E4
  have F_size_b1 := F_size_b1.ext E4
  have V_b2 := V_b2.ext E4
  have E_b3 := E_b3.ext E4
  have F_key_b3 := F_key_b3.ext E4
  have F_value_b3 := F_value_b3.ext E4
  have F_hash_b3 := F_hash_b3.ext E4
  have F_deadline_b3 := F_deadline_b3.ext E4
  have F_position_b3 := F_position_b3.ext E4
  have g_b4 : n0 ≤ b4 := Nat.le_trans Zn (Nat.le_of_eq g4.symm)
  have Zn := Nat.le_trans Zn E4.1
  have sz_b4 : h0.size ≤ b4 := Nat.le_trans Kp.1 (Nat.le_of_eq g4.symm)
  have Kp := Kp.ext E4
  have V_b4 : Arv Z h4 b4 k4 .byte (0 : Int32) [] (.int (0 : Int32)) := (Arv.new A4 (by decide)).pad (pad_rep [] (.int (0 : Int32)) 0)
  refine Run.st (S' := T4.setTop (mkF m 18 #[.val (.int p0), .val (.long q1), .second, .val (.long q2), .second, .val (.long q3), .second, .val (.long q4), .second, .val (.ref b1), .unset, .unset, .unset, .unset, .unset, .unset] [(.long q1), .null, (.ref b4), (.ref b3), (.ref b3)])) (fun _ k => st4 _ (XS.aconstNull X4.here hx rfl (hb hby at_16) (XS.lloadN X4.here hx rfl (hb hby at_17) rfl k))) ?_
  obtain ⟨_, _, ⟨T5, L5, k5, n5⟩, -, X5, ⟨Lc5, hQ5, l5, y5, z5⟩, st5⟩ := X4.specialBack hx (y := (⟨"com/example/keys_to_structures/keystostructures/store/TimedEntry", "<init>", "([BLjava/lang/Object;J)V"⟩ : MethodName)) rfl hown (mvT hZ (hw _ (List.mem_of_getElem? (i := 17) rfl))) (mvT hZ (hw _ (List.mem_of_getElem? (i := 18) rfl))) (mvT hZ (hw _ (List.mem_of_getElem? (i := 19) rfl))) (by decide) (backOf (W := 1) (rmTIni l Z aV hw [] b3 b4 q1 k4 h4 n0 Zn g_b3 E_b3 F_deadline_b3 F_position_b3 F_key_b3 F_value_b3 F_hash_b3 V_b4 ne_b3_b4) hZ (hw _ (List.mem_of_getElem? (i := 19) rfl)) (hw _ (List.mem_of_getElem? (i := 15) rfl)) (by decide) (by decide)) (g := (mkF m 18 #[.val (.int p0), .val (.long q1), .second, .val (.long q2), .second, .val (.long q3), .second, .val (.long q4), .second, .val (.ref b1), .unset, .unset, .unset, .unset, .unset, .unset] [(.long q1), .null, (.ref b4), (.ref b3), (.ref b3)])) rfl (by rw [hml]; rfl) (Steps.refl _) (a := b3) (argsL := [(.ref b4), .null, (.long q1)]) (rest := [(.ref b3)]) (lenOf pd_6 rfl) rfl (by show 2 * 0 + _ ≤ _; exact Nat.le_of_eq rfl) (hb hby at_18) (fun _ _ => ⟨rfl, e4, (by decide : 4 + 0 ≤ _), (by decide : 24 + 0 ≤ _)⟩)
  dsimp only [Pt.U, Pt.locs, Pt.cells, Pt.slots] at X5 l5 y5 z5 st5 hQ5
  subst l5 y5 z5
  obtain ⟨rfl, N5q, K5, q5_0, q5_1, q5_2, q5_3, q5_4, q5_5⟩ := hQ5
  have E_b1 := E_b1.keep K5
  have F_heap_b1 := F_heap_b1.keep K5 (ninS ne_b1_b3 nin0)
  have F_size_b1 := F_size_b1.keep K5 (ninS ne_b1_b3 nin0)
  have V_b2 := V_b2.keep K5 (ninS ne_b2_b3 nin0)
  have V_b4 := V_b4.keep K5 (ninS (Ne.symm ne_b3_b4) nin0)
  have E_b3 := q5_0
  have F_deadline_b3 := q5_1
  have F_position_b3 := q5_2
  have F_key_b3 := q5_3
  have F_value_b3 := q5_4
  have F_hash_b3 := q5_5
  have Kp := Kp.trans K5 (allS (Or.inr sz_b3) all0)
  have Zn := Nat.le_trans Zn K5.1
  have N5 := Fr.app N2 N5q
  refine Run.st (S' := T5.setTop (mkF m 23 #[.val (.int p0), .val (.long q1), .second, .val (.long q2), .second, .val (.long q3), .second, .val (.long q4), .second, .val (.ref b1), .val (.ref b3), .unset, .unset, .unset, .unset, .unset] [])) (fun _ k => st5.trans (XS.astore X5.here hx rfl (hb hby at_21) rfl rfl (l' := #[.val (.int p0), .val (.long q1), .second, .val (.long q2), .second, .val (.long q3), .second, .val (.long q4), .second, .val (.ref b1), .val (.ref b3), .unset, .unset, .unset, .unset, .unset]) rfl k)) ?_
  obtain ⟨T6, h6, X6, e6, E6, A6, D6, -, st6⟩ := newO X5 hx hZ hown (hw _ (List.mem_of_getElem? (i := 13) rfl)) (hw _ (List.mem_of_getElem? (i := 14) rfl)) (hw _ (List.mem_of_getElem? (i := 15) rfl)) rfl (g := (mkF m 23 #[.val (.int p0), .val (.long q1), .second, .val (.long q2), .second, .val (.long q3), .second, .val (.long q4), .second, .val (.ref b1), .val (.ref b3), .unset, .unset, .unset, .unset, .unset] [])) rfl (hb hby at_23) (by decide) (by decide)
  obtain ⟨b6, g6⟩ : ∃ z, z = T5.heap.size := ⟨_, rfl⟩
  rw [← g6] at A6 D6 st6
  have ne_b1_b6 : b1 ≠ b6 := Nat.ne_of_lt (Nat.lt_of_lt_of_le E_b1.lt (Nat.le_of_eq g6.symm))
  have ne_b2_b6 : b2 ≠ b6 := Nat.ne_of_lt (Nat.lt_of_lt_of_le V_b2.lt (Nat.le_of_eq g6.symm))
  have ne_b3_b6 : b3 ≠ b6 := Nat.ne_of_lt (Nat.lt_of_lt_of_le E_b3.lt (Nat.le_of_eq g6.symm))
  have E_b1 := E_b1.ext E6
  have F_heap_b1 := F_heap_b1.ext E6
  have F_size_b1 := F_size_b1.ext E6
  have V_b2 := V_b2.ext E6
  have E_b3 := E_b3.ext E6
  have F_deadline_b3 := F_deadline_b3.ext E6
  have F_position_b3 := F_position_b3.ext E6
  have g_b6 : n0 ≤ b6 := Nat.le_trans Zn (Nat.le_of_eq g6.symm)
  have Zn := Nat.le_trans Zn E6.1
  have sz_b6 : h0.size ≤ b6 := Nat.le_trans Kp.1 (Nat.le_of_eq g6.symm)
  have Kp := Kp.ext E6
  have E_b6 := A6
  have F_key_b6 : Fld Z h6 b6 "com/example/keys_to_structures/keystostructures/store/Entry" "key" "[B" .null := D6 (Or.inr (hw _ (List.mem_of_getElem? (i := 27) rfl))) (ty := (.array .byte)) (by decide)
  have F_value_b6 : Fld Z h6 b6 "com/example/keys_to_structures/keystostructures/store/Entry" "value" "Ljava/lang/Object;" .null := D6 (Or.inl (hw _ (List.mem_of_getElem? (i := 29) rfl))) (ty := (.object "java/lang/Object")) (by decide)
  have F_hash_b6 : Fld Z h6 b6 "com/example/keys_to_structures/keystostructures/store/Entry" "hash" "I" (.int (0 : Int32)) := D6 (Or.inr (hw _ (List.mem_of_getElem? (i := 38) rfl))) (ty := .int) (by decide)
  have F_deadline_b6 : Fld Z h6 b6 "com/example/keys_to_structures/keystostructures/store/TimedEntry" "deadline" "J" (.long (0 : Int64)) := D6 (Or.inl (hw _ (List.mem_of_getElem? (i := 40) rfl))) (ty := .long) (by decide)
  have F_position_b6 : Fld Z h6 b6 "com/example/keys_to_structures/keystostructures/store/TimedEntry" "position" "I" (.int (0 : Int32)) := D6 (Or.inl (hw _ (List.mem_of_getElem? (i := 73) rfl))) (ty := .int) (by decide)
  refine Run.st (S' := T6.setTop (mkF m 28 #[.val (.int p0), .val (.long q1), .second, .val (.long q2), .second, .val (.long q3), .second, .val (.long q4), .second, .val (.ref b1), .val (.ref b3), .unset, .unset, .unset, .unset, .unset] [(.int (0 : Int32)), (.ref b6), (.ref b6)])) (fun _ k => st6 _ (XS.dup X6.here hx rfl (hb hby at_26) rfl rfl (XS.iconst X6.here hx rfl (hb hby at_27) k))) ?_
  obtain ⟨T7, h7, k7, X7, e7, E7, A7, st7⟩ := newP X6 hx hZ (hw _ (List.mem_of_getElem? (i := 16) rfl)) e6 (g := (mkF m 28 #[.val (.int p0), .val (.long q1), .second, .val (.long q2), .second, .val (.long q3), .second, .val (.long q4), .second, .val (.ref b1), .val (.ref b3), .unset, .unset, .unset, .unset, .unset] [(.int (0 : Int32)), (.ref b6), (.ref b6)])) rfl (hb hby at_28) rfl (by decide) (cap := 0) (by decide) (by decide) (by decide) (by decide)
  obtain ⟨b7, g7⟩ : ∃ z, z = h6.size := ⟨_, rfl⟩
  rw [← g7] at A7 st7
  have ne_b1_b7 : b1 ≠ b7 := Nat.ne_of_lt (Nat.lt_of_lt_of_le E_b1.lt (Nat.le_of_eq g7.symm))
  have ne_b2_b7 : b2 ≠ b7 := Nat.ne_of_lt (Nat.lt_of_lt_of_le V_b2.lt (Nat.le_of_eq g7.symm))
  have ne_b3_b7 : b3 ≠ b7 := Nat.ne_of_lt (Nat.lt_of_lt_of_le E_b3.lt (Nat.le_of_eq g7.symm))
  have ne_b6_b7 : b6 ≠ b7 := Nat.ne_of_lt (Nat.lt_of_lt_of_le E_b6.lt (Nat.le_of_eq g7.symm))
  have E_b1 := E_b1.ext E7
  have F_heap_b1 := F_heap_b1.ext E7
  have F_size_b1 := F_size_b1.ext E7
  have V_b2 := V_b2.ext E7
  have E_b3 := E_b3.ext E7
  have F_deadline_b3 := F_deadline_b3.ext E7
  have F_position_b3 := F_position_b3.ext E7
  have E_b6 := E_b6.ext E7
  have F_key_b6 := F_key_b6.ext E7
  have F_value_b6 := F_value_b6.ext E7
  have F_hash_b6 := F_hash_b6.ext E7
  have F_deadline_b6 := F_deadline_b6.ext E7
  have F_position_b6 := F_position_b6.ext E7
  have g_b7 : n0 ≤ b7 := Nat.le_trans Zn (Nat.le_of_eq g7.symm)
  have Zn := Nat.le_trans Zn E7.1
  have sz_b7 : h0.size ≤ b7 := Nat.le_trans Kp.1 (Nat.le_of_eq g7.symm)
  have Kp := Kp.ext E7
  have V_b7 : Arv Z h7 b7 k7 .byte (0 : Int32) [] (.int (0 : Int32)) := (Arv.new A7 (by decide)).pad (pad_rep [] (.int (0 : Int32)) 0)
  refine Run.st (S' := T7.setTop (mkF m 32 #[.val (.int p0), .val (.long q1), .second, .val (.long q2), .second, .val (.long q3), .second, .val (.long q4), .second, .val (.ref b1), .val (.ref b3), .unset, .unset, .unset, .unset, .unset] [(.long q2), .null, (.ref b7), (.ref b6), (.ref b6)])) (fun _ k => st7 _ (XS.aconstNull X7.here hx rfl (hb hby at_30) (XS.lloadN X7.here hx rfl (hb hby at_31) rfl k))) ?_
  obtain ⟨_, _, ⟨T8, L8, k8, n8⟩, -, X8, ⟨Lc8, hQ8, l8, y8, z8⟩, st8⟩ := X7.specialBack hx (y := (⟨"com/example/keys_to_structures/keystostructures/store/TimedEntry", "<init>", "([BLjava/lang/Object;J)V"⟩ : MethodName)) rfl hown (mvT hZ (hw _ (List.mem_of_getElem? (i := 17) rfl))) (mvT hZ (hw _ (List.mem_of_getElem? (i := 18) rfl))) (mvT hZ (hw _ (List.mem_of_getElem? (i := 19) rfl))) (by decide) (backOf (W := 1) (rmTIni l Z aV hw [] b6 b7 q2 k7 h7 n0 Zn g_b6 E_b6 F_deadline_b6 F_position_b6 F_key_b6 F_value_b6 F_hash_b6 V_b7 ne_b6_b7) hZ (hw _ (List.mem_of_getElem? (i := 19) rfl)) (hw _ (List.mem_of_getElem? (i := 15) rfl)) (by decide) (by decide)) (g := (mkF m 32 #[.val (.int p0), .val (.long q1), .second, .val (.long q2), .second, .val (.long q3), .second, .val (.long q4), .second, .val (.ref b1), .val (.ref b3), .unset, .unset, .unset, .unset, .unset] [(.long q2), .null, (.ref b7), (.ref b6), (.ref b6)])) rfl (by rw [hml]; rfl) (Steps.refl _) (a := b6) (argsL := [(.ref b7), .null, (.long q2)]) (rest := [(.ref b6)]) (lenOf pd_6 rfl) rfl (by show 2 * 0 + _ ≤ _; exact Nat.le_of_eq rfl) (hb hby at_32) (fun _ _ => ⟨rfl, e7, (by decide : 6 + 0 ≤ _), (by decide : 30 + 0 ≤ _)⟩)
  dsimp only [Pt.U, Pt.locs, Pt.cells, Pt.slots] at X8 l8 y8 z8 st8 hQ8
  subst l8 y8 z8
  obtain ⟨rfl, N8q, K8, q8_0, q8_1, q8_2, q8_3, q8_4, q8_5⟩ := hQ8
  have E_b1 := E_b1.keep K8
  have F_heap_b1 := F_heap_b1.keep K8 (ninS ne_b1_b6 nin0)
  have F_size_b1 := F_size_b1.keep K8 (ninS ne_b1_b6 nin0)
  have V_b2 := V_b2.keep K8 (ninS ne_b2_b6 nin0)
  have E_b3 := E_b3.keep K8
  have F_deadline_b3 := F_deadline_b3.keep K8 (ninS ne_b3_b6 nin0)
  have F_position_b3 := F_position_b3.keep K8 (ninS ne_b3_b6 nin0)
  have V_b7 := V_b7.keep K8 (ninS (Ne.symm ne_b6_b7) nin0)
  have E_b6 := q8_0
  have F_deadline_b6 := q8_1
  have F_position_b6 := q8_2
  have F_key_b6 := q8_3
  have F_value_b6 := q8_4
  have F_hash_b6 := q8_5
  have Kp := Kp.trans K8 (allS (Or.inr sz_b6) all0)
  have Zn := Nat.le_trans Zn K8.1
  have N8 := Fr.app N5 N8q
  refine Run.st (S' := T8.setTop (mkF m 37 #[.val (.int p0), .val (.long q1), .second, .val (.long q2), .second, .val (.long q3), .second, .val (.long q4), .second, .val (.ref b1), .val (.ref b3), .val (.ref b6), .unset, .unset, .unset, .unset] [])) (fun _ k => st8.trans (XS.astore X8.here hx rfl (hb hby at_35) rfl rfl (l' := #[.val (.int p0), .val (.long q1), .second, .val (.long q2), .second, .val (.long q3), .second, .val (.long q4), .second, .val (.ref b1), .val (.ref b3), .val (.ref b6), .unset, .unset, .unset, .unset]) rfl k)) ?_
  obtain ⟨T9, h9, X9, e9, E9, A9, D9, -, st9⟩ := newO X8 hx hZ hown (hw _ (List.mem_of_getElem? (i := 13) rfl)) (hw _ (List.mem_of_getElem? (i := 14) rfl)) (hw _ (List.mem_of_getElem? (i := 15) rfl)) rfl (g := (mkF m 37 #[.val (.int p0), .val (.long q1), .second, .val (.long q2), .second, .val (.long q3), .second, .val (.long q4), .second, .val (.ref b1), .val (.ref b3), .val (.ref b6), .unset, .unset, .unset, .unset] [])) rfl (hb hby at_37) (by decide) (by decide)
  obtain ⟨b9, g9⟩ : ∃ z, z = T8.heap.size := ⟨_, rfl⟩
  rw [← g9] at A9 D9 st9
  have ne_b1_b9 : b1 ≠ b9 := Nat.ne_of_lt (Nat.lt_of_lt_of_le E_b1.lt (Nat.le_of_eq g9.symm))
  have ne_b2_b9 : b2 ≠ b9 := Nat.ne_of_lt (Nat.lt_of_lt_of_le V_b2.lt (Nat.le_of_eq g9.symm))
  have ne_b3_b9 : b3 ≠ b9 := Nat.ne_of_lt (Nat.lt_of_lt_of_le E_b3.lt (Nat.le_of_eq g9.symm))
  have ne_b6_b9 : b6 ≠ b9 := Nat.ne_of_lt (Nat.lt_of_lt_of_le E_b6.lt (Nat.le_of_eq g9.symm))
  have E_b1 := E_b1.ext E9
  have F_heap_b1 := F_heap_b1.ext E9
  have F_size_b1 := F_size_b1.ext E9
  have V_b2 := V_b2.ext E9
  have E_b3 := E_b3.ext E9
  have F_deadline_b3 := F_deadline_b3.ext E9
  have F_position_b3 := F_position_b3.ext E9
  have E_b6 := E_b6.ext E9
  have F_deadline_b6 := F_deadline_b6.ext E9
  have F_position_b6 := F_position_b6.ext E9
  have g_b9 : n0 ≤ b9 := Nat.le_trans Zn (Nat.le_of_eq g9.symm)
  have Zn := Nat.le_trans Zn E9.1
  have sz_b9 : h0.size ≤ b9 := Nat.le_trans Kp.1 (Nat.le_of_eq g9.symm)
  have Kp := Kp.ext E9
  have E_b9 := A9
  have F_key_b9 : Fld Z h9 b9 "com/example/keys_to_structures/keystostructures/store/Entry" "key" "[B" .null := D9 (Or.inr (hw _ (List.mem_of_getElem? (i := 27) rfl))) (ty := (.array .byte)) (by decide)
  have F_value_b9 : Fld Z h9 b9 "com/example/keys_to_structures/keystostructures/store/Entry" "value" "Ljava/lang/Object;" .null := D9 (Or.inl (hw _ (List.mem_of_getElem? (i := 29) rfl))) (ty := (.object "java/lang/Object")) (by decide)
  have F_hash_b9 : Fld Z h9 b9 "com/example/keys_to_structures/keystostructures/store/Entry" "hash" "I" (.int (0 : Int32)) := D9 (Or.inr (hw _ (List.mem_of_getElem? (i := 38) rfl))) (ty := .int) (by decide)
  have F_deadline_b9 : Fld Z h9 b9 "com/example/keys_to_structures/keystostructures/store/TimedEntry" "deadline" "J" (.long (0 : Int64)) := D9 (Or.inl (hw _ (List.mem_of_getElem? (i := 40) rfl))) (ty := .long) (by decide)
  have F_position_b9 : Fld Z h9 b9 "com/example/keys_to_structures/keystostructures/store/TimedEntry" "position" "I" (.int (0 : Int32)) := D9 (Or.inl (hw _ (List.mem_of_getElem? (i := 73) rfl))) (ty := .int) (by decide)
  refine Run.st (S' := T9.setTop (mkF m 42 #[.val (.int p0), .val (.long q1), .second, .val (.long q2), .second, .val (.long q3), .second, .val (.long q4), .second, .val (.ref b1), .val (.ref b3), .val (.ref b6), .unset, .unset, .unset, .unset] [(.int (0 : Int32)), (.ref b9), (.ref b9)])) (fun _ k => st9 _ (XS.dup X9.here hx rfl (hb hby at_40) rfl rfl (XS.iconst X9.here hx rfl (hb hby at_41) k))) ?_
  obtain ⟨T10, h10, k10, X10, e10, E10, A10, st10⟩ := newP X9 hx hZ (hw _ (List.mem_of_getElem? (i := 16) rfl)) e9 (g := (mkF m 42 #[.val (.int p0), .val (.long q1), .second, .val (.long q2), .second, .val (.long q3), .second, .val (.long q4), .second, .val (.ref b1), .val (.ref b3), .val (.ref b6), .unset, .unset, .unset, .unset] [(.int (0 : Int32)), (.ref b9), (.ref b9)])) rfl (hb hby at_42) rfl (by decide) (cap := 0) (by decide) (by decide) (by decide) (by decide)
  obtain ⟨b10, g10⟩ : ∃ z, z = h9.size := ⟨_, rfl⟩
  rw [← g10] at A10 st10
  have ne_b1_b10 : b1 ≠ b10 := Nat.ne_of_lt (Nat.lt_of_lt_of_le E_b1.lt (Nat.le_of_eq g10.symm))
  have ne_b2_b10 : b2 ≠ b10 := Nat.ne_of_lt (Nat.lt_of_lt_of_le V_b2.lt (Nat.le_of_eq g10.symm))
  have ne_b3_b10 : b3 ≠ b10 := Nat.ne_of_lt (Nat.lt_of_lt_of_le E_b3.lt (Nat.le_of_eq g10.symm))
  have ne_b6_b10 : b6 ≠ b10 := Nat.ne_of_lt (Nat.lt_of_lt_of_le E_b6.lt (Nat.le_of_eq g10.symm))
  have ne_b9_b10 : b9 ≠ b10 := Nat.ne_of_lt (Nat.lt_of_lt_of_le E_b9.lt (Nat.le_of_eq g10.symm))
  have E_b1 := E_b1.ext E10
  have F_heap_b1 := F_heap_b1.ext E10
  have F_size_b1 := F_size_b1.ext E10
  have V_b2 := V_b2.ext E10
  have E_b3 := E_b3.ext E10
  have F_deadline_b3 := F_deadline_b3.ext E10
  have F_position_b3 := F_position_b3.ext E10
  have E_b6 := E_b6.ext E10
  have F_deadline_b6 := F_deadline_b6.ext E10
  have F_position_b6 := F_position_b6.ext E10
  have E_b9 := E_b9.ext E10
  have F_key_b9 := F_key_b9.ext E10
  have F_value_b9 := F_value_b9.ext E10
  have F_hash_b9 := F_hash_b9.ext E10
  have F_deadline_b9 := F_deadline_b9.ext E10
  have F_position_b9 := F_position_b9.ext E10
  have g_b10 : n0 ≤ b10 := Nat.le_trans Zn (Nat.le_of_eq g10.symm)
  have Zn := Nat.le_trans Zn E10.1
  have sz_b10 : h0.size ≤ b10 := Nat.le_trans Kp.1 (Nat.le_of_eq g10.symm)
  have Kp := Kp.ext E10
  have V_b10 : Arv Z h10 b10 k10 .byte (0 : Int32) [] (.int (0 : Int32)) := (Arv.new A10 (by decide)).pad (pad_rep [] (.int (0 : Int32)) 0)
  refine Run.st (S' := T10.setTop (mkF m 47 #[.val (.int p0), .val (.long q1), .second, .val (.long q2), .second, .val (.long q3), .second, .val (.long q4), .second, .val (.ref b1), .val (.ref b3), .val (.ref b6), .unset, .unset, .unset, .unset] [(.long q3), .null, (.ref b10), (.ref b9), (.ref b9)])) (fun _ k => st10 _ (XS.aconstNull X10.here hx rfl (hb hby at_44) (XS.lload X10.here hx rfl (hb hby at_45) rfl k))) ?_
  obtain ⟨_, _, ⟨T11, L11, k11, n11⟩, -, X11, ⟨Lc11, hQ11, l11, y11, z11⟩, st11⟩ := X10.specialBack hx (y := (⟨"com/example/keys_to_structures/keystostructures/store/TimedEntry", "<init>", "([BLjava/lang/Object;J)V"⟩ : MethodName)) rfl hown (mvT hZ (hw _ (List.mem_of_getElem? (i := 17) rfl))) (mvT hZ (hw _ (List.mem_of_getElem? (i := 18) rfl))) (mvT hZ (hw _ (List.mem_of_getElem? (i := 19) rfl))) (by decide) (backOf (W := 1) (rmTIni l Z aV hw [] b9 b10 q3 k10 h10 n0 Zn g_b9 E_b9 F_deadline_b9 F_position_b9 F_key_b9 F_value_b9 F_hash_b9 V_b10 ne_b9_b10) hZ (hw _ (List.mem_of_getElem? (i := 19) rfl)) (hw _ (List.mem_of_getElem? (i := 15) rfl)) (by decide) (by decide)) (g := (mkF m 47 #[.val (.int p0), .val (.long q1), .second, .val (.long q2), .second, .val (.long q3), .second, .val (.long q4), .second, .val (.ref b1), .val (.ref b3), .val (.ref b6), .unset, .unset, .unset, .unset] [(.long q3), .null, (.ref b10), (.ref b9), (.ref b9)])) rfl (by rw [hml]; rfl) (Steps.refl _) (a := b9) (argsL := [(.ref b10), .null, (.long q3)]) (rest := [(.ref b9)]) (lenOf pd_6 rfl) rfl (by show 2 * 0 + _ ≤ _; exact Nat.le_of_eq rfl) (hb hby at_47) (fun _ _ => ⟨rfl, e10, (by decide : 8 + 0 ≤ _), (by decide : 36 + 0 ≤ _)⟩)
  dsimp only [Pt.U, Pt.locs, Pt.cells, Pt.slots] at X11 l11 y11 z11 st11 hQ11
  subst l11 y11 z11
  obtain ⟨rfl, N11q, K11, q11_0, q11_1, q11_2, q11_3, q11_4, q11_5⟩ := hQ11
  have E_b1 := E_b1.keep K11
  have F_heap_b1 := F_heap_b1.keep K11 (ninS ne_b1_b9 nin0)
  have F_size_b1 := F_size_b1.keep K11 (ninS ne_b1_b9 nin0)
  have V_b2 := V_b2.keep K11 (ninS ne_b2_b9 nin0)
  have E_b3 := E_b3.keep K11
  have F_deadline_b3 := F_deadline_b3.keep K11 (ninS ne_b3_b9 nin0)
  have F_position_b3 := F_position_b3.keep K11 (ninS ne_b3_b9 nin0)
  have E_b6 := E_b6.keep K11
  have F_deadline_b6 := F_deadline_b6.keep K11 (ninS ne_b6_b9 nin0)
  have F_position_b6 := F_position_b6.keep K11 (ninS ne_b6_b9 nin0)
  have V_b10 := V_b10.keep K11 (ninS (Ne.symm ne_b9_b10) nin0)
  have E_b9 := q11_0
  have F_deadline_b9 := q11_1
  have F_position_b9 := q11_2
  have F_key_b9 := q11_3
  have F_value_b9 := q11_4
  have F_hash_b9 := q11_5
  have Kp := Kp.trans K11 (allS (Or.inr sz_b9) all0)
  have Zn := Nat.le_trans Zn K11.1
  have N11 := Fr.app N8 N11q
  refine Run.st (S' := T11.setTop (mkF m 52 #[.val (.int p0), .val (.long q1), .second, .val (.long q2), .second, .val (.long q3), .second, .val (.long q4), .second, .val (.ref b1), .val (.ref b3), .val (.ref b6), .val (.ref b9), .unset, .unset, .unset] [])) (fun _ k => st11.trans (XS.astore X11.here hx rfl (hb hby at_50) rfl rfl (l' := #[.val (.int p0), .val (.long q1), .second, .val (.long q2), .second, .val (.long q3), .second, .val (.long q4), .second, .val (.ref b1), .val (.ref b3), .val (.ref b6), .val (.ref b9), .unset, .unset, .unset]) rfl k)) ?_
  obtain ⟨T12, h12, X12, e12, E12, A12, D12, -, st12⟩ := newO X11 hx hZ hown (hw _ (List.mem_of_getElem? (i := 13) rfl)) (hw _ (List.mem_of_getElem? (i := 14) rfl)) (hw _ (List.mem_of_getElem? (i := 15) rfl)) rfl (g := (mkF m 52 #[.val (.int p0), .val (.long q1), .second, .val (.long q2), .second, .val (.long q3), .second, .val (.long q4), .second, .val (.ref b1), .val (.ref b3), .val (.ref b6), .val (.ref b9), .unset, .unset, .unset] [])) rfl (hb hby at_52) (by decide) (by decide)
  obtain ⟨b12, g12⟩ : ∃ z, z = T11.heap.size := ⟨_, rfl⟩
  rw [← g12] at A12 D12 st12
  have ne_b1_b12 : b1 ≠ b12 := Nat.ne_of_lt (Nat.lt_of_lt_of_le E_b1.lt (Nat.le_of_eq g12.symm))
  have ne_b2_b12 : b2 ≠ b12 := Nat.ne_of_lt (Nat.lt_of_lt_of_le V_b2.lt (Nat.le_of_eq g12.symm))
  have ne_b3_b12 : b3 ≠ b12 := Nat.ne_of_lt (Nat.lt_of_lt_of_le E_b3.lt (Nat.le_of_eq g12.symm))
  have ne_b6_b12 : b6 ≠ b12 := Nat.ne_of_lt (Nat.lt_of_lt_of_le E_b6.lt (Nat.le_of_eq g12.symm))
  have ne_b9_b12 : b9 ≠ b12 := Nat.ne_of_lt (Nat.lt_of_lt_of_le E_b9.lt (Nat.le_of_eq g12.symm))
  have E_b1 := E_b1.ext E12
  have F_heap_b1 := F_heap_b1.ext E12
  have F_size_b1 := F_size_b1.ext E12
  have V_b2 := V_b2.ext E12
  have E_b3 := E_b3.ext E12
  have F_deadline_b3 := F_deadline_b3.ext E12
  have F_position_b3 := F_position_b3.ext E12
  have E_b6 := E_b6.ext E12
  have F_deadline_b6 := F_deadline_b6.ext E12
  have F_position_b6 := F_position_b6.ext E12
  have E_b9 := E_b9.ext E12
  have F_deadline_b9 := F_deadline_b9.ext E12
  have F_position_b9 := F_position_b9.ext E12
  have g_b12 : n0 ≤ b12 := Nat.le_trans Zn (Nat.le_of_eq g12.symm)
  have Zn := Nat.le_trans Zn E12.1
  have sz_b12 : h0.size ≤ b12 := Nat.le_trans Kp.1 (Nat.le_of_eq g12.symm)
  have Kp := Kp.ext E12
  have E_b12 := A12
  have F_key_b12 : Fld Z h12 b12 "com/example/keys_to_structures/keystostructures/store/Entry" "key" "[B" .null := D12 (Or.inr (hw _ (List.mem_of_getElem? (i := 27) rfl))) (ty := (.array .byte)) (by decide)
  have F_value_b12 : Fld Z h12 b12 "com/example/keys_to_structures/keystostructures/store/Entry" "value" "Ljava/lang/Object;" .null := D12 (Or.inl (hw _ (List.mem_of_getElem? (i := 29) rfl))) (ty := (.object "java/lang/Object")) (by decide)
  have F_hash_b12 : Fld Z h12 b12 "com/example/keys_to_structures/keystostructures/store/Entry" "hash" "I" (.int (0 : Int32)) := D12 (Or.inr (hw _ (List.mem_of_getElem? (i := 38) rfl))) (ty := .int) (by decide)
  have F_deadline_b12 : Fld Z h12 b12 "com/example/keys_to_structures/keystostructures/store/TimedEntry" "deadline" "J" (.long (0 : Int64)) := D12 (Or.inl (hw _ (List.mem_of_getElem? (i := 40) rfl))) (ty := .long) (by decide)
  have F_position_b12 : Fld Z h12 b12 "com/example/keys_to_structures/keystostructures/store/TimedEntry" "position" "I" (.int (0 : Int32)) := D12 (Or.inl (hw _ (List.mem_of_getElem? (i := 73) rfl))) (ty := .int) (by decide)
  refine Run.st (S' := T12.setTop (mkF m 57 #[.val (.int p0), .val (.long q1), .second, .val (.long q2), .second, .val (.long q3), .second, .val (.long q4), .second, .val (.ref b1), .val (.ref b3), .val (.ref b6), .val (.ref b9), .unset, .unset, .unset] [(.int (0 : Int32)), (.ref b12), (.ref b12)])) (fun _ k => st12 _ (XS.dup X12.here hx rfl (hb hby at_55) rfl rfl (XS.iconst X12.here hx rfl (hb hby at_56) k))) ?_
  obtain ⟨T13, h13, k13, X13, e13, E13, A13, st13⟩ := newP X12 hx hZ (hw _ (List.mem_of_getElem? (i := 16) rfl)) e12 (g := (mkF m 57 #[.val (.int p0), .val (.long q1), .second, .val (.long q2), .second, .val (.long q3), .second, .val (.long q4), .second, .val (.ref b1), .val (.ref b3), .val (.ref b6), .val (.ref b9), .unset, .unset, .unset] [(.int (0 : Int32)), (.ref b12), (.ref b12)])) rfl (hb hby at_57) rfl (by decide) (cap := 0) (by decide) (by decide) (by decide) (by decide)
  obtain ⟨b13, g13⟩ : ∃ z, z = h12.size := ⟨_, rfl⟩
  rw [← g13] at A13 st13
  have ne_b1_b13 : b1 ≠ b13 := Nat.ne_of_lt (Nat.lt_of_lt_of_le E_b1.lt (Nat.le_of_eq g13.symm))
  have ne_b2_b13 : b2 ≠ b13 := Nat.ne_of_lt (Nat.lt_of_lt_of_le V_b2.lt (Nat.le_of_eq g13.symm))
  have ne_b3_b13 : b3 ≠ b13 := Nat.ne_of_lt (Nat.lt_of_lt_of_le E_b3.lt (Nat.le_of_eq g13.symm))
  have ne_b6_b13 : b6 ≠ b13 := Nat.ne_of_lt (Nat.lt_of_lt_of_le E_b6.lt (Nat.le_of_eq g13.symm))
  have ne_b9_b13 : b9 ≠ b13 := Nat.ne_of_lt (Nat.lt_of_lt_of_le E_b9.lt (Nat.le_of_eq g13.symm))
  have ne_b12_b13 : b12 ≠ b13 := Nat.ne_of_lt (Nat.lt_of_lt_of_le E_b12.lt (Nat.le_of_eq g13.symm))
  have E_b1 := E_b1.ext E13
  have F_heap_b1 := F_heap_b1.ext E13
  have F_size_b1 := F_size_b1.ext E13
  have V_b2 := V_b2.ext E13
  have E_b3 := E_b3.ext E13
  have F_deadline_b3 := F_deadline_b3.ext E13
  have F_position_b3 := F_position_b3.ext E13
  have E_b6 := E_b6.ext E13
  have F_deadline_b6 := F_deadline_b6.ext E13
  have F_position_b6 := F_position_b6.ext E13
  have E_b9 := E_b9.ext E13
  have F_deadline_b9 := F_deadline_b9.ext E13
  have F_position_b9 := F_position_b9.ext E13
  have E_b12 := E_b12.ext E13
  have F_key_b12 := F_key_b12.ext E13
  have F_value_b12 := F_value_b12.ext E13
  have F_hash_b12 := F_hash_b12.ext E13
  have F_deadline_b12 := F_deadline_b12.ext E13
  have F_position_b12 := F_position_b12.ext E13
  have g_b13 : n0 ≤ b13 := Nat.le_trans Zn (Nat.le_of_eq g13.symm)
  have Zn := Nat.le_trans Zn E13.1
  have sz_b13 : h0.size ≤ b13 := Nat.le_trans Kp.1 (Nat.le_of_eq g13.symm)
  have Kp := Kp.ext E13
  have V_b13 : Arv Z h13 b13 k13 .byte (0 : Int32) [] (.int (0 : Int32)) := (Arv.new A13 (by decide)).pad (pad_rep [] (.int (0 : Int32)) 0)
  refine Run.st (S' := T13.setTop (mkF m 62 #[.val (.int p0), .val (.long q1), .second, .val (.long q2), .second, .val (.long q3), .second, .val (.long q4), .second, .val (.ref b1), .val (.ref b3), .val (.ref b6), .val (.ref b9), .unset, .unset, .unset] [(.long q4), .null, (.ref b13), (.ref b12), (.ref b12)])) (fun _ k => st13 _ (XS.aconstNull X13.here hx rfl (hb hby at_59) (XS.lload X13.here hx rfl (hb hby at_60) rfl k))) ?_
  obtain ⟨_, _, ⟨T14, L14, k14, n14⟩, -, X14, ⟨Lc14, hQ14, l14, y14, z14⟩, st14⟩ := X13.specialBack hx (y := (⟨"com/example/keys_to_structures/keystostructures/store/TimedEntry", "<init>", "([BLjava/lang/Object;J)V"⟩ : MethodName)) rfl hown (mvT hZ (hw _ (List.mem_of_getElem? (i := 17) rfl))) (mvT hZ (hw _ (List.mem_of_getElem? (i := 18) rfl))) (mvT hZ (hw _ (List.mem_of_getElem? (i := 19) rfl))) (by decide) (backOf (W := 1) (rmTIni l Z aV hw [] b12 b13 q4 k13 h13 n0 Zn g_b12 E_b12 F_deadline_b12 F_position_b12 F_key_b12 F_value_b12 F_hash_b12 V_b13 ne_b12_b13) hZ (hw _ (List.mem_of_getElem? (i := 19) rfl)) (hw _ (List.mem_of_getElem? (i := 15) rfl)) (by decide) (by decide)) (g := (mkF m 62 #[.val (.int p0), .val (.long q1), .second, .val (.long q2), .second, .val (.long q3), .second, .val (.long q4), .second, .val (.ref b1), .val (.ref b3), .val (.ref b6), .val (.ref b9), .unset, .unset, .unset] [(.long q4), .null, (.ref b13), (.ref b12), (.ref b12)])) rfl (by rw [hml]; rfl) (Steps.refl _) (a := b12) (argsL := [(.ref b13), .null, (.long q4)]) (rest := [(.ref b12)]) (lenOf pd_6 rfl) rfl (by show 2 * 0 + _ ≤ _; exact Nat.le_of_eq rfl) (hb hby at_62) (fun _ _ => ⟨rfl, e13, (by decide : 10 + 0 ≤ _), (by decide : 42 + 0 ≤ _)⟩)
  dsimp only [Pt.U, Pt.locs, Pt.cells, Pt.slots] at X14 l14 y14 z14 st14 hQ14
  subst l14 y14 z14
  obtain ⟨rfl, N14q, K14, q14_0, q14_1, q14_2, q14_3, q14_4, q14_5⟩ := hQ14
  have E_b1 := E_b1.keep K14
  have F_heap_b1 := F_heap_b1.keep K14 (ninS ne_b1_b12 nin0)
  have F_size_b1 := F_size_b1.keep K14 (ninS ne_b1_b12 nin0)
  have V_b2 := V_b2.keep K14 (ninS ne_b2_b12 nin0)
  have E_b3 := E_b3.keep K14
  have F_deadline_b3 := F_deadline_b3.keep K14 (ninS ne_b3_b12 nin0)
  have F_position_b3 := F_position_b3.keep K14 (ninS ne_b3_b12 nin0)
  have E_b6 := E_b6.keep K14
  have F_deadline_b6 := F_deadline_b6.keep K14 (ninS ne_b6_b12 nin0)
  have F_position_b6 := F_position_b6.keep K14 (ninS ne_b6_b12 nin0)
  have E_b9 := E_b9.keep K14
  have F_deadline_b9 := F_deadline_b9.keep K14 (ninS ne_b9_b12 nin0)
  have F_position_b9 := F_position_b9.keep K14 (ninS ne_b9_b12 nin0)
  have V_b13 := V_b13.keep K14 (ninS (Ne.symm ne_b12_b13) nin0)
  have E_b12 := q14_0
  have F_deadline_b12 := q14_1
  have F_position_b12 := q14_2
  have F_key_b12 := q14_3
  have F_value_b12 := q14_4
  have F_hash_b12 := q14_5
  have Kp := Kp.trans K14 (allS (Or.inr sz_b12) all0)
  have Zn := Nat.le_trans Zn K14.1
  have N14 := Fr.app N11 N14q
  refine Run.st (S' := T14.setTop (mkF m 70 #[.val (.int p0), .val (.long q1), .second, .val (.long q2), .second, .val (.long q3), .second, .val (.long q4), .second, .val (.ref b1), .val (.ref b3), .val (.ref b6), .val (.ref b9), .val (.ref b12), .unset, .unset] [(.int (p0 &&& (1 : Int32)))])) (fun _ k => st14.trans (XS.astore X14.here hx rfl (hb hby at_65) rfl rfl (l' := #[.val (.int p0), .val (.long q1), .second, .val (.long q2), .second, .val (.long q3), .second, .val (.long q4), .second, .val (.ref b1), .val (.ref b3), .val (.ref b6), .val (.ref b9), .val (.ref b12), .unset, .unset]) rfl (XS.iloadN X14.here hx rfl (hb hby at_67) rfl (XS.iconst X14.here hx rfl (hb hby at_68) (XS.iand X14.here hx rfl (hb hby at_69) rfl k))))) ?_
  by_cases hc70_15 : (p0 &&& (1 : Int32)) = (0 : Int32)
  · refine Run.st (S' := T14.setTop (mkF m 83 #[.val (.int p0), .val (.long q1), .second, .val (.long q2), .second, .val (.long q3), .second, .val (.long q4), .second, .val (.ref b1), .val (.ref b3), .val (.ref b6), .val (.ref b9), .val (.ref b12), .unset, .unset] [(.int (p0 &&& (2 : Int32)))])) (fun _ k => XS.ifYes X14.here hx rfl (pc0 := 70) (pc' := 80) rfl (hb hby at_70) rfl ((if0 _ _).trans (teq hc70_15).1) (by decide) (by decide) (XS.iloadN X14.here hx rfl (hb hby at_80) rfl (XS.iconst X14.here hx rfl (hb hby at_81) (XS.iand X14.here hx rfl (hb hby at_82) rfl k)))) ?_
    by_cases hc83_16 : (p0 &&& (2 : Int32)) = (0 : Int32)
    · refine Run.st (S' := T14.setTop (mkF m 95 #[.val (.int p0), .val (.long q1), .second, .val (.long q2), .second, .val (.long q3), .second, .val (.long q4), .second, .val (.ref b1), .val (.ref b3), .val (.ref b6), .val (.ref b9), .val (.ref b12), .unset, .unset] [(.ref b1)])) (fun _ k => XS.ifYes X14.here hx rfl (pc0 := 83) (pc' := 93) rfl (hb hby at_83) rfl ((if0 _ _).trans (teq hc83_16).1) (by decide) (by decide) (XS.aload X14.here hx rfl (hb hby at_93) rfl rfl k)) ?_
      obtain ⟨cq17, kq17, q17a, q17b, q17c⟩ := isOf hZ rfl E_b1
      obtain ⟨_, _, ⟨T17, L17, k17, n17⟩, -, X17, ⟨Lc17, hQ17, l17, y17, z17⟩, st17⟩ := X14.virtualBack hx (y := (⟨"com/example/keys_to_structures/keystostructures/store/ExpiryQueue", "clear", "()V"⟩ : MethodName)) (z := (⟨"com/example/keys_to_structures/keystostructures/store/ExpiryQueue", "clear", "()V"⟩ : MethodName)) hown (mvT hZ (hw _ (List.mem_of_getElem? (i := 41) rfl))) (mvT hZ (hw _ (List.mem_of_getElem? (i := 42) rfl))) (notFace_of_selects (args := #[]) (mvT hZ (hw _ (List.mem_of_getElem? (i := 44) rfl)))) (mvT hZ (hw _ (List.mem_of_getElem? (i := 44) rfl))) (mvT hZ (hw _ (List.mem_of_getElem? (i := 43) rfl))) (by decide) (backOf (W := 0) (rmClr l Z aV hw [] b1 b2 (0 : Int32) T14.heap n0 Zn g_b1 E_b1 F_heap_b1 F_size_b1) hZ (hw _ (List.mem_of_getElem? (i := 45) rfl)) (hw _ (List.mem_of_getElem? (i := 2) rfl)) (by decide) (by decide)) q17a q17c (g := (mkF m 95 #[.val (.int p0), .val (.long q1), .second, .val (.long q2), .second, .val (.long q3), .second, .val (.long q4), .second, .val (.ref b1), .val (.ref b3), .val (.ref b6), .val (.ref b9), .val (.ref b12), .unset, .unset] [(.ref b1)])) rfl (by rw [hml]; rfl) (Steps.refl _) (argsL := []) (rest := []) (lenOf pd_5 rfl) rfl (by show 2 * 0 + _ ≤ _; exact Nat.le_of_eq rfl) (hb hby at_95) (fun _ _ => ⟨rfl, rfl, (by decide : 10 + 1 ≤ _), (by decide : 42 + 16 ≤ _)⟩)
      dsimp only [Pt.U, Pt.locs, Pt.cells, Pt.slots] at X17 l17 y17 z17 st17 hQ17
      subst l17 y17 z17
      obtain ⟨b17, kb17, rfl, N17q, K17, g_b17, z_b17, O_kb17, q17_0, q17_1, q17_2, q17_3⟩ := hQ17
      have ne_b1_b17 : b1 ≠ b17 := Nat.ne_of_lt (Nat.lt_of_lt_of_le E_b1.lt z_b17)
      have ne_b2_b17 : b2 ≠ b17 := Nat.ne_of_lt (Nat.lt_of_lt_of_le V_b2.lt z_b17)
      have ne_b3_b17 : b3 ≠ b17 := Nat.ne_of_lt (Nat.lt_of_lt_of_le E_b3.lt z_b17)
      have ne_b6_b17 : b6 ≠ b17 := Nat.ne_of_lt (Nat.lt_of_lt_of_le E_b6.lt z_b17)
      have ne_b9_b17 : b9 ≠ b17 := Nat.ne_of_lt (Nat.lt_of_lt_of_le E_b9.lt z_b17)
      have ne_b12_b17 : b12 ≠ b17 := Nat.ne_of_lt (Nat.lt_of_lt_of_le E_b12.lt z_b17)
      have sz_b17 : h0.size ≤ b17 := Nat.le_trans Kp.1 z_b17
      have V_b2 := V_b2.keep K17 (ninS (Ne.symm ne_b1_b2) nin0)
      have E_b3 := E_b3.keep K17
      have F_deadline_b3 := F_deadline_b3.keep K17 (ninS (Ne.symm ne_b1_b3) nin0)
      have F_position_b3 := F_position_b3.keep K17 (ninS (Ne.symm ne_b1_b3) nin0)
      have E_b6 := E_b6.keep K17
      have F_deadline_b6 := F_deadline_b6.keep K17 (ninS (Ne.symm ne_b1_b6) nin0)
      have F_position_b6 := F_position_b6.keep K17 (ninS (Ne.symm ne_b1_b6) nin0)
      have E_b9 := E_b9.keep K17
      have F_deadline_b9 := F_deadline_b9.keep K17 (ninS (Ne.symm ne_b1_b9) nin0)
      have F_position_b9 := F_position_b9.keep K17 (ninS (Ne.symm ne_b1_b9) nin0)
      have E_b12 := E_b12.keep K17
      have F_deadline_b12 := F_deadline_b12.keep K17 (ninS (Ne.symm ne_b1_b12) nin0)
      have F_position_b12 := F_position_b12.keep K17 (ninS (Ne.symm ne_b1_b12) nin0)
      have E_b1 := q17_0
      have F_heap_b1 := q17_1
      have F_size_b1 := q17_2
      have V_b17 := q17_3
      have Kp := Kp.trans K17 (allS (Or.inr sz_b1) all0)
      have Zn := Nat.le_trans Zn K17.1
      have N17 := Fr.app N14 N17q
      refine Run.st (S' := T17.setTop (mkF m 100 #[.val (.int p0), .val (.long q1), .second, .val (.long q2), .second, .val (.long q3), .second, .val (.long q4), .second, .val (.ref b1), .val (.ref b3), .val (.ref b6), .val (.ref b9), .val (.ref b12), .unset, .unset] [(.ref b1)])) (fun _ k => st17.trans (XS.aload X17.here hx rfl (hb hby at_98) rfl rfl k)) ?_
      obtain ⟨cq18, kq18, q18a, q18b, q18c⟩ := isOf hZ rfl E_b1
      obtain ⟨_, _, ⟨T18, L18, k18, n18⟩, -, X18, ⟨Lc18, hQ18, l18, y18, z18⟩, st18⟩ := X17.virtualBack hx (y := (⟨"com/example/keys_to_structures/keystostructures/store/ExpiryQueue", "first", "()Lcom/example/keys_to_structures/keystostructures/store/TimedEntry;"⟩ : MethodName)) (z := (⟨"com/example/keys_to_structures/keystostructures/store/ExpiryQueue", "first", "()Lcom/example/keys_to_structures/keystostructures/store/TimedEntry;"⟩ : MethodName)) hown (mvT hZ (hw _ (List.mem_of_getElem? (i := 48) rfl))) (mvT hZ (hw _ (List.mem_of_getElem? (i := 49) rfl))) (notFace_of_selects (args := #[]) (mvT hZ (hw _ (List.mem_of_getElem? (i := 51) rfl)))) (mvT hZ (hw _ (List.mem_of_getElem? (i := 51) rfl))) (mvT hZ (hw _ (List.mem_of_getElem? (i := 50) rfl))) (by decide) (backOf (W := 0) (rmFi0 l Z aV hw [] b1 b17 kb17 .null .null .null T17.heap n0 Zn F_heap_b1 F_size_b1 V_b17) hZ (hw _ (List.mem_of_getElem? (i := 52) rfl)) (hw _ (List.mem_of_getElem? (i := 2) rfl)) (by decide) (by decide)) q18a q18c (g := (mkF m 100 #[.val (.int p0), .val (.long q1), .second, .val (.long q2), .second, .val (.long q3), .second, .val (.long q4), .second, .val (.ref b1), .val (.ref b3), .val (.ref b6), .val (.ref b9), .val (.ref b12), .unset, .unset] [(.ref b1)])) rfl (by rw [hml]; rfl) (Steps.refl _) (argsL := []) (rest := []) (lenOf pd_7 rfl) rfl (by show 2 * 0 + _ ≤ _; exact Nat.le_of_eq rfl) (hb hby at_100) (fun _ _ => ⟨rfl, rfl, (by decide : 11 + 0 ≤ _), (by decide : 58 + 0 ≤ _)⟩)
      dsimp only [Pt.U, Pt.locs, Pt.cells, Pt.slots] at X18 l18 y18 z18 st18 hQ18
      subst l18 y18 z18
      obtain ⟨rfl, N18q, e18⟩ := hQ18
      have N18 := Fr.app N17 N18q
      refine Run.st (S' := T18.setTop (mkF m 112 #[.val (.int p0), .val (.long q1), .second, .val (.long q2), .second, .val (.long q3), .second, .val (.long q4), .second, .val (.ref b1), .val (.ref b3), .val (.ref b6), .val (.ref b9), .val (.ref b12), .unset, .unset] [(.ref b9), (.ref b1)])) (fun _ k => st18.trans (XS.ifnullYes X18.here hx rfl (pc0 := 103) (pc' := 108) rfl (hb hby at_103) rfl (by decide) (by decide) (XS.aload X18.here hx rfl (hb hby at_108) rfl rfl (XS.aload X18.here hx rfl (hb hby at_110) rfl rfl k)))) ?_
      obtain ⟨cq19, kq19, q19a, q19b, q19c⟩ := isOf hZ e18 E_b1
      obtain ⟨_, _, ⟨T19, L19, k19, n19⟩, -, X19, ⟨Lc19, hQ19, l19, y19, z19⟩, st19⟩ := X18.virtualBack hx (y := (⟨"com/example/keys_to_structures/keystostructures/store/ExpiryQueue", "add", "(Lcom/example/keys_to_structures/keystostructures/store/TimedEntry;)V"⟩ : MethodName)) (z := (⟨"com/example/keys_to_structures/keystostructures/store/ExpiryQueue", "add", "(Lcom/example/keys_to_structures/keystostructures/store/TimedEntry;)V"⟩ : MethodName)) hown (mvT hZ (hw _ (List.mem_of_getElem? (i := 53) rfl))) (mvT hZ (hw _ (List.mem_of_getElem? (i := 54) rfl))) (notFace_of_selects (args := #[]) (mvT hZ (hw _ (List.mem_of_getElem? (i := 56) rfl)))) (mvT hZ (hw _ (List.mem_of_getElem? (i := 56) rfl))) (mvT hZ (hw _ (List.mem_of_getElem? (i := 55) rfl))) (by decide) (backOf (W := 0) (rmAd0 l Z aV hw [] b1 b9 b17 kb17 .null .null .null q3 (0 : Int32) T17.heap n0 Zn g_b1 g_b17 O_kb17 g_b9 E_b1 F_heap_b1 F_size_b1 V_b17 E_b9 F_deadline_b9 F_position_b9 ne_b1_b17 ne_b1_b9 (Ne.symm ne_b9_b17)) hZ (hw _ (List.mem_of_getElem? (i := 57) rfl)) (hw _ (List.mem_of_getElem? (i := 2) rfl)) (by decide) (by decide)) q19a q19c (g := (mkF m 112 #[.val (.int p0), .val (.long q1), .second, .val (.long q2), .second, .val (.long q3), .second, .val (.long q4), .second, .val (.ref b1), .val (.ref b3), .val (.ref b6), .val (.ref b9), .val (.ref b12), .unset, .unset] [(.ref b9), (.ref b1)])) rfl (by rw [hml]; rfl) (Steps.refl _) (argsL := [(.ref b9)]) (rest := []) (lenOf pd_8 rfl) rfl (by show 2 * 0 + _ ≤ _; exact Nat.le_of_eq rfl) (hb hby at_112) (fun _ _ => ⟨rfl, e18, (by decide : 11 + 0 ≤ _), (by decide : 58 + 0 ≤ _)⟩)
      dsimp only [Pt.U, Pt.locs, Pt.cells, Pt.slots] at X19 l19 y19 z19 st19 hQ19
      subst l19 y19 z19
      obtain ⟨rfl, N19q, K19, q19_0, q19_1, q19_2, q19_3, q19_4, q19_5, q19_6⟩ := hQ19
      have V_b2 := V_b2.keep K19 (ninS (Ne.symm ne_b1_b2) (ninS ne_b2_b17 (ninS ne_b2_b9 nin0)))
      have E_b3 := E_b3.keep K19
      have F_deadline_b3 := F_deadline_b3.keep K19 (ninS (Ne.symm ne_b1_b3) (ninS ne_b3_b17 (ninS ne_b3_b9 nin0)))
      have F_position_b3 := F_position_b3.keep K19 (ninS (Ne.symm ne_b1_b3) (ninS ne_b3_b17 (ninS ne_b3_b9 nin0)))
      have E_b6 := E_b6.keep K19
      have F_deadline_b6 := F_deadline_b6.keep K19 (ninS (Ne.symm ne_b1_b6) (ninS ne_b6_b17 (ninS ne_b6_b9 nin0)))
      have F_position_b6 := F_position_b6.keep K19 (ninS (Ne.symm ne_b1_b6) (ninS ne_b6_b17 (ninS ne_b6_b9 nin0)))
      have E_b12 := E_b12.keep K19
      have F_deadline_b12 := F_deadline_b12.keep K19 (ninS (Ne.symm ne_b1_b12) (ninS ne_b12_b17 (ninS (Ne.symm ne_b9_b12) nin0)))
      have F_position_b12 := F_position_b12.keep K19 (ninS (Ne.symm ne_b1_b12) (ninS ne_b12_b17 (ninS (Ne.symm ne_b9_b12) nin0)))
      have E_b1 := q19_0
      have F_heap_b1 := q19_1
      have F_size_b1 := q19_2
      have V_b17 := q19_3
      have E_b9 := q19_4
      have F_deadline_b9 := q19_5
      have F_position_b9 := q19_6
      have Kp := Kp.trans K19 (allS (Or.inr sz_b1) (allS (Or.inr sz_b17) (allS (Or.inr sz_b9) all0)))
      have Zn := Nat.le_trans Zn K19.1
      have N19 := Fr.app N18 N19q
      refine Run.st (S' := T19.setTop (mkF m 117 #[.val (.int p0), .val (.long q1), .second, .val (.long q2), .second, .val (.long q3), .second, .val (.long q4), .second, .val (.ref b1), .val (.ref b3), .val (.ref b6), .val (.ref b9), .val (.ref b12), .unset, .unset] [(.ref b1)])) (fun _ k => st19.trans (XS.aload X19.here hx rfl (hb hby at_115) rfl rfl k)) ?_
      obtain ⟨cq20, kq20, q20a, q20b, q20c⟩ := isOf hZ rfl E_b1
      obtain ⟨_, _, ⟨T20, L20, k20, n20⟩, -, X20, ⟨Lc20, hQ20, l20, y20, z20⟩, st20⟩ := X19.virtualBack hx (y := (⟨"com/example/keys_to_structures/keystostructures/store/ExpiryQueue", "first", "()Lcom/example/keys_to_structures/keystostructures/store/TimedEntry;"⟩ : MethodName)) (z := (⟨"com/example/keys_to_structures/keystostructures/store/ExpiryQueue", "first", "()Lcom/example/keys_to_structures/keystostructures/store/TimedEntry;"⟩ : MethodName)) hown (mvT hZ (hw _ (List.mem_of_getElem? (i := 48) rfl))) (mvT hZ (hw _ (List.mem_of_getElem? (i := 49) rfl))) (notFace_of_selects (args := #[]) (mvT hZ (hw _ (List.mem_of_getElem? (i := 51) rfl)))) (mvT hZ (hw _ (List.mem_of_getElem? (i := 51) rfl))) (mvT hZ (hw _ (List.mem_of_getElem? (i := 50) rfl))) (by decide) (backOf (W := 0) (rmFi1 l Z aV hw [] b1 b17 kb17 b9 .null .null T19.heap n0 Zn F_heap_b1 F_size_b1 V_b17) hZ (hw _ (List.mem_of_getElem? (i := 52) rfl)) (hw _ (List.mem_of_getElem? (i := 2) rfl)) (by decide) (by decide)) q20a q20c (g := (mkF m 117 #[.val (.int p0), .val (.long q1), .second, .val (.long q2), .second, .val (.long q3), .second, .val (.long q4), .second, .val (.ref b1), .val (.ref b3), .val (.ref b6), .val (.ref b9), .val (.ref b12), .unset, .unset] [(.ref b1)])) rfl (by rw [hml]; rfl) (Steps.refl _) (argsL := []) (rest := []) (lenOf pd_7 rfl) rfl (by show 2 * 0 + _ ≤ _; exact Nat.le_of_eq rfl) (hb hby at_117) (fun _ _ => ⟨rfl, rfl, (by decide : 11 + 0 ≤ _), (by decide : 58 + 0 ≤ _)⟩)
      dsimp only [Pt.U, Pt.locs, Pt.cells, Pt.slots] at X20 l20 y20 z20 st20 hQ20
      subst l20 y20 z20
      obtain ⟨rfl, N20q, e20⟩ := hQ20
      have N20 := Fr.app N19 N20q
      refine Run.st (S' := T20.setTop (mkF m 127 #[.val (.int p0), .val (.long q1), .second, .val (.long q2), .second, .val (.long q3), .second, .val (.long q4), .second, .val (.ref b1), .val (.ref b3), .val (.ref b6), .val (.ref b9), .val (.ref b12), .unset, .unset] [(.ref b9)])) (fun _ k => st20.trans (XS.aload X20.here hx rfl (hb hby at_120) rfl rfl (Jvm.RoadKit.acmp (g := (mkF m 122 #[.val (.int p0), .val (.long q1), .second, .val (.long q2), .second, .val (.long q3), .second, .val (.long q4), .second, .val (.ref b1), .val (.ref b3), .val (.ref b6), .val (.ref b9), .val (.ref b12), .unset, .unset] [(.ref b9), (.ref b9)])) X20 hx rfl rfl rfl (pc0 := 122) (pc' := 125) (same := true) rfl (hb hby at_122) rfl (decide_eq_true rfl) (by decide) (by decide) (XS.aload X20.here hx rfl (hb hby at_125) rfl rfl k)))) ?_
      obtain ⟨cq21, kq21, q21a, q21b, q21c⟩ := isOf hZ e20 E_b9
      obtain ⟨_, _, ⟨T21, L21, k21, n21⟩, -, X21, ⟨Lc21, hQ21, l21, y21, z21⟩, st21⟩ := X20.virtualBack hx (y := (⟨"com/example/keys_to_structures/keystostructures/store/TimedEntry", "position", "()I"⟩ : MethodName)) (z := (⟨"com/example/keys_to_structures/keystostructures/store/TimedEntry", "position", "()I"⟩ : MethodName)) hown (mvT hZ (hw _ (List.mem_of_getElem? (i := 74) rfl))) (mvT hZ (hw _ (List.mem_of_getElem? (i := 75) rfl))) (notFace_of_selects (args := #[]) (mvT hZ (hw _ (List.mem_of_getElem? (i := 77) rfl)))) (mvT hZ (hw _ (List.mem_of_getElem? (i := 77) rfl))) (mvT hZ (hw _ (List.mem_of_getElem? (i := 76) rfl))) (by decide) (backOf (W := 0) (rmPo l Z aV hw [] b9 (0 : Int32) T19.heap n0 Zn F_position_b9) hZ (hw _ (List.mem_of_getElem? (i := 78) rfl)) (hw _ (List.mem_of_getElem? (i := 15) rfl)) (by decide) (by decide)) q21a q21c (g := (mkF m 127 #[.val (.int p0), .val (.long q1), .second, .val (.long q2), .second, .val (.long q3), .second, .val (.long q4), .second, .val (.ref b1), .val (.ref b3), .val (.ref b6), .val (.ref b9), .val (.ref b12), .unset, .unset] [(.ref b9)])) rfl (by rw [hml]; rfl) (Steps.refl _) (argsL := []) (rest := []) (lenOf pd_9 rfl) rfl (by show 2 * 0 + _ ≤ _; exact Nat.le_of_eq rfl) (hb hby at_127) (fun _ _ => ⟨rfl, e20, (by decide : 11 + 0 ≤ _), (by decide : 58 + 0 ≤ _)⟩)
      dsimp only [Pt.U, Pt.locs, Pt.cells, Pt.slots] at X21 l21 y21 z21 st21 hQ21
      subst l21 y21 z21
      obtain ⟨rfl, N21q, e21⟩ := hQ21
      have N21 := Fr.app N20 N21q
      refine Run.st (S' := T21.setTop (mkF m 139 #[.val (.int p0), .val (.long q1), .second, .val (.long q2), .second, .val (.long q3), .second, .val (.long q4), .second, .val (.ref b1), .val (.ref b3), .val (.ref b6), .val (.ref b9), .val (.ref b12), .unset, .unset] [(.ref b12), (.ref b1)])) (fun _ k => st21.trans (XS.ifYes X21.here hx rfl (pc0 := 130) (pc' := 135) rfl (hb hby at_130) rfl ((if0 _ _).trans (teq (show (0 : Int32) = (0 : Int32) from (by decide))).1) (by decide) (by decide) (XS.aload X21.here hx rfl (hb hby at_135) rfl rfl (XS.aload X21.here hx rfl (hb hby at_137) rfl rfl k)))) ?_
      by_cases hk139_22 : q4 < q3
      · obtain ⟨cq23, kq23, q23a, q23b, q23c⟩ := isOf hZ e21 E_b1
        obtain ⟨_, _, ⟨T23, L23, k23, n23⟩, -, X23, ⟨Lc23, hQ23, l23, y23, z23⟩, st23⟩ := X21.virtualBack hx (y := (⟨"com/example/keys_to_structures/keystostructures/store/ExpiryQueue", "add", "(Lcom/example/keys_to_structures/keystostructures/store/TimedEntry;)V"⟩ : MethodName)) (z := (⟨"com/example/keys_to_structures/keystostructures/store/ExpiryQueue", "add", "(Lcom/example/keys_to_structures/keystostructures/store/TimedEntry;)V"⟩ : MethodName)) hown (mvT hZ (hw _ (List.mem_of_getElem? (i := 53) rfl))) (mvT hZ (hw _ (List.mem_of_getElem? (i := 54) rfl))) (notFace_of_selects (args := #[]) (mvT hZ (hw _ (List.mem_of_getElem? (i := 56) rfl)))) (mvT hZ (hw _ (List.mem_of_getElem? (i := 56) rfl))) (mvT hZ (hw _ (List.mem_of_getElem? (i := 55) rfl))) (by decide) (backOf (W := 0) (rmAd1s l Z aV hw [] b1 b12 b17 kb17 .null .null q4 (0 : Int32) b9 q3 (0 : Int32) T19.heap n0 Zn g_b1 g_b17 O_kb17 g_b12 g_b9 E_b1 F_heap_b1 F_size_b1 V_b17 E_b12 F_deadline_b12 F_position_b12 E_b9 F_deadline_b9 F_position_b9 ne_b1_b17 ne_b1_b12 ne_b1_b9 (Ne.symm ne_b12_b17) (Ne.symm ne_b9_b17) (Ne.symm ne_b9_b12) hk139_22) hZ (hw _ (List.mem_of_getElem? (i := 57) rfl)) (hw _ (List.mem_of_getElem? (i := 2) rfl)) (by decide) (by decide)) q23a q23c (g := (mkF m 139 #[.val (.int p0), .val (.long q1), .second, .val (.long q2), .second, .val (.long q3), .second, .val (.long q4), .second, .val (.ref b1), .val (.ref b3), .val (.ref b6), .val (.ref b9), .val (.ref b12), .unset, .unset] [(.ref b12), (.ref b1)])) rfl (by rw [hml]; rfl) (Steps.refl _) (argsL := [(.ref b12)]) (rest := []) (lenOf pd_8 rfl) rfl (by show 2 * 0 + _ ≤ _; exact Nat.le_of_eq rfl) (hb hby at_139) (fun _ _ => ⟨rfl, e21, (by decide : 11 + 0 ≤ _), (by decide : 58 + 0 ≤ _)⟩)
        dsimp only [Pt.U, Pt.locs, Pt.cells, Pt.slots] at X23 l23 y23 z23 st23 hQ23
        subst l23 y23 z23
        obtain ⟨rfl, N23q, K23, q23_0, q23_1, q23_2, q23_3, q23_4, q23_5, q23_6, q23_7, q23_8, q23_9⟩ := hQ23
        have V_b2 := V_b2.keep K23 (ninS (Ne.symm ne_b1_b2) (ninS ne_b2_b17 (ninS ne_b2_b12 (ninS ne_b2_b9 nin0))))
        have E_b3 := E_b3.keep K23
        have F_deadline_b3 := F_deadline_b3.keep K23 (ninS (Ne.symm ne_b1_b3) (ninS ne_b3_b17 (ninS ne_b3_b12 (ninS ne_b3_b9 nin0))))
        have F_position_b3 := F_position_b3.keep K23 (ninS (Ne.symm ne_b1_b3) (ninS ne_b3_b17 (ninS ne_b3_b12 (ninS ne_b3_b9 nin0))))
        have E_b6 := E_b6.keep K23
        have F_deadline_b6 := F_deadline_b6.keep K23 (ninS (Ne.symm ne_b1_b6) (ninS ne_b6_b17 (ninS ne_b6_b12 (ninS ne_b6_b9 nin0))))
        have F_position_b6 := F_position_b6.keep K23 (ninS (Ne.symm ne_b1_b6) (ninS ne_b6_b17 (ninS ne_b6_b12 (ninS ne_b6_b9 nin0))))
        have E_b1 := q23_0
        have F_heap_b1 := q23_1
        have F_size_b1 := q23_2
        have V_b17 := q23_3
        have E_b12 := q23_4
        have F_deadline_b12 := q23_5
        have F_position_b12 := q23_6
        have E_b9 := q23_7
        have F_deadline_b9 := q23_8
        have F_position_b9 := q23_9
        have Kp := Kp.trans K23 (allS (Or.inr sz_b1) (allS (Or.inr sz_b17) (allS (Or.inr sz_b12) (allS (Or.inr sz_b9) all0))))
        have Zn := Nat.le_trans Zn K23.1
        have N23 := Fr.app N21 N23q
        refine Run.st (S' := T23.setTop (mkF m 159 #[.val (.int p0), .val (.long q1), .second, .val (.long q2), .second, .val (.long q3), .second, .val (.long q4), .second, .val (.ref b1), .val (.ref b3), .val (.ref b6), .val (.ref b9), .val (.ref b12), .val (.ref b12), .unset] [])) (fun _ k => st23.trans (XS.lload X23.here hx rfl (hb hby at_142) rfl (XS.lload X23.here hx rfl (hb hby at_144) rfl (XS.lcmp X23.here hx rfl (hb hby at_146) rfl (XS.ifNo X23.here hx rfl (hb hby at_147) rfl (lcYes (Jvm.Free.XT.ll_ge_f (show q4 < q3 from hk139_22))) (XS.aload X23.here hx rfl (hb hby at_150) rfl rfl (XS.goto X23.here hx rfl (pc0 := 152) (pc' := 157) rfl (hb hby at_152) (by decide) (by decide) (XS.astore X23.here hx rfl (hb hby at_157) rfl rfl (l' := #[.val (.int p0), .val (.long q1), .second, .val (.long q2), .second, .val (.long q3), .second, .val (.long q4), .second, .val (.ref b1), .val (.ref b3), .val (.ref b6), .val (.ref b9), .val (.ref b12), .val (.ref b12), .unset]) rfl k)))))))) ?_
        refine Run.st (S' := T23.setTop (mkF m 178 #[.val (.int p0), .val (.long q1), .second, .val (.long q2), .second, .val (.long q3), .second, .val (.long q4), .second, .val (.ref b1), .val (.ref b3), .val (.ref b6), .val (.ref b9), .val (.ref b12), .val (.ref b12), .val (.ref b9)] [(.ref b1)])) (fun _ k => XS.lload X23.here hx rfl (hb hby at_159) rfl (XS.lload X23.here hx rfl (hb hby at_161) rfl (XS.lcmp X23.here hx rfl (hb hby at_163) rfl (XS.ifNo X23.here hx rfl (hb hby at_164) rfl (lcYes (Jvm.Free.XT.ll_ge_f (show q4 < q3 from hk139_22))) (XS.aload X23.here hx rfl (hb hby at_167) rfl rfl (XS.goto X23.here hx rfl (pc0 := 169) (pc' := 174) rfl (hb hby at_169) (by decide) (by decide) (XS.astore X23.here hx rfl (hb hby at_174) rfl rfl (l' := #[.val (.int p0), .val (.long q1), .second, .val (.long q2), .second, .val (.long q3), .second, .val (.long q4), .second, .val (.ref b1), .val (.ref b3), .val (.ref b6), .val (.ref b9), .val (.ref b12), .val (.ref b12), .val (.ref b9)]) rfl (XS.aload X23.here hx rfl (hb hby at_176) rfl rfl k)))))))) ?_
        obtain ⟨cq24, kq24, q24a, q24b, q24c⟩ := isOf hZ rfl E_b1
        obtain ⟨_, _, ⟨T24, L24, k24, n24⟩, -, X24, ⟨Lc24, hQ24, l24, y24, z24⟩, st24⟩ := X23.virtualBack hx (y := (⟨"com/example/keys_to_structures/keystostructures/store/ExpiryQueue", "first", "()Lcom/example/keys_to_structures/keystostructures/store/TimedEntry;"⟩ : MethodName)) (z := (⟨"com/example/keys_to_structures/keystostructures/store/ExpiryQueue", "first", "()Lcom/example/keys_to_structures/keystostructures/store/TimedEntry;"⟩ : MethodName)) hown (mvT hZ (hw _ (List.mem_of_getElem? (i := 48) rfl))) (mvT hZ (hw _ (List.mem_of_getElem? (i := 49) rfl))) (notFace_of_selects (args := #[]) (mvT hZ (hw _ (List.mem_of_getElem? (i := 51) rfl)))) (mvT hZ (hw _ (List.mem_of_getElem? (i := 51) rfl))) (mvT hZ (hw _ (List.mem_of_getElem? (i := 50) rfl))) (by decide) (backOf (W := 0) (rmFi2 l Z aV hw [] b1 b17 kb17 b12 (.ref b9) .null T23.heap n0 Zn F_heap_b1 F_size_b1 V_b17) hZ (hw _ (List.mem_of_getElem? (i := 52) rfl)) (hw _ (List.mem_of_getElem? (i := 2) rfl)) (by decide) (by decide)) q24a q24c (g := (mkF m 178 #[.val (.int p0), .val (.long q1), .second, .val (.long q2), .second, .val (.long q3), .second, .val (.long q4), .second, .val (.ref b1), .val (.ref b3), .val (.ref b6), .val (.ref b9), .val (.ref b12), .val (.ref b12), .val (.ref b9)] [(.ref b1)])) rfl (by rw [hml]; rfl) (Steps.refl _) (argsL := []) (rest := []) (lenOf pd_7 rfl) rfl (by show 2 * 0 + _ ≤ _; exact Nat.le_of_eq rfl) (hb hby at_178) (fun _ _ => ⟨rfl, rfl, (by decide : 11 + 0 ≤ _), (by decide : 58 + 0 ≤ _)⟩)
        dsimp only [Pt.U, Pt.locs, Pt.cells, Pt.slots] at X24 l24 y24 z24 st24 hQ24
        subst l24 y24 z24
        obtain ⟨rfl, N24q, e24⟩ := hQ24
        have N24 := Fr.app N23 N24q
        refine Run.st (S' := T24.setTop (mkF m 188 #[.val (.int p0), .val (.long q1), .second, .val (.long q2), .second, .val (.long q3), .second, .val (.long q4), .second, .val (.ref b1), .val (.ref b3), .val (.ref b6), .val (.ref b9), .val (.ref b12), .val (.ref b12), .val (.ref b9)] [(.ref b12)])) (fun _ k => st24.trans (XS.aload X24.here hx rfl (hb hby at_181) rfl rfl (Jvm.RoadKit.acmp (g := (mkF m 183 #[.val (.int p0), .val (.long q1), .second, .val (.long q2), .second, .val (.long q3), .second, .val (.long q4), .second, .val (.ref b1), .val (.ref b3), .val (.ref b6), .val (.ref b9), .val (.ref b12), .val (.ref b12), .val (.ref b9)] [(.ref b12), (.ref b12)])) X24 hx rfl rfl rfl (pc0 := 183) (pc' := 186) (same := true) rfl (hb hby at_183) rfl (decide_eq_true rfl) (by decide) (by decide) (XS.aload X24.here hx rfl (hb hby at_186) rfl rfl k)))) ?_
        obtain ⟨cq25, kq25, q25a, q25b, q25c⟩ := isOf hZ e24 E_b12
        obtain ⟨_, _, ⟨T25, L25, k25, n25⟩, -, X25, ⟨Lc25, hQ25, l25, y25, z25⟩, st25⟩ := X24.virtualBack hx (y := (⟨"com/example/keys_to_structures/keystostructures/store/TimedEntry", "position", "()I"⟩ : MethodName)) (z := (⟨"com/example/keys_to_structures/keystostructures/store/TimedEntry", "position", "()I"⟩ : MethodName)) hown (mvT hZ (hw _ (List.mem_of_getElem? (i := 74) rfl))) (mvT hZ (hw _ (List.mem_of_getElem? (i := 75) rfl))) (notFace_of_selects (args := #[]) (mvT hZ (hw _ (List.mem_of_getElem? (i := 77) rfl)))) (mvT hZ (hw _ (List.mem_of_getElem? (i := 77) rfl))) (mvT hZ (hw _ (List.mem_of_getElem? (i := 76) rfl))) (by decide) (backOf (W := 0) (rmPo l Z aV hw [] b12 (0 : Int32) T23.heap n0 Zn F_position_b12) hZ (hw _ (List.mem_of_getElem? (i := 78) rfl)) (hw _ (List.mem_of_getElem? (i := 15) rfl)) (by decide) (by decide)) q25a q25c (g := (mkF m 188 #[.val (.int p0), .val (.long q1), .second, .val (.long q2), .second, .val (.long q3), .second, .val (.long q4), .second, .val (.ref b1), .val (.ref b3), .val (.ref b6), .val (.ref b9), .val (.ref b12), .val (.ref b12), .val (.ref b9)] [(.ref b12)])) rfl (by rw [hml]; rfl) (Steps.refl _) (argsL := []) (rest := []) (lenOf pd_9 rfl) rfl (by show 2 * 0 + _ ≤ _; exact Nat.le_of_eq rfl) (hb hby at_188) (fun _ _ => ⟨rfl, e24, (by decide : 11 + 0 ≤ _), (by decide : 58 + 0 ≤ _)⟩)
        dsimp only [Pt.U, Pt.locs, Pt.cells, Pt.slots] at X25 l25 y25 z25 st25 hQ25
        subst l25 y25 z25
        obtain ⟨rfl, N25q, e25⟩ := hQ25
        have N25 := Fr.app N24 N25q
        refine Run.st (S' := T25.setTop (mkF m 196 #[.val (.int p0), .val (.long q1), .second, .val (.long q2), .second, .val (.long q3), .second, .val (.long q4), .second, .val (.ref b1), .val (.ref b3), .val (.ref b6), .val (.ref b9), .val (.ref b12), .val (.ref b12), .val (.ref b9)] [(.ref b9)])) (fun _ k => st25.trans (XS.ifNo X25.here hx rfl (hb hby at_191) rfl ((if0 _ _).trans (teq (show (0 : Int32) = (0 : Int32) from (by decide))).2) (XS.aload X25.here hx rfl (hb hby at_194) rfl rfl k))) ?_
        obtain ⟨cq26, kq26, q26a, q26b, q26c⟩ := isOf hZ e25 E_b9
        obtain ⟨_, _, ⟨T26, L26, k26, n26⟩, -, X26, ⟨Lc26, hQ26, l26, y26, z26⟩, st26⟩ := X25.virtualBack hx (y := (⟨"com/example/keys_to_structures/keystostructures/store/TimedEntry", "position", "()I"⟩ : MethodName)) (z := (⟨"com/example/keys_to_structures/keystostructures/store/TimedEntry", "position", "()I"⟩ : MethodName)) hown (mvT hZ (hw _ (List.mem_of_getElem? (i := 74) rfl))) (mvT hZ (hw _ (List.mem_of_getElem? (i := 75) rfl))) (notFace_of_selects (args := #[]) (mvT hZ (hw _ (List.mem_of_getElem? (i := 77) rfl)))) (mvT hZ (hw _ (List.mem_of_getElem? (i := 77) rfl))) (mvT hZ (hw _ (List.mem_of_getElem? (i := 76) rfl))) (by decide) (backOf (W := 0) (rmPo l Z aV hw [] b9 (1 : Int32) T23.heap n0 Zn F_position_b9) hZ (hw _ (List.mem_of_getElem? (i := 78) rfl)) (hw _ (List.mem_of_getElem? (i := 15) rfl)) (by decide) (by decide)) q26a q26c (g := (mkF m 196 #[.val (.int p0), .val (.long q1), .second, .val (.long q2), .second, .val (.long q3), .second, .val (.long q4), .second, .val (.ref b1), .val (.ref b3), .val (.ref b6), .val (.ref b9), .val (.ref b12), .val (.ref b12), .val (.ref b9)] [(.ref b9)])) rfl (by rw [hml]; rfl) (Steps.refl _) (argsL := []) (rest := []) (lenOf pd_9 rfl) rfl (by show 2 * 0 + _ ≤ _; exact Nat.le_of_eq rfl) (hb hby at_196) (fun _ _ => ⟨rfl, e25, (by decide : 11 + 0 ≤ _), (by decide : 58 + 0 ≤ _)⟩)
        dsimp only [Pt.U, Pt.locs, Pt.cells, Pt.slots] at X26 l26 y26 z26 st26 hQ26
        subst l26 y26 z26
        obtain ⟨rfl, N26q, e26⟩ := hQ26
        have N26 := Fr.app N25 N26q
        refine Run.st (S' := T26.setTop (mkF m 207 #[.val (.int p0), .val (.long q1), .second, .val (.long q2), .second, .val (.long q3), .second, .val (.long q4), .second, .val (.ref b1), .val (.ref b3), .val (.ref b6), .val (.ref b9), .val (.ref b12), .val (.ref b12), .val (.ref b9)] [(.ref b1)])) (fun _ k => st26.trans (XS.iconst X26.here hx rfl (hb hby at_199) (XS.icmpYes X26.here hx rfl (pc0 := 200) (pc' := 205) rfl (hb hby at_200) rfl (teq (show (1 : Int32) = (1 : Int32) from (by decide))).1 (by decide) (by decide) (XS.aload X26.here hx rfl (hb hby at_205) rfl rfl k)))) ?_
        obtain ⟨cq27, kq27, q27a, q27b, q27c⟩ := isOf hZ e26 E_b1
        obtain ⟨_, _, ⟨T27, L27, k27, n27⟩, -, X27, ⟨Lc27, hQ27, l27, y27, z27⟩, st27⟩ := X26.virtualBack hx (y := (⟨"com/example/keys_to_structures/keystostructures/store/ExpiryQueue", "clear", "()V"⟩ : MethodName)) (z := (⟨"com/example/keys_to_structures/keystostructures/store/ExpiryQueue", "clear", "()V"⟩ : MethodName)) hown (mvT hZ (hw _ (List.mem_of_getElem? (i := 41) rfl))) (mvT hZ (hw _ (List.mem_of_getElem? (i := 42) rfl))) (notFace_of_selects (args := #[]) (mvT hZ (hw _ (List.mem_of_getElem? (i := 44) rfl)))) (mvT hZ (hw _ (List.mem_of_getElem? (i := 44) rfl))) (mvT hZ (hw _ (List.mem_of_getElem? (i := 43) rfl))) (by decide) (backOf (W := 0) (rmClr l Z aV hw [] b1 b17 (2 : Int32) T23.heap n0 Zn g_b1 E_b1 F_heap_b1 F_size_b1) hZ (hw _ (List.mem_of_getElem? (i := 45) rfl)) (hw _ (List.mem_of_getElem? (i := 2) rfl)) (by decide) (by decide)) q27a q27c (g := (mkF m 207 #[.val (.int p0), .val (.long q1), .second, .val (.long q2), .second, .val (.long q3), .second, .val (.long q4), .second, .val (.ref b1), .val (.ref b3), .val (.ref b6), .val (.ref b9), .val (.ref b12), .val (.ref b12), .val (.ref b9)] [(.ref b1)])) rfl (by rw [hml]; rfl) (Steps.refl _) (argsL := []) (rest := []) (lenOf pd_5 rfl) rfl (by show 2 * 0 + _ ≤ _; exact Nat.le_of_eq rfl) (hb hby at_207) (fun _ _ => ⟨rfl, e26, (by decide : 11 + 1 ≤ _), (by decide : 58 + 16 ≤ _)⟩)
        dsimp only [Pt.U, Pt.locs, Pt.cells, Pt.slots] at X27 l27 y27 z27 st27 hQ27
        subst l27 y27 z27
        obtain ⟨b27, kb27, rfl, N27q, K27, g_b27, z_b27, O_kb27, q27_0, q27_1, q27_2, q27_3⟩ := hQ27
        have ne_b1_b27 : b1 ≠ b27 := Nat.ne_of_lt (Nat.lt_of_lt_of_le E_b1.lt z_b27)
        have ne_b2_b27 : b2 ≠ b27 := Nat.ne_of_lt (Nat.lt_of_lt_of_le V_b2.lt z_b27)
        have ne_b3_b27 : b3 ≠ b27 := Nat.ne_of_lt (Nat.lt_of_lt_of_le E_b3.lt z_b27)
        have ne_b6_b27 : b6 ≠ b27 := Nat.ne_of_lt (Nat.lt_of_lt_of_le E_b6.lt z_b27)
        have ne_b9_b27 : b9 ≠ b27 := Nat.ne_of_lt (Nat.lt_of_lt_of_le E_b9.lt z_b27)
        have ne_b12_b27 : b12 ≠ b27 := Nat.ne_of_lt (Nat.lt_of_lt_of_le E_b12.lt z_b27)
        have ne_b17_b27 : b17 ≠ b27 := Nat.ne_of_lt (Nat.lt_of_lt_of_le V_b17.lt z_b27)
        have sz_b27 : h0.size ≤ b27 := Nat.le_trans Kp.1 z_b27
        have V_b2 := V_b2.keep K27 (ninS (Ne.symm ne_b1_b2) nin0)
        have E_b3 := E_b3.keep K27
        have F_deadline_b3 := F_deadline_b3.keep K27 (ninS (Ne.symm ne_b1_b3) nin0)
        have F_position_b3 := F_position_b3.keep K27 (ninS (Ne.symm ne_b1_b3) nin0)
        have E_b6 := E_b6.keep K27
        have F_deadline_b6 := F_deadline_b6.keep K27 (ninS (Ne.symm ne_b1_b6) nin0)
        have F_position_b6 := F_position_b6.keep K27 (ninS (Ne.symm ne_b1_b6) nin0)
        have E_b9 := E_b9.keep K27
        have F_deadline_b9 := F_deadline_b9.keep K27 (ninS (Ne.symm ne_b1_b9) nin0)
        have F_position_b9 := F_position_b9.keep K27 (ninS (Ne.symm ne_b1_b9) nin0)
        have E_b12 := E_b12.keep K27
        have F_deadline_b12 := F_deadline_b12.keep K27 (ninS (Ne.symm ne_b1_b12) nin0)
        have F_position_b12 := F_position_b12.keep K27 (ninS (Ne.symm ne_b1_b12) nin0)
        have V_b17 := V_b17.keep K27 (ninS (Ne.symm ne_b1_b17) nin0)
        have E_b1 := q27_0
        have F_heap_b1 := q27_1
        have F_size_b1 := q27_2
        have V_b27 := q27_3
        have Kp := Kp.trans K27 (allS (Or.inr sz_b1) all0)
        have Zn := Nat.le_trans Zn K27.1
        have N27 := Fr.app N26 N27q
        refine Run.st (S' := T27.setTop (mkF m 212 #[.val (.int p0), .val (.long q1), .second, .val (.long q2), .second, .val (.long q3), .second, .val (.long q4), .second, .val (.ref b1), .val (.ref b3), .val (.ref b6), .val (.ref b9), .val (.ref b12), .val (.ref b12), .val (.ref b9)] [(.ref b1)])) (fun _ k => st27.trans (XS.aload X27.here hx rfl (hb hby at_210) rfl rfl k)) ?_
        obtain ⟨cq28, kq28, q28a, q28b, q28c⟩ := isOf hZ rfl E_b1
        obtain ⟨_, _, ⟨T28, L28, k28, n28⟩, -, X28, ⟨Lc28, hQ28, l28, y28, z28⟩, st28⟩ := X27.virtualBack hx (y := (⟨"com/example/keys_to_structures/keystostructures/store/ExpiryQueue", "first", "()Lcom/example/keys_to_structures/keystostructures/store/TimedEntry;"⟩ : MethodName)) (z := (⟨"com/example/keys_to_structures/keystostructures/store/ExpiryQueue", "first", "()Lcom/example/keys_to_structures/keystostructures/store/TimedEntry;"⟩ : MethodName)) hown (mvT hZ (hw _ (List.mem_of_getElem? (i := 48) rfl))) (mvT hZ (hw _ (List.mem_of_getElem? (i := 49) rfl))) (notFace_of_selects (args := #[]) (mvT hZ (hw _ (List.mem_of_getElem? (i := 51) rfl)))) (mvT hZ (hw _ (List.mem_of_getElem? (i := 51) rfl))) (mvT hZ (hw _ (List.mem_of_getElem? (i := 50) rfl))) (by decide) (backOf (W := 0) (rmFi0 l Z aV hw [] b1 b27 kb27 .null .null .null T27.heap n0 Zn F_heap_b1 F_size_b1 V_b27) hZ (hw _ (List.mem_of_getElem? (i := 52) rfl)) (hw _ (List.mem_of_getElem? (i := 2) rfl)) (by decide) (by decide)) q28a q28c (g := (mkF m 212 #[.val (.int p0), .val (.long q1), .second, .val (.long q2), .second, .val (.long q3), .second, .val (.long q4), .second, .val (.ref b1), .val (.ref b3), .val (.ref b6), .val (.ref b9), .val (.ref b12), .val (.ref b12), .val (.ref b9)] [(.ref b1)])) rfl (by rw [hml]; rfl) (Steps.refl _) (argsL := []) (rest := []) (lenOf pd_7 rfl) rfl (by show 2 * 0 + _ ≤ _; exact Nat.le_of_eq rfl) (hb hby at_212) (fun _ _ => ⟨rfl, rfl, (by decide : 12 + 0 ≤ _), (by decide : 74 + 0 ≤ _)⟩)
        dsimp only [Pt.U, Pt.locs, Pt.cells, Pt.slots] at X28 l28 y28 z28 st28 hQ28
        subst l28 y28 z28
        obtain ⟨rfl, N28q, e28⟩ := hQ28
        have N28 := Fr.app N27 N28q
        refine Run.st (S' := T28.setTop (mkF m 223 #[.val (.int p0), .val (.long q1), .second, .val (.long q2), .second, .val (.long q3), .second, .val (.long q4), .second, .val (.ref b1), .val (.ref b3), .val (.ref b6), .val (.ref b9), .val (.ref b12), .val (.ref b12), .val (.ref b9)] [(.int (1 : Int32))])) (fun _ k => st28.trans (XS.ifnonnullNo X28.here hx rfl (hb hby at_215) rfl (XS.iconst X28.here hx rfl (hb hby at_218) (XS.goto X28.here hx rfl (pc0 := 219) (pc' := 223) rfl (hb hby at_219) (by decide) (by decide) k)))) ?_
        refine Run.out X28 hx Bd.notSynchronized Bd.returns rfl (Or.inl ⟨rfl, by simp, _, rfl⟩) (hb hby at_223) (by decide) (by decide) ?_
        rw [e28]
        exact ⟨rfl, N28⟩
      · obtain ⟨cq29, kq29, q29a, q29b, q29c⟩ := isOf hZ e21 E_b1
        obtain ⟨_, _, ⟨T29, L29, k29, n29⟩, -, X29, ⟨Lc29, hQ29, l29, y29, z29⟩, st29⟩ := X21.virtualBack hx (y := (⟨"com/example/keys_to_structures/keystostructures/store/ExpiryQueue", "add", "(Lcom/example/keys_to_structures/keystostructures/store/TimedEntry;)V"⟩ : MethodName)) (z := (⟨"com/example/keys_to_structures/keystostructures/store/ExpiryQueue", "add", "(Lcom/example/keys_to_structures/keystostructures/store/TimedEntry;)V"⟩ : MethodName)) hown (mvT hZ (hw _ (List.mem_of_getElem? (i := 53) rfl))) (mvT hZ (hw _ (List.mem_of_getElem? (i := 54) rfl))) (notFace_of_selects (args := #[]) (mvT hZ (hw _ (List.mem_of_getElem? (i := 56) rfl)))) (mvT hZ (hw _ (List.mem_of_getElem? (i := 56) rfl))) (mvT hZ (hw _ (List.mem_of_getElem? (i := 55) rfl))) (by decide) (backOf (W := 0) (rmAd1 l Z aV hw [] b1 b12 b17 kb17 .null .null q4 (0 : Int32) b9 q3 (0 : Int32) T19.heap n0 Zn g_b1 g_b17 O_kb17 g_b12 g_b9 E_b1 F_heap_b1 F_size_b1 V_b17 E_b12 F_deadline_b12 F_position_b12 E_b9 F_deadline_b9 F_position_b9 ne_b1_b17 ne_b1_b12 ne_b1_b9 (Ne.symm ne_b12_b17) (Ne.symm ne_b9_b17) (Ne.symm ne_b9_b12) hk139_22) hZ (hw _ (List.mem_of_getElem? (i := 57) rfl)) (hw _ (List.mem_of_getElem? (i := 2) rfl)) (by decide) (by decide)) q29a q29c (g := (mkF m 139 #[.val (.int p0), .val (.long q1), .second, .val (.long q2), .second, .val (.long q3), .second, .val (.long q4), .second, .val (.ref b1), .val (.ref b3), .val (.ref b6), .val (.ref b9), .val (.ref b12), .unset, .unset] [(.ref b12), (.ref b1)])) rfl (by rw [hml]; rfl) (Steps.refl _) (argsL := [(.ref b12)]) (rest := []) (lenOf pd_8 rfl) rfl (by show 2 * 0 + _ ≤ _; exact Nat.le_of_eq rfl) (hb hby at_139) (fun _ _ => ⟨rfl, e21, (by decide : 11 + 0 ≤ _), (by decide : 58 + 0 ≤ _)⟩)
        dsimp only [Pt.U, Pt.locs, Pt.cells, Pt.slots] at X29 l29 y29 z29 st29 hQ29
        subst l29 y29 z29
        obtain ⟨rfl, N29q, K29, q29_0, q29_1, q29_2, q29_3, q29_4, q29_5, q29_6⟩ := hQ29
        have V_b2 := V_b2.keep K29 (ninS (Ne.symm ne_b1_b2) (ninS ne_b2_b17 (ninS ne_b2_b12 nin0)))
        have E_b3 := E_b3.keep K29
        have F_deadline_b3 := F_deadline_b3.keep K29 (ninS (Ne.symm ne_b1_b3) (ninS ne_b3_b17 (ninS ne_b3_b12 nin0)))
        have F_position_b3 := F_position_b3.keep K29 (ninS (Ne.symm ne_b1_b3) (ninS ne_b3_b17 (ninS ne_b3_b12 nin0)))
        have E_b6 := E_b6.keep K29
        have F_deadline_b6 := F_deadline_b6.keep K29 (ninS (Ne.symm ne_b1_b6) (ninS ne_b6_b17 (ninS ne_b6_b12 nin0)))
        have F_position_b6 := F_position_b6.keep K29 (ninS (Ne.symm ne_b1_b6) (ninS ne_b6_b17 (ninS ne_b6_b12 nin0)))
        have E_b9 := E_b9.keep K29
        have F_deadline_b9 := F_deadline_b9.keep K29 (ninS (Ne.symm ne_b1_b9) (ninS ne_b9_b17 (ninS ne_b9_b12 nin0)))
        have F_position_b9 := F_position_b9.keep K29 (ninS (Ne.symm ne_b1_b9) (ninS ne_b9_b17 (ninS ne_b9_b12 nin0)))
        have E_b1 := q29_0
        have F_heap_b1 := q29_1
        have F_size_b1 := q29_2
        have V_b17 := q29_3
        have E_b12 := q29_4
        have F_deadline_b12 := q29_5
        have F_position_b12 := q29_6
        have Kp := Kp.trans K29 (allS (Or.inr sz_b1) (allS (Or.inr sz_b17) (allS (Or.inr sz_b12) all0)))
        have Zn := Nat.le_trans Zn K29.1
        have N29 := Fr.app N21 N29q
        refine Run.st (S' := T29.setTop (mkF m 161 #[.val (.int p0), .val (.long q1), .second, .val (.long q2), .second, .val (.long q3), .second, .val (.long q4), .second, .val (.ref b1), .val (.ref b3), .val (.ref b6), .val (.ref b9), .val (.ref b12), .val (.ref b9), .unset] [(.long q4)])) (fun _ k => st29.trans (XS.lload X29.here hx rfl (hb hby at_142) rfl (XS.lload X29.here hx rfl (hb hby at_144) rfl (XS.lcmp X29.here hx rfl (hb hby at_146) rfl (XS.ifYes X29.here hx rfl (pc0 := 147) (pc' := 155) rfl (hb hby at_147) rfl (lcYes (Jvm.Free.XT.ll_ge_t (show ¬ (q4 < q3) from hk139_22))) (by decide) (by decide) (XS.aload X29.here hx rfl (hb hby at_155) rfl rfl (XS.astore X29.here hx rfl (hb hby at_157) rfl rfl (l' := #[.val (.int p0), .val (.long q1), .second, .val (.long q2), .second, .val (.long q3), .second, .val (.long q4), .second, .val (.ref b1), .val (.ref b3), .val (.ref b6), .val (.ref b9), .val (.ref b12), .val (.ref b9), .unset]) rfl (XS.lload X29.here hx rfl (hb hby at_159) rfl k)))))))) ?_
        refine Run.st (S' := T29.setTop (mkF m 178 #[.val (.int p0), .val (.long q1), .second, .val (.long q2), .second, .val (.long q3), .second, .val (.long q4), .second, .val (.ref b1), .val (.ref b3), .val (.ref b6), .val (.ref b9), .val (.ref b12), .val (.ref b9), .val (.ref b12)] [(.ref b1)])) (fun _ k => XS.lload X29.here hx rfl (hb hby at_161) rfl (XS.lcmp X29.here hx rfl (hb hby at_163) rfl (XS.ifYes X29.here hx rfl (pc0 := 164) (pc' := 172) rfl (hb hby at_164) rfl (lcYes (Jvm.Free.XT.ll_ge_t (show ¬ (q4 < q3) from hk139_22))) (by decide) (by decide) (XS.aload X29.here hx rfl (hb hby at_172) rfl rfl (XS.astore X29.here hx rfl (hb hby at_174) rfl rfl (l' := #[.val (.int p0), .val (.long q1), .second, .val (.long q2), .second, .val (.long q3), .second, .val (.long q4), .second, .val (.ref b1), .val (.ref b3), .val (.ref b6), .val (.ref b9), .val (.ref b12), .val (.ref b9), .val (.ref b12)]) rfl (XS.aload X29.here hx rfl (hb hby at_176) rfl rfl k)))))) ?_
        obtain ⟨cq30, kq30, q30a, q30b, q30c⟩ := isOf hZ rfl E_b1
        obtain ⟨_, _, ⟨T30, L30, k30, n30⟩, -, X30, ⟨Lc30, hQ30, l30, y30, z30⟩, st30⟩ := X29.virtualBack hx (y := (⟨"com/example/keys_to_structures/keystostructures/store/ExpiryQueue", "first", "()Lcom/example/keys_to_structures/keystostructures/store/TimedEntry;"⟩ : MethodName)) (z := (⟨"com/example/keys_to_structures/keystostructures/store/ExpiryQueue", "first", "()Lcom/example/keys_to_structures/keystostructures/store/TimedEntry;"⟩ : MethodName)) hown (mvT hZ (hw _ (List.mem_of_getElem? (i := 48) rfl))) (mvT hZ (hw _ (List.mem_of_getElem? (i := 49) rfl))) (notFace_of_selects (args := #[]) (mvT hZ (hw _ (List.mem_of_getElem? (i := 51) rfl)))) (mvT hZ (hw _ (List.mem_of_getElem? (i := 51) rfl))) (mvT hZ (hw _ (List.mem_of_getElem? (i := 50) rfl))) (by decide) (backOf (W := 0) (rmFi2 l Z aV hw [] b1 b17 kb17 b9 (.ref b12) .null T29.heap n0 Zn F_heap_b1 F_size_b1 V_b17) hZ (hw _ (List.mem_of_getElem? (i := 52) rfl)) (hw _ (List.mem_of_getElem? (i := 2) rfl)) (by decide) (by decide)) q30a q30c (g := (mkF m 178 #[.val (.int p0), .val (.long q1), .second, .val (.long q2), .second, .val (.long q3), .second, .val (.long q4), .second, .val (.ref b1), .val (.ref b3), .val (.ref b6), .val (.ref b9), .val (.ref b12), .val (.ref b9), .val (.ref b12)] [(.ref b1)])) rfl (by rw [hml]; rfl) (Steps.refl _) (argsL := []) (rest := []) (lenOf pd_7 rfl) rfl (by show 2 * 0 + _ ≤ _; exact Nat.le_of_eq rfl) (hb hby at_178) (fun _ _ => ⟨rfl, rfl, (by decide : 11 + 0 ≤ _), (by decide : 58 + 0 ≤ _)⟩)
        dsimp only [Pt.U, Pt.locs, Pt.cells, Pt.slots] at X30 l30 y30 z30 st30 hQ30
        subst l30 y30 z30
        obtain ⟨rfl, N30q, e30⟩ := hQ30
        have N30 := Fr.app N29 N30q
        refine Run.st (S' := T30.setTop (mkF m 188 #[.val (.int p0), .val (.long q1), .second, .val (.long q2), .second, .val (.long q3), .second, .val (.long q4), .second, .val (.ref b1), .val (.ref b3), .val (.ref b6), .val (.ref b9), .val (.ref b12), .val (.ref b9), .val (.ref b12)] [(.ref b9)])) (fun _ k => st30.trans (XS.aload X30.here hx rfl (hb hby at_181) rfl rfl (Jvm.RoadKit.acmp (g := (mkF m 183 #[.val (.int p0), .val (.long q1), .second, .val (.long q2), .second, .val (.long q3), .second, .val (.long q4), .second, .val (.ref b1), .val (.ref b3), .val (.ref b6), .val (.ref b9), .val (.ref b12), .val (.ref b9), .val (.ref b12)] [(.ref b9), (.ref b9)])) X30 hx rfl rfl rfl (pc0 := 183) (pc' := 186) (same := true) rfl (hb hby at_183) rfl (decide_eq_true rfl) (by decide) (by decide) (XS.aload X30.here hx rfl (hb hby at_186) rfl rfl k)))) ?_
        obtain ⟨cq31, kq31, q31a, q31b, q31c⟩ := isOf hZ e30 E_b9
        obtain ⟨_, _, ⟨T31, L31, k31, n31⟩, -, X31, ⟨Lc31, hQ31, l31, y31, z31⟩, st31⟩ := X30.virtualBack hx (y := (⟨"com/example/keys_to_structures/keystostructures/store/TimedEntry", "position", "()I"⟩ : MethodName)) (z := (⟨"com/example/keys_to_structures/keystostructures/store/TimedEntry", "position", "()I"⟩ : MethodName)) hown (mvT hZ (hw _ (List.mem_of_getElem? (i := 74) rfl))) (mvT hZ (hw _ (List.mem_of_getElem? (i := 75) rfl))) (notFace_of_selects (args := #[]) (mvT hZ (hw _ (List.mem_of_getElem? (i := 77) rfl)))) (mvT hZ (hw _ (List.mem_of_getElem? (i := 77) rfl))) (mvT hZ (hw _ (List.mem_of_getElem? (i := 76) rfl))) (by decide) (backOf (W := 0) (rmPo l Z aV hw [] b9 (0 : Int32) T29.heap n0 Zn F_position_b9) hZ (hw _ (List.mem_of_getElem? (i := 78) rfl)) (hw _ (List.mem_of_getElem? (i := 15) rfl)) (by decide) (by decide)) q31a q31c (g := (mkF m 188 #[.val (.int p0), .val (.long q1), .second, .val (.long q2), .second, .val (.long q3), .second, .val (.long q4), .second, .val (.ref b1), .val (.ref b3), .val (.ref b6), .val (.ref b9), .val (.ref b12), .val (.ref b9), .val (.ref b12)] [(.ref b9)])) rfl (by rw [hml]; rfl) (Steps.refl _) (argsL := []) (rest := []) (lenOf pd_9 rfl) rfl (by show 2 * 0 + _ ≤ _; exact Nat.le_of_eq rfl) (hb hby at_188) (fun _ _ => ⟨rfl, e30, (by decide : 11 + 0 ≤ _), (by decide : 58 + 0 ≤ _)⟩)
        dsimp only [Pt.U, Pt.locs, Pt.cells, Pt.slots] at X31 l31 y31 z31 st31 hQ31
        subst l31 y31 z31
        obtain ⟨rfl, N31q, e31⟩ := hQ31
        have N31 := Fr.app N30 N31q
        refine Run.st (S' := T31.setTop (mkF m 196 #[.val (.int p0), .val (.long q1), .second, .val (.long q2), .second, .val (.long q3), .second, .val (.long q4), .second, .val (.ref b1), .val (.ref b3), .val (.ref b6), .val (.ref b9), .val (.ref b12), .val (.ref b9), .val (.ref b12)] [(.ref b12)])) (fun _ k => st31.trans (XS.ifNo X31.here hx rfl (hb hby at_191) rfl ((if0 _ _).trans (teq (show (0 : Int32) = (0 : Int32) from (by decide))).2) (XS.aload X31.here hx rfl (hb hby at_194) rfl rfl k))) ?_
        obtain ⟨cq32, kq32, q32a, q32b, q32c⟩ := isOf hZ e31 E_b12
        obtain ⟨_, _, ⟨T32, L32, k32, n32⟩, -, X32, ⟨Lc32, hQ32, l32, y32, z32⟩, st32⟩ := X31.virtualBack hx (y := (⟨"com/example/keys_to_structures/keystostructures/store/TimedEntry", "position", "()I"⟩ : MethodName)) (z := (⟨"com/example/keys_to_structures/keystostructures/store/TimedEntry", "position", "()I"⟩ : MethodName)) hown (mvT hZ (hw _ (List.mem_of_getElem? (i := 74) rfl))) (mvT hZ (hw _ (List.mem_of_getElem? (i := 75) rfl))) (notFace_of_selects (args := #[]) (mvT hZ (hw _ (List.mem_of_getElem? (i := 77) rfl)))) (mvT hZ (hw _ (List.mem_of_getElem? (i := 77) rfl))) (mvT hZ (hw _ (List.mem_of_getElem? (i := 76) rfl))) (by decide) (backOf (W := 0) (rmPo l Z aV hw [] b12 (1 : Int32) T29.heap n0 Zn F_position_b12) hZ (hw _ (List.mem_of_getElem? (i := 78) rfl)) (hw _ (List.mem_of_getElem? (i := 15) rfl)) (by decide) (by decide)) q32a q32c (g := (mkF m 196 #[.val (.int p0), .val (.long q1), .second, .val (.long q2), .second, .val (.long q3), .second, .val (.long q4), .second, .val (.ref b1), .val (.ref b3), .val (.ref b6), .val (.ref b9), .val (.ref b12), .val (.ref b9), .val (.ref b12)] [(.ref b12)])) rfl (by rw [hml]; rfl) (Steps.refl _) (argsL := []) (rest := []) (lenOf pd_9 rfl) rfl (by show 2 * 0 + _ ≤ _; exact Nat.le_of_eq rfl) (hb hby at_196) (fun _ _ => ⟨rfl, e31, (by decide : 11 + 0 ≤ _), (by decide : 58 + 0 ≤ _)⟩)
        dsimp only [Pt.U, Pt.locs, Pt.cells, Pt.slots] at X32 l32 y32 z32 st32 hQ32
        subst l32 y32 z32
        obtain ⟨rfl, N32q, e32⟩ := hQ32
        have N32 := Fr.app N31 N32q
        refine Run.st (S' := T32.setTop (mkF m 207 #[.val (.int p0), .val (.long q1), .second, .val (.long q2), .second, .val (.long q3), .second, .val (.long q4), .second, .val (.ref b1), .val (.ref b3), .val (.ref b6), .val (.ref b9), .val (.ref b12), .val (.ref b9), .val (.ref b12)] [(.ref b1)])) (fun _ k => st32.trans (XS.iconst X32.here hx rfl (hb hby at_199) (XS.icmpYes X32.here hx rfl (pc0 := 200) (pc' := 205) rfl (hb hby at_200) rfl (teq (show (1 : Int32) = (1 : Int32) from (by decide))).1 (by decide) (by decide) (XS.aload X32.here hx rfl (hb hby at_205) rfl rfl k)))) ?_
        obtain ⟨cq33, kq33, q33a, q33b, q33c⟩ := isOf hZ e32 E_b1
        obtain ⟨_, _, ⟨T33, L33, k33, n33⟩, -, X33, ⟨Lc33, hQ33, l33, y33, z33⟩, st33⟩ := X32.virtualBack hx (y := (⟨"com/example/keys_to_structures/keystostructures/store/ExpiryQueue", "clear", "()V"⟩ : MethodName)) (z := (⟨"com/example/keys_to_structures/keystostructures/store/ExpiryQueue", "clear", "()V"⟩ : MethodName)) hown (mvT hZ (hw _ (List.mem_of_getElem? (i := 41) rfl))) (mvT hZ (hw _ (List.mem_of_getElem? (i := 42) rfl))) (notFace_of_selects (args := #[]) (mvT hZ (hw _ (List.mem_of_getElem? (i := 44) rfl)))) (mvT hZ (hw _ (List.mem_of_getElem? (i := 44) rfl))) (mvT hZ (hw _ (List.mem_of_getElem? (i := 43) rfl))) (by decide) (backOf (W := 0) (rmClr l Z aV hw [] b1 b17 (2 : Int32) T29.heap n0 Zn g_b1 E_b1 F_heap_b1 F_size_b1) hZ (hw _ (List.mem_of_getElem? (i := 45) rfl)) (hw _ (List.mem_of_getElem? (i := 2) rfl)) (by decide) (by decide)) q33a q33c (g := (mkF m 207 #[.val (.int p0), .val (.long q1), .second, .val (.long q2), .second, .val (.long q3), .second, .val (.long q4), .second, .val (.ref b1), .val (.ref b3), .val (.ref b6), .val (.ref b9), .val (.ref b12), .val (.ref b9), .val (.ref b12)] [(.ref b1)])) rfl (by rw [hml]; rfl) (Steps.refl _) (argsL := []) (rest := []) (lenOf pd_5 rfl) rfl (by show 2 * 0 + _ ≤ _; exact Nat.le_of_eq rfl) (hb hby at_207) (fun _ _ => ⟨rfl, e32, (by decide : 11 + 1 ≤ _), (by decide : 58 + 16 ≤ _)⟩)
        dsimp only [Pt.U, Pt.locs, Pt.cells, Pt.slots] at X33 l33 y33 z33 st33 hQ33
        subst l33 y33 z33
        obtain ⟨b33, kb33, rfl, N33q, K33, g_b33, z_b33, O_kb33, q33_0, q33_1, q33_2, q33_3⟩ := hQ33
        have ne_b1_b33 : b1 ≠ b33 := Nat.ne_of_lt (Nat.lt_of_lt_of_le E_b1.lt z_b33)
        have ne_b2_b33 : b2 ≠ b33 := Nat.ne_of_lt (Nat.lt_of_lt_of_le V_b2.lt z_b33)
        have ne_b3_b33 : b3 ≠ b33 := Nat.ne_of_lt (Nat.lt_of_lt_of_le E_b3.lt z_b33)
        have ne_b6_b33 : b6 ≠ b33 := Nat.ne_of_lt (Nat.lt_of_lt_of_le E_b6.lt z_b33)
        have ne_b9_b33 : b9 ≠ b33 := Nat.ne_of_lt (Nat.lt_of_lt_of_le E_b9.lt z_b33)
        have ne_b12_b33 : b12 ≠ b33 := Nat.ne_of_lt (Nat.lt_of_lt_of_le E_b12.lt z_b33)
        have ne_b17_b33 : b17 ≠ b33 := Nat.ne_of_lt (Nat.lt_of_lt_of_le V_b17.lt z_b33)
        have sz_b33 : h0.size ≤ b33 := Nat.le_trans Kp.1 z_b33
        have V_b2 := V_b2.keep K33 (ninS (Ne.symm ne_b1_b2) nin0)
        have E_b3 := E_b3.keep K33
        have F_deadline_b3 := F_deadline_b3.keep K33 (ninS (Ne.symm ne_b1_b3) nin0)
        have F_position_b3 := F_position_b3.keep K33 (ninS (Ne.symm ne_b1_b3) nin0)
        have E_b6 := E_b6.keep K33
        have F_deadline_b6 := F_deadline_b6.keep K33 (ninS (Ne.symm ne_b1_b6) nin0)
        have F_position_b6 := F_position_b6.keep K33 (ninS (Ne.symm ne_b1_b6) nin0)
        have E_b9 := E_b9.keep K33
        have F_deadline_b9 := F_deadline_b9.keep K33 (ninS (Ne.symm ne_b1_b9) nin0)
        have F_position_b9 := F_position_b9.keep K33 (ninS (Ne.symm ne_b1_b9) nin0)
        have E_b12 := E_b12.keep K33
        have F_deadline_b12 := F_deadline_b12.keep K33 (ninS (Ne.symm ne_b1_b12) nin0)
        have F_position_b12 := F_position_b12.keep K33 (ninS (Ne.symm ne_b1_b12) nin0)
        have V_b17 := V_b17.keep K33 (ninS (Ne.symm ne_b1_b17) nin0)
        have E_b1 := q33_0
        have F_heap_b1 := q33_1
        have F_size_b1 := q33_2
        have V_b33 := q33_3
        have Kp := Kp.trans K33 (allS (Or.inr sz_b1) all0)
        have Zn := Nat.le_trans Zn K33.1
        have N33 := Fr.app N32 N33q
        refine Run.st (S' := T33.setTop (mkF m 212 #[.val (.int p0), .val (.long q1), .second, .val (.long q2), .second, .val (.long q3), .second, .val (.long q4), .second, .val (.ref b1), .val (.ref b3), .val (.ref b6), .val (.ref b9), .val (.ref b12), .val (.ref b9), .val (.ref b12)] [(.ref b1)])) (fun _ k => st33.trans (XS.aload X33.here hx rfl (hb hby at_210) rfl rfl k)) ?_
        obtain ⟨cq34, kq34, q34a, q34b, q34c⟩ := isOf hZ rfl E_b1
        obtain ⟨_, _, ⟨T34, L34, k34, n34⟩, -, X34, ⟨Lc34, hQ34, l34, y34, z34⟩, st34⟩ := X33.virtualBack hx (y := (⟨"com/example/keys_to_structures/keystostructures/store/ExpiryQueue", "first", "()Lcom/example/keys_to_structures/keystostructures/store/TimedEntry;"⟩ : MethodName)) (z := (⟨"com/example/keys_to_structures/keystostructures/store/ExpiryQueue", "first", "()Lcom/example/keys_to_structures/keystostructures/store/TimedEntry;"⟩ : MethodName)) hown (mvT hZ (hw _ (List.mem_of_getElem? (i := 48) rfl))) (mvT hZ (hw _ (List.mem_of_getElem? (i := 49) rfl))) (notFace_of_selects (args := #[]) (mvT hZ (hw _ (List.mem_of_getElem? (i := 51) rfl)))) (mvT hZ (hw _ (List.mem_of_getElem? (i := 51) rfl))) (mvT hZ (hw _ (List.mem_of_getElem? (i := 50) rfl))) (by decide) (backOf (W := 0) (rmFi0 l Z aV hw [] b1 b33 kb33 .null .null .null T33.heap n0 Zn F_heap_b1 F_size_b1 V_b33) hZ (hw _ (List.mem_of_getElem? (i := 52) rfl)) (hw _ (List.mem_of_getElem? (i := 2) rfl)) (by decide) (by decide)) q34a q34c (g := (mkF m 212 #[.val (.int p0), .val (.long q1), .second, .val (.long q2), .second, .val (.long q3), .second, .val (.long q4), .second, .val (.ref b1), .val (.ref b3), .val (.ref b6), .val (.ref b9), .val (.ref b12), .val (.ref b9), .val (.ref b12)] [(.ref b1)])) rfl (by rw [hml]; rfl) (Steps.refl _) (argsL := []) (rest := []) (lenOf pd_7 rfl) rfl (by show 2 * 0 + _ ≤ _; exact Nat.le_of_eq rfl) (hb hby at_212) (fun _ _ => ⟨rfl, rfl, (by decide : 12 + 0 ≤ _), (by decide : 74 + 0 ≤ _)⟩)
        dsimp only [Pt.U, Pt.locs, Pt.cells, Pt.slots] at X34 l34 y34 z34 st34 hQ34
        subst l34 y34 z34
        obtain ⟨rfl, N34q, e34⟩ := hQ34
        have N34 := Fr.app N33 N34q
        refine Run.st (S' := T34.setTop (mkF m 223 #[.val (.int p0), .val (.long q1), .second, .val (.long q2), .second, .val (.long q3), .second, .val (.long q4), .second, .val (.ref b1), .val (.ref b3), .val (.ref b6), .val (.ref b9), .val (.ref b12), .val (.ref b9), .val (.ref b12)] [(.int (1 : Int32))])) (fun _ k => st34.trans (XS.ifnonnullNo X34.here hx rfl (hb hby at_215) rfl (XS.iconst X34.here hx rfl (hb hby at_218) (XS.goto X34.here hx rfl (pc0 := 219) (pc' := 223) rfl (hb hby at_219) (by decide) (by decide) k)))) ?_
        refine Run.out X34 hx Bd.notSynchronized Bd.returns rfl (Or.inl ⟨rfl, by simp, _, rfl⟩) (hb hby at_223) (by decide) (by decide) ?_
        rw [e34]
        exact ⟨rfl, N34⟩
    · refine Run.st (S' := T14.setTop (mkF m 90 #[.val (.int p0), .val (.long q1), .second, .val (.long q2), .second, .val (.long q3), .second, .val (.long q4), .second, .val (.ref b1), .val (.ref b3), .val (.ref b6), .val (.ref b9), .val (.ref b12), .unset, .unset] [(.ref b6), (.ref b1)])) (fun _ k => XS.ifNo X14.here hx rfl (hb hby at_83) rfl ((if0 _ _).trans (feq hc83_16).1) (XS.aload X14.here hx rfl (hb hby at_86) rfl rfl (XS.aload X14.here hx rfl (hb hby at_88) rfl rfl k))) ?_
      obtain ⟨cq35, kq35, q35a, q35b, q35c⟩ := isOf hZ rfl E_b1
      obtain ⟨_, _, ⟨T35, L35, k35, n35⟩, -, X35, ⟨Lc35, hQ35, l35, y35, z35⟩, st35⟩ := X14.virtualBack hx (y := (⟨"com/example/keys_to_structures/keystostructures/store/ExpiryQueue", "add", "(Lcom/example/keys_to_structures/keystostructures/store/TimedEntry;)V"⟩ : MethodName)) (z := (⟨"com/example/keys_to_structures/keystostructures/store/ExpiryQueue", "add", "(Lcom/example/keys_to_structures/keystostructures/store/TimedEntry;)V"⟩ : MethodName)) hown (mvT hZ (hw _ (List.mem_of_getElem? (i := 53) rfl))) (mvT hZ (hw _ (List.mem_of_getElem? (i := 54) rfl))) (notFace_of_selects (args := #[]) (mvT hZ (hw _ (List.mem_of_getElem? (i := 56) rfl)))) (mvT hZ (hw _ (List.mem_of_getElem? (i := 56) rfl))) (mvT hZ (hw _ (List.mem_of_getElem? (i := 55) rfl))) (by decide) (backOf (W := 0) (rmAd0 l Z aV hw [] b1 b6 b2 kb2 .null .null .null q2 (0 : Int32) T14.heap n0 Zn g_b1 g_b2 O_kb2 g_b6 E_b1 F_heap_b1 F_size_b1 V_b2 E_b6 F_deadline_b6 F_position_b6 ne_b1_b2 ne_b1_b6 ne_b2_b6) hZ (hw _ (List.mem_of_getElem? (i := 57) rfl)) (hw _ (List.mem_of_getElem? (i := 2) rfl)) (by decide) (by decide)) q35a q35c (g := (mkF m 90 #[.val (.int p0), .val (.long q1), .second, .val (.long q2), .second, .val (.long q3), .second, .val (.long q4), .second, .val (.ref b1), .val (.ref b3), .val (.ref b6), .val (.ref b9), .val (.ref b12), .unset, .unset] [(.ref b6), (.ref b1)])) rfl (by rw [hml]; rfl) (Steps.refl _) (argsL := [(.ref b6)]) (rest := []) (lenOf pd_8 rfl) rfl (by show 2 * 0 + _ ≤ _; exact Nat.le_of_eq rfl) (hb hby at_90) (fun _ _ => ⟨rfl, rfl, (by decide : 10 + 0 ≤ _), (by decide : 42 + 0 ≤ _)⟩)
      dsimp only [Pt.U, Pt.locs, Pt.cells, Pt.slots] at X35 l35 y35 z35 st35 hQ35
      subst l35 y35 z35
      obtain ⟨rfl, N35q, K35, q35_0, q35_1, q35_2, q35_3, q35_4, q35_5, q35_6⟩ := hQ35
      have E_b3 := E_b3.keep K35
      have F_deadline_b3 := F_deadline_b3.keep K35 (ninS (Ne.symm ne_b1_b3) (ninS (Ne.symm ne_b2_b3) (ninS ne_b3_b6 nin0)))
      have F_position_b3 := F_position_b3.keep K35 (ninS (Ne.symm ne_b1_b3) (ninS (Ne.symm ne_b2_b3) (ninS ne_b3_b6 nin0)))
      have E_b9 := E_b9.keep K35
      have F_deadline_b9 := F_deadline_b9.keep K35 (ninS (Ne.symm ne_b1_b9) (ninS (Ne.symm ne_b2_b9) (ninS (Ne.symm ne_b6_b9) nin0)))
      have F_position_b9 := F_position_b9.keep K35 (ninS (Ne.symm ne_b1_b9) (ninS (Ne.symm ne_b2_b9) (ninS (Ne.symm ne_b6_b9) nin0)))
      have E_b12 := E_b12.keep K35
      have F_deadline_b12 := F_deadline_b12.keep K35 (ninS (Ne.symm ne_b1_b12) (ninS (Ne.symm ne_b2_b12) (ninS (Ne.symm ne_b6_b12) nin0)))
      have F_position_b12 := F_position_b12.keep K35 (ninS (Ne.symm ne_b1_b12) (ninS (Ne.symm ne_b2_b12) (ninS (Ne.symm ne_b6_b12) nin0)))
      have E_b1 := q35_0
      have F_heap_b1 := q35_1
      have F_size_b1 := q35_2
      have V_b2 := q35_3
      have E_b6 := q35_4
      have F_deadline_b6 := q35_5
      have F_position_b6 := q35_6
      have Kp := Kp.trans K35 (allS (Or.inr sz_b1) (allS (Or.inr sz_b2) (allS (Or.inr sz_b6) all0)))
      have Zn := Nat.le_trans Zn K35.1
      have N35 := Fr.app N14 N35q
      refine Run.st (S' := T35.setTop (mkF m 95 #[.val (.int p0), .val (.long q1), .second, .val (.long q2), .second, .val (.long q3), .second, .val (.long q4), .second, .val (.ref b1), .val (.ref b3), .val (.ref b6), .val (.ref b9), .val (.ref b12), .unset, .unset] [(.ref b1)])) (fun _ k => st35.trans (XS.aload X35.here hx rfl (hb hby at_93) rfl rfl k)) ?_
      obtain ⟨cq36, kq36, q36a, q36b, q36c⟩ := isOf hZ rfl E_b1
      obtain ⟨_, _, ⟨T36, L36, k36, n36⟩, -, X36, ⟨Lc36, hQ36, l36, y36, z36⟩, st36⟩ := X35.virtualBack hx (y := (⟨"com/example/keys_to_structures/keystostructures/store/ExpiryQueue", "clear", "()V"⟩ : MethodName)) (z := (⟨"com/example/keys_to_structures/keystostructures/store/ExpiryQueue", "clear", "()V"⟩ : MethodName)) hown (mvT hZ (hw _ (List.mem_of_getElem? (i := 41) rfl))) (mvT hZ (hw _ (List.mem_of_getElem? (i := 42) rfl))) (notFace_of_selects (args := #[]) (mvT hZ (hw _ (List.mem_of_getElem? (i := 44) rfl)))) (mvT hZ (hw _ (List.mem_of_getElem? (i := 44) rfl))) (mvT hZ (hw _ (List.mem_of_getElem? (i := 43) rfl))) (by decide) (backOf (W := 0) (rmClr l Z aV hw [] b1 b2 (1 : Int32) T35.heap n0 Zn g_b1 E_b1 F_heap_b1 F_size_b1) hZ (hw _ (List.mem_of_getElem? (i := 45) rfl)) (hw _ (List.mem_of_getElem? (i := 2) rfl)) (by decide) (by decide)) q36a q36c (g := (mkF m 95 #[.val (.int p0), .val (.long q1), .second, .val (.long q2), .second, .val (.long q3), .second, .val (.long q4), .second, .val (.ref b1), .val (.ref b3), .val (.ref b6), .val (.ref b9), .val (.ref b12), .unset, .unset] [(.ref b1)])) rfl (by rw [hml]; rfl) (Steps.refl _) (argsL := []) (rest := []) (lenOf pd_5 rfl) rfl (by show 2 * 0 + _ ≤ _; exact Nat.le_of_eq rfl) (hb hby at_95) (fun _ _ => ⟨rfl, rfl, (by decide : 10 + 1 ≤ _), (by decide : 42 + 16 ≤ _)⟩)
      dsimp only [Pt.U, Pt.locs, Pt.cells, Pt.slots] at X36 l36 y36 z36 st36 hQ36
      subst l36 y36 z36
      obtain ⟨b36, kb36, rfl, N36q, K36, g_b36, z_b36, O_kb36, q36_0, q36_1, q36_2, q36_3⟩ := hQ36
      have ne_b1_b36 : b1 ≠ b36 := Nat.ne_of_lt (Nat.lt_of_lt_of_le E_b1.lt z_b36)
      have ne_b2_b36 : b2 ≠ b36 := Nat.ne_of_lt (Nat.lt_of_lt_of_le V_b2.lt z_b36)
      have ne_b3_b36 : b3 ≠ b36 := Nat.ne_of_lt (Nat.lt_of_lt_of_le E_b3.lt z_b36)
      have ne_b6_b36 : b6 ≠ b36 := Nat.ne_of_lt (Nat.lt_of_lt_of_le E_b6.lt z_b36)
      have ne_b9_b36 : b9 ≠ b36 := Nat.ne_of_lt (Nat.lt_of_lt_of_le E_b9.lt z_b36)
      have ne_b12_b36 : b12 ≠ b36 := Nat.ne_of_lt (Nat.lt_of_lt_of_le E_b12.lt z_b36)
      have sz_b36 : h0.size ≤ b36 := Nat.le_trans Kp.1 z_b36
      have V_b2 := V_b2.keep K36 (ninS (Ne.symm ne_b1_b2) nin0)
      have E_b3 := E_b3.keep K36
      have F_deadline_b3 := F_deadline_b3.keep K36 (ninS (Ne.symm ne_b1_b3) nin0)
      have F_position_b3 := F_position_b3.keep K36 (ninS (Ne.symm ne_b1_b3) nin0)
      have E_b6 := E_b6.keep K36
      have F_deadline_b6 := F_deadline_b6.keep K36 (ninS (Ne.symm ne_b1_b6) nin0)
      have F_position_b6 := F_position_b6.keep K36 (ninS (Ne.symm ne_b1_b6) nin0)
      have E_b9 := E_b9.keep K36
      have F_deadline_b9 := F_deadline_b9.keep K36 (ninS (Ne.symm ne_b1_b9) nin0)
      have F_position_b9 := F_position_b9.keep K36 (ninS (Ne.symm ne_b1_b9) nin0)
      have E_b12 := E_b12.keep K36
      have F_deadline_b12 := F_deadline_b12.keep K36 (ninS (Ne.symm ne_b1_b12) nin0)
      have F_position_b12 := F_position_b12.keep K36 (ninS (Ne.symm ne_b1_b12) nin0)
      have E_b1 := q36_0
      have F_heap_b1 := q36_1
      have F_size_b1 := q36_2
      have V_b36 := q36_3
      have Kp := Kp.trans K36 (allS (Or.inr sz_b1) all0)
      have Zn := Nat.le_trans Zn K36.1
      have N36 := Fr.app N35 N36q
      refine Run.st (S' := T36.setTop (mkF m 100 #[.val (.int p0), .val (.long q1), .second, .val (.long q2), .second, .val (.long q3), .second, .val (.long q4), .second, .val (.ref b1), .val (.ref b3), .val (.ref b6), .val (.ref b9), .val (.ref b12), .unset, .unset] [(.ref b1)])) (fun _ k => st36.trans (XS.aload X36.here hx rfl (hb hby at_98) rfl rfl k)) ?_
      obtain ⟨cq37, kq37, q37a, q37b, q37c⟩ := isOf hZ rfl E_b1
      obtain ⟨_, _, ⟨T37, L37, k37, n37⟩, -, X37, ⟨Lc37, hQ37, l37, y37, z37⟩, st37⟩ := X36.virtualBack hx (y := (⟨"com/example/keys_to_structures/keystostructures/store/ExpiryQueue", "first", "()Lcom/example/keys_to_structures/keystostructures/store/TimedEntry;"⟩ : MethodName)) (z := (⟨"com/example/keys_to_structures/keystostructures/store/ExpiryQueue", "first", "()Lcom/example/keys_to_structures/keystostructures/store/TimedEntry;"⟩ : MethodName)) hown (mvT hZ (hw _ (List.mem_of_getElem? (i := 48) rfl))) (mvT hZ (hw _ (List.mem_of_getElem? (i := 49) rfl))) (notFace_of_selects (args := #[]) (mvT hZ (hw _ (List.mem_of_getElem? (i := 51) rfl)))) (mvT hZ (hw _ (List.mem_of_getElem? (i := 51) rfl))) (mvT hZ (hw _ (List.mem_of_getElem? (i := 50) rfl))) (by decide) (backOf (W := 0) (rmFi0 l Z aV hw [] b1 b36 kb36 .null .null .null T36.heap n0 Zn F_heap_b1 F_size_b1 V_b36) hZ (hw _ (List.mem_of_getElem? (i := 52) rfl)) (hw _ (List.mem_of_getElem? (i := 2) rfl)) (by decide) (by decide)) q37a q37c (g := (mkF m 100 #[.val (.int p0), .val (.long q1), .second, .val (.long q2), .second, .val (.long q3), .second, .val (.long q4), .second, .val (.ref b1), .val (.ref b3), .val (.ref b6), .val (.ref b9), .val (.ref b12), .unset, .unset] [(.ref b1)])) rfl (by rw [hml]; rfl) (Steps.refl _) (argsL := []) (rest := []) (lenOf pd_7 rfl) rfl (by show 2 * 0 + _ ≤ _; exact Nat.le_of_eq rfl) (hb hby at_100) (fun _ _ => ⟨rfl, rfl, (by decide : 11 + 0 ≤ _), (by decide : 58 + 0 ≤ _)⟩)
      dsimp only [Pt.U, Pt.locs, Pt.cells, Pt.slots] at X37 l37 y37 z37 st37 hQ37
      subst l37 y37 z37
      obtain ⟨rfl, N37q, e37⟩ := hQ37
      have N37 := Fr.app N36 N37q
      refine Run.st (S' := T37.setTop (mkF m 112 #[.val (.int p0), .val (.long q1), .second, .val (.long q2), .second, .val (.long q3), .second, .val (.long q4), .second, .val (.ref b1), .val (.ref b3), .val (.ref b6), .val (.ref b9), .val (.ref b12), .unset, .unset] [(.ref b9), (.ref b1)])) (fun _ k => st37.trans (XS.ifnullYes X37.here hx rfl (pc0 := 103) (pc' := 108) rfl (hb hby at_103) rfl (by decide) (by decide) (XS.aload X37.here hx rfl (hb hby at_108) rfl rfl (XS.aload X37.here hx rfl (hb hby at_110) rfl rfl k)))) ?_
      obtain ⟨cq38, kq38, q38a, q38b, q38c⟩ := isOf hZ e37 E_b1
      obtain ⟨_, _, ⟨T38, L38, k38, n38⟩, -, X38, ⟨Lc38, hQ38, l38, y38, z38⟩, st38⟩ := X37.virtualBack hx (y := (⟨"com/example/keys_to_structures/keystostructures/store/ExpiryQueue", "add", "(Lcom/example/keys_to_structures/keystostructures/store/TimedEntry;)V"⟩ : MethodName)) (z := (⟨"com/example/keys_to_structures/keystostructures/store/ExpiryQueue", "add", "(Lcom/example/keys_to_structures/keystostructures/store/TimedEntry;)V"⟩ : MethodName)) hown (mvT hZ (hw _ (List.mem_of_getElem? (i := 53) rfl))) (mvT hZ (hw _ (List.mem_of_getElem? (i := 54) rfl))) (notFace_of_selects (args := #[]) (mvT hZ (hw _ (List.mem_of_getElem? (i := 56) rfl)))) (mvT hZ (hw _ (List.mem_of_getElem? (i := 56) rfl))) (mvT hZ (hw _ (List.mem_of_getElem? (i := 55) rfl))) (by decide) (backOf (W := 0) (rmAd0 l Z aV hw [] b1 b9 b36 kb36 .null .null .null q3 (0 : Int32) T36.heap n0 Zn g_b1 g_b36 O_kb36 g_b9 E_b1 F_heap_b1 F_size_b1 V_b36 E_b9 F_deadline_b9 F_position_b9 ne_b1_b36 ne_b1_b9 (Ne.symm ne_b9_b36)) hZ (hw _ (List.mem_of_getElem? (i := 57) rfl)) (hw _ (List.mem_of_getElem? (i := 2) rfl)) (by decide) (by decide)) q38a q38c (g := (mkF m 112 #[.val (.int p0), .val (.long q1), .second, .val (.long q2), .second, .val (.long q3), .second, .val (.long q4), .second, .val (.ref b1), .val (.ref b3), .val (.ref b6), .val (.ref b9), .val (.ref b12), .unset, .unset] [(.ref b9), (.ref b1)])) rfl (by rw [hml]; rfl) (Steps.refl _) (argsL := [(.ref b9)]) (rest := []) (lenOf pd_8 rfl) rfl (by show 2 * 0 + _ ≤ _; exact Nat.le_of_eq rfl) (hb hby at_112) (fun _ _ => ⟨rfl, e37, (by decide : 11 + 0 ≤ _), (by decide : 58 + 0 ≤ _)⟩)
      dsimp only [Pt.U, Pt.locs, Pt.cells, Pt.slots] at X38 l38 y38 z38 st38 hQ38
      subst l38 y38 z38
      obtain ⟨rfl, N38q, K38, q38_0, q38_1, q38_2, q38_3, q38_4, q38_5, q38_6⟩ := hQ38
      have V_b2 := V_b2.keep K38 (ninS (Ne.symm ne_b1_b2) (ninS ne_b2_b36 (ninS ne_b2_b9 nin0)))
      have E_b3 := E_b3.keep K38
      have F_deadline_b3 := F_deadline_b3.keep K38 (ninS (Ne.symm ne_b1_b3) (ninS ne_b3_b36 (ninS ne_b3_b9 nin0)))
      have F_position_b3 := F_position_b3.keep K38 (ninS (Ne.symm ne_b1_b3) (ninS ne_b3_b36 (ninS ne_b3_b9 nin0)))
      have E_b6 := E_b6.keep K38
      have F_deadline_b6 := F_deadline_b6.keep K38 (ninS (Ne.symm ne_b1_b6) (ninS ne_b6_b36 (ninS ne_b6_b9 nin0)))
      have F_position_b6 := F_position_b6.keep K38 (ninS (Ne.symm ne_b1_b6) (ninS ne_b6_b36 (ninS ne_b6_b9 nin0)))
      have E_b12 := E_b12.keep K38
      have F_deadline_b12 := F_deadline_b12.keep K38 (ninS (Ne.symm ne_b1_b12) (ninS ne_b12_b36 (ninS (Ne.symm ne_b9_b12) nin0)))
      have F_position_b12 := F_position_b12.keep K38 (ninS (Ne.symm ne_b1_b12) (ninS ne_b12_b36 (ninS (Ne.symm ne_b9_b12) nin0)))
      have E_b1 := q38_0
      have F_heap_b1 := q38_1
      have F_size_b1 := q38_2
      have V_b36 := q38_3
      have E_b9 := q38_4
      have F_deadline_b9 := q38_5
      have F_position_b9 := q38_6
      have Kp := Kp.trans K38 (allS (Or.inr sz_b1) (allS (Or.inr sz_b36) (allS (Or.inr sz_b9) all0)))
      have Zn := Nat.le_trans Zn K38.1
      have N38 := Fr.app N37 N38q
      refine Run.st (S' := T38.setTop (mkF m 117 #[.val (.int p0), .val (.long q1), .second, .val (.long q2), .second, .val (.long q3), .second, .val (.long q4), .second, .val (.ref b1), .val (.ref b3), .val (.ref b6), .val (.ref b9), .val (.ref b12), .unset, .unset] [(.ref b1)])) (fun _ k => st38.trans (XS.aload X38.here hx rfl (hb hby at_115) rfl rfl k)) ?_
      obtain ⟨cq39, kq39, q39a, q39b, q39c⟩ := isOf hZ rfl E_b1
      obtain ⟨_, _, ⟨T39, L39, k39, n39⟩, -, X39, ⟨Lc39, hQ39, l39, y39, z39⟩, st39⟩ := X38.virtualBack hx (y := (⟨"com/example/keys_to_structures/keystostructures/store/ExpiryQueue", "first", "()Lcom/example/keys_to_structures/keystostructures/store/TimedEntry;"⟩ : MethodName)) (z := (⟨"com/example/keys_to_structures/keystostructures/store/ExpiryQueue", "first", "()Lcom/example/keys_to_structures/keystostructures/store/TimedEntry;"⟩ : MethodName)) hown (mvT hZ (hw _ (List.mem_of_getElem? (i := 48) rfl))) (mvT hZ (hw _ (List.mem_of_getElem? (i := 49) rfl))) (notFace_of_selects (args := #[]) (mvT hZ (hw _ (List.mem_of_getElem? (i := 51) rfl)))) (mvT hZ (hw _ (List.mem_of_getElem? (i := 51) rfl))) (mvT hZ (hw _ (List.mem_of_getElem? (i := 50) rfl))) (by decide) (backOf (W := 0) (rmFi1 l Z aV hw [] b1 b36 kb36 b9 .null .null T38.heap n0 Zn F_heap_b1 F_size_b1 V_b36) hZ (hw _ (List.mem_of_getElem? (i := 52) rfl)) (hw _ (List.mem_of_getElem? (i := 2) rfl)) (by decide) (by decide)) q39a q39c (g := (mkF m 117 #[.val (.int p0), .val (.long q1), .second, .val (.long q2), .second, .val (.long q3), .second, .val (.long q4), .second, .val (.ref b1), .val (.ref b3), .val (.ref b6), .val (.ref b9), .val (.ref b12), .unset, .unset] [(.ref b1)])) rfl (by rw [hml]; rfl) (Steps.refl _) (argsL := []) (rest := []) (lenOf pd_7 rfl) rfl (by show 2 * 0 + _ ≤ _; exact Nat.le_of_eq rfl) (hb hby at_117) (fun _ _ => ⟨rfl, rfl, (by decide : 11 + 0 ≤ _), (by decide : 58 + 0 ≤ _)⟩)
      dsimp only [Pt.U, Pt.locs, Pt.cells, Pt.slots] at X39 l39 y39 z39 st39 hQ39
      subst l39 y39 z39
      obtain ⟨rfl, N39q, e39⟩ := hQ39
      have N39 := Fr.app N38 N39q
      refine Run.st (S' := T39.setTop (mkF m 127 #[.val (.int p0), .val (.long q1), .second, .val (.long q2), .second, .val (.long q3), .second, .val (.long q4), .second, .val (.ref b1), .val (.ref b3), .val (.ref b6), .val (.ref b9), .val (.ref b12), .unset, .unset] [(.ref b9)])) (fun _ k => st39.trans (XS.aload X39.here hx rfl (hb hby at_120) rfl rfl (Jvm.RoadKit.acmp (g := (mkF m 122 #[.val (.int p0), .val (.long q1), .second, .val (.long q2), .second, .val (.long q3), .second, .val (.long q4), .second, .val (.ref b1), .val (.ref b3), .val (.ref b6), .val (.ref b9), .val (.ref b12), .unset, .unset] [(.ref b9), (.ref b9)])) X39 hx rfl rfl rfl (pc0 := 122) (pc' := 125) (same := true) rfl (hb hby at_122) rfl (decide_eq_true rfl) (by decide) (by decide) (XS.aload X39.here hx rfl (hb hby at_125) rfl rfl k)))) ?_
      obtain ⟨cq40, kq40, q40a, q40b, q40c⟩ := isOf hZ e39 E_b9
      obtain ⟨_, _, ⟨T40, L40, k40, n40⟩, -, X40, ⟨Lc40, hQ40, l40, y40, z40⟩, st40⟩ := X39.virtualBack hx (y := (⟨"com/example/keys_to_structures/keystostructures/store/TimedEntry", "position", "()I"⟩ : MethodName)) (z := (⟨"com/example/keys_to_structures/keystostructures/store/TimedEntry", "position", "()I"⟩ : MethodName)) hown (mvT hZ (hw _ (List.mem_of_getElem? (i := 74) rfl))) (mvT hZ (hw _ (List.mem_of_getElem? (i := 75) rfl))) (notFace_of_selects (args := #[]) (mvT hZ (hw _ (List.mem_of_getElem? (i := 77) rfl)))) (mvT hZ (hw _ (List.mem_of_getElem? (i := 77) rfl))) (mvT hZ (hw _ (List.mem_of_getElem? (i := 76) rfl))) (by decide) (backOf (W := 0) (rmPo l Z aV hw [] b9 (0 : Int32) T38.heap n0 Zn F_position_b9) hZ (hw _ (List.mem_of_getElem? (i := 78) rfl)) (hw _ (List.mem_of_getElem? (i := 15) rfl)) (by decide) (by decide)) q40a q40c (g := (mkF m 127 #[.val (.int p0), .val (.long q1), .second, .val (.long q2), .second, .val (.long q3), .second, .val (.long q4), .second, .val (.ref b1), .val (.ref b3), .val (.ref b6), .val (.ref b9), .val (.ref b12), .unset, .unset] [(.ref b9)])) rfl (by rw [hml]; rfl) (Steps.refl _) (argsL := []) (rest := []) (lenOf pd_9 rfl) rfl (by show 2 * 0 + _ ≤ _; exact Nat.le_of_eq rfl) (hb hby at_127) (fun _ _ => ⟨rfl, e39, (by decide : 11 + 0 ≤ _), (by decide : 58 + 0 ≤ _)⟩)
      dsimp only [Pt.U, Pt.locs, Pt.cells, Pt.slots] at X40 l40 y40 z40 st40 hQ40
      subst l40 y40 z40
      obtain ⟨rfl, N40q, e40⟩ := hQ40
      have N40 := Fr.app N39 N40q
      refine Run.st (S' := T40.setTop (mkF m 139 #[.val (.int p0), .val (.long q1), .second, .val (.long q2), .second, .val (.long q3), .second, .val (.long q4), .second, .val (.ref b1), .val (.ref b3), .val (.ref b6), .val (.ref b9), .val (.ref b12), .unset, .unset] [(.ref b12), (.ref b1)])) (fun _ k => st40.trans (XS.ifYes X40.here hx rfl (pc0 := 130) (pc' := 135) rfl (hb hby at_130) rfl ((if0 _ _).trans (teq (show (0 : Int32) = (0 : Int32) from (by decide))).1) (by decide) (by decide) (XS.aload X40.here hx rfl (hb hby at_135) rfl rfl (XS.aload X40.here hx rfl (hb hby at_137) rfl rfl k)))) ?_
      by_cases hk139_41 : q4 < q3
      · obtain ⟨cq42, kq42, q42a, q42b, q42c⟩ := isOf hZ e40 E_b1
        obtain ⟨_, _, ⟨T42, L42, k42, n42⟩, -, X42, ⟨Lc42, hQ42, l42, y42, z42⟩, st42⟩ := X40.virtualBack hx (y := (⟨"com/example/keys_to_structures/keystostructures/store/ExpiryQueue", "add", "(Lcom/example/keys_to_structures/keystostructures/store/TimedEntry;)V"⟩ : MethodName)) (z := (⟨"com/example/keys_to_structures/keystostructures/store/ExpiryQueue", "add", "(Lcom/example/keys_to_structures/keystostructures/store/TimedEntry;)V"⟩ : MethodName)) hown (mvT hZ (hw _ (List.mem_of_getElem? (i := 53) rfl))) (mvT hZ (hw _ (List.mem_of_getElem? (i := 54) rfl))) (notFace_of_selects (args := #[]) (mvT hZ (hw _ (List.mem_of_getElem? (i := 56) rfl)))) (mvT hZ (hw _ (List.mem_of_getElem? (i := 56) rfl))) (mvT hZ (hw _ (List.mem_of_getElem? (i := 55) rfl))) (by decide) (backOf (W := 0) (rmAd1s l Z aV hw [] b1 b12 b36 kb36 .null .null q4 (0 : Int32) b9 q3 (0 : Int32) T38.heap n0 Zn g_b1 g_b36 O_kb36 g_b12 g_b9 E_b1 F_heap_b1 F_size_b1 V_b36 E_b12 F_deadline_b12 F_position_b12 E_b9 F_deadline_b9 F_position_b9 ne_b1_b36 ne_b1_b12 ne_b1_b9 (Ne.symm ne_b12_b36) (Ne.symm ne_b9_b36) (Ne.symm ne_b9_b12) hk139_41) hZ (hw _ (List.mem_of_getElem? (i := 57) rfl)) (hw _ (List.mem_of_getElem? (i := 2) rfl)) (by decide) (by decide)) q42a q42c (g := (mkF m 139 #[.val (.int p0), .val (.long q1), .second, .val (.long q2), .second, .val (.long q3), .second, .val (.long q4), .second, .val (.ref b1), .val (.ref b3), .val (.ref b6), .val (.ref b9), .val (.ref b12), .unset, .unset] [(.ref b12), (.ref b1)])) rfl (by rw [hml]; rfl) (Steps.refl _) (argsL := [(.ref b12)]) (rest := []) (lenOf pd_8 rfl) rfl (by show 2 * 0 + _ ≤ _; exact Nat.le_of_eq rfl) (hb hby at_139) (fun _ _ => ⟨rfl, e40, (by decide : 11 + 0 ≤ _), (by decide : 58 + 0 ≤ _)⟩)
        dsimp only [Pt.U, Pt.locs, Pt.cells, Pt.slots] at X42 l42 y42 z42 st42 hQ42
        subst l42 y42 z42
        obtain ⟨rfl, N42q, K42, q42_0, q42_1, q42_2, q42_3, q42_4, q42_5, q42_6, q42_7, q42_8, q42_9⟩ := hQ42
        have V_b2 := V_b2.keep K42 (ninS (Ne.symm ne_b1_b2) (ninS ne_b2_b36 (ninS ne_b2_b12 (ninS ne_b2_b9 nin0))))
        have E_b3 := E_b3.keep K42
        have F_deadline_b3 := F_deadline_b3.keep K42 (ninS (Ne.symm ne_b1_b3) (ninS ne_b3_b36 (ninS ne_b3_b12 (ninS ne_b3_b9 nin0))))
        have F_position_b3 := F_position_b3.keep K42 (ninS (Ne.symm ne_b1_b3) (ninS ne_b3_b36 (ninS ne_b3_b12 (ninS ne_b3_b9 nin0))))
        have E_b6 := E_b6.keep K42
        have F_deadline_b6 := F_deadline_b6.keep K42 (ninS (Ne.symm ne_b1_b6) (ninS ne_b6_b36 (ninS ne_b6_b12 (ninS ne_b6_b9 nin0))))
        have F_position_b6 := F_position_b6.keep K42 (ninS (Ne.symm ne_b1_b6) (ninS ne_b6_b36 (ninS ne_b6_b12 (ninS ne_b6_b9 nin0))))
        have E_b1 := q42_0
        have F_heap_b1 := q42_1
        have F_size_b1 := q42_2
        have V_b36 := q42_3
        have E_b12 := q42_4
        have F_deadline_b12 := q42_5
        have F_position_b12 := q42_6
        have E_b9 := q42_7
        have F_deadline_b9 := q42_8
        have F_position_b9 := q42_9
        have Kp := Kp.trans K42 (allS (Or.inr sz_b1) (allS (Or.inr sz_b36) (allS (Or.inr sz_b12) (allS (Or.inr sz_b9) all0))))
        have Zn := Nat.le_trans Zn K42.1
        have N42 := Fr.app N40 N42q
        refine Run.st (S' := T42.setTop (mkF m 159 #[.val (.int p0), .val (.long q1), .second, .val (.long q2), .second, .val (.long q3), .second, .val (.long q4), .second, .val (.ref b1), .val (.ref b3), .val (.ref b6), .val (.ref b9), .val (.ref b12), .val (.ref b12), .unset] [])) (fun _ k => st42.trans (XS.lload X42.here hx rfl (hb hby at_142) rfl (XS.lload X42.here hx rfl (hb hby at_144) rfl (XS.lcmp X42.here hx rfl (hb hby at_146) rfl (XS.ifNo X42.here hx rfl (hb hby at_147) rfl (lcYes (Jvm.Free.XT.ll_ge_f (show q4 < q3 from hk139_41))) (XS.aload X42.here hx rfl (hb hby at_150) rfl rfl (XS.goto X42.here hx rfl (pc0 := 152) (pc' := 157) rfl (hb hby at_152) (by decide) (by decide) (XS.astore X42.here hx rfl (hb hby at_157) rfl rfl (l' := #[.val (.int p0), .val (.long q1), .second, .val (.long q2), .second, .val (.long q3), .second, .val (.long q4), .second, .val (.ref b1), .val (.ref b3), .val (.ref b6), .val (.ref b9), .val (.ref b12), .val (.ref b12), .unset]) rfl k)))))))) ?_
        refine Run.st (S' := T42.setTop (mkF m 178 #[.val (.int p0), .val (.long q1), .second, .val (.long q2), .second, .val (.long q3), .second, .val (.long q4), .second, .val (.ref b1), .val (.ref b3), .val (.ref b6), .val (.ref b9), .val (.ref b12), .val (.ref b12), .val (.ref b9)] [(.ref b1)])) (fun _ k => XS.lload X42.here hx rfl (hb hby at_159) rfl (XS.lload X42.here hx rfl (hb hby at_161) rfl (XS.lcmp X42.here hx rfl (hb hby at_163) rfl (XS.ifNo X42.here hx rfl (hb hby at_164) rfl (lcYes (Jvm.Free.XT.ll_ge_f (show q4 < q3 from hk139_41))) (XS.aload X42.here hx rfl (hb hby at_167) rfl rfl (XS.goto X42.here hx rfl (pc0 := 169) (pc' := 174) rfl (hb hby at_169) (by decide) (by decide) (XS.astore X42.here hx rfl (hb hby at_174) rfl rfl (l' := #[.val (.int p0), .val (.long q1), .second, .val (.long q2), .second, .val (.long q3), .second, .val (.long q4), .second, .val (.ref b1), .val (.ref b3), .val (.ref b6), .val (.ref b9), .val (.ref b12), .val (.ref b12), .val (.ref b9)]) rfl (XS.aload X42.here hx rfl (hb hby at_176) rfl rfl k)))))))) ?_
        obtain ⟨cq43, kq43, q43a, q43b, q43c⟩ := isOf hZ rfl E_b1
        obtain ⟨_, _, ⟨T43, L43, k43, n43⟩, -, X43, ⟨Lc43, hQ43, l43, y43, z43⟩, st43⟩ := X42.virtualBack hx (y := (⟨"com/example/keys_to_structures/keystostructures/store/ExpiryQueue", "first", "()Lcom/example/keys_to_structures/keystostructures/store/TimedEntry;"⟩ : MethodName)) (z := (⟨"com/example/keys_to_structures/keystostructures/store/ExpiryQueue", "first", "()Lcom/example/keys_to_structures/keystostructures/store/TimedEntry;"⟩ : MethodName)) hown (mvT hZ (hw _ (List.mem_of_getElem? (i := 48) rfl))) (mvT hZ (hw _ (List.mem_of_getElem? (i := 49) rfl))) (notFace_of_selects (args := #[]) (mvT hZ (hw _ (List.mem_of_getElem? (i := 51) rfl)))) (mvT hZ (hw _ (List.mem_of_getElem? (i := 51) rfl))) (mvT hZ (hw _ (List.mem_of_getElem? (i := 50) rfl))) (by decide) (backOf (W := 0) (rmFi2 l Z aV hw [] b1 b36 kb36 b12 (.ref b9) .null T42.heap n0 Zn F_heap_b1 F_size_b1 V_b36) hZ (hw _ (List.mem_of_getElem? (i := 52) rfl)) (hw _ (List.mem_of_getElem? (i := 2) rfl)) (by decide) (by decide)) q43a q43c (g := (mkF m 178 #[.val (.int p0), .val (.long q1), .second, .val (.long q2), .second, .val (.long q3), .second, .val (.long q4), .second, .val (.ref b1), .val (.ref b3), .val (.ref b6), .val (.ref b9), .val (.ref b12), .val (.ref b12), .val (.ref b9)] [(.ref b1)])) rfl (by rw [hml]; rfl) (Steps.refl _) (argsL := []) (rest := []) (lenOf pd_7 rfl) rfl (by show 2 * 0 + _ ≤ _; exact Nat.le_of_eq rfl) (hb hby at_178) (fun _ _ => ⟨rfl, rfl, (by decide : 11 + 0 ≤ _), (by decide : 58 + 0 ≤ _)⟩)
        dsimp only [Pt.U, Pt.locs, Pt.cells, Pt.slots] at X43 l43 y43 z43 st43 hQ43
        subst l43 y43 z43
        obtain ⟨rfl, N43q, e43⟩ := hQ43
        have N43 := Fr.app N42 N43q
        refine Run.st (S' := T43.setTop (mkF m 188 #[.val (.int p0), .val (.long q1), .second, .val (.long q2), .second, .val (.long q3), .second, .val (.long q4), .second, .val (.ref b1), .val (.ref b3), .val (.ref b6), .val (.ref b9), .val (.ref b12), .val (.ref b12), .val (.ref b9)] [(.ref b12)])) (fun _ k => st43.trans (XS.aload X43.here hx rfl (hb hby at_181) rfl rfl (Jvm.RoadKit.acmp (g := (mkF m 183 #[.val (.int p0), .val (.long q1), .second, .val (.long q2), .second, .val (.long q3), .second, .val (.long q4), .second, .val (.ref b1), .val (.ref b3), .val (.ref b6), .val (.ref b9), .val (.ref b12), .val (.ref b12), .val (.ref b9)] [(.ref b12), (.ref b12)])) X43 hx rfl rfl rfl (pc0 := 183) (pc' := 186) (same := true) rfl (hb hby at_183) rfl (decide_eq_true rfl) (by decide) (by decide) (XS.aload X43.here hx rfl (hb hby at_186) rfl rfl k)))) ?_
        obtain ⟨cq44, kq44, q44a, q44b, q44c⟩ := isOf hZ e43 E_b12
        obtain ⟨_, _, ⟨T44, L44, k44, n44⟩, -, X44, ⟨Lc44, hQ44, l44, y44, z44⟩, st44⟩ := X43.virtualBack hx (y := (⟨"com/example/keys_to_structures/keystostructures/store/TimedEntry", "position", "()I"⟩ : MethodName)) (z := (⟨"com/example/keys_to_structures/keystostructures/store/TimedEntry", "position", "()I"⟩ : MethodName)) hown (mvT hZ (hw _ (List.mem_of_getElem? (i := 74) rfl))) (mvT hZ (hw _ (List.mem_of_getElem? (i := 75) rfl))) (notFace_of_selects (args := #[]) (mvT hZ (hw _ (List.mem_of_getElem? (i := 77) rfl)))) (mvT hZ (hw _ (List.mem_of_getElem? (i := 77) rfl))) (mvT hZ (hw _ (List.mem_of_getElem? (i := 76) rfl))) (by decide) (backOf (W := 0) (rmPo l Z aV hw [] b12 (0 : Int32) T42.heap n0 Zn F_position_b12) hZ (hw _ (List.mem_of_getElem? (i := 78) rfl)) (hw _ (List.mem_of_getElem? (i := 15) rfl)) (by decide) (by decide)) q44a q44c (g := (mkF m 188 #[.val (.int p0), .val (.long q1), .second, .val (.long q2), .second, .val (.long q3), .second, .val (.long q4), .second, .val (.ref b1), .val (.ref b3), .val (.ref b6), .val (.ref b9), .val (.ref b12), .val (.ref b12), .val (.ref b9)] [(.ref b12)])) rfl (by rw [hml]; rfl) (Steps.refl _) (argsL := []) (rest := []) (lenOf pd_9 rfl) rfl (by show 2 * 0 + _ ≤ _; exact Nat.le_of_eq rfl) (hb hby at_188) (fun _ _ => ⟨rfl, e43, (by decide : 11 + 0 ≤ _), (by decide : 58 + 0 ≤ _)⟩)
        dsimp only [Pt.U, Pt.locs, Pt.cells, Pt.slots] at X44 l44 y44 z44 st44 hQ44
        subst l44 y44 z44
        obtain ⟨rfl, N44q, e44⟩ := hQ44
        have N44 := Fr.app N43 N44q
        refine Run.st (S' := T44.setTop (mkF m 196 #[.val (.int p0), .val (.long q1), .second, .val (.long q2), .second, .val (.long q3), .second, .val (.long q4), .second, .val (.ref b1), .val (.ref b3), .val (.ref b6), .val (.ref b9), .val (.ref b12), .val (.ref b12), .val (.ref b9)] [(.ref b9)])) (fun _ k => st44.trans (XS.ifNo X44.here hx rfl (hb hby at_191) rfl ((if0 _ _).trans (teq (show (0 : Int32) = (0 : Int32) from (by decide))).2) (XS.aload X44.here hx rfl (hb hby at_194) rfl rfl k))) ?_
        obtain ⟨cq45, kq45, q45a, q45b, q45c⟩ := isOf hZ e44 E_b9
        obtain ⟨_, _, ⟨T45, L45, k45, n45⟩, -, X45, ⟨Lc45, hQ45, l45, y45, z45⟩, st45⟩ := X44.virtualBack hx (y := (⟨"com/example/keys_to_structures/keystostructures/store/TimedEntry", "position", "()I"⟩ : MethodName)) (z := (⟨"com/example/keys_to_structures/keystostructures/store/TimedEntry", "position", "()I"⟩ : MethodName)) hown (mvT hZ (hw _ (List.mem_of_getElem? (i := 74) rfl))) (mvT hZ (hw _ (List.mem_of_getElem? (i := 75) rfl))) (notFace_of_selects (args := #[]) (mvT hZ (hw _ (List.mem_of_getElem? (i := 77) rfl)))) (mvT hZ (hw _ (List.mem_of_getElem? (i := 77) rfl))) (mvT hZ (hw _ (List.mem_of_getElem? (i := 76) rfl))) (by decide) (backOf (W := 0) (rmPo l Z aV hw [] b9 (1 : Int32) T42.heap n0 Zn F_position_b9) hZ (hw _ (List.mem_of_getElem? (i := 78) rfl)) (hw _ (List.mem_of_getElem? (i := 15) rfl)) (by decide) (by decide)) q45a q45c (g := (mkF m 196 #[.val (.int p0), .val (.long q1), .second, .val (.long q2), .second, .val (.long q3), .second, .val (.long q4), .second, .val (.ref b1), .val (.ref b3), .val (.ref b6), .val (.ref b9), .val (.ref b12), .val (.ref b12), .val (.ref b9)] [(.ref b9)])) rfl (by rw [hml]; rfl) (Steps.refl _) (argsL := []) (rest := []) (lenOf pd_9 rfl) rfl (by show 2 * 0 + _ ≤ _; exact Nat.le_of_eq rfl) (hb hby at_196) (fun _ _ => ⟨rfl, e44, (by decide : 11 + 0 ≤ _), (by decide : 58 + 0 ≤ _)⟩)
        dsimp only [Pt.U, Pt.locs, Pt.cells, Pt.slots] at X45 l45 y45 z45 st45 hQ45
        subst l45 y45 z45
        obtain ⟨rfl, N45q, e45⟩ := hQ45
        have N45 := Fr.app N44 N45q
        refine Run.st (S' := T45.setTop (mkF m 207 #[.val (.int p0), .val (.long q1), .second, .val (.long q2), .second, .val (.long q3), .second, .val (.long q4), .second, .val (.ref b1), .val (.ref b3), .val (.ref b6), .val (.ref b9), .val (.ref b12), .val (.ref b12), .val (.ref b9)] [(.ref b1)])) (fun _ k => st45.trans (XS.iconst X45.here hx rfl (hb hby at_199) (XS.icmpYes X45.here hx rfl (pc0 := 200) (pc' := 205) rfl (hb hby at_200) rfl (teq (show (1 : Int32) = (1 : Int32) from (by decide))).1 (by decide) (by decide) (XS.aload X45.here hx rfl (hb hby at_205) rfl rfl k)))) ?_
        obtain ⟨cq46, kq46, q46a, q46b, q46c⟩ := isOf hZ e45 E_b1
        obtain ⟨_, _, ⟨T46, L46, k46, n46⟩, -, X46, ⟨Lc46, hQ46, l46, y46, z46⟩, st46⟩ := X45.virtualBack hx (y := (⟨"com/example/keys_to_structures/keystostructures/store/ExpiryQueue", "clear", "()V"⟩ : MethodName)) (z := (⟨"com/example/keys_to_structures/keystostructures/store/ExpiryQueue", "clear", "()V"⟩ : MethodName)) hown (mvT hZ (hw _ (List.mem_of_getElem? (i := 41) rfl))) (mvT hZ (hw _ (List.mem_of_getElem? (i := 42) rfl))) (notFace_of_selects (args := #[]) (mvT hZ (hw _ (List.mem_of_getElem? (i := 44) rfl)))) (mvT hZ (hw _ (List.mem_of_getElem? (i := 44) rfl))) (mvT hZ (hw _ (List.mem_of_getElem? (i := 43) rfl))) (by decide) (backOf (W := 0) (rmClr l Z aV hw [] b1 b36 (2 : Int32) T42.heap n0 Zn g_b1 E_b1 F_heap_b1 F_size_b1) hZ (hw _ (List.mem_of_getElem? (i := 45) rfl)) (hw _ (List.mem_of_getElem? (i := 2) rfl)) (by decide) (by decide)) q46a q46c (g := (mkF m 207 #[.val (.int p0), .val (.long q1), .second, .val (.long q2), .second, .val (.long q3), .second, .val (.long q4), .second, .val (.ref b1), .val (.ref b3), .val (.ref b6), .val (.ref b9), .val (.ref b12), .val (.ref b12), .val (.ref b9)] [(.ref b1)])) rfl (by rw [hml]; rfl) (Steps.refl _) (argsL := []) (rest := []) (lenOf pd_5 rfl) rfl (by show 2 * 0 + _ ≤ _; exact Nat.le_of_eq rfl) (hb hby at_207) (fun _ _ => ⟨rfl, e45, (by decide : 11 + 1 ≤ _), (by decide : 58 + 16 ≤ _)⟩)
        dsimp only [Pt.U, Pt.locs, Pt.cells, Pt.slots] at X46 l46 y46 z46 st46 hQ46
        subst l46 y46 z46
        obtain ⟨b46, kb46, rfl, N46q, K46, g_b46, z_b46, O_kb46, q46_0, q46_1, q46_2, q46_3⟩ := hQ46
        have ne_b1_b46 : b1 ≠ b46 := Nat.ne_of_lt (Nat.lt_of_lt_of_le E_b1.lt z_b46)
        have ne_b2_b46 : b2 ≠ b46 := Nat.ne_of_lt (Nat.lt_of_lt_of_le V_b2.lt z_b46)
        have ne_b3_b46 : b3 ≠ b46 := Nat.ne_of_lt (Nat.lt_of_lt_of_le E_b3.lt z_b46)
        have ne_b6_b46 : b6 ≠ b46 := Nat.ne_of_lt (Nat.lt_of_lt_of_le E_b6.lt z_b46)
        have ne_b9_b46 : b9 ≠ b46 := Nat.ne_of_lt (Nat.lt_of_lt_of_le E_b9.lt z_b46)
        have ne_b12_b46 : b12 ≠ b46 := Nat.ne_of_lt (Nat.lt_of_lt_of_le E_b12.lt z_b46)
        have ne_b36_b46 : b36 ≠ b46 := Nat.ne_of_lt (Nat.lt_of_lt_of_le V_b36.lt z_b46)
        have sz_b46 : h0.size ≤ b46 := Nat.le_trans Kp.1 z_b46
        have V_b2 := V_b2.keep K46 (ninS (Ne.symm ne_b1_b2) nin0)
        have E_b3 := E_b3.keep K46
        have F_deadline_b3 := F_deadline_b3.keep K46 (ninS (Ne.symm ne_b1_b3) nin0)
        have F_position_b3 := F_position_b3.keep K46 (ninS (Ne.symm ne_b1_b3) nin0)
        have E_b6 := E_b6.keep K46
        have F_deadline_b6 := F_deadline_b6.keep K46 (ninS (Ne.symm ne_b1_b6) nin0)
        have F_position_b6 := F_position_b6.keep K46 (ninS (Ne.symm ne_b1_b6) nin0)
        have E_b9 := E_b9.keep K46
        have F_deadline_b9 := F_deadline_b9.keep K46 (ninS (Ne.symm ne_b1_b9) nin0)
        have F_position_b9 := F_position_b9.keep K46 (ninS (Ne.symm ne_b1_b9) nin0)
        have E_b12 := E_b12.keep K46
        have F_deadline_b12 := F_deadline_b12.keep K46 (ninS (Ne.symm ne_b1_b12) nin0)
        have F_position_b12 := F_position_b12.keep K46 (ninS (Ne.symm ne_b1_b12) nin0)
        have V_b36 := V_b36.keep K46 (ninS (Ne.symm ne_b1_b36) nin0)
        have E_b1 := q46_0
        have F_heap_b1 := q46_1
        have F_size_b1 := q46_2
        have V_b46 := q46_3
        have Kp := Kp.trans K46 (allS (Or.inr sz_b1) all0)
        have Zn := Nat.le_trans Zn K46.1
        have N46 := Fr.app N45 N46q
        refine Run.st (S' := T46.setTop (mkF m 212 #[.val (.int p0), .val (.long q1), .second, .val (.long q2), .second, .val (.long q3), .second, .val (.long q4), .second, .val (.ref b1), .val (.ref b3), .val (.ref b6), .val (.ref b9), .val (.ref b12), .val (.ref b12), .val (.ref b9)] [(.ref b1)])) (fun _ k => st46.trans (XS.aload X46.here hx rfl (hb hby at_210) rfl rfl k)) ?_
        obtain ⟨cq47, kq47, q47a, q47b, q47c⟩ := isOf hZ rfl E_b1
        obtain ⟨_, _, ⟨T47, L47, k47, n47⟩, -, X47, ⟨Lc47, hQ47, l47, y47, z47⟩, st47⟩ := X46.virtualBack hx (y := (⟨"com/example/keys_to_structures/keystostructures/store/ExpiryQueue", "first", "()Lcom/example/keys_to_structures/keystostructures/store/TimedEntry;"⟩ : MethodName)) (z := (⟨"com/example/keys_to_structures/keystostructures/store/ExpiryQueue", "first", "()Lcom/example/keys_to_structures/keystostructures/store/TimedEntry;"⟩ : MethodName)) hown (mvT hZ (hw _ (List.mem_of_getElem? (i := 48) rfl))) (mvT hZ (hw _ (List.mem_of_getElem? (i := 49) rfl))) (notFace_of_selects (args := #[]) (mvT hZ (hw _ (List.mem_of_getElem? (i := 51) rfl)))) (mvT hZ (hw _ (List.mem_of_getElem? (i := 51) rfl))) (mvT hZ (hw _ (List.mem_of_getElem? (i := 50) rfl))) (by decide) (backOf (W := 0) (rmFi0 l Z aV hw [] b1 b46 kb46 .null .null .null T46.heap n0 Zn F_heap_b1 F_size_b1 V_b46) hZ (hw _ (List.mem_of_getElem? (i := 52) rfl)) (hw _ (List.mem_of_getElem? (i := 2) rfl)) (by decide) (by decide)) q47a q47c (g := (mkF m 212 #[.val (.int p0), .val (.long q1), .second, .val (.long q2), .second, .val (.long q3), .second, .val (.long q4), .second, .val (.ref b1), .val (.ref b3), .val (.ref b6), .val (.ref b9), .val (.ref b12), .val (.ref b12), .val (.ref b9)] [(.ref b1)])) rfl (by rw [hml]; rfl) (Steps.refl _) (argsL := []) (rest := []) (lenOf pd_7 rfl) rfl (by show 2 * 0 + _ ≤ _; exact Nat.le_of_eq rfl) (hb hby at_212) (fun _ _ => ⟨rfl, rfl, (by decide : 12 + 0 ≤ _), (by decide : 74 + 0 ≤ _)⟩)
        dsimp only [Pt.U, Pt.locs, Pt.cells, Pt.slots] at X47 l47 y47 z47 st47 hQ47
        subst l47 y47 z47
        obtain ⟨rfl, N47q, e47⟩ := hQ47
        have N47 := Fr.app N46 N47q
        refine Run.st (S' := T47.setTop (mkF m 223 #[.val (.int p0), .val (.long q1), .second, .val (.long q2), .second, .val (.long q3), .second, .val (.long q4), .second, .val (.ref b1), .val (.ref b3), .val (.ref b6), .val (.ref b9), .val (.ref b12), .val (.ref b12), .val (.ref b9)] [(.int (1 : Int32))])) (fun _ k => st47.trans (XS.ifnonnullNo X47.here hx rfl (hb hby at_215) rfl (XS.iconst X47.here hx rfl (hb hby at_218) (XS.goto X47.here hx rfl (pc0 := 219) (pc' := 223) rfl (hb hby at_219) (by decide) (by decide) k)))) ?_
        refine Run.out X47 hx Bd.notSynchronized Bd.returns rfl (Or.inl ⟨rfl, by simp, _, rfl⟩) (hb hby at_223) (by decide) (by decide) ?_
        rw [e47]
        exact ⟨rfl, N47⟩
      · obtain ⟨cq48, kq48, q48a, q48b, q48c⟩ := isOf hZ e40 E_b1
        obtain ⟨_, _, ⟨T48, L48, k48, n48⟩, -, X48, ⟨Lc48, hQ48, l48, y48, z48⟩, st48⟩ := X40.virtualBack hx (y := (⟨"com/example/keys_to_structures/keystostructures/store/ExpiryQueue", "add", "(Lcom/example/keys_to_structures/keystostructures/store/TimedEntry;)V"⟩ : MethodName)) (z := (⟨"com/example/keys_to_structures/keystostructures/store/ExpiryQueue", "add", "(Lcom/example/keys_to_structures/keystostructures/store/TimedEntry;)V"⟩ : MethodName)) hown (mvT hZ (hw _ (List.mem_of_getElem? (i := 53) rfl))) (mvT hZ (hw _ (List.mem_of_getElem? (i := 54) rfl))) (notFace_of_selects (args := #[]) (mvT hZ (hw _ (List.mem_of_getElem? (i := 56) rfl)))) (mvT hZ (hw _ (List.mem_of_getElem? (i := 56) rfl))) (mvT hZ (hw _ (List.mem_of_getElem? (i := 55) rfl))) (by decide) (backOf (W := 0) (rmAd1 l Z aV hw [] b1 b12 b36 kb36 .null .null q4 (0 : Int32) b9 q3 (0 : Int32) T38.heap n0 Zn g_b1 g_b36 O_kb36 g_b12 g_b9 E_b1 F_heap_b1 F_size_b1 V_b36 E_b12 F_deadline_b12 F_position_b12 E_b9 F_deadline_b9 F_position_b9 ne_b1_b36 ne_b1_b12 ne_b1_b9 (Ne.symm ne_b12_b36) (Ne.symm ne_b9_b36) (Ne.symm ne_b9_b12) hk139_41) hZ (hw _ (List.mem_of_getElem? (i := 57) rfl)) (hw _ (List.mem_of_getElem? (i := 2) rfl)) (by decide) (by decide)) q48a q48c (g := (mkF m 139 #[.val (.int p0), .val (.long q1), .second, .val (.long q2), .second, .val (.long q3), .second, .val (.long q4), .second, .val (.ref b1), .val (.ref b3), .val (.ref b6), .val (.ref b9), .val (.ref b12), .unset, .unset] [(.ref b12), (.ref b1)])) rfl (by rw [hml]; rfl) (Steps.refl _) (argsL := [(.ref b12)]) (rest := []) (lenOf pd_8 rfl) rfl (by show 2 * 0 + _ ≤ _; exact Nat.le_of_eq rfl) (hb hby at_139) (fun _ _ => ⟨rfl, e40, (by decide : 11 + 0 ≤ _), (by decide : 58 + 0 ≤ _)⟩)
        dsimp only [Pt.U, Pt.locs, Pt.cells, Pt.slots] at X48 l48 y48 z48 st48 hQ48
        subst l48 y48 z48
        obtain ⟨rfl, N48q, K48, q48_0, q48_1, q48_2, q48_3, q48_4, q48_5, q48_6⟩ := hQ48
        have V_b2 := V_b2.keep K48 (ninS (Ne.symm ne_b1_b2) (ninS ne_b2_b36 (ninS ne_b2_b12 nin0)))
        have E_b3 := E_b3.keep K48
        have F_deadline_b3 := F_deadline_b3.keep K48 (ninS (Ne.symm ne_b1_b3) (ninS ne_b3_b36 (ninS ne_b3_b12 nin0)))
        have F_position_b3 := F_position_b3.keep K48 (ninS (Ne.symm ne_b1_b3) (ninS ne_b3_b36 (ninS ne_b3_b12 nin0)))
        have E_b6 := E_b6.keep K48
        have F_deadline_b6 := F_deadline_b6.keep K48 (ninS (Ne.symm ne_b1_b6) (ninS ne_b6_b36 (ninS ne_b6_b12 nin0)))
        have F_position_b6 := F_position_b6.keep K48 (ninS (Ne.symm ne_b1_b6) (ninS ne_b6_b36 (ninS ne_b6_b12 nin0)))
        have E_b9 := E_b9.keep K48
        have F_deadline_b9 := F_deadline_b9.keep K48 (ninS (Ne.symm ne_b1_b9) (ninS ne_b9_b36 (ninS ne_b9_b12 nin0)))
        have F_position_b9 := F_position_b9.keep K48 (ninS (Ne.symm ne_b1_b9) (ninS ne_b9_b36 (ninS ne_b9_b12 nin0)))
        have E_b1 := q48_0
        have F_heap_b1 := q48_1
        have F_size_b1 := q48_2
        have V_b36 := q48_3
        have E_b12 := q48_4
        have F_deadline_b12 := q48_5
        have F_position_b12 := q48_6
        have Kp := Kp.trans K48 (allS (Or.inr sz_b1) (allS (Or.inr sz_b36) (allS (Or.inr sz_b12) all0)))
        have Zn := Nat.le_trans Zn K48.1
        have N48 := Fr.app N40 N48q
        refine Run.st (S' := T48.setTop (mkF m 161 #[.val (.int p0), .val (.long q1), .second, .val (.long q2), .second, .val (.long q3), .second, .val (.long q4), .second, .val (.ref b1), .val (.ref b3), .val (.ref b6), .val (.ref b9), .val (.ref b12), .val (.ref b9), .unset] [(.long q4)])) (fun _ k => st48.trans (XS.lload X48.here hx rfl (hb hby at_142) rfl (XS.lload X48.here hx rfl (hb hby at_144) rfl (XS.lcmp X48.here hx rfl (hb hby at_146) rfl (XS.ifYes X48.here hx rfl (pc0 := 147) (pc' := 155) rfl (hb hby at_147) rfl (lcYes (Jvm.Free.XT.ll_ge_t (show ¬ (q4 < q3) from hk139_41))) (by decide) (by decide) (XS.aload X48.here hx rfl (hb hby at_155) rfl rfl (XS.astore X48.here hx rfl (hb hby at_157) rfl rfl (l' := #[.val (.int p0), .val (.long q1), .second, .val (.long q2), .second, .val (.long q3), .second, .val (.long q4), .second, .val (.ref b1), .val (.ref b3), .val (.ref b6), .val (.ref b9), .val (.ref b12), .val (.ref b9), .unset]) rfl (XS.lload X48.here hx rfl (hb hby at_159) rfl k)))))))) ?_
        refine Run.st (S' := T48.setTop (mkF m 178 #[.val (.int p0), .val (.long q1), .second, .val (.long q2), .second, .val (.long q3), .second, .val (.long q4), .second, .val (.ref b1), .val (.ref b3), .val (.ref b6), .val (.ref b9), .val (.ref b12), .val (.ref b9), .val (.ref b12)] [(.ref b1)])) (fun _ k => XS.lload X48.here hx rfl (hb hby at_161) rfl (XS.lcmp X48.here hx rfl (hb hby at_163) rfl (XS.ifYes X48.here hx rfl (pc0 := 164) (pc' := 172) rfl (hb hby at_164) rfl (lcYes (Jvm.Free.XT.ll_ge_t (show ¬ (q4 < q3) from hk139_41))) (by decide) (by decide) (XS.aload X48.here hx rfl (hb hby at_172) rfl rfl (XS.astore X48.here hx rfl (hb hby at_174) rfl rfl (l' := #[.val (.int p0), .val (.long q1), .second, .val (.long q2), .second, .val (.long q3), .second, .val (.long q4), .second, .val (.ref b1), .val (.ref b3), .val (.ref b6), .val (.ref b9), .val (.ref b12), .val (.ref b9), .val (.ref b12)]) rfl (XS.aload X48.here hx rfl (hb hby at_176) rfl rfl k)))))) ?_
        obtain ⟨cq49, kq49, q49a, q49b, q49c⟩ := isOf hZ rfl E_b1
        obtain ⟨_, _, ⟨T49, L49, k49, n49⟩, -, X49, ⟨Lc49, hQ49, l49, y49, z49⟩, st49⟩ := X48.virtualBack hx (y := (⟨"com/example/keys_to_structures/keystostructures/store/ExpiryQueue", "first", "()Lcom/example/keys_to_structures/keystostructures/store/TimedEntry;"⟩ : MethodName)) (z := (⟨"com/example/keys_to_structures/keystostructures/store/ExpiryQueue", "first", "()Lcom/example/keys_to_structures/keystostructures/store/TimedEntry;"⟩ : MethodName)) hown (mvT hZ (hw _ (List.mem_of_getElem? (i := 48) rfl))) (mvT hZ (hw _ (List.mem_of_getElem? (i := 49) rfl))) (notFace_of_selects (args := #[]) (mvT hZ (hw _ (List.mem_of_getElem? (i := 51) rfl)))) (mvT hZ (hw _ (List.mem_of_getElem? (i := 51) rfl))) (mvT hZ (hw _ (List.mem_of_getElem? (i := 50) rfl))) (by decide) (backOf (W := 0) (rmFi2 l Z aV hw [] b1 b36 kb36 b9 (.ref b12) .null T48.heap n0 Zn F_heap_b1 F_size_b1 V_b36) hZ (hw _ (List.mem_of_getElem? (i := 52) rfl)) (hw _ (List.mem_of_getElem? (i := 2) rfl)) (by decide) (by decide)) q49a q49c (g := (mkF m 178 #[.val (.int p0), .val (.long q1), .second, .val (.long q2), .second, .val (.long q3), .second, .val (.long q4), .second, .val (.ref b1), .val (.ref b3), .val (.ref b6), .val (.ref b9), .val (.ref b12), .val (.ref b9), .val (.ref b12)] [(.ref b1)])) rfl (by rw [hml]; rfl) (Steps.refl _) (argsL := []) (rest := []) (lenOf pd_7 rfl) rfl (by show 2 * 0 + _ ≤ _; exact Nat.le_of_eq rfl) (hb hby at_178) (fun _ _ => ⟨rfl, rfl, (by decide : 11 + 0 ≤ _), (by decide : 58 + 0 ≤ _)⟩)
        dsimp only [Pt.U, Pt.locs, Pt.cells, Pt.slots] at X49 l49 y49 z49 st49 hQ49
        subst l49 y49 z49
        obtain ⟨rfl, N49q, e49⟩ := hQ49
        have N49 := Fr.app N48 N49q
        refine Run.st (S' := T49.setTop (mkF m 188 #[.val (.int p0), .val (.long q1), .second, .val (.long q2), .second, .val (.long q3), .second, .val (.long q4), .second, .val (.ref b1), .val (.ref b3), .val (.ref b6), .val (.ref b9), .val (.ref b12), .val (.ref b9), .val (.ref b12)] [(.ref b9)])) (fun _ k => st49.trans (XS.aload X49.here hx rfl (hb hby at_181) rfl rfl (Jvm.RoadKit.acmp (g := (mkF m 183 #[.val (.int p0), .val (.long q1), .second, .val (.long q2), .second, .val (.long q3), .second, .val (.long q4), .second, .val (.ref b1), .val (.ref b3), .val (.ref b6), .val (.ref b9), .val (.ref b12), .val (.ref b9), .val (.ref b12)] [(.ref b9), (.ref b9)])) X49 hx rfl rfl rfl (pc0 := 183) (pc' := 186) (same := true) rfl (hb hby at_183) rfl (decide_eq_true rfl) (by decide) (by decide) (XS.aload X49.here hx rfl (hb hby at_186) rfl rfl k)))) ?_
        obtain ⟨cq50, kq50, q50a, q50b, q50c⟩ := isOf hZ e49 E_b9
        obtain ⟨_, _, ⟨T50, L50, k50, n50⟩, -, X50, ⟨Lc50, hQ50, l50, y50, z50⟩, st50⟩ := X49.virtualBack hx (y := (⟨"com/example/keys_to_structures/keystostructures/store/TimedEntry", "position", "()I"⟩ : MethodName)) (z := (⟨"com/example/keys_to_structures/keystostructures/store/TimedEntry", "position", "()I"⟩ : MethodName)) hown (mvT hZ (hw _ (List.mem_of_getElem? (i := 74) rfl))) (mvT hZ (hw _ (List.mem_of_getElem? (i := 75) rfl))) (notFace_of_selects (args := #[]) (mvT hZ (hw _ (List.mem_of_getElem? (i := 77) rfl)))) (mvT hZ (hw _ (List.mem_of_getElem? (i := 77) rfl))) (mvT hZ (hw _ (List.mem_of_getElem? (i := 76) rfl))) (by decide) (backOf (W := 0) (rmPo l Z aV hw [] b9 (0 : Int32) T48.heap n0 Zn F_position_b9) hZ (hw _ (List.mem_of_getElem? (i := 78) rfl)) (hw _ (List.mem_of_getElem? (i := 15) rfl)) (by decide) (by decide)) q50a q50c (g := (mkF m 188 #[.val (.int p0), .val (.long q1), .second, .val (.long q2), .second, .val (.long q3), .second, .val (.long q4), .second, .val (.ref b1), .val (.ref b3), .val (.ref b6), .val (.ref b9), .val (.ref b12), .val (.ref b9), .val (.ref b12)] [(.ref b9)])) rfl (by rw [hml]; rfl) (Steps.refl _) (argsL := []) (rest := []) (lenOf pd_9 rfl) rfl (by show 2 * 0 + _ ≤ _; exact Nat.le_of_eq rfl) (hb hby at_188) (fun _ _ => ⟨rfl, e49, (by decide : 11 + 0 ≤ _), (by decide : 58 + 0 ≤ _)⟩)
        dsimp only [Pt.U, Pt.locs, Pt.cells, Pt.slots] at X50 l50 y50 z50 st50 hQ50
        subst l50 y50 z50
        obtain ⟨rfl, N50q, e50⟩ := hQ50
        have N50 := Fr.app N49 N50q
        refine Run.st (S' := T50.setTop (mkF m 196 #[.val (.int p0), .val (.long q1), .second, .val (.long q2), .second, .val (.long q3), .second, .val (.long q4), .second, .val (.ref b1), .val (.ref b3), .val (.ref b6), .val (.ref b9), .val (.ref b12), .val (.ref b9), .val (.ref b12)] [(.ref b12)])) (fun _ k => st50.trans (XS.ifNo X50.here hx rfl (hb hby at_191) rfl ((if0 _ _).trans (teq (show (0 : Int32) = (0 : Int32) from (by decide))).2) (XS.aload X50.here hx rfl (hb hby at_194) rfl rfl k))) ?_
        obtain ⟨cq51, kq51, q51a, q51b, q51c⟩ := isOf hZ e50 E_b12
        obtain ⟨_, _, ⟨T51, L51, k51, n51⟩, -, X51, ⟨Lc51, hQ51, l51, y51, z51⟩, st51⟩ := X50.virtualBack hx (y := (⟨"com/example/keys_to_structures/keystostructures/store/TimedEntry", "position", "()I"⟩ : MethodName)) (z := (⟨"com/example/keys_to_structures/keystostructures/store/TimedEntry", "position", "()I"⟩ : MethodName)) hown (mvT hZ (hw _ (List.mem_of_getElem? (i := 74) rfl))) (mvT hZ (hw _ (List.mem_of_getElem? (i := 75) rfl))) (notFace_of_selects (args := #[]) (mvT hZ (hw _ (List.mem_of_getElem? (i := 77) rfl)))) (mvT hZ (hw _ (List.mem_of_getElem? (i := 77) rfl))) (mvT hZ (hw _ (List.mem_of_getElem? (i := 76) rfl))) (by decide) (backOf (W := 0) (rmPo l Z aV hw [] b12 (1 : Int32) T48.heap n0 Zn F_position_b12) hZ (hw _ (List.mem_of_getElem? (i := 78) rfl)) (hw _ (List.mem_of_getElem? (i := 15) rfl)) (by decide) (by decide)) q51a q51c (g := (mkF m 196 #[.val (.int p0), .val (.long q1), .second, .val (.long q2), .second, .val (.long q3), .second, .val (.long q4), .second, .val (.ref b1), .val (.ref b3), .val (.ref b6), .val (.ref b9), .val (.ref b12), .val (.ref b9), .val (.ref b12)] [(.ref b12)])) rfl (by rw [hml]; rfl) (Steps.refl _) (argsL := []) (rest := []) (lenOf pd_9 rfl) rfl (by show 2 * 0 + _ ≤ _; exact Nat.le_of_eq rfl) (hb hby at_196) (fun _ _ => ⟨rfl, e50, (by decide : 11 + 0 ≤ _), (by decide : 58 + 0 ≤ _)⟩)
        dsimp only [Pt.U, Pt.locs, Pt.cells, Pt.slots] at X51 l51 y51 z51 st51 hQ51
        subst l51 y51 z51
        obtain ⟨rfl, N51q, e51⟩ := hQ51
        have N51 := Fr.app N50 N51q
        refine Run.st (S' := T51.setTop (mkF m 207 #[.val (.int p0), .val (.long q1), .second, .val (.long q2), .second, .val (.long q3), .second, .val (.long q4), .second, .val (.ref b1), .val (.ref b3), .val (.ref b6), .val (.ref b9), .val (.ref b12), .val (.ref b9), .val (.ref b12)] [(.ref b1)])) (fun _ k => st51.trans (XS.iconst X51.here hx rfl (hb hby at_199) (XS.icmpYes X51.here hx rfl (pc0 := 200) (pc' := 205) rfl (hb hby at_200) rfl (teq (show (1 : Int32) = (1 : Int32) from (by decide))).1 (by decide) (by decide) (XS.aload X51.here hx rfl (hb hby at_205) rfl rfl k)))) ?_
        obtain ⟨cq52, kq52, q52a, q52b, q52c⟩ := isOf hZ e51 E_b1
        obtain ⟨_, _, ⟨T52, L52, k52, n52⟩, -, X52, ⟨Lc52, hQ52, l52, y52, z52⟩, st52⟩ := X51.virtualBack hx (y := (⟨"com/example/keys_to_structures/keystostructures/store/ExpiryQueue", "clear", "()V"⟩ : MethodName)) (z := (⟨"com/example/keys_to_structures/keystostructures/store/ExpiryQueue", "clear", "()V"⟩ : MethodName)) hown (mvT hZ (hw _ (List.mem_of_getElem? (i := 41) rfl))) (mvT hZ (hw _ (List.mem_of_getElem? (i := 42) rfl))) (notFace_of_selects (args := #[]) (mvT hZ (hw _ (List.mem_of_getElem? (i := 44) rfl)))) (mvT hZ (hw _ (List.mem_of_getElem? (i := 44) rfl))) (mvT hZ (hw _ (List.mem_of_getElem? (i := 43) rfl))) (by decide) (backOf (W := 0) (rmClr l Z aV hw [] b1 b36 (2 : Int32) T48.heap n0 Zn g_b1 E_b1 F_heap_b1 F_size_b1) hZ (hw _ (List.mem_of_getElem? (i := 45) rfl)) (hw _ (List.mem_of_getElem? (i := 2) rfl)) (by decide) (by decide)) q52a q52c (g := (mkF m 207 #[.val (.int p0), .val (.long q1), .second, .val (.long q2), .second, .val (.long q3), .second, .val (.long q4), .second, .val (.ref b1), .val (.ref b3), .val (.ref b6), .val (.ref b9), .val (.ref b12), .val (.ref b9), .val (.ref b12)] [(.ref b1)])) rfl (by rw [hml]; rfl) (Steps.refl _) (argsL := []) (rest := []) (lenOf pd_5 rfl) rfl (by show 2 * 0 + _ ≤ _; exact Nat.le_of_eq rfl) (hb hby at_207) (fun _ _ => ⟨rfl, e51, (by decide : 11 + 1 ≤ _), (by decide : 58 + 16 ≤ _)⟩)
        dsimp only [Pt.U, Pt.locs, Pt.cells, Pt.slots] at X52 l52 y52 z52 st52 hQ52
        subst l52 y52 z52
        obtain ⟨b52, kb52, rfl, N52q, K52, g_b52, z_b52, O_kb52, q52_0, q52_1, q52_2, q52_3⟩ := hQ52
        have ne_b1_b52 : b1 ≠ b52 := Nat.ne_of_lt (Nat.lt_of_lt_of_le E_b1.lt z_b52)
        have ne_b2_b52 : b2 ≠ b52 := Nat.ne_of_lt (Nat.lt_of_lt_of_le V_b2.lt z_b52)
        have ne_b3_b52 : b3 ≠ b52 := Nat.ne_of_lt (Nat.lt_of_lt_of_le E_b3.lt z_b52)
        have ne_b6_b52 : b6 ≠ b52 := Nat.ne_of_lt (Nat.lt_of_lt_of_le E_b6.lt z_b52)
        have ne_b9_b52 : b9 ≠ b52 := Nat.ne_of_lt (Nat.lt_of_lt_of_le E_b9.lt z_b52)
        have ne_b12_b52 : b12 ≠ b52 := Nat.ne_of_lt (Nat.lt_of_lt_of_le E_b12.lt z_b52)
        have ne_b36_b52 : b36 ≠ b52 := Nat.ne_of_lt (Nat.lt_of_lt_of_le V_b36.lt z_b52)
        have sz_b52 : h0.size ≤ b52 := Nat.le_trans Kp.1 z_b52
        have V_b2 := V_b2.keep K52 (ninS (Ne.symm ne_b1_b2) nin0)
        have E_b3 := E_b3.keep K52
        have F_deadline_b3 := F_deadline_b3.keep K52 (ninS (Ne.symm ne_b1_b3) nin0)
        have F_position_b3 := F_position_b3.keep K52 (ninS (Ne.symm ne_b1_b3) nin0)
        have E_b6 := E_b6.keep K52
        have F_deadline_b6 := F_deadline_b6.keep K52 (ninS (Ne.symm ne_b1_b6) nin0)
        have F_position_b6 := F_position_b6.keep K52 (ninS (Ne.symm ne_b1_b6) nin0)
        have E_b9 := E_b9.keep K52
        have F_deadline_b9 := F_deadline_b9.keep K52 (ninS (Ne.symm ne_b1_b9) nin0)
        have F_position_b9 := F_position_b9.keep K52 (ninS (Ne.symm ne_b1_b9) nin0)
        have E_b12 := E_b12.keep K52
        have F_deadline_b12 := F_deadline_b12.keep K52 (ninS (Ne.symm ne_b1_b12) nin0)
        have F_position_b12 := F_position_b12.keep K52 (ninS (Ne.symm ne_b1_b12) nin0)
        have V_b36 := V_b36.keep K52 (ninS (Ne.symm ne_b1_b36) nin0)
        have E_b1 := q52_0
        have F_heap_b1 := q52_1
        have F_size_b1 := q52_2
        have V_b52 := q52_3
        have Kp := Kp.trans K52 (allS (Or.inr sz_b1) all0)
        have Zn := Nat.le_trans Zn K52.1
        have N52 := Fr.app N51 N52q
        refine Run.st (S' := T52.setTop (mkF m 212 #[.val (.int p0), .val (.long q1), .second, .val (.long q2), .second, .val (.long q3), .second, .val (.long q4), .second, .val (.ref b1), .val (.ref b3), .val (.ref b6), .val (.ref b9), .val (.ref b12), .val (.ref b9), .val (.ref b12)] [(.ref b1)])) (fun _ k => st52.trans (XS.aload X52.here hx rfl (hb hby at_210) rfl rfl k)) ?_
        obtain ⟨cq53, kq53, q53a, q53b, q53c⟩ := isOf hZ rfl E_b1
        obtain ⟨_, _, ⟨T53, L53, k53, n53⟩, -, X53, ⟨Lc53, hQ53, l53, y53, z53⟩, st53⟩ := X52.virtualBack hx (y := (⟨"com/example/keys_to_structures/keystostructures/store/ExpiryQueue", "first", "()Lcom/example/keys_to_structures/keystostructures/store/TimedEntry;"⟩ : MethodName)) (z := (⟨"com/example/keys_to_structures/keystostructures/store/ExpiryQueue", "first", "()Lcom/example/keys_to_structures/keystostructures/store/TimedEntry;"⟩ : MethodName)) hown (mvT hZ (hw _ (List.mem_of_getElem? (i := 48) rfl))) (mvT hZ (hw _ (List.mem_of_getElem? (i := 49) rfl))) (notFace_of_selects (args := #[]) (mvT hZ (hw _ (List.mem_of_getElem? (i := 51) rfl)))) (mvT hZ (hw _ (List.mem_of_getElem? (i := 51) rfl))) (mvT hZ (hw _ (List.mem_of_getElem? (i := 50) rfl))) (by decide) (backOf (W := 0) (rmFi0 l Z aV hw [] b1 b52 kb52 .null .null .null T52.heap n0 Zn F_heap_b1 F_size_b1 V_b52) hZ (hw _ (List.mem_of_getElem? (i := 52) rfl)) (hw _ (List.mem_of_getElem? (i := 2) rfl)) (by decide) (by decide)) q53a q53c (g := (mkF m 212 #[.val (.int p0), .val (.long q1), .second, .val (.long q2), .second, .val (.long q3), .second, .val (.long q4), .second, .val (.ref b1), .val (.ref b3), .val (.ref b6), .val (.ref b9), .val (.ref b12), .val (.ref b9), .val (.ref b12)] [(.ref b1)])) rfl (by rw [hml]; rfl) (Steps.refl _) (argsL := []) (rest := []) (lenOf pd_7 rfl) rfl (by show 2 * 0 + _ ≤ _; exact Nat.le_of_eq rfl) (hb hby at_212) (fun _ _ => ⟨rfl, rfl, (by decide : 12 + 0 ≤ _), (by decide : 74 + 0 ≤ _)⟩)
        dsimp only [Pt.U, Pt.locs, Pt.cells, Pt.slots] at X53 l53 y53 z53 st53 hQ53
        subst l53 y53 z53
        obtain ⟨rfl, N53q, e53⟩ := hQ53
        have N53 := Fr.app N52 N53q
        refine Run.st (S' := T53.setTop (mkF m 223 #[.val (.int p0), .val (.long q1), .second, .val (.long q2), .second, .val (.long q3), .second, .val (.long q4), .second, .val (.ref b1), .val (.ref b3), .val (.ref b6), .val (.ref b9), .val (.ref b12), .val (.ref b9), .val (.ref b12)] [(.int (1 : Int32))])) (fun _ k => st53.trans (XS.ifnonnullNo X53.here hx rfl (hb hby at_215) rfl (XS.iconst X53.here hx rfl (hb hby at_218) (XS.goto X53.here hx rfl (pc0 := 219) (pc' := 223) rfl (hb hby at_219) (by decide) (by decide) k)))) ?_
        refine Run.out X53 hx Bd.notSynchronized Bd.returns rfl (Or.inl ⟨rfl, by simp, _, rfl⟩) (hb hby at_223) (by decide) (by decide) ?_
        rw [e53]
        exact ⟨rfl, N53⟩
  · refine Run.st (S' := T14.setTop (mkF m 77 #[.val (.int p0), .val (.long q1), .second, .val (.long q2), .second, .val (.long q3), .second, .val (.long q4), .second, .val (.ref b1), .val (.ref b3), .val (.ref b6), .val (.ref b9), .val (.ref b12), .unset, .unset] [(.ref b3), (.ref b1)])) (fun _ k => XS.ifNo X14.here hx rfl (hb hby at_70) rfl ((if0 _ _).trans (feq hc70_15).1) (XS.aload X14.here hx rfl (hb hby at_73) rfl rfl (XS.aload X14.here hx rfl (hb hby at_75) rfl rfl k))) ?_
    obtain ⟨cq54, kq54, q54a, q54b, q54c⟩ := isOf hZ rfl E_b1
    obtain ⟨_, _, ⟨T54, L54, k54, n54⟩, -, X54, ⟨Lc54, hQ54, l54, y54, z54⟩, st54⟩ := X14.virtualBack hx (y := (⟨"com/example/keys_to_structures/keystostructures/store/ExpiryQueue", "add", "(Lcom/example/keys_to_structures/keystostructures/store/TimedEntry;)V"⟩ : MethodName)) (z := (⟨"com/example/keys_to_structures/keystostructures/store/ExpiryQueue", "add", "(Lcom/example/keys_to_structures/keystostructures/store/TimedEntry;)V"⟩ : MethodName)) hown (mvT hZ (hw _ (List.mem_of_getElem? (i := 53) rfl))) (mvT hZ (hw _ (List.mem_of_getElem? (i := 54) rfl))) (notFace_of_selects (args := #[]) (mvT hZ (hw _ (List.mem_of_getElem? (i := 56) rfl)))) (mvT hZ (hw _ (List.mem_of_getElem? (i := 56) rfl))) (mvT hZ (hw _ (List.mem_of_getElem? (i := 55) rfl))) (by decide) (backOf (W := 0) (rmAd0 l Z aV hw [] b1 b3 b2 kb2 .null .null .null q1 (0 : Int32) T14.heap n0 Zn g_b1 g_b2 O_kb2 g_b3 E_b1 F_heap_b1 F_size_b1 V_b2 E_b3 F_deadline_b3 F_position_b3 ne_b1_b2 ne_b1_b3 ne_b2_b3) hZ (hw _ (List.mem_of_getElem? (i := 57) rfl)) (hw _ (List.mem_of_getElem? (i := 2) rfl)) (by decide) (by decide)) q54a q54c (g := (mkF m 77 #[.val (.int p0), .val (.long q1), .second, .val (.long q2), .second, .val (.long q3), .second, .val (.long q4), .second, .val (.ref b1), .val (.ref b3), .val (.ref b6), .val (.ref b9), .val (.ref b12), .unset, .unset] [(.ref b3), (.ref b1)])) rfl (by rw [hml]; rfl) (Steps.refl _) (argsL := [(.ref b3)]) (rest := []) (lenOf pd_8 rfl) rfl (by show 2 * 0 + _ ≤ _; exact Nat.le_of_eq rfl) (hb hby at_77) (fun _ _ => ⟨rfl, rfl, (by decide : 10 + 0 ≤ _), (by decide : 42 + 0 ≤ _)⟩)
    dsimp only [Pt.U, Pt.locs, Pt.cells, Pt.slots] at X54 l54 y54 z54 st54 hQ54
    subst l54 y54 z54
    obtain ⟨rfl, N54q, K54, q54_0, q54_1, q54_2, q54_3, q54_4, q54_5, q54_6⟩ := hQ54
    have E_b6 := E_b6.keep K54
    have F_deadline_b6 := F_deadline_b6.keep K54 (ninS (Ne.symm ne_b1_b6) (ninS (Ne.symm ne_b2_b6) (ninS (Ne.symm ne_b3_b6) nin0)))
    have F_position_b6 := F_position_b6.keep K54 (ninS (Ne.symm ne_b1_b6) (ninS (Ne.symm ne_b2_b6) (ninS (Ne.symm ne_b3_b6) nin0)))
    have E_b9 := E_b9.keep K54
    have F_deadline_b9 := F_deadline_b9.keep K54 (ninS (Ne.symm ne_b1_b9) (ninS (Ne.symm ne_b2_b9) (ninS (Ne.symm ne_b3_b9) nin0)))
    have F_position_b9 := F_position_b9.keep K54 (ninS (Ne.symm ne_b1_b9) (ninS (Ne.symm ne_b2_b9) (ninS (Ne.symm ne_b3_b9) nin0)))
    have E_b12 := E_b12.keep K54
    have F_deadline_b12 := F_deadline_b12.keep K54 (ninS (Ne.symm ne_b1_b12) (ninS (Ne.symm ne_b2_b12) (ninS (Ne.symm ne_b3_b12) nin0)))
    have F_position_b12 := F_position_b12.keep K54 (ninS (Ne.symm ne_b1_b12) (ninS (Ne.symm ne_b2_b12) (ninS (Ne.symm ne_b3_b12) nin0)))
    have E_b1 := q54_0
    have F_heap_b1 := q54_1
    have F_size_b1 := q54_2
    have V_b2 := q54_3
    have E_b3 := q54_4
    have F_deadline_b3 := q54_5
    have F_position_b3 := q54_6
    have Kp := Kp.trans K54 (allS (Or.inr sz_b1) (allS (Or.inr sz_b2) (allS (Or.inr sz_b3) all0)))
    have Zn := Nat.le_trans Zn K54.1
    have N54 := Fr.app N14 N54q
    refine Run.st (S' := T54.setTop (mkF m 83 #[.val (.int p0), .val (.long q1), .second, .val (.long q2), .second, .val (.long q3), .second, .val (.long q4), .second, .val (.ref b1), .val (.ref b3), .val (.ref b6), .val (.ref b9), .val (.ref b12), .unset, .unset] [(.int (p0 &&& (2 : Int32)))])) (fun _ k => st54.trans (XS.iloadN X54.here hx rfl (hb hby at_80) rfl (XS.iconst X54.here hx rfl (hb hby at_81) (XS.iand X54.here hx rfl (hb hby at_82) rfl k)))) ?_
    by_cases hc83_55 : (p0 &&& (2 : Int32)) = (0 : Int32)
    · refine Run.st (S' := T54.setTop (mkF m 95 #[.val (.int p0), .val (.long q1), .second, .val (.long q2), .second, .val (.long q3), .second, .val (.long q4), .second, .val (.ref b1), .val (.ref b3), .val (.ref b6), .val (.ref b9), .val (.ref b12), .unset, .unset] [(.ref b1)])) (fun _ k => XS.ifYes X54.here hx rfl (pc0 := 83) (pc' := 93) rfl (hb hby at_83) rfl ((if0 _ _).trans (teq hc83_55).1) (by decide) (by decide) (XS.aload X54.here hx rfl (hb hby at_93) rfl rfl k)) ?_
      obtain ⟨cq56, kq56, q56a, q56b, q56c⟩ := isOf hZ rfl E_b1
      obtain ⟨_, _, ⟨T56, L56, k56, n56⟩, -, X56, ⟨Lc56, hQ56, l56, y56, z56⟩, st56⟩ := X54.virtualBack hx (y := (⟨"com/example/keys_to_structures/keystostructures/store/ExpiryQueue", "clear", "()V"⟩ : MethodName)) (z := (⟨"com/example/keys_to_structures/keystostructures/store/ExpiryQueue", "clear", "()V"⟩ : MethodName)) hown (mvT hZ (hw _ (List.mem_of_getElem? (i := 41) rfl))) (mvT hZ (hw _ (List.mem_of_getElem? (i := 42) rfl))) (notFace_of_selects (args := #[]) (mvT hZ (hw _ (List.mem_of_getElem? (i := 44) rfl)))) (mvT hZ (hw _ (List.mem_of_getElem? (i := 44) rfl))) (mvT hZ (hw _ (List.mem_of_getElem? (i := 43) rfl))) (by decide) (backOf (W := 0) (rmClr l Z aV hw [] b1 b2 (1 : Int32) T54.heap n0 Zn g_b1 E_b1 F_heap_b1 F_size_b1) hZ (hw _ (List.mem_of_getElem? (i := 45) rfl)) (hw _ (List.mem_of_getElem? (i := 2) rfl)) (by decide) (by decide)) q56a q56c (g := (mkF m 95 #[.val (.int p0), .val (.long q1), .second, .val (.long q2), .second, .val (.long q3), .second, .val (.long q4), .second, .val (.ref b1), .val (.ref b3), .val (.ref b6), .val (.ref b9), .val (.ref b12), .unset, .unset] [(.ref b1)])) rfl (by rw [hml]; rfl) (Steps.refl _) (argsL := []) (rest := []) (lenOf pd_5 rfl) rfl (by show 2 * 0 + _ ≤ _; exact Nat.le_of_eq rfl) (hb hby at_95) (fun _ _ => ⟨rfl, rfl, (by decide : 10 + 1 ≤ _), (by decide : 42 + 16 ≤ _)⟩)
      dsimp only [Pt.U, Pt.locs, Pt.cells, Pt.slots] at X56 l56 y56 z56 st56 hQ56
      subst l56 y56 z56
      obtain ⟨b56, kb56, rfl, N56q, K56, g_b56, z_b56, O_kb56, q56_0, q56_1, q56_2, q56_3⟩ := hQ56
      have ne_b1_b56 : b1 ≠ b56 := Nat.ne_of_lt (Nat.lt_of_lt_of_le E_b1.lt z_b56)
      have ne_b2_b56 : b2 ≠ b56 := Nat.ne_of_lt (Nat.lt_of_lt_of_le V_b2.lt z_b56)
      have ne_b3_b56 : b3 ≠ b56 := Nat.ne_of_lt (Nat.lt_of_lt_of_le E_b3.lt z_b56)
      have ne_b6_b56 : b6 ≠ b56 := Nat.ne_of_lt (Nat.lt_of_lt_of_le E_b6.lt z_b56)
      have ne_b9_b56 : b9 ≠ b56 := Nat.ne_of_lt (Nat.lt_of_lt_of_le E_b9.lt z_b56)
      have ne_b12_b56 : b12 ≠ b56 := Nat.ne_of_lt (Nat.lt_of_lt_of_le E_b12.lt z_b56)
      have sz_b56 : h0.size ≤ b56 := Nat.le_trans Kp.1 z_b56
      have V_b2 := V_b2.keep K56 (ninS (Ne.symm ne_b1_b2) nin0)
      have E_b3 := E_b3.keep K56
      have F_deadline_b3 := F_deadline_b3.keep K56 (ninS (Ne.symm ne_b1_b3) nin0)
      have F_position_b3 := F_position_b3.keep K56 (ninS (Ne.symm ne_b1_b3) nin0)
      have E_b6 := E_b6.keep K56
      have F_deadline_b6 := F_deadline_b6.keep K56 (ninS (Ne.symm ne_b1_b6) nin0)
      have F_position_b6 := F_position_b6.keep K56 (ninS (Ne.symm ne_b1_b6) nin0)
      have E_b9 := E_b9.keep K56
      have F_deadline_b9 := F_deadline_b9.keep K56 (ninS (Ne.symm ne_b1_b9) nin0)
      have F_position_b9 := F_position_b9.keep K56 (ninS (Ne.symm ne_b1_b9) nin0)
      have E_b12 := E_b12.keep K56
      have F_deadline_b12 := F_deadline_b12.keep K56 (ninS (Ne.symm ne_b1_b12) nin0)
      have F_position_b12 := F_position_b12.keep K56 (ninS (Ne.symm ne_b1_b12) nin0)
      have E_b1 := q56_0
      have F_heap_b1 := q56_1
      have F_size_b1 := q56_2
      have V_b56 := q56_3
      have Kp := Kp.trans K56 (allS (Or.inr sz_b1) all0)
      have Zn := Nat.le_trans Zn K56.1
      have N56 := Fr.app N54 N56q
      refine Run.st (S' := T56.setTop (mkF m 100 #[.val (.int p0), .val (.long q1), .second, .val (.long q2), .second, .val (.long q3), .second, .val (.long q4), .second, .val (.ref b1), .val (.ref b3), .val (.ref b6), .val (.ref b9), .val (.ref b12), .unset, .unset] [(.ref b1)])) (fun _ k => st56.trans (XS.aload X56.here hx rfl (hb hby at_98) rfl rfl k)) ?_
      obtain ⟨cq57, kq57, q57a, q57b, q57c⟩ := isOf hZ rfl E_b1
      obtain ⟨_, _, ⟨T57, L57, k57, n57⟩, -, X57, ⟨Lc57, hQ57, l57, y57, z57⟩, st57⟩ := X56.virtualBack hx (y := (⟨"com/example/keys_to_structures/keystostructures/store/ExpiryQueue", "first", "()Lcom/example/keys_to_structures/keystostructures/store/TimedEntry;"⟩ : MethodName)) (z := (⟨"com/example/keys_to_structures/keystostructures/store/ExpiryQueue", "first", "()Lcom/example/keys_to_structures/keystostructures/store/TimedEntry;"⟩ : MethodName)) hown (mvT hZ (hw _ (List.mem_of_getElem? (i := 48) rfl))) (mvT hZ (hw _ (List.mem_of_getElem? (i := 49) rfl))) (notFace_of_selects (args := #[]) (mvT hZ (hw _ (List.mem_of_getElem? (i := 51) rfl)))) (mvT hZ (hw _ (List.mem_of_getElem? (i := 51) rfl))) (mvT hZ (hw _ (List.mem_of_getElem? (i := 50) rfl))) (by decide) (backOf (W := 0) (rmFi0 l Z aV hw [] b1 b56 kb56 .null .null .null T56.heap n0 Zn F_heap_b1 F_size_b1 V_b56) hZ (hw _ (List.mem_of_getElem? (i := 52) rfl)) (hw _ (List.mem_of_getElem? (i := 2) rfl)) (by decide) (by decide)) q57a q57c (g := (mkF m 100 #[.val (.int p0), .val (.long q1), .second, .val (.long q2), .second, .val (.long q3), .second, .val (.long q4), .second, .val (.ref b1), .val (.ref b3), .val (.ref b6), .val (.ref b9), .val (.ref b12), .unset, .unset] [(.ref b1)])) rfl (by rw [hml]; rfl) (Steps.refl _) (argsL := []) (rest := []) (lenOf pd_7 rfl) rfl (by show 2 * 0 + _ ≤ _; exact Nat.le_of_eq rfl) (hb hby at_100) (fun _ _ => ⟨rfl, rfl, (by decide : 11 + 0 ≤ _), (by decide : 58 + 0 ≤ _)⟩)
      dsimp only [Pt.U, Pt.locs, Pt.cells, Pt.slots] at X57 l57 y57 z57 st57 hQ57
      subst l57 y57 z57
      obtain ⟨rfl, N57q, e57⟩ := hQ57
      have N57 := Fr.app N56 N57q
      refine Run.st (S' := T57.setTop (mkF m 112 #[.val (.int p0), .val (.long q1), .second, .val (.long q2), .second, .val (.long q3), .second, .val (.long q4), .second, .val (.ref b1), .val (.ref b3), .val (.ref b6), .val (.ref b9), .val (.ref b12), .unset, .unset] [(.ref b9), (.ref b1)])) (fun _ k => st57.trans (XS.ifnullYes X57.here hx rfl (pc0 := 103) (pc' := 108) rfl (hb hby at_103) rfl (by decide) (by decide) (XS.aload X57.here hx rfl (hb hby at_108) rfl rfl (XS.aload X57.here hx rfl (hb hby at_110) rfl rfl k)))) ?_
      obtain ⟨cq58, kq58, q58a, q58b, q58c⟩ := isOf hZ e57 E_b1
      obtain ⟨_, _, ⟨T58, L58, k58, n58⟩, -, X58, ⟨Lc58, hQ58, l58, y58, z58⟩, st58⟩ := X57.virtualBack hx (y := (⟨"com/example/keys_to_structures/keystostructures/store/ExpiryQueue", "add", "(Lcom/example/keys_to_structures/keystostructures/store/TimedEntry;)V"⟩ : MethodName)) (z := (⟨"com/example/keys_to_structures/keystostructures/store/ExpiryQueue", "add", "(Lcom/example/keys_to_structures/keystostructures/store/TimedEntry;)V"⟩ : MethodName)) hown (mvT hZ (hw _ (List.mem_of_getElem? (i := 53) rfl))) (mvT hZ (hw _ (List.mem_of_getElem? (i := 54) rfl))) (notFace_of_selects (args := #[]) (mvT hZ (hw _ (List.mem_of_getElem? (i := 56) rfl)))) (mvT hZ (hw _ (List.mem_of_getElem? (i := 56) rfl))) (mvT hZ (hw _ (List.mem_of_getElem? (i := 55) rfl))) (by decide) (backOf (W := 0) (rmAd0 l Z aV hw [] b1 b9 b56 kb56 .null .null .null q3 (0 : Int32) T56.heap n0 Zn g_b1 g_b56 O_kb56 g_b9 E_b1 F_heap_b1 F_size_b1 V_b56 E_b9 F_deadline_b9 F_position_b9 ne_b1_b56 ne_b1_b9 (Ne.symm ne_b9_b56)) hZ (hw _ (List.mem_of_getElem? (i := 57) rfl)) (hw _ (List.mem_of_getElem? (i := 2) rfl)) (by decide) (by decide)) q58a q58c (g := (mkF m 112 #[.val (.int p0), .val (.long q1), .second, .val (.long q2), .second, .val (.long q3), .second, .val (.long q4), .second, .val (.ref b1), .val (.ref b3), .val (.ref b6), .val (.ref b9), .val (.ref b12), .unset, .unset] [(.ref b9), (.ref b1)])) rfl (by rw [hml]; rfl) (Steps.refl _) (argsL := [(.ref b9)]) (rest := []) (lenOf pd_8 rfl) rfl (by show 2 * 0 + _ ≤ _; exact Nat.le_of_eq rfl) (hb hby at_112) (fun _ _ => ⟨rfl, e57, (by decide : 11 + 0 ≤ _), (by decide : 58 + 0 ≤ _)⟩)
      dsimp only [Pt.U, Pt.locs, Pt.cells, Pt.slots] at X58 l58 y58 z58 st58 hQ58
      subst l58 y58 z58
      obtain ⟨rfl, N58q, K58, q58_0, q58_1, q58_2, q58_3, q58_4, q58_5, q58_6⟩ := hQ58
      have V_b2 := V_b2.keep K58 (ninS (Ne.symm ne_b1_b2) (ninS ne_b2_b56 (ninS ne_b2_b9 nin0)))
      have E_b3 := E_b3.keep K58
      have F_deadline_b3 := F_deadline_b3.keep K58 (ninS (Ne.symm ne_b1_b3) (ninS ne_b3_b56 (ninS ne_b3_b9 nin0)))
      have F_position_b3 := F_position_b3.keep K58 (ninS (Ne.symm ne_b1_b3) (ninS ne_b3_b56 (ninS ne_b3_b9 nin0)))
      have E_b6 := E_b6.keep K58
      have F_deadline_b6 := F_deadline_b6.keep K58 (ninS (Ne.symm ne_b1_b6) (ninS ne_b6_b56 (ninS ne_b6_b9 nin0)))
      have F_position_b6 := F_position_b6.keep K58 (ninS (Ne.symm ne_b1_b6) (ninS ne_b6_b56 (ninS ne_b6_b9 nin0)))
      have E_b12 := E_b12.keep K58
      have F_deadline_b12 := F_deadline_b12.keep K58 (ninS (Ne.symm ne_b1_b12) (ninS ne_b12_b56 (ninS (Ne.symm ne_b9_b12) nin0)))
      have F_position_b12 := F_position_b12.keep K58 (ninS (Ne.symm ne_b1_b12) (ninS ne_b12_b56 (ninS (Ne.symm ne_b9_b12) nin0)))
      have E_b1 := q58_0
      have F_heap_b1 := q58_1
      have F_size_b1 := q58_2
      have V_b56 := q58_3
      have E_b9 := q58_4
      have F_deadline_b9 := q58_5
      have F_position_b9 := q58_6
      have Kp := Kp.trans K58 (allS (Or.inr sz_b1) (allS (Or.inr sz_b56) (allS (Or.inr sz_b9) all0)))
      have Zn := Nat.le_trans Zn K58.1
      have N58 := Fr.app N57 N58q
      refine Run.st (S' := T58.setTop (mkF m 117 #[.val (.int p0), .val (.long q1), .second, .val (.long q2), .second, .val (.long q3), .second, .val (.long q4), .second, .val (.ref b1), .val (.ref b3), .val (.ref b6), .val (.ref b9), .val (.ref b12), .unset, .unset] [(.ref b1)])) (fun _ k => st58.trans (XS.aload X58.here hx rfl (hb hby at_115) rfl rfl k)) ?_
      obtain ⟨cq59, kq59, q59a, q59b, q59c⟩ := isOf hZ rfl E_b1
      obtain ⟨_, _, ⟨T59, L59, k59, n59⟩, -, X59, ⟨Lc59, hQ59, l59, y59, z59⟩, st59⟩ := X58.virtualBack hx (y := (⟨"com/example/keys_to_structures/keystostructures/store/ExpiryQueue", "first", "()Lcom/example/keys_to_structures/keystostructures/store/TimedEntry;"⟩ : MethodName)) (z := (⟨"com/example/keys_to_structures/keystostructures/store/ExpiryQueue", "first", "()Lcom/example/keys_to_structures/keystostructures/store/TimedEntry;"⟩ : MethodName)) hown (mvT hZ (hw _ (List.mem_of_getElem? (i := 48) rfl))) (mvT hZ (hw _ (List.mem_of_getElem? (i := 49) rfl))) (notFace_of_selects (args := #[]) (mvT hZ (hw _ (List.mem_of_getElem? (i := 51) rfl)))) (mvT hZ (hw _ (List.mem_of_getElem? (i := 51) rfl))) (mvT hZ (hw _ (List.mem_of_getElem? (i := 50) rfl))) (by decide) (backOf (W := 0) (rmFi1 l Z aV hw [] b1 b56 kb56 b9 .null .null T58.heap n0 Zn F_heap_b1 F_size_b1 V_b56) hZ (hw _ (List.mem_of_getElem? (i := 52) rfl)) (hw _ (List.mem_of_getElem? (i := 2) rfl)) (by decide) (by decide)) q59a q59c (g := (mkF m 117 #[.val (.int p0), .val (.long q1), .second, .val (.long q2), .second, .val (.long q3), .second, .val (.long q4), .second, .val (.ref b1), .val (.ref b3), .val (.ref b6), .val (.ref b9), .val (.ref b12), .unset, .unset] [(.ref b1)])) rfl (by rw [hml]; rfl) (Steps.refl _) (argsL := []) (rest := []) (lenOf pd_7 rfl) rfl (by show 2 * 0 + _ ≤ _; exact Nat.le_of_eq rfl) (hb hby at_117) (fun _ _ => ⟨rfl, rfl, (by decide : 11 + 0 ≤ _), (by decide : 58 + 0 ≤ _)⟩)
      dsimp only [Pt.U, Pt.locs, Pt.cells, Pt.slots] at X59 l59 y59 z59 st59 hQ59
      subst l59 y59 z59
      obtain ⟨rfl, N59q, e59⟩ := hQ59
      have N59 := Fr.app N58 N59q
      refine Run.st (S' := T59.setTop (mkF m 127 #[.val (.int p0), .val (.long q1), .second, .val (.long q2), .second, .val (.long q3), .second, .val (.long q4), .second, .val (.ref b1), .val (.ref b3), .val (.ref b6), .val (.ref b9), .val (.ref b12), .unset, .unset] [(.ref b9)])) (fun _ k => st59.trans (XS.aload X59.here hx rfl (hb hby at_120) rfl rfl (Jvm.RoadKit.acmp (g := (mkF m 122 #[.val (.int p0), .val (.long q1), .second, .val (.long q2), .second, .val (.long q3), .second, .val (.long q4), .second, .val (.ref b1), .val (.ref b3), .val (.ref b6), .val (.ref b9), .val (.ref b12), .unset, .unset] [(.ref b9), (.ref b9)])) X59 hx rfl rfl rfl (pc0 := 122) (pc' := 125) (same := true) rfl (hb hby at_122) rfl (decide_eq_true rfl) (by decide) (by decide) (XS.aload X59.here hx rfl (hb hby at_125) rfl rfl k)))) ?_
      obtain ⟨cq60, kq60, q60a, q60b, q60c⟩ := isOf hZ e59 E_b9
      obtain ⟨_, _, ⟨T60, L60, k60, n60⟩, -, X60, ⟨Lc60, hQ60, l60, y60, z60⟩, st60⟩ := X59.virtualBack hx (y := (⟨"com/example/keys_to_structures/keystostructures/store/TimedEntry", "position", "()I"⟩ : MethodName)) (z := (⟨"com/example/keys_to_structures/keystostructures/store/TimedEntry", "position", "()I"⟩ : MethodName)) hown (mvT hZ (hw _ (List.mem_of_getElem? (i := 74) rfl))) (mvT hZ (hw _ (List.mem_of_getElem? (i := 75) rfl))) (notFace_of_selects (args := #[]) (mvT hZ (hw _ (List.mem_of_getElem? (i := 77) rfl)))) (mvT hZ (hw _ (List.mem_of_getElem? (i := 77) rfl))) (mvT hZ (hw _ (List.mem_of_getElem? (i := 76) rfl))) (by decide) (backOf (W := 0) (rmPo l Z aV hw [] b9 (0 : Int32) T58.heap n0 Zn F_position_b9) hZ (hw _ (List.mem_of_getElem? (i := 78) rfl)) (hw _ (List.mem_of_getElem? (i := 15) rfl)) (by decide) (by decide)) q60a q60c (g := (mkF m 127 #[.val (.int p0), .val (.long q1), .second, .val (.long q2), .second, .val (.long q3), .second, .val (.long q4), .second, .val (.ref b1), .val (.ref b3), .val (.ref b6), .val (.ref b9), .val (.ref b12), .unset, .unset] [(.ref b9)])) rfl (by rw [hml]; rfl) (Steps.refl _) (argsL := []) (rest := []) (lenOf pd_9 rfl) rfl (by show 2 * 0 + _ ≤ _; exact Nat.le_of_eq rfl) (hb hby at_127) (fun _ _ => ⟨rfl, e59, (by decide : 11 + 0 ≤ _), (by decide : 58 + 0 ≤ _)⟩)
      dsimp only [Pt.U, Pt.locs, Pt.cells, Pt.slots] at X60 l60 y60 z60 st60 hQ60
      subst l60 y60 z60
      obtain ⟨rfl, N60q, e60⟩ := hQ60
      have N60 := Fr.app N59 N60q
      refine Run.st (S' := T60.setTop (mkF m 139 #[.val (.int p0), .val (.long q1), .second, .val (.long q2), .second, .val (.long q3), .second, .val (.long q4), .second, .val (.ref b1), .val (.ref b3), .val (.ref b6), .val (.ref b9), .val (.ref b12), .unset, .unset] [(.ref b12), (.ref b1)])) (fun _ k => st60.trans (XS.ifYes X60.here hx rfl (pc0 := 130) (pc' := 135) rfl (hb hby at_130) rfl ((if0 _ _).trans (teq (show (0 : Int32) = (0 : Int32) from (by decide))).1) (by decide) (by decide) (XS.aload X60.here hx rfl (hb hby at_135) rfl rfl (XS.aload X60.here hx rfl (hb hby at_137) rfl rfl k)))) ?_
      by_cases hk139_61 : q4 < q3
      · obtain ⟨cq62, kq62, q62a, q62b, q62c⟩ := isOf hZ e60 E_b1
        obtain ⟨_, _, ⟨T62, L62, k62, n62⟩, -, X62, ⟨Lc62, hQ62, l62, y62, z62⟩, st62⟩ := X60.virtualBack hx (y := (⟨"com/example/keys_to_structures/keystostructures/store/ExpiryQueue", "add", "(Lcom/example/keys_to_structures/keystostructures/store/TimedEntry;)V"⟩ : MethodName)) (z := (⟨"com/example/keys_to_structures/keystostructures/store/ExpiryQueue", "add", "(Lcom/example/keys_to_structures/keystostructures/store/TimedEntry;)V"⟩ : MethodName)) hown (mvT hZ (hw _ (List.mem_of_getElem? (i := 53) rfl))) (mvT hZ (hw _ (List.mem_of_getElem? (i := 54) rfl))) (notFace_of_selects (args := #[]) (mvT hZ (hw _ (List.mem_of_getElem? (i := 56) rfl)))) (mvT hZ (hw _ (List.mem_of_getElem? (i := 56) rfl))) (mvT hZ (hw _ (List.mem_of_getElem? (i := 55) rfl))) (by decide) (backOf (W := 0) (rmAd1s l Z aV hw [] b1 b12 b56 kb56 .null .null q4 (0 : Int32) b9 q3 (0 : Int32) T58.heap n0 Zn g_b1 g_b56 O_kb56 g_b12 g_b9 E_b1 F_heap_b1 F_size_b1 V_b56 E_b12 F_deadline_b12 F_position_b12 E_b9 F_deadline_b9 F_position_b9 ne_b1_b56 ne_b1_b12 ne_b1_b9 (Ne.symm ne_b12_b56) (Ne.symm ne_b9_b56) (Ne.symm ne_b9_b12) hk139_61) hZ (hw _ (List.mem_of_getElem? (i := 57) rfl)) (hw _ (List.mem_of_getElem? (i := 2) rfl)) (by decide) (by decide)) q62a q62c (g := (mkF m 139 #[.val (.int p0), .val (.long q1), .second, .val (.long q2), .second, .val (.long q3), .second, .val (.long q4), .second, .val (.ref b1), .val (.ref b3), .val (.ref b6), .val (.ref b9), .val (.ref b12), .unset, .unset] [(.ref b12), (.ref b1)])) rfl (by rw [hml]; rfl) (Steps.refl _) (argsL := [(.ref b12)]) (rest := []) (lenOf pd_8 rfl) rfl (by show 2 * 0 + _ ≤ _; exact Nat.le_of_eq rfl) (hb hby at_139) (fun _ _ => ⟨rfl, e60, (by decide : 11 + 0 ≤ _), (by decide : 58 + 0 ≤ _)⟩)
        dsimp only [Pt.U, Pt.locs, Pt.cells, Pt.slots] at X62 l62 y62 z62 st62 hQ62
        subst l62 y62 z62
        obtain ⟨rfl, N62q, K62, q62_0, q62_1, q62_2, q62_3, q62_4, q62_5, q62_6, q62_7, q62_8, q62_9⟩ := hQ62
        have V_b2 := V_b2.keep K62 (ninS (Ne.symm ne_b1_b2) (ninS ne_b2_b56 (ninS ne_b2_b12 (ninS ne_b2_b9 nin0))))
        have E_b3 := E_b3.keep K62
        have F_deadline_b3 := F_deadline_b3.keep K62 (ninS (Ne.symm ne_b1_b3) (ninS ne_b3_b56 (ninS ne_b3_b12 (ninS ne_b3_b9 nin0))))
        have F_position_b3 := F_position_b3.keep K62 (ninS (Ne.symm ne_b1_b3) (ninS ne_b3_b56 (ninS ne_b3_b12 (ninS ne_b3_b9 nin0))))
        have E_b6 := E_b6.keep K62
        have F_deadline_b6 := F_deadline_b6.keep K62 (ninS (Ne.symm ne_b1_b6) (ninS ne_b6_b56 (ninS ne_b6_b12 (ninS ne_b6_b9 nin0))))
        have F_position_b6 := F_position_b6.keep K62 (ninS (Ne.symm ne_b1_b6) (ninS ne_b6_b56 (ninS ne_b6_b12 (ninS ne_b6_b9 nin0))))
        have E_b1 := q62_0
        have F_heap_b1 := q62_1
        have F_size_b1 := q62_2
        have V_b56 := q62_3
        have E_b12 := q62_4
        have F_deadline_b12 := q62_5
        have F_position_b12 := q62_6
        have E_b9 := q62_7
        have F_deadline_b9 := q62_8
        have F_position_b9 := q62_9
        have Kp := Kp.trans K62 (allS (Or.inr sz_b1) (allS (Or.inr sz_b56) (allS (Or.inr sz_b12) (allS (Or.inr sz_b9) all0))))
        have Zn := Nat.le_trans Zn K62.1
        have N62 := Fr.app N60 N62q
        refine Run.st (S' := T62.setTop (mkF m 159 #[.val (.int p0), .val (.long q1), .second, .val (.long q2), .second, .val (.long q3), .second, .val (.long q4), .second, .val (.ref b1), .val (.ref b3), .val (.ref b6), .val (.ref b9), .val (.ref b12), .val (.ref b12), .unset] [])) (fun _ k => st62.trans (XS.lload X62.here hx rfl (hb hby at_142) rfl (XS.lload X62.here hx rfl (hb hby at_144) rfl (XS.lcmp X62.here hx rfl (hb hby at_146) rfl (XS.ifNo X62.here hx rfl (hb hby at_147) rfl (lcYes (Jvm.Free.XT.ll_ge_f (show q4 < q3 from hk139_61))) (XS.aload X62.here hx rfl (hb hby at_150) rfl rfl (XS.goto X62.here hx rfl (pc0 := 152) (pc' := 157) rfl (hb hby at_152) (by decide) (by decide) (XS.astore X62.here hx rfl (hb hby at_157) rfl rfl (l' := #[.val (.int p0), .val (.long q1), .second, .val (.long q2), .second, .val (.long q3), .second, .val (.long q4), .second, .val (.ref b1), .val (.ref b3), .val (.ref b6), .val (.ref b9), .val (.ref b12), .val (.ref b12), .unset]) rfl k)))))))) ?_
        refine Run.st (S' := T62.setTop (mkF m 178 #[.val (.int p0), .val (.long q1), .second, .val (.long q2), .second, .val (.long q3), .second, .val (.long q4), .second, .val (.ref b1), .val (.ref b3), .val (.ref b6), .val (.ref b9), .val (.ref b12), .val (.ref b12), .val (.ref b9)] [(.ref b1)])) (fun _ k => XS.lload X62.here hx rfl (hb hby at_159) rfl (XS.lload X62.here hx rfl (hb hby at_161) rfl (XS.lcmp X62.here hx rfl (hb hby at_163) rfl (XS.ifNo X62.here hx rfl (hb hby at_164) rfl (lcYes (Jvm.Free.XT.ll_ge_f (show q4 < q3 from hk139_61))) (XS.aload X62.here hx rfl (hb hby at_167) rfl rfl (XS.goto X62.here hx rfl (pc0 := 169) (pc' := 174) rfl (hb hby at_169) (by decide) (by decide) (XS.astore X62.here hx rfl (hb hby at_174) rfl rfl (l' := #[.val (.int p0), .val (.long q1), .second, .val (.long q2), .second, .val (.long q3), .second, .val (.long q4), .second, .val (.ref b1), .val (.ref b3), .val (.ref b6), .val (.ref b9), .val (.ref b12), .val (.ref b12), .val (.ref b9)]) rfl (XS.aload X62.here hx rfl (hb hby at_176) rfl rfl k)))))))) ?_
        obtain ⟨cq63, kq63, q63a, q63b, q63c⟩ := isOf hZ rfl E_b1
        obtain ⟨_, _, ⟨T63, L63, k63, n63⟩, -, X63, ⟨Lc63, hQ63, l63, y63, z63⟩, st63⟩ := X62.virtualBack hx (y := (⟨"com/example/keys_to_structures/keystostructures/store/ExpiryQueue", "first", "()Lcom/example/keys_to_structures/keystostructures/store/TimedEntry;"⟩ : MethodName)) (z := (⟨"com/example/keys_to_structures/keystostructures/store/ExpiryQueue", "first", "()Lcom/example/keys_to_structures/keystostructures/store/TimedEntry;"⟩ : MethodName)) hown (mvT hZ (hw _ (List.mem_of_getElem? (i := 48) rfl))) (mvT hZ (hw _ (List.mem_of_getElem? (i := 49) rfl))) (notFace_of_selects (args := #[]) (mvT hZ (hw _ (List.mem_of_getElem? (i := 51) rfl)))) (mvT hZ (hw _ (List.mem_of_getElem? (i := 51) rfl))) (mvT hZ (hw _ (List.mem_of_getElem? (i := 50) rfl))) (by decide) (backOf (W := 0) (rmFi2 l Z aV hw [] b1 b56 kb56 b12 (.ref b9) .null T62.heap n0 Zn F_heap_b1 F_size_b1 V_b56) hZ (hw _ (List.mem_of_getElem? (i := 52) rfl)) (hw _ (List.mem_of_getElem? (i := 2) rfl)) (by decide) (by decide)) q63a q63c (g := (mkF m 178 #[.val (.int p0), .val (.long q1), .second, .val (.long q2), .second, .val (.long q3), .second, .val (.long q4), .second, .val (.ref b1), .val (.ref b3), .val (.ref b6), .val (.ref b9), .val (.ref b12), .val (.ref b12), .val (.ref b9)] [(.ref b1)])) rfl (by rw [hml]; rfl) (Steps.refl _) (argsL := []) (rest := []) (lenOf pd_7 rfl) rfl (by show 2 * 0 + _ ≤ _; exact Nat.le_of_eq rfl) (hb hby at_178) (fun _ _ => ⟨rfl, rfl, (by decide : 11 + 0 ≤ _), (by decide : 58 + 0 ≤ _)⟩)
        dsimp only [Pt.U, Pt.locs, Pt.cells, Pt.slots] at X63 l63 y63 z63 st63 hQ63
        subst l63 y63 z63
        obtain ⟨rfl, N63q, e63⟩ := hQ63
        have N63 := Fr.app N62 N63q
        refine Run.st (S' := T63.setTop (mkF m 188 #[.val (.int p0), .val (.long q1), .second, .val (.long q2), .second, .val (.long q3), .second, .val (.long q4), .second, .val (.ref b1), .val (.ref b3), .val (.ref b6), .val (.ref b9), .val (.ref b12), .val (.ref b12), .val (.ref b9)] [(.ref b12)])) (fun _ k => st63.trans (XS.aload X63.here hx rfl (hb hby at_181) rfl rfl (Jvm.RoadKit.acmp (g := (mkF m 183 #[.val (.int p0), .val (.long q1), .second, .val (.long q2), .second, .val (.long q3), .second, .val (.long q4), .second, .val (.ref b1), .val (.ref b3), .val (.ref b6), .val (.ref b9), .val (.ref b12), .val (.ref b12), .val (.ref b9)] [(.ref b12), (.ref b12)])) X63 hx rfl rfl rfl (pc0 := 183) (pc' := 186) (same := true) rfl (hb hby at_183) rfl (decide_eq_true rfl) (by decide) (by decide) (XS.aload X63.here hx rfl (hb hby at_186) rfl rfl k)))) ?_
        obtain ⟨cq64, kq64, q64a, q64b, q64c⟩ := isOf hZ e63 E_b12
        obtain ⟨_, _, ⟨T64, L64, k64, n64⟩, -, X64, ⟨Lc64, hQ64, l64, y64, z64⟩, st64⟩ := X63.virtualBack hx (y := (⟨"com/example/keys_to_structures/keystostructures/store/TimedEntry", "position", "()I"⟩ : MethodName)) (z := (⟨"com/example/keys_to_structures/keystostructures/store/TimedEntry", "position", "()I"⟩ : MethodName)) hown (mvT hZ (hw _ (List.mem_of_getElem? (i := 74) rfl))) (mvT hZ (hw _ (List.mem_of_getElem? (i := 75) rfl))) (notFace_of_selects (args := #[]) (mvT hZ (hw _ (List.mem_of_getElem? (i := 77) rfl)))) (mvT hZ (hw _ (List.mem_of_getElem? (i := 77) rfl))) (mvT hZ (hw _ (List.mem_of_getElem? (i := 76) rfl))) (by decide) (backOf (W := 0) (rmPo l Z aV hw [] b12 (0 : Int32) T62.heap n0 Zn F_position_b12) hZ (hw _ (List.mem_of_getElem? (i := 78) rfl)) (hw _ (List.mem_of_getElem? (i := 15) rfl)) (by decide) (by decide)) q64a q64c (g := (mkF m 188 #[.val (.int p0), .val (.long q1), .second, .val (.long q2), .second, .val (.long q3), .second, .val (.long q4), .second, .val (.ref b1), .val (.ref b3), .val (.ref b6), .val (.ref b9), .val (.ref b12), .val (.ref b12), .val (.ref b9)] [(.ref b12)])) rfl (by rw [hml]; rfl) (Steps.refl _) (argsL := []) (rest := []) (lenOf pd_9 rfl) rfl (by show 2 * 0 + _ ≤ _; exact Nat.le_of_eq rfl) (hb hby at_188) (fun _ _ => ⟨rfl, e63, (by decide : 11 + 0 ≤ _), (by decide : 58 + 0 ≤ _)⟩)
        dsimp only [Pt.U, Pt.locs, Pt.cells, Pt.slots] at X64 l64 y64 z64 st64 hQ64
        subst l64 y64 z64
        obtain ⟨rfl, N64q, e64⟩ := hQ64
        have N64 := Fr.app N63 N64q
        refine Run.st (S' := T64.setTop (mkF m 196 #[.val (.int p0), .val (.long q1), .second, .val (.long q2), .second, .val (.long q3), .second, .val (.long q4), .second, .val (.ref b1), .val (.ref b3), .val (.ref b6), .val (.ref b9), .val (.ref b12), .val (.ref b12), .val (.ref b9)] [(.ref b9)])) (fun _ k => st64.trans (XS.ifNo X64.here hx rfl (hb hby at_191) rfl ((if0 _ _).trans (teq (show (0 : Int32) = (0 : Int32) from (by decide))).2) (XS.aload X64.here hx rfl (hb hby at_194) rfl rfl k))) ?_
        obtain ⟨cq65, kq65, q65a, q65b, q65c⟩ := isOf hZ e64 E_b9
        obtain ⟨_, _, ⟨T65, L65, k65, n65⟩, -, X65, ⟨Lc65, hQ65, l65, y65, z65⟩, st65⟩ := X64.virtualBack hx (y := (⟨"com/example/keys_to_structures/keystostructures/store/TimedEntry", "position", "()I"⟩ : MethodName)) (z := (⟨"com/example/keys_to_structures/keystostructures/store/TimedEntry", "position", "()I"⟩ : MethodName)) hown (mvT hZ (hw _ (List.mem_of_getElem? (i := 74) rfl))) (mvT hZ (hw _ (List.mem_of_getElem? (i := 75) rfl))) (notFace_of_selects (args := #[]) (mvT hZ (hw _ (List.mem_of_getElem? (i := 77) rfl)))) (mvT hZ (hw _ (List.mem_of_getElem? (i := 77) rfl))) (mvT hZ (hw _ (List.mem_of_getElem? (i := 76) rfl))) (by decide) (backOf (W := 0) (rmPo l Z aV hw [] b9 (1 : Int32) T62.heap n0 Zn F_position_b9) hZ (hw _ (List.mem_of_getElem? (i := 78) rfl)) (hw _ (List.mem_of_getElem? (i := 15) rfl)) (by decide) (by decide)) q65a q65c (g := (mkF m 196 #[.val (.int p0), .val (.long q1), .second, .val (.long q2), .second, .val (.long q3), .second, .val (.long q4), .second, .val (.ref b1), .val (.ref b3), .val (.ref b6), .val (.ref b9), .val (.ref b12), .val (.ref b12), .val (.ref b9)] [(.ref b9)])) rfl (by rw [hml]; rfl) (Steps.refl _) (argsL := []) (rest := []) (lenOf pd_9 rfl) rfl (by show 2 * 0 + _ ≤ _; exact Nat.le_of_eq rfl) (hb hby at_196) (fun _ _ => ⟨rfl, e64, (by decide : 11 + 0 ≤ _), (by decide : 58 + 0 ≤ _)⟩)
        dsimp only [Pt.U, Pt.locs, Pt.cells, Pt.slots] at X65 l65 y65 z65 st65 hQ65
        subst l65 y65 z65
        obtain ⟨rfl, N65q, e65⟩ := hQ65
        have N65 := Fr.app N64 N65q
        refine Run.st (S' := T65.setTop (mkF m 207 #[.val (.int p0), .val (.long q1), .second, .val (.long q2), .second, .val (.long q3), .second, .val (.long q4), .second, .val (.ref b1), .val (.ref b3), .val (.ref b6), .val (.ref b9), .val (.ref b12), .val (.ref b12), .val (.ref b9)] [(.ref b1)])) (fun _ k => st65.trans (XS.iconst X65.here hx rfl (hb hby at_199) (XS.icmpYes X65.here hx rfl (pc0 := 200) (pc' := 205) rfl (hb hby at_200) rfl (teq (show (1 : Int32) = (1 : Int32) from (by decide))).1 (by decide) (by decide) (XS.aload X65.here hx rfl (hb hby at_205) rfl rfl k)))) ?_
        obtain ⟨cq66, kq66, q66a, q66b, q66c⟩ := isOf hZ e65 E_b1
        obtain ⟨_, _, ⟨T66, L66, k66, n66⟩, -, X66, ⟨Lc66, hQ66, l66, y66, z66⟩, st66⟩ := X65.virtualBack hx (y := (⟨"com/example/keys_to_structures/keystostructures/store/ExpiryQueue", "clear", "()V"⟩ : MethodName)) (z := (⟨"com/example/keys_to_structures/keystostructures/store/ExpiryQueue", "clear", "()V"⟩ : MethodName)) hown (mvT hZ (hw _ (List.mem_of_getElem? (i := 41) rfl))) (mvT hZ (hw _ (List.mem_of_getElem? (i := 42) rfl))) (notFace_of_selects (args := #[]) (mvT hZ (hw _ (List.mem_of_getElem? (i := 44) rfl)))) (mvT hZ (hw _ (List.mem_of_getElem? (i := 44) rfl))) (mvT hZ (hw _ (List.mem_of_getElem? (i := 43) rfl))) (by decide) (backOf (W := 0) (rmClr l Z aV hw [] b1 b56 (2 : Int32) T62.heap n0 Zn g_b1 E_b1 F_heap_b1 F_size_b1) hZ (hw _ (List.mem_of_getElem? (i := 45) rfl)) (hw _ (List.mem_of_getElem? (i := 2) rfl)) (by decide) (by decide)) q66a q66c (g := (mkF m 207 #[.val (.int p0), .val (.long q1), .second, .val (.long q2), .second, .val (.long q3), .second, .val (.long q4), .second, .val (.ref b1), .val (.ref b3), .val (.ref b6), .val (.ref b9), .val (.ref b12), .val (.ref b12), .val (.ref b9)] [(.ref b1)])) rfl (by rw [hml]; rfl) (Steps.refl _) (argsL := []) (rest := []) (lenOf pd_5 rfl) rfl (by show 2 * 0 + _ ≤ _; exact Nat.le_of_eq rfl) (hb hby at_207) (fun _ _ => ⟨rfl, e65, (by decide : 11 + 1 ≤ _), (by decide : 58 + 16 ≤ _)⟩)
        dsimp only [Pt.U, Pt.locs, Pt.cells, Pt.slots] at X66 l66 y66 z66 st66 hQ66
        subst l66 y66 z66
        obtain ⟨b66, kb66, rfl, N66q, K66, g_b66, z_b66, O_kb66, q66_0, q66_1, q66_2, q66_3⟩ := hQ66
        have ne_b1_b66 : b1 ≠ b66 := Nat.ne_of_lt (Nat.lt_of_lt_of_le E_b1.lt z_b66)
        have ne_b2_b66 : b2 ≠ b66 := Nat.ne_of_lt (Nat.lt_of_lt_of_le V_b2.lt z_b66)
        have ne_b3_b66 : b3 ≠ b66 := Nat.ne_of_lt (Nat.lt_of_lt_of_le E_b3.lt z_b66)
        have ne_b6_b66 : b6 ≠ b66 := Nat.ne_of_lt (Nat.lt_of_lt_of_le E_b6.lt z_b66)
        have ne_b9_b66 : b9 ≠ b66 := Nat.ne_of_lt (Nat.lt_of_lt_of_le E_b9.lt z_b66)
        have ne_b12_b66 : b12 ≠ b66 := Nat.ne_of_lt (Nat.lt_of_lt_of_le E_b12.lt z_b66)
        have ne_b56_b66 : b56 ≠ b66 := Nat.ne_of_lt (Nat.lt_of_lt_of_le V_b56.lt z_b66)
        have sz_b66 : h0.size ≤ b66 := Nat.le_trans Kp.1 z_b66
        have V_b2 := V_b2.keep K66 (ninS (Ne.symm ne_b1_b2) nin0)
        have E_b3 := E_b3.keep K66
        have F_deadline_b3 := F_deadline_b3.keep K66 (ninS (Ne.symm ne_b1_b3) nin0)
        have F_position_b3 := F_position_b3.keep K66 (ninS (Ne.symm ne_b1_b3) nin0)
        have E_b6 := E_b6.keep K66
        have F_deadline_b6 := F_deadline_b6.keep K66 (ninS (Ne.symm ne_b1_b6) nin0)
        have F_position_b6 := F_position_b6.keep K66 (ninS (Ne.symm ne_b1_b6) nin0)
        have E_b9 := E_b9.keep K66
        have F_deadline_b9 := F_deadline_b9.keep K66 (ninS (Ne.symm ne_b1_b9) nin0)
        have F_position_b9 := F_position_b9.keep K66 (ninS (Ne.symm ne_b1_b9) nin0)
        have E_b12 := E_b12.keep K66
        have F_deadline_b12 := F_deadline_b12.keep K66 (ninS (Ne.symm ne_b1_b12) nin0)
        have F_position_b12 := F_position_b12.keep K66 (ninS (Ne.symm ne_b1_b12) nin0)
        have V_b56 := V_b56.keep K66 (ninS (Ne.symm ne_b1_b56) nin0)
        have E_b1 := q66_0
        have F_heap_b1 := q66_1
        have F_size_b1 := q66_2
        have V_b66 := q66_3
        have Kp := Kp.trans K66 (allS (Or.inr sz_b1) all0)
        have Zn := Nat.le_trans Zn K66.1
        have N66 := Fr.app N65 N66q
        refine Run.st (S' := T66.setTop (mkF m 212 #[.val (.int p0), .val (.long q1), .second, .val (.long q2), .second, .val (.long q3), .second, .val (.long q4), .second, .val (.ref b1), .val (.ref b3), .val (.ref b6), .val (.ref b9), .val (.ref b12), .val (.ref b12), .val (.ref b9)] [(.ref b1)])) (fun _ k => st66.trans (XS.aload X66.here hx rfl (hb hby at_210) rfl rfl k)) ?_
        obtain ⟨cq67, kq67, q67a, q67b, q67c⟩ := isOf hZ rfl E_b1
        obtain ⟨_, _, ⟨T67, L67, k67, n67⟩, -, X67, ⟨Lc67, hQ67, l67, y67, z67⟩, st67⟩ := X66.virtualBack hx (y := (⟨"com/example/keys_to_structures/keystostructures/store/ExpiryQueue", "first", "()Lcom/example/keys_to_structures/keystostructures/store/TimedEntry;"⟩ : MethodName)) (z := (⟨"com/example/keys_to_structures/keystostructures/store/ExpiryQueue", "first", "()Lcom/example/keys_to_structures/keystostructures/store/TimedEntry;"⟩ : MethodName)) hown (mvT hZ (hw _ (List.mem_of_getElem? (i := 48) rfl))) (mvT hZ (hw _ (List.mem_of_getElem? (i := 49) rfl))) (notFace_of_selects (args := #[]) (mvT hZ (hw _ (List.mem_of_getElem? (i := 51) rfl)))) (mvT hZ (hw _ (List.mem_of_getElem? (i := 51) rfl))) (mvT hZ (hw _ (List.mem_of_getElem? (i := 50) rfl))) (by decide) (backOf (W := 0) (rmFi0 l Z aV hw [] b1 b66 kb66 .null .null .null T66.heap n0 Zn F_heap_b1 F_size_b1 V_b66) hZ (hw _ (List.mem_of_getElem? (i := 52) rfl)) (hw _ (List.mem_of_getElem? (i := 2) rfl)) (by decide) (by decide)) q67a q67c (g := (mkF m 212 #[.val (.int p0), .val (.long q1), .second, .val (.long q2), .second, .val (.long q3), .second, .val (.long q4), .second, .val (.ref b1), .val (.ref b3), .val (.ref b6), .val (.ref b9), .val (.ref b12), .val (.ref b12), .val (.ref b9)] [(.ref b1)])) rfl (by rw [hml]; rfl) (Steps.refl _) (argsL := []) (rest := []) (lenOf pd_7 rfl) rfl (by show 2 * 0 + _ ≤ _; exact Nat.le_of_eq rfl) (hb hby at_212) (fun _ _ => ⟨rfl, rfl, (by decide : 12 + 0 ≤ _), (by decide : 74 + 0 ≤ _)⟩)
        dsimp only [Pt.U, Pt.locs, Pt.cells, Pt.slots] at X67 l67 y67 z67 st67 hQ67
        subst l67 y67 z67
        obtain ⟨rfl, N67q, e67⟩ := hQ67
        have N67 := Fr.app N66 N67q
        refine Run.st (S' := T67.setTop (mkF m 223 #[.val (.int p0), .val (.long q1), .second, .val (.long q2), .second, .val (.long q3), .second, .val (.long q4), .second, .val (.ref b1), .val (.ref b3), .val (.ref b6), .val (.ref b9), .val (.ref b12), .val (.ref b12), .val (.ref b9)] [(.int (1 : Int32))])) (fun _ k => st67.trans (XS.ifnonnullNo X67.here hx rfl (hb hby at_215) rfl (XS.iconst X67.here hx rfl (hb hby at_218) (XS.goto X67.here hx rfl (pc0 := 219) (pc' := 223) rfl (hb hby at_219) (by decide) (by decide) k)))) ?_
        refine Run.out X67 hx Bd.notSynchronized Bd.returns rfl (Or.inl ⟨rfl, by simp, _, rfl⟩) (hb hby at_223) (by decide) (by decide) ?_
        rw [e67]
        exact ⟨rfl, N67⟩
      · obtain ⟨cq68, kq68, q68a, q68b, q68c⟩ := isOf hZ e60 E_b1
        obtain ⟨_, _, ⟨T68, L68, k68, n68⟩, -, X68, ⟨Lc68, hQ68, l68, y68, z68⟩, st68⟩ := X60.virtualBack hx (y := (⟨"com/example/keys_to_structures/keystostructures/store/ExpiryQueue", "add", "(Lcom/example/keys_to_structures/keystostructures/store/TimedEntry;)V"⟩ : MethodName)) (z := (⟨"com/example/keys_to_structures/keystostructures/store/ExpiryQueue", "add", "(Lcom/example/keys_to_structures/keystostructures/store/TimedEntry;)V"⟩ : MethodName)) hown (mvT hZ (hw _ (List.mem_of_getElem? (i := 53) rfl))) (mvT hZ (hw _ (List.mem_of_getElem? (i := 54) rfl))) (notFace_of_selects (args := #[]) (mvT hZ (hw _ (List.mem_of_getElem? (i := 56) rfl)))) (mvT hZ (hw _ (List.mem_of_getElem? (i := 56) rfl))) (mvT hZ (hw _ (List.mem_of_getElem? (i := 55) rfl))) (by decide) (backOf (W := 0) (rmAd1 l Z aV hw [] b1 b12 b56 kb56 .null .null q4 (0 : Int32) b9 q3 (0 : Int32) T58.heap n0 Zn g_b1 g_b56 O_kb56 g_b12 g_b9 E_b1 F_heap_b1 F_size_b1 V_b56 E_b12 F_deadline_b12 F_position_b12 E_b9 F_deadline_b9 F_position_b9 ne_b1_b56 ne_b1_b12 ne_b1_b9 (Ne.symm ne_b12_b56) (Ne.symm ne_b9_b56) (Ne.symm ne_b9_b12) hk139_61) hZ (hw _ (List.mem_of_getElem? (i := 57) rfl)) (hw _ (List.mem_of_getElem? (i := 2) rfl)) (by decide) (by decide)) q68a q68c (g := (mkF m 139 #[.val (.int p0), .val (.long q1), .second, .val (.long q2), .second, .val (.long q3), .second, .val (.long q4), .second, .val (.ref b1), .val (.ref b3), .val (.ref b6), .val (.ref b9), .val (.ref b12), .unset, .unset] [(.ref b12), (.ref b1)])) rfl (by rw [hml]; rfl) (Steps.refl _) (argsL := [(.ref b12)]) (rest := []) (lenOf pd_8 rfl) rfl (by show 2 * 0 + _ ≤ _; exact Nat.le_of_eq rfl) (hb hby at_139) (fun _ _ => ⟨rfl, e60, (by decide : 11 + 0 ≤ _), (by decide : 58 + 0 ≤ _)⟩)
        dsimp only [Pt.U, Pt.locs, Pt.cells, Pt.slots] at X68 l68 y68 z68 st68 hQ68
        subst l68 y68 z68
        obtain ⟨rfl, N68q, K68, q68_0, q68_1, q68_2, q68_3, q68_4, q68_5, q68_6⟩ := hQ68
        have V_b2 := V_b2.keep K68 (ninS (Ne.symm ne_b1_b2) (ninS ne_b2_b56 (ninS ne_b2_b12 nin0)))
        have E_b3 := E_b3.keep K68
        have F_deadline_b3 := F_deadline_b3.keep K68 (ninS (Ne.symm ne_b1_b3) (ninS ne_b3_b56 (ninS ne_b3_b12 nin0)))
        have F_position_b3 := F_position_b3.keep K68 (ninS (Ne.symm ne_b1_b3) (ninS ne_b3_b56 (ninS ne_b3_b12 nin0)))
        have E_b6 := E_b6.keep K68
        have F_deadline_b6 := F_deadline_b6.keep K68 (ninS (Ne.symm ne_b1_b6) (ninS ne_b6_b56 (ninS ne_b6_b12 nin0)))
        have F_position_b6 := F_position_b6.keep K68 (ninS (Ne.symm ne_b1_b6) (ninS ne_b6_b56 (ninS ne_b6_b12 nin0)))
        have E_b9 := E_b9.keep K68
        have F_deadline_b9 := F_deadline_b9.keep K68 (ninS (Ne.symm ne_b1_b9) (ninS ne_b9_b56 (ninS ne_b9_b12 nin0)))
        have F_position_b9 := F_position_b9.keep K68 (ninS (Ne.symm ne_b1_b9) (ninS ne_b9_b56 (ninS ne_b9_b12 nin0)))
        have E_b1 := q68_0
        have F_heap_b1 := q68_1
        have F_size_b1 := q68_2
        have V_b56 := q68_3
        have E_b12 := q68_4
        have F_deadline_b12 := q68_5
        have F_position_b12 := q68_6
        have Kp := Kp.trans K68 (allS (Or.inr sz_b1) (allS (Or.inr sz_b56) (allS (Or.inr sz_b12) all0)))
        have Zn := Nat.le_trans Zn K68.1
        have N68 := Fr.app N60 N68q
        refine Run.st (S' := T68.setTop (mkF m 161 #[.val (.int p0), .val (.long q1), .second, .val (.long q2), .second, .val (.long q3), .second, .val (.long q4), .second, .val (.ref b1), .val (.ref b3), .val (.ref b6), .val (.ref b9), .val (.ref b12), .val (.ref b9), .unset] [(.long q4)])) (fun _ k => st68.trans (XS.lload X68.here hx rfl (hb hby at_142) rfl (XS.lload X68.here hx rfl (hb hby at_144) rfl (XS.lcmp X68.here hx rfl (hb hby at_146) rfl (XS.ifYes X68.here hx rfl (pc0 := 147) (pc' := 155) rfl (hb hby at_147) rfl (lcYes (Jvm.Free.XT.ll_ge_t (show ¬ (q4 < q3) from hk139_61))) (by decide) (by decide) (XS.aload X68.here hx rfl (hb hby at_155) rfl rfl (XS.astore X68.here hx rfl (hb hby at_157) rfl rfl (l' := #[.val (.int p0), .val (.long q1), .second, .val (.long q2), .second, .val (.long q3), .second, .val (.long q4), .second, .val (.ref b1), .val (.ref b3), .val (.ref b6), .val (.ref b9), .val (.ref b12), .val (.ref b9), .unset]) rfl (XS.lload X68.here hx rfl (hb hby at_159) rfl k)))))))) ?_
        refine Run.st (S' := T68.setTop (mkF m 178 #[.val (.int p0), .val (.long q1), .second, .val (.long q2), .second, .val (.long q3), .second, .val (.long q4), .second, .val (.ref b1), .val (.ref b3), .val (.ref b6), .val (.ref b9), .val (.ref b12), .val (.ref b9), .val (.ref b12)] [(.ref b1)])) (fun _ k => XS.lload X68.here hx rfl (hb hby at_161) rfl (XS.lcmp X68.here hx rfl (hb hby at_163) rfl (XS.ifYes X68.here hx rfl (pc0 := 164) (pc' := 172) rfl (hb hby at_164) rfl (lcYes (Jvm.Free.XT.ll_ge_t (show ¬ (q4 < q3) from hk139_61))) (by decide) (by decide) (XS.aload X68.here hx rfl (hb hby at_172) rfl rfl (XS.astore X68.here hx rfl (hb hby at_174) rfl rfl (l' := #[.val (.int p0), .val (.long q1), .second, .val (.long q2), .second, .val (.long q3), .second, .val (.long q4), .second, .val (.ref b1), .val (.ref b3), .val (.ref b6), .val (.ref b9), .val (.ref b12), .val (.ref b9), .val (.ref b12)]) rfl (XS.aload X68.here hx rfl (hb hby at_176) rfl rfl k)))))) ?_
        obtain ⟨cq69, kq69, q69a, q69b, q69c⟩ := isOf hZ rfl E_b1
        obtain ⟨_, _, ⟨T69, L69, k69, n69⟩, -, X69, ⟨Lc69, hQ69, l69, y69, z69⟩, st69⟩ := X68.virtualBack hx (y := (⟨"com/example/keys_to_structures/keystostructures/store/ExpiryQueue", "first", "()Lcom/example/keys_to_structures/keystostructures/store/TimedEntry;"⟩ : MethodName)) (z := (⟨"com/example/keys_to_structures/keystostructures/store/ExpiryQueue", "first", "()Lcom/example/keys_to_structures/keystostructures/store/TimedEntry;"⟩ : MethodName)) hown (mvT hZ (hw _ (List.mem_of_getElem? (i := 48) rfl))) (mvT hZ (hw _ (List.mem_of_getElem? (i := 49) rfl))) (notFace_of_selects (args := #[]) (mvT hZ (hw _ (List.mem_of_getElem? (i := 51) rfl)))) (mvT hZ (hw _ (List.mem_of_getElem? (i := 51) rfl))) (mvT hZ (hw _ (List.mem_of_getElem? (i := 50) rfl))) (by decide) (backOf (W := 0) (rmFi2 l Z aV hw [] b1 b56 kb56 b9 (.ref b12) .null T68.heap n0 Zn F_heap_b1 F_size_b1 V_b56) hZ (hw _ (List.mem_of_getElem? (i := 52) rfl)) (hw _ (List.mem_of_getElem? (i := 2) rfl)) (by decide) (by decide)) q69a q69c (g := (mkF m 178 #[.val (.int p0), .val (.long q1), .second, .val (.long q2), .second, .val (.long q3), .second, .val (.long q4), .second, .val (.ref b1), .val (.ref b3), .val (.ref b6), .val (.ref b9), .val (.ref b12), .val (.ref b9), .val (.ref b12)] [(.ref b1)])) rfl (by rw [hml]; rfl) (Steps.refl _) (argsL := []) (rest := []) (lenOf pd_7 rfl) rfl (by show 2 * 0 + _ ≤ _; exact Nat.le_of_eq rfl) (hb hby at_178) (fun _ _ => ⟨rfl, rfl, (by decide : 11 + 0 ≤ _), (by decide : 58 + 0 ≤ _)⟩)
        dsimp only [Pt.U, Pt.locs, Pt.cells, Pt.slots] at X69 l69 y69 z69 st69 hQ69
        subst l69 y69 z69
        obtain ⟨rfl, N69q, e69⟩ := hQ69
        have N69 := Fr.app N68 N69q
        refine Run.st (S' := T69.setTop (mkF m 188 #[.val (.int p0), .val (.long q1), .second, .val (.long q2), .second, .val (.long q3), .second, .val (.long q4), .second, .val (.ref b1), .val (.ref b3), .val (.ref b6), .val (.ref b9), .val (.ref b12), .val (.ref b9), .val (.ref b12)] [(.ref b9)])) (fun _ k => st69.trans (XS.aload X69.here hx rfl (hb hby at_181) rfl rfl (Jvm.RoadKit.acmp (g := (mkF m 183 #[.val (.int p0), .val (.long q1), .second, .val (.long q2), .second, .val (.long q3), .second, .val (.long q4), .second, .val (.ref b1), .val (.ref b3), .val (.ref b6), .val (.ref b9), .val (.ref b12), .val (.ref b9), .val (.ref b12)] [(.ref b9), (.ref b9)])) X69 hx rfl rfl rfl (pc0 := 183) (pc' := 186) (same := true) rfl (hb hby at_183) rfl (decide_eq_true rfl) (by decide) (by decide) (XS.aload X69.here hx rfl (hb hby at_186) rfl rfl k)))) ?_
        obtain ⟨cq70, kq70, q70a, q70b, q70c⟩ := isOf hZ e69 E_b9
        obtain ⟨_, _, ⟨T70, L70, k70, n70⟩, -, X70, ⟨Lc70, hQ70, l70, y70, z70⟩, st70⟩ := X69.virtualBack hx (y := (⟨"com/example/keys_to_structures/keystostructures/store/TimedEntry", "position", "()I"⟩ : MethodName)) (z := (⟨"com/example/keys_to_structures/keystostructures/store/TimedEntry", "position", "()I"⟩ : MethodName)) hown (mvT hZ (hw _ (List.mem_of_getElem? (i := 74) rfl))) (mvT hZ (hw _ (List.mem_of_getElem? (i := 75) rfl))) (notFace_of_selects (args := #[]) (mvT hZ (hw _ (List.mem_of_getElem? (i := 77) rfl)))) (mvT hZ (hw _ (List.mem_of_getElem? (i := 77) rfl))) (mvT hZ (hw _ (List.mem_of_getElem? (i := 76) rfl))) (by decide) (backOf (W := 0) (rmPo l Z aV hw [] b9 (0 : Int32) T68.heap n0 Zn F_position_b9) hZ (hw _ (List.mem_of_getElem? (i := 78) rfl)) (hw _ (List.mem_of_getElem? (i := 15) rfl)) (by decide) (by decide)) q70a q70c (g := (mkF m 188 #[.val (.int p0), .val (.long q1), .second, .val (.long q2), .second, .val (.long q3), .second, .val (.long q4), .second, .val (.ref b1), .val (.ref b3), .val (.ref b6), .val (.ref b9), .val (.ref b12), .val (.ref b9), .val (.ref b12)] [(.ref b9)])) rfl (by rw [hml]; rfl) (Steps.refl _) (argsL := []) (rest := []) (lenOf pd_9 rfl) rfl (by show 2 * 0 + _ ≤ _; exact Nat.le_of_eq rfl) (hb hby at_188) (fun _ _ => ⟨rfl, e69, (by decide : 11 + 0 ≤ _), (by decide : 58 + 0 ≤ _)⟩)
        dsimp only [Pt.U, Pt.locs, Pt.cells, Pt.slots] at X70 l70 y70 z70 st70 hQ70
        subst l70 y70 z70
        obtain ⟨rfl, N70q, e70⟩ := hQ70
        have N70 := Fr.app N69 N70q
        refine Run.st (S' := T70.setTop (mkF m 196 #[.val (.int p0), .val (.long q1), .second, .val (.long q2), .second, .val (.long q3), .second, .val (.long q4), .second, .val (.ref b1), .val (.ref b3), .val (.ref b6), .val (.ref b9), .val (.ref b12), .val (.ref b9), .val (.ref b12)] [(.ref b12)])) (fun _ k => st70.trans (XS.ifNo X70.here hx rfl (hb hby at_191) rfl ((if0 _ _).trans (teq (show (0 : Int32) = (0 : Int32) from (by decide))).2) (XS.aload X70.here hx rfl (hb hby at_194) rfl rfl k))) ?_
        obtain ⟨cq71, kq71, q71a, q71b, q71c⟩ := isOf hZ e70 E_b12
        obtain ⟨_, _, ⟨T71, L71, k71, n71⟩, -, X71, ⟨Lc71, hQ71, l71, y71, z71⟩, st71⟩ := X70.virtualBack hx (y := (⟨"com/example/keys_to_structures/keystostructures/store/TimedEntry", "position", "()I"⟩ : MethodName)) (z := (⟨"com/example/keys_to_structures/keystostructures/store/TimedEntry", "position", "()I"⟩ : MethodName)) hown (mvT hZ (hw _ (List.mem_of_getElem? (i := 74) rfl))) (mvT hZ (hw _ (List.mem_of_getElem? (i := 75) rfl))) (notFace_of_selects (args := #[]) (mvT hZ (hw _ (List.mem_of_getElem? (i := 77) rfl)))) (mvT hZ (hw _ (List.mem_of_getElem? (i := 77) rfl))) (mvT hZ (hw _ (List.mem_of_getElem? (i := 76) rfl))) (by decide) (backOf (W := 0) (rmPo l Z aV hw [] b12 (1 : Int32) T68.heap n0 Zn F_position_b12) hZ (hw _ (List.mem_of_getElem? (i := 78) rfl)) (hw _ (List.mem_of_getElem? (i := 15) rfl)) (by decide) (by decide)) q71a q71c (g := (mkF m 196 #[.val (.int p0), .val (.long q1), .second, .val (.long q2), .second, .val (.long q3), .second, .val (.long q4), .second, .val (.ref b1), .val (.ref b3), .val (.ref b6), .val (.ref b9), .val (.ref b12), .val (.ref b9), .val (.ref b12)] [(.ref b12)])) rfl (by rw [hml]; rfl) (Steps.refl _) (argsL := []) (rest := []) (lenOf pd_9 rfl) rfl (by show 2 * 0 + _ ≤ _; exact Nat.le_of_eq rfl) (hb hby at_196) (fun _ _ => ⟨rfl, e70, (by decide : 11 + 0 ≤ _), (by decide : 58 + 0 ≤ _)⟩)
        dsimp only [Pt.U, Pt.locs, Pt.cells, Pt.slots] at X71 l71 y71 z71 st71 hQ71
        subst l71 y71 z71
        obtain ⟨rfl, N71q, e71⟩ := hQ71
        have N71 := Fr.app N70 N71q
        refine Run.st (S' := T71.setTop (mkF m 207 #[.val (.int p0), .val (.long q1), .second, .val (.long q2), .second, .val (.long q3), .second, .val (.long q4), .second, .val (.ref b1), .val (.ref b3), .val (.ref b6), .val (.ref b9), .val (.ref b12), .val (.ref b9), .val (.ref b12)] [(.ref b1)])) (fun _ k => st71.trans (XS.iconst X71.here hx rfl (hb hby at_199) (XS.icmpYes X71.here hx rfl (pc0 := 200) (pc' := 205) rfl (hb hby at_200) rfl (teq (show (1 : Int32) = (1 : Int32) from (by decide))).1 (by decide) (by decide) (XS.aload X71.here hx rfl (hb hby at_205) rfl rfl k)))) ?_
        obtain ⟨cq72, kq72, q72a, q72b, q72c⟩ := isOf hZ e71 E_b1
        obtain ⟨_, _, ⟨T72, L72, k72, n72⟩, -, X72, ⟨Lc72, hQ72, l72, y72, z72⟩, st72⟩ := X71.virtualBack hx (y := (⟨"com/example/keys_to_structures/keystostructures/store/ExpiryQueue", "clear", "()V"⟩ : MethodName)) (z := (⟨"com/example/keys_to_structures/keystostructures/store/ExpiryQueue", "clear", "()V"⟩ : MethodName)) hown (mvT hZ (hw _ (List.mem_of_getElem? (i := 41) rfl))) (mvT hZ (hw _ (List.mem_of_getElem? (i := 42) rfl))) (notFace_of_selects (args := #[]) (mvT hZ (hw _ (List.mem_of_getElem? (i := 44) rfl)))) (mvT hZ (hw _ (List.mem_of_getElem? (i := 44) rfl))) (mvT hZ (hw _ (List.mem_of_getElem? (i := 43) rfl))) (by decide) (backOf (W := 0) (rmClr l Z aV hw [] b1 b56 (2 : Int32) T68.heap n0 Zn g_b1 E_b1 F_heap_b1 F_size_b1) hZ (hw _ (List.mem_of_getElem? (i := 45) rfl)) (hw _ (List.mem_of_getElem? (i := 2) rfl)) (by decide) (by decide)) q72a q72c (g := (mkF m 207 #[.val (.int p0), .val (.long q1), .second, .val (.long q2), .second, .val (.long q3), .second, .val (.long q4), .second, .val (.ref b1), .val (.ref b3), .val (.ref b6), .val (.ref b9), .val (.ref b12), .val (.ref b9), .val (.ref b12)] [(.ref b1)])) rfl (by rw [hml]; rfl) (Steps.refl _) (argsL := []) (rest := []) (lenOf pd_5 rfl) rfl (by show 2 * 0 + _ ≤ _; exact Nat.le_of_eq rfl) (hb hby at_207) (fun _ _ => ⟨rfl, e71, (by decide : 11 + 1 ≤ _), (by decide : 58 + 16 ≤ _)⟩)
        dsimp only [Pt.U, Pt.locs, Pt.cells, Pt.slots] at X72 l72 y72 z72 st72 hQ72
        subst l72 y72 z72
        obtain ⟨b72, kb72, rfl, N72q, K72, g_b72, z_b72, O_kb72, q72_0, q72_1, q72_2, q72_3⟩ := hQ72
        have ne_b1_b72 : b1 ≠ b72 := Nat.ne_of_lt (Nat.lt_of_lt_of_le E_b1.lt z_b72)
        have ne_b2_b72 : b2 ≠ b72 := Nat.ne_of_lt (Nat.lt_of_lt_of_le V_b2.lt z_b72)
        have ne_b3_b72 : b3 ≠ b72 := Nat.ne_of_lt (Nat.lt_of_lt_of_le E_b3.lt z_b72)
        have ne_b6_b72 : b6 ≠ b72 := Nat.ne_of_lt (Nat.lt_of_lt_of_le E_b6.lt z_b72)
        have ne_b9_b72 : b9 ≠ b72 := Nat.ne_of_lt (Nat.lt_of_lt_of_le E_b9.lt z_b72)
        have ne_b12_b72 : b12 ≠ b72 := Nat.ne_of_lt (Nat.lt_of_lt_of_le E_b12.lt z_b72)
        have ne_b56_b72 : b56 ≠ b72 := Nat.ne_of_lt (Nat.lt_of_lt_of_le V_b56.lt z_b72)
        have sz_b72 : h0.size ≤ b72 := Nat.le_trans Kp.1 z_b72
        have V_b2 := V_b2.keep K72 (ninS (Ne.symm ne_b1_b2) nin0)
        have E_b3 := E_b3.keep K72
        have F_deadline_b3 := F_deadline_b3.keep K72 (ninS (Ne.symm ne_b1_b3) nin0)
        have F_position_b3 := F_position_b3.keep K72 (ninS (Ne.symm ne_b1_b3) nin0)
        have E_b6 := E_b6.keep K72
        have F_deadline_b6 := F_deadline_b6.keep K72 (ninS (Ne.symm ne_b1_b6) nin0)
        have F_position_b6 := F_position_b6.keep K72 (ninS (Ne.symm ne_b1_b6) nin0)
        have E_b9 := E_b9.keep K72
        have F_deadline_b9 := F_deadline_b9.keep K72 (ninS (Ne.symm ne_b1_b9) nin0)
        have F_position_b9 := F_position_b9.keep K72 (ninS (Ne.symm ne_b1_b9) nin0)
        have E_b12 := E_b12.keep K72
        have F_deadline_b12 := F_deadline_b12.keep K72 (ninS (Ne.symm ne_b1_b12) nin0)
        have F_position_b12 := F_position_b12.keep K72 (ninS (Ne.symm ne_b1_b12) nin0)
        have V_b56 := V_b56.keep K72 (ninS (Ne.symm ne_b1_b56) nin0)
        have E_b1 := q72_0
        have F_heap_b1 := q72_1
        have F_size_b1 := q72_2
        have V_b72 := q72_3
        have Kp := Kp.trans K72 (allS (Or.inr sz_b1) all0)
        have Zn := Nat.le_trans Zn K72.1
        have N72 := Fr.app N71 N72q
        refine Run.st (S' := T72.setTop (mkF m 212 #[.val (.int p0), .val (.long q1), .second, .val (.long q2), .second, .val (.long q3), .second, .val (.long q4), .second, .val (.ref b1), .val (.ref b3), .val (.ref b6), .val (.ref b9), .val (.ref b12), .val (.ref b9), .val (.ref b12)] [(.ref b1)])) (fun _ k => st72.trans (XS.aload X72.here hx rfl (hb hby at_210) rfl rfl k)) ?_
        obtain ⟨cq73, kq73, q73a, q73b, q73c⟩ := isOf hZ rfl E_b1
        obtain ⟨_, _, ⟨T73, L73, k73, n73⟩, -, X73, ⟨Lc73, hQ73, l73, y73, z73⟩, st73⟩ := X72.virtualBack hx (y := (⟨"com/example/keys_to_structures/keystostructures/store/ExpiryQueue", "first", "()Lcom/example/keys_to_structures/keystostructures/store/TimedEntry;"⟩ : MethodName)) (z := (⟨"com/example/keys_to_structures/keystostructures/store/ExpiryQueue", "first", "()Lcom/example/keys_to_structures/keystostructures/store/TimedEntry;"⟩ : MethodName)) hown (mvT hZ (hw _ (List.mem_of_getElem? (i := 48) rfl))) (mvT hZ (hw _ (List.mem_of_getElem? (i := 49) rfl))) (notFace_of_selects (args := #[]) (mvT hZ (hw _ (List.mem_of_getElem? (i := 51) rfl)))) (mvT hZ (hw _ (List.mem_of_getElem? (i := 51) rfl))) (mvT hZ (hw _ (List.mem_of_getElem? (i := 50) rfl))) (by decide) (backOf (W := 0) (rmFi0 l Z aV hw [] b1 b72 kb72 .null .null .null T72.heap n0 Zn F_heap_b1 F_size_b1 V_b72) hZ (hw _ (List.mem_of_getElem? (i := 52) rfl)) (hw _ (List.mem_of_getElem? (i := 2) rfl)) (by decide) (by decide)) q73a q73c (g := (mkF m 212 #[.val (.int p0), .val (.long q1), .second, .val (.long q2), .second, .val (.long q3), .second, .val (.long q4), .second, .val (.ref b1), .val (.ref b3), .val (.ref b6), .val (.ref b9), .val (.ref b12), .val (.ref b9), .val (.ref b12)] [(.ref b1)])) rfl (by rw [hml]; rfl) (Steps.refl _) (argsL := []) (rest := []) (lenOf pd_7 rfl) rfl (by show 2 * 0 + _ ≤ _; exact Nat.le_of_eq rfl) (hb hby at_212) (fun _ _ => ⟨rfl, rfl, (by decide : 12 + 0 ≤ _), (by decide : 74 + 0 ≤ _)⟩)
        dsimp only [Pt.U, Pt.locs, Pt.cells, Pt.slots] at X73 l73 y73 z73 st73 hQ73
        subst l73 y73 z73
        obtain ⟨rfl, N73q, e73⟩ := hQ73
        have N73 := Fr.app N72 N73q
        refine Run.st (S' := T73.setTop (mkF m 223 #[.val (.int p0), .val (.long q1), .second, .val (.long q2), .second, .val (.long q3), .second, .val (.long q4), .second, .val (.ref b1), .val (.ref b3), .val (.ref b6), .val (.ref b9), .val (.ref b12), .val (.ref b9), .val (.ref b12)] [(.int (1 : Int32))])) (fun _ k => st73.trans (XS.ifnonnullNo X73.here hx rfl (hb hby at_215) rfl (XS.iconst X73.here hx rfl (hb hby at_218) (XS.goto X73.here hx rfl (pc0 := 219) (pc' := 223) rfl (hb hby at_219) (by decide) (by decide) k)))) ?_
        refine Run.out X73 hx Bd.notSynchronized Bd.returns rfl (Or.inl ⟨rfl, by simp, _, rfl⟩) (hb hby at_223) (by decide) (by decide) ?_
        rw [e73]
        exact ⟨rfl, N73⟩
    · refine Run.st (S' := T54.setTop (mkF m 90 #[.val (.int p0), .val (.long q1), .second, .val (.long q2), .second, .val (.long q3), .second, .val (.long q4), .second, .val (.ref b1), .val (.ref b3), .val (.ref b6), .val (.ref b9), .val (.ref b12), .unset, .unset] [(.ref b6), (.ref b1)])) (fun _ k => XS.ifNo X54.here hx rfl (hb hby at_83) rfl ((if0 _ _).trans (feq hc83_55).1) (XS.aload X54.here hx rfl (hb hby at_86) rfl rfl (XS.aload X54.here hx rfl (hb hby at_88) rfl rfl k))) ?_
      by_cases hk90_74 : q2 < q1
      · obtain ⟨cq75, kq75, q75a, q75b, q75c⟩ := isOf hZ rfl E_b1
        obtain ⟨_, _, ⟨T75, L75, k75, n75⟩, -, X75, ⟨Lc75, hQ75, l75, y75, z75⟩, st75⟩ := X54.virtualBack hx (y := (⟨"com/example/keys_to_structures/keystostructures/store/ExpiryQueue", "add", "(Lcom/example/keys_to_structures/keystostructures/store/TimedEntry;)V"⟩ : MethodName)) (z := (⟨"com/example/keys_to_structures/keystostructures/store/ExpiryQueue", "add", "(Lcom/example/keys_to_structures/keystostructures/store/TimedEntry;)V"⟩ : MethodName)) hown (mvT hZ (hw _ (List.mem_of_getElem? (i := 53) rfl))) (mvT hZ (hw _ (List.mem_of_getElem? (i := 54) rfl))) (notFace_of_selects (args := #[]) (mvT hZ (hw _ (List.mem_of_getElem? (i := 56) rfl)))) (mvT hZ (hw _ (List.mem_of_getElem? (i := 56) rfl))) (mvT hZ (hw _ (List.mem_of_getElem? (i := 55) rfl))) (by decide) (backOf (W := 0) (rmAd1s l Z aV hw [] b1 b6 b2 kb2 .null .null q2 (0 : Int32) b3 q1 (0 : Int32) T54.heap n0 Zn g_b1 g_b2 O_kb2 g_b6 g_b3 E_b1 F_heap_b1 F_size_b1 V_b2 E_b6 F_deadline_b6 F_position_b6 E_b3 F_deadline_b3 F_position_b3 ne_b1_b2 ne_b1_b6 ne_b1_b3 ne_b2_b6 ne_b2_b3 (Ne.symm ne_b3_b6) hk90_74) hZ (hw _ (List.mem_of_getElem? (i := 57) rfl)) (hw _ (List.mem_of_getElem? (i := 2) rfl)) (by decide) (by decide)) q75a q75c (g := (mkF m 90 #[.val (.int p0), .val (.long q1), .second, .val (.long q2), .second, .val (.long q3), .second, .val (.long q4), .second, .val (.ref b1), .val (.ref b3), .val (.ref b6), .val (.ref b9), .val (.ref b12), .unset, .unset] [(.ref b6), (.ref b1)])) rfl (by rw [hml]; rfl) (Steps.refl _) (argsL := [(.ref b6)]) (rest := []) (lenOf pd_8 rfl) rfl (by show 2 * 0 + _ ≤ _; exact Nat.le_of_eq rfl) (hb hby at_90) (fun _ _ => ⟨rfl, rfl, (by decide : 10 + 0 ≤ _), (by decide : 42 + 0 ≤ _)⟩)
        dsimp only [Pt.U, Pt.locs, Pt.cells, Pt.slots] at X75 l75 y75 z75 st75 hQ75
        subst l75 y75 z75
        obtain ⟨rfl, N75q, K75, q75_0, q75_1, q75_2, q75_3, q75_4, q75_5, q75_6, q75_7, q75_8, q75_9⟩ := hQ75
        have E_b9 := E_b9.keep K75
        have F_deadline_b9 := F_deadline_b9.keep K75 (ninS (Ne.symm ne_b1_b9) (ninS (Ne.symm ne_b2_b9) (ninS (Ne.symm ne_b6_b9) (ninS (Ne.symm ne_b3_b9) nin0))))
        have F_position_b9 := F_position_b9.keep K75 (ninS (Ne.symm ne_b1_b9) (ninS (Ne.symm ne_b2_b9) (ninS (Ne.symm ne_b6_b9) (ninS (Ne.symm ne_b3_b9) nin0))))
        have E_b12 := E_b12.keep K75
        have F_deadline_b12 := F_deadline_b12.keep K75 (ninS (Ne.symm ne_b1_b12) (ninS (Ne.symm ne_b2_b12) (ninS (Ne.symm ne_b6_b12) (ninS (Ne.symm ne_b3_b12) nin0))))
        have F_position_b12 := F_position_b12.keep K75 (ninS (Ne.symm ne_b1_b12) (ninS (Ne.symm ne_b2_b12) (ninS (Ne.symm ne_b6_b12) (ninS (Ne.symm ne_b3_b12) nin0))))
        have E_b1 := q75_0
        have F_heap_b1 := q75_1
        have F_size_b1 := q75_2
        have V_b2 := q75_3
        have E_b6 := q75_4
        have F_deadline_b6 := q75_5
        have F_position_b6 := q75_6
        have E_b3 := q75_7
        have F_deadline_b3 := q75_8
        have F_position_b3 := q75_9
        have Kp := Kp.trans K75 (allS (Or.inr sz_b1) (allS (Or.inr sz_b2) (allS (Or.inr sz_b6) (allS (Or.inr sz_b3) all0))))
        have Zn := Nat.le_trans Zn K75.1
        have N75 := Fr.app N54 N75q
        refine Run.st (S' := T75.setTop (mkF m 95 #[.val (.int p0), .val (.long q1), .second, .val (.long q2), .second, .val (.long q3), .second, .val (.long q4), .second, .val (.ref b1), .val (.ref b3), .val (.ref b6), .val (.ref b9), .val (.ref b12), .unset, .unset] [(.ref b1)])) (fun _ k => st75.trans (XS.aload X75.here hx rfl (hb hby at_93) rfl rfl k)) ?_
        obtain ⟨cq76, kq76, q76a, q76b, q76c⟩ := isOf hZ rfl E_b1
        obtain ⟨_, _, ⟨T76, L76, k76, n76⟩, -, X76, ⟨Lc76, hQ76, l76, y76, z76⟩, st76⟩ := X75.virtualBack hx (y := (⟨"com/example/keys_to_structures/keystostructures/store/ExpiryQueue", "clear", "()V"⟩ : MethodName)) (z := (⟨"com/example/keys_to_structures/keystostructures/store/ExpiryQueue", "clear", "()V"⟩ : MethodName)) hown (mvT hZ (hw _ (List.mem_of_getElem? (i := 41) rfl))) (mvT hZ (hw _ (List.mem_of_getElem? (i := 42) rfl))) (notFace_of_selects (args := #[]) (mvT hZ (hw _ (List.mem_of_getElem? (i := 44) rfl)))) (mvT hZ (hw _ (List.mem_of_getElem? (i := 44) rfl))) (mvT hZ (hw _ (List.mem_of_getElem? (i := 43) rfl))) (by decide) (backOf (W := 0) (rmClr l Z aV hw [] b1 b2 (2 : Int32) T75.heap n0 Zn g_b1 E_b1 F_heap_b1 F_size_b1) hZ (hw _ (List.mem_of_getElem? (i := 45) rfl)) (hw _ (List.mem_of_getElem? (i := 2) rfl)) (by decide) (by decide)) q76a q76c (g := (mkF m 95 #[.val (.int p0), .val (.long q1), .second, .val (.long q2), .second, .val (.long q3), .second, .val (.long q4), .second, .val (.ref b1), .val (.ref b3), .val (.ref b6), .val (.ref b9), .val (.ref b12), .unset, .unset] [(.ref b1)])) rfl (by rw [hml]; rfl) (Steps.refl _) (argsL := []) (rest := []) (lenOf pd_5 rfl) rfl (by show 2 * 0 + _ ≤ _; exact Nat.le_of_eq rfl) (hb hby at_95) (fun _ _ => ⟨rfl, rfl, (by decide : 10 + 1 ≤ _), (by decide : 42 + 16 ≤ _)⟩)
        dsimp only [Pt.U, Pt.locs, Pt.cells, Pt.slots] at X76 l76 y76 z76 st76 hQ76
        subst l76 y76 z76
        obtain ⟨b76, kb76, rfl, N76q, K76, g_b76, z_b76, O_kb76, q76_0, q76_1, q76_2, q76_3⟩ := hQ76
        have ne_b1_b76 : b1 ≠ b76 := Nat.ne_of_lt (Nat.lt_of_lt_of_le E_b1.lt z_b76)
        have ne_b2_b76 : b2 ≠ b76 := Nat.ne_of_lt (Nat.lt_of_lt_of_le V_b2.lt z_b76)
        have ne_b3_b76 : b3 ≠ b76 := Nat.ne_of_lt (Nat.lt_of_lt_of_le E_b3.lt z_b76)
        have ne_b6_b76 : b6 ≠ b76 := Nat.ne_of_lt (Nat.lt_of_lt_of_le E_b6.lt z_b76)
        have ne_b9_b76 : b9 ≠ b76 := Nat.ne_of_lt (Nat.lt_of_lt_of_le E_b9.lt z_b76)
        have ne_b12_b76 : b12 ≠ b76 := Nat.ne_of_lt (Nat.lt_of_lt_of_le E_b12.lt z_b76)
        have sz_b76 : h0.size ≤ b76 := Nat.le_trans Kp.1 z_b76
        have V_b2 := V_b2.keep K76 (ninS (Ne.symm ne_b1_b2) nin0)
        have E_b3 := E_b3.keep K76
        have F_deadline_b3 := F_deadline_b3.keep K76 (ninS (Ne.symm ne_b1_b3) nin0)
        have F_position_b3 := F_position_b3.keep K76 (ninS (Ne.symm ne_b1_b3) nin0)
        have E_b6 := E_b6.keep K76
        have F_deadline_b6 := F_deadline_b6.keep K76 (ninS (Ne.symm ne_b1_b6) nin0)
        have F_position_b6 := F_position_b6.keep K76 (ninS (Ne.symm ne_b1_b6) nin0)
        have E_b9 := E_b9.keep K76
        have F_deadline_b9 := F_deadline_b9.keep K76 (ninS (Ne.symm ne_b1_b9) nin0)
        have F_position_b9 := F_position_b9.keep K76 (ninS (Ne.symm ne_b1_b9) nin0)
        have E_b12 := E_b12.keep K76
        have F_deadline_b12 := F_deadline_b12.keep K76 (ninS (Ne.symm ne_b1_b12) nin0)
        have F_position_b12 := F_position_b12.keep K76 (ninS (Ne.symm ne_b1_b12) nin0)
        have E_b1 := q76_0
        have F_heap_b1 := q76_1
        have F_size_b1 := q76_2
        have V_b76 := q76_3
        have Kp := Kp.trans K76 (allS (Or.inr sz_b1) all0)
        have Zn := Nat.le_trans Zn K76.1
        have N76 := Fr.app N75 N76q
        refine Run.st (S' := T76.setTop (mkF m 100 #[.val (.int p0), .val (.long q1), .second, .val (.long q2), .second, .val (.long q3), .second, .val (.long q4), .second, .val (.ref b1), .val (.ref b3), .val (.ref b6), .val (.ref b9), .val (.ref b12), .unset, .unset] [(.ref b1)])) (fun _ k => st76.trans (XS.aload X76.here hx rfl (hb hby at_98) rfl rfl k)) ?_
        obtain ⟨cq77, kq77, q77a, q77b, q77c⟩ := isOf hZ rfl E_b1
        obtain ⟨_, _, ⟨T77, L77, k77, n77⟩, -, X77, ⟨Lc77, hQ77, l77, y77, z77⟩, st77⟩ := X76.virtualBack hx (y := (⟨"com/example/keys_to_structures/keystostructures/store/ExpiryQueue", "first", "()Lcom/example/keys_to_structures/keystostructures/store/TimedEntry;"⟩ : MethodName)) (z := (⟨"com/example/keys_to_structures/keystostructures/store/ExpiryQueue", "first", "()Lcom/example/keys_to_structures/keystostructures/store/TimedEntry;"⟩ : MethodName)) hown (mvT hZ (hw _ (List.mem_of_getElem? (i := 48) rfl))) (mvT hZ (hw _ (List.mem_of_getElem? (i := 49) rfl))) (notFace_of_selects (args := #[]) (mvT hZ (hw _ (List.mem_of_getElem? (i := 51) rfl)))) (mvT hZ (hw _ (List.mem_of_getElem? (i := 51) rfl))) (mvT hZ (hw _ (List.mem_of_getElem? (i := 50) rfl))) (by decide) (backOf (W := 0) (rmFi0 l Z aV hw [] b1 b76 kb76 .null .null .null T76.heap n0 Zn F_heap_b1 F_size_b1 V_b76) hZ (hw _ (List.mem_of_getElem? (i := 52) rfl)) (hw _ (List.mem_of_getElem? (i := 2) rfl)) (by decide) (by decide)) q77a q77c (g := (mkF m 100 #[.val (.int p0), .val (.long q1), .second, .val (.long q2), .second, .val (.long q3), .second, .val (.long q4), .second, .val (.ref b1), .val (.ref b3), .val (.ref b6), .val (.ref b9), .val (.ref b12), .unset, .unset] [(.ref b1)])) rfl (by rw [hml]; rfl) (Steps.refl _) (argsL := []) (rest := []) (lenOf pd_7 rfl) rfl (by show 2 * 0 + _ ≤ _; exact Nat.le_of_eq rfl) (hb hby at_100) (fun _ _ => ⟨rfl, rfl, (by decide : 11 + 0 ≤ _), (by decide : 58 + 0 ≤ _)⟩)
        dsimp only [Pt.U, Pt.locs, Pt.cells, Pt.slots] at X77 l77 y77 z77 st77 hQ77
        subst l77 y77 z77
        obtain ⟨rfl, N77q, e77⟩ := hQ77
        have N77 := Fr.app N76 N77q
        refine Run.st (S' := T77.setTop (mkF m 112 #[.val (.int p0), .val (.long q1), .second, .val (.long q2), .second, .val (.long q3), .second, .val (.long q4), .second, .val (.ref b1), .val (.ref b3), .val (.ref b6), .val (.ref b9), .val (.ref b12), .unset, .unset] [(.ref b9), (.ref b1)])) (fun _ k => st77.trans (XS.ifnullYes X77.here hx rfl (pc0 := 103) (pc' := 108) rfl (hb hby at_103) rfl (by decide) (by decide) (XS.aload X77.here hx rfl (hb hby at_108) rfl rfl (XS.aload X77.here hx rfl (hb hby at_110) rfl rfl k)))) ?_
        obtain ⟨cq78, kq78, q78a, q78b, q78c⟩ := isOf hZ e77 E_b1
        obtain ⟨_, _, ⟨T78, L78, k78, n78⟩, -, X78, ⟨Lc78, hQ78, l78, y78, z78⟩, st78⟩ := X77.virtualBack hx (y := (⟨"com/example/keys_to_structures/keystostructures/store/ExpiryQueue", "add", "(Lcom/example/keys_to_structures/keystostructures/store/TimedEntry;)V"⟩ : MethodName)) (z := (⟨"com/example/keys_to_structures/keystostructures/store/ExpiryQueue", "add", "(Lcom/example/keys_to_structures/keystostructures/store/TimedEntry;)V"⟩ : MethodName)) hown (mvT hZ (hw _ (List.mem_of_getElem? (i := 53) rfl))) (mvT hZ (hw _ (List.mem_of_getElem? (i := 54) rfl))) (notFace_of_selects (args := #[]) (mvT hZ (hw _ (List.mem_of_getElem? (i := 56) rfl)))) (mvT hZ (hw _ (List.mem_of_getElem? (i := 56) rfl))) (mvT hZ (hw _ (List.mem_of_getElem? (i := 55) rfl))) (by decide) (backOf (W := 0) (rmAd0 l Z aV hw [] b1 b9 b76 kb76 .null .null .null q3 (0 : Int32) T76.heap n0 Zn g_b1 g_b76 O_kb76 g_b9 E_b1 F_heap_b1 F_size_b1 V_b76 E_b9 F_deadline_b9 F_position_b9 ne_b1_b76 ne_b1_b9 (Ne.symm ne_b9_b76)) hZ (hw _ (List.mem_of_getElem? (i := 57) rfl)) (hw _ (List.mem_of_getElem? (i := 2) rfl)) (by decide) (by decide)) q78a q78c (g := (mkF m 112 #[.val (.int p0), .val (.long q1), .second, .val (.long q2), .second, .val (.long q3), .second, .val (.long q4), .second, .val (.ref b1), .val (.ref b3), .val (.ref b6), .val (.ref b9), .val (.ref b12), .unset, .unset] [(.ref b9), (.ref b1)])) rfl (by rw [hml]; rfl) (Steps.refl _) (argsL := [(.ref b9)]) (rest := []) (lenOf pd_8 rfl) rfl (by show 2 * 0 + _ ≤ _; exact Nat.le_of_eq rfl) (hb hby at_112) (fun _ _ => ⟨rfl, e77, (by decide : 11 + 0 ≤ _), (by decide : 58 + 0 ≤ _)⟩)
        dsimp only [Pt.U, Pt.locs, Pt.cells, Pt.slots] at X78 l78 y78 z78 st78 hQ78
        subst l78 y78 z78
        obtain ⟨rfl, N78q, K78, q78_0, q78_1, q78_2, q78_3, q78_4, q78_5, q78_6⟩ := hQ78
        have V_b2 := V_b2.keep K78 (ninS (Ne.symm ne_b1_b2) (ninS ne_b2_b76 (ninS ne_b2_b9 nin0)))
        have E_b3 := E_b3.keep K78
        have F_deadline_b3 := F_deadline_b3.keep K78 (ninS (Ne.symm ne_b1_b3) (ninS ne_b3_b76 (ninS ne_b3_b9 nin0)))
        have F_position_b3 := F_position_b3.keep K78 (ninS (Ne.symm ne_b1_b3) (ninS ne_b3_b76 (ninS ne_b3_b9 nin0)))
        have E_b6 := E_b6.keep K78
        have F_deadline_b6 := F_deadline_b6.keep K78 (ninS (Ne.symm ne_b1_b6) (ninS ne_b6_b76 (ninS ne_b6_b9 nin0)))
        have F_position_b6 := F_position_b6.keep K78 (ninS (Ne.symm ne_b1_b6) (ninS ne_b6_b76 (ninS ne_b6_b9 nin0)))
        have E_b12 := E_b12.keep K78
        have F_deadline_b12 := F_deadline_b12.keep K78 (ninS (Ne.symm ne_b1_b12) (ninS ne_b12_b76 (ninS (Ne.symm ne_b9_b12) nin0)))
        have F_position_b12 := F_position_b12.keep K78 (ninS (Ne.symm ne_b1_b12) (ninS ne_b12_b76 (ninS (Ne.symm ne_b9_b12) nin0)))
        have E_b1 := q78_0
        have F_heap_b1 := q78_1
        have F_size_b1 := q78_2
        have V_b76 := q78_3
        have E_b9 := q78_4
        have F_deadline_b9 := q78_5
        have F_position_b9 := q78_6
        have Kp := Kp.trans K78 (allS (Or.inr sz_b1) (allS (Or.inr sz_b76) (allS (Or.inr sz_b9) all0)))
        have Zn := Nat.le_trans Zn K78.1
        have N78 := Fr.app N77 N78q
        refine Run.st (S' := T78.setTop (mkF m 117 #[.val (.int p0), .val (.long q1), .second, .val (.long q2), .second, .val (.long q3), .second, .val (.long q4), .second, .val (.ref b1), .val (.ref b3), .val (.ref b6), .val (.ref b9), .val (.ref b12), .unset, .unset] [(.ref b1)])) (fun _ k => st78.trans (XS.aload X78.here hx rfl (hb hby at_115) rfl rfl k)) ?_
        obtain ⟨cq79, kq79, q79a, q79b, q79c⟩ := isOf hZ rfl E_b1
        obtain ⟨_, _, ⟨T79, L79, k79, n79⟩, -, X79, ⟨Lc79, hQ79, l79, y79, z79⟩, st79⟩ := X78.virtualBack hx (y := (⟨"com/example/keys_to_structures/keystostructures/store/ExpiryQueue", "first", "()Lcom/example/keys_to_structures/keystostructures/store/TimedEntry;"⟩ : MethodName)) (z := (⟨"com/example/keys_to_structures/keystostructures/store/ExpiryQueue", "first", "()Lcom/example/keys_to_structures/keystostructures/store/TimedEntry;"⟩ : MethodName)) hown (mvT hZ (hw _ (List.mem_of_getElem? (i := 48) rfl))) (mvT hZ (hw _ (List.mem_of_getElem? (i := 49) rfl))) (notFace_of_selects (args := #[]) (mvT hZ (hw _ (List.mem_of_getElem? (i := 51) rfl)))) (mvT hZ (hw _ (List.mem_of_getElem? (i := 51) rfl))) (mvT hZ (hw _ (List.mem_of_getElem? (i := 50) rfl))) (by decide) (backOf (W := 0) (rmFi1 l Z aV hw [] b1 b76 kb76 b9 .null .null T78.heap n0 Zn F_heap_b1 F_size_b1 V_b76) hZ (hw _ (List.mem_of_getElem? (i := 52) rfl)) (hw _ (List.mem_of_getElem? (i := 2) rfl)) (by decide) (by decide)) q79a q79c (g := (mkF m 117 #[.val (.int p0), .val (.long q1), .second, .val (.long q2), .second, .val (.long q3), .second, .val (.long q4), .second, .val (.ref b1), .val (.ref b3), .val (.ref b6), .val (.ref b9), .val (.ref b12), .unset, .unset] [(.ref b1)])) rfl (by rw [hml]; rfl) (Steps.refl _) (argsL := []) (rest := []) (lenOf pd_7 rfl) rfl (by show 2 * 0 + _ ≤ _; exact Nat.le_of_eq rfl) (hb hby at_117) (fun _ _ => ⟨rfl, rfl, (by decide : 11 + 0 ≤ _), (by decide : 58 + 0 ≤ _)⟩)
        dsimp only [Pt.U, Pt.locs, Pt.cells, Pt.slots] at X79 l79 y79 z79 st79 hQ79
        subst l79 y79 z79
        obtain ⟨rfl, N79q, e79⟩ := hQ79
        have N79 := Fr.app N78 N79q
        refine Run.st (S' := T79.setTop (mkF m 127 #[.val (.int p0), .val (.long q1), .second, .val (.long q2), .second, .val (.long q3), .second, .val (.long q4), .second, .val (.ref b1), .val (.ref b3), .val (.ref b6), .val (.ref b9), .val (.ref b12), .unset, .unset] [(.ref b9)])) (fun _ k => st79.trans (XS.aload X79.here hx rfl (hb hby at_120) rfl rfl (Jvm.RoadKit.acmp (g := (mkF m 122 #[.val (.int p0), .val (.long q1), .second, .val (.long q2), .second, .val (.long q3), .second, .val (.long q4), .second, .val (.ref b1), .val (.ref b3), .val (.ref b6), .val (.ref b9), .val (.ref b12), .unset, .unset] [(.ref b9), (.ref b9)])) X79 hx rfl rfl rfl (pc0 := 122) (pc' := 125) (same := true) rfl (hb hby at_122) rfl (decide_eq_true rfl) (by decide) (by decide) (XS.aload X79.here hx rfl (hb hby at_125) rfl rfl k)))) ?_
        obtain ⟨cq80, kq80, q80a, q80b, q80c⟩ := isOf hZ e79 E_b9
        obtain ⟨_, _, ⟨T80, L80, k80, n80⟩, -, X80, ⟨Lc80, hQ80, l80, y80, z80⟩, st80⟩ := X79.virtualBack hx (y := (⟨"com/example/keys_to_structures/keystostructures/store/TimedEntry", "position", "()I"⟩ : MethodName)) (z := (⟨"com/example/keys_to_structures/keystostructures/store/TimedEntry", "position", "()I"⟩ : MethodName)) hown (mvT hZ (hw _ (List.mem_of_getElem? (i := 74) rfl))) (mvT hZ (hw _ (List.mem_of_getElem? (i := 75) rfl))) (notFace_of_selects (args := #[]) (mvT hZ (hw _ (List.mem_of_getElem? (i := 77) rfl)))) (mvT hZ (hw _ (List.mem_of_getElem? (i := 77) rfl))) (mvT hZ (hw _ (List.mem_of_getElem? (i := 76) rfl))) (by decide) (backOf (W := 0) (rmPo l Z aV hw [] b9 (0 : Int32) T78.heap n0 Zn F_position_b9) hZ (hw _ (List.mem_of_getElem? (i := 78) rfl)) (hw _ (List.mem_of_getElem? (i := 15) rfl)) (by decide) (by decide)) q80a q80c (g := (mkF m 127 #[.val (.int p0), .val (.long q1), .second, .val (.long q2), .second, .val (.long q3), .second, .val (.long q4), .second, .val (.ref b1), .val (.ref b3), .val (.ref b6), .val (.ref b9), .val (.ref b12), .unset, .unset] [(.ref b9)])) rfl (by rw [hml]; rfl) (Steps.refl _) (argsL := []) (rest := []) (lenOf pd_9 rfl) rfl (by show 2 * 0 + _ ≤ _; exact Nat.le_of_eq rfl) (hb hby at_127) (fun _ _ => ⟨rfl, e79, (by decide : 11 + 0 ≤ _), (by decide : 58 + 0 ≤ _)⟩)
        dsimp only [Pt.U, Pt.locs, Pt.cells, Pt.slots] at X80 l80 y80 z80 st80 hQ80
        subst l80 y80 z80
        obtain ⟨rfl, N80q, e80⟩ := hQ80
        have N80 := Fr.app N79 N80q
        refine Run.st (S' := T80.setTop (mkF m 139 #[.val (.int p0), .val (.long q1), .second, .val (.long q2), .second, .val (.long q3), .second, .val (.long q4), .second, .val (.ref b1), .val (.ref b3), .val (.ref b6), .val (.ref b9), .val (.ref b12), .unset, .unset] [(.ref b12), (.ref b1)])) (fun _ k => st80.trans (XS.ifYes X80.here hx rfl (pc0 := 130) (pc' := 135) rfl (hb hby at_130) rfl ((if0 _ _).trans (teq (show (0 : Int32) = (0 : Int32) from (by decide))).1) (by decide) (by decide) (XS.aload X80.here hx rfl (hb hby at_135) rfl rfl (XS.aload X80.here hx rfl (hb hby at_137) rfl rfl k)))) ?_
        by_cases hk139_81 : q4 < q3
        · obtain ⟨cq82, kq82, q82a, q82b, q82c⟩ := isOf hZ e80 E_b1
          obtain ⟨_, _, ⟨T82, L82, k82, n82⟩, -, X82, ⟨Lc82, hQ82, l82, y82, z82⟩, st82⟩ := X80.virtualBack hx (y := (⟨"com/example/keys_to_structures/keystostructures/store/ExpiryQueue", "add", "(Lcom/example/keys_to_structures/keystostructures/store/TimedEntry;)V"⟩ : MethodName)) (z := (⟨"com/example/keys_to_structures/keystostructures/store/ExpiryQueue", "add", "(Lcom/example/keys_to_structures/keystostructures/store/TimedEntry;)V"⟩ : MethodName)) hown (mvT hZ (hw _ (List.mem_of_getElem? (i := 53) rfl))) (mvT hZ (hw _ (List.mem_of_getElem? (i := 54) rfl))) (notFace_of_selects (args := #[]) (mvT hZ (hw _ (List.mem_of_getElem? (i := 56) rfl)))) (mvT hZ (hw _ (List.mem_of_getElem? (i := 56) rfl))) (mvT hZ (hw _ (List.mem_of_getElem? (i := 55) rfl))) (by decide) (backOf (W := 0) (rmAd1s l Z aV hw [] b1 b12 b76 kb76 .null .null q4 (0 : Int32) b9 q3 (0 : Int32) T78.heap n0 Zn g_b1 g_b76 O_kb76 g_b12 g_b9 E_b1 F_heap_b1 F_size_b1 V_b76 E_b12 F_deadline_b12 F_position_b12 E_b9 F_deadline_b9 F_position_b9 ne_b1_b76 ne_b1_b12 ne_b1_b9 (Ne.symm ne_b12_b76) (Ne.symm ne_b9_b76) (Ne.symm ne_b9_b12) hk139_81) hZ (hw _ (List.mem_of_getElem? (i := 57) rfl)) (hw _ (List.mem_of_getElem? (i := 2) rfl)) (by decide) (by decide)) q82a q82c (g := (mkF m 139 #[.val (.int p0), .val (.long q1), .second, .val (.long q2), .second, .val (.long q3), .second, .val (.long q4), .second, .val (.ref b1), .val (.ref b3), .val (.ref b6), .val (.ref b9), .val (.ref b12), .unset, .unset] [(.ref b12), (.ref b1)])) rfl (by rw [hml]; rfl) (Steps.refl _) (argsL := [(.ref b12)]) (rest := []) (lenOf pd_8 rfl) rfl (by show 2 * 0 + _ ≤ _; exact Nat.le_of_eq rfl) (hb hby at_139) (fun _ _ => ⟨rfl, e80, (by decide : 11 + 0 ≤ _), (by decide : 58 + 0 ≤ _)⟩)
          dsimp only [Pt.U, Pt.locs, Pt.cells, Pt.slots] at X82 l82 y82 z82 st82 hQ82
          subst l82 y82 z82
          obtain ⟨rfl, N82q, K82, q82_0, q82_1, q82_2, q82_3, q82_4, q82_5, q82_6, q82_7, q82_8, q82_9⟩ := hQ82
          have V_b2 := V_b2.keep K82 (ninS (Ne.symm ne_b1_b2) (ninS ne_b2_b76 (ninS ne_b2_b12 (ninS ne_b2_b9 nin0))))
          have E_b3 := E_b3.keep K82
          have F_deadline_b3 := F_deadline_b3.keep K82 (ninS (Ne.symm ne_b1_b3) (ninS ne_b3_b76 (ninS ne_b3_b12 (ninS ne_b3_b9 nin0))))
          have F_position_b3 := F_position_b3.keep K82 (ninS (Ne.symm ne_b1_b3) (ninS ne_b3_b76 (ninS ne_b3_b12 (ninS ne_b3_b9 nin0))))
          have E_b6 := E_b6.keep K82
          have F_deadline_b6 := F_deadline_b6.keep K82 (ninS (Ne.symm ne_b1_b6) (ninS ne_b6_b76 (ninS ne_b6_b12 (ninS ne_b6_b9 nin0))))
          have F_position_b6 := F_position_b6.keep K82 (ninS (Ne.symm ne_b1_b6) (ninS ne_b6_b76 (ninS ne_b6_b12 (ninS ne_b6_b9 nin0))))
          have E_b1 := q82_0
          have F_heap_b1 := q82_1
          have F_size_b1 := q82_2
          have V_b76 := q82_3
          have E_b12 := q82_4
          have F_deadline_b12 := q82_5
          have F_position_b12 := q82_6
          have E_b9 := q82_7
          have F_deadline_b9 := q82_8
          have F_position_b9 := q82_9
          have Kp := Kp.trans K82 (allS (Or.inr sz_b1) (allS (Or.inr sz_b76) (allS (Or.inr sz_b12) (allS (Or.inr sz_b9) all0))))
          have Zn := Nat.le_trans Zn K82.1
          have N82 := Fr.app N80 N82q
          refine Run.st (S' := T82.setTop (mkF m 159 #[.val (.int p0), .val (.long q1), .second, .val (.long q2), .second, .val (.long q3), .second, .val (.long q4), .second, .val (.ref b1), .val (.ref b3), .val (.ref b6), .val (.ref b9), .val (.ref b12), .val (.ref b12), .unset] [])) (fun _ k => st82.trans (XS.lload X82.here hx rfl (hb hby at_142) rfl (XS.lload X82.here hx rfl (hb hby at_144) rfl (XS.lcmp X82.here hx rfl (hb hby at_146) rfl (XS.ifNo X82.here hx rfl (hb hby at_147) rfl (lcYes (Jvm.Free.XT.ll_ge_f (show q4 < q3 from hk139_81))) (XS.aload X82.here hx rfl (hb hby at_150) rfl rfl (XS.goto X82.here hx rfl (pc0 := 152) (pc' := 157) rfl (hb hby at_152) (by decide) (by decide) (XS.astore X82.here hx rfl (hb hby at_157) rfl rfl (l' := #[.val (.int p0), .val (.long q1), .second, .val (.long q2), .second, .val (.long q3), .second, .val (.long q4), .second, .val (.ref b1), .val (.ref b3), .val (.ref b6), .val (.ref b9), .val (.ref b12), .val (.ref b12), .unset]) rfl k)))))))) ?_
          refine Run.st (S' := T82.setTop (mkF m 178 #[.val (.int p0), .val (.long q1), .second, .val (.long q2), .second, .val (.long q3), .second, .val (.long q4), .second, .val (.ref b1), .val (.ref b3), .val (.ref b6), .val (.ref b9), .val (.ref b12), .val (.ref b12), .val (.ref b9)] [(.ref b1)])) (fun _ k => XS.lload X82.here hx rfl (hb hby at_159) rfl (XS.lload X82.here hx rfl (hb hby at_161) rfl (XS.lcmp X82.here hx rfl (hb hby at_163) rfl (XS.ifNo X82.here hx rfl (hb hby at_164) rfl (lcYes (Jvm.Free.XT.ll_ge_f (show q4 < q3 from hk139_81))) (XS.aload X82.here hx rfl (hb hby at_167) rfl rfl (XS.goto X82.here hx rfl (pc0 := 169) (pc' := 174) rfl (hb hby at_169) (by decide) (by decide) (XS.astore X82.here hx rfl (hb hby at_174) rfl rfl (l' := #[.val (.int p0), .val (.long q1), .second, .val (.long q2), .second, .val (.long q3), .second, .val (.long q4), .second, .val (.ref b1), .val (.ref b3), .val (.ref b6), .val (.ref b9), .val (.ref b12), .val (.ref b12), .val (.ref b9)]) rfl (XS.aload X82.here hx rfl (hb hby at_176) rfl rfl k)))))))) ?_
          obtain ⟨cq83, kq83, q83a, q83b, q83c⟩ := isOf hZ rfl E_b1
          obtain ⟨_, _, ⟨T83, L83, k83, n83⟩, -, X83, ⟨Lc83, hQ83, l83, y83, z83⟩, st83⟩ := X82.virtualBack hx (y := (⟨"com/example/keys_to_structures/keystostructures/store/ExpiryQueue", "first", "()Lcom/example/keys_to_structures/keystostructures/store/TimedEntry;"⟩ : MethodName)) (z := (⟨"com/example/keys_to_structures/keystostructures/store/ExpiryQueue", "first", "()Lcom/example/keys_to_structures/keystostructures/store/TimedEntry;"⟩ : MethodName)) hown (mvT hZ (hw _ (List.mem_of_getElem? (i := 48) rfl))) (mvT hZ (hw _ (List.mem_of_getElem? (i := 49) rfl))) (notFace_of_selects (args := #[]) (mvT hZ (hw _ (List.mem_of_getElem? (i := 51) rfl)))) (mvT hZ (hw _ (List.mem_of_getElem? (i := 51) rfl))) (mvT hZ (hw _ (List.mem_of_getElem? (i := 50) rfl))) (by decide) (backOf (W := 0) (rmFi2 l Z aV hw [] b1 b76 kb76 b12 (.ref b9) .null T82.heap n0 Zn F_heap_b1 F_size_b1 V_b76) hZ (hw _ (List.mem_of_getElem? (i := 52) rfl)) (hw _ (List.mem_of_getElem? (i := 2) rfl)) (by decide) (by decide)) q83a q83c (g := (mkF m 178 #[.val (.int p0), .val (.long q1), .second, .val (.long q2), .second, .val (.long q3), .second, .val (.long q4), .second, .val (.ref b1), .val (.ref b3), .val (.ref b6), .val (.ref b9), .val (.ref b12), .val (.ref b12), .val (.ref b9)] [(.ref b1)])) rfl (by rw [hml]; rfl) (Steps.refl _) (argsL := []) (rest := []) (lenOf pd_7 rfl) rfl (by show 2 * 0 + _ ≤ _; exact Nat.le_of_eq rfl) (hb hby at_178) (fun _ _ => ⟨rfl, rfl, (by decide : 11 + 0 ≤ _), (by decide : 58 + 0 ≤ _)⟩)
          dsimp only [Pt.U, Pt.locs, Pt.cells, Pt.slots] at X83 l83 y83 z83 st83 hQ83
          subst l83 y83 z83
          obtain ⟨rfl, N83q, e83⟩ := hQ83
          have N83 := Fr.app N82 N83q
          refine Run.st (S' := T83.setTop (mkF m 188 #[.val (.int p0), .val (.long q1), .second, .val (.long q2), .second, .val (.long q3), .second, .val (.long q4), .second, .val (.ref b1), .val (.ref b3), .val (.ref b6), .val (.ref b9), .val (.ref b12), .val (.ref b12), .val (.ref b9)] [(.ref b12)])) (fun _ k => st83.trans (XS.aload X83.here hx rfl (hb hby at_181) rfl rfl (Jvm.RoadKit.acmp (g := (mkF m 183 #[.val (.int p0), .val (.long q1), .second, .val (.long q2), .second, .val (.long q3), .second, .val (.long q4), .second, .val (.ref b1), .val (.ref b3), .val (.ref b6), .val (.ref b9), .val (.ref b12), .val (.ref b12), .val (.ref b9)] [(.ref b12), (.ref b12)])) X83 hx rfl rfl rfl (pc0 := 183) (pc' := 186) (same := true) rfl (hb hby at_183) rfl (decide_eq_true rfl) (by decide) (by decide) (XS.aload X83.here hx rfl (hb hby at_186) rfl rfl k)))) ?_
          obtain ⟨cq84, kq84, q84a, q84b, q84c⟩ := isOf hZ e83 E_b12
          obtain ⟨_, _, ⟨T84, L84, k84, n84⟩, -, X84, ⟨Lc84, hQ84, l84, y84, z84⟩, st84⟩ := X83.virtualBack hx (y := (⟨"com/example/keys_to_structures/keystostructures/store/TimedEntry", "position", "()I"⟩ : MethodName)) (z := (⟨"com/example/keys_to_structures/keystostructures/store/TimedEntry", "position", "()I"⟩ : MethodName)) hown (mvT hZ (hw _ (List.mem_of_getElem? (i := 74) rfl))) (mvT hZ (hw _ (List.mem_of_getElem? (i := 75) rfl))) (notFace_of_selects (args := #[]) (mvT hZ (hw _ (List.mem_of_getElem? (i := 77) rfl)))) (mvT hZ (hw _ (List.mem_of_getElem? (i := 77) rfl))) (mvT hZ (hw _ (List.mem_of_getElem? (i := 76) rfl))) (by decide) (backOf (W := 0) (rmPo l Z aV hw [] b12 (0 : Int32) T82.heap n0 Zn F_position_b12) hZ (hw _ (List.mem_of_getElem? (i := 78) rfl)) (hw _ (List.mem_of_getElem? (i := 15) rfl)) (by decide) (by decide)) q84a q84c (g := (mkF m 188 #[.val (.int p0), .val (.long q1), .second, .val (.long q2), .second, .val (.long q3), .second, .val (.long q4), .second, .val (.ref b1), .val (.ref b3), .val (.ref b6), .val (.ref b9), .val (.ref b12), .val (.ref b12), .val (.ref b9)] [(.ref b12)])) rfl (by rw [hml]; rfl) (Steps.refl _) (argsL := []) (rest := []) (lenOf pd_9 rfl) rfl (by show 2 * 0 + _ ≤ _; exact Nat.le_of_eq rfl) (hb hby at_188) (fun _ _ => ⟨rfl, e83, (by decide : 11 + 0 ≤ _), (by decide : 58 + 0 ≤ _)⟩)
          dsimp only [Pt.U, Pt.locs, Pt.cells, Pt.slots] at X84 l84 y84 z84 st84 hQ84
          subst l84 y84 z84
          obtain ⟨rfl, N84q, e84⟩ := hQ84
          have N84 := Fr.app N83 N84q
          refine Run.st (S' := T84.setTop (mkF m 196 #[.val (.int p0), .val (.long q1), .second, .val (.long q2), .second, .val (.long q3), .second, .val (.long q4), .second, .val (.ref b1), .val (.ref b3), .val (.ref b6), .val (.ref b9), .val (.ref b12), .val (.ref b12), .val (.ref b9)] [(.ref b9)])) (fun _ k => st84.trans (XS.ifNo X84.here hx rfl (hb hby at_191) rfl ((if0 _ _).trans (teq (show (0 : Int32) = (0 : Int32) from (by decide))).2) (XS.aload X84.here hx rfl (hb hby at_194) rfl rfl k))) ?_
          obtain ⟨cq85, kq85, q85a, q85b, q85c⟩ := isOf hZ e84 E_b9
          obtain ⟨_, _, ⟨T85, L85, k85, n85⟩, -, X85, ⟨Lc85, hQ85, l85, y85, z85⟩, st85⟩ := X84.virtualBack hx (y := (⟨"com/example/keys_to_structures/keystostructures/store/TimedEntry", "position", "()I"⟩ : MethodName)) (z := (⟨"com/example/keys_to_structures/keystostructures/store/TimedEntry", "position", "()I"⟩ : MethodName)) hown (mvT hZ (hw _ (List.mem_of_getElem? (i := 74) rfl))) (mvT hZ (hw _ (List.mem_of_getElem? (i := 75) rfl))) (notFace_of_selects (args := #[]) (mvT hZ (hw _ (List.mem_of_getElem? (i := 77) rfl)))) (mvT hZ (hw _ (List.mem_of_getElem? (i := 77) rfl))) (mvT hZ (hw _ (List.mem_of_getElem? (i := 76) rfl))) (by decide) (backOf (W := 0) (rmPo l Z aV hw [] b9 (1 : Int32) T82.heap n0 Zn F_position_b9) hZ (hw _ (List.mem_of_getElem? (i := 78) rfl)) (hw _ (List.mem_of_getElem? (i := 15) rfl)) (by decide) (by decide)) q85a q85c (g := (mkF m 196 #[.val (.int p0), .val (.long q1), .second, .val (.long q2), .second, .val (.long q3), .second, .val (.long q4), .second, .val (.ref b1), .val (.ref b3), .val (.ref b6), .val (.ref b9), .val (.ref b12), .val (.ref b12), .val (.ref b9)] [(.ref b9)])) rfl (by rw [hml]; rfl) (Steps.refl _) (argsL := []) (rest := []) (lenOf pd_9 rfl) rfl (by show 2 * 0 + _ ≤ _; exact Nat.le_of_eq rfl) (hb hby at_196) (fun _ _ => ⟨rfl, e84, (by decide : 11 + 0 ≤ _), (by decide : 58 + 0 ≤ _)⟩)
          dsimp only [Pt.U, Pt.locs, Pt.cells, Pt.slots] at X85 l85 y85 z85 st85 hQ85
          subst l85 y85 z85
          obtain ⟨rfl, N85q, e85⟩ := hQ85
          have N85 := Fr.app N84 N85q
          refine Run.st (S' := T85.setTop (mkF m 207 #[.val (.int p0), .val (.long q1), .second, .val (.long q2), .second, .val (.long q3), .second, .val (.long q4), .second, .val (.ref b1), .val (.ref b3), .val (.ref b6), .val (.ref b9), .val (.ref b12), .val (.ref b12), .val (.ref b9)] [(.ref b1)])) (fun _ k => st85.trans (XS.iconst X85.here hx rfl (hb hby at_199) (XS.icmpYes X85.here hx rfl (pc0 := 200) (pc' := 205) rfl (hb hby at_200) rfl (teq (show (1 : Int32) = (1 : Int32) from (by decide))).1 (by decide) (by decide) (XS.aload X85.here hx rfl (hb hby at_205) rfl rfl k)))) ?_
          obtain ⟨cq86, kq86, q86a, q86b, q86c⟩ := isOf hZ e85 E_b1
          obtain ⟨_, _, ⟨T86, L86, k86, n86⟩, -, X86, ⟨Lc86, hQ86, l86, y86, z86⟩, st86⟩ := X85.virtualBack hx (y := (⟨"com/example/keys_to_structures/keystostructures/store/ExpiryQueue", "clear", "()V"⟩ : MethodName)) (z := (⟨"com/example/keys_to_structures/keystostructures/store/ExpiryQueue", "clear", "()V"⟩ : MethodName)) hown (mvT hZ (hw _ (List.mem_of_getElem? (i := 41) rfl))) (mvT hZ (hw _ (List.mem_of_getElem? (i := 42) rfl))) (notFace_of_selects (args := #[]) (mvT hZ (hw _ (List.mem_of_getElem? (i := 44) rfl)))) (mvT hZ (hw _ (List.mem_of_getElem? (i := 44) rfl))) (mvT hZ (hw _ (List.mem_of_getElem? (i := 43) rfl))) (by decide) (backOf (W := 0) (rmClr l Z aV hw [] b1 b76 (2 : Int32) T82.heap n0 Zn g_b1 E_b1 F_heap_b1 F_size_b1) hZ (hw _ (List.mem_of_getElem? (i := 45) rfl)) (hw _ (List.mem_of_getElem? (i := 2) rfl)) (by decide) (by decide)) q86a q86c (g := (mkF m 207 #[.val (.int p0), .val (.long q1), .second, .val (.long q2), .second, .val (.long q3), .second, .val (.long q4), .second, .val (.ref b1), .val (.ref b3), .val (.ref b6), .val (.ref b9), .val (.ref b12), .val (.ref b12), .val (.ref b9)] [(.ref b1)])) rfl (by rw [hml]; rfl) (Steps.refl _) (argsL := []) (rest := []) (lenOf pd_5 rfl) rfl (by show 2 * 0 + _ ≤ _; exact Nat.le_of_eq rfl) (hb hby at_207) (fun _ _ => ⟨rfl, e85, (by decide : 11 + 1 ≤ _), (by decide : 58 + 16 ≤ _)⟩)
          dsimp only [Pt.U, Pt.locs, Pt.cells, Pt.slots] at X86 l86 y86 z86 st86 hQ86
          subst l86 y86 z86
          obtain ⟨b86, kb86, rfl, N86q, K86, g_b86, z_b86, O_kb86, q86_0, q86_1, q86_2, q86_3⟩ := hQ86
          have ne_b1_b86 : b1 ≠ b86 := Nat.ne_of_lt (Nat.lt_of_lt_of_le E_b1.lt z_b86)
          have ne_b2_b86 : b2 ≠ b86 := Nat.ne_of_lt (Nat.lt_of_lt_of_le V_b2.lt z_b86)
          have ne_b3_b86 : b3 ≠ b86 := Nat.ne_of_lt (Nat.lt_of_lt_of_le E_b3.lt z_b86)
          have ne_b6_b86 : b6 ≠ b86 := Nat.ne_of_lt (Nat.lt_of_lt_of_le E_b6.lt z_b86)
          have ne_b9_b86 : b9 ≠ b86 := Nat.ne_of_lt (Nat.lt_of_lt_of_le E_b9.lt z_b86)
          have ne_b12_b86 : b12 ≠ b86 := Nat.ne_of_lt (Nat.lt_of_lt_of_le E_b12.lt z_b86)
          have ne_b76_b86 : b76 ≠ b86 := Nat.ne_of_lt (Nat.lt_of_lt_of_le V_b76.lt z_b86)
          have sz_b86 : h0.size ≤ b86 := Nat.le_trans Kp.1 z_b86
          have V_b2 := V_b2.keep K86 (ninS (Ne.symm ne_b1_b2) nin0)
          have E_b3 := E_b3.keep K86
          have F_deadline_b3 := F_deadline_b3.keep K86 (ninS (Ne.symm ne_b1_b3) nin0)
          have F_position_b3 := F_position_b3.keep K86 (ninS (Ne.symm ne_b1_b3) nin0)
          have E_b6 := E_b6.keep K86
          have F_deadline_b6 := F_deadline_b6.keep K86 (ninS (Ne.symm ne_b1_b6) nin0)
          have F_position_b6 := F_position_b6.keep K86 (ninS (Ne.symm ne_b1_b6) nin0)
          have E_b9 := E_b9.keep K86
          have F_deadline_b9 := F_deadline_b9.keep K86 (ninS (Ne.symm ne_b1_b9) nin0)
          have F_position_b9 := F_position_b9.keep K86 (ninS (Ne.symm ne_b1_b9) nin0)
          have E_b12 := E_b12.keep K86
          have F_deadline_b12 := F_deadline_b12.keep K86 (ninS (Ne.symm ne_b1_b12) nin0)
          have F_position_b12 := F_position_b12.keep K86 (ninS (Ne.symm ne_b1_b12) nin0)
          have V_b76 := V_b76.keep K86 (ninS (Ne.symm ne_b1_b76) nin0)
          have E_b1 := q86_0
          have F_heap_b1 := q86_1
          have F_size_b1 := q86_2
          have V_b86 := q86_3
          have Kp := Kp.trans K86 (allS (Or.inr sz_b1) all0)
          have Zn := Nat.le_trans Zn K86.1
          have N86 := Fr.app N85 N86q
          refine Run.st (S' := T86.setTop (mkF m 212 #[.val (.int p0), .val (.long q1), .second, .val (.long q2), .second, .val (.long q3), .second, .val (.long q4), .second, .val (.ref b1), .val (.ref b3), .val (.ref b6), .val (.ref b9), .val (.ref b12), .val (.ref b12), .val (.ref b9)] [(.ref b1)])) (fun _ k => st86.trans (XS.aload X86.here hx rfl (hb hby at_210) rfl rfl k)) ?_
          obtain ⟨cq87, kq87, q87a, q87b, q87c⟩ := isOf hZ rfl E_b1
          obtain ⟨_, _, ⟨T87, L87, k87, n87⟩, -, X87, ⟨Lc87, hQ87, l87, y87, z87⟩, st87⟩ := X86.virtualBack hx (y := (⟨"com/example/keys_to_structures/keystostructures/store/ExpiryQueue", "first", "()Lcom/example/keys_to_structures/keystostructures/store/TimedEntry;"⟩ : MethodName)) (z := (⟨"com/example/keys_to_structures/keystostructures/store/ExpiryQueue", "first", "()Lcom/example/keys_to_structures/keystostructures/store/TimedEntry;"⟩ : MethodName)) hown (mvT hZ (hw _ (List.mem_of_getElem? (i := 48) rfl))) (mvT hZ (hw _ (List.mem_of_getElem? (i := 49) rfl))) (notFace_of_selects (args := #[]) (mvT hZ (hw _ (List.mem_of_getElem? (i := 51) rfl)))) (mvT hZ (hw _ (List.mem_of_getElem? (i := 51) rfl))) (mvT hZ (hw _ (List.mem_of_getElem? (i := 50) rfl))) (by decide) (backOf (W := 0) (rmFi0 l Z aV hw [] b1 b86 kb86 .null .null .null T86.heap n0 Zn F_heap_b1 F_size_b1 V_b86) hZ (hw _ (List.mem_of_getElem? (i := 52) rfl)) (hw _ (List.mem_of_getElem? (i := 2) rfl)) (by decide) (by decide)) q87a q87c (g := (mkF m 212 #[.val (.int p0), .val (.long q1), .second, .val (.long q2), .second, .val (.long q3), .second, .val (.long q4), .second, .val (.ref b1), .val (.ref b3), .val (.ref b6), .val (.ref b9), .val (.ref b12), .val (.ref b12), .val (.ref b9)] [(.ref b1)])) rfl (by rw [hml]; rfl) (Steps.refl _) (argsL := []) (rest := []) (lenOf pd_7 rfl) rfl (by show 2 * 0 + _ ≤ _; exact Nat.le_of_eq rfl) (hb hby at_212) (fun _ _ => ⟨rfl, rfl, (by decide : 12 + 0 ≤ _), (by decide : 74 + 0 ≤ _)⟩)
          dsimp only [Pt.U, Pt.locs, Pt.cells, Pt.slots] at X87 l87 y87 z87 st87 hQ87
          subst l87 y87 z87
          obtain ⟨rfl, N87q, e87⟩ := hQ87
          have N87 := Fr.app N86 N87q
          refine Run.st (S' := T87.setTop (mkF m 223 #[.val (.int p0), .val (.long q1), .second, .val (.long q2), .second, .val (.long q3), .second, .val (.long q4), .second, .val (.ref b1), .val (.ref b3), .val (.ref b6), .val (.ref b9), .val (.ref b12), .val (.ref b12), .val (.ref b9)] [(.int (1 : Int32))])) (fun _ k => st87.trans (XS.ifnonnullNo X87.here hx rfl (hb hby at_215) rfl (XS.iconst X87.here hx rfl (hb hby at_218) (XS.goto X87.here hx rfl (pc0 := 219) (pc' := 223) rfl (hb hby at_219) (by decide) (by decide) k)))) ?_
          refine Run.out X87 hx Bd.notSynchronized Bd.returns rfl (Or.inl ⟨rfl, by simp, _, rfl⟩) (hb hby at_223) (by decide) (by decide) ?_
          rw [e87]
          exact ⟨rfl, N87⟩
        · obtain ⟨cq88, kq88, q88a, q88b, q88c⟩ := isOf hZ e80 E_b1
          obtain ⟨_, _, ⟨T88, L88, k88, n88⟩, -, X88, ⟨Lc88, hQ88, l88, y88, z88⟩, st88⟩ := X80.virtualBack hx (y := (⟨"com/example/keys_to_structures/keystostructures/store/ExpiryQueue", "add", "(Lcom/example/keys_to_structures/keystostructures/store/TimedEntry;)V"⟩ : MethodName)) (z := (⟨"com/example/keys_to_structures/keystostructures/store/ExpiryQueue", "add", "(Lcom/example/keys_to_structures/keystostructures/store/TimedEntry;)V"⟩ : MethodName)) hown (mvT hZ (hw _ (List.mem_of_getElem? (i := 53) rfl))) (mvT hZ (hw _ (List.mem_of_getElem? (i := 54) rfl))) (notFace_of_selects (args := #[]) (mvT hZ (hw _ (List.mem_of_getElem? (i := 56) rfl)))) (mvT hZ (hw _ (List.mem_of_getElem? (i := 56) rfl))) (mvT hZ (hw _ (List.mem_of_getElem? (i := 55) rfl))) (by decide) (backOf (W := 0) (rmAd1 l Z aV hw [] b1 b12 b76 kb76 .null .null q4 (0 : Int32) b9 q3 (0 : Int32) T78.heap n0 Zn g_b1 g_b76 O_kb76 g_b12 g_b9 E_b1 F_heap_b1 F_size_b1 V_b76 E_b12 F_deadline_b12 F_position_b12 E_b9 F_deadline_b9 F_position_b9 ne_b1_b76 ne_b1_b12 ne_b1_b9 (Ne.symm ne_b12_b76) (Ne.symm ne_b9_b76) (Ne.symm ne_b9_b12) hk139_81) hZ (hw _ (List.mem_of_getElem? (i := 57) rfl)) (hw _ (List.mem_of_getElem? (i := 2) rfl)) (by decide) (by decide)) q88a q88c (g := (mkF m 139 #[.val (.int p0), .val (.long q1), .second, .val (.long q2), .second, .val (.long q3), .second, .val (.long q4), .second, .val (.ref b1), .val (.ref b3), .val (.ref b6), .val (.ref b9), .val (.ref b12), .unset, .unset] [(.ref b12), (.ref b1)])) rfl (by rw [hml]; rfl) (Steps.refl _) (argsL := [(.ref b12)]) (rest := []) (lenOf pd_8 rfl) rfl (by show 2 * 0 + _ ≤ _; exact Nat.le_of_eq rfl) (hb hby at_139) (fun _ _ => ⟨rfl, e80, (by decide : 11 + 0 ≤ _), (by decide : 58 + 0 ≤ _)⟩)
          dsimp only [Pt.U, Pt.locs, Pt.cells, Pt.slots] at X88 l88 y88 z88 st88 hQ88
          subst l88 y88 z88
          obtain ⟨rfl, N88q, K88, q88_0, q88_1, q88_2, q88_3, q88_4, q88_5, q88_6⟩ := hQ88
          have V_b2 := V_b2.keep K88 (ninS (Ne.symm ne_b1_b2) (ninS ne_b2_b76 (ninS ne_b2_b12 nin0)))
          have E_b3 := E_b3.keep K88
          have F_deadline_b3 := F_deadline_b3.keep K88 (ninS (Ne.symm ne_b1_b3) (ninS ne_b3_b76 (ninS ne_b3_b12 nin0)))
          have F_position_b3 := F_position_b3.keep K88 (ninS (Ne.symm ne_b1_b3) (ninS ne_b3_b76 (ninS ne_b3_b12 nin0)))
          have E_b6 := E_b6.keep K88
          have F_deadline_b6 := F_deadline_b6.keep K88 (ninS (Ne.symm ne_b1_b6) (ninS ne_b6_b76 (ninS ne_b6_b12 nin0)))
          have F_position_b6 := F_position_b6.keep K88 (ninS (Ne.symm ne_b1_b6) (ninS ne_b6_b76 (ninS ne_b6_b12 nin0)))
          have E_b9 := E_b9.keep K88
          have F_deadline_b9 := F_deadline_b9.keep K88 (ninS (Ne.symm ne_b1_b9) (ninS ne_b9_b76 (ninS ne_b9_b12 nin0)))
          have F_position_b9 := F_position_b9.keep K88 (ninS (Ne.symm ne_b1_b9) (ninS ne_b9_b76 (ninS ne_b9_b12 nin0)))
          have E_b1 := q88_0
          have F_heap_b1 := q88_1
          have F_size_b1 := q88_2
          have V_b76 := q88_3
          have E_b12 := q88_4
          have F_deadline_b12 := q88_5
          have F_position_b12 := q88_6
          have Kp := Kp.trans K88 (allS (Or.inr sz_b1) (allS (Or.inr sz_b76) (allS (Or.inr sz_b12) all0)))
          have Zn := Nat.le_trans Zn K88.1
          have N88 := Fr.app N80 N88q
          refine Run.st (S' := T88.setTop (mkF m 161 #[.val (.int p0), .val (.long q1), .second, .val (.long q2), .second, .val (.long q3), .second, .val (.long q4), .second, .val (.ref b1), .val (.ref b3), .val (.ref b6), .val (.ref b9), .val (.ref b12), .val (.ref b9), .unset] [(.long q4)])) (fun _ k => st88.trans (XS.lload X88.here hx rfl (hb hby at_142) rfl (XS.lload X88.here hx rfl (hb hby at_144) rfl (XS.lcmp X88.here hx rfl (hb hby at_146) rfl (XS.ifYes X88.here hx rfl (pc0 := 147) (pc' := 155) rfl (hb hby at_147) rfl (lcYes (Jvm.Free.XT.ll_ge_t (show ¬ (q4 < q3) from hk139_81))) (by decide) (by decide) (XS.aload X88.here hx rfl (hb hby at_155) rfl rfl (XS.astore X88.here hx rfl (hb hby at_157) rfl rfl (l' := #[.val (.int p0), .val (.long q1), .second, .val (.long q2), .second, .val (.long q3), .second, .val (.long q4), .second, .val (.ref b1), .val (.ref b3), .val (.ref b6), .val (.ref b9), .val (.ref b12), .val (.ref b9), .unset]) rfl (XS.lload X88.here hx rfl (hb hby at_159) rfl k)))))))) ?_
          refine Run.st (S' := T88.setTop (mkF m 178 #[.val (.int p0), .val (.long q1), .second, .val (.long q2), .second, .val (.long q3), .second, .val (.long q4), .second, .val (.ref b1), .val (.ref b3), .val (.ref b6), .val (.ref b9), .val (.ref b12), .val (.ref b9), .val (.ref b12)] [(.ref b1)])) (fun _ k => XS.lload X88.here hx rfl (hb hby at_161) rfl (XS.lcmp X88.here hx rfl (hb hby at_163) rfl (XS.ifYes X88.here hx rfl (pc0 := 164) (pc' := 172) rfl (hb hby at_164) rfl (lcYes (Jvm.Free.XT.ll_ge_t (show ¬ (q4 < q3) from hk139_81))) (by decide) (by decide) (XS.aload X88.here hx rfl (hb hby at_172) rfl rfl (XS.astore X88.here hx rfl (hb hby at_174) rfl rfl (l' := #[.val (.int p0), .val (.long q1), .second, .val (.long q2), .second, .val (.long q3), .second, .val (.long q4), .second, .val (.ref b1), .val (.ref b3), .val (.ref b6), .val (.ref b9), .val (.ref b12), .val (.ref b9), .val (.ref b12)]) rfl (XS.aload X88.here hx rfl (hb hby at_176) rfl rfl k)))))) ?_
          obtain ⟨cq89, kq89, q89a, q89b, q89c⟩ := isOf hZ rfl E_b1
          obtain ⟨_, _, ⟨T89, L89, k89, n89⟩, -, X89, ⟨Lc89, hQ89, l89, y89, z89⟩, st89⟩ := X88.virtualBack hx (y := (⟨"com/example/keys_to_structures/keystostructures/store/ExpiryQueue", "first", "()Lcom/example/keys_to_structures/keystostructures/store/TimedEntry;"⟩ : MethodName)) (z := (⟨"com/example/keys_to_structures/keystostructures/store/ExpiryQueue", "first", "()Lcom/example/keys_to_structures/keystostructures/store/TimedEntry;"⟩ : MethodName)) hown (mvT hZ (hw _ (List.mem_of_getElem? (i := 48) rfl))) (mvT hZ (hw _ (List.mem_of_getElem? (i := 49) rfl))) (notFace_of_selects (args := #[]) (mvT hZ (hw _ (List.mem_of_getElem? (i := 51) rfl)))) (mvT hZ (hw _ (List.mem_of_getElem? (i := 51) rfl))) (mvT hZ (hw _ (List.mem_of_getElem? (i := 50) rfl))) (by decide) (backOf (W := 0) (rmFi2 l Z aV hw [] b1 b76 kb76 b9 (.ref b12) .null T88.heap n0 Zn F_heap_b1 F_size_b1 V_b76) hZ (hw _ (List.mem_of_getElem? (i := 52) rfl)) (hw _ (List.mem_of_getElem? (i := 2) rfl)) (by decide) (by decide)) q89a q89c (g := (mkF m 178 #[.val (.int p0), .val (.long q1), .second, .val (.long q2), .second, .val (.long q3), .second, .val (.long q4), .second, .val (.ref b1), .val (.ref b3), .val (.ref b6), .val (.ref b9), .val (.ref b12), .val (.ref b9), .val (.ref b12)] [(.ref b1)])) rfl (by rw [hml]; rfl) (Steps.refl _) (argsL := []) (rest := []) (lenOf pd_7 rfl) rfl (by show 2 * 0 + _ ≤ _; exact Nat.le_of_eq rfl) (hb hby at_178) (fun _ _ => ⟨rfl, rfl, (by decide : 11 + 0 ≤ _), (by decide : 58 + 0 ≤ _)⟩)
          dsimp only [Pt.U, Pt.locs, Pt.cells, Pt.slots] at X89 l89 y89 z89 st89 hQ89
          subst l89 y89 z89
          obtain ⟨rfl, N89q, e89⟩ := hQ89
          have N89 := Fr.app N88 N89q
          refine Run.st (S' := T89.setTop (mkF m 188 #[.val (.int p0), .val (.long q1), .second, .val (.long q2), .second, .val (.long q3), .second, .val (.long q4), .second, .val (.ref b1), .val (.ref b3), .val (.ref b6), .val (.ref b9), .val (.ref b12), .val (.ref b9), .val (.ref b12)] [(.ref b9)])) (fun _ k => st89.trans (XS.aload X89.here hx rfl (hb hby at_181) rfl rfl (Jvm.RoadKit.acmp (g := (mkF m 183 #[.val (.int p0), .val (.long q1), .second, .val (.long q2), .second, .val (.long q3), .second, .val (.long q4), .second, .val (.ref b1), .val (.ref b3), .val (.ref b6), .val (.ref b9), .val (.ref b12), .val (.ref b9), .val (.ref b12)] [(.ref b9), (.ref b9)])) X89 hx rfl rfl rfl (pc0 := 183) (pc' := 186) (same := true) rfl (hb hby at_183) rfl (decide_eq_true rfl) (by decide) (by decide) (XS.aload X89.here hx rfl (hb hby at_186) rfl rfl k)))) ?_
          obtain ⟨cq90, kq90, q90a, q90b, q90c⟩ := isOf hZ e89 E_b9
          obtain ⟨_, _, ⟨T90, L90, k90, n90⟩, -, X90, ⟨Lc90, hQ90, l90, y90, z90⟩, st90⟩ := X89.virtualBack hx (y := (⟨"com/example/keys_to_structures/keystostructures/store/TimedEntry", "position", "()I"⟩ : MethodName)) (z := (⟨"com/example/keys_to_structures/keystostructures/store/TimedEntry", "position", "()I"⟩ : MethodName)) hown (mvT hZ (hw _ (List.mem_of_getElem? (i := 74) rfl))) (mvT hZ (hw _ (List.mem_of_getElem? (i := 75) rfl))) (notFace_of_selects (args := #[]) (mvT hZ (hw _ (List.mem_of_getElem? (i := 77) rfl)))) (mvT hZ (hw _ (List.mem_of_getElem? (i := 77) rfl))) (mvT hZ (hw _ (List.mem_of_getElem? (i := 76) rfl))) (by decide) (backOf (W := 0) (rmPo l Z aV hw [] b9 (0 : Int32) T88.heap n0 Zn F_position_b9) hZ (hw _ (List.mem_of_getElem? (i := 78) rfl)) (hw _ (List.mem_of_getElem? (i := 15) rfl)) (by decide) (by decide)) q90a q90c (g := (mkF m 188 #[.val (.int p0), .val (.long q1), .second, .val (.long q2), .second, .val (.long q3), .second, .val (.long q4), .second, .val (.ref b1), .val (.ref b3), .val (.ref b6), .val (.ref b9), .val (.ref b12), .val (.ref b9), .val (.ref b12)] [(.ref b9)])) rfl (by rw [hml]; rfl) (Steps.refl _) (argsL := []) (rest := []) (lenOf pd_9 rfl) rfl (by show 2 * 0 + _ ≤ _; exact Nat.le_of_eq rfl) (hb hby at_188) (fun _ _ => ⟨rfl, e89, (by decide : 11 + 0 ≤ _), (by decide : 58 + 0 ≤ _)⟩)
          dsimp only [Pt.U, Pt.locs, Pt.cells, Pt.slots] at X90 l90 y90 z90 st90 hQ90
          subst l90 y90 z90
          obtain ⟨rfl, N90q, e90⟩ := hQ90
          have N90 := Fr.app N89 N90q
          refine Run.st (S' := T90.setTop (mkF m 196 #[.val (.int p0), .val (.long q1), .second, .val (.long q2), .second, .val (.long q3), .second, .val (.long q4), .second, .val (.ref b1), .val (.ref b3), .val (.ref b6), .val (.ref b9), .val (.ref b12), .val (.ref b9), .val (.ref b12)] [(.ref b12)])) (fun _ k => st90.trans (XS.ifNo X90.here hx rfl (hb hby at_191) rfl ((if0 _ _).trans (teq (show (0 : Int32) = (0 : Int32) from (by decide))).2) (XS.aload X90.here hx rfl (hb hby at_194) rfl rfl k))) ?_
          obtain ⟨cq91, kq91, q91a, q91b, q91c⟩ := isOf hZ e90 E_b12
          obtain ⟨_, _, ⟨T91, L91, k91, n91⟩, -, X91, ⟨Lc91, hQ91, l91, y91, z91⟩, st91⟩ := X90.virtualBack hx (y := (⟨"com/example/keys_to_structures/keystostructures/store/TimedEntry", "position", "()I"⟩ : MethodName)) (z := (⟨"com/example/keys_to_structures/keystostructures/store/TimedEntry", "position", "()I"⟩ : MethodName)) hown (mvT hZ (hw _ (List.mem_of_getElem? (i := 74) rfl))) (mvT hZ (hw _ (List.mem_of_getElem? (i := 75) rfl))) (notFace_of_selects (args := #[]) (mvT hZ (hw _ (List.mem_of_getElem? (i := 77) rfl)))) (mvT hZ (hw _ (List.mem_of_getElem? (i := 77) rfl))) (mvT hZ (hw _ (List.mem_of_getElem? (i := 76) rfl))) (by decide) (backOf (W := 0) (rmPo l Z aV hw [] b12 (1 : Int32) T88.heap n0 Zn F_position_b12) hZ (hw _ (List.mem_of_getElem? (i := 78) rfl)) (hw _ (List.mem_of_getElem? (i := 15) rfl)) (by decide) (by decide)) q91a q91c (g := (mkF m 196 #[.val (.int p0), .val (.long q1), .second, .val (.long q2), .second, .val (.long q3), .second, .val (.long q4), .second, .val (.ref b1), .val (.ref b3), .val (.ref b6), .val (.ref b9), .val (.ref b12), .val (.ref b9), .val (.ref b12)] [(.ref b12)])) rfl (by rw [hml]; rfl) (Steps.refl _) (argsL := []) (rest := []) (lenOf pd_9 rfl) rfl (by show 2 * 0 + _ ≤ _; exact Nat.le_of_eq rfl) (hb hby at_196) (fun _ _ => ⟨rfl, e90, (by decide : 11 + 0 ≤ _), (by decide : 58 + 0 ≤ _)⟩)
          dsimp only [Pt.U, Pt.locs, Pt.cells, Pt.slots] at X91 l91 y91 z91 st91 hQ91
          subst l91 y91 z91
          obtain ⟨rfl, N91q, e91⟩ := hQ91
          have N91 := Fr.app N90 N91q
          refine Run.st (S' := T91.setTop (mkF m 207 #[.val (.int p0), .val (.long q1), .second, .val (.long q2), .second, .val (.long q3), .second, .val (.long q4), .second, .val (.ref b1), .val (.ref b3), .val (.ref b6), .val (.ref b9), .val (.ref b12), .val (.ref b9), .val (.ref b12)] [(.ref b1)])) (fun _ k => st91.trans (XS.iconst X91.here hx rfl (hb hby at_199) (XS.icmpYes X91.here hx rfl (pc0 := 200) (pc' := 205) rfl (hb hby at_200) rfl (teq (show (1 : Int32) = (1 : Int32) from (by decide))).1 (by decide) (by decide) (XS.aload X91.here hx rfl (hb hby at_205) rfl rfl k)))) ?_
          obtain ⟨cq92, kq92, q92a, q92b, q92c⟩ := isOf hZ e91 E_b1
          obtain ⟨_, _, ⟨T92, L92, k92, n92⟩, -, X92, ⟨Lc92, hQ92, l92, y92, z92⟩, st92⟩ := X91.virtualBack hx (y := (⟨"com/example/keys_to_structures/keystostructures/store/ExpiryQueue", "clear", "()V"⟩ : MethodName)) (z := (⟨"com/example/keys_to_structures/keystostructures/store/ExpiryQueue", "clear", "()V"⟩ : MethodName)) hown (mvT hZ (hw _ (List.mem_of_getElem? (i := 41) rfl))) (mvT hZ (hw _ (List.mem_of_getElem? (i := 42) rfl))) (notFace_of_selects (args := #[]) (mvT hZ (hw _ (List.mem_of_getElem? (i := 44) rfl)))) (mvT hZ (hw _ (List.mem_of_getElem? (i := 44) rfl))) (mvT hZ (hw _ (List.mem_of_getElem? (i := 43) rfl))) (by decide) (backOf (W := 0) (rmClr l Z aV hw [] b1 b76 (2 : Int32) T88.heap n0 Zn g_b1 E_b1 F_heap_b1 F_size_b1) hZ (hw _ (List.mem_of_getElem? (i := 45) rfl)) (hw _ (List.mem_of_getElem? (i := 2) rfl)) (by decide) (by decide)) q92a q92c (g := (mkF m 207 #[.val (.int p0), .val (.long q1), .second, .val (.long q2), .second, .val (.long q3), .second, .val (.long q4), .second, .val (.ref b1), .val (.ref b3), .val (.ref b6), .val (.ref b9), .val (.ref b12), .val (.ref b9), .val (.ref b12)] [(.ref b1)])) rfl (by rw [hml]; rfl) (Steps.refl _) (argsL := []) (rest := []) (lenOf pd_5 rfl) rfl (by show 2 * 0 + _ ≤ _; exact Nat.le_of_eq rfl) (hb hby at_207) (fun _ _ => ⟨rfl, e91, (by decide : 11 + 1 ≤ _), (by decide : 58 + 16 ≤ _)⟩)
          dsimp only [Pt.U, Pt.locs, Pt.cells, Pt.slots] at X92 l92 y92 z92 st92 hQ92
          subst l92 y92 z92
          obtain ⟨b92, kb92, rfl, N92q, K92, g_b92, z_b92, O_kb92, q92_0, q92_1, q92_2, q92_3⟩ := hQ92
          have ne_b1_b92 : b1 ≠ b92 := Nat.ne_of_lt (Nat.lt_of_lt_of_le E_b1.lt z_b92)
          have ne_b2_b92 : b2 ≠ b92 := Nat.ne_of_lt (Nat.lt_of_lt_of_le V_b2.lt z_b92)
          have ne_b3_b92 : b3 ≠ b92 := Nat.ne_of_lt (Nat.lt_of_lt_of_le E_b3.lt z_b92)
          have ne_b6_b92 : b6 ≠ b92 := Nat.ne_of_lt (Nat.lt_of_lt_of_le E_b6.lt z_b92)
          have ne_b9_b92 : b9 ≠ b92 := Nat.ne_of_lt (Nat.lt_of_lt_of_le E_b9.lt z_b92)
          have ne_b12_b92 : b12 ≠ b92 := Nat.ne_of_lt (Nat.lt_of_lt_of_le E_b12.lt z_b92)
          have ne_b76_b92 : b76 ≠ b92 := Nat.ne_of_lt (Nat.lt_of_lt_of_le V_b76.lt z_b92)
          have sz_b92 : h0.size ≤ b92 := Nat.le_trans Kp.1 z_b92
          have V_b2 := V_b2.keep K92 (ninS (Ne.symm ne_b1_b2) nin0)
          have E_b3 := E_b3.keep K92
          have F_deadline_b3 := F_deadline_b3.keep K92 (ninS (Ne.symm ne_b1_b3) nin0)
          have F_position_b3 := F_position_b3.keep K92 (ninS (Ne.symm ne_b1_b3) nin0)
          have E_b6 := E_b6.keep K92
          have F_deadline_b6 := F_deadline_b6.keep K92 (ninS (Ne.symm ne_b1_b6) nin0)
          have F_position_b6 := F_position_b6.keep K92 (ninS (Ne.symm ne_b1_b6) nin0)
          have E_b9 := E_b9.keep K92
          have F_deadline_b9 := F_deadline_b9.keep K92 (ninS (Ne.symm ne_b1_b9) nin0)
          have F_position_b9 := F_position_b9.keep K92 (ninS (Ne.symm ne_b1_b9) nin0)
          have E_b12 := E_b12.keep K92
          have F_deadline_b12 := F_deadline_b12.keep K92 (ninS (Ne.symm ne_b1_b12) nin0)
          have F_position_b12 := F_position_b12.keep K92 (ninS (Ne.symm ne_b1_b12) nin0)
          have V_b76 := V_b76.keep K92 (ninS (Ne.symm ne_b1_b76) nin0)
          have E_b1 := q92_0
          have F_heap_b1 := q92_1
          have F_size_b1 := q92_2
          have V_b92 := q92_3
          have Kp := Kp.trans K92 (allS (Or.inr sz_b1) all0)
          have Zn := Nat.le_trans Zn K92.1
          have N92 := Fr.app N91 N92q
          refine Run.st (S' := T92.setTop (mkF m 212 #[.val (.int p0), .val (.long q1), .second, .val (.long q2), .second, .val (.long q3), .second, .val (.long q4), .second, .val (.ref b1), .val (.ref b3), .val (.ref b6), .val (.ref b9), .val (.ref b12), .val (.ref b9), .val (.ref b12)] [(.ref b1)])) (fun _ k => st92.trans (XS.aload X92.here hx rfl (hb hby at_210) rfl rfl k)) ?_
          obtain ⟨cq93, kq93, q93a, q93b, q93c⟩ := isOf hZ rfl E_b1
          obtain ⟨_, _, ⟨T93, L93, k93, n93⟩, -, X93, ⟨Lc93, hQ93, l93, y93, z93⟩, st93⟩ := X92.virtualBack hx (y := (⟨"com/example/keys_to_structures/keystostructures/store/ExpiryQueue", "first", "()Lcom/example/keys_to_structures/keystostructures/store/TimedEntry;"⟩ : MethodName)) (z := (⟨"com/example/keys_to_structures/keystostructures/store/ExpiryQueue", "first", "()Lcom/example/keys_to_structures/keystostructures/store/TimedEntry;"⟩ : MethodName)) hown (mvT hZ (hw _ (List.mem_of_getElem? (i := 48) rfl))) (mvT hZ (hw _ (List.mem_of_getElem? (i := 49) rfl))) (notFace_of_selects (args := #[]) (mvT hZ (hw _ (List.mem_of_getElem? (i := 51) rfl)))) (mvT hZ (hw _ (List.mem_of_getElem? (i := 51) rfl))) (mvT hZ (hw _ (List.mem_of_getElem? (i := 50) rfl))) (by decide) (backOf (W := 0) (rmFi0 l Z aV hw [] b1 b92 kb92 .null .null .null T92.heap n0 Zn F_heap_b1 F_size_b1 V_b92) hZ (hw _ (List.mem_of_getElem? (i := 52) rfl)) (hw _ (List.mem_of_getElem? (i := 2) rfl)) (by decide) (by decide)) q93a q93c (g := (mkF m 212 #[.val (.int p0), .val (.long q1), .second, .val (.long q2), .second, .val (.long q3), .second, .val (.long q4), .second, .val (.ref b1), .val (.ref b3), .val (.ref b6), .val (.ref b9), .val (.ref b12), .val (.ref b9), .val (.ref b12)] [(.ref b1)])) rfl (by rw [hml]; rfl) (Steps.refl _) (argsL := []) (rest := []) (lenOf pd_7 rfl) rfl (by show 2 * 0 + _ ≤ _; exact Nat.le_of_eq rfl) (hb hby at_212) (fun _ _ => ⟨rfl, rfl, (by decide : 12 + 0 ≤ _), (by decide : 74 + 0 ≤ _)⟩)
          dsimp only [Pt.U, Pt.locs, Pt.cells, Pt.slots] at X93 l93 y93 z93 st93 hQ93
          subst l93 y93 z93
          obtain ⟨rfl, N93q, e93⟩ := hQ93
          have N93 := Fr.app N92 N93q
          refine Run.st (S' := T93.setTop (mkF m 223 #[.val (.int p0), .val (.long q1), .second, .val (.long q2), .second, .val (.long q3), .second, .val (.long q4), .second, .val (.ref b1), .val (.ref b3), .val (.ref b6), .val (.ref b9), .val (.ref b12), .val (.ref b9), .val (.ref b12)] [(.int (1 : Int32))])) (fun _ k => st93.trans (XS.ifnonnullNo X93.here hx rfl (hb hby at_215) rfl (XS.iconst X93.here hx rfl (hb hby at_218) (XS.goto X93.here hx rfl (pc0 := 219) (pc' := 223) rfl (hb hby at_219) (by decide) (by decide) k)))) ?_
          refine Run.out X93 hx Bd.notSynchronized Bd.returns rfl (Or.inl ⟨rfl, by simp, _, rfl⟩) (hb hby at_223) (by decide) (by decide) ?_
          rw [e93]
          exact ⟨rfl, N93⟩
      · obtain ⟨cq94, kq94, q94a, q94b, q94c⟩ := isOf hZ rfl E_b1
        obtain ⟨_, _, ⟨T94, L94, k94, n94⟩, -, X94, ⟨Lc94, hQ94, l94, y94, z94⟩, st94⟩ := X54.virtualBack hx (y := (⟨"com/example/keys_to_structures/keystostructures/store/ExpiryQueue", "add", "(Lcom/example/keys_to_structures/keystostructures/store/TimedEntry;)V"⟩ : MethodName)) (z := (⟨"com/example/keys_to_structures/keystostructures/store/ExpiryQueue", "add", "(Lcom/example/keys_to_structures/keystostructures/store/TimedEntry;)V"⟩ : MethodName)) hown (mvT hZ (hw _ (List.mem_of_getElem? (i := 53) rfl))) (mvT hZ (hw _ (List.mem_of_getElem? (i := 54) rfl))) (notFace_of_selects (args := #[]) (mvT hZ (hw _ (List.mem_of_getElem? (i := 56) rfl)))) (mvT hZ (hw _ (List.mem_of_getElem? (i := 56) rfl))) (mvT hZ (hw _ (List.mem_of_getElem? (i := 55) rfl))) (by decide) (backOf (W := 0) (rmAd1 l Z aV hw [] b1 b6 b2 kb2 .null .null q2 (0 : Int32) b3 q1 (0 : Int32) T54.heap n0 Zn g_b1 g_b2 O_kb2 g_b6 g_b3 E_b1 F_heap_b1 F_size_b1 V_b2 E_b6 F_deadline_b6 F_position_b6 E_b3 F_deadline_b3 F_position_b3 ne_b1_b2 ne_b1_b6 ne_b1_b3 ne_b2_b6 ne_b2_b3 (Ne.symm ne_b3_b6) hk90_74) hZ (hw _ (List.mem_of_getElem? (i := 57) rfl)) (hw _ (List.mem_of_getElem? (i := 2) rfl)) (by decide) (by decide)) q94a q94c (g := (mkF m 90 #[.val (.int p0), .val (.long q1), .second, .val (.long q2), .second, .val (.long q3), .second, .val (.long q4), .second, .val (.ref b1), .val (.ref b3), .val (.ref b6), .val (.ref b9), .val (.ref b12), .unset, .unset] [(.ref b6), (.ref b1)])) rfl (by rw [hml]; rfl) (Steps.refl _) (argsL := [(.ref b6)]) (rest := []) (lenOf pd_8 rfl) rfl (by show 2 * 0 + _ ≤ _; exact Nat.le_of_eq rfl) (hb hby at_90) (fun _ _ => ⟨rfl, rfl, (by decide : 10 + 0 ≤ _), (by decide : 42 + 0 ≤ _)⟩)
        dsimp only [Pt.U, Pt.locs, Pt.cells, Pt.slots] at X94 l94 y94 z94 st94 hQ94
        subst l94 y94 z94
        obtain ⟨rfl, N94q, K94, q94_0, q94_1, q94_2, q94_3, q94_4, q94_5, q94_6⟩ := hQ94
        have E_b3 := E_b3.keep K94
        have F_deadline_b3 := F_deadline_b3.keep K94 (ninS (Ne.symm ne_b1_b3) (ninS (Ne.symm ne_b2_b3) (ninS ne_b3_b6 nin0)))
        have F_position_b3 := F_position_b3.keep K94 (ninS (Ne.symm ne_b1_b3) (ninS (Ne.symm ne_b2_b3) (ninS ne_b3_b6 nin0)))
        have E_b9 := E_b9.keep K94
        have F_deadline_b9 := F_deadline_b9.keep K94 (ninS (Ne.symm ne_b1_b9) (ninS (Ne.symm ne_b2_b9) (ninS (Ne.symm ne_b6_b9) nin0)))
        have F_position_b9 := F_position_b9.keep K94 (ninS (Ne.symm ne_b1_b9) (ninS (Ne.symm ne_b2_b9) (ninS (Ne.symm ne_b6_b9) nin0)))
        have E_b12 := E_b12.keep K94
        have F_deadline_b12 := F_deadline_b12.keep K94 (ninS (Ne.symm ne_b1_b12) (ninS (Ne.symm ne_b2_b12) (ninS (Ne.symm ne_b6_b12) nin0)))
        have F_position_b12 := F_position_b12.keep K94 (ninS (Ne.symm ne_b1_b12) (ninS (Ne.symm ne_b2_b12) (ninS (Ne.symm ne_b6_b12) nin0)))
        have E_b1 := q94_0
        have F_heap_b1 := q94_1
        have F_size_b1 := q94_2
        have V_b2 := q94_3
        have E_b6 := q94_4
        have F_deadline_b6 := q94_5
        have F_position_b6 := q94_6
        have Kp := Kp.trans K94 (allS (Or.inr sz_b1) (allS (Or.inr sz_b2) (allS (Or.inr sz_b6) all0)))
        have Zn := Nat.le_trans Zn K94.1
        have N94 := Fr.app N54 N94q
        refine Run.st (S' := T94.setTop (mkF m 95 #[.val (.int p0), .val (.long q1), .second, .val (.long q2), .second, .val (.long q3), .second, .val (.long q4), .second, .val (.ref b1), .val (.ref b3), .val (.ref b6), .val (.ref b9), .val (.ref b12), .unset, .unset] [(.ref b1)])) (fun _ k => st94.trans (XS.aload X94.here hx rfl (hb hby at_93) rfl rfl k)) ?_
        obtain ⟨cq95, kq95, q95a, q95b, q95c⟩ := isOf hZ rfl E_b1
        obtain ⟨_, _, ⟨T95, L95, k95, n95⟩, -, X95, ⟨Lc95, hQ95, l95, y95, z95⟩, st95⟩ := X94.virtualBack hx (y := (⟨"com/example/keys_to_structures/keystostructures/store/ExpiryQueue", "clear", "()V"⟩ : MethodName)) (z := (⟨"com/example/keys_to_structures/keystostructures/store/ExpiryQueue", "clear", "()V"⟩ : MethodName)) hown (mvT hZ (hw _ (List.mem_of_getElem? (i := 41) rfl))) (mvT hZ (hw _ (List.mem_of_getElem? (i := 42) rfl))) (notFace_of_selects (args := #[]) (mvT hZ (hw _ (List.mem_of_getElem? (i := 44) rfl)))) (mvT hZ (hw _ (List.mem_of_getElem? (i := 44) rfl))) (mvT hZ (hw _ (List.mem_of_getElem? (i := 43) rfl))) (by decide) (backOf (W := 0) (rmClr l Z aV hw [] b1 b2 (2 : Int32) T94.heap n0 Zn g_b1 E_b1 F_heap_b1 F_size_b1) hZ (hw _ (List.mem_of_getElem? (i := 45) rfl)) (hw _ (List.mem_of_getElem? (i := 2) rfl)) (by decide) (by decide)) q95a q95c (g := (mkF m 95 #[.val (.int p0), .val (.long q1), .second, .val (.long q2), .second, .val (.long q3), .second, .val (.long q4), .second, .val (.ref b1), .val (.ref b3), .val (.ref b6), .val (.ref b9), .val (.ref b12), .unset, .unset] [(.ref b1)])) rfl (by rw [hml]; rfl) (Steps.refl _) (argsL := []) (rest := []) (lenOf pd_5 rfl) rfl (by show 2 * 0 + _ ≤ _; exact Nat.le_of_eq rfl) (hb hby at_95) (fun _ _ => ⟨rfl, rfl, (by decide : 10 + 1 ≤ _), (by decide : 42 + 16 ≤ _)⟩)
        dsimp only [Pt.U, Pt.locs, Pt.cells, Pt.slots] at X95 l95 y95 z95 st95 hQ95
        subst l95 y95 z95
        obtain ⟨b95, kb95, rfl, N95q, K95, g_b95, z_b95, O_kb95, q95_0, q95_1, q95_2, q95_3⟩ := hQ95
        have ne_b1_b95 : b1 ≠ b95 := Nat.ne_of_lt (Nat.lt_of_lt_of_le E_b1.lt z_b95)
        have ne_b2_b95 : b2 ≠ b95 := Nat.ne_of_lt (Nat.lt_of_lt_of_le V_b2.lt z_b95)
        have ne_b3_b95 : b3 ≠ b95 := Nat.ne_of_lt (Nat.lt_of_lt_of_le E_b3.lt z_b95)
        have ne_b6_b95 : b6 ≠ b95 := Nat.ne_of_lt (Nat.lt_of_lt_of_le E_b6.lt z_b95)
        have ne_b9_b95 : b9 ≠ b95 := Nat.ne_of_lt (Nat.lt_of_lt_of_le E_b9.lt z_b95)
        have ne_b12_b95 : b12 ≠ b95 := Nat.ne_of_lt (Nat.lt_of_lt_of_le E_b12.lt z_b95)
        have sz_b95 : h0.size ≤ b95 := Nat.le_trans Kp.1 z_b95
        have V_b2 := V_b2.keep K95 (ninS (Ne.symm ne_b1_b2) nin0)
        have E_b3 := E_b3.keep K95
        have F_deadline_b3 := F_deadline_b3.keep K95 (ninS (Ne.symm ne_b1_b3) nin0)
        have F_position_b3 := F_position_b3.keep K95 (ninS (Ne.symm ne_b1_b3) nin0)
        have E_b6 := E_b6.keep K95
        have F_deadline_b6 := F_deadline_b6.keep K95 (ninS (Ne.symm ne_b1_b6) nin0)
        have F_position_b6 := F_position_b6.keep K95 (ninS (Ne.symm ne_b1_b6) nin0)
        have E_b9 := E_b9.keep K95
        have F_deadline_b9 := F_deadline_b9.keep K95 (ninS (Ne.symm ne_b1_b9) nin0)
        have F_position_b9 := F_position_b9.keep K95 (ninS (Ne.symm ne_b1_b9) nin0)
        have E_b12 := E_b12.keep K95
        have F_deadline_b12 := F_deadline_b12.keep K95 (ninS (Ne.symm ne_b1_b12) nin0)
        have F_position_b12 := F_position_b12.keep K95 (ninS (Ne.symm ne_b1_b12) nin0)
        have E_b1 := q95_0
        have F_heap_b1 := q95_1
        have F_size_b1 := q95_2
        have V_b95 := q95_3
        have Kp := Kp.trans K95 (allS (Or.inr sz_b1) all0)
        have Zn := Nat.le_trans Zn K95.1
        have N95 := Fr.app N94 N95q
        refine Run.st (S' := T95.setTop (mkF m 100 #[.val (.int p0), .val (.long q1), .second, .val (.long q2), .second, .val (.long q3), .second, .val (.long q4), .second, .val (.ref b1), .val (.ref b3), .val (.ref b6), .val (.ref b9), .val (.ref b12), .unset, .unset] [(.ref b1)])) (fun _ k => st95.trans (XS.aload X95.here hx rfl (hb hby at_98) rfl rfl k)) ?_
        obtain ⟨cq96, kq96, q96a, q96b, q96c⟩ := isOf hZ rfl E_b1
        obtain ⟨_, _, ⟨T96, L96, k96, n96⟩, -, X96, ⟨Lc96, hQ96, l96, y96, z96⟩, st96⟩ := X95.virtualBack hx (y := (⟨"com/example/keys_to_structures/keystostructures/store/ExpiryQueue", "first", "()Lcom/example/keys_to_structures/keystostructures/store/TimedEntry;"⟩ : MethodName)) (z := (⟨"com/example/keys_to_structures/keystostructures/store/ExpiryQueue", "first", "()Lcom/example/keys_to_structures/keystostructures/store/TimedEntry;"⟩ : MethodName)) hown (mvT hZ (hw _ (List.mem_of_getElem? (i := 48) rfl))) (mvT hZ (hw _ (List.mem_of_getElem? (i := 49) rfl))) (notFace_of_selects (args := #[]) (mvT hZ (hw _ (List.mem_of_getElem? (i := 51) rfl)))) (mvT hZ (hw _ (List.mem_of_getElem? (i := 51) rfl))) (mvT hZ (hw _ (List.mem_of_getElem? (i := 50) rfl))) (by decide) (backOf (W := 0) (rmFi0 l Z aV hw [] b1 b95 kb95 .null .null .null T95.heap n0 Zn F_heap_b1 F_size_b1 V_b95) hZ (hw _ (List.mem_of_getElem? (i := 52) rfl)) (hw _ (List.mem_of_getElem? (i := 2) rfl)) (by decide) (by decide)) q96a q96c (g := (mkF m 100 #[.val (.int p0), .val (.long q1), .second, .val (.long q2), .second, .val (.long q3), .second, .val (.long q4), .second, .val (.ref b1), .val (.ref b3), .val (.ref b6), .val (.ref b9), .val (.ref b12), .unset, .unset] [(.ref b1)])) rfl (by rw [hml]; rfl) (Steps.refl _) (argsL := []) (rest := []) (lenOf pd_7 rfl) rfl (by show 2 * 0 + _ ≤ _; exact Nat.le_of_eq rfl) (hb hby at_100) (fun _ _ => ⟨rfl, rfl, (by decide : 11 + 0 ≤ _), (by decide : 58 + 0 ≤ _)⟩)
        dsimp only [Pt.U, Pt.locs, Pt.cells, Pt.slots] at X96 l96 y96 z96 st96 hQ96
        subst l96 y96 z96
        obtain ⟨rfl, N96q, e96⟩ := hQ96
        have N96 := Fr.app N95 N96q
        refine Run.st (S' := T96.setTop (mkF m 112 #[.val (.int p0), .val (.long q1), .second, .val (.long q2), .second, .val (.long q3), .second, .val (.long q4), .second, .val (.ref b1), .val (.ref b3), .val (.ref b6), .val (.ref b9), .val (.ref b12), .unset, .unset] [(.ref b9), (.ref b1)])) (fun _ k => st96.trans (XS.ifnullYes X96.here hx rfl (pc0 := 103) (pc' := 108) rfl (hb hby at_103) rfl (by decide) (by decide) (XS.aload X96.here hx rfl (hb hby at_108) rfl rfl (XS.aload X96.here hx rfl (hb hby at_110) rfl rfl k)))) ?_
        obtain ⟨cq97, kq97, q97a, q97b, q97c⟩ := isOf hZ e96 E_b1
        obtain ⟨_, _, ⟨T97, L97, k97, n97⟩, -, X97, ⟨Lc97, hQ97, l97, y97, z97⟩, st97⟩ := X96.virtualBack hx (y := (⟨"com/example/keys_to_structures/keystostructures/store/ExpiryQueue", "add", "(Lcom/example/keys_to_structures/keystostructures/store/TimedEntry;)V"⟩ : MethodName)) (z := (⟨"com/example/keys_to_structures/keystostructures/store/ExpiryQueue", "add", "(Lcom/example/keys_to_structures/keystostructures/store/TimedEntry;)V"⟩ : MethodName)) hown (mvT hZ (hw _ (List.mem_of_getElem? (i := 53) rfl))) (mvT hZ (hw _ (List.mem_of_getElem? (i := 54) rfl))) (notFace_of_selects (args := #[]) (mvT hZ (hw _ (List.mem_of_getElem? (i := 56) rfl)))) (mvT hZ (hw _ (List.mem_of_getElem? (i := 56) rfl))) (mvT hZ (hw _ (List.mem_of_getElem? (i := 55) rfl))) (by decide) (backOf (W := 0) (rmAd0 l Z aV hw [] b1 b9 b95 kb95 .null .null .null q3 (0 : Int32) T95.heap n0 Zn g_b1 g_b95 O_kb95 g_b9 E_b1 F_heap_b1 F_size_b1 V_b95 E_b9 F_deadline_b9 F_position_b9 ne_b1_b95 ne_b1_b9 (Ne.symm ne_b9_b95)) hZ (hw _ (List.mem_of_getElem? (i := 57) rfl)) (hw _ (List.mem_of_getElem? (i := 2) rfl)) (by decide) (by decide)) q97a q97c (g := (mkF m 112 #[.val (.int p0), .val (.long q1), .second, .val (.long q2), .second, .val (.long q3), .second, .val (.long q4), .second, .val (.ref b1), .val (.ref b3), .val (.ref b6), .val (.ref b9), .val (.ref b12), .unset, .unset] [(.ref b9), (.ref b1)])) rfl (by rw [hml]; rfl) (Steps.refl _) (argsL := [(.ref b9)]) (rest := []) (lenOf pd_8 rfl) rfl (by show 2 * 0 + _ ≤ _; exact Nat.le_of_eq rfl) (hb hby at_112) (fun _ _ => ⟨rfl, e96, (by decide : 11 + 0 ≤ _), (by decide : 58 + 0 ≤ _)⟩)
        dsimp only [Pt.U, Pt.locs, Pt.cells, Pt.slots] at X97 l97 y97 z97 st97 hQ97
        subst l97 y97 z97
        obtain ⟨rfl, N97q, K97, q97_0, q97_1, q97_2, q97_3, q97_4, q97_5, q97_6⟩ := hQ97
        have V_b2 := V_b2.keep K97 (ninS (Ne.symm ne_b1_b2) (ninS ne_b2_b95 (ninS ne_b2_b9 nin0)))
        have E_b3 := E_b3.keep K97
        have F_deadline_b3 := F_deadline_b3.keep K97 (ninS (Ne.symm ne_b1_b3) (ninS ne_b3_b95 (ninS ne_b3_b9 nin0)))
        have F_position_b3 := F_position_b3.keep K97 (ninS (Ne.symm ne_b1_b3) (ninS ne_b3_b95 (ninS ne_b3_b9 nin0)))
        have E_b6 := E_b6.keep K97
        have F_deadline_b6 := F_deadline_b6.keep K97 (ninS (Ne.symm ne_b1_b6) (ninS ne_b6_b95 (ninS ne_b6_b9 nin0)))
        have F_position_b6 := F_position_b6.keep K97 (ninS (Ne.symm ne_b1_b6) (ninS ne_b6_b95 (ninS ne_b6_b9 nin0)))
        have E_b12 := E_b12.keep K97
        have F_deadline_b12 := F_deadline_b12.keep K97 (ninS (Ne.symm ne_b1_b12) (ninS ne_b12_b95 (ninS (Ne.symm ne_b9_b12) nin0)))
        have F_position_b12 := F_position_b12.keep K97 (ninS (Ne.symm ne_b1_b12) (ninS ne_b12_b95 (ninS (Ne.symm ne_b9_b12) nin0)))
        have E_b1 := q97_0
        have F_heap_b1 := q97_1
        have F_size_b1 := q97_2
        have V_b95 := q97_3
        have E_b9 := q97_4
        have F_deadline_b9 := q97_5
        have F_position_b9 := q97_6
        have Kp := Kp.trans K97 (allS (Or.inr sz_b1) (allS (Or.inr sz_b95) (allS (Or.inr sz_b9) all0)))
        have Zn := Nat.le_trans Zn K97.1
        have N97 := Fr.app N96 N97q
        refine Run.st (S' := T97.setTop (mkF m 117 #[.val (.int p0), .val (.long q1), .second, .val (.long q2), .second, .val (.long q3), .second, .val (.long q4), .second, .val (.ref b1), .val (.ref b3), .val (.ref b6), .val (.ref b9), .val (.ref b12), .unset, .unset] [(.ref b1)])) (fun _ k => st97.trans (XS.aload X97.here hx rfl (hb hby at_115) rfl rfl k)) ?_
        obtain ⟨cq98, kq98, q98a, q98b, q98c⟩ := isOf hZ rfl E_b1
        obtain ⟨_, _, ⟨T98, L98, k98, n98⟩, -, X98, ⟨Lc98, hQ98, l98, y98, z98⟩, st98⟩ := X97.virtualBack hx (y := (⟨"com/example/keys_to_structures/keystostructures/store/ExpiryQueue", "first", "()Lcom/example/keys_to_structures/keystostructures/store/TimedEntry;"⟩ : MethodName)) (z := (⟨"com/example/keys_to_structures/keystostructures/store/ExpiryQueue", "first", "()Lcom/example/keys_to_structures/keystostructures/store/TimedEntry;"⟩ : MethodName)) hown (mvT hZ (hw _ (List.mem_of_getElem? (i := 48) rfl))) (mvT hZ (hw _ (List.mem_of_getElem? (i := 49) rfl))) (notFace_of_selects (args := #[]) (mvT hZ (hw _ (List.mem_of_getElem? (i := 51) rfl)))) (mvT hZ (hw _ (List.mem_of_getElem? (i := 51) rfl))) (mvT hZ (hw _ (List.mem_of_getElem? (i := 50) rfl))) (by decide) (backOf (W := 0) (rmFi1 l Z aV hw [] b1 b95 kb95 b9 .null .null T97.heap n0 Zn F_heap_b1 F_size_b1 V_b95) hZ (hw _ (List.mem_of_getElem? (i := 52) rfl)) (hw _ (List.mem_of_getElem? (i := 2) rfl)) (by decide) (by decide)) q98a q98c (g := (mkF m 117 #[.val (.int p0), .val (.long q1), .second, .val (.long q2), .second, .val (.long q3), .second, .val (.long q4), .second, .val (.ref b1), .val (.ref b3), .val (.ref b6), .val (.ref b9), .val (.ref b12), .unset, .unset] [(.ref b1)])) rfl (by rw [hml]; rfl) (Steps.refl _) (argsL := []) (rest := []) (lenOf pd_7 rfl) rfl (by show 2 * 0 + _ ≤ _; exact Nat.le_of_eq rfl) (hb hby at_117) (fun _ _ => ⟨rfl, rfl, (by decide : 11 + 0 ≤ _), (by decide : 58 + 0 ≤ _)⟩)
        dsimp only [Pt.U, Pt.locs, Pt.cells, Pt.slots] at X98 l98 y98 z98 st98 hQ98
        subst l98 y98 z98
        obtain ⟨rfl, N98q, e98⟩ := hQ98
        have N98 := Fr.app N97 N98q
        refine Run.st (S' := T98.setTop (mkF m 127 #[.val (.int p0), .val (.long q1), .second, .val (.long q2), .second, .val (.long q3), .second, .val (.long q4), .second, .val (.ref b1), .val (.ref b3), .val (.ref b6), .val (.ref b9), .val (.ref b12), .unset, .unset] [(.ref b9)])) (fun _ k => st98.trans (XS.aload X98.here hx rfl (hb hby at_120) rfl rfl (Jvm.RoadKit.acmp (g := (mkF m 122 #[.val (.int p0), .val (.long q1), .second, .val (.long q2), .second, .val (.long q3), .second, .val (.long q4), .second, .val (.ref b1), .val (.ref b3), .val (.ref b6), .val (.ref b9), .val (.ref b12), .unset, .unset] [(.ref b9), (.ref b9)])) X98 hx rfl rfl rfl (pc0 := 122) (pc' := 125) (same := true) rfl (hb hby at_122) rfl (decide_eq_true rfl) (by decide) (by decide) (XS.aload X98.here hx rfl (hb hby at_125) rfl rfl k)))) ?_
        obtain ⟨cq99, kq99, q99a, q99b, q99c⟩ := isOf hZ e98 E_b9
        obtain ⟨_, _, ⟨T99, L99, k99, n99⟩, -, X99, ⟨Lc99, hQ99, l99, y99, z99⟩, st99⟩ := X98.virtualBack hx (y := (⟨"com/example/keys_to_structures/keystostructures/store/TimedEntry", "position", "()I"⟩ : MethodName)) (z := (⟨"com/example/keys_to_structures/keystostructures/store/TimedEntry", "position", "()I"⟩ : MethodName)) hown (mvT hZ (hw _ (List.mem_of_getElem? (i := 74) rfl))) (mvT hZ (hw _ (List.mem_of_getElem? (i := 75) rfl))) (notFace_of_selects (args := #[]) (mvT hZ (hw _ (List.mem_of_getElem? (i := 77) rfl)))) (mvT hZ (hw _ (List.mem_of_getElem? (i := 77) rfl))) (mvT hZ (hw _ (List.mem_of_getElem? (i := 76) rfl))) (by decide) (backOf (W := 0) (rmPo l Z aV hw [] b9 (0 : Int32) T97.heap n0 Zn F_position_b9) hZ (hw _ (List.mem_of_getElem? (i := 78) rfl)) (hw _ (List.mem_of_getElem? (i := 15) rfl)) (by decide) (by decide)) q99a q99c (g := (mkF m 127 #[.val (.int p0), .val (.long q1), .second, .val (.long q2), .second, .val (.long q3), .second, .val (.long q4), .second, .val (.ref b1), .val (.ref b3), .val (.ref b6), .val (.ref b9), .val (.ref b12), .unset, .unset] [(.ref b9)])) rfl (by rw [hml]; rfl) (Steps.refl _) (argsL := []) (rest := []) (lenOf pd_9 rfl) rfl (by show 2 * 0 + _ ≤ _; exact Nat.le_of_eq rfl) (hb hby at_127) (fun _ _ => ⟨rfl, e98, (by decide : 11 + 0 ≤ _), (by decide : 58 + 0 ≤ _)⟩)
        dsimp only [Pt.U, Pt.locs, Pt.cells, Pt.slots] at X99 l99 y99 z99 st99 hQ99
        subst l99 y99 z99
        obtain ⟨rfl, N99q, e99⟩ := hQ99
        have N99 := Fr.app N98 N99q
        refine Run.st (S' := T99.setTop (mkF m 139 #[.val (.int p0), .val (.long q1), .second, .val (.long q2), .second, .val (.long q3), .second, .val (.long q4), .second, .val (.ref b1), .val (.ref b3), .val (.ref b6), .val (.ref b9), .val (.ref b12), .unset, .unset] [(.ref b12), (.ref b1)])) (fun _ k => st99.trans (XS.ifYes X99.here hx rfl (pc0 := 130) (pc' := 135) rfl (hb hby at_130) rfl ((if0 _ _).trans (teq (show (0 : Int32) = (0 : Int32) from (by decide))).1) (by decide) (by decide) (XS.aload X99.here hx rfl (hb hby at_135) rfl rfl (XS.aload X99.here hx rfl (hb hby at_137) rfl rfl k)))) ?_
        by_cases hk139_100 : q4 < q3
        · obtain ⟨cq101, kq101, q101a, q101b, q101c⟩ := isOf hZ e99 E_b1
          obtain ⟨_, _, ⟨T101, L101, k101, n101⟩, -, X101, ⟨Lc101, hQ101, l101, y101, z101⟩, st101⟩ := X99.virtualBack hx (y := (⟨"com/example/keys_to_structures/keystostructures/store/ExpiryQueue", "add", "(Lcom/example/keys_to_structures/keystostructures/store/TimedEntry;)V"⟩ : MethodName)) (z := (⟨"com/example/keys_to_structures/keystostructures/store/ExpiryQueue", "add", "(Lcom/example/keys_to_structures/keystostructures/store/TimedEntry;)V"⟩ : MethodName)) hown (mvT hZ (hw _ (List.mem_of_getElem? (i := 53) rfl))) (mvT hZ (hw _ (List.mem_of_getElem? (i := 54) rfl))) (notFace_of_selects (args := #[]) (mvT hZ (hw _ (List.mem_of_getElem? (i := 56) rfl)))) (mvT hZ (hw _ (List.mem_of_getElem? (i := 56) rfl))) (mvT hZ (hw _ (List.mem_of_getElem? (i := 55) rfl))) (by decide) (backOf (W := 0) (rmAd1s l Z aV hw [] b1 b12 b95 kb95 .null .null q4 (0 : Int32) b9 q3 (0 : Int32) T97.heap n0 Zn g_b1 g_b95 O_kb95 g_b12 g_b9 E_b1 F_heap_b1 F_size_b1 V_b95 E_b12 F_deadline_b12 F_position_b12 E_b9 F_deadline_b9 F_position_b9 ne_b1_b95 ne_b1_b12 ne_b1_b9 (Ne.symm ne_b12_b95) (Ne.symm ne_b9_b95) (Ne.symm ne_b9_b12) hk139_100) hZ (hw _ (List.mem_of_getElem? (i := 57) rfl)) (hw _ (List.mem_of_getElem? (i := 2) rfl)) (by decide) (by decide)) q101a q101c (g := (mkF m 139 #[.val (.int p0), .val (.long q1), .second, .val (.long q2), .second, .val (.long q3), .second, .val (.long q4), .second, .val (.ref b1), .val (.ref b3), .val (.ref b6), .val (.ref b9), .val (.ref b12), .unset, .unset] [(.ref b12), (.ref b1)])) rfl (by rw [hml]; rfl) (Steps.refl _) (argsL := [(.ref b12)]) (rest := []) (lenOf pd_8 rfl) rfl (by show 2 * 0 + _ ≤ _; exact Nat.le_of_eq rfl) (hb hby at_139) (fun _ _ => ⟨rfl, e99, (by decide : 11 + 0 ≤ _), (by decide : 58 + 0 ≤ _)⟩)
          dsimp only [Pt.U, Pt.locs, Pt.cells, Pt.slots] at X101 l101 y101 z101 st101 hQ101
          subst l101 y101 z101
          obtain ⟨rfl, N101q, K101, q101_0, q101_1, q101_2, q101_3, q101_4, q101_5, q101_6, q101_7, q101_8, q101_9⟩ := hQ101
          have V_b2 := V_b2.keep K101 (ninS (Ne.symm ne_b1_b2) (ninS ne_b2_b95 (ninS ne_b2_b12 (ninS ne_b2_b9 nin0))))
          have E_b3 := E_b3.keep K101
          have F_deadline_b3 := F_deadline_b3.keep K101 (ninS (Ne.symm ne_b1_b3) (ninS ne_b3_b95 (ninS ne_b3_b12 (ninS ne_b3_b9 nin0))))
          have F_position_b3 := F_position_b3.keep K101 (ninS (Ne.symm ne_b1_b3) (ninS ne_b3_b95 (ninS ne_b3_b12 (ninS ne_b3_b9 nin0))))
          have E_b6 := E_b6.keep K101
          have F_deadline_b6 := F_deadline_b6.keep K101 (ninS (Ne.symm ne_b1_b6) (ninS ne_b6_b95 (ninS ne_b6_b12 (ninS ne_b6_b9 nin0))))
          have F_position_b6 := F_position_b6.keep K101 (ninS (Ne.symm ne_b1_b6) (ninS ne_b6_b95 (ninS ne_b6_b12 (ninS ne_b6_b9 nin0))))
          have E_b1 := q101_0
          have F_heap_b1 := q101_1
          have F_size_b1 := q101_2
          have V_b95 := q101_3
          have E_b12 := q101_4
          have F_deadline_b12 := q101_5
          have F_position_b12 := q101_6
          have E_b9 := q101_7
          have F_deadline_b9 := q101_8
          have F_position_b9 := q101_9
          have Kp := Kp.trans K101 (allS (Or.inr sz_b1) (allS (Or.inr sz_b95) (allS (Or.inr sz_b12) (allS (Or.inr sz_b9) all0))))
          have Zn := Nat.le_trans Zn K101.1
          have N101 := Fr.app N99 N101q
          refine Run.st (S' := T101.setTop (mkF m 159 #[.val (.int p0), .val (.long q1), .second, .val (.long q2), .second, .val (.long q3), .second, .val (.long q4), .second, .val (.ref b1), .val (.ref b3), .val (.ref b6), .val (.ref b9), .val (.ref b12), .val (.ref b12), .unset] [])) (fun _ k => st101.trans (XS.lload X101.here hx rfl (hb hby at_142) rfl (XS.lload X101.here hx rfl (hb hby at_144) rfl (XS.lcmp X101.here hx rfl (hb hby at_146) rfl (XS.ifNo X101.here hx rfl (hb hby at_147) rfl (lcYes (Jvm.Free.XT.ll_ge_f (show q4 < q3 from hk139_100))) (XS.aload X101.here hx rfl (hb hby at_150) rfl rfl (XS.goto X101.here hx rfl (pc0 := 152) (pc' := 157) rfl (hb hby at_152) (by decide) (by decide) (XS.astore X101.here hx rfl (hb hby at_157) rfl rfl (l' := #[.val (.int p0), .val (.long q1), .second, .val (.long q2), .second, .val (.long q3), .second, .val (.long q4), .second, .val (.ref b1), .val (.ref b3), .val (.ref b6), .val (.ref b9), .val (.ref b12), .val (.ref b12), .unset]) rfl k)))))))) ?_
          refine Run.st (S' := T101.setTop (mkF m 178 #[.val (.int p0), .val (.long q1), .second, .val (.long q2), .second, .val (.long q3), .second, .val (.long q4), .second, .val (.ref b1), .val (.ref b3), .val (.ref b6), .val (.ref b9), .val (.ref b12), .val (.ref b12), .val (.ref b9)] [(.ref b1)])) (fun _ k => XS.lload X101.here hx rfl (hb hby at_159) rfl (XS.lload X101.here hx rfl (hb hby at_161) rfl (XS.lcmp X101.here hx rfl (hb hby at_163) rfl (XS.ifNo X101.here hx rfl (hb hby at_164) rfl (lcYes (Jvm.Free.XT.ll_ge_f (show q4 < q3 from hk139_100))) (XS.aload X101.here hx rfl (hb hby at_167) rfl rfl (XS.goto X101.here hx rfl (pc0 := 169) (pc' := 174) rfl (hb hby at_169) (by decide) (by decide) (XS.astore X101.here hx rfl (hb hby at_174) rfl rfl (l' := #[.val (.int p0), .val (.long q1), .second, .val (.long q2), .second, .val (.long q3), .second, .val (.long q4), .second, .val (.ref b1), .val (.ref b3), .val (.ref b6), .val (.ref b9), .val (.ref b12), .val (.ref b12), .val (.ref b9)]) rfl (XS.aload X101.here hx rfl (hb hby at_176) rfl rfl k)))))))) ?_
          obtain ⟨cq102, kq102, q102a, q102b, q102c⟩ := isOf hZ rfl E_b1
          obtain ⟨_, _, ⟨T102, L102, k102, n102⟩, -, X102, ⟨Lc102, hQ102, l102, y102, z102⟩, st102⟩ := X101.virtualBack hx (y := (⟨"com/example/keys_to_structures/keystostructures/store/ExpiryQueue", "first", "()Lcom/example/keys_to_structures/keystostructures/store/TimedEntry;"⟩ : MethodName)) (z := (⟨"com/example/keys_to_structures/keystostructures/store/ExpiryQueue", "first", "()Lcom/example/keys_to_structures/keystostructures/store/TimedEntry;"⟩ : MethodName)) hown (mvT hZ (hw _ (List.mem_of_getElem? (i := 48) rfl))) (mvT hZ (hw _ (List.mem_of_getElem? (i := 49) rfl))) (notFace_of_selects (args := #[]) (mvT hZ (hw _ (List.mem_of_getElem? (i := 51) rfl)))) (mvT hZ (hw _ (List.mem_of_getElem? (i := 51) rfl))) (mvT hZ (hw _ (List.mem_of_getElem? (i := 50) rfl))) (by decide) (backOf (W := 0) (rmFi2 l Z aV hw [] b1 b95 kb95 b12 (.ref b9) .null T101.heap n0 Zn F_heap_b1 F_size_b1 V_b95) hZ (hw _ (List.mem_of_getElem? (i := 52) rfl)) (hw _ (List.mem_of_getElem? (i := 2) rfl)) (by decide) (by decide)) q102a q102c (g := (mkF m 178 #[.val (.int p0), .val (.long q1), .second, .val (.long q2), .second, .val (.long q3), .second, .val (.long q4), .second, .val (.ref b1), .val (.ref b3), .val (.ref b6), .val (.ref b9), .val (.ref b12), .val (.ref b12), .val (.ref b9)] [(.ref b1)])) rfl (by rw [hml]; rfl) (Steps.refl _) (argsL := []) (rest := []) (lenOf pd_7 rfl) rfl (by show 2 * 0 + _ ≤ _; exact Nat.le_of_eq rfl) (hb hby at_178) (fun _ _ => ⟨rfl, rfl, (by decide : 11 + 0 ≤ _), (by decide : 58 + 0 ≤ _)⟩)
          dsimp only [Pt.U, Pt.locs, Pt.cells, Pt.slots] at X102 l102 y102 z102 st102 hQ102
          subst l102 y102 z102
          obtain ⟨rfl, N102q, e102⟩ := hQ102
          have N102 := Fr.app N101 N102q
          refine Run.st (S' := T102.setTop (mkF m 188 #[.val (.int p0), .val (.long q1), .second, .val (.long q2), .second, .val (.long q3), .second, .val (.long q4), .second, .val (.ref b1), .val (.ref b3), .val (.ref b6), .val (.ref b9), .val (.ref b12), .val (.ref b12), .val (.ref b9)] [(.ref b12)])) (fun _ k => st102.trans (XS.aload X102.here hx rfl (hb hby at_181) rfl rfl (Jvm.RoadKit.acmp (g := (mkF m 183 #[.val (.int p0), .val (.long q1), .second, .val (.long q2), .second, .val (.long q3), .second, .val (.long q4), .second, .val (.ref b1), .val (.ref b3), .val (.ref b6), .val (.ref b9), .val (.ref b12), .val (.ref b12), .val (.ref b9)] [(.ref b12), (.ref b12)])) X102 hx rfl rfl rfl (pc0 := 183) (pc' := 186) (same := true) rfl (hb hby at_183) rfl (decide_eq_true rfl) (by decide) (by decide) (XS.aload X102.here hx rfl (hb hby at_186) rfl rfl k)))) ?_
          obtain ⟨cq103, kq103, q103a, q103b, q103c⟩ := isOf hZ e102 E_b12
          obtain ⟨_, _, ⟨T103, L103, k103, n103⟩, -, X103, ⟨Lc103, hQ103, l103, y103, z103⟩, st103⟩ := X102.virtualBack hx (y := (⟨"com/example/keys_to_structures/keystostructures/store/TimedEntry", "position", "()I"⟩ : MethodName)) (z := (⟨"com/example/keys_to_structures/keystostructures/store/TimedEntry", "position", "()I"⟩ : MethodName)) hown (mvT hZ (hw _ (List.mem_of_getElem? (i := 74) rfl))) (mvT hZ (hw _ (List.mem_of_getElem? (i := 75) rfl))) (notFace_of_selects (args := #[]) (mvT hZ (hw _ (List.mem_of_getElem? (i := 77) rfl)))) (mvT hZ (hw _ (List.mem_of_getElem? (i := 77) rfl))) (mvT hZ (hw _ (List.mem_of_getElem? (i := 76) rfl))) (by decide) (backOf (W := 0) (rmPo l Z aV hw [] b12 (0 : Int32) T101.heap n0 Zn F_position_b12) hZ (hw _ (List.mem_of_getElem? (i := 78) rfl)) (hw _ (List.mem_of_getElem? (i := 15) rfl)) (by decide) (by decide)) q103a q103c (g := (mkF m 188 #[.val (.int p0), .val (.long q1), .second, .val (.long q2), .second, .val (.long q3), .second, .val (.long q4), .second, .val (.ref b1), .val (.ref b3), .val (.ref b6), .val (.ref b9), .val (.ref b12), .val (.ref b12), .val (.ref b9)] [(.ref b12)])) rfl (by rw [hml]; rfl) (Steps.refl _) (argsL := []) (rest := []) (lenOf pd_9 rfl) rfl (by show 2 * 0 + _ ≤ _; exact Nat.le_of_eq rfl) (hb hby at_188) (fun _ _ => ⟨rfl, e102, (by decide : 11 + 0 ≤ _), (by decide : 58 + 0 ≤ _)⟩)
          dsimp only [Pt.U, Pt.locs, Pt.cells, Pt.slots] at X103 l103 y103 z103 st103 hQ103
          subst l103 y103 z103
          obtain ⟨rfl, N103q, e103⟩ := hQ103
          have N103 := Fr.app N102 N103q
          refine Run.st (S' := T103.setTop (mkF m 196 #[.val (.int p0), .val (.long q1), .second, .val (.long q2), .second, .val (.long q3), .second, .val (.long q4), .second, .val (.ref b1), .val (.ref b3), .val (.ref b6), .val (.ref b9), .val (.ref b12), .val (.ref b12), .val (.ref b9)] [(.ref b9)])) (fun _ k => st103.trans (XS.ifNo X103.here hx rfl (hb hby at_191) rfl ((if0 _ _).trans (teq (show (0 : Int32) = (0 : Int32) from (by decide))).2) (XS.aload X103.here hx rfl (hb hby at_194) rfl rfl k))) ?_
          obtain ⟨cq104, kq104, q104a, q104b, q104c⟩ := isOf hZ e103 E_b9
          obtain ⟨_, _, ⟨T104, L104, k104, n104⟩, -, X104, ⟨Lc104, hQ104, l104, y104, z104⟩, st104⟩ := X103.virtualBack hx (y := (⟨"com/example/keys_to_structures/keystostructures/store/TimedEntry", "position", "()I"⟩ : MethodName)) (z := (⟨"com/example/keys_to_structures/keystostructures/store/TimedEntry", "position", "()I"⟩ : MethodName)) hown (mvT hZ (hw _ (List.mem_of_getElem? (i := 74) rfl))) (mvT hZ (hw _ (List.mem_of_getElem? (i := 75) rfl))) (notFace_of_selects (args := #[]) (mvT hZ (hw _ (List.mem_of_getElem? (i := 77) rfl)))) (mvT hZ (hw _ (List.mem_of_getElem? (i := 77) rfl))) (mvT hZ (hw _ (List.mem_of_getElem? (i := 76) rfl))) (by decide) (backOf (W := 0) (rmPo l Z aV hw [] b9 (1 : Int32) T101.heap n0 Zn F_position_b9) hZ (hw _ (List.mem_of_getElem? (i := 78) rfl)) (hw _ (List.mem_of_getElem? (i := 15) rfl)) (by decide) (by decide)) q104a q104c (g := (mkF m 196 #[.val (.int p0), .val (.long q1), .second, .val (.long q2), .second, .val (.long q3), .second, .val (.long q4), .second, .val (.ref b1), .val (.ref b3), .val (.ref b6), .val (.ref b9), .val (.ref b12), .val (.ref b12), .val (.ref b9)] [(.ref b9)])) rfl (by rw [hml]; rfl) (Steps.refl _) (argsL := []) (rest := []) (lenOf pd_9 rfl) rfl (by show 2 * 0 + _ ≤ _; exact Nat.le_of_eq rfl) (hb hby at_196) (fun _ _ => ⟨rfl, e103, (by decide : 11 + 0 ≤ _), (by decide : 58 + 0 ≤ _)⟩)
          dsimp only [Pt.U, Pt.locs, Pt.cells, Pt.slots] at X104 l104 y104 z104 st104 hQ104
          subst l104 y104 z104
          obtain ⟨rfl, N104q, e104⟩ := hQ104
          have N104 := Fr.app N103 N104q
          refine Run.st (S' := T104.setTop (mkF m 207 #[.val (.int p0), .val (.long q1), .second, .val (.long q2), .second, .val (.long q3), .second, .val (.long q4), .second, .val (.ref b1), .val (.ref b3), .val (.ref b6), .val (.ref b9), .val (.ref b12), .val (.ref b12), .val (.ref b9)] [(.ref b1)])) (fun _ k => st104.trans (XS.iconst X104.here hx rfl (hb hby at_199) (XS.icmpYes X104.here hx rfl (pc0 := 200) (pc' := 205) rfl (hb hby at_200) rfl (teq (show (1 : Int32) = (1 : Int32) from (by decide))).1 (by decide) (by decide) (XS.aload X104.here hx rfl (hb hby at_205) rfl rfl k)))) ?_
          obtain ⟨cq105, kq105, q105a, q105b, q105c⟩ := isOf hZ e104 E_b1
          obtain ⟨_, _, ⟨T105, L105, k105, n105⟩, -, X105, ⟨Lc105, hQ105, l105, y105, z105⟩, st105⟩ := X104.virtualBack hx (y := (⟨"com/example/keys_to_structures/keystostructures/store/ExpiryQueue", "clear", "()V"⟩ : MethodName)) (z := (⟨"com/example/keys_to_structures/keystostructures/store/ExpiryQueue", "clear", "()V"⟩ : MethodName)) hown (mvT hZ (hw _ (List.mem_of_getElem? (i := 41) rfl))) (mvT hZ (hw _ (List.mem_of_getElem? (i := 42) rfl))) (notFace_of_selects (args := #[]) (mvT hZ (hw _ (List.mem_of_getElem? (i := 44) rfl)))) (mvT hZ (hw _ (List.mem_of_getElem? (i := 44) rfl))) (mvT hZ (hw _ (List.mem_of_getElem? (i := 43) rfl))) (by decide) (backOf (W := 0) (rmClr l Z aV hw [] b1 b95 (2 : Int32) T101.heap n0 Zn g_b1 E_b1 F_heap_b1 F_size_b1) hZ (hw _ (List.mem_of_getElem? (i := 45) rfl)) (hw _ (List.mem_of_getElem? (i := 2) rfl)) (by decide) (by decide)) q105a q105c (g := (mkF m 207 #[.val (.int p0), .val (.long q1), .second, .val (.long q2), .second, .val (.long q3), .second, .val (.long q4), .second, .val (.ref b1), .val (.ref b3), .val (.ref b6), .val (.ref b9), .val (.ref b12), .val (.ref b12), .val (.ref b9)] [(.ref b1)])) rfl (by rw [hml]; rfl) (Steps.refl _) (argsL := []) (rest := []) (lenOf pd_5 rfl) rfl (by show 2 * 0 + _ ≤ _; exact Nat.le_of_eq rfl) (hb hby at_207) (fun _ _ => ⟨rfl, e104, (by decide : 11 + 1 ≤ _), (by decide : 58 + 16 ≤ _)⟩)
          dsimp only [Pt.U, Pt.locs, Pt.cells, Pt.slots] at X105 l105 y105 z105 st105 hQ105
          subst l105 y105 z105
          obtain ⟨b105, kb105, rfl, N105q, K105, g_b105, z_b105, O_kb105, q105_0, q105_1, q105_2, q105_3⟩ := hQ105
          have ne_b1_b105 : b1 ≠ b105 := Nat.ne_of_lt (Nat.lt_of_lt_of_le E_b1.lt z_b105)
          have ne_b2_b105 : b2 ≠ b105 := Nat.ne_of_lt (Nat.lt_of_lt_of_le V_b2.lt z_b105)
          have ne_b3_b105 : b3 ≠ b105 := Nat.ne_of_lt (Nat.lt_of_lt_of_le E_b3.lt z_b105)
          have ne_b6_b105 : b6 ≠ b105 := Nat.ne_of_lt (Nat.lt_of_lt_of_le E_b6.lt z_b105)
          have ne_b9_b105 : b9 ≠ b105 := Nat.ne_of_lt (Nat.lt_of_lt_of_le E_b9.lt z_b105)
          have ne_b12_b105 : b12 ≠ b105 := Nat.ne_of_lt (Nat.lt_of_lt_of_le E_b12.lt z_b105)
          have ne_b95_b105 : b95 ≠ b105 := Nat.ne_of_lt (Nat.lt_of_lt_of_le V_b95.lt z_b105)
          have sz_b105 : h0.size ≤ b105 := Nat.le_trans Kp.1 z_b105
          have V_b2 := V_b2.keep K105 (ninS (Ne.symm ne_b1_b2) nin0)
          have E_b3 := E_b3.keep K105
          have F_deadline_b3 := F_deadline_b3.keep K105 (ninS (Ne.symm ne_b1_b3) nin0)
          have F_position_b3 := F_position_b3.keep K105 (ninS (Ne.symm ne_b1_b3) nin0)
          have E_b6 := E_b6.keep K105
          have F_deadline_b6 := F_deadline_b6.keep K105 (ninS (Ne.symm ne_b1_b6) nin0)
          have F_position_b6 := F_position_b6.keep K105 (ninS (Ne.symm ne_b1_b6) nin0)
          have E_b9 := E_b9.keep K105
          have F_deadline_b9 := F_deadline_b9.keep K105 (ninS (Ne.symm ne_b1_b9) nin0)
          have F_position_b9 := F_position_b9.keep K105 (ninS (Ne.symm ne_b1_b9) nin0)
          have E_b12 := E_b12.keep K105
          have F_deadline_b12 := F_deadline_b12.keep K105 (ninS (Ne.symm ne_b1_b12) nin0)
          have F_position_b12 := F_position_b12.keep K105 (ninS (Ne.symm ne_b1_b12) nin0)
          have V_b95 := V_b95.keep K105 (ninS (Ne.symm ne_b1_b95) nin0)
          have E_b1 := q105_0
          have F_heap_b1 := q105_1
          have F_size_b1 := q105_2
          have V_b105 := q105_3
          have Kp := Kp.trans K105 (allS (Or.inr sz_b1) all0)
          have Zn := Nat.le_trans Zn K105.1
          have N105 := Fr.app N104 N105q
          refine Run.st (S' := T105.setTop (mkF m 212 #[.val (.int p0), .val (.long q1), .second, .val (.long q2), .second, .val (.long q3), .second, .val (.long q4), .second, .val (.ref b1), .val (.ref b3), .val (.ref b6), .val (.ref b9), .val (.ref b12), .val (.ref b12), .val (.ref b9)] [(.ref b1)])) (fun _ k => st105.trans (XS.aload X105.here hx rfl (hb hby at_210) rfl rfl k)) ?_
          obtain ⟨cq106, kq106, q106a, q106b, q106c⟩ := isOf hZ rfl E_b1
          obtain ⟨_, _, ⟨T106, L106, k106, n106⟩, -, X106, ⟨Lc106, hQ106, l106, y106, z106⟩, st106⟩ := X105.virtualBack hx (y := (⟨"com/example/keys_to_structures/keystostructures/store/ExpiryQueue", "first", "()Lcom/example/keys_to_structures/keystostructures/store/TimedEntry;"⟩ : MethodName)) (z := (⟨"com/example/keys_to_structures/keystostructures/store/ExpiryQueue", "first", "()Lcom/example/keys_to_structures/keystostructures/store/TimedEntry;"⟩ : MethodName)) hown (mvT hZ (hw _ (List.mem_of_getElem? (i := 48) rfl))) (mvT hZ (hw _ (List.mem_of_getElem? (i := 49) rfl))) (notFace_of_selects (args := #[]) (mvT hZ (hw _ (List.mem_of_getElem? (i := 51) rfl)))) (mvT hZ (hw _ (List.mem_of_getElem? (i := 51) rfl))) (mvT hZ (hw _ (List.mem_of_getElem? (i := 50) rfl))) (by decide) (backOf (W := 0) (rmFi0 l Z aV hw [] b1 b105 kb105 .null .null .null T105.heap n0 Zn F_heap_b1 F_size_b1 V_b105) hZ (hw _ (List.mem_of_getElem? (i := 52) rfl)) (hw _ (List.mem_of_getElem? (i := 2) rfl)) (by decide) (by decide)) q106a q106c (g := (mkF m 212 #[.val (.int p0), .val (.long q1), .second, .val (.long q2), .second, .val (.long q3), .second, .val (.long q4), .second, .val (.ref b1), .val (.ref b3), .val (.ref b6), .val (.ref b9), .val (.ref b12), .val (.ref b12), .val (.ref b9)] [(.ref b1)])) rfl (by rw [hml]; rfl) (Steps.refl _) (argsL := []) (rest := []) (lenOf pd_7 rfl) rfl (by show 2 * 0 + _ ≤ _; exact Nat.le_of_eq rfl) (hb hby at_212) (fun _ _ => ⟨rfl, rfl, (by decide : 12 + 0 ≤ _), (by decide : 74 + 0 ≤ _)⟩)
          dsimp only [Pt.U, Pt.locs, Pt.cells, Pt.slots] at X106 l106 y106 z106 st106 hQ106
          subst l106 y106 z106
          obtain ⟨rfl, N106q, e106⟩ := hQ106
          have N106 := Fr.app N105 N106q
          refine Run.st (S' := T106.setTop (mkF m 223 #[.val (.int p0), .val (.long q1), .second, .val (.long q2), .second, .val (.long q3), .second, .val (.long q4), .second, .val (.ref b1), .val (.ref b3), .val (.ref b6), .val (.ref b9), .val (.ref b12), .val (.ref b12), .val (.ref b9)] [(.int (1 : Int32))])) (fun _ k => st106.trans (XS.ifnonnullNo X106.here hx rfl (hb hby at_215) rfl (XS.iconst X106.here hx rfl (hb hby at_218) (XS.goto X106.here hx rfl (pc0 := 219) (pc' := 223) rfl (hb hby at_219) (by decide) (by decide) k)))) ?_
          refine Run.out X106 hx Bd.notSynchronized Bd.returns rfl (Or.inl ⟨rfl, by simp, _, rfl⟩) (hb hby at_223) (by decide) (by decide) ?_
          rw [e106]
          exact ⟨rfl, N106⟩
        · obtain ⟨cq107, kq107, q107a, q107b, q107c⟩ := isOf hZ e99 E_b1
          obtain ⟨_, _, ⟨T107, L107, k107, n107⟩, -, X107, ⟨Lc107, hQ107, l107, y107, z107⟩, st107⟩ := X99.virtualBack hx (y := (⟨"com/example/keys_to_structures/keystostructures/store/ExpiryQueue", "add", "(Lcom/example/keys_to_structures/keystostructures/store/TimedEntry;)V"⟩ : MethodName)) (z := (⟨"com/example/keys_to_structures/keystostructures/store/ExpiryQueue", "add", "(Lcom/example/keys_to_structures/keystostructures/store/TimedEntry;)V"⟩ : MethodName)) hown (mvT hZ (hw _ (List.mem_of_getElem? (i := 53) rfl))) (mvT hZ (hw _ (List.mem_of_getElem? (i := 54) rfl))) (notFace_of_selects (args := #[]) (mvT hZ (hw _ (List.mem_of_getElem? (i := 56) rfl)))) (mvT hZ (hw _ (List.mem_of_getElem? (i := 56) rfl))) (mvT hZ (hw _ (List.mem_of_getElem? (i := 55) rfl))) (by decide) (backOf (W := 0) (rmAd1 l Z aV hw [] b1 b12 b95 kb95 .null .null q4 (0 : Int32) b9 q3 (0 : Int32) T97.heap n0 Zn g_b1 g_b95 O_kb95 g_b12 g_b9 E_b1 F_heap_b1 F_size_b1 V_b95 E_b12 F_deadline_b12 F_position_b12 E_b9 F_deadline_b9 F_position_b9 ne_b1_b95 ne_b1_b12 ne_b1_b9 (Ne.symm ne_b12_b95) (Ne.symm ne_b9_b95) (Ne.symm ne_b9_b12) hk139_100) hZ (hw _ (List.mem_of_getElem? (i := 57) rfl)) (hw _ (List.mem_of_getElem? (i := 2) rfl)) (by decide) (by decide)) q107a q107c (g := (mkF m 139 #[.val (.int p0), .val (.long q1), .second, .val (.long q2), .second, .val (.long q3), .second, .val (.long q4), .second, .val (.ref b1), .val (.ref b3), .val (.ref b6), .val (.ref b9), .val (.ref b12), .unset, .unset] [(.ref b12), (.ref b1)])) rfl (by rw [hml]; rfl) (Steps.refl _) (argsL := [(.ref b12)]) (rest := []) (lenOf pd_8 rfl) rfl (by show 2 * 0 + _ ≤ _; exact Nat.le_of_eq rfl) (hb hby at_139) (fun _ _ => ⟨rfl, e99, (by decide : 11 + 0 ≤ _), (by decide : 58 + 0 ≤ _)⟩)
          dsimp only [Pt.U, Pt.locs, Pt.cells, Pt.slots] at X107 l107 y107 z107 st107 hQ107
          subst l107 y107 z107
          obtain ⟨rfl, N107q, K107, q107_0, q107_1, q107_2, q107_3, q107_4, q107_5, q107_6⟩ := hQ107
          have V_b2 := V_b2.keep K107 (ninS (Ne.symm ne_b1_b2) (ninS ne_b2_b95 (ninS ne_b2_b12 nin0)))
          have E_b3 := E_b3.keep K107
          have F_deadline_b3 := F_deadline_b3.keep K107 (ninS (Ne.symm ne_b1_b3) (ninS ne_b3_b95 (ninS ne_b3_b12 nin0)))
          have F_position_b3 := F_position_b3.keep K107 (ninS (Ne.symm ne_b1_b3) (ninS ne_b3_b95 (ninS ne_b3_b12 nin0)))
          have E_b6 := E_b6.keep K107
          have F_deadline_b6 := F_deadline_b6.keep K107 (ninS (Ne.symm ne_b1_b6) (ninS ne_b6_b95 (ninS ne_b6_b12 nin0)))
          have F_position_b6 := F_position_b6.keep K107 (ninS (Ne.symm ne_b1_b6) (ninS ne_b6_b95 (ninS ne_b6_b12 nin0)))
          have E_b9 := E_b9.keep K107
          have F_deadline_b9 := F_deadline_b9.keep K107 (ninS (Ne.symm ne_b1_b9) (ninS ne_b9_b95 (ninS ne_b9_b12 nin0)))
          have F_position_b9 := F_position_b9.keep K107 (ninS (Ne.symm ne_b1_b9) (ninS ne_b9_b95 (ninS ne_b9_b12 nin0)))
          have E_b1 := q107_0
          have F_heap_b1 := q107_1
          have F_size_b1 := q107_2
          have V_b95 := q107_3
          have E_b12 := q107_4
          have F_deadline_b12 := q107_5
          have F_position_b12 := q107_6
          have Kp := Kp.trans K107 (allS (Or.inr sz_b1) (allS (Or.inr sz_b95) (allS (Or.inr sz_b12) all0)))
          have Zn := Nat.le_trans Zn K107.1
          have N107 := Fr.app N99 N107q
          refine Run.st (S' := T107.setTop (mkF m 161 #[.val (.int p0), .val (.long q1), .second, .val (.long q2), .second, .val (.long q3), .second, .val (.long q4), .second, .val (.ref b1), .val (.ref b3), .val (.ref b6), .val (.ref b9), .val (.ref b12), .val (.ref b9), .unset] [(.long q4)])) (fun _ k => st107.trans (XS.lload X107.here hx rfl (hb hby at_142) rfl (XS.lload X107.here hx rfl (hb hby at_144) rfl (XS.lcmp X107.here hx rfl (hb hby at_146) rfl (XS.ifYes X107.here hx rfl (pc0 := 147) (pc' := 155) rfl (hb hby at_147) rfl (lcYes (Jvm.Free.XT.ll_ge_t (show ¬ (q4 < q3) from hk139_100))) (by decide) (by decide) (XS.aload X107.here hx rfl (hb hby at_155) rfl rfl (XS.astore X107.here hx rfl (hb hby at_157) rfl rfl (l' := #[.val (.int p0), .val (.long q1), .second, .val (.long q2), .second, .val (.long q3), .second, .val (.long q4), .second, .val (.ref b1), .val (.ref b3), .val (.ref b6), .val (.ref b9), .val (.ref b12), .val (.ref b9), .unset]) rfl (XS.lload X107.here hx rfl (hb hby at_159) rfl k)))))))) ?_
          refine Run.st (S' := T107.setTop (mkF m 178 #[.val (.int p0), .val (.long q1), .second, .val (.long q2), .second, .val (.long q3), .second, .val (.long q4), .second, .val (.ref b1), .val (.ref b3), .val (.ref b6), .val (.ref b9), .val (.ref b12), .val (.ref b9), .val (.ref b12)] [(.ref b1)])) (fun _ k => XS.lload X107.here hx rfl (hb hby at_161) rfl (XS.lcmp X107.here hx rfl (hb hby at_163) rfl (XS.ifYes X107.here hx rfl (pc0 := 164) (pc' := 172) rfl (hb hby at_164) rfl (lcYes (Jvm.Free.XT.ll_ge_t (show ¬ (q4 < q3) from hk139_100))) (by decide) (by decide) (XS.aload X107.here hx rfl (hb hby at_172) rfl rfl (XS.astore X107.here hx rfl (hb hby at_174) rfl rfl (l' := #[.val (.int p0), .val (.long q1), .second, .val (.long q2), .second, .val (.long q3), .second, .val (.long q4), .second, .val (.ref b1), .val (.ref b3), .val (.ref b6), .val (.ref b9), .val (.ref b12), .val (.ref b9), .val (.ref b12)]) rfl (XS.aload X107.here hx rfl (hb hby at_176) rfl rfl k)))))) ?_
          obtain ⟨cq108, kq108, q108a, q108b, q108c⟩ := isOf hZ rfl E_b1
          obtain ⟨_, _, ⟨T108, L108, k108, n108⟩, -, X108, ⟨Lc108, hQ108, l108, y108, z108⟩, st108⟩ := X107.virtualBack hx (y := (⟨"com/example/keys_to_structures/keystostructures/store/ExpiryQueue", "first", "()Lcom/example/keys_to_structures/keystostructures/store/TimedEntry;"⟩ : MethodName)) (z := (⟨"com/example/keys_to_structures/keystostructures/store/ExpiryQueue", "first", "()Lcom/example/keys_to_structures/keystostructures/store/TimedEntry;"⟩ : MethodName)) hown (mvT hZ (hw _ (List.mem_of_getElem? (i := 48) rfl))) (mvT hZ (hw _ (List.mem_of_getElem? (i := 49) rfl))) (notFace_of_selects (args := #[]) (mvT hZ (hw _ (List.mem_of_getElem? (i := 51) rfl)))) (mvT hZ (hw _ (List.mem_of_getElem? (i := 51) rfl))) (mvT hZ (hw _ (List.mem_of_getElem? (i := 50) rfl))) (by decide) (backOf (W := 0) (rmFi2 l Z aV hw [] b1 b95 kb95 b9 (.ref b12) .null T107.heap n0 Zn F_heap_b1 F_size_b1 V_b95) hZ (hw _ (List.mem_of_getElem? (i := 52) rfl)) (hw _ (List.mem_of_getElem? (i := 2) rfl)) (by decide) (by decide)) q108a q108c (g := (mkF m 178 #[.val (.int p0), .val (.long q1), .second, .val (.long q2), .second, .val (.long q3), .second, .val (.long q4), .second, .val (.ref b1), .val (.ref b3), .val (.ref b6), .val (.ref b9), .val (.ref b12), .val (.ref b9), .val (.ref b12)] [(.ref b1)])) rfl (by rw [hml]; rfl) (Steps.refl _) (argsL := []) (rest := []) (lenOf pd_7 rfl) rfl (by show 2 * 0 + _ ≤ _; exact Nat.le_of_eq rfl) (hb hby at_178) (fun _ _ => ⟨rfl, rfl, (by decide : 11 + 0 ≤ _), (by decide : 58 + 0 ≤ _)⟩)
          dsimp only [Pt.U, Pt.locs, Pt.cells, Pt.slots] at X108 l108 y108 z108 st108 hQ108
          subst l108 y108 z108
          obtain ⟨rfl, N108q, e108⟩ := hQ108
          have N108 := Fr.app N107 N108q
          refine Run.st (S' := T108.setTop (mkF m 188 #[.val (.int p0), .val (.long q1), .second, .val (.long q2), .second, .val (.long q3), .second, .val (.long q4), .second, .val (.ref b1), .val (.ref b3), .val (.ref b6), .val (.ref b9), .val (.ref b12), .val (.ref b9), .val (.ref b12)] [(.ref b9)])) (fun _ k => st108.trans (XS.aload X108.here hx rfl (hb hby at_181) rfl rfl (Jvm.RoadKit.acmp (g := (mkF m 183 #[.val (.int p0), .val (.long q1), .second, .val (.long q2), .second, .val (.long q3), .second, .val (.long q4), .second, .val (.ref b1), .val (.ref b3), .val (.ref b6), .val (.ref b9), .val (.ref b12), .val (.ref b9), .val (.ref b12)] [(.ref b9), (.ref b9)])) X108 hx rfl rfl rfl (pc0 := 183) (pc' := 186) (same := true) rfl (hb hby at_183) rfl (decide_eq_true rfl) (by decide) (by decide) (XS.aload X108.here hx rfl (hb hby at_186) rfl rfl k)))) ?_
          obtain ⟨cq109, kq109, q109a, q109b, q109c⟩ := isOf hZ e108 E_b9
          obtain ⟨_, _, ⟨T109, L109, k109, n109⟩, -, X109, ⟨Lc109, hQ109, l109, y109, z109⟩, st109⟩ := X108.virtualBack hx (y := (⟨"com/example/keys_to_structures/keystostructures/store/TimedEntry", "position", "()I"⟩ : MethodName)) (z := (⟨"com/example/keys_to_structures/keystostructures/store/TimedEntry", "position", "()I"⟩ : MethodName)) hown (mvT hZ (hw _ (List.mem_of_getElem? (i := 74) rfl))) (mvT hZ (hw _ (List.mem_of_getElem? (i := 75) rfl))) (notFace_of_selects (args := #[]) (mvT hZ (hw _ (List.mem_of_getElem? (i := 77) rfl)))) (mvT hZ (hw _ (List.mem_of_getElem? (i := 77) rfl))) (mvT hZ (hw _ (List.mem_of_getElem? (i := 76) rfl))) (by decide) (backOf (W := 0) (rmPo l Z aV hw [] b9 (0 : Int32) T107.heap n0 Zn F_position_b9) hZ (hw _ (List.mem_of_getElem? (i := 78) rfl)) (hw _ (List.mem_of_getElem? (i := 15) rfl)) (by decide) (by decide)) q109a q109c (g := (mkF m 188 #[.val (.int p0), .val (.long q1), .second, .val (.long q2), .second, .val (.long q3), .second, .val (.long q4), .second, .val (.ref b1), .val (.ref b3), .val (.ref b6), .val (.ref b9), .val (.ref b12), .val (.ref b9), .val (.ref b12)] [(.ref b9)])) rfl (by rw [hml]; rfl) (Steps.refl _) (argsL := []) (rest := []) (lenOf pd_9 rfl) rfl (by show 2 * 0 + _ ≤ _; exact Nat.le_of_eq rfl) (hb hby at_188) (fun _ _ => ⟨rfl, e108, (by decide : 11 + 0 ≤ _), (by decide : 58 + 0 ≤ _)⟩)
          dsimp only [Pt.U, Pt.locs, Pt.cells, Pt.slots] at X109 l109 y109 z109 st109 hQ109
          subst l109 y109 z109
          obtain ⟨rfl, N109q, e109⟩ := hQ109
          have N109 := Fr.app N108 N109q
          refine Run.st (S' := T109.setTop (mkF m 196 #[.val (.int p0), .val (.long q1), .second, .val (.long q2), .second, .val (.long q3), .second, .val (.long q4), .second, .val (.ref b1), .val (.ref b3), .val (.ref b6), .val (.ref b9), .val (.ref b12), .val (.ref b9), .val (.ref b12)] [(.ref b12)])) (fun _ k => st109.trans (XS.ifNo X109.here hx rfl (hb hby at_191) rfl ((if0 _ _).trans (teq (show (0 : Int32) = (0 : Int32) from (by decide))).2) (XS.aload X109.here hx rfl (hb hby at_194) rfl rfl k))) ?_
          obtain ⟨cq110, kq110, q110a, q110b, q110c⟩ := isOf hZ e109 E_b12
          obtain ⟨_, _, ⟨T110, L110, k110, n110⟩, -, X110, ⟨Lc110, hQ110, l110, y110, z110⟩, st110⟩ := X109.virtualBack hx (y := (⟨"com/example/keys_to_structures/keystostructures/store/TimedEntry", "position", "()I"⟩ : MethodName)) (z := (⟨"com/example/keys_to_structures/keystostructures/store/TimedEntry", "position", "()I"⟩ : MethodName)) hown (mvT hZ (hw _ (List.mem_of_getElem? (i := 74) rfl))) (mvT hZ (hw _ (List.mem_of_getElem? (i := 75) rfl))) (notFace_of_selects (args := #[]) (mvT hZ (hw _ (List.mem_of_getElem? (i := 77) rfl)))) (mvT hZ (hw _ (List.mem_of_getElem? (i := 77) rfl))) (mvT hZ (hw _ (List.mem_of_getElem? (i := 76) rfl))) (by decide) (backOf (W := 0) (rmPo l Z aV hw [] b12 (1 : Int32) T107.heap n0 Zn F_position_b12) hZ (hw _ (List.mem_of_getElem? (i := 78) rfl)) (hw _ (List.mem_of_getElem? (i := 15) rfl)) (by decide) (by decide)) q110a q110c (g := (mkF m 196 #[.val (.int p0), .val (.long q1), .second, .val (.long q2), .second, .val (.long q3), .second, .val (.long q4), .second, .val (.ref b1), .val (.ref b3), .val (.ref b6), .val (.ref b9), .val (.ref b12), .val (.ref b9), .val (.ref b12)] [(.ref b12)])) rfl (by rw [hml]; rfl) (Steps.refl _) (argsL := []) (rest := []) (lenOf pd_9 rfl) rfl (by show 2 * 0 + _ ≤ _; exact Nat.le_of_eq rfl) (hb hby at_196) (fun _ _ => ⟨rfl, e109, (by decide : 11 + 0 ≤ _), (by decide : 58 + 0 ≤ _)⟩)
          dsimp only [Pt.U, Pt.locs, Pt.cells, Pt.slots] at X110 l110 y110 z110 st110 hQ110
          subst l110 y110 z110
          obtain ⟨rfl, N110q, e110⟩ := hQ110
          have N110 := Fr.app N109 N110q
          refine Run.st (S' := T110.setTop (mkF m 207 #[.val (.int p0), .val (.long q1), .second, .val (.long q2), .second, .val (.long q3), .second, .val (.long q4), .second, .val (.ref b1), .val (.ref b3), .val (.ref b6), .val (.ref b9), .val (.ref b12), .val (.ref b9), .val (.ref b12)] [(.ref b1)])) (fun _ k => st110.trans (XS.iconst X110.here hx rfl (hb hby at_199) (XS.icmpYes X110.here hx rfl (pc0 := 200) (pc' := 205) rfl (hb hby at_200) rfl (teq (show (1 : Int32) = (1 : Int32) from (by decide))).1 (by decide) (by decide) (XS.aload X110.here hx rfl (hb hby at_205) rfl rfl k)))) ?_
          obtain ⟨cq111, kq111, q111a, q111b, q111c⟩ := isOf hZ e110 E_b1
          obtain ⟨_, _, ⟨T111, L111, k111, n111⟩, -, X111, ⟨Lc111, hQ111, l111, y111, z111⟩, st111⟩ := X110.virtualBack hx (y := (⟨"com/example/keys_to_structures/keystostructures/store/ExpiryQueue", "clear", "()V"⟩ : MethodName)) (z := (⟨"com/example/keys_to_structures/keystostructures/store/ExpiryQueue", "clear", "()V"⟩ : MethodName)) hown (mvT hZ (hw _ (List.mem_of_getElem? (i := 41) rfl))) (mvT hZ (hw _ (List.mem_of_getElem? (i := 42) rfl))) (notFace_of_selects (args := #[]) (mvT hZ (hw _ (List.mem_of_getElem? (i := 44) rfl)))) (mvT hZ (hw _ (List.mem_of_getElem? (i := 44) rfl))) (mvT hZ (hw _ (List.mem_of_getElem? (i := 43) rfl))) (by decide) (backOf (W := 0) (rmClr l Z aV hw [] b1 b95 (2 : Int32) T107.heap n0 Zn g_b1 E_b1 F_heap_b1 F_size_b1) hZ (hw _ (List.mem_of_getElem? (i := 45) rfl)) (hw _ (List.mem_of_getElem? (i := 2) rfl)) (by decide) (by decide)) q111a q111c (g := (mkF m 207 #[.val (.int p0), .val (.long q1), .second, .val (.long q2), .second, .val (.long q3), .second, .val (.long q4), .second, .val (.ref b1), .val (.ref b3), .val (.ref b6), .val (.ref b9), .val (.ref b12), .val (.ref b9), .val (.ref b12)] [(.ref b1)])) rfl (by rw [hml]; rfl) (Steps.refl _) (argsL := []) (rest := []) (lenOf pd_5 rfl) rfl (by show 2 * 0 + _ ≤ _; exact Nat.le_of_eq rfl) (hb hby at_207) (fun _ _ => ⟨rfl, e110, (by decide : 11 + 1 ≤ _), (by decide : 58 + 16 ≤ _)⟩)
          dsimp only [Pt.U, Pt.locs, Pt.cells, Pt.slots] at X111 l111 y111 z111 st111 hQ111
          subst l111 y111 z111
          obtain ⟨b111, kb111, rfl, N111q, K111, g_b111, z_b111, O_kb111, q111_0, q111_1, q111_2, q111_3⟩ := hQ111
          have ne_b1_b111 : b1 ≠ b111 := Nat.ne_of_lt (Nat.lt_of_lt_of_le E_b1.lt z_b111)
          have ne_b2_b111 : b2 ≠ b111 := Nat.ne_of_lt (Nat.lt_of_lt_of_le V_b2.lt z_b111)
          have ne_b3_b111 : b3 ≠ b111 := Nat.ne_of_lt (Nat.lt_of_lt_of_le E_b3.lt z_b111)
          have ne_b6_b111 : b6 ≠ b111 := Nat.ne_of_lt (Nat.lt_of_lt_of_le E_b6.lt z_b111)
          have ne_b9_b111 : b9 ≠ b111 := Nat.ne_of_lt (Nat.lt_of_lt_of_le E_b9.lt z_b111)
          have ne_b12_b111 : b12 ≠ b111 := Nat.ne_of_lt (Nat.lt_of_lt_of_le E_b12.lt z_b111)
          have ne_b95_b111 : b95 ≠ b111 := Nat.ne_of_lt (Nat.lt_of_lt_of_le V_b95.lt z_b111)
          have sz_b111 : h0.size ≤ b111 := Nat.le_trans Kp.1 z_b111
          have V_b2 := V_b2.keep K111 (ninS (Ne.symm ne_b1_b2) nin0)
          have E_b3 := E_b3.keep K111
          have F_deadline_b3 := F_deadline_b3.keep K111 (ninS (Ne.symm ne_b1_b3) nin0)
          have F_position_b3 := F_position_b3.keep K111 (ninS (Ne.symm ne_b1_b3) nin0)
          have E_b6 := E_b6.keep K111
          have F_deadline_b6 := F_deadline_b6.keep K111 (ninS (Ne.symm ne_b1_b6) nin0)
          have F_position_b6 := F_position_b6.keep K111 (ninS (Ne.symm ne_b1_b6) nin0)
          have E_b9 := E_b9.keep K111
          have F_deadline_b9 := F_deadline_b9.keep K111 (ninS (Ne.symm ne_b1_b9) nin0)
          have F_position_b9 := F_position_b9.keep K111 (ninS (Ne.symm ne_b1_b9) nin0)
          have E_b12 := E_b12.keep K111
          have F_deadline_b12 := F_deadline_b12.keep K111 (ninS (Ne.symm ne_b1_b12) nin0)
          have F_position_b12 := F_position_b12.keep K111 (ninS (Ne.symm ne_b1_b12) nin0)
          have V_b95 := V_b95.keep K111 (ninS (Ne.symm ne_b1_b95) nin0)
          have E_b1 := q111_0
          have F_heap_b1 := q111_1
          have F_size_b1 := q111_2
          have V_b111 := q111_3
          have Kp := Kp.trans K111 (allS (Or.inr sz_b1) all0)
          have Zn := Nat.le_trans Zn K111.1
          have N111 := Fr.app N110 N111q
          refine Run.st (S' := T111.setTop (mkF m 212 #[.val (.int p0), .val (.long q1), .second, .val (.long q2), .second, .val (.long q3), .second, .val (.long q4), .second, .val (.ref b1), .val (.ref b3), .val (.ref b6), .val (.ref b9), .val (.ref b12), .val (.ref b9), .val (.ref b12)] [(.ref b1)])) (fun _ k => st111.trans (XS.aload X111.here hx rfl (hb hby at_210) rfl rfl k)) ?_
          obtain ⟨cq112, kq112, q112a, q112b, q112c⟩ := isOf hZ rfl E_b1
          obtain ⟨_, _, ⟨T112, L112, k112, n112⟩, -, X112, ⟨Lc112, hQ112, l112, y112, z112⟩, st112⟩ := X111.virtualBack hx (y := (⟨"com/example/keys_to_structures/keystostructures/store/ExpiryQueue", "first", "()Lcom/example/keys_to_structures/keystostructures/store/TimedEntry;"⟩ : MethodName)) (z := (⟨"com/example/keys_to_structures/keystostructures/store/ExpiryQueue", "first", "()Lcom/example/keys_to_structures/keystostructures/store/TimedEntry;"⟩ : MethodName)) hown (mvT hZ (hw _ (List.mem_of_getElem? (i := 48) rfl))) (mvT hZ (hw _ (List.mem_of_getElem? (i := 49) rfl))) (notFace_of_selects (args := #[]) (mvT hZ (hw _ (List.mem_of_getElem? (i := 51) rfl)))) (mvT hZ (hw _ (List.mem_of_getElem? (i := 51) rfl))) (mvT hZ (hw _ (List.mem_of_getElem? (i := 50) rfl))) (by decide) (backOf (W := 0) (rmFi0 l Z aV hw [] b1 b111 kb111 .null .null .null T111.heap n0 Zn F_heap_b1 F_size_b1 V_b111) hZ (hw _ (List.mem_of_getElem? (i := 52) rfl)) (hw _ (List.mem_of_getElem? (i := 2) rfl)) (by decide) (by decide)) q112a q112c (g := (mkF m 212 #[.val (.int p0), .val (.long q1), .second, .val (.long q2), .second, .val (.long q3), .second, .val (.long q4), .second, .val (.ref b1), .val (.ref b3), .val (.ref b6), .val (.ref b9), .val (.ref b12), .val (.ref b9), .val (.ref b12)] [(.ref b1)])) rfl (by rw [hml]; rfl) (Steps.refl _) (argsL := []) (rest := []) (lenOf pd_7 rfl) rfl (by show 2 * 0 + _ ≤ _; exact Nat.le_of_eq rfl) (hb hby at_212) (fun _ _ => ⟨rfl, rfl, (by decide : 12 + 0 ≤ _), (by decide : 74 + 0 ≤ _)⟩)
          dsimp only [Pt.U, Pt.locs, Pt.cells, Pt.slots] at X112 l112 y112 z112 st112 hQ112
          subst l112 y112 z112
          obtain ⟨rfl, N112q, e112⟩ := hQ112
          have N112 := Fr.app N111 N112q
          refine Run.st (S' := T112.setTop (mkF m 223 #[.val (.int p0), .val (.long q1), .second, .val (.long q2), .second, .val (.long q3), .second, .val (.long q4), .second, .val (.ref b1), .val (.ref b3), .val (.ref b6), .val (.ref b9), .val (.ref b12), .val (.ref b9), .val (.ref b12)] [(.int (1 : Int32))])) (fun _ k => st112.trans (XS.ifnonnullNo X112.here hx rfl (hb hby at_215) rfl (XS.iconst X112.here hx rfl (hb hby at_218) (XS.goto X112.here hx rfl (pc0 := 219) (pc' := 223) rfl (hb hby at_219) (by decide) (by decide) k)))) ?_
          refine Run.out X112 hx Bd.notSynchronized Bd.returns rfl (Or.inl ⟨rfl, by simp, _, rfl⟩) (hb hby at_223) (by decide) (by decide) ?_
          rw [e112]
          exact ⟨rfl, N112⟩
set_option maxRecDepth 65536 in
set_option maxHeartbeats 40000000 in
theorem comes_1 {Post : Tables → Env → Array Value → State → Outcome → State → Prop} (hpost : ∀ tb e args s v u, (limb_1_1.after args s (.returned v) u = true ∧ limb_1_2.after args s (.returned v) u = true ∧ True) → FrameEnd s (.returned v) u (Jvm.fieldLocs frame_1_writes args s ++ Jvm.arrayLocs frame_1_arrays args s ++ Jvm.staticLocs frame_1_statics s) 32 256 → Post tb e args s (.returned v) u) :
    ArmFor flags0 classFile x code maxLocals ret World_1 tables_1 room_1 Calls_1 rest_1 Pre_1 Post := by
  intro l hfl _ _ p e ha hc hk s m args below hf hA hF happ hP
  obtain ⟨hcalls, hrest, hpre⟩ := hP
  obtain ⟨-, -, -, hnamed, -, -, -, hat⟩ := (Spec.applies_iff hf).mp happ
  obtain ⟨hg, hn⟩ := and_e (Cond.before_iff.mp (show (Jvm.Cond.and given_1 narrow_1).before args s = true from hpre))
  obtain ⟨gv1, gv2⟩ := and_e hg
  obtain ⟨gv3, gv4⟩ := and_e gv2
  obtain ⟨gv5, gv6⟩ := and_e gv4
  obtain ⟨gv7, gv8⟩ := and_e gv6
  obtain ⟨gv9, gv10⟩ := and_e gv8
  obtain ⟨w0, w1, w2, w3, w4, rfl⟩ : ∃ w0 w1 w2 w3 w4 : Value, args = #[w0, w1, w2, w3, w4] := by
    have hs : args.size = 5 := by simpa [Cond.value, given_1] using gv1
    obtain ⟨L⟩ := args
    match L, hs with
    | [w0, w1, w2, w3, w4], _ => exact ⟨w0, w1, w2, w3, w4, rfl⟩
  have hw := fun d (hd : d ∈ tables_1) => atoms_spec (ws := Jvm.Cond.code x code maxLocals ret :: tables_1) hat d (List.mem_cons_of_mem _ hd)
  have hfit : Fit s := fun {y c} hc i hi => by
    obtain ⟨ha, rfl⟩ := Array.getElem?_eq_some_iff.mp hc
    have q := List.all_eq_true.mp ((Array.all_eq_true_iff_forall_mem.mp hF) _ (Array.getElem_mem ha)) i (List.mem_range.mpr hi)
    simpa [Array.getElem?_eq_getElem hi] using q
  obtain ⟨i0, ei0⟩ := is_v gv3
  obtain rfl : w0 = (.int i0) := Option.some.inj ei0
  obtain ⟨i1, ei1⟩ := isL_v gv5
  obtain rfl : w1 = (.long i1) := Option.some.inj ei1
  obtain ⟨i2, ei2⟩ := isL_v gv7
  obtain rfl : w2 = (.long i2) := Option.some.inj ei2
  obtain ⟨i3, ei3⟩ := isL_v gv9
  obtain rfl : w3 = (.long i3) := Option.some.inj ei3
  obtain ⟨i4, ei4⟩ := isL_v gv10
  obtain rfl : w4 = (.long i4) := Option.some.inj ei4
  obtain ⟨n, o, h1, h2, h3, _, L, rfl, ⟨rfl, N⟩, hq⟩ := rm0 l s _ hw tables_1 i0 i1 i2 i3 i4 s.heap s.heap.size (Nat.le_refl _)  p e ha hc hk s m _ below hf ((Spec.applies_iff_loose hf).mp happ).1 ⟨rfl, State.Warmed39.refl s, rfl⟩ trivial
  refine ⟨n, _, h1, h2, h3, hpost _ _ _ _ _ _ ⟨Cond.after_iff.mpr rfl, Cond.after_iff.mpr (eq_i res_at (Term.int_eval (1)) rfl), trivial⟩ ⟨hq.1, hq.2.1, (hq.2.2.sift fun y hy => Or.inr (N y hy)).mono (by decide) (by decide)⟩⟩
theorem main_1_1 : Claimed_1_1 := comes_1 fun _ _ _ _ _ _ h hF => ⟨h.1, hF⟩
theorem main_1_2 : Claimed_1_2 := comes_1 fun _ _ _ _ _ _ h hF => ⟨h.2.1, hF⟩
end Jvm.Pilot.@@N@@
namespace Jvm.Pilot.@@N@@
open Jvm Jvm.ClassFile Sem Op Lib Jvm.Free Jvm.Stand Jvm.Pilot.@@N@@.Jvm.D
/-! MADE BY PROGRAM (witnessworld.py) out of the Statement's table words and the real class files: 13 classes; the members and pool entries that the words name. The judged class is class 1, her method 1. -/
namespace start1
open Jvm.ClassFile
def u (s : String) : CpInfo := .utf8 (stringToUtf16 s)
/-- a pool by its gaps: so many unusable entries, then the entry; so many at the end -/
def gap : Nat → List CpInfo → List CpInfo
  | 0, r => r
  | n + 1, r => .unusable :: gap n r
def poolList (es : List (Nat × CpInfo)) (last : Nat) : List CpInfo := es.foldr (fun e r => gap e.1 (e.2 :: r)) (gap last [])
def pool (es : List (Nat × CpInfo)) (last : Nat) : Array CpInfo := ⟨poolList es last⟩
def fileOf (pool : Array CpInfo) (this : Nat) (attrs : Array Attribute := #[]) (ms : Array MethodInfo := #[]) (fl : Nat := 33) (sup : Nat := 0) (ifs : Array Nat := #[]) (fds : Array FieldInfo := #[]) : ClassFile where
  minorVersion := 0
  majorVersion := 65
  constantPool := pool
  accessFlags := fl
  thisClass := this
  superClass := sup
  interfaces := ifs
  fields := fds
  methods := ms
  attributes := attrs
def plain (name : String) (sup : Option ClassId) : Class where
  name := name
  kind := .ordinary
  loader := none
  accessFlags := 33
  super := sup
  interfaces := #[]
  cf := none
  fields := #[]
  methods := #[]
  instanceTypes := #[]
  staticTypes := #[]
  resolved := #[]
  callSites := []
  init := .initialized
  statics := none
  mirror := none

def pool0 : Array CpInfo := pool [(5, u "<init>"), (0, u "()V"), (1, .class_ 10), (1, u "java/lang/Object")] 113

def k0c0 : Code := { maxStack := 0, maxLocals := 1, code := object_method_1_code, exceptionTable := #[], attributes := #[] }
def k0m0 : Method := { name := "<init>", desc := "()V", sig := { parameters := [], returnType := none }, accessFlags := 1, code := some k0c0 }
/-- java/lang/Object -/
def k0 : Class := { plain "java/lang/Object" none with
  accessFlags := 33
  interfaces := #[]
  cf := some (fileOf pool0 8 #[] #[{ accessFlags := 1, nameIndex := 5, descriptorIndex := 6, attributes := #[] }] 33 0 #[] #[])
  fields := #[]
  methods := #[k0m0]
  instanceTypes := #[]
  staticTypes := #[]
  resolved := Array.replicate 124 none
  statics := none }

def pool1 : Array CpInfo := pool [(2, .class_ 4), (0, .nameAndType 5 6), (0, u "java/lang/Object"), (0, u "<init>"), (0, u "()V"), (0, .class_ 8), (0, u "com/example/keys_to_structures/keystostructures/store/ExpiryQueue"), (0, .methodref 7 3), (0, .class_ 11), (0, u "com/example/keys_to_structures/keystostructures/store/TimedEntry"), (0, .methodref 10 13), (0, .nameAndType 5 14), (0, u "([BLjava/lang/Object;J)V"), (0, .methodref 7 16), (0, .nameAndType 17 18), (0, u "add"), (0, u "(Lcom/example/keys_to_structures/keystostructures/store/TimedEntry;)V"), (0, .methodref 7 20), (0, .nameAndType 21 6), (0, u "clear"), (0, .methodref 7 23), (0, .nameAndType 24 25), (0, u "first"), (0, u "()Lcom/example/keys_to_structures/keystostructures/store/TimedEntry;"), (0, .methodref 10 27), (0, .nameAndType 28 29), (0, u "position"), (0, u "()I"), (0, .class_ 31), (0, u "com/example/keys_to_structures/keystostructures/store/ExpiryQueueClearPinLaw"), (2, u "law"), (0, u "(IJJJJ)Z")] 3

def k1m0 : Method := { name := "<init>", desc := "()V", sig := { parameters := [], returnType := none }, accessFlags := 1, code := none }
def k1c1 : Code := { maxStack := 6, maxLocals := 16, code := code, exceptionTable := #[], attributes := #[] }
def k1m1 : Method := { name := "law", desc := "(IJJJJ)Z", sig := { parameters := [.int, .long, .long, .long, .long], returnType := some .boolean }, accessFlags := 9, code := some k1c1 }
/-- com/example/keys_to_structures/keystostructures/store/ExpiryQueueClearPinLaw -/
def k1 : Class := { plain "com/example/keys_to_structures/keystostructures/store/ExpiryQueueClearPinLaw" (some 0) with
  accessFlags := 49
  interfaces := #[]
  cf := some (fileOf pool1 30 #[] #[{ accessFlags := 1, nameIndex := 5, descriptorIndex := 6, attributes := #[] }, { accessFlags := 9, nameIndex := 34, descriptorIndex := 35, attributes := #[] }] 49 2 #[] #[])
  fields := #[]
  methods := #[k1m0, k1m1]
  instanceTypes := #[]
  staticTypes := #[]
  resolved := Array.replicate 39 none
  statics := none }

def pool2 : Array CpInfo := pool [(1, .methodref 2 3), (0, .class_ 4), (0, .nameAndType 5 6), (0, u "java/lang/Object"), (0, u "<init>"), (0, u "()V"), (0, .class_ 8), (0, u "com/example/keys_to_structures/keystostructures/store/ExpiryQueue"), (0, .class_ 10), (0, u "com/example/keys_to_structures/keystostructures/store/TimedEntry"), (0, .fieldref 7 12), (0, .nameAndType 13 14), (0, u "heap"), (0, u "[Lcom/example/keys_to_structures/keystostructures/store/TimedEntry;"), (0, .fieldref 7 16), (0, .nameAndType 17 18), (0, u "size"), (0, u "I"), (3, u "(I)V"), (0, .methodref 7 24), (0, .nameAndType 25 26), (0, u "moveUp"), (0, u "(Lcom/example/keys_to_structures/keystostructures/store/TimedEntry;I)V"), (7, .methodref 9 35), (0, .nameAndType 36 37), (0, u "deadline"), (0, u "()J"), (0, .methodref 7 39), (0, .nameAndType 40 26), (0, u "place"), (0, .methodref 9 42), (0, .nameAndType 43 22), (0, u "setPosition"), (6, u "MIN_CAPACITY"), (2, u "SHRINK_RATIO"), (3, u "first"), (0, u "()Lcom/example/keys_to_structures/keystostructures/store/TimedEntry;"), (1, u "add"), (0, u "(Lcom/example/keys_to_structures/keystostructures/store/TimedEntry;)V"), (2, u "clear")] 2

def k2c0 : Code := { maxStack := 2, maxLocals := 1, code := prog_43_method_1_code, exceptionTable := #[], attributes := #[] }
def k2m0 : Method := { name := "<init>", desc := "()V", sig := { parameters := [], returnType := none }, accessFlags := 0, code := some k2c0 }
def k2c1 : Code := { maxStack := 2, maxLocals := 1, code := prog_43_method_2_code, exceptionTable := #[], attributes := #[] }
def k2m1 : Method := { name := "first", desc := "()Lcom/example/keys_to_structures/keystostructures/store/TimedEntry;", sig := { parameters := [], returnType := some (.object "com/example/keys_to_structures/keystostructures/store/TimedEntry") }, accessFlags := 0, code := some k2c1 }
def k2c2 : Code := { maxStack := 4, maxLocals := 2, code := prog_43_method_3_code, exceptionTable := #[], attributes := #[] }
def k2m2 : Method := { name := "add", desc := "(Lcom/example/keys_to_structures/keystostructures/store/TimedEntry;)V", sig := { parameters := [(.object "com/example/keys_to_structures/keystostructures/store/TimedEntry")], returnType := none }, accessFlags := 0, code := some k2c2 }
def k2c3 : Code := { maxStack := 2, maxLocals := 1, code := prog_43_method_6_code, exceptionTable := #[], attributes := #[] }
def k2m3 : Method := { name := "clear", desc := "()V", sig := { parameters := [], returnType := none }, accessFlags := 0, code := some k2c3 }
def k2c4 : Code := { maxStack := 4, maxLocals := 5, code := prog_43_method_7_code, exceptionTable := #[], attributes := #[] }
def k2m4 : Method := { name := "moveUp", desc := "(Lcom/example/keys_to_structures/keystostructures/store/TimedEntry;I)V", sig := { parameters := [(.object "com/example/keys_to_structures/keystostructures/store/TimedEntry"), .int], returnType := none }, accessFlags := 2, code := some k2c4 }
def k2c5 : Code := { maxStack := 3, maxLocals := 3, code := prog_43_method_9_code, exceptionTable := #[], attributes := #[] }
def k2m5 : Method := { name := "place", desc := "(Lcom/example/keys_to_structures/keystostructures/store/TimedEntry;I)V", sig := { parameters := [(.object "com/example/keys_to_structures/keystostructures/store/TimedEntry"), .int], returnType := none }, accessFlags := 2, code := some k2c5 }
/-- com/example/keys_to_structures/keystostructures/store/ExpiryQueue -/
def k2 : Class := { plain "com/example/keys_to_structures/keystostructures/store/ExpiryQueue" (some 0) with
  accessFlags := 32
  interfaces := #[]
  cf := some (fileOf pool2 7 #[] #[{ accessFlags := 0, nameIndex := 5, descriptorIndex := 6, attributes := #[] }, { accessFlags := 0, nameIndex := 57, descriptorIndex := 58, attributes := #[] }, { accessFlags := 0, nameIndex := 60, descriptorIndex := 61, attributes := #[] }, { accessFlags := 0, nameIndex := 64, descriptorIndex := 6, attributes := #[] }, { accessFlags := 2, nameIndex := 25, descriptorIndex := 26, attributes := #[] }, { accessFlags := 2, nameIndex := 40, descriptorIndex := 26, attributes := #[] }] 32 2 #[] #[{ accessFlags := 26, nameIndex := 50, descriptorIndex := 18, attributes := #[] }, { accessFlags := 26, nameIndex := 53, descriptorIndex := 18, attributes := #[] }, { accessFlags := 2, nameIndex := 13, descriptorIndex := 14, attributes := #[] }, { accessFlags := 2, nameIndex := 17, descriptorIndex := 18, attributes := #[] }])
  fields := #[{ name := "MIN_CAPACITY", type := .int, accessFlags := 26, slot := 0, constantValue := 0 }, { name := "SHRINK_RATIO", type := .int, accessFlags := 26, slot := 1, constantValue := 0 }, { name := "heap", type := (.array (.object "com/example/keys_to_structures/keystostructures/store/TimedEntry")), accessFlags := 2, slot := 0, constantValue := 0 }, { name := "size", type := .int, accessFlags := 2, slot := 1, constantValue := 0 }]
  methods := #[k2m0, k2m1, k2m2, k2m3, k2m4, k2m5]
  instanceTypes := #[(.array (.object "com/example/keys_to_structures/keystostructures/store/TimedEntry")), .int]
  staticTypes := #[.int, .int]
  resolved := Array.replicate 67 none
  statics := none }

def pool3 : Array CpInfo := pool [(1, .methodref 2 3), (0, .class_ 4), (0, .nameAndType 5 6), (0, u "java/lang/Object"), (0, u "<init>"), (0, u "()V"), (0, .fieldref 8 9), (0, .class_ 10), (0, .nameAndType 11 12), (0, u "com/example/keys_to_structures/keystostructures/store/Entry"), (0, u "key"), (0, u "[B"), (0, .fieldref 8 14), (0, .nameAndType 15 16), (0, u "value"), (0, u "Ljava/lang/Object;"), (0, .methodref 8 18), (0, .nameAndType 19 20), (0, u "hash"), (0, u "([B)I"), (0, .fieldref 8 22), (0, .nameAndType 19 23), (0, u "I"), (0, .methodref 25 26), (0, .class_ 27), (0, .nameAndType 28 20), (0, u "java/util/Arrays"), (0, u "hashCode"), (2, u "next"), (0, u "Lcom/example/keys_to_structures/keystostructures/store/Entry;"), (0, u "([BLjava/lang/Object;)V")] 12

def k3c0 : Code := { maxStack := 2, maxLocals := 3, code := prog_42_method_1_code, exceptionTable := #[], attributes := #[] }
def k3m0 : Method := { name := "<init>", desc := "([BLjava/lang/Object;)V", sig := { parameters := [(.array .byte), (.object "java/lang/Object")], returnType := none }, accessFlags := 0, code := some k3c0 }
def k3c1 : Code := { maxStack := 3, maxLocals := 2, code := prog_42_method_2_code, exceptionTable := #[], attributes := #[] }
def k3m1 : Method := { name := "hash", desc := "([B)I", sig := { parameters := [(.array .byte)], returnType := some .int }, accessFlags := 8, code := some k3c1 }
/-- com/example/keys_to_structures/keystostructures/store/Entry -/
def k3 : Class := { plain "com/example/keys_to_structures/keystostructures/store/Entry" (some 0) with
  accessFlags := 32
  interfaces := #[]
  cf := some (fileOf pool3 8 #[] #[{ accessFlags := 0, nameIndex := 5, descriptorIndex := 33, attributes := #[] }, { accessFlags := 8, nameIndex := 19, descriptorIndex := 20, attributes := #[] }] 32 2 #[] #[{ accessFlags := 18, nameIndex := 11, descriptorIndex := 12, attributes := #[] }, { accessFlags := 18, nameIndex := 19, descriptorIndex := 23, attributes := #[] }, { accessFlags := 2, nameIndex := 15, descriptorIndex := 16, attributes := #[] }, { accessFlags := 2, nameIndex := 31, descriptorIndex := 32, attributes := #[] }])
  fields := #[{ name := "key", type := (.array .byte), accessFlags := 18, slot := 0, constantValue := 0 }, { name := "hash", type := .int, accessFlags := 18, slot := 1, constantValue := 0 }, { name := "value", type := (.object "java/lang/Object"), accessFlags := 2, slot := 2, constantValue := 0 }, { name := "next", type := (.object "com/example/keys_to_structures/keystostructures/store/Entry"), accessFlags := 2, slot := 3, constantValue := 0 }]
  methods := #[k3m0, k3m1]
  instanceTypes := #[(.array .byte), .int, (.object "java/lang/Object"), (.object "com/example/keys_to_structures/keystostructures/store/Entry")]
  staticTypes := #[]
  resolved := Array.replicate 46 none
  statics := none }

def pool4 : Array CpInfo := pool [(1, .methodref 2 3), (0, .class_ 4), (0, .nameAndType 5 6), (0, u "com/example/keys_to_structures/keystostructures/store/Entry"), (0, u "<init>"), (0, u "([BLjava/lang/Object;)V"), (0, .fieldref 8 9), (0, .class_ 10), (0, .nameAndType 11 12), (0, u "com/example/keys_to_structures/keystostructures/store/TimedEntry"), (0, u "deadline"), (0, u "J"), (0, .fieldref 8 14), (0, .nameAndType 15 16), (0, u "position"), (0, u "I"), (0, u "([BLjava/lang/Object;J)V"), (2, u "()J"), (2, u "()I"), (0, u "setPosition"), (0, u "(I)V")] 2

def k4c0 : Code := { maxStack := 3, maxLocals := 5, code := prog_51_method_1_code, exceptionTable := #[], attributes := #[] }
def k4m0 : Method := { name := "<init>", desc := "([BLjava/lang/Object;J)V", sig := { parameters := [(.array .byte), (.object "java/lang/Object"), .long], returnType := none }, accessFlags := 0, code := some k4c0 }
def k4c1 : Code := { maxStack := 2, maxLocals := 1, code := prog_51_method_2_code, exceptionTable := #[], attributes := #[] }
def k4m1 : Method := { name := "deadline", desc := "()J", sig := { parameters := [], returnType := some .long }, accessFlags := 0, code := some k4c1 }
def k4c2 : Code := { maxStack := 1, maxLocals := 1, code := prog_51_method_4_code, exceptionTable := #[], attributes := #[] }
def k4m2 : Method := { name := "position", desc := "()I", sig := { parameters := [], returnType := some .int }, accessFlags := 0, code := some k4c2 }
def k4c3 : Code := { maxStack := 2, maxLocals := 2, code := prog_51_method_5_code, exceptionTable := #[], attributes := #[] }
def k4m3 : Method := { name := "setPosition", desc := "(I)V", sig := { parameters := [.int], returnType := none }, accessFlags := 0, code := some k4c3 }
/-- com/example/keys_to_structures/keystostructures/store/TimedEntry -/
def k4 : Class := { plain "com/example/keys_to_structures/keystostructures/store/TimedEntry" (some 3) with
  accessFlags := 32
  interfaces := #[]
  cf := some (fileOf pool4 8 #[] #[{ accessFlags := 0, nameIndex := 5, descriptorIndex := 17, attributes := #[] }, { accessFlags := 0, nameIndex := 11, descriptorIndex := 20, attributes := #[] }, { accessFlags := 0, nameIndex := 15, descriptorIndex := 23, attributes := #[] }, { accessFlags := 0, nameIndex := 24, descriptorIndex := 25, attributes := #[] }] 32 2 #[] #[{ accessFlags := 2, nameIndex := 11, descriptorIndex := 12, attributes := #[] }, { accessFlags := 2, nameIndex := 15, descriptorIndex := 16, attributes := #[] }])
  fields := #[{ name := "deadline", type := .long, accessFlags := 2, slot := 4, constantValue := 0 }, { name := "position", type := .int, accessFlags := 2, slot := 5, constantValue := 0 }]
  methods := #[k4m0, k4m1, k4m2, k4m3]
  instanceTypes := #[(.array .byte), .int, (.object "java/lang/Object"), (.object "com/example/keys_to_structures/keystostructures/store/Entry"), .long, .int]
  staticTypes := #[]
  resolved := Array.replicate 28 none
  statics := none }

def pool5 : Array CpInfo := pool [(2, .class_ 4), (1, u "java/lang/Object"), (0, u "<init>"), (0, u "()V"), (7, .class_ 16), (1, u "java/util/Arrays"), (57, .class_ 76), (1, u "java/util/Arrays$NaturalOrder"), (36, .class_ 115), (1, u "java/util/Arrays$LegacyMergeSort"), (1, u "Z"), (257, .class_ 376), (0, u "java/util/Arrays$ArrayList"), (8, u "hashCode"), (16, u "([B)I"), (42, u "$assertionsDisabled"), (269, u "MIN_ARRAY_SORT_GRAN"), (0, u "I"), (2, u "INSERTIONSORT_THRESHOLD"), (255, .class_ 976), (0, u "java/util/Arrays$ArrayItr")] 52

def k5m0 : Method := { name := "<init>", desc := "()V", sig := { parameters := [], returnType := none }, accessFlags := 2, code := none }
def k5c1 : Code := { maxStack := 5, maxLocals := 1, code := jdk_65_method_153_code, exceptionTable := #[], attributes := #[] }
def k5m1 : Method := { name := "hashCode", desc := "([B)I", sig := { parameters := [(.array .byte)], returnType := some .int }, accessFlags := 9, code := some k5c1 }
/-- java/util/Arrays -/
def k5 : Class := { plain "java/util/Arrays" (some 0) with
  accessFlags := 49
  interfaces := #[]
  cf := some (fileOf pool5 14 #[.nestMembers #[975, 375, 113, 74]] #[{ accessFlags := 2, nameIndex := 5, descriptorIndex := 6, attributes := #[] }, { accessFlags := 9, nameIndex := 385, descriptorIndex := 402, attributes := #[] }] 49 2 #[] #[{ accessFlags := 26, nameIndex := 715, descriptorIndex := 716, attributes := #[] }, { accessFlags := 26, nameIndex := 719, descriptorIndex := 716, attributes := #[] }, { accessFlags := 4120, nameIndex := 445, descriptorIndex := 117, attributes := #[] }])
  fields := #[{ name := "MIN_ARRAY_SORT_GRAN", type := .int, accessFlags := 26, slot := 0, constantValue := 0 }, { name := "INSERTIONSORT_THRESHOLD", type := .int, accessFlags := 26, slot := 1, constantValue := 0 }, { name := "$assertionsDisabled", type := .boolean, accessFlags := 4120, slot := 2, constantValue := 0 }]
  methods := #[k5m0, k5m1]
  instanceTypes := #[]
  staticTypes := #[.int, .int, .boolean]
  resolved := Array.replicate 1029 none
  statics := none }

def pool6 : Array CpInfo := pool [(1, u "java/lang/Cloneable"), (0, .class_ 1), (0, u "java/lang/Object"), (0, .class_ 3)] 3

/-- java/lang/Cloneable -/
def k6 : Class := { plain "java/lang/Cloneable" (some 0) with
  accessFlags := 1537
  interfaces := #[]
  cf := some (fileOf pool6 2 #[] #[] 1537 4 #[] #[])
  fields := #[]
  methods := #[]
  instanceTypes := #[]
  staticTypes := #[]
  resolved := Array.replicate 8 none
  statics := none }

def pool7 : Array CpInfo := pool [(1, u "java/io/Serializable"), (0, .class_ 1), (0, u "java/lang/Object"), (0, .class_ 3)] 3

/-- java/io/Serializable -/
def k7 : Class := { plain "java/io/Serializable" (some 0) with
  accessFlags := 1537
  interfaces := #[]
  cf := some (fileOf pool7 2 #[] #[] 1537 4 #[] #[])
  fields := #[]
  methods := #[]
  instanceTypes := #[]
  staticTypes := #[]
  resolved := Array.replicate 8 none
  statics := none }

/-- the primitive byte -/
def k8 : Class := { plain "byte" none with kind := .primitive 'B', accessFlags := 0x411 }
/-- [B -/
def k9 : Class := { plain "[B" (some 0) with kind := .array 8 .byte, interfaces := #[6, 7], accessFlags := 1041 }

/-- the primitive int -/
def k10 : Class := { plain "int" none with kind := .primitive 'I', accessFlags := 0x411 }
/-- [I -/
def k11 : Class := { plain "[I" (some 0) with kind := .array 10 .int, interfaces := #[6, 7], accessFlags := 1041 }

/-- [Lcom/example/keys_to_structures/keystostructures/store/TimedEntry; -/
def k12 : Class := { plain "[Lcom/example/keys_to_structures/keystostructures/store/TimedEntry;" (some 0) with kind := .array 4 (.object "com/example/keys_to_structures/keystostructures/store/TimedEntry"), interfaces := #[6, 7], accessFlags := 1041 }

def heap : Heap := #[]
def classes : Array Class := #[k0, k1, k2, k3, k4, k5, k6, k7, k8, k9, k10, k11, k12]
def interned : List (Array UInt16 × Addr) := []
def slotsUsed : Nat := 0
def theMethod : MethodId := ⟨1, 1⟩
def args0 : Array Value := #[.int 3, .long 5, .long 4, .long 2, .long 1]
def aboutOver (below : List Frame) : State where
  vm := { classes := classes, interned := interned.toArray }
  heap := heap
  slotsUsed := slotsUsed
  threads := #[{ frames := .invoking theMethod args0 :: below }]
def below0 : List Frame := [.native { method := ⟨0, 0⟩, args := #[] }]
def about1 : State := aboutOver below0
def p0 : Program := .bare "" "" ""
def e0 : Env := launch0.env 0 0 0
theorem w_frames : about1.frames = Frame.invoking theMethod args0 :: below0 := rfl
set_option maxRecDepth 65536 in
theorem w_args : argsFit about1.vm theMethod args0 = true := by decide +kernel
set_option maxRecDepth 65536 in
theorem w_heap : heapFits about1 = true := by decide +kernel
set_option maxRecDepth 65536 in
theorem w_runnable : about1.curStatus? = some .runnable := by decide +kernel
set_option maxRecDepth 65536 in
theorem w_alone : about1.alone = true := by decide +kernel
set_option maxRecDepth 65536 in
theorem w_named : about1.methodNamed? x = some theMethod := by decide +kernel
set_option maxRecDepth 65536 in
theorem w_hears : about1.hears theMethod below0 = true := by decide +kernel
set_option maxRecDepth 65536 in
theorem w_ripe : about1.ripe theMethod args0 below0 = true := by decide +kernel
theorem w_running : about1.status = .running := rfl
set_option maxRecDepth 65536 in
theorem w_room : about1.hasRoom e0.platform room_1 = true :=
  launch0.hasRoom_least _ room_1 (by decide +kernel) (by decide +kernel) (by decide +kernel) (by decide +kernel) (by decide +kernel) (by decide +kernel)
theorem allAtoms_all (ts : List Jvm.Cond) (a : Array Jvm.Value) (st : Jvm.State) : (allAtoms ts).before a st = ts.all (fun c => c.before a st) := by
  induction ts with
  | nil => rfl
  | cons c t ih =>
    show (Jvm.Cond.and c (allAtoms t)).before a st = _
    rw [Jvm.Cond.before_and, ih, List.all_cons]
def words1 : List Jvm.Cond := Jvm.Cond.code x code maxLocals ret :: tables_1
/-- a 'code' word, met by the world's own term for the bytes: nothing is compared byte by byte -/
theorem code_word {y : MethodName} {bytes : ByteArray} {mx : Nat} {rt : Option FieldType} {a : Array Value} {s : State} {m : MethodId} {meth : Method} {c : Code} (h1 : s.methodNamed? y = some m) (h2 : s.vm.method? m = some meth) (h3 : meth.code = some c) (h4 : c.code = bytes)
    (h5 : (c.maxLocals == mx && c.exceptionTable.isEmpty && decide (c.maxStack ≤ mostOperands) && decide (meth.sig.returnType = rt) && !meth.locks && decide (parseMethodDescriptor y.desc = some meth.sig)) = true) : (Jvm.Cond.code y bytes mx rt).before a s = true := by
  simp only [Bool.and_eq_true, beq_iff_eq, Bool.not_eq_true', decide_eq_true_eq] at h5
  obtain ⟨⟨⟨⟨⟨g1, g2⟩, g3⟩, g4⟩, g5⟩, g6⟩ := h5
  simp [Cond.before, Cond.holds, Cond.value, h1, h2, h3, h4, g1, g2, g3, g4, g5, g6]
def isCode : Jvm.Cond → Bool
  | .code _ _ _ _ => true
  | _ => false
theorem all_split {L : List Jvm.Cond} {P : Jvm.Cond → Bool} (h1 : L.all (fun c => isCode c || P c) = true) (h2 : ∀ c ∈ L.filter isCode, P c = true) : L.all P = true := by
  refine List.all_eq_true.mpr fun c hc => ?_
  have h := List.all_eq_true.mp h1 c hc
  rcases Bool.eq_false_or_eq_true (isCode c) with hi | hi
  · exact h2 c (List.mem_filter.mpr ⟨hc, hi⟩)
  · simpa [hi] using h
set_option maxRecDepth 65536 in
theorem w_c0 : (Jvm.Cond.code x code maxLocals ret).before args0 about1 = true := code_word (m := ⟨1, 1⟩) (meth := k1m1) (c := k1c1) (by decide +kernel) rfl rfl rfl (by decide +kernel)
set_option maxRecDepth 65536 in
theorem w_c1 : (Jvm.Cond.code ({ cls := "com/example/keys_to_structures/keystostructures/store/ExpiryQueue", name := "<init>", desc := "()V" } : Jvm.MethodName) prog_43_method_1_code (1 : Nat) (Option.none : Option Jvm.ClassFile.FieldType)).before args0 about1 = true := code_word (m := ⟨2, 0⟩) (meth := k2m0) (c := k2c0) (by decide +kernel) rfl rfl rfl (by decide +kernel)
set_option maxRecDepth 65536 in
theorem w_c2 : (Jvm.Cond.code ({ cls := "java/lang/Object", name := "<init>", desc := "()V" } : Jvm.MethodName) object_method_1_code (1 : Nat) (Option.none : Option Jvm.ClassFile.FieldType)).before args0 about1 = true := code_word (m := ⟨0, 0⟩) (meth := k0m0) (c := k0c0) (by decide +kernel) rfl rfl rfl (by decide +kernel)
set_option maxRecDepth 65536 in
theorem w_c3 : (Jvm.Cond.code ({ cls := "com/example/keys_to_structures/keystostructures/store/TimedEntry", name := "<init>", desc := "([BLjava/lang/Object;J)V" } : Jvm.MethodName) prog_51_method_1_code (5 : Nat) (Option.none : Option Jvm.ClassFile.FieldType)).before args0 about1 = true := code_word (m := ⟨4, 0⟩) (meth := k4m0) (c := k4c0) (by decide +kernel) rfl rfl rfl (by decide +kernel)
set_option maxRecDepth 65536 in
theorem w_c4 : (Jvm.Cond.code ({ cls := "com/example/keys_to_structures/keystostructures/store/Entry", name := "<init>", desc := "([BLjava/lang/Object;)V" } : Jvm.MethodName) prog_42_method_1_code (3 : Nat) (Option.none : Option Jvm.ClassFile.FieldType)).before args0 about1 = true := code_word (m := ⟨3, 0⟩) (meth := k3m0) (c := k3c0) (by decide +kernel) rfl rfl rfl (by decide +kernel)
set_option maxRecDepth 65536 in
theorem w_c5 : (Jvm.Cond.code ({ cls := "com/example/keys_to_structures/keystostructures/store/Entry", name := "hash", desc := "([B)I" } : Jvm.MethodName) prog_42_method_2_code (2 : Nat) (Option.some Jvm.ClassFile.FieldType.int)).before args0 about1 = true := code_word (m := ⟨3, 1⟩) (meth := k3m1) (c := k3c1) (by decide +kernel) rfl rfl rfl (by decide +kernel)
set_option maxRecDepth 65536 in
theorem w_c6 : (Jvm.Cond.code ({ cls := "java/util/Arrays", name := "hashCode", desc := "([B)I" } : Jvm.MethodName) jdk_65_method_153_code (1 : Nat) (Option.some Jvm.ClassFile.FieldType.int)).before args0 about1 = true := code_word (m := ⟨5, 1⟩) (meth := k5m1) (c := k5c1) (by decide +kernel) rfl rfl rfl (by decide +kernel)
set_option maxRecDepth 65536 in
theorem w_c7 : (Jvm.Cond.code ({ cls := "com/example/keys_to_structures/keystostructures/store/ExpiryQueue", name := "clear", desc := "()V" } : Jvm.MethodName) prog_43_method_6_code (1 : Nat) (Option.none : Option Jvm.ClassFile.FieldType)).before args0 about1 = true := code_word (m := ⟨2, 3⟩) (meth := k2m3) (c := k2c3) (by decide +kernel) rfl rfl rfl (by decide +kernel)
set_option maxRecDepth 65536 in
theorem w_c8 : (Jvm.Cond.code ({ cls := "com/example/keys_to_structures/keystostructures/store/ExpiryQueue", name := "first", desc := "()Lcom/example/keys_to_structures/keystostructures/store/TimedEntry;" } : Jvm.MethodName) prog_43_method_2_code (1 : Nat) (Option.some (Jvm.ClassFile.FieldType.object "com/example/keys_to_structures/keystostructures/store/TimedEntry"))).before args0 about1 = true := code_word (m := ⟨2, 1⟩) (meth := k2m1) (c := k2c1) (by decide +kernel) rfl rfl rfl (by decide +kernel)
set_option maxRecDepth 65536 in
theorem w_c9 : (Jvm.Cond.code ({ cls := "com/example/keys_to_structures/keystostructures/store/ExpiryQueue", name := "add", desc := "(Lcom/example/keys_to_structures/keystostructures/store/TimedEntry;)V" } : Jvm.MethodName) prog_43_method_3_code (2 : Nat) (Option.none : Option Jvm.ClassFile.FieldType)).before args0 about1 = true := code_word (m := ⟨2, 2⟩) (meth := k2m2) (c := k2c2) (by decide +kernel) rfl rfl rfl (by decide +kernel)
set_option maxRecDepth 65536 in
theorem w_c10 : (Jvm.Cond.code ({ cls := "com/example/keys_to_structures/keystostructures/store/ExpiryQueue", name := "moveUp", desc := "(Lcom/example/keys_to_structures/keystostructures/store/TimedEntry;I)V" } : Jvm.MethodName) prog_43_method_7_code (5 : Nat) (Option.none : Option Jvm.ClassFile.FieldType)).before args0 about1 = true := code_word (m := ⟨2, 4⟩) (meth := k2m4) (c := k2c4) (by decide +kernel) rfl rfl rfl (by decide +kernel)
set_option maxRecDepth 65536 in
theorem w_c11 : (Jvm.Cond.code ({ cls := "com/example/keys_to_structures/keystostructures/store/ExpiryQueue", name := "place", desc := "(Lcom/example/keys_to_structures/keystostructures/store/TimedEntry;I)V" } : Jvm.MethodName) prog_43_method_9_code (3 : Nat) (Option.none : Option Jvm.ClassFile.FieldType)).before args0 about1 = true := code_word (m := ⟨2, 5⟩) (meth := k2m5) (c := k2c5) (by decide +kernel) rfl rfl rfl (by decide +kernel)
set_option maxRecDepth 65536 in
theorem w_c12 : (Jvm.Cond.code ({ cls := "com/example/keys_to_structures/keystostructures/store/TimedEntry", name := "setPosition", desc := "(I)V" } : Jvm.MethodName) prog_51_method_5_code (2 : Nat) (Option.none : Option Jvm.ClassFile.FieldType)).before args0 about1 = true := code_word (m := ⟨4, 3⟩) (meth := k4m3) (c := k4c3) (by decide +kernel) rfl rfl rfl (by decide +kernel)
set_option maxRecDepth 65536 in
theorem w_c13 : (Jvm.Cond.code ({ cls := "com/example/keys_to_structures/keystostructures/store/TimedEntry", name := "position", desc := "()I" } : Jvm.MethodName) prog_51_method_4_code (1 : Nat) (Option.some Jvm.ClassFile.FieldType.int)).before args0 about1 = true := code_word (m := ⟨4, 2⟩) (meth := k4m2) (c := k4c2) (by decide +kernel) rfl rfl rfl (by decide +kernel)
set_option maxRecDepth 65536 in
theorem w_c14 : (Jvm.Cond.code ({ cls := "com/example/keys_to_structures/keystostructures/store/TimedEntry", name := "deadline", desc := "()J" } : Jvm.MethodName) prog_51_method_2_code (1 : Nat) (Option.some Jvm.ClassFile.FieldType.long)).before args0 about1 = true := code_word (m := ⟨4, 1⟩) (meth := k4m1) (c := k4c1) (by decide +kernel) rfl rfl rfl (by decide +kernel)
def codes1 : List Jvm.Cond := [Jvm.Cond.code x code maxLocals ret, Jvm.Cond.code ({ cls := "com/example/keys_to_structures/keystostructures/store/ExpiryQueue", name := "<init>", desc := "()V" } : Jvm.MethodName) prog_43_method_1_code (1 : Nat) (Option.none : Option Jvm.ClassFile.FieldType), Jvm.Cond.code ({ cls := "java/lang/Object", name := "<init>", desc := "()V" } : Jvm.MethodName) object_method_1_code (1 : Nat) (Option.none : Option Jvm.ClassFile.FieldType), Jvm.Cond.code ({ cls := "com/example/keys_to_structures/keystostructures/store/TimedEntry", name := "<init>", desc := "([BLjava/lang/Object;J)V" } : Jvm.MethodName) prog_51_method_1_code (5 : Nat) (Option.none : Option Jvm.ClassFile.FieldType), Jvm.Cond.code ({ cls := "com/example/keys_to_structures/keystostructures/store/Entry", name := "<init>", desc := "([BLjava/lang/Object;)V" } : Jvm.MethodName) prog_42_method_1_code (3 : Nat) (Option.none : Option Jvm.ClassFile.FieldType), Jvm.Cond.code ({ cls := "com/example/keys_to_structures/keystostructures/store/Entry", name := "hash", desc := "([B)I" } : Jvm.MethodName) prog_42_method_2_code (2 : Nat) (Option.some Jvm.ClassFile.FieldType.int), Jvm.Cond.code ({ cls := "java/util/Arrays", name := "hashCode", desc := "([B)I" } : Jvm.MethodName) jdk_65_method_153_code (1 : Nat) (Option.some Jvm.ClassFile.FieldType.int), Jvm.Cond.code ({ cls := "com/example/keys_to_structures/keystostructures/store/ExpiryQueue", name := "clear", desc := "()V" } : Jvm.MethodName) prog_43_method_6_code (1 : Nat) (Option.none : Option Jvm.ClassFile.FieldType), Jvm.Cond.code ({ cls := "com/example/keys_to_structures/keystostructures/store/ExpiryQueue", name := "first", desc := "()Lcom/example/keys_to_structures/keystostructures/store/TimedEntry;" } : Jvm.MethodName) prog_43_method_2_code (1 : Nat) (Option.some (Jvm.ClassFile.FieldType.object "com/example/keys_to_structures/keystostructures/store/TimedEntry")), Jvm.Cond.code ({ cls := "com/example/keys_to_structures/keystostructures/store/ExpiryQueue", name := "add", desc := "(Lcom/example/keys_to_structures/keystostructures/store/TimedEntry;)V" } : Jvm.MethodName) prog_43_method_3_code (2 : Nat) (Option.none : Option Jvm.ClassFile.FieldType), Jvm.Cond.code ({ cls := "com/example/keys_to_structures/keystostructures/store/ExpiryQueue", name := "moveUp", desc := "(Lcom/example/keys_to_structures/keystostructures/store/TimedEntry;I)V" } : Jvm.MethodName) prog_43_method_7_code (5 : Nat) (Option.none : Option Jvm.ClassFile.FieldType), Jvm.Cond.code ({ cls := "com/example/keys_to_structures/keystostructures/store/ExpiryQueue", name := "place", desc := "(Lcom/example/keys_to_structures/keystostructures/store/TimedEntry;I)V" } : Jvm.MethodName) prog_43_method_9_code (3 : Nat) (Option.none : Option Jvm.ClassFile.FieldType), Jvm.Cond.code ({ cls := "com/example/keys_to_structures/keystostructures/store/TimedEntry", name := "setPosition", desc := "(I)V" } : Jvm.MethodName) prog_51_method_5_code (2 : Nat) (Option.none : Option Jvm.ClassFile.FieldType), Jvm.Cond.code ({ cls := "com/example/keys_to_structures/keystostructures/store/TimedEntry", name := "position", desc := "()I" } : Jvm.MethodName) prog_51_method_4_code (1 : Nat) (Option.some Jvm.ClassFile.FieldType.int), Jvm.Cond.code ({ cls := "com/example/keys_to_structures/keystostructures/store/TimedEntry", name := "deadline", desc := "()J" } : Jvm.MethodName) prog_51_method_2_code (1 : Nat) (Option.some Jvm.ClassFile.FieldType.long)]
set_option maxRecDepth 65536 in
theorem codes_eq : words1.filter isCode = codes1 := rfl
theorem w_codes : ∀ c ∈ words1.filter isCode, c.before args0 about1 = true := by
  rw [codes_eq]
  intro c hc
  simp only [codes1, List.mem_cons, List.not_mem_nil, or_false] at hc
  rcases hc with rfl | rfl | rfl | rfl | rfl | rfl | rfl | rfl | rfl | rfl | rfl | rfl | rfl | rfl | rfl
  · exact w_c0
  · exact w_c1
  · exact w_c2
  · exact w_c3
  · exact w_c4
  · exact w_c5
  · exact w_c6
  · exact w_c7
  · exact w_c8
  · exact w_c9
  · exact w_c10
  · exact w_c11
  · exact w_c12
  · exact w_c13
  · exact w_c14
set_option maxRecDepth 65536 in
theorem w_t1 : (words1.take 24).all (fun c => isCode c || c.before args0 about1) = true := by decide +kernel
set_option maxRecDepth 65536 in
theorem w_t2 : ((words1.drop 24).take 24).all (fun c => isCode c || c.before args0 about1) = true := by decide +kernel
set_option maxRecDepth 65536 in
theorem w_t3 : (((words1.drop 24).drop 24).take 24).all (fun c => isCode c || c.before args0 about1) = true := by decide +kernel
set_option maxRecDepth 65536 in
theorem w_t4 : (((words1.drop 24).drop 24).drop 24).all (fun c => isCode c || c.before args0 about1) = true := by decide +kernel
theorem w_tables : (allAtoms (Jvm.Cond.code x code maxLocals ret :: tables_1)).before args0 about1 = true := by
  rw [allAtoms_all]
  show words1.all (fun c => c.before args0 about1) = true
  refine all_split ?_ w_codes
  rw [← List.take_append_drop 24 words1, List.all_append, w_t1, ← List.take_append_drop 24 (words1.drop 24), List.all_append, w_t2, ← List.take_append_drop 24 ((words1.drop 24).drop 24), List.all_append, w_t3, w_t4]
  rfl
set_option maxRecDepth 65536 in
theorem w_case : (Jvm.Cond.and given_1 narrow_1).before args0 about1 = true := by decide +kernel
theorem w_applies : (headSpec (Jvm.Cond.code x code maxLocals ret :: tables_1) room_1).applies x e0.platform about1 = true :=
  (Spec.applies_iff w_frames).mpr ⟨w_running, w_runnable, w_alone, w_named, w_hears, w_ripe, w_room, w_tables⟩
theorem atStart : AtStart classFile x code maxLocals ret World_1 tables_1 room_1 Calls_1 rest_1 Pre_1 launch0 p0 e0 about1 theMethod args0 below0 :=
  ⟨lists_1, trivial, launch0.admits_env _ _ _, launch0.least_env, fairChoices_fair.cas, fairChoices_fair.clock, w_frames, w_args, w_heap, w_applies, trivial, trivial, w_case⟩
end start1
theorem witness_1 : WitnessClaimed_1 := ⟨start1.p0, start1.e0, start1.about1, start1.theMethod, start1.args0, start1.below0, start1.atStart⟩
end Jvm.Pilot.@@N@@
