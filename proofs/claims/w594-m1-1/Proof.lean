import JvmDerived
import JvmDerived.Pilot.@@N@@Statement
import JvmDerived.Pilot.@@N@@Code
set_option linter.unusedVariables false
set_option linter.unusedSimpArgs false
namespace Jvm.Pilot.@@N@@
open Jvm Jvm.ClassFile Sem Op Lib Jvm.Free Jvm.Stand Jvm.LawKit Jvm.RoadKit Bundle Jvm.Pilot.@@N@@.Jvm.D
section OwnRun
variable {p : Program} {l : Launch} {e : Env} {R : Room} {s : State} {m : MethodId} {args : Array Value} {below : List Frame} {meth : Method} {c : Code} {T : State} {locs : List Loc} {cells slots : Nat}
/-- from S the run comes to its end, and there Q holds -/
def Run (p : Program) (e : Env) (below : List Frame) (Q : State → Outcome → Prop) (S : State) : Prop := ∃ s₂ o, Steps p.tables e below S s₂ ∧ s₂.status = .running ∧ Ended s₂ below o ∧ Q s₂ o
def Ends (s : State) (Qb : Option Value → Heap → List Loc → Prop) (C S : Nat) : State → Outcome → Prop := fun s₂ o => ∃ v L, o = .returned v ∧ Qb v s₂.heap L ∧ FrameEnd s o s₂ L C S
theorem Run.st {Q : State → Outcome → Prop} {S S' : State} (h : ∀ t, Steps p.tables e below S' t → Steps p.tables e below S t) (r : Run p e below Q S') : Run p e below Q S := by
  obtain ⟨a, b, c, d⟩ := r
  exact ⟨a, b, h _ c, d⟩
theorem Run.out (X : Stand p l e R s m args below meth c T locs cells slots) (hx : p.tables.exec = Jvm.exec) {Qb : Option Value → Heap → List Loc → Prop} {C S : Nat} {pc : Nat} {Ls : Array Slot} {w : Value} {t : FieldType} {i : Instr} {rest : List Value} (hlocks : meth.locks = false) (hret : meth.sig.returnType = some t) (hn : narrow t w = w)
    (hi : (i = .ireturn ∧ (t = .int ∨ t = .boolean ∨ t = .byte ∨ t = .char ∨ t = .short) ∧ ∃ z, w = .int z) ∨ (i = .lreturn ∧ t = .long ∧ ∃ z, w = .long z) ∨ (i = .dreturn ∧ t = .double ∧ ∃ z, w = .double z) ∨ (i = .freturn ∧ t = .float ∧ ∃ z, w = .float z) ∨ (i = .areturn ∧ t.isReference = true ∧ w.isRef = true))
    (hd : decode c.code pc = .ok (i, 1)) (hC : cells ≤ C) (hS : slots ≤ S) (hq : Qb (some w) T.heap locs) : Run p e below (Ends s Qb C S) (T.setTop (mkF m pc Ls (w :: rest))) := by
  obtain ⟨fs, hr, hrun, hended, hW, hsame⟩ := X.leave (v := some w) (fun h => by rw [hret] at h; cases h) hlocks
  exact ⟨_, _, retOut X hx hret hn hi hd hr, hrun, hended, _, _, rfl, hq, ⟨_, rfl⟩, hW, hsame.mono hC hS⟩
theorem Run.outV (X : Stand p l e R s m args below meth c T locs cells slots) (hx : p.tables.exec = Jvm.exec) {Qb : Option Value → Heap → List Loc → Prop} {C S : Nat} {pc : Nat} {Ls : Array Slot} (hlocks : meth.locks = false) (hret : meth.sig.returnType = none)
    (hd : decode c.code pc = .ok (.return_, 1)) (hC : cells ≤ C) (hS : slots ≤ S) (hq : Qb none T.heap locs) : Run p e below (Ends s Qb C S) (T.setTop (mkF m pc Ls [])) := by
  obtain ⟨fs, hr, hrun, hended, hW, hsame⟩ := X.leave (v := none) (fun _ => rfl) hlocks
  exact ⟨_, _, X.returnOut hx hret hd hr, hrun, hended, _, _, rfl, hq, ⟨_, rfl⟩, hW, hsame.mono hC hS⟩
theorem lcYes {cd : ClassFile.Cond} {x y : Int64} {b : Bool} (h : ifCond.holds cd (Jvm.Free.XT.cmpL x y) = b) : ifCond.holds cd (lcmpW x y) = b := h
theorem nb01 {P : Prop} [Decidable P] : narrow .boolean (.int (if P then (1 : Int32) else (0 : Int32))) = .int (if P then (1 : Int32) else (0 : Int32)) := by split <;> rfl
theorem staK {Z : State} {h h' : Heap} {C n d : String} {v : Value} {ws : List Addr} (F : Sta Z h C n d v) (K : Keep h h' ws) (q : ∀ x ∈ ws, ∀ c : Cell, h[x]? = some c → c.vm.isStatics = false) : Sta Z h' C n d v := by
  obtain ⟨cf, i, k, f, st, cell, h1, h2, h3, h4, h5, h6, h7⟩ := F
  refine ⟨cf, i, k, f, st, cell, h1, h2, h3, h4, K.2.1 st cell h5 (fun m => ?_), h6, h7⟩
  have := q st m cell h5
  rw [h6] at this
  cases this
theorem exaP {Z : State} {h : Heap} {a : Addr} {C : String} (E : Exa Z h a C) : ∀ c : Cell, h[a]? = some c → c.vm.isStatics = false := fun c hc => by
  obtain ⟨cell, k, h1, -, -, h4, -⟩ := E
  cases h1.symm.trans hc
  exact h4
theorem arvP {Z : State} {h : Heap} {a : Addr} {k : ClassId} {ty : FieldType} {n : Int32} {vs : List Value} {d : Value} (E : Arv Z h a k ty n vs d) : ∀ c : Cell, h[a]? = some c → c.vm.isStatics = false := fun c hc => by
  obtain ⟨cell, A, -⟩ := E
  cases A.1.symm.trans hc
  exact A.plain
theorem selSelf {s : State} {args : Array Value} {y : MethodName} {n : Nat} (wi : (Jvm.Cond.instantiable y.cls n).before args s = true) (hp : s.PrivateAt y) (hi : (Jvm.Cond.instanceMethod y).before args s = true) (hy : y.cls ≠ "java/lang/invoke/MethodHandle" ∧ y.cls ≠ "java/lang/invoke/VarHandle") : (Jvm.Cond.selects y.cls y y).before args s = true := by
  obtain ⟨c, k, h1, h2, -, h4, -⟩ := Cond.instantiable_spec wi
  rw [Bool.or_eq_false_iff] at h4
  exact selects_self_of_private h1 h2 h4.1 hp hi hy
theorem own_lsw {tb : Tables} [Ours tb] {e : Env} {below : List Frame} {T target : State} {m : MethodId} {c : Code} {g : JFrame} (h : At T m c below) (hx : tb.exec = Jvm.exec) (hg : g.method = m) {dflt : Int} {ps : Array (Int × Int)} {len : Nat} {o : Int} {pc0 pc' : Nat} (hpc : g.pc = pc0) (hd : decode c.code g.pc = .ok (.lookupswitch dflt ps, len)) {i : Int32} {rest : List Value} (hs : g.stack = .int i :: rest)
    (hsort : ∀ q ∈ ps.toList.zip ps.toList.tail, q.1.1 < q.2.1) (hoff : lookupswitch.offset ps.toList dflt i.toInt = o) (ho : 0 ≤ (pc0 : Int) + o) (hp : ((pc0 : Int) + o).toNat = pc')
    (hr : Steps tb e below (T.setTop { g with pc := pc', stack := rest }) target) : Steps tb e below (T.setTop g) target := by
  subst hg hpc hp
  jvm_step h [h.top, hx, hd, hs, hoff, ho, lookupswitch.wp_chain]
  exact ⟨fun a b a1 b1 q => hsort _ q, hr⟩
theorem ord_v {args : Array Value} {s : State} {t : Term} {C n d : String} {k : Int32} {a : Addr} (ht : t.eval args s none [] s = some (.ref a)) (h : (Jvm.Cond.eq (.field t C n d) (.int k)).value args s none s [] = some true) : Fld s s.heap a C n d (.int k) := by
  refine Fld.start ?_
  rw [← fld_at (C := C) (n := n) (dd := d) ht]
  simp only [Cond.value] at h
  cases hv : (Term.field t C n d).eval args s none [] s with
  | none => simp [hv] at h
  | some v => cases v <;> simp_all [Term.eval]
theorem arr_len {args : Array Value} {s : State} {t : Term} {a : Addr} {cl : Cell} {ty : FieldType} {n : Int32} (ht : t.eval args s none [] s = some (.ref a)) (A : Arr s s.heap a cl ty) (h : (Jvm.Cond.eq (.length t) (.int n)).value args s none s [] = some true) : cl.slots.size < 2 ^ 31 ∧ cl.slots.size.toInt32 = n := by
  have ha := A.fin (Vm.Alike.refl s.vm)
  by_cases q : cl.slots.size < 2 ^ 31
  · refine ⟨q, ?_⟩
    have e := len_f ht ha q
    have e2 : (Term.int n).eval args s none [] s = some (.int n) := rfl
    simp only [Cond.value, e, e2] at h
    simpa using h
  · simp [Cond.value, Term.eval, ht, ha, q] at h
theorem arr_elR {args : Array Value} {s : State} {t u : Term} {a b : Addr} {cl : Cell} {ty : FieldType} {j : Int32} (ht : t.eval args s none [] s = some (.ref a)) (A : Arr s s.heap a cl ty) (h : (Jvm.Cond.eq (.elem t (.int j)) u).value args s none s [] = some true) (hu : u.eval args s none [] s = some (.ref b)) (hj : ¬ j < 0) : cl.slots[j.toNatClampNeg]? = some (.ref b) := by
  have ha := A.fin (Vm.Alike.refl s.vm)
  have e : (Term.elem t (.int j)).eval args s none [] s = cl.slots[j.toNatClampNeg]? := elem_f ht rfl ha hj
  simp only [Cond.value, hu, e] at h
  cases hv : cl.slots[j.toNatClampNeg]? with
  | none => simp [hv] at h
  | some v => cases v <;> simp_all
theorem arr_elI {args : Array Value} {s : State} {t : Term} {a : Addr} {cl : Cell} {ty : FieldType} {j k : Int32} (ht : t.eval args s none [] s = some (.ref a)) (A : Arr s s.heap a cl ty) (h : (Jvm.Cond.eq (.elem t (.int j)) (.int k)).value args s none s [] = some true) (hj : ¬ j < 0) : cl.slots[j.toNatClampNeg]? = some (.int k) := by
  have ha := A.fin (Vm.Alike.refl s.vm)
  have e : (Term.elem t (.int j)).eval args s none [] s = cl.slots[j.toNatClampNeg]? := elem_f ht rfl ha hj
  have e2 : (Term.int k).eval args s none [] s = some (.int k) := rfl
  simp only [Cond.value, e, e2] at h
  cases hv : cl.slots[j.toNatClampNeg]? with
  | none => simp [hv] at h
  | some v => cases v <;> simp_all
theorem inb32 {j z : Int32} {n : Int} (hz : z.toInt = n) (h0 : 0 ≤ j.toInt) (h1 : j.toInt < n) : ¬ j < 0 ∧ j < z := by
  rw [Int32.lt_iff_toInt_lt, Int32.lt_iff_toInt_lt, hz]
  have : (0 : Int32).toInt = 0 := by decide
  omega
theorem own_nn {n : Int32} (h : 0 ≤ n.toInt) : ¬ n < 0 := by
  rw [Int32.lt_iff_toInt_lt]
  have : (0 : Int32).toInt = 0 := by decide
  omega
theorem own_cap {n : Int32} {c : Nat} (h : n.toInt < (c : Int) + 1) : n.toNatClampNeg ≤ c := by
  simp only [Int32.toNatClampNeg]
  omega
theorem own_fin (x : Int32) (n : Nat) (hn : n < 2147483648) (h0 : 0 ≤ x.toInt) (h1 : x.toInt < n) : ∃ i : Fin n, x = Int32.ofNat i.1 := by
  refine ⟨⟨x.toInt.toNat, by omega⟩, Int32.toInt_inj.mp ?_⟩
  show x.toInt = (Int32.ofNat x.toInt.toNat).toInt
  rw [Int32.toInt_ofNat_small (by omega)]
  omega
end OwnRun
theorem d5_0 : decode jdk_65_method_153_code 0 = .ok (.aload_n 0, 1) := by decide +kernel
theorem d5_1 : decode jdk_65_method_153_code 1 = .ok (.ifnonnull 5, 3) := by decide +kernel
theorem d5_6 : decode jdk_65_method_153_code 6 = .ok (.aload_n 0, 1) := by decide +kernel
theorem d5_7 : decode jdk_65_method_153_code 7 = .ok (.arraylength, 1) := by decide +kernel
theorem d5_8 : decode jdk_65_method_153_code 8 = .ok (.lookupswitch 41 #[(0, 28), (1, 32)], 28) := by decide +kernel
theorem d5_36 : decode jdk_65_method_153_code 36 = .ok (.iconst 1, 1) := by decide +kernel
theorem d5_37 : decode jdk_65_method_153_code 37 = .ok (.goto 22, 3) := by decide +kernel
theorem d5_59 : decode jdk_65_method_153_code 59 = .ok (.ireturn, 1) := by decide +kernel
theorem pn_0 : plainName "java/util/Arrays" = true := by first | (simp [plainName, overriddenIn]; done) | decide +kernel
theorem ef_Hc (m : MethodId) (a0 : Addr) : entryFrame m #[(.ref a0)] 1 = mkF m 0 #[.val (.ref a0)] [] := by first | (simp [entryFrame, mkF, argsToLocals, Value.category]; done) | rfl
def FHc (a0 : Addr) (kb : ClassId) : Int32 := (1 : Int32)
def QHc (Z : State) (a0 : Addr) (kb : ClassId) (h0 : Heap) (n0 : Nat) (v : Option Value) (h : Heap) (L : List Loc) : Prop := v = some (.int (FHc a0 kb)) ∧ Fr n0 L ∧ h = h0
set_option maxRecDepth 65536 in
set_option maxHeartbeats 40000000 in
theorem rmHc (l : Launch) (Z : State) (aV : Array Value) (hw : ∀ d ∈ tables_1, d.before aV Z = true) (ws : List Jvm.Cond) (a0 : Addr) (kb : ClassId) (h0 : Heap) (n0 : Nat) (Zn : n0 ≤ h0.size) (V_a0 : Arv Z h0 a0 kb .byte (0 : Int32) [] (.int (0 : Int32))) :
    MetFree l (⟨"java/util/Arrays", "hashCode", "([B)I"⟩ : MethodName) (head1 (Jvm.Cond.code (⟨"java/util/Arrays", "hashCode", "([B)I"⟩ : MethodName) jdk_65_method_153_code 1 (some .int) :: ws) ({ frames := 0, cells := 0, slots := 0, locals := 0 } : Room)) (fun a U => a = #[(.ref a0)] ∧ Z.Warmed39 U.vm ∧ U.heap = h0) (fun _ _ _ _ _ => True) (fun _ U o U' => ∃ v L, o = .returned v ∧ QHc Z a0 kb h0 n0 v U'.heap L ∧ FrameEnd U o U' L ({ frames := 0, cells := 0, slots := 0, locals := 0 } : Room).cells ({ frames := 0, cells := 0, slots := 0, locals := 0 } : Room).slots) := by
  refine MetFree.of_bodySF (plainFor_of_name pn_0) hisR ?_
  intro p e s m args below meth c s₁ Bd hml0 hP hK
  obtain ⟨rfl, hZ, hh⟩ := hP
  have hx := Bd.exec
  have hby := Bd.bytes
  have hml : c.maxLocals = 1 := hml0
  have hown : s.vm.findClass "java/util/Arrays" = some m.cls := findClass_of_methodNamed Bd.named
  have hnm := (name_of_methodNamed Bd.named Bd.method).1
  have X0 : Stand p l e ({ frames := 0, cells := 0, slots := 0, locals := 0 } : Room) s m #[(.ref a0)] below meth c s₁ [] 0 0 := Stand.of_body Bd
  have e0 : s₁.heap = h0 := by rw [← hh, Bd.state]; rfl
  have N0 := Fr.nil n0
  have Kp := Keep.refl h0 []
  show Run p e below (Ends s (QHc Z a0 kb h0 n0) ({ frames := 0, cells := 0, slots := 0, locals := 0 } : Room).cells ({ frames := 0, cells := 0, slots := 0, locals := 0 } : Room).slots) _
  refine Run.st (S' := s₁.setTop (mkF m 0 #[.val (.ref a0)] [])) (fun t k => castTop (ef_Hc m a0) k) ?_
  refine Run.st (S' := s₁.setTop (mkF m 7 #[.val (.ref a0)] [(.ref a0)])) (fun _ k => XS.aloadN X0.here hx rfl (hb hby d5_0) rfl rfl (XS.ifnonnullYes X0.here hx rfl (pc0 := 1) (pc' := 6) rfl (hb hby d5_1) rfl (by decide) (by decide) (XS.aloadN X0.here hx rfl (hb hby d5_6) rfl rfl k))) ?_
  obtain ⟨cl1, Ar1, -, Sa1, Na1, -, -⟩ := id V_a0
  refine Run.st (S' := s₁.setTop (mkF m 8 #[.val (.ref a0)] [(.int (0 : Int32))])) (fun _ k => X0.arraylength hx (by rw [e0]; exact Ar1.1) (State.isArrayOf_alike hZ.alike Ar1.2.1) (g := (mkF m 7 #[.val (.ref a0)] [(.ref a0)])) rfl rfl (hb hby d5_7) _ (by rw [len_of Sa1 Na1]; exact k)) ?_
  refine Run.st (S' := s₁.setTop (mkF m 59 #[.val (.ref a0)] [(.int (1 : Int32))])) (fun _ k => own_lsw X0.here hx rfl (pc0 := 8) (pc' := 36) rfl (hb hby d5_8) rfl (o := 28) (by decide) (by decide) (by decide) (by decide) (XS.iconst X0.here hx rfl (hb hby d5_36) (XS.goto X0.here hx rfl (pc0 := 37) (pc' := 59) rfl (hb hby d5_37) (by decide) (by decide) k))) ?_
  refine Run.out X0 hx Bd.notSynchronized Bd.returns rfl (Or.inl ⟨rfl, by simp, _, rfl⟩) (hb hby d5_59) (by decide) (by decide) ?_
  rw [e0]
  exact ⟨rfl, N0, rfl⟩
theorem pd_0 : parseMethodDescriptor "([B)I" = some ⟨[(.array .byte)], some .int⟩ := by decide +kernel
theorem d4_0 : decode prog_42_method_2_code 0 = .ok (.aload_n 0, 1) := by decide +kernel
theorem d4_1 : decode prog_42_method_2_code 1 = .ok (.invokestatic 24, 3) := by decide +kernel
theorem d4_4 : decode prog_42_method_2_code 4 = .ok (.istore_n 1, 1) := by decide +kernel
theorem d4_5 : decode prog_42_method_2_code 5 = .ok (.iload_n 1, 1) := by decide +kernel
theorem d4_6 : decode prog_42_method_2_code 6 = .ok (.iload_n 1, 1) := by decide +kernel
theorem d4_7 : decode prog_42_method_2_code 7 = .ok (.bipush 16, 2) := by decide +kernel
theorem d4_9 : decode prog_42_method_2_code 9 = .ok (.iushr, 1) := by decide +kernel
theorem d4_10 : decode prog_42_method_2_code 10 = .ok (.ixor, 1) := by decide +kernel
theorem d4_11 : decode prog_42_method_2_code 11 = .ok (.ireturn, 1) := by decide +kernel
theorem pn_1 : plainName "com/example/keys_to_structures/keystostructures/store/Entry" = true := by first | (simp [plainName, overriddenIn]; done) | decide +kernel
theorem ef_Hash (m : MethodId) (a0 : Addr) : entryFrame m #[(.ref a0)] 2 = mkF m 0 #[.val (.ref a0), .unset] [] := by first | (simp [entryFrame, mkF, argsToLocals, Value.category]; done) | rfl
def FHash (a0 : Addr) (kb : ClassId) : Int32 := ((FHc a0 kb) ^^^ (((FHc a0 kb).toUInt32 >>> ((16 : Int32) &&& 31).toUInt32).toInt32))
def QHash (Z : State) (a0 : Addr) (kb : ClassId) (h0 : Heap) (n0 : Nat) (v : Option Value) (h : Heap) (L : List Loc) : Prop := v = some (.int (FHash a0 kb)) ∧ Fr n0 L ∧ h = h0
set_option maxRecDepth 65536 in
set_option maxHeartbeats 40000000 in
theorem rmHash (l : Launch) (Z : State) (aV : Array Value) (hw : ∀ d ∈ tables_1, d.before aV Z = true) (ws : List Jvm.Cond) (a0 : Addr) (kb : ClassId) (h0 : Heap) (n0 : Nat) (Zn : n0 ≤ h0.size) (V_a0 : Arv Z h0 a0 kb .byte (0 : Int32) [] (.int (0 : Int32))) :
    MetFree l (⟨"com/example/keys_to_structures/keystostructures/store/Entry", "hash", "([B)I"⟩ : MethodName) (head1 (Jvm.Cond.code (⟨"com/example/keys_to_structures/keystostructures/store/Entry", "hash", "([B)I"⟩ : MethodName) prog_42_method_2_code 2 (some .int) :: ws) ({ frames := 1, cells := 0, slots := 0, locals := 12 } : Room)) (fun a U => a = #[(.ref a0)] ∧ Z.Warmed39 U.vm ∧ U.heap = h0) (fun _ _ _ _ _ => True) (fun _ U o U' => ∃ v L, o = .returned v ∧ QHash Z a0 kb h0 n0 v U'.heap L ∧ FrameEnd U o U' L ({ frames := 1, cells := 0, slots := 0, locals := 12 } : Room).cells ({ frames := 1, cells := 0, slots := 0, locals := 12 } : Room).slots) := by
  refine MetFree.of_bodySF (plainFor_of_name pn_1) hisR ?_
  intro p e s m args below meth c s₁ Bd hml0 hP hK
  obtain ⟨rfl, hZ, hh⟩ := hP
  have hx := Bd.exec
  have hby := Bd.bytes
  have hml : c.maxLocals = 2 := hml0
  have hown : s.vm.findClass "com/example/keys_to_structures/keystostructures/store/Entry" = some m.cls := findClass_of_methodNamed Bd.named
  have hnm := (name_of_methodNamed Bd.named Bd.method).1
  have X0 : Stand p l e ({ frames := 1, cells := 0, slots := 0, locals := 12 } : Room) s m #[(.ref a0)] below meth c s₁ [] 0 0 := Stand.of_body Bd
  have e0 : s₁.heap = h0 := by rw [← hh, Bd.state]; rfl
  have N0 := Fr.nil n0
  have Kp := Keep.refl h0 []
  show Run p e below (Ends s (QHash Z a0 kb h0 n0) ({ frames := 1, cells := 0, slots := 0, locals := 12 } : Room).cells ({ frames := 1, cells := 0, slots := 0, locals := 12 } : Room).slots) _
  refine Run.st (S' := s₁.setTop (mkF m 0 #[.val (.ref a0), .unset] [])) (fun t k => castTop (ef_Hash m a0) k) ?_
  refine Run.st (S' := s₁.setTop (mkF m 1 #[.val (.ref a0), .unset] [(.ref a0)])) (fun _ k => XS.aloadN X0.here hx rfl (hb hby d4_0) rfl rfl k) ?_
  obtain ⟨_, _, ⟨T1, L1, k1, n1⟩, -, X1, ⟨Lc1, hQ1, l1, y1, z1⟩, st1⟩ := Jvm.LawKit.callS X0 hx (y := (⟨"java/util/Arrays", "hashCode", "([B)I"⟩ : MethodName)) hown (mvT hZ (hw _ (List.mem_of_getElem? (i := 22) rfl))) (mvT hZ (hw _ (List.mem_of_getElem? (i := 23) rfl))) (mvT hZ (hw _ (List.mem_of_getElem? (i := 24) rfl))) (mvT hZ (hw _ (List.mem_of_getElem? (i := 25) rfl))) (by decide) (backOf (W := 0) (rmHc l Z aV hw [] a0 kb h0 n0 Zn V_a0) hZ (hw _ (List.mem_of_getElem? (i := 25) rfl)) (hw _ (List.mem_of_getElem? (i := 24) rfl)) (by decide) (by decide)) (g := (mkF m 1 #[.val (.ref a0), .unset] [(.ref a0)])) rfl (by rw [hml]; rfl) (argsL := [(.ref a0)]) (rest := []) (lenOf pd_0 rfl) rfl (by show 2 * 0 + _ ≤ _; exact Nat.le_of_eq rfl) (hb hby d4_1) (fun _ _ => ⟨rfl, e0, (by decide : 0 + 0 ≤ _), (by decide : 0 + 0 ≤ _)⟩)
  dsimp only [Pt.U, Pt.locs, Pt.cells, Pt.slots] at X1 l1 y1 z1 st1 hQ1
  subst l1 y1 z1
  obtain ⟨rfl, N1q, e1⟩ := hQ1
  have N1 := Fr.app N0 N1q
  refine Run.st (S' := T1.setTop (mkF m 11 #[.val (.ref a0), .val (.int (FHc a0 kb))] [(.int ((FHc a0 kb) ^^^ (((FHc a0 kb).toUInt32 >>> ((16 : Int32) &&& 31).toUInt32).toInt32)))])) (fun _ k => st1 _ (XS.istoreN X1.here hx rfl (hb hby d4_4) rfl (l' := #[.val (.ref a0), .val (.int (FHc a0 kb))]) rfl (XS.iloadN X1.here hx rfl (hb hby d4_5) rfl (XS.iloadN X1.here hx rfl (hb hby d4_6) rfl (XS.bipush X1.here hx rfl (hb hby d4_7) (XS.iushr X1.here hx rfl (hb hby d4_9) rfl (XS.ixor X1.here hx rfl (hb hby d4_10) rfl k))))))) ?_
  refine Run.out X1 hx Bd.notSynchronized Bd.returns rfl (Or.inl ⟨rfl, by simp, _, rfl⟩) (hb hby d4_11) (by decide) (by decide) ?_
  rw [e1]
  exact ⟨rfl, N1, rfl⟩
theorem d2_0 : decode prog_42_method_1_code 0 = .ok (.aload_n 0, 1) := by decide +kernel
theorem d2_1 : decode prog_42_method_1_code 1 = .ok (.invokespecial 1, 3) := by decide +kernel
theorem d2_4 : decode prog_42_method_1_code 4 = .ok (.aload_n 0, 1) := by decide +kernel
theorem d2_5 : decode prog_42_method_1_code 5 = .ok (.aload_n 1, 1) := by decide +kernel
theorem d2_6 : decode prog_42_method_1_code 6 = .ok (.putfield 7, 3) := by decide +kernel
theorem d2_9 : decode prog_42_method_1_code 9 = .ok (.aload_n 0, 1) := by decide +kernel
theorem d2_10 : decode prog_42_method_1_code 10 = .ok (.aload_n 2, 1) := by decide +kernel
theorem d2_11 : decode prog_42_method_1_code 11 = .ok (.putfield 13, 3) := by decide +kernel
theorem d2_14 : decode prog_42_method_1_code 14 = .ok (.aload_n 0, 1) := by decide +kernel
theorem d2_15 : decode prog_42_method_1_code 15 = .ok (.aload_n 1, 1) := by decide +kernel
theorem d2_16 : decode prog_42_method_1_code 16 = .ok (.invokestatic 17, 3) := by decide +kernel
theorem d2_19 : decode prog_42_method_1_code 19 = .ok (.putfield 21, 3) := by decide +kernel
theorem d2_22 : decode prog_42_method_1_code 22 = .ok (.return_, 1) := by decide +kernel
theorem ef_EIni (m : MethodId) (a0 : Addr) (a1 : Addr) : entryFrame m #[(.ref a0), (.ref a1), .null] 3 = mkF m 0 #[.val (.ref a0), .val (.ref a1), .val .null] [] := by first | (simp [entryFrame, mkF, argsToLocals, Value.category]; done) | rfl
def QEIni (Z : State) (a0 : Addr) (a1 : Addr) (kb : ClassId) (h0 : Heap) (n0 : Nat) (v : Option Value) (h : Heap) (L : List Loc) : Prop := v = none ∧ Fr n0 L ∧ Keep h0 h [a0] ∧ Exa Z h a0 "com/example/keys_to_structures/keystostructures/store/TimedEntry" ∧ Fld Z h a0 "com/example/keys_to_structures/keystostructures/store/TimedEntry" "deadline" "J" (.long (0 : Int64)) ∧ Fld Z h a0 "com/example/keys_to_structures/keystostructures/store/TimedEntry" "position" "I" (.int (0 : Int32)) ∧ Fld Z h a0 "com/example/keys_to_structures/keystostructures/store/Entry" "key" "[B" (.ref a1) ∧ Fld Z h a0 "com/example/keys_to_structures/keystostructures/store/Entry" "value" "Ljava/lang/Object;" .null ∧ Fld Z h a0 "com/example/keys_to_structures/keystostructures/store/Entry" "hash" "I" (.int (FHash a1 kb))
set_option maxRecDepth 65536 in
set_option maxHeartbeats 40000000 in
theorem rmEIni (l : Launch) (Z : State) (aV : Array Value) (hw : ∀ d ∈ tables_1, d.before aV Z = true) (ws : List Jvm.Cond) (a0 : Addr) (a1 : Addr) (kb : ClassId) (h0 : Heap) (n0 : Nat) (Zn : n0 ≤ h0.size) (g_a0 : n0 ≤ a0) (E_a0 : Exa Z h0 a0 "com/example/keys_to_structures/keystostructures/store/TimedEntry") (F_d : Fld Z h0 a0 "com/example/keys_to_structures/keystostructures/store/TimedEntry" "deadline" "J" (.long (0 : Int64))) (F_p : Fld Z h0 a0 "com/example/keys_to_structures/keystostructures/store/TimedEntry" "position" "I" (.int (0 : Int32))) (F_key : Fld Z h0 a0 "com/example/keys_to_structures/keystostructures/store/Entry" "key" "[B" .null) (F_val : Fld Z h0 a0 "com/example/keys_to_structures/keystostructures/store/Entry" "value" "Ljava/lang/Object;" .null) (F_hash : Fld Z h0 a0 "com/example/keys_to_structures/keystostructures/store/Entry" "hash" "I" (.int (0 : Int32))) (V_a1 : Arv Z h0 a1 kb .byte (0 : Int32) [] (.int (0 : Int32))) (ne_a0__a1 : a0 ≠ a1) :
    MetFree l (⟨"com/example/keys_to_structures/keystostructures/store/Entry", "<init>", "([BLjava/lang/Object;)V"⟩ : MethodName) (head1 (Jvm.Cond.code (⟨"com/example/keys_to_structures/keystostructures/store/Entry", "<init>", "([BLjava/lang/Object;)V"⟩ : MethodName) prog_42_method_1_code 3 none :: ws) ({ frames := 2, cells := 0, slots := 0, locals := 26 } : Room)) (fun a U => a = #[(.ref a0), (.ref a1), .null] ∧ Z.Warmed39 U.vm ∧ U.heap = h0) (fun _ _ _ _ _ => True) (fun _ U o U' => ∃ v L, o = .returned v ∧ QEIni Z a0 a1 kb h0 n0 v U'.heap L ∧ FrameEnd U o U' L ({ frames := 2, cells := 0, slots := 0, locals := 26 } : Room).cells ({ frames := 2, cells := 0, slots := 0, locals := 26 } : Room).slots) := by
  refine MetFree.of_bodySF (plainFor_of_name pn_1) hisR ?_
  intro p e s m args below meth c s₁ Bd hml0 hP hK
  obtain ⟨rfl, hZ, hh⟩ := hP
  have hx := Bd.exec
  have hby := Bd.bytes
  have hml : c.maxLocals = 3 := hml0
  have hown : s.vm.findClass "com/example/keys_to_structures/keystostructures/store/Entry" = some m.cls := findClass_of_methodNamed Bd.named
  have hnm := (name_of_methodNamed Bd.named Bd.method).1
  have X0 : Stand p l e ({ frames := 2, cells := 0, slots := 0, locals := 26 } : Room) s m #[(.ref a0), (.ref a1), .null] below meth c s₁ [] 0 0 := Stand.of_body Bd
  have e0 : s₁.heap = h0 := by rw [← hh, Bd.state]; rfl
  have N0 := Fr.nil n0
  have Kp := Keep.refl h0 [a0]
  show Run p e below (Ends s (QEIni Z a0 a1 kb h0 n0) ({ frames := 2, cells := 0, slots := 0, locals := 26 } : Room).cells ({ frames := 2, cells := 0, slots := 0, locals := 26 } : Room).slots) _
  refine Run.st (S' := s₁.setTop (mkF m 0 #[.val (.ref a0), .val (.ref a1), .val .null] [])) (fun t k => castTop (ef_EIni m a0 a1) k) ?_
  refine Run.st (S' := s₁.setTop (mkF m 1 #[.val (.ref a0), .val (.ref a1), .val .null] [(.ref a0)])) (fun _ k => XS.aloadN X0.here hx rfl (hb hby d2_0) rfl rfl k) ?_
  obtain ⟨T1, X1, e1, st1⟩ := initO X0 hx hZ hown (hw _ (List.mem_of_getElem? (i := 12) rfl)) (hw _ (List.mem_of_getElem? (i := 13) rfl)) (hw _ (List.mem_of_getElem? (i := 14) rfl)) e0 (g := (mkF m 1 #[.val (.ref a0), .val (.ref a1), .val .null] [(.ref a0)])) rfl (by rw [hml]; rfl) rfl (hb hby d2_1) (by decide) (W := 0) (by show 2 * 0 + _ ≤ _; exact Nat.le_of_eq rfl) (by decide)
  refine Run.st (S' := T1.setTop (mkF m 6 #[.val (.ref a0), .val (.ref a1), .val .null] [(.ref a1), (.ref a0)])) (fun _ k => st1 _ (XS.aloadN X1.here hx rfl (hb hby d2_4) rfl rfl (XS.aloadN X1.here hx rfl (hb hby d2_5) rfl rfl k))) ?_
  obtain ⟨T2, h2, X2, e2, W2, st2⟩ := putF X1 hx hZ hown (host := "") (Or.inl (hw _ (List.mem_of_getElem? (i := 15) rfl))) Via.refl e1 F_key E_a0 (Or.inr ⟨(hw _ (List.mem_of_getElem? (i := 16) rfl)), rfl, hnm⟩) (hw _ (List.mem_of_getElem? (i := 1) rfl)) (ty := (.array .byte)) (by decide) rfl rfl (g := (mkF m 6 #[.val (.ref a0), .val (.ref a1), .val .null] [(.ref a1), (.ref a0)])) rfl rfl (hb hby d2_6)
  have F_key := F_key.same W2
  have E_a0 := E_a0.wr W2
  have F_d := F_d.other W2 (Or.inr (slot_ne (Or.inl (hw _ (List.mem_of_getElem? (i := 29) rfl))) (Or.inr (hw _ (List.mem_of_getElem? (i := 16) rfl))) (by decide) (t := .long) (t' := (.array .byte)) (by decide) (by decide)))
  have F_p := F_p.other W2 (Or.inr (slot_ne (Or.inl (hw _ (List.mem_of_getElem? (i := 63) rfl))) (Or.inr (hw _ (List.mem_of_getElem? (i := 16) rfl))) (by decide) (t := .int) (t' := (.array .byte)) (by decide) (by decide)))
  have F_val := F_val.other W2 (Or.inr (slot_ne (Or.inl (hw _ (List.mem_of_getElem? (i := 18) rfl))) (Or.inr (hw _ (List.mem_of_getElem? (i := 16) rfl))) (by decide) (t := (.object "java/lang/Object")) (t' := (.array .byte)) (by decide) (by decide)))
  have F_hash := F_hash.other W2 (Or.inr (slot_ne (Or.inr (hw _ (List.mem_of_getElem? (i := 27) rfl))) (Or.inr (hw _ (List.mem_of_getElem? (i := 16) rfl))) (by decide) (t := .int) (t' := (.array .byte)) (by decide) (by decide)))
  have V_a1 := V_a1.other W2 (Ne.symm ne_a0__a1)
  have N2 := Fr.snoc X2 N0 g_a0
  have Kp := Kp.wr W2 (Or.inl (by simp))
  have Zn := Nat.le_trans Zn (Nat.le_of_eq W2.size.symm)
  refine Run.st (S' := T2.setTop (mkF m 11 #[.val (.ref a0), .val (.ref a1), .val .null] [.null, (.ref a0)])) (fun _ k => st2 _ (XS.aloadN X2.here hx rfl (hb hby d2_9) rfl rfl (XS.aloadN X2.here hx rfl (hb hby d2_10) rfl rfl k))) ?_
  obtain ⟨T3, h3, X3, e3, W3, st3⟩ := putF X2 hx hZ hown (host := "") (Or.inl (hw _ (List.mem_of_getElem? (i := 17) rfl))) Via.refl e2 F_val E_a0 (Or.inl (hw _ (List.mem_of_getElem? (i := 18) rfl))) (hw _ (List.mem_of_getElem? (i := 1) rfl)) (ty := (.object "java/lang/Object")) (by decide) rfl rfl (g := (mkF m 11 #[.val (.ref a0), .val (.ref a1), .val .null] [.null, (.ref a0)])) rfl rfl (hb hby d2_11)
  have F_val := F_val.same W3
  have E_a0 := E_a0.wr W3
  have F_d := F_d.other W3 (Or.inr (slot_ne (Or.inl (hw _ (List.mem_of_getElem? (i := 29) rfl))) (Or.inl (hw _ (List.mem_of_getElem? (i := 18) rfl))) (by decide) (t := .long) (t' := (.object "java/lang/Object")) (by decide) (by decide)))
  have F_p := F_p.other W3 (Or.inr (slot_ne (Or.inl (hw _ (List.mem_of_getElem? (i := 63) rfl))) (Or.inl (hw _ (List.mem_of_getElem? (i := 18) rfl))) (by decide) (t := .int) (t' := (.object "java/lang/Object")) (by decide) (by decide)))
  have F_key := F_key.other W3 (Or.inr (slot_ne (Or.inr (hw _ (List.mem_of_getElem? (i := 16) rfl))) (Or.inl (hw _ (List.mem_of_getElem? (i := 18) rfl))) (by decide) (t := (.array .byte)) (t' := (.object "java/lang/Object")) (by decide) (by decide)))
  have F_hash := F_hash.other W3 (Or.inr (slot_ne (Or.inr (hw _ (List.mem_of_getElem? (i := 27) rfl))) (Or.inl (hw _ (List.mem_of_getElem? (i := 18) rfl))) (by decide) (t := .int) (t' := (.object "java/lang/Object")) (by decide) (by decide)))
  have V_a1 := V_a1.other W3 (Ne.symm ne_a0__a1)
  have N3 := Fr.snoc X3 N2 g_a0
  have Kp := Kp.wr W3 (Or.inl (by simp))
  have Zn := Nat.le_trans Zn (Nat.le_of_eq W3.size.symm)
  refine Run.st (S' := T3.setTop (mkF m 16 #[.val (.ref a0), .val (.ref a1), .val .null] [(.ref a1), (.ref a0)])) (fun _ k => st3 _ (XS.aloadN X3.here hx rfl (hb hby d2_14) rfl rfl (XS.aloadN X3.here hx rfl (hb hby d2_15) rfl rfl k))) ?_
  obtain ⟨_, _, ⟨T4, L4, k4, n4⟩, -, X4, ⟨Lc4, hQ4, l4, y4, z4⟩, st4⟩ := Jvm.LawKit.callS X3 hx (y := (⟨"com/example/keys_to_structures/keystostructures/store/Entry", "hash", "([B)I"⟩ : MethodName)) hown (mvT hZ (hw _ (List.mem_of_getElem? (i := 19) rfl))) (mvT hZ (hw _ (List.mem_of_getElem? (i := 20) rfl))) (mvT hZ (hw _ (List.mem_of_getElem? (i := 10) rfl))) (mvT hZ (hw _ (List.mem_of_getElem? (i := 21) rfl))) (by decide) (backOf (W := 1) (rmHash l Z aV hw [] a1 kb h3 n0 Zn V_a1) hZ (hw _ (List.mem_of_getElem? (i := 21) rfl)) (hw _ (List.mem_of_getElem? (i := 10) rfl)) (by decide) (by decide)) (g := (mkF m 16 #[.val (.ref a0), .val (.ref a1), .val .null] [(.ref a1), (.ref a0)])) rfl (by rw [hml]; rfl) (argsL := [(.ref a1)]) (rest := [(.ref a0)]) (lenOf pd_0 rfl) rfl (by show 2 * 0 + _ ≤ _; exact Nat.le_of_eq rfl) (hb hby d2_16) (fun _ _ => ⟨rfl, e3, (by decide : 0 + 0 ≤ _), (by decide : 0 + 0 ≤ _)⟩)
  dsimp only [Pt.U, Pt.locs, Pt.cells, Pt.slots] at X4 l4 y4 z4 st4 hQ4
  subst l4 y4 z4
  obtain ⟨rfl, N4q, e4⟩ := hQ4
  have N4 := Fr.app N3 N4q
  refine Run.st (S' := T4.setTop (mkF m 19 #[.val (.ref a0), .val (.ref a1), .val .null] [(.int (FHash a1 kb)), (.ref a0)])) (fun _ k => st4 _ k) ?_
  obtain ⟨T5, h5, X5, e5, W5, st5⟩ := putF X4 hx hZ hown (host := "") (Or.inl (hw _ (List.mem_of_getElem? (i := 26) rfl))) Via.refl e4 F_hash E_a0 (Or.inr ⟨(hw _ (List.mem_of_getElem? (i := 27) rfl)), rfl, hnm⟩) (hw _ (List.mem_of_getElem? (i := 1) rfl)) (ty := .int) (by decide) rfl rfl (g := (mkF m 19 #[.val (.ref a0), .val (.ref a1), .val .null] [(.int (FHash a1 kb)), (.ref a0)])) rfl rfl (hb hby d2_19)
  have F_hash := F_hash.same W5
  have E_a0 := E_a0.wr W5
  have F_d := F_d.other W5 (Or.inr (slot_ne (Or.inl (hw _ (List.mem_of_getElem? (i := 29) rfl))) (Or.inr (hw _ (List.mem_of_getElem? (i := 27) rfl))) (by decide) (t := .long) (t' := .int) (by decide) (by decide)))
  have F_p := F_p.other W5 (Or.inr (slot_ne (Or.inl (hw _ (List.mem_of_getElem? (i := 63) rfl))) (Or.inr (hw _ (List.mem_of_getElem? (i := 27) rfl))) (by decide) (t := .int) (t' := .int) (by decide) (by decide)))
  have F_key := F_key.other W5 (Or.inr (slot_ne (Or.inr (hw _ (List.mem_of_getElem? (i := 16) rfl))) (Or.inr (hw _ (List.mem_of_getElem? (i := 27) rfl))) (by decide) (t := (.array .byte)) (t' := .int) (by decide) (by decide)))
  have F_val := F_val.other W5 (Or.inr (slot_ne (Or.inl (hw _ (List.mem_of_getElem? (i := 18) rfl))) (Or.inr (hw _ (List.mem_of_getElem? (i := 27) rfl))) (by decide) (t := (.object "java/lang/Object")) (t' := .int) (by decide) (by decide)))
  have V_a1 := V_a1.other W5 (Ne.symm ne_a0__a1)
  have N5 := Fr.snoc X5 N4 g_a0
  have Kp := Kp.wr W5 (Or.inl (by simp))
  have Zn := Nat.le_trans Zn (Nat.le_of_eq W5.size.symm)
  refine Run.st (S' := T5.setTop (mkF m 22 #[.val (.ref a0), .val (.ref a1), .val .null] [])) (fun _ k => st5 _ k) ?_
  refine Run.outV X5 hx Bd.notSynchronized Bd.returns (hb hby d2_22) (by decide) (by decide) ?_
  rw [e5]
  exact ⟨rfl, N5, Kp, E_a0, F_d, F_p, F_key, F_val, F_hash⟩
theorem pd_1 : parseMethodDescriptor "([BLjava/lang/Object;)V" = some ⟨[(.array .byte), (.object "java/lang/Object")], none⟩ := by decide +kernel
theorem d1_0 : decode prog_51_method_1_code 0 = .ok (.aload_n 0, 1) := by decide +kernel
theorem d1_1 : decode prog_51_method_1_code 1 = .ok (.aload_n 1, 1) := by decide +kernel
theorem d1_2 : decode prog_51_method_1_code 2 = .ok (.aload_n 2, 1) := by decide +kernel
theorem d1_3 : decode prog_51_method_1_code 3 = .ok (.invokespecial 1, 3) := by decide +kernel
theorem d1_6 : decode prog_51_method_1_code 6 = .ok (.aload_n 0, 1) := by decide +kernel
theorem d1_7 : decode prog_51_method_1_code 7 = .ok (.lload_n 3, 1) := by decide +kernel
theorem d1_8 : decode prog_51_method_1_code 8 = .ok (.putfield 7, 3) := by decide +kernel
theorem d1_11 : decode prog_51_method_1_code 11 = .ok (.return_, 1) := by decide +kernel
theorem pn_2 : plainName "com/example/keys_to_structures/keystostructures/store/TimedEntry" = true := by first | (simp [plainName, overriddenIn]; done) | decide +kernel
theorem ef_TIni (m : MethodId) (a0 : Addr) (a1 : Addr) (dl : Int64) : entryFrame m #[(.ref a0), (.ref a1), .null, (.long dl)] 5 = mkF m 0 #[.val (.ref a0), .val (.ref a1), .val .null, .val (.long dl), .second] [] := by first | (simp [entryFrame, mkF, argsToLocals, Value.category]; done) | rfl
def QTIni (Z : State) (a0 : Addr) (a1 : Addr) (dl : Int64) (kb : ClassId) (h0 : Heap) (n0 : Nat) (v : Option Value) (h : Heap) (L : List Loc) : Prop := v = none ∧ Fr n0 L ∧ Keep h0 h [a0] ∧ Exa Z h a0 "com/example/keys_to_structures/keystostructures/store/TimedEntry" ∧ Fld Z h a0 "com/example/keys_to_structures/keystostructures/store/TimedEntry" "deadline" "J" (.long dl) ∧ Fld Z h a0 "com/example/keys_to_structures/keystostructures/store/TimedEntry" "position" "I" (.int (0 : Int32)) ∧ Fld Z h a0 "com/example/keys_to_structures/keystostructures/store/Entry" "key" "[B" (.ref a1) ∧ Fld Z h a0 "com/example/keys_to_structures/keystostructures/store/Entry" "value" "Ljava/lang/Object;" .null ∧ Fld Z h a0 "com/example/keys_to_structures/keystostructures/store/Entry" "hash" "I" (.int (FHash a1 kb))
set_option maxRecDepth 65536 in
set_option maxHeartbeats 40000000 in
theorem rmTIni (l : Launch) (Z : State) (aV : Array Value) (hw : ∀ d ∈ tables_1, d.before aV Z = true) (ws : List Jvm.Cond) (a0 : Addr) (a1 : Addr) (dl : Int64) (kb : ClassId) (h0 : Heap) (n0 : Nat) (Zn : n0 ≤ h0.size) (g_a0 : n0 ≤ a0) (E_a0 : Exa Z h0 a0 "com/example/keys_to_structures/keystostructures/store/TimedEntry") (F_d : Fld Z h0 a0 "com/example/keys_to_structures/keystostructures/store/TimedEntry" "deadline" "J" (.long (0 : Int64))) (F_p : Fld Z h0 a0 "com/example/keys_to_structures/keystostructures/store/TimedEntry" "position" "I" (.int (0 : Int32))) (F_key : Fld Z h0 a0 "com/example/keys_to_structures/keystostructures/store/Entry" "key" "[B" .null) (F_val : Fld Z h0 a0 "com/example/keys_to_structures/keystostructures/store/Entry" "value" "Ljava/lang/Object;" .null) (F_hash : Fld Z h0 a0 "com/example/keys_to_structures/keystostructures/store/Entry" "hash" "I" (.int (0 : Int32))) (V_a1 : Arv Z h0 a1 kb .byte (0 : Int32) [] (.int (0 : Int32))) (ne_a0__a1 : a0 ≠ a1) :
    MetFree l (⟨"com/example/keys_to_structures/keystostructures/store/TimedEntry", "<init>", "([BLjava/lang/Object;J)V"⟩ : MethodName) (head1 (Jvm.Cond.code (⟨"com/example/keys_to_structures/keystostructures/store/TimedEntry", "<init>", "([BLjava/lang/Object;J)V"⟩ : MethodName) prog_51_method_1_code 5 none :: ws) ({ frames := 3, cells := 0, slots := 0, locals := 40 } : Room)) (fun a U => a = #[(.ref a0), (.ref a1), .null, (.long dl)] ∧ Z.Warmed39 U.vm ∧ U.heap = h0) (fun _ _ _ _ _ => True) (fun _ U o U' => ∃ v L, o = .returned v ∧ QTIni Z a0 a1 dl kb h0 n0 v U'.heap L ∧ FrameEnd U o U' L ({ frames := 3, cells := 0, slots := 0, locals := 40 } : Room).cells ({ frames := 3, cells := 0, slots := 0, locals := 40 } : Room).slots) := by
  refine MetFree.of_bodySF (plainFor_of_name pn_2) hisR ?_
  intro p e s m args below meth c s₁ Bd hml0 hP hK
  obtain ⟨rfl, hZ, hh⟩ := hP
  have hx := Bd.exec
  have hby := Bd.bytes
  have hml : c.maxLocals = 5 := hml0
  have hown : s.vm.findClass "com/example/keys_to_structures/keystostructures/store/TimedEntry" = some m.cls := findClass_of_methodNamed Bd.named
  have hnm := (name_of_methodNamed Bd.named Bd.method).1
  have X0 : Stand p l e ({ frames := 3, cells := 0, slots := 0, locals := 40 } : Room) s m #[(.ref a0), (.ref a1), .null, (.long dl)] below meth c s₁ [] 0 0 := Stand.of_body Bd
  have e0 : s₁.heap = h0 := by rw [← hh, Bd.state]; rfl
  have N0 := Fr.nil n0
  have Kp := Keep.refl h0 [a0]
  show Run p e below (Ends s (QTIni Z a0 a1 dl kb h0 n0) ({ frames := 3, cells := 0, slots := 0, locals := 40 } : Room).cells ({ frames := 3, cells := 0, slots := 0, locals := 40 } : Room).slots) _
  refine Run.st (S' := s₁.setTop (mkF m 0 #[.val (.ref a0), .val (.ref a1), .val .null, .val (.long dl), .second] [])) (fun t k => castTop (ef_TIni m a0 a1 dl) k) ?_
  refine Run.st (S' := s₁.setTop (mkF m 3 #[.val (.ref a0), .val (.ref a1), .val .null, .val (.long dl), .second] [.null, (.ref a1), (.ref a0)])) (fun _ k => XS.aloadN X0.here hx rfl (hb hby d1_0) rfl rfl (XS.aloadN X0.here hx rfl (hb hby d1_1) rfl rfl (XS.aloadN X0.here hx rfl (hb hby d1_2) rfl rfl k))) ?_
  obtain ⟨_, _, ⟨T1, L1, k1, n1⟩, -, X1, ⟨Lc1, hQ1, l1, y1, z1⟩, st1⟩ := X0.specialBack hx (y := (⟨"com/example/keys_to_structures/keystostructures/store/Entry", "<init>", "([BLjava/lang/Object;)V"⟩ : MethodName)) rfl hown (mvT hZ (hw _ (List.mem_of_getElem? (i := 7) rfl))) (mvT hZ (hw _ (List.mem_of_getElem? (i := 8) rfl))) (mvT hZ (hw _ (List.mem_of_getElem? (i := 11) rfl))) (by decide) (backOf (W := 0) (rmEIni l Z aV hw [] a0 a1 kb h0 n0 Zn g_a0 E_a0 F_d F_p F_key F_val F_hash V_a1 ne_a0__a1) hZ (hw _ (List.mem_of_getElem? (i := 11) rfl)) (hw _ (List.mem_of_getElem? (i := 10) rfl)) (by decide) (by decide)) (g := (mkF m 3 #[.val (.ref a0), .val (.ref a1), .val .null, .val (.long dl), .second] [.null, (.ref a1), (.ref a0)])) rfl (by rw [hml]; rfl) (Steps.refl _) (a := a0) (argsL := [(.ref a1), .null]) (rest := []) (lenOf pd_1 rfl) rfl (by show 2 * 0 + _ ≤ _; exact Nat.le_of_eq rfl) (hb hby d1_3) (fun _ _ => ⟨rfl, e0, (by decide : 0 + 0 ≤ _), (by decide : 0 + 0 ≤ _)⟩)
  dsimp only [Pt.U, Pt.locs, Pt.cells, Pt.slots] at X1 l1 y1 z1 st1 hQ1
  subst l1 y1 z1
  obtain ⟨rfl, N1q, K1, q1_0, q1_1, q1_2, q1_3, q1_4, q1_5⟩ := hQ1
  have V_a1 := V_a1.keep K1 (ninS (Ne.symm ne_a0__a1) nin0)
  have E_a0 := q1_0
  have F_d := q1_1
  have F_p := q1_2
  have F_key := q1_3
  have F_val := q1_4
  have F_hash := q1_5
  have Kp := Kp.trans K1 (allS (Or.inl (by simp)) all0)
  have Zn := Nat.le_trans Zn K1.1
  have N1 := Fr.app N0 N1q
  refine Run.st (S' := T1.setTop (mkF m 8 #[.val (.ref a0), .val (.ref a1), .val .null, .val (.long dl), .second] [(.long dl), (.ref a0)])) (fun _ k => st1.trans (XS.aloadN X1.here hx rfl (hb hby d1_6) rfl rfl (XS.lloadN X1.here hx rfl (hb hby d1_7) rfl k))) ?_
  obtain ⟨T2, h2, X2, e2, W2, st2⟩ := putF X1 hx hZ hown (host := "") (Or.inl (hw _ (List.mem_of_getElem? (i := 28) rfl))) Via.refl rfl F_d E_a0 (Or.inl (hw _ (List.mem_of_getElem? (i := 29) rfl))) (hw _ (List.mem_of_getElem? (i := 1) rfl)) (ty := .long) (by decide) rfl rfl (g := (mkF m 8 #[.val (.ref a0), .val (.ref a1), .val .null, .val (.long dl), .second] [(.long dl), (.ref a0)])) rfl rfl (hb hby d1_8)
  have F_d := F_d.same W2
  have E_a0 := E_a0.wr W2
  have F_p := F_p.other W2 (Or.inr (slot_ne (Or.inl (hw _ (List.mem_of_getElem? (i := 63) rfl))) (Or.inl (hw _ (List.mem_of_getElem? (i := 29) rfl))) (by decide) (t := .int) (t' := .long) (by decide) (by decide)))
  have F_key := F_key.other W2 (Or.inr (slot_ne (Or.inr (hw _ (List.mem_of_getElem? (i := 16) rfl))) (Or.inl (hw _ (List.mem_of_getElem? (i := 29) rfl))) (by decide) (t := (.array .byte)) (t' := .long) (by decide) (by decide)))
  have F_val := F_val.other W2 (Or.inr (slot_ne (Or.inl (hw _ (List.mem_of_getElem? (i := 18) rfl))) (Or.inl (hw _ (List.mem_of_getElem? (i := 29) rfl))) (by decide) (t := (.object "java/lang/Object")) (t' := .long) (by decide) (by decide)))
  have F_hash := F_hash.other W2 (Or.inr (slot_ne (Or.inr (hw _ (List.mem_of_getElem? (i := 27) rfl))) (Or.inl (hw _ (List.mem_of_getElem? (i := 29) rfl))) (by decide) (t := .int) (t' := .long) (by decide) (by decide)))
  have V_a1 := V_a1.other W2 (Ne.symm ne_a0__a1)
  have N2 := Fr.snoc X2 N1 g_a0
  have Kp := Kp.wr W2 (Or.inl (by simp))
  have Zn := Nat.le_trans Zn (Nat.le_of_eq W2.size.symm)
  refine Run.st (S' := T2.setTop (mkF m 11 #[.val (.ref a0), .val (.ref a1), .val .null, .val (.long dl), .second] [])) (fun _ k => st2 _ k) ?_
  refine Run.outV X2 hx Bd.notSynchronized Bd.returns (hb hby d1_11) (by decide) (by decide) ?_
  rw [e2]
  exact ⟨rfl, N2, Kp, E_a0, F_d, F_p, F_key, F_val, F_hash⟩
theorem d11_0 : decode prog_51_method_2_code 0 = .ok (.aload_n 0, 1) := by decide +kernel
theorem d11_1 : decode prog_51_method_2_code 1 = .ok (.getfield 7, 3) := by decide +kernel
theorem d11_4 : decode prog_51_method_2_code 4 = .ok (.lreturn, 1) := by decide +kernel
theorem ef_Dl (m : MethodId) (a0 : Addr) : entryFrame m #[(.ref a0)] 1 = mkF m 0 #[.val (.ref a0)] [] := by first | (simp [entryFrame, mkF, argsToLocals, Value.category]; done) | rfl
def QDl (Z : State) (a0 : Addr) (dl : Int64) (h0 : Heap) (n0 : Nat) (v : Option Value) (h : Heap) (L : List Loc) : Prop := v = some (.long dl) ∧ Fr n0 L ∧ h = h0
set_option maxRecDepth 65536 in
set_option maxHeartbeats 40000000 in
theorem rmDl (l : Launch) (Z : State) (aV : Array Value) (hw : ∀ d ∈ tables_1, d.before aV Z = true) (ws : List Jvm.Cond) (a0 : Addr) (dl : Int64) (h0 : Heap) (n0 : Nat) (Zn : n0 ≤ h0.size) (F_d : Fld Z h0 a0 "com/example/keys_to_structures/keystostructures/store/TimedEntry" "deadline" "J" (.long dl)) :
    MetFree l (⟨"com/example/keys_to_structures/keystostructures/store/TimedEntry", "deadline", "()J"⟩ : MethodName) (head1 (Jvm.Cond.code (⟨"com/example/keys_to_structures/keystostructures/store/TimedEntry", "deadline", "()J"⟩ : MethodName) prog_51_method_2_code 1 (some .long) :: ws) ({ frames := 0, cells := 0, slots := 0, locals := 0 } : Room)) (fun a U => a = #[(.ref a0)] ∧ Z.Warmed39 U.vm ∧ U.heap = h0) (fun _ _ _ _ _ => True) (fun _ U o U' => ∃ v L, o = .returned v ∧ QDl Z a0 dl h0 n0 v U'.heap L ∧ FrameEnd U o U' L ({ frames := 0, cells := 0, slots := 0, locals := 0 } : Room).cells ({ frames := 0, cells := 0, slots := 0, locals := 0 } : Room).slots) := by
  refine MetFree.of_bodySF (plainFor_of_name pn_2) hisR ?_
  intro p e s m args below meth c s₁ Bd hml0 hP hK
  obtain ⟨rfl, hZ, hh⟩ := hP
  have hx := Bd.exec
  have hby := Bd.bytes
  have hml : c.maxLocals = 1 := hml0
  have hown : s.vm.findClass "com/example/keys_to_structures/keystostructures/store/TimedEntry" = some m.cls := findClass_of_methodNamed Bd.named
  have hnm := (name_of_methodNamed Bd.named Bd.method).1
  have X0 : Stand p l e ({ frames := 0, cells := 0, slots := 0, locals := 0 } : Room) s m #[(.ref a0)] below meth c s₁ [] 0 0 := Stand.of_body Bd
  have e0 : s₁.heap = h0 := by rw [← hh, Bd.state]; rfl
  have N0 := Fr.nil n0
  have Kp := Keep.refl h0 []
  show Run p e below (Ends s (QDl Z a0 dl h0 n0) ({ frames := 0, cells := 0, slots := 0, locals := 0 } : Room).cells ({ frames := 0, cells := 0, slots := 0, locals := 0 } : Room).slots) _
  refine Run.st (S' := s₁.setTop (mkF m 0 #[.val (.ref a0)] [])) (fun t k => castTop (ef_Dl m a0) k) ?_
  refine Run.st (S' := s₁.setTop (mkF m 1 #[.val (.ref a0)] [(.ref a0)])) (fun _ k => XS.aloadN X0.here hx rfl (hb hby d11_0) rfl rfl k) ?_
  obtain ⟨T1, X1, e1, st1⟩ := getF X0 hx hZ hown (host := "") (Or.inl (hw _ (List.mem_of_getElem? (i := 28) rfl))) Via.refl e0 F_d (g := (mkF m 1 #[.val (.ref a0)] [(.ref a0)])) rfl rfl (hb hby d11_1)
  refine Run.st (S' := T1.setTop (mkF m 4 #[.val (.ref a0)] [(.long dl)])) (fun _ k => st1 _ k) ?_
  refine Run.out X1 hx Bd.notSynchronized Bd.returns rfl (Or.inr (Or.inl ⟨rfl, rfl, _, rfl⟩)) (hb hby d11_4) (by decide) (by decide) ?_
  rw [e1]
  exact ⟨rfl, N0, rfl⟩
theorem d15_0 : decode prog_51_method_4_code 0 = .ok (.aload_n 0, 1) := by decide +kernel
theorem d15_1 : decode prog_51_method_4_code 1 = .ok (.getfield 13, 3) := by decide +kernel
theorem d15_4 : decode prog_51_method_4_code 4 = .ok (.ireturn, 1) := by decide +kernel
theorem ef_Po (m : MethodId) (a0 : Addr) : entryFrame m #[(.ref a0)] 1 = mkF m 0 #[.val (.ref a0)] [] := by first | (simp [entryFrame, mkF, argsToLocals, Value.category]; done) | rfl
def QPo (Z : State) (a0 : Addr) (po : Int32) (h0 : Heap) (n0 : Nat) (v : Option Value) (h : Heap) (L : List Loc) : Prop := v = some (.int po) ∧ Fr n0 L ∧ h = h0
set_option maxRecDepth 65536 in
set_option maxHeartbeats 40000000 in
theorem rmPo (l : Launch) (Z : State) (aV : Array Value) (hw : ∀ d ∈ tables_1, d.before aV Z = true) (ws : List Jvm.Cond) (a0 : Addr) (po : Int32) (h0 : Heap) (n0 : Nat) (Zn : n0 ≤ h0.size) (F_p : Fld Z h0 a0 "com/example/keys_to_structures/keystostructures/store/TimedEntry" "position" "I" (.int po)) :
    MetFree l (⟨"com/example/keys_to_structures/keystostructures/store/TimedEntry", "position", "()I"⟩ : MethodName) (head1 (Jvm.Cond.code (⟨"com/example/keys_to_structures/keystostructures/store/TimedEntry", "position", "()I"⟩ : MethodName) prog_51_method_4_code 1 (some .int) :: ws) ({ frames := 0, cells := 0, slots := 0, locals := 0 } : Room)) (fun a U => a = #[(.ref a0)] ∧ Z.Warmed39 U.vm ∧ U.heap = h0) (fun _ _ _ _ _ => True) (fun _ U o U' => ∃ v L, o = .returned v ∧ QPo Z a0 po h0 n0 v U'.heap L ∧ FrameEnd U o U' L ({ frames := 0, cells := 0, slots := 0, locals := 0 } : Room).cells ({ frames := 0, cells := 0, slots := 0, locals := 0 } : Room).slots) := by
  refine MetFree.of_bodySF (plainFor_of_name pn_2) hisR ?_
  intro p e s m args below meth c s₁ Bd hml0 hP hK
  obtain ⟨rfl, hZ, hh⟩ := hP
  have hx := Bd.exec
  have hby := Bd.bytes
  have hml : c.maxLocals = 1 := hml0
  have hown : s.vm.findClass "com/example/keys_to_structures/keystostructures/store/TimedEntry" = some m.cls := findClass_of_methodNamed Bd.named
  have hnm := (name_of_methodNamed Bd.named Bd.method).1
  have X0 : Stand p l e ({ frames := 0, cells := 0, slots := 0, locals := 0 } : Room) s m #[(.ref a0)] below meth c s₁ [] 0 0 := Stand.of_body Bd
  have e0 : s₁.heap = h0 := by rw [← hh, Bd.state]; rfl
  have N0 := Fr.nil n0
  have Kp := Keep.refl h0 []
  show Run p e below (Ends s (QPo Z a0 po h0 n0) ({ frames := 0, cells := 0, slots := 0, locals := 0 } : Room).cells ({ frames := 0, cells := 0, slots := 0, locals := 0 } : Room).slots) _
  refine Run.st (S' := s₁.setTop (mkF m 0 #[.val (.ref a0)] [])) (fun t k => castTop (ef_Po m a0) k) ?_
  refine Run.st (S' := s₁.setTop (mkF m 1 #[.val (.ref a0)] [(.ref a0)])) (fun _ k => XS.aloadN X0.here hx rfl (hb hby d15_0) rfl rfl k) ?_
  obtain ⟨T1, X1, e1, st1⟩ := getF X0 hx hZ hown (host := "") (Or.inl (hw _ (List.mem_of_getElem? (i := 62) rfl))) Via.refl e0 F_p (g := (mkF m 1 #[.val (.ref a0)] [(.ref a0)])) rfl rfl (hb hby d15_1)
  refine Run.st (S' := T1.setTop (mkF m 4 #[.val (.ref a0)] [(.int po)])) (fun _ k => st1 _ k) ?_
  refine Run.out X1 hx Bd.notSynchronized Bd.returns rfl (Or.inl ⟨rfl, by simp, _, rfl⟩) (hb hby d15_4) (by decide) (by decide) ?_
  rw [e1]
  exact ⟨rfl, N0, rfl⟩
theorem d10_0 : decode prog_51_method_5_code 0 = .ok (.aload_n 0, 1) := by decide +kernel
theorem d10_1 : decode prog_51_method_5_code 1 = .ok (.iload_n 1, 1) := by decide +kernel
theorem d10_2 : decode prog_51_method_5_code 2 = .ok (.putfield 13, 3) := by decide +kernel
theorem d10_5 : decode prog_51_method_5_code 5 = .ok (.return_, 1) := by decide +kernel
theorem ef_SPo (m : MethodId) (a0 : Addr) (p1 : Int32) : entryFrame m #[(.ref a0), (.int p1)] 2 = mkF m 0 #[.val (.ref a0), .val (.int p1)] [] := by first | (simp [entryFrame, mkF, argsToLocals, Value.category]; done) | rfl
def QSPo (Z : State) (a0 : Addr) (p1 : Int32) (po : Int32) (dl : Int64) (h0 : Heap) (n0 : Nat) (v : Option Value) (h : Heap) (L : List Loc) : Prop := v = none ∧ Fr n0 L ∧ Keep h0 h [a0] ∧ Exa Z h a0 "com/example/keys_to_structures/keystostructures/store/TimedEntry" ∧ Fld Z h a0 "com/example/keys_to_structures/keystostructures/store/TimedEntry" "deadline" "J" (.long dl) ∧ Fld Z h a0 "com/example/keys_to_structures/keystostructures/store/TimedEntry" "position" "I" (.int p1)
set_option maxRecDepth 65536 in
set_option maxHeartbeats 40000000 in
theorem rmSPo (l : Launch) (Z : State) (aV : Array Value) (hw : ∀ d ∈ tables_1, d.before aV Z = true) (ws : List Jvm.Cond) (a0 : Addr) (p1 : Int32) (po : Int32) (dl : Int64) (h0 : Heap) (n0 : Nat) (Zn : n0 ≤ h0.size) (g_a0 : n0 ≤ a0) (E_a0 : Exa Z h0 a0 "com/example/keys_to_structures/keystostructures/store/TimedEntry") (F_d : Fld Z h0 a0 "com/example/keys_to_structures/keystostructures/store/TimedEntry" "deadline" "J" (.long dl)) (F_p : Fld Z h0 a0 "com/example/keys_to_structures/keystostructures/store/TimedEntry" "position" "I" (.int po)) :
    MetFree l (⟨"com/example/keys_to_structures/keystostructures/store/TimedEntry", "setPosition", "(I)V"⟩ : MethodName) (head1 (Jvm.Cond.code (⟨"com/example/keys_to_structures/keystostructures/store/TimedEntry", "setPosition", "(I)V"⟩ : MethodName) prog_51_method_5_code 2 none :: ws) ({ frames := 0, cells := 0, slots := 0, locals := 0 } : Room)) (fun a U => a = #[(.ref a0), (.int p1)] ∧ Z.Warmed39 U.vm ∧ U.heap = h0) (fun _ _ _ _ _ => True) (fun _ U o U' => ∃ v L, o = .returned v ∧ QSPo Z a0 p1 po dl h0 n0 v U'.heap L ∧ FrameEnd U o U' L ({ frames := 0, cells := 0, slots := 0, locals := 0 } : Room).cells ({ frames := 0, cells := 0, slots := 0, locals := 0 } : Room).slots) := by
  refine MetFree.of_bodySF (plainFor_of_name pn_2) hisR ?_
  intro p e s m args below meth c s₁ Bd hml0 hP hK
  obtain ⟨rfl, hZ, hh⟩ := hP
  have hx := Bd.exec
  have hby := Bd.bytes
  have hml : c.maxLocals = 2 := hml0
  have hown : s.vm.findClass "com/example/keys_to_structures/keystostructures/store/TimedEntry" = some m.cls := findClass_of_methodNamed Bd.named
  have hnm := (name_of_methodNamed Bd.named Bd.method).1
  have X0 : Stand p l e ({ frames := 0, cells := 0, slots := 0, locals := 0 } : Room) s m #[(.ref a0), (.int p1)] below meth c s₁ [] 0 0 := Stand.of_body Bd
  have e0 : s₁.heap = h0 := by rw [← hh, Bd.state]; rfl
  have N0 := Fr.nil n0
  have Kp := Keep.refl h0 [a0]
  show Run p e below (Ends s (QSPo Z a0 p1 po dl h0 n0) ({ frames := 0, cells := 0, slots := 0, locals := 0 } : Room).cells ({ frames := 0, cells := 0, slots := 0, locals := 0 } : Room).slots) _
  refine Run.st (S' := s₁.setTop (mkF m 0 #[.val (.ref a0), .val (.int p1)] [])) (fun t k => castTop (ef_SPo m a0 p1) k) ?_
  refine Run.st (S' := s₁.setTop (mkF m 2 #[.val (.ref a0), .val (.int p1)] [(.int p1), (.ref a0)])) (fun _ k => XS.aloadN X0.here hx rfl (hb hby d10_0) rfl rfl (XS.iloadN X0.here hx rfl (hb hby d10_1) rfl k)) ?_
  obtain ⟨T1, h1, X1, e1, W1, st1⟩ := putF X0 hx hZ hown (host := "") (Or.inl (hw _ (List.mem_of_getElem? (i := 62) rfl))) Via.refl e0 F_p E_a0 (Or.inl (hw _ (List.mem_of_getElem? (i := 63) rfl))) (hw _ (List.mem_of_getElem? (i := 1) rfl)) (ty := .int) (by decide) rfl rfl (g := (mkF m 2 #[.val (.ref a0), .val (.int p1)] [(.int p1), (.ref a0)])) rfl rfl (hb hby d10_2)
  have F_p := F_p.same W1
  have E_a0 := E_a0.wr W1
  have F_d := F_d.other W1 (Or.inr (slot_ne (Or.inl (hw _ (List.mem_of_getElem? (i := 29) rfl))) (Or.inl (hw _ (List.mem_of_getElem? (i := 63) rfl))) (by decide) (t := .long) (t' := .int) (by decide) (by decide)))
  have N1 := Fr.snoc X1 N0 g_a0
  have Kp := Kp.wr W1 (Or.inl (by simp))
  have Zn := Nat.le_trans Zn (Nat.le_of_eq W1.size.symm)
  refine Run.st (S' := T1.setTop (mkF m 5 #[.val (.ref a0), .val (.int p1)] [])) (fun _ k => st1 _ k) ?_
  refine Run.outV X1 hx Bd.notSynchronized Bd.returns (hb hby d10_5) (by decide) (by decide) ?_
  rw [e1]
  exact ⟨rfl, N1, Kp, E_a0, F_d, F_p⟩
def own_m0 (h0 : Int32) (d0 : Int64) : Int64 := if h0 = (0 : Int32) then (9223372036854775807 : Int64) else (if d0 < (9223372036854775807 : Int64) then d0 else (9223372036854775807 : Int64))
def own_m1 (h1 : Int32) (d1 m : Int64) : Int64 := if h1 = (0 : Int32) then m else (if d1 < m then d1 else m)
def own_isFm (g e0 e1 e2 : Addr) (h0 h1 h2 : Int32) (d0 d1 d2 m : Int64) : Int32 := if ¬ h0 = (0 : Int32) ∧ g = e0 ∧ d0 = m then (1 : Int32) else if ¬ h1 = (0 : Int32) ∧ g = e1 ∧ d1 = m then (1 : Int32) else if ¬ h2 = (0 : Int32) ∧ g = e2 ∧ d2 = m then (1 : Int32) else (0 : Int32)
def own_isF (g e0 e1 e2 : Addr) (h0 h1 h2 : Int32) (d0 d1 d2 : Int64) : Int32 := own_isFm g e0 e1 e2 h0 h1 h2 d0 d1 d2 (own_m1 h2 d2 (own_m1 h1 d1 (own_m0 h0 d0)))
theorem d13_0 : decode method_3_code 0 = .ok (.iload 4, 2) := by decide +kernel
theorem d13_2 : decode method_3_code 2 = .ok (.ifCond .ne 23, 3) := by decide +kernel
theorem d13_5 : decode method_3_code 5 = .ok (.iload 5, 2) := by decide +kernel
theorem d13_7 : decode method_3_code 7 = .ok (.ifCond .ne 18, 3) := by decide +kernel
theorem d13_10 : decode method_3_code 10 = .ok (.iload 6, 2) := by decide +kernel
theorem d13_12 : decode method_3_code 12 = .ok (.ifCond .ne 13, 3) := by decide +kernel
theorem d13_25 : decode method_3_code 25 = .ok (.ldc2_w 35, 3) := by decide +kernel
theorem d13_28 : decode method_3_code 28 = .ok (.lstore 13, 2) := by decide +kernel
theorem d13_30 : decode method_3_code 30 = .ok (.iload 4, 2) := by decide +kernel
theorem d13_32 : decode method_3_code 32 = .ok (.ifCond .eq 15, 3) := by decide +kernel
theorem d13_35 : decode method_3_code 35 = .ok (.lload 7, 2) := by decide +kernel
theorem d13_37 : decode method_3_code 37 = .ok (.lload 13, 2) := by decide +kernel
theorem d13_39 : decode method_3_code 39 = .ok (.lcmp, 1) := by decide +kernel
theorem d13_40 : decode method_3_code 40 = .ok (.ifCond .ge 7, 3) := by decide +kernel
theorem d13_43 : decode method_3_code 43 = .ok (.lload 7, 2) := by decide +kernel
theorem d13_45 : decode method_3_code 45 = .ok (.lstore 13, 2) := by decide +kernel
theorem d13_47 : decode method_3_code 47 = .ok (.iload 5, 2) := by decide +kernel
theorem d13_49 : decode method_3_code 49 = .ok (.ifCond .eq 15, 3) := by decide +kernel
theorem d13_52 : decode method_3_code 52 = .ok (.lload 9, 2) := by decide +kernel
theorem d13_54 : decode method_3_code 54 = .ok (.lload 13, 2) := by decide +kernel
theorem d13_56 : decode method_3_code 56 = .ok (.lcmp, 1) := by decide +kernel
theorem d13_57 : decode method_3_code 57 = .ok (.ifCond .ge 7, 3) := by decide +kernel
theorem d13_60 : decode method_3_code 60 = .ok (.lload 9, 2) := by decide +kernel
theorem d13_62 : decode method_3_code 62 = .ok (.lstore 13, 2) := by decide +kernel
theorem d13_64 : decode method_3_code 64 = .ok (.iload 6, 2) := by decide +kernel
theorem d13_66 : decode method_3_code 66 = .ok (.ifCond .eq 15, 3) := by decide +kernel
theorem d13_69 : decode method_3_code 69 = .ok (.lload 11, 2) := by decide +kernel
theorem d13_71 : decode method_3_code 71 = .ok (.lload 13, 2) := by decide +kernel
theorem d13_73 : decode method_3_code 73 = .ok (.lcmp, 1) := by decide +kernel
theorem d13_74 : decode method_3_code 74 = .ok (.ifCond .ge 7, 3) := by decide +kernel
theorem d13_77 : decode method_3_code 77 = .ok (.lload 11, 2) := by decide +kernel
theorem d13_79 : decode method_3_code 79 = .ok (.lstore 13, 2) := by decide +kernel
theorem d13_81 : decode method_3_code 81 = .ok (.iload 4, 2) := by decide +kernel
theorem d13_83 : decode method_3_code 83 = .ok (.ifCond .eq 16, 3) := by decide +kernel
theorem d13_86 : decode method_3_code 86 = .ok (.aload_n 0, 1) := by decide +kernel
theorem d13_87 : decode method_3_code 87 = .ok (.aload_n 1, 1) := by decide +kernel
theorem d13_88 : decode method_3_code 88 = .ok (.if_acmp .ne 11, 3) := by decide +kernel
theorem d13_91 : decode method_3_code 91 = .ok (.lload 7, 2) := by decide +kernel
theorem d13_93 : decode method_3_code 93 = .ok (.lload 13, 2) := by decide +kernel
theorem d13_95 : decode method_3_code 95 = .ok (.lcmp, 1) := by decide +kernel
theorem d13_96 : decode method_3_code 96 = .ok (.ifCond .eq 39, 3) := by decide +kernel
theorem d13_99 : decode method_3_code 99 = .ok (.iload 5, 2) := by decide +kernel
theorem d13_101 : decode method_3_code 101 = .ok (.ifCond .eq 16, 3) := by decide +kernel
theorem d13_104 : decode method_3_code 104 = .ok (.aload_n 0, 1) := by decide +kernel
theorem d13_105 : decode method_3_code 105 = .ok (.aload_n 2, 1) := by decide +kernel
theorem d13_106 : decode method_3_code 106 = .ok (.if_acmp .ne 11, 3) := by decide +kernel
theorem d13_109 : decode method_3_code 109 = .ok (.lload 9, 2) := by decide +kernel
theorem d13_111 : decode method_3_code 111 = .ok (.lload 13, 2) := by decide +kernel
theorem d13_113 : decode method_3_code 113 = .ok (.lcmp, 1) := by decide +kernel
theorem d13_114 : decode method_3_code 114 = .ok (.ifCond .eq 21, 3) := by decide +kernel
theorem d13_117 : decode method_3_code 117 = .ok (.iload 6, 2) := by decide +kernel
theorem d13_119 : decode method_3_code 119 = .ok (.ifCond .eq 20, 3) := by decide +kernel
theorem d13_122 : decode method_3_code 122 = .ok (.aload_n 0, 1) := by decide +kernel
theorem d13_123 : decode method_3_code 123 = .ok (.aload_n 3, 1) := by decide +kernel
theorem d13_124 : decode method_3_code 124 = .ok (.if_acmp .ne 15, 3) := by decide +kernel
theorem d13_127 : decode method_3_code 127 = .ok (.lload 11, 2) := by decide +kernel
theorem d13_129 : decode method_3_code 129 = .ok (.lload 13, 2) := by decide +kernel
theorem d13_131 : decode method_3_code 131 = .ok (.lcmp, 1) := by decide +kernel
theorem d13_132 : decode method_3_code 132 = .ok (.ifCond .ne 7, 3) := by decide +kernel
theorem d13_135 : decode method_3_code 135 = .ok (.iconst 1, 1) := by decide +kernel
theorem d13_136 : decode method_3_code 136 = .ok (.goto 4, 3) := by decide +kernel
theorem d13_139 : decode method_3_code 139 = .ok (.iconst 0, 1) := by decide +kernel
theorem d13_140 : decode method_3_code 140 = .ok (.ireturn, 1) := by decide +kernel
theorem pn_3 : plainName "com/example/keys_to_structures/keystostructures/store/ExpiryQueueFirstPinLaw" = true := by first | (simp [plainName, overriddenIn]; done) | decide +kernel
theorem ef_IsF (m : MethodId) (g : Addr) (o0 : Addr) (o1 : Addr) (o2 : Addr) (f0 : Int32) (f1 : Int32) (f2 : Int32) (d0 : Int64) (d1 : Int64) (d2 : Int64) : entryFrame m #[(.ref g), (.ref o0), (.ref o1), (.ref o2), (.int f0), (.int f1), (.int f2), (.long d0), (.long d1), (.long d2)] 15 = mkF m 0 #[.val (.ref g), .val (.ref o0), .val (.ref o1), .val (.ref o2), .val (.int f0), .val (.int f1), .val (.int f2), .val (.long d0), .second, .val (.long d1), .second, .val (.long d2), .second, .unset, .unset] [] := by first | (simp [entryFrame, mkF, argsToLocals, Value.category]; done) | rfl
def QIsF (Z : State) (g : Addr) (o0 : Addr) (o1 : Addr) (o2 : Addr) (f0 : Int32) (f1 : Int32) (f2 : Int32) (d0 : Int64) (d1 : Int64) (d2 : Int64) (h0 : Heap) (n0 : Nat) (v : Option Value) (h : Heap) (L : List Loc) : Prop := v = some (.int (own_isF g o0 o1 o2 f0 f1 f2 d0 d1 d2)) ∧ Fr n0 L ∧ h = h0
set_option maxRecDepth 65536 in
set_option maxHeartbeats 40000000 in
theorem rmIsF (l : Launch) (Z : State) (aV : Array Value) (hw : ∀ d ∈ tables_1, d.before aV Z = true) (ws : List Jvm.Cond) (g : Addr) (o0 : Addr) (o1 : Addr) (o2 : Addr) (f0 : Int32) (f1 : Int32) (f2 : Int32) (d0 : Int64) (d1 : Int64) (d2 : Int64) (h0 : Heap) (n0 : Nat) (Zn : n0 ≤ h0.size) (hany : ¬ (f0 = (0 : Int32) ∧ f1 = (0 : Int32) ∧ f2 = (0 : Int32))) :
    MetFree l (⟨"com/example/keys_to_structures/keystostructures/store/ExpiryQueueFirstPinLaw", "isFirst", "(Lcom/example/keys_to_structures/keystostructures/store/TimedEntry;Lcom/example/keys_to_structures/keystostructures/store/TimedEntry;Lcom/example/keys_to_structures/keystostructures/store/TimedEntry;Lcom/example/keys_to_structures/keystostructures/store/TimedEntry;ZZZJJJ)Z"⟩ : MethodName) (head1 (Jvm.Cond.code (⟨"com/example/keys_to_structures/keystostructures/store/ExpiryQueueFirstPinLaw", "isFirst", "(Lcom/example/keys_to_structures/keystostructures/store/TimedEntry;Lcom/example/keys_to_structures/keystostructures/store/TimedEntry;Lcom/example/keys_to_structures/keystostructures/store/TimedEntry;Lcom/example/keys_to_structures/keystostructures/store/TimedEntry;ZZZJJJ)Z"⟩ : MethodName) method_3_code 15 (some .boolean) :: ws) ({ frames := 0, cells := 0, slots := 0, locals := 0 } : Room)) (fun a U => a = #[(.ref g), (.ref o0), (.ref o1), (.ref o2), (.int f0), (.int f1), (.int f2), (.long d0), (.long d1), (.long d2)] ∧ Z.Warmed39 U.vm ∧ U.heap = h0) (fun _ _ _ _ _ => True) (fun _ U o U' => ∃ v L, o = .returned v ∧ QIsF Z g o0 o1 o2 f0 f1 f2 d0 d1 d2 h0 n0 v U'.heap L ∧ FrameEnd U o U' L ({ frames := 0, cells := 0, slots := 0, locals := 0 } : Room).cells ({ frames := 0, cells := 0, slots := 0, locals := 0 } : Room).slots) := by
  refine MetFree.of_bodySF (plainFor_of_name pn_3) hisR ?_
  intro p e s m args below meth c s₁ Bd hml0 hP hK
  obtain ⟨rfl, hZ, hh⟩ := hP
  have hx := Bd.exec
  have hby := Bd.bytes
  have hml : c.maxLocals = 15 := hml0
  have hown : s.vm.findClass "com/example/keys_to_structures/keystostructures/store/ExpiryQueueFirstPinLaw" = some m.cls := findClass_of_methodNamed Bd.named
  have hnm := (name_of_methodNamed Bd.named Bd.method).1
  have X0 : Stand p l e ({ frames := 0, cells := 0, slots := 0, locals := 0 } : Room) s m #[(.ref g), (.ref o0), (.ref o1), (.ref o2), (.int f0), (.int f1), (.int f2), (.long d0), (.long d1), (.long d2)] below meth c s₁ [] 0 0 := Stand.of_body Bd
  have e0 : s₁.heap = h0 := by rw [← hh, Bd.state]; rfl
  have N0 := Fr.nil n0
  have Kp := Keep.refl h0 []
  show Run p e below (Ends s (QIsF Z g o0 o1 o2 f0 f1 f2 d0 d1 d2 h0 n0) ({ frames := 0, cells := 0, slots := 0, locals := 0 } : Room).cells ({ frames := 0, cells := 0, slots := 0, locals := 0 } : Room).slots) _
  refine Run.st (S' := s₁.setTop (mkF m 0 #[.val (.ref g), .val (.ref o0), .val (.ref o1), .val (.ref o2), .val (.int f0), .val (.int f1), .val (.int f2), .val (.long d0), .second, .val (.long d1), .second, .val (.long d2), .second, .unset, .unset] [])) (fun t k => castTop (ef_IsF m g o0 o1 o2 f0 f1 f2 d0 d1 d2) k) ?_
  have J25_1 : True → Run p e below (Ends s (QIsF Z g o0 o1 o2 f0 f1 f2 d0 d1 d2 h0 n0) ({ frames := 0, cells := 0, slots := 0, locals := 0 } : Room).cells ({ frames := 0, cells := 0, slots := 0, locals := 0 } : Room).slots) (s₁.setTop (mkF m 25 #[.val (.ref g), .val (.ref o0), .val (.ref o1), .val (.ref o2), .val (.int f0), .val (.int f1), .val (.int f2), .val (.long d0), .second, .val (.long d1), .second, .val (.long d2), .second, .unset, .unset] [])) := by
    intro h_g0
    refine Run.st (S' := s₁.setTop (mkF m 30 #[.val (.ref g), .val (.ref o0), .val (.ref o1), .val (.ref o2), .val (.int f0), .val (.int f1), .val (.int f2), .val (.long d0), .second, .val (.long d1), .second, .val (.long d2), .second, .val (.long (9223372036854775807 : Int64)), .second] [])) (fun _ k => X0.ldc2Long hx hown (mvT hZ (hw _ (List.mem_of_getElem? (i := 78) rfl))) (g := (mkF m 25 #[.val (.ref g), .val (.ref o0), .val (.ref o1), .val (.ref o2), .val (.int f0), .val (.int f1), .val (.int f2), .val (.long d0), .second, .val (.long d1), .second, .val (.long d2), .second, .unset, .unset] [])) rfl (hb hby d13_25) _ (XS.lstore X0.here hx rfl (hb hby d13_28) rfl (l' := #[.val (.ref g), .val (.ref o0), .val (.ref o1), .val (.ref o2), .val (.int f0), .val (.int f1), .val (.int f2), .val (.long d0), .second, .val (.long d1), .second, .val (.long d2), .second, .val (.long (9223372036854775807 : Int64)), .second]) rfl k)) ?_
    have J47_2 : ∀ (m0 : Int64), m0 = own_m0 f0 d0 → Run p e below (Ends s (QIsF Z g o0 o1 o2 f0 f1 f2 d0 d1 d2 h0 n0) ({ frames := 0, cells := 0, slots := 0, locals := 0 } : Room).cells ({ frames := 0, cells := 0, slots := 0, locals := 0 } : Room).slots) (s₁.setTop (mkF m 47 #[.val (.ref g), .val (.ref o0), .val (.ref o1), .val (.ref o2), .val (.int f0), .val (.int f1), .val (.int f2), .val (.long d0), .second, .val (.long d1), .second, .val (.long d2), .second, .val (.long m0), .second] [])) := by
      intro m0 h_m0
      have J64_3 : ∀ (m1 : Int64), m1 = own_m1 f1 d1 m0 → Run p e below (Ends s (QIsF Z g o0 o1 o2 f0 f1 f2 d0 d1 d2 h0 n0) ({ frames := 0, cells := 0, slots := 0, locals := 0 } : Room).cells ({ frames := 0, cells := 0, slots := 0, locals := 0 } : Room).slots) (s₁.setTop (mkF m 64 #[.val (.ref g), .val (.ref o0), .val (.ref o1), .val (.ref o2), .val (.int f0), .val (.int f1), .val (.int f2), .val (.long d0), .second, .val (.long d1), .second, .val (.long d2), .second, .val (.long m1), .second] [])) := by
        intro m1 h_m1
        have J81_4 : ∀ (m2 : Int64), m2 = own_m1 f2 d2 m1 → Run p e below (Ends s (QIsF Z g o0 o1 o2 f0 f1 f2 d0 d1 d2 h0 n0) ({ frames := 0, cells := 0, slots := 0, locals := 0 } : Room).cells ({ frames := 0, cells := 0, slots := 0, locals := 0 } : Room).slots) (s₁.setTop (mkF m 81 #[.val (.ref g), .val (.ref o0), .val (.ref o1), .val (.ref o2), .val (.int f0), .val (.int f1), .val (.int f2), .val (.long d0), .second, .val (.long d1), .second, .val (.long d2), .second, .val (.long m2), .second] [])) := by
          intro m2 h_m2
          have J99_5 : ¬ (¬ f0 = (0 : Int32) ∧ g = o0 ∧ d0 = m2) → Run p e below (Ends s (QIsF Z g o0 o1 o2 f0 f1 f2 d0 d1 d2 h0 n0) ({ frames := 0, cells := 0, slots := 0, locals := 0 } : Room).cells ({ frames := 0, cells := 0, slots := 0, locals := 0 } : Room).slots) (s₁.setTop (mkF m 99 #[.val (.ref g), .val (.ref o0), .val (.ref o1), .val (.ref o2), .val (.int f0), .val (.int f1), .val (.int f2), .val (.long d0), .second, .val (.long d1), .second, .val (.long d2), .second, .val (.long m2), .second] [])) := by
            intro h_n0
            have J117_6 : ¬ (¬ f1 = (0 : Int32) ∧ g = o1 ∧ d1 = m2) → Run p e below (Ends s (QIsF Z g o0 o1 o2 f0 f1 f2 d0 d1 d2 h0 n0) ({ frames := 0, cells := 0, slots := 0, locals := 0 } : Room).cells ({ frames := 0, cells := 0, slots := 0, locals := 0 } : Room).slots) (s₁.setTop (mkF m 117 #[.val (.ref g), .val (.ref o0), .val (.ref o1), .val (.ref o2), .val (.int f0), .val (.int f1), .val (.int f2), .val (.long d0), .second, .val (.long d1), .second, .val (.long d2), .second, .val (.long m2), .second] [])) := by
              intro h_n1
              refine Run.st (S' := s₁.setTop (mkF m 119 #[.val (.ref g), .val (.ref o0), .val (.ref o1), .val (.ref o2), .val (.int f0), .val (.int f1), .val (.int f2), .val (.long d0), .second, .val (.long d1), .second, .val (.long d2), .second, .val (.long m2), .second] [(.int f2)])) (fun _ k => XS.iload X0.here hx rfl (hb hby d13_117) rfl k) ?_
              by_cases hc119_7 : f2 = (0 : Int32)
              · refine Run.st (S' := s₁.setTop (mkF m 140 #[.val (.ref g), .val (.ref o0), .val (.ref o1), .val (.ref o2), .val (.int f0), .val (.int f1), .val (.int f2), .val (.long d0), .second, .val (.long d1), .second, .val (.long d2), .second, .val (.long m2), .second] [(.int (0 : Int32))])) (fun _ k => XS.ifYes X0.here hx rfl (pc0 := 119) (pc' := 139) rfl (hb hby d13_119) rfl ((if0 _ _).trans (teq hc119_7).1) (by decide) (by decide) (XS.iconst X0.here hx rfl (hb hby d13_139) k)) ?_
                refine Run.out X0 hx Bd.notSynchronized Bd.returns rfl (Or.inl ⟨rfl, by simp, _, rfl⟩) (hb hby d13_140) (by decide) (by decide) ?_
                rw [e0]
                exact ⟨by unfold own_isF; rw [← h_m0, ← h_m1, ← h_m2]; unfold own_isFm; rw [if_neg h_n0, if_neg h_n1, if_neg (fun q => q.1 hc119_7)], N0, rfl⟩
              · refine Run.st (S' := s₁.setTop (mkF m 124 #[.val (.ref g), .val (.ref o0), .val (.ref o1), .val (.ref o2), .val (.int f0), .val (.int f1), .val (.int f2), .val (.long d0), .second, .val (.long d1), .second, .val (.long d2), .second, .val (.long m2), .second] [(.ref o2), (.ref g)])) (fun _ k => XS.ifNo X0.here hx rfl (hb hby d13_119) rfl ((if0 _ _).trans (feq hc119_7).1) (XS.aloadN X0.here hx rfl (hb hby d13_122) rfl rfl (XS.aloadN X0.here hx rfl (hb hby d13_123) rfl rfl k))) ?_
                by_cases ha124_8 : g = o2
                · refine Run.st (S' := s₁.setTop (mkF m 132 #[.val (.ref g), .val (.ref o0), .val (.ref o1), .val (.ref o2), .val (.int f0), .val (.int f1), .val (.int f2), .val (.long d0), .second, .val (.long d1), .second, .val (.long d2), .second, .val (.long m2), .second] [(.int (lcmpW d2 m2))])) (fun _ k => Jvm.RoadKit.acmp (g := (mkF m 124 #[.val (.ref g), .val (.ref o0), .val (.ref o1), .val (.ref o2), .val (.int f0), .val (.int f1), .val (.int f2), .val (.long d0), .second, .val (.long d1), .second, .val (.long d2), .second, .val (.long m2), .second] [(.ref o2), (.ref g)])) X0 hx rfl rfl rfl (pc0 := 124) (pc' := 127) (same := true) rfl (hb hby d13_124) rfl (decide_eq_true (congrArg Value.ref ha124_8)) (by decide) (by decide) (XS.lload X0.here hx rfl (hb hby d13_127) rfl (XS.lload X0.here hx rfl (hb hby d13_129) rfl (XS.lcmp X0.here hx rfl (hb hby d13_131) rfl k)))) ?_
                  by_cases hc132_9 : d2 = m2
                  · refine Run.st (S' := s₁.setTop (mkF m 140 #[.val (.ref g), .val (.ref o0), .val (.ref o1), .val (.ref o2), .val (.int f0), .val (.int f1), .val (.int f2), .val (.long d0), .second, .val (.long d1), .second, .val (.long d2), .second, .val (.long m2), .second] [(.int (1 : Int32))])) (fun _ k => XS.ifNo X0.here hx rfl (hb hby d13_132) rfl (lcYes (Jvm.Free.XT.ll_ne_f hc132_9)) (XS.iconst X0.here hx rfl (hb hby d13_135) (XS.goto X0.here hx rfl (pc0 := 136) (pc' := 140) rfl (hb hby d13_136) (by decide) (by decide) k))) ?_
                    refine Run.out X0 hx Bd.notSynchronized Bd.returns rfl (Or.inl ⟨rfl, by simp, _, rfl⟩) (hb hby d13_140) (by decide) (by decide) ?_
                    rw [e0]
                    exact ⟨by unfold own_isF; rw [← h_m0, ← h_m1, ← h_m2]; unfold own_isFm; rw [if_neg h_n0, if_neg h_n1, if_pos ⟨hc119_7, ha124_8, hc132_9⟩], N0, rfl⟩
                  · refine Run.st (S' := s₁.setTop (mkF m 140 #[.val (.ref g), .val (.ref o0), .val (.ref o1), .val (.ref o2), .val (.int f0), .val (.int f1), .val (.int f2), .val (.long d0), .second, .val (.long d1), .second, .val (.long d2), .second, .val (.long m2), .second] [(.int (0 : Int32))])) (fun _ k => XS.ifYes X0.here hx rfl (pc0 := 132) (pc' := 139) rfl (hb hby d13_132) rfl (lcYes (Jvm.Free.XT.ll_ne_t hc132_9)) (by decide) (by decide) (XS.iconst X0.here hx rfl (hb hby d13_139) k)) ?_
                    refine Run.out X0 hx Bd.notSynchronized Bd.returns rfl (Or.inl ⟨rfl, by simp, _, rfl⟩) (hb hby d13_140) (by decide) (by decide) ?_
                    rw [e0]
                    exact ⟨by unfold own_isF; rw [← h_m0, ← h_m1, ← h_m2]; unfold own_isFm; rw [if_neg h_n0, if_neg h_n1, if_neg (fun q => hc132_9 q.2.2)], N0, rfl⟩
                · refine Run.st (S' := s₁.setTop (mkF m 140 #[.val (.ref g), .val (.ref o0), .val (.ref o1), .val (.ref o2), .val (.int f0), .val (.int f1), .val (.int f2), .val (.long d0), .second, .val (.long d1), .second, .val (.long d2), .second, .val (.long m2), .second] [(.int (0 : Int32))])) (fun _ k => Jvm.RoadKit.acmp (g := (mkF m 124 #[.val (.ref g), .val (.ref o0), .val (.ref o1), .val (.ref o2), .val (.int f0), .val (.int f1), .val (.int f2), .val (.long d0), .second, .val (.long d1), .second, .val (.long d2), .second, .val (.long m2), .second] [(.ref o2), (.ref g)])) X0 hx rfl rfl rfl (pc0 := 124) (pc' := 139) (same := false) rfl (hb hby d13_124) rfl (decide_eq_false fun q => ha124_8 (Value.ref.inj q)) (by decide) (by decide) (XS.iconst X0.here hx rfl (hb hby d13_139) k)) ?_
                  refine Run.out X0 hx Bd.notSynchronized Bd.returns rfl (Or.inl ⟨rfl, by simp, _, rfl⟩) (hb hby d13_140) (by decide) (by decide) ?_
                  rw [e0]
                  exact ⟨by unfold own_isF; rw [← h_m0, ← h_m1, ← h_m2]; unfold own_isFm; rw [if_neg h_n0, if_neg h_n1, if_neg (fun q => ha124_8 q.2.1)], N0, rfl⟩
            refine Run.st (S' := s₁.setTop (mkF m 101 #[.val (.ref g), .val (.ref o0), .val (.ref o1), .val (.ref o2), .val (.int f0), .val (.int f1), .val (.int f2), .val (.long d0), .second, .val (.long d1), .second, .val (.long d2), .second, .val (.long m2), .second] [(.int f1)])) (fun _ k => XS.iload X0.here hx rfl (hb hby d13_99) rfl k) ?_
            by_cases hc101_10 : f1 = (0 : Int32)
            · refine Run.st (S' := s₁.setTop (mkF m 117 #[.val (.ref g), .val (.ref o0), .val (.ref o1), .val (.ref o2), .val (.int f0), .val (.int f1), .val (.int f2), .val (.long d0), .second, .val (.long d1), .second, .val (.long d2), .second, .val (.long m2), .second] [])) (fun _ k => XS.ifYes X0.here hx rfl (pc0 := 101) (pc' := 117) rfl (hb hby d13_101) rfl ((if0 _ _).trans (teq hc101_10).1) (by decide) (by decide) k) ?_
              exact J117_6 (fun q => q.1 hc101_10)
            · refine Run.st (S' := s₁.setTop (mkF m 106 #[.val (.ref g), .val (.ref o0), .val (.ref o1), .val (.ref o2), .val (.int f0), .val (.int f1), .val (.int f2), .val (.long d0), .second, .val (.long d1), .second, .val (.long d2), .second, .val (.long m2), .second] [(.ref o1), (.ref g)])) (fun _ k => XS.ifNo X0.here hx rfl (hb hby d13_101) rfl ((if0 _ _).trans (feq hc101_10).1) (XS.aloadN X0.here hx rfl (hb hby d13_104) rfl rfl (XS.aloadN X0.here hx rfl (hb hby d13_105) rfl rfl k))) ?_
              by_cases ha106_11 : g = o1
              · refine Run.st (S' := s₁.setTop (mkF m 114 #[.val (.ref g), .val (.ref o0), .val (.ref o1), .val (.ref o2), .val (.int f0), .val (.int f1), .val (.int f2), .val (.long d0), .second, .val (.long d1), .second, .val (.long d2), .second, .val (.long m2), .second] [(.int (lcmpW d1 m2))])) (fun _ k => Jvm.RoadKit.acmp (g := (mkF m 106 #[.val (.ref g), .val (.ref o0), .val (.ref o1), .val (.ref o2), .val (.int f0), .val (.int f1), .val (.int f2), .val (.long d0), .second, .val (.long d1), .second, .val (.long d2), .second, .val (.long m2), .second] [(.ref o1), (.ref g)])) X0 hx rfl rfl rfl (pc0 := 106) (pc' := 109) (same := true) rfl (hb hby d13_106) rfl (decide_eq_true (congrArg Value.ref ha106_11)) (by decide) (by decide) (XS.lload X0.here hx rfl (hb hby d13_109) rfl (XS.lload X0.here hx rfl (hb hby d13_111) rfl (XS.lcmp X0.here hx rfl (hb hby d13_113) rfl k)))) ?_
                by_cases hc114_12 : d1 = m2
                · refine Run.st (S' := s₁.setTop (mkF m 140 #[.val (.ref g), .val (.ref o0), .val (.ref o1), .val (.ref o2), .val (.int f0), .val (.int f1), .val (.int f2), .val (.long d0), .second, .val (.long d1), .second, .val (.long d2), .second, .val (.long m2), .second] [(.int (1 : Int32))])) (fun _ k => XS.ifYes X0.here hx rfl (pc0 := 114) (pc' := 135) rfl (hb hby d13_114) rfl (lcYes (Jvm.Free.XT.ll_eq_t hc114_12)) (by decide) (by decide) (XS.iconst X0.here hx rfl (hb hby d13_135) (XS.goto X0.here hx rfl (pc0 := 136) (pc' := 140) rfl (hb hby d13_136) (by decide) (by decide) k))) ?_
                  refine Run.out X0 hx Bd.notSynchronized Bd.returns rfl (Or.inl ⟨rfl, by simp, _, rfl⟩) (hb hby d13_140) (by decide) (by decide) ?_
                  rw [e0]
                  exact ⟨by unfold own_isF; rw [← h_m0, ← h_m1, ← h_m2]; unfold own_isFm; rw [if_neg h_n0, if_pos ⟨hc101_10, ha106_11, hc114_12⟩], N0, rfl⟩
                · refine Run.st (S' := s₁.setTop (mkF m 117 #[.val (.ref g), .val (.ref o0), .val (.ref o1), .val (.ref o2), .val (.int f0), .val (.int f1), .val (.int f2), .val (.long d0), .second, .val (.long d1), .second, .val (.long d2), .second, .val (.long m2), .second] [])) (fun _ k => XS.ifNo X0.here hx rfl (hb hby d13_114) rfl (lcYes (Jvm.Free.XT.ll_eq_f hc114_12)) k) ?_
                  exact J117_6 (fun q => hc114_12 q.2.2)
              · refine Run.st (S' := s₁.setTop (mkF m 117 #[.val (.ref g), .val (.ref o0), .val (.ref o1), .val (.ref o2), .val (.int f0), .val (.int f1), .val (.int f2), .val (.long d0), .second, .val (.long d1), .second, .val (.long d2), .second, .val (.long m2), .second] [])) (fun _ k => Jvm.RoadKit.acmp (g := (mkF m 106 #[.val (.ref g), .val (.ref o0), .val (.ref o1), .val (.ref o2), .val (.int f0), .val (.int f1), .val (.int f2), .val (.long d0), .second, .val (.long d1), .second, .val (.long d2), .second, .val (.long m2), .second] [(.ref o1), (.ref g)])) X0 hx rfl rfl rfl (pc0 := 106) (pc' := 117) (same := false) rfl (hb hby d13_106) rfl (decide_eq_false fun q => ha106_11 (Value.ref.inj q)) (by decide) (by decide) k) ?_
                exact J117_6 (fun q => ha106_11 q.2.1)
          refine Run.st (S' := s₁.setTop (mkF m 83 #[.val (.ref g), .val (.ref o0), .val (.ref o1), .val (.ref o2), .val (.int f0), .val (.int f1), .val (.int f2), .val (.long d0), .second, .val (.long d1), .second, .val (.long d2), .second, .val (.long m2), .second] [(.int f0)])) (fun _ k => XS.iload X0.here hx rfl (hb hby d13_81) rfl k) ?_
          by_cases hc83_13 : f0 = (0 : Int32)
          · refine Run.st (S' := s₁.setTop (mkF m 99 #[.val (.ref g), .val (.ref o0), .val (.ref o1), .val (.ref o2), .val (.int f0), .val (.int f1), .val (.int f2), .val (.long d0), .second, .val (.long d1), .second, .val (.long d2), .second, .val (.long m2), .second] [])) (fun _ k => XS.ifYes X0.here hx rfl (pc0 := 83) (pc' := 99) rfl (hb hby d13_83) rfl ((if0 _ _).trans (teq hc83_13).1) (by decide) (by decide) k) ?_
            exact J99_5 (fun q => q.1 hc83_13)
          · refine Run.st (S' := s₁.setTop (mkF m 88 #[.val (.ref g), .val (.ref o0), .val (.ref o1), .val (.ref o2), .val (.int f0), .val (.int f1), .val (.int f2), .val (.long d0), .second, .val (.long d1), .second, .val (.long d2), .second, .val (.long m2), .second] [(.ref o0), (.ref g)])) (fun _ k => XS.ifNo X0.here hx rfl (hb hby d13_83) rfl ((if0 _ _).trans (feq hc83_13).1) (XS.aloadN X0.here hx rfl (hb hby d13_86) rfl rfl (XS.aloadN X0.here hx rfl (hb hby d13_87) rfl rfl k))) ?_
            by_cases ha88_14 : g = o0
            · refine Run.st (S' := s₁.setTop (mkF m 96 #[.val (.ref g), .val (.ref o0), .val (.ref o1), .val (.ref o2), .val (.int f0), .val (.int f1), .val (.int f2), .val (.long d0), .second, .val (.long d1), .second, .val (.long d2), .second, .val (.long m2), .second] [(.int (lcmpW d0 m2))])) (fun _ k => Jvm.RoadKit.acmp (g := (mkF m 88 #[.val (.ref g), .val (.ref o0), .val (.ref o1), .val (.ref o2), .val (.int f0), .val (.int f1), .val (.int f2), .val (.long d0), .second, .val (.long d1), .second, .val (.long d2), .second, .val (.long m2), .second] [(.ref o0), (.ref g)])) X0 hx rfl rfl rfl (pc0 := 88) (pc' := 91) (same := true) rfl (hb hby d13_88) rfl (decide_eq_true (congrArg Value.ref ha88_14)) (by decide) (by decide) (XS.lload X0.here hx rfl (hb hby d13_91) rfl (XS.lload X0.here hx rfl (hb hby d13_93) rfl (XS.lcmp X0.here hx rfl (hb hby d13_95) rfl k)))) ?_
              by_cases hc96_15 : d0 = m2
              · refine Run.st (S' := s₁.setTop (mkF m 140 #[.val (.ref g), .val (.ref o0), .val (.ref o1), .val (.ref o2), .val (.int f0), .val (.int f1), .val (.int f2), .val (.long d0), .second, .val (.long d1), .second, .val (.long d2), .second, .val (.long m2), .second] [(.int (1 : Int32))])) (fun _ k => XS.ifYes X0.here hx rfl (pc0 := 96) (pc' := 135) rfl (hb hby d13_96) rfl (lcYes (Jvm.Free.XT.ll_eq_t hc96_15)) (by decide) (by decide) (XS.iconst X0.here hx rfl (hb hby d13_135) (XS.goto X0.here hx rfl (pc0 := 136) (pc' := 140) rfl (hb hby d13_136) (by decide) (by decide) k))) ?_
                refine Run.out X0 hx Bd.notSynchronized Bd.returns rfl (Or.inl ⟨rfl, by simp, _, rfl⟩) (hb hby d13_140) (by decide) (by decide) ?_
                rw [e0]
                exact ⟨by unfold own_isF; rw [← h_m0, ← h_m1, ← h_m2]; unfold own_isFm; rw [if_pos ⟨hc83_13, ha88_14, hc96_15⟩], N0, rfl⟩
              · refine Run.st (S' := s₁.setTop (mkF m 99 #[.val (.ref g), .val (.ref o0), .val (.ref o1), .val (.ref o2), .val (.int f0), .val (.int f1), .val (.int f2), .val (.long d0), .second, .val (.long d1), .second, .val (.long d2), .second, .val (.long m2), .second] [])) (fun _ k => XS.ifNo X0.here hx rfl (hb hby d13_96) rfl (lcYes (Jvm.Free.XT.ll_eq_f hc96_15)) k) ?_
                exact J99_5 (fun q => hc96_15 q.2.2)
            · refine Run.st (S' := s₁.setTop (mkF m 99 #[.val (.ref g), .val (.ref o0), .val (.ref o1), .val (.ref o2), .val (.int f0), .val (.int f1), .val (.int f2), .val (.long d0), .second, .val (.long d1), .second, .val (.long d2), .second, .val (.long m2), .second] [])) (fun _ k => Jvm.RoadKit.acmp (g := (mkF m 88 #[.val (.ref g), .val (.ref o0), .val (.ref o1), .val (.ref o2), .val (.int f0), .val (.int f1), .val (.int f2), .val (.long d0), .second, .val (.long d1), .second, .val (.long d2), .second, .val (.long m2), .second] [(.ref o0), (.ref g)])) X0 hx rfl rfl rfl (pc0 := 88) (pc' := 99) (same := false) rfl (hb hby d13_88) rfl (decide_eq_false fun q => ha88_14 (Value.ref.inj q)) (by decide) (by decide) k) ?_
              exact J99_5 (fun q => ha88_14 q.2.1)
        refine Run.st (S' := s₁.setTop (mkF m 66 #[.val (.ref g), .val (.ref o0), .val (.ref o1), .val (.ref o2), .val (.int f0), .val (.int f1), .val (.int f2), .val (.long d0), .second, .val (.long d1), .second, .val (.long d2), .second, .val (.long m1), .second] [(.int f2)])) (fun _ k => XS.iload X0.here hx rfl (hb hby d13_64) rfl k) ?_
        by_cases hc66_16 : f2 = (0 : Int32)
        · refine Run.st (S' := s₁.setTop (mkF m 81 #[.val (.ref g), .val (.ref o0), .val (.ref o1), .val (.ref o2), .val (.int f0), .val (.int f1), .val (.int f2), .val (.long d0), .second, .val (.long d1), .second, .val (.long d2), .second, .val (.long m1), .second] [])) (fun _ k => XS.ifYes X0.here hx rfl (pc0 := 66) (pc' := 81) rfl (hb hby d13_66) rfl ((if0 _ _).trans (teq hc66_16).1) (by decide) (by decide) k) ?_
          exact J81_4 m1 (by unfold own_m1; rw [if_pos hc66_16])
        · refine Run.st (S' := s₁.setTop (mkF m 74 #[.val (.ref g), .val (.ref o0), .val (.ref o1), .val (.ref o2), .val (.int f0), .val (.int f1), .val (.int f2), .val (.long d0), .second, .val (.long d1), .second, .val (.long d2), .second, .val (.long m1), .second] [(.int (lcmpW d2 m1))])) (fun _ k => XS.ifNo X0.here hx rfl (hb hby d13_66) rfl ((if0 _ _).trans (feq hc66_16).1) (XS.lload X0.here hx rfl (hb hby d13_69) rfl (XS.lload X0.here hx rfl (hb hby d13_71) rfl (XS.lcmp X0.here hx rfl (hb hby d13_73) rfl k)))) ?_
          by_cases hc74_17 : d2 < m1
          · refine Run.st (S' := s₁.setTop (mkF m 81 #[.val (.ref g), .val (.ref o0), .val (.ref o1), .val (.ref o2), .val (.int f0), .val (.int f1), .val (.int f2), .val (.long d0), .second, .val (.long d1), .second, .val (.long d2), .second, .val (.long d2), .second] [])) (fun _ k => XS.ifNo X0.here hx rfl (hb hby d13_74) rfl (lcYes (Jvm.Free.XT.ll_ge_f hc74_17)) (XS.lload X0.here hx rfl (hb hby d13_77) rfl (XS.lstore X0.here hx rfl (hb hby d13_79) rfl (l' := #[.val (.ref g), .val (.ref o0), .val (.ref o1), .val (.ref o2), .val (.int f0), .val (.int f1), .val (.int f2), .val (.long d0), .second, .val (.long d1), .second, .val (.long d2), .second, .val (.long d2), .second]) rfl k))) ?_
            exact J81_4 d2 (by unfold own_m1; rw [if_neg hc66_16, if_pos hc74_17])
          · refine Run.st (S' := s₁.setTop (mkF m 81 #[.val (.ref g), .val (.ref o0), .val (.ref o1), .val (.ref o2), .val (.int f0), .val (.int f1), .val (.int f2), .val (.long d0), .second, .val (.long d1), .second, .val (.long d2), .second, .val (.long m1), .second] [])) (fun _ k => XS.ifYes X0.here hx rfl (pc0 := 74) (pc' := 81) rfl (hb hby d13_74) rfl (lcYes (Jvm.Free.XT.ll_ge_t hc74_17)) (by decide) (by decide) k) ?_
            exact J81_4 m1 (by unfold own_m1; rw [if_neg hc66_16, if_neg hc74_17])
      refine Run.st (S' := s₁.setTop (mkF m 49 #[.val (.ref g), .val (.ref o0), .val (.ref o1), .val (.ref o2), .val (.int f0), .val (.int f1), .val (.int f2), .val (.long d0), .second, .val (.long d1), .second, .val (.long d2), .second, .val (.long m0), .second] [(.int f1)])) (fun _ k => XS.iload X0.here hx rfl (hb hby d13_47) rfl k) ?_
      by_cases hc49_18 : f1 = (0 : Int32)
      · refine Run.st (S' := s₁.setTop (mkF m 64 #[.val (.ref g), .val (.ref o0), .val (.ref o1), .val (.ref o2), .val (.int f0), .val (.int f1), .val (.int f2), .val (.long d0), .second, .val (.long d1), .second, .val (.long d2), .second, .val (.long m0), .second] [])) (fun _ k => XS.ifYes X0.here hx rfl (pc0 := 49) (pc' := 64) rfl (hb hby d13_49) rfl ((if0 _ _).trans (teq hc49_18).1) (by decide) (by decide) k) ?_
        exact J64_3 m0 (by unfold own_m1; rw [if_pos hc49_18])
      · refine Run.st (S' := s₁.setTop (mkF m 57 #[.val (.ref g), .val (.ref o0), .val (.ref o1), .val (.ref o2), .val (.int f0), .val (.int f1), .val (.int f2), .val (.long d0), .second, .val (.long d1), .second, .val (.long d2), .second, .val (.long m0), .second] [(.int (lcmpW d1 m0))])) (fun _ k => XS.ifNo X0.here hx rfl (hb hby d13_49) rfl ((if0 _ _).trans (feq hc49_18).1) (XS.lload X0.here hx rfl (hb hby d13_52) rfl (XS.lload X0.here hx rfl (hb hby d13_54) rfl (XS.lcmp X0.here hx rfl (hb hby d13_56) rfl k)))) ?_
        by_cases hc57_19 : d1 < m0
        · refine Run.st (S' := s₁.setTop (mkF m 64 #[.val (.ref g), .val (.ref o0), .val (.ref o1), .val (.ref o2), .val (.int f0), .val (.int f1), .val (.int f2), .val (.long d0), .second, .val (.long d1), .second, .val (.long d2), .second, .val (.long d1), .second] [])) (fun _ k => XS.ifNo X0.here hx rfl (hb hby d13_57) rfl (lcYes (Jvm.Free.XT.ll_ge_f hc57_19)) (XS.lload X0.here hx rfl (hb hby d13_60) rfl (XS.lstore X0.here hx rfl (hb hby d13_62) rfl (l' := #[.val (.ref g), .val (.ref o0), .val (.ref o1), .val (.ref o2), .val (.int f0), .val (.int f1), .val (.int f2), .val (.long d0), .second, .val (.long d1), .second, .val (.long d2), .second, .val (.long d1), .second]) rfl k))) ?_
          exact J64_3 d1 (by unfold own_m1; rw [if_neg hc49_18, if_pos hc57_19])
        · refine Run.st (S' := s₁.setTop (mkF m 64 #[.val (.ref g), .val (.ref o0), .val (.ref o1), .val (.ref o2), .val (.int f0), .val (.int f1), .val (.int f2), .val (.long d0), .second, .val (.long d1), .second, .val (.long d2), .second, .val (.long m0), .second] [])) (fun _ k => XS.ifYes X0.here hx rfl (pc0 := 57) (pc' := 64) rfl (hb hby d13_57) rfl (lcYes (Jvm.Free.XT.ll_ge_t hc57_19)) (by decide) (by decide) k) ?_
          exact J64_3 m0 (by unfold own_m1; rw [if_neg hc49_18, if_neg hc57_19])
    refine Run.st (S' := s₁.setTop (mkF m 32 #[.val (.ref g), .val (.ref o0), .val (.ref o1), .val (.ref o2), .val (.int f0), .val (.int f1), .val (.int f2), .val (.long d0), .second, .val (.long d1), .second, .val (.long d2), .second, .val (.long (9223372036854775807 : Int64)), .second] [(.int f0)])) (fun _ k => XS.iload X0.here hx rfl (hb hby d13_30) rfl k) ?_
    by_cases hc32_20 : f0 = (0 : Int32)
    · refine Run.st (S' := s₁.setTop (mkF m 47 #[.val (.ref g), .val (.ref o0), .val (.ref o1), .val (.ref o2), .val (.int f0), .val (.int f1), .val (.int f2), .val (.long d0), .second, .val (.long d1), .second, .val (.long d2), .second, .val (.long (9223372036854775807 : Int64)), .second] [])) (fun _ k => XS.ifYes X0.here hx rfl (pc0 := 32) (pc' := 47) rfl (hb hby d13_32) rfl ((if0 _ _).trans (teq hc32_20).1) (by decide) (by decide) k) ?_
      exact J47_2 (9223372036854775807 : Int64) (by unfold own_m0; rw [if_pos hc32_20])
    · refine Run.st (S' := s₁.setTop (mkF m 40 #[.val (.ref g), .val (.ref o0), .val (.ref o1), .val (.ref o2), .val (.int f0), .val (.int f1), .val (.int f2), .val (.long d0), .second, .val (.long d1), .second, .val (.long d2), .second, .val (.long (9223372036854775807 : Int64)), .second] [(.int (lcmpW d0 (9223372036854775807 : Int64)))])) (fun _ k => XS.ifNo X0.here hx rfl (hb hby d13_32) rfl ((if0 _ _).trans (feq hc32_20).1) (XS.lload X0.here hx rfl (hb hby d13_35) rfl (XS.lload X0.here hx rfl (hb hby d13_37) rfl (XS.lcmp X0.here hx rfl (hb hby d13_39) rfl k)))) ?_
      by_cases hc40_21 : d0 < (9223372036854775807 : Int64)
      · refine Run.st (S' := s₁.setTop (mkF m 47 #[.val (.ref g), .val (.ref o0), .val (.ref o1), .val (.ref o2), .val (.int f0), .val (.int f1), .val (.int f2), .val (.long d0), .second, .val (.long d1), .second, .val (.long d2), .second, .val (.long d0), .second] [])) (fun _ k => XS.ifNo X0.here hx rfl (hb hby d13_40) rfl (lcYes (Jvm.Free.XT.ll_ge_f hc40_21)) (XS.lload X0.here hx rfl (hb hby d13_43) rfl (XS.lstore X0.here hx rfl (hb hby d13_45) rfl (l' := #[.val (.ref g), .val (.ref o0), .val (.ref o1), .val (.ref o2), .val (.int f0), .val (.int f1), .val (.int f2), .val (.long d0), .second, .val (.long d1), .second, .val (.long d2), .second, .val (.long d0), .second]) rfl k))) ?_
        exact J47_2 d0 (by unfold own_m0; rw [if_neg hc32_20, if_pos hc40_21])
      · refine Run.st (S' := s₁.setTop (mkF m 47 #[.val (.ref g), .val (.ref o0), .val (.ref o1), .val (.ref o2), .val (.int f0), .val (.int f1), .val (.int f2), .val (.long d0), .second, .val (.long d1), .second, .val (.long d2), .second, .val (.long (9223372036854775807 : Int64)), .second] [])) (fun _ k => XS.ifYes X0.here hx rfl (pc0 := 40) (pc' := 47) rfl (hb hby d13_40) rfl (lcYes (Jvm.Free.XT.ll_ge_t hc40_21)) (by decide) (by decide) k) ?_
        exact J47_2 (9223372036854775807 : Int64) (by unfold own_m0; rw [if_neg hc32_20, if_neg hc40_21])
  refine Run.st (S' := s₁.setTop (mkF m 2 #[.val (.ref g), .val (.ref o0), .val (.ref o1), .val (.ref o2), .val (.int f0), .val (.int f1), .val (.int f2), .val (.long d0), .second, .val (.long d1), .second, .val (.long d2), .second, .unset, .unset] [(.int f0)])) (fun _ k => XS.iload X0.here hx rfl (hb hby d13_0) rfl k) ?_
  by_cases hc2_22 : f0 = (0 : Int32)
  · refine Run.st (S' := s₁.setTop (mkF m 7 #[.val (.ref g), .val (.ref o0), .val (.ref o1), .val (.ref o2), .val (.int f0), .val (.int f1), .val (.int f2), .val (.long d0), .second, .val (.long d1), .second, .val (.long d2), .second, .unset, .unset] [(.int f1)])) (fun _ k => XS.ifNo X0.here hx rfl (hb hby d13_2) rfl ((if0 _ _).trans (teq hc2_22).2) (XS.iload X0.here hx rfl (hb hby d13_5) rfl k)) ?_
    by_cases hc7_23 : f1 = (0 : Int32)
    · refine Run.st (S' := s₁.setTop (mkF m 25 #[.val (.ref g), .val (.ref o0), .val (.ref o1), .val (.ref o2), .val (.int f0), .val (.int f1), .val (.int f2), .val (.long d0), .second, .val (.long d1), .second, .val (.long d2), .second, .unset, .unset] [])) (fun _ k => XS.ifNo X0.here hx rfl (hb hby d13_7) rfl ((if0 _ _).trans (teq hc7_23).2) (XS.iload X0.here hx rfl (hb hby d13_10) rfl (XS.ifYes X0.here hx rfl (pc0 := 12) (pc' := 25) rfl (hb hby d13_12) rfl ((if0 _ _).trans (feq (show ¬ (f2 = (0 : Int32)) from (fun q => hany ⟨hc2_22, hc7_23, q⟩))).2) (by decide) (by decide) k))) ?_
      exact J25_1 trivial
    · refine Run.st (S' := s₁.setTop (mkF m 25 #[.val (.ref g), .val (.ref o0), .val (.ref o1), .val (.ref o2), .val (.int f0), .val (.int f1), .val (.int f2), .val (.long d0), .second, .val (.long d1), .second, .val (.long d2), .second, .unset, .unset] [])) (fun _ k => XS.ifYes X0.here hx rfl (pc0 := 7) (pc' := 25) rfl (hb hby d13_7) rfl ((if0 _ _).trans (feq hc7_23).2) (by decide) (by decide) k) ?_
      exact J25_1 trivial
  · refine Run.st (S' := s₁.setTop (mkF m 25 #[.val (.ref g), .val (.ref o0), .val (.ref o1), .val (.ref o2), .val (.int f0), .val (.int f1), .val (.int f2), .val (.long d0), .second, .val (.long d1), .second, .val (.long d2), .second, .unset, .unset] [])) (fun _ k => XS.ifYes X0.here hx rfl (pc0 := 2) (pc' := 25) rfl (hb hby d13_2) rfl ((if0 _ _).trans (feq hc2_22).2) (by decide) (by decide) k) ?_
    exact J25_1 trivial
theorem d13_15 : decode method_3_code 15 = .ok (.aload_n 0, 1) := by decide +kernel
theorem d13_16 : decode method_3_code 16 = .ok (.ifnonnull 7, 3) := by decide +kernel
theorem d13_19 : decode method_3_code 19 = .ok (.iconst 1, 1) := by decide +kernel
theorem d13_20 : decode method_3_code 20 = .ok (.goto 4, 3) := by decide +kernel
theorem d13_24 : decode method_3_code 24 = .ok (.ireturn, 1) := by decide +kernel
theorem ef_IsN (m : MethodId) (o0 : Addr) (o1 : Addr) (o2 : Addr) (d0 : Int64) (d1 : Int64) (d2 : Int64) : entryFrame m #[.null, (.ref o0), (.ref o1), (.ref o2), (.int (0 : Int32)), (.int (0 : Int32)), (.int (0 : Int32)), (.long d0), (.long d1), (.long d2)] 15 = mkF m 0 #[.val .null, .val (.ref o0), .val (.ref o1), .val (.ref o2), .val (.int (0 : Int32)), .val (.int (0 : Int32)), .val (.int (0 : Int32)), .val (.long d0), .second, .val (.long d1), .second, .val (.long d2), .second, .unset, .unset] [] := by first | (simp [entryFrame, mkF, argsToLocals, Value.category]; done) | rfl
def QIsN (Z : State) (o0 : Addr) (o1 : Addr) (o2 : Addr) (d0 : Int64) (d1 : Int64) (d2 : Int64) (h0 : Heap) (n0 : Nat) (v : Option Value) (h : Heap) (L : List Loc) : Prop := v = some (.int (1 : Int32)) ∧ Fr n0 L ∧ h = h0
set_option maxRecDepth 65536 in
set_option maxHeartbeats 40000000 in
theorem rmIsN (l : Launch) (Z : State) (aV : Array Value) (hw : ∀ d ∈ tables_1, d.before aV Z = true) (ws : List Jvm.Cond) (o0 : Addr) (o1 : Addr) (o2 : Addr) (d0 : Int64) (d1 : Int64) (d2 : Int64) (h0 : Heap) (n0 : Nat) (Zn : n0 ≤ h0.size) :
    MetFree l (⟨"com/example/keys_to_structures/keystostructures/store/ExpiryQueueFirstPinLaw", "isFirst", "(Lcom/example/keys_to_structures/keystostructures/store/TimedEntry;Lcom/example/keys_to_structures/keystostructures/store/TimedEntry;Lcom/example/keys_to_structures/keystostructures/store/TimedEntry;Lcom/example/keys_to_structures/keystostructures/store/TimedEntry;ZZZJJJ)Z"⟩ : MethodName) (head1 (Jvm.Cond.code (⟨"com/example/keys_to_structures/keystostructures/store/ExpiryQueueFirstPinLaw", "isFirst", "(Lcom/example/keys_to_structures/keystostructures/store/TimedEntry;Lcom/example/keys_to_structures/keystostructures/store/TimedEntry;Lcom/example/keys_to_structures/keystostructures/store/TimedEntry;Lcom/example/keys_to_structures/keystostructures/store/TimedEntry;ZZZJJJ)Z"⟩ : MethodName) method_3_code 15 (some .boolean) :: ws) ({ frames := 0, cells := 0, slots := 0, locals := 0 } : Room)) (fun a U => a = #[.null, (.ref o0), (.ref o1), (.ref o2), (.int (0 : Int32)), (.int (0 : Int32)), (.int (0 : Int32)), (.long d0), (.long d1), (.long d2)] ∧ Z.Warmed39 U.vm ∧ U.heap = h0) (fun _ _ _ _ _ => True) (fun _ U o U' => ∃ v L, o = .returned v ∧ QIsN Z o0 o1 o2 d0 d1 d2 h0 n0 v U'.heap L ∧ FrameEnd U o U' L ({ frames := 0, cells := 0, slots := 0, locals := 0 } : Room).cells ({ frames := 0, cells := 0, slots := 0, locals := 0 } : Room).slots) := by
  refine MetFree.of_bodySF (plainFor_of_name pn_3) hisR ?_
  intro p e s m args below meth c s₁ Bd hml0 hP hK
  obtain ⟨rfl, hZ, hh⟩ := hP
  have hx := Bd.exec
  have hby := Bd.bytes
  have hml : c.maxLocals = 15 := hml0
  have hown : s.vm.findClass "com/example/keys_to_structures/keystostructures/store/ExpiryQueueFirstPinLaw" = some m.cls := findClass_of_methodNamed Bd.named
  have hnm := (name_of_methodNamed Bd.named Bd.method).1
  have X0 : Stand p l e ({ frames := 0, cells := 0, slots := 0, locals := 0 } : Room) s m #[.null, (.ref o0), (.ref o1), (.ref o2), (.int (0 : Int32)), (.int (0 : Int32)), (.int (0 : Int32)), (.long d0), (.long d1), (.long d2)] below meth c s₁ [] 0 0 := Stand.of_body Bd
  have e0 : s₁.heap = h0 := by rw [← hh, Bd.state]; rfl
  have N0 := Fr.nil n0
  have Kp := Keep.refl h0 []
  show Run p e below (Ends s (QIsN Z o0 o1 o2 d0 d1 d2 h0 n0) ({ frames := 0, cells := 0, slots := 0, locals := 0 } : Room).cells ({ frames := 0, cells := 0, slots := 0, locals := 0 } : Room).slots) _
  refine Run.st (S' := s₁.setTop (mkF m 0 #[.val .null, .val (.ref o0), .val (.ref o1), .val (.ref o2), .val (.int (0 : Int32)), .val (.int (0 : Int32)), .val (.int (0 : Int32)), .val (.long d0), .second, .val (.long d1), .second, .val (.long d2), .second, .unset, .unset] [])) (fun t k => castTop (ef_IsN m o0 o1 o2 d0 d1 d2) k) ?_
  refine Run.st (S' := s₁.setTop (mkF m 19 #[.val .null, .val (.ref o0), .val (.ref o1), .val (.ref o2), .val (.int (0 : Int32)), .val (.int (0 : Int32)), .val (.int (0 : Int32)), .val (.long d0), .second, .val (.long d1), .second, .val (.long d2), .second, .unset, .unset] [])) (fun _ k => XS.iload X0.here hx rfl (hb hby d13_0) rfl (XS.ifNo X0.here hx rfl (hb hby d13_2) rfl ((if0 _ _).trans (teq (show (0 : Int32) = (0 : Int32) from (by decide))).2) (XS.iload X0.here hx rfl (hb hby d13_5) rfl (XS.ifNo X0.here hx rfl (hb hby d13_7) rfl ((if0 _ _).trans (teq (show (0 : Int32) = (0 : Int32) from (by decide))).2) (XS.iload X0.here hx rfl (hb hby d13_10) rfl (XS.ifNo X0.here hx rfl (hb hby d13_12) rfl ((if0 _ _).trans (teq (show (0 : Int32) = (0 : Int32) from (by decide))).2) (XS.aloadN X0.here hx rfl (hb hby d13_15) rfl rfl (XS.ifnonnullNo X0.here hx rfl (hb hby d13_16) rfl k)))))))) ?_
  refine Run.st (S' := s₁.setTop (mkF m 24 #[.val .null, .val (.ref o0), .val (.ref o1), .val (.ref o2), .val (.int (0 : Int32)), .val (.int (0 : Int32)), .val (.int (0 : Int32)), .val (.long d0), .second, .val (.long d1), .second, .val (.long d2), .second, .unset, .unset] [(.int (1 : Int32))])) (fun _ k => XS.iconst X0.here hx rfl (hb hby d13_19) (XS.goto X0.here hx rfl (pc0 := 20) (pc' := 24) rfl (hb hby d13_20) (by decide) (by decide) k)) ?_
  refine Run.out X0 hx Bd.notSynchronized Bd.returns rfl (Or.inl ⟨rfl, by simp, _, rfl⟩) (hb hby d13_24) (by decide) (by decide) ?_
  rw [e0]
  exact ⟨rfl, N0, rfl⟩
theorem pd_2 : parseMethodDescriptor "(I)V" = some ⟨[.int], none⟩ := by decide +kernel
theorem d9_0 : decode prog_43_method_9_code 0 = .ok (.aload_n 0, 1) := by decide +kernel
theorem d9_1 : decode prog_43_method_9_code 1 = .ok (.getfield 11, 3) := by decide +kernel
theorem d9_4 : decode prog_43_method_9_code 4 = .ok (.iload_n 2, 1) := by decide +kernel
theorem d9_5 : decode prog_43_method_9_code 5 = .ok (.aload_n 1, 1) := by decide +kernel
theorem d9_6 : decode prog_43_method_9_code 6 = .ok (.aastore, 1) := by decide +kernel
theorem d9_7 : decode prog_43_method_9_code 7 = .ok (.aload_n 1, 1) := by decide +kernel
theorem d9_8 : decode prog_43_method_9_code 8 = .ok (.iload_n 2, 1) := by decide +kernel
theorem d9_9 : decode prog_43_method_9_code 9 = .ok (.invokevirtual 41, 3) := by decide +kernel
theorem d9_12 : decode prog_43_method_9_code 12 = .ok (.return_, 1) := by decide +kernel
theorem pn_4 : plainName "com/example/keys_to_structures/keystostructures/store/ExpiryQueue" = true := by first | (simp [plainName, overriddenIn]; done) | decide +kernel
theorem ef_Pl0 (m : MethodId) (a0 : Addr) (a1 : Addr) : entryFrame m #[(.ref a0), (.ref a1), (.int (0 : Int32))] 3 = mkF m 0 #[.val (.ref a0), .val (.ref a1), .val (.int (0 : Int32))] [] := by first | (simp [entryFrame, mkF, argsToLocals, Value.category]; done) | rfl
def QPl0 (Z : State) (a0 : Addr) (a1 : Addr) (hp : Addr) (kA : ClassId) (v0 : Value) (v1 : Value) (v2 : Value) (po : Int32) (dl : Int64) (h0 : Heap) (n0 : Nat) (v : Option Value) (h : Heap) (L : List Loc) : Prop := v = none ∧ Fr n0 L ∧ Keep h0 h [hp, a1] ∧ Arv Z h hp kA (.object "com/example/keys_to_structures/keystostructures/store/TimedEntry") (16 : Int32) [(.ref a1), v1, v2, .null, .null, .null, .null, .null, .null, .null, .null, .null, .null, .null, .null, .null] .null ∧ Exa Z h a1 "com/example/keys_to_structures/keystostructures/store/TimedEntry" ∧ Fld Z h a1 "com/example/keys_to_structures/keystostructures/store/TimedEntry" "deadline" "J" (.long dl) ∧ Fld Z h a1 "com/example/keys_to_structures/keystostructures/store/TimedEntry" "position" "I" (.int (0 : Int32))
set_option maxRecDepth 65536 in
set_option maxHeartbeats 40000000 in
theorem rmPl0 (l : Launch) (Z : State) (aV : Array Value) (hw : ∀ d ∈ tables_1, d.before aV Z = true) (ws : List Jvm.Cond) (a0 : Addr) (a1 : Addr) (hp : Addr) (kA : ClassId) (v0 : Value) (v1 : Value) (v2 : Value) (po : Int32) (dl : Int64) (h0 : Heap) (n0 : Nat) (Zn : n0 ≤ h0.size) (g_hp : n0 ≤ hp) (g_a1 : n0 ≤ a1) (O_kA : Ovr Z kA "com/example/keys_to_structures/keystostructures/store/TimedEntry") (E_a0 : Exa Z h0 a0 "com/example/keys_to_structures/keystostructures/store/ExpiryQueue") (F_heap : Fld Z h0 a0 "com/example/keys_to_structures/keystostructures/store/ExpiryQueue" "heap" "[Lcom/example/keys_to_structures/keystostructures/store/TimedEntry;" (.ref hp)) (V_hp : Arv Z h0 hp kA (.object "com/example/keys_to_structures/keystostructures/store/TimedEntry") (16 : Int32) [v0, v1, v2, .null, .null, .null, .null, .null, .null, .null, .null, .null, .null, .null, .null, .null] .null) (E_a1 : Exa Z h0 a1 "com/example/keys_to_structures/keystostructures/store/TimedEntry") (F_d_a1 : Fld Z h0 a1 "com/example/keys_to_structures/keystostructures/store/TimedEntry" "deadline" "J" (.long dl)) (F_p_a1 : Fld Z h0 a1 "com/example/keys_to_structures/keystostructures/store/TimedEntry" "position" "I" (.int po)) (ne_a0__hp : a0 ≠ hp) (ne_a0__a1 : a0 ≠ a1) (ne_hp__a1 : hp ≠ a1) :
    MetFree l (⟨"com/example/keys_to_structures/keystostructures/store/ExpiryQueue", "place", "(Lcom/example/keys_to_structures/keystostructures/store/TimedEntry;I)V"⟩ : MethodName) (head1 (Jvm.Cond.code (⟨"com/example/keys_to_structures/keystostructures/store/ExpiryQueue", "place", "(Lcom/example/keys_to_structures/keystostructures/store/TimedEntry;I)V"⟩ : MethodName) prog_43_method_9_code 3 none :: ws) ({ frames := 1, cells := 0, slots := 0, locals := 13 } : Room)) (fun a U => a = #[(.ref a0), (.ref a1), (.int (0 : Int32))] ∧ Z.Warmed39 U.vm ∧ U.heap = h0) (fun _ _ _ _ _ => True) (fun _ U o U' => ∃ v L, o = .returned v ∧ QPl0 Z a0 a1 hp kA v0 v1 v2 po dl h0 n0 v U'.heap L ∧ FrameEnd U o U' L ({ frames := 1, cells := 0, slots := 0, locals := 13 } : Room).cells ({ frames := 1, cells := 0, slots := 0, locals := 13 } : Room).slots) := by
  refine MetFree.of_bodySF (plainFor_of_name pn_4) hisR ?_
  intro p e s m args below meth c s₁ Bd hml0 hP hK
  obtain ⟨rfl, hZ, hh⟩ := hP
  have hx := Bd.exec
  have hby := Bd.bytes
  have hml : c.maxLocals = 3 := hml0
  have hown : s.vm.findClass "com/example/keys_to_structures/keystostructures/store/ExpiryQueue" = some m.cls := findClass_of_methodNamed Bd.named
  have hnm := (name_of_methodNamed Bd.named Bd.method).1
  have X0 : Stand p l e ({ frames := 1, cells := 0, slots := 0, locals := 13 } : Room) s m #[(.ref a0), (.ref a1), (.int (0 : Int32))] below meth c s₁ [] 0 0 := Stand.of_body Bd
  have e0 : s₁.heap = h0 := by rw [← hh, Bd.state]; rfl
  have N0 := Fr.nil n0
  have Kp := Keep.refl h0 [hp, a1]
  show Run p e below (Ends s (QPl0 Z a0 a1 hp kA v0 v1 v2 po dl h0 n0) ({ frames := 1, cells := 0, slots := 0, locals := 13 } : Room).cells ({ frames := 1, cells := 0, slots := 0, locals := 13 } : Room).slots) _
  refine Run.st (S' := s₁.setTop (mkF m 0 #[.val (.ref a0), .val (.ref a1), .val (.int (0 : Int32))] [])) (fun t k => castTop (ef_Pl0 m a0 a1) k) ?_
  refine Run.st (S' := s₁.setTop (mkF m 1 #[.val (.ref a0), .val (.ref a1), .val (.int (0 : Int32))] [(.ref a0)])) (fun _ k => XS.aloadN X0.here hx rfl (hb hby d9_0) rfl rfl k) ?_
  obtain ⟨T1, X1, e1, st1⟩ := getF X0 hx hZ hown (host := "") (Or.inl (hw _ (List.mem_of_getElem? (i := 39) rfl))) Via.refl e0 F_heap (g := (mkF m 1 #[.val (.ref a0), .val (.ref a1), .val (.int (0 : Int32))] [(.ref a0)])) rfl rfl (hb hby d9_1)
  refine Run.st (S' := T1.setTop (mkF m 6 #[.val (.ref a0), .val (.ref a1), .val (.int (0 : Int32))] [(.ref a1), (.int (0 : Int32)), (.ref hp)])) (fun _ k => st1 _ (XS.iloadN X1.here hx rfl (hb hby d9_4) rfl (XS.aloadN X1.here hx rfl (hb hby d9_5) rfl rfl k))) ?_
  obtain ⟨cl2, Ar2, qa2, Sa2, Na2, Ha2, Ga2⟩ := V_hp
  have hin2 : ¬ ((0 : Int32) < 0 ∨ cl2.slots.size ≤ ((0 : Int32)).toNatClampNeg) := inb_of Sa2 ⟨by decide, by decide⟩
  obtain ⟨T2, h2, X2, e2, W2, st2⟩ := stR X1 hx hZ e1 Ar2 (j := (0 : Int32)) hin2 rfl (Sto.ofV Ar2 qa2 O_kA (Ins.self E_a1)) (g := (mkF m 6 #[.val (.ref a0), .val (.ref a1), .val (.int (0 : Int32))] [(.ref a1), (.int (0 : Int32)), (.ref hp)])) rfl rfl (hb hby d9_6)
  have V_hp := Arv.set Ar2 qa2 Sa2 Na2 Ha2 Ga2 rfl W2 0 rfl (Nat.le_of_ble_eq_true rfl)
  have V_hp : Arv Z h2 hp kA (.object "com/example/keys_to_structures/keystostructures/store/TimedEntry") (16 : Int32) [(.ref a1), v1, v2, .null, .null, .null, .null, .null, .null, .null, .null, .null, .null, .null, .null, .null] .null := V_hp
  have E_a0 := E_a0.wr W2
  have F_heap := F_heap.other W2 (Or.inl ne_a0__hp)
  have E_a1 := E_a1.wr W2
  have F_d_a1 := F_d_a1.other W2 (Or.inl (Ne.symm ne_hp__a1))
  have F_p_a1 := F_p_a1.other W2 (Or.inl (Ne.symm ne_hp__a1))
  have N2 := Fr.snoc X2 N0 g_hp
  have Kp := Kp.wr W2 (Or.inl (by simp))
  have Zn := Nat.le_trans Zn (Nat.le_of_eq W2.size.symm)
  refine Run.st (S' := T2.setTop (mkF m 9 #[.val (.ref a0), .val (.ref a1), .val (.int (0 : Int32))] [(.int (0 : Int32)), (.ref a1)])) (fun _ k => st2 _ (XS.aloadN X2.here hx rfl (hb hby d9_7) rfl rfl (XS.iloadN X2.here hx rfl (hb hby d9_8) rfl k))) ?_
  obtain ⟨cq3, kq3, q3a, q3b, q3c⟩ := isOf hZ e2 E_a1
  obtain ⟨_, _, ⟨T3, L3, k3, n3⟩, -, X3, ⟨Lc3, hQ3, l3, y3, z3⟩, st3⟩ := X2.virtualBack hx (y := (⟨"com/example/keys_to_structures/keystostructures/store/TimedEntry", "setPosition", "(I)V"⟩ : MethodName)) (z := (⟨"com/example/keys_to_structures/keystostructures/store/TimedEntry", "setPosition", "(I)V"⟩ : MethodName)) hown (mvT hZ (hw _ (List.mem_of_getElem? (i := 57) rfl))) (mvT hZ (hw _ (List.mem_of_getElem? (i := 58) rfl))) (notFace_of_selects (args := #[]) (mvT hZ (hw _ (List.mem_of_getElem? (i := 60) rfl)))) (mvT hZ (hw _ (List.mem_of_getElem? (i := 60) rfl))) (mvT hZ (hw _ (List.mem_of_getElem? (i := 59) rfl))) (by decide) (backOf (W := 0) (rmSPo l Z aV hw [] a1 (0 : Int32) po dl h2 n0 Zn g_a1 E_a1 F_d_a1 F_p_a1) hZ (hw _ (List.mem_of_getElem? (i := 61) rfl)) (hw _ (List.mem_of_getElem? (i := 2) rfl)) (by decide) (by decide)) q3a q3c (g := (mkF m 9 #[.val (.ref a0), .val (.ref a1), .val (.int (0 : Int32))] [(.int (0 : Int32)), (.ref a1)])) rfl (by rw [hml]; rfl) (Steps.refl _) (argsL := [(.int (0 : Int32))]) (rest := []) (lenOf pd_2 rfl) rfl (by show 2 * 0 + _ ≤ _; exact Nat.le_of_eq rfl) (hb hby d9_9) (fun _ _ => ⟨rfl, e2, (by decide : 0 + 0 ≤ _), (by decide : 0 + 0 ≤ _)⟩)
  dsimp only [Pt.U, Pt.locs, Pt.cells, Pt.slots] at X3 l3 y3 z3 st3 hQ3
  subst l3 y3 z3
  obtain ⟨rfl, N3q, K3, q3_0, q3_1, q3_2⟩ := hQ3
  have E_a0 := E_a0.keep K3
  have F_heap := F_heap.keep K3 (ninS ne_a0__a1 nin0)
  have V_hp := V_hp.keep K3 (ninS ne_hp__a1 nin0)
  have E_a1 := q3_0
  have F_d_a1 := q3_1
  have F_p_a1 := q3_2
  have Kp := Kp.trans K3 (allS (Or.inl (by simp)) all0)
  have Zn := Nat.le_trans Zn K3.1
  have N3 := Fr.app N2 N3q
  refine Run.st (S' := T3.setTop (mkF m 12 #[.val (.ref a0), .val (.ref a1), .val (.int (0 : Int32))] [])) (fun _ k => st3.trans k) ?_
  refine Run.outV X3 hx Bd.notSynchronized Bd.returns (hb hby d9_12) (by decide) (by decide) ?_
  exact ⟨rfl, N3, Kp, V_hp, E_a1, F_d_a1, F_p_a1⟩
theorem ef_Pl1 (m : MethodId) (a0 : Addr) (a1 : Addr) : entryFrame m #[(.ref a0), (.ref a1), (.int (1 : Int32))] 3 = mkF m 0 #[.val (.ref a0), .val (.ref a1), .val (.int (1 : Int32))] [] := by first | (simp [entryFrame, mkF, argsToLocals, Value.category]; done) | rfl
def QPl1 (Z : State) (a0 : Addr) (a1 : Addr) (hp : Addr) (kA : ClassId) (v0 : Value) (v1 : Value) (v2 : Value) (po : Int32) (dl : Int64) (h0 : Heap) (n0 : Nat) (v : Option Value) (h : Heap) (L : List Loc) : Prop := v = none ∧ Fr n0 L ∧ Keep h0 h [hp, a1] ∧ Arv Z h hp kA (.object "com/example/keys_to_structures/keystostructures/store/TimedEntry") (16 : Int32) [v0, (.ref a1), v2, .null, .null, .null, .null, .null, .null, .null, .null, .null, .null, .null, .null, .null] .null ∧ Exa Z h a1 "com/example/keys_to_structures/keystostructures/store/TimedEntry" ∧ Fld Z h a1 "com/example/keys_to_structures/keystostructures/store/TimedEntry" "deadline" "J" (.long dl) ∧ Fld Z h a1 "com/example/keys_to_structures/keystostructures/store/TimedEntry" "position" "I" (.int (1 : Int32))
set_option maxRecDepth 65536 in
set_option maxHeartbeats 40000000 in
theorem rmPl1 (l : Launch) (Z : State) (aV : Array Value) (hw : ∀ d ∈ tables_1, d.before aV Z = true) (ws : List Jvm.Cond) (a0 : Addr) (a1 : Addr) (hp : Addr) (kA : ClassId) (v0 : Value) (v1 : Value) (v2 : Value) (po : Int32) (dl : Int64) (h0 : Heap) (n0 : Nat) (Zn : n0 ≤ h0.size) (g_hp : n0 ≤ hp) (g_a1 : n0 ≤ a1) (O_kA : Ovr Z kA "com/example/keys_to_structures/keystostructures/store/TimedEntry") (E_a0 : Exa Z h0 a0 "com/example/keys_to_structures/keystostructures/store/ExpiryQueue") (F_heap : Fld Z h0 a0 "com/example/keys_to_structures/keystostructures/store/ExpiryQueue" "heap" "[Lcom/example/keys_to_structures/keystostructures/store/TimedEntry;" (.ref hp)) (V_hp : Arv Z h0 hp kA (.object "com/example/keys_to_structures/keystostructures/store/TimedEntry") (16 : Int32) [v0, v1, v2, .null, .null, .null, .null, .null, .null, .null, .null, .null, .null, .null, .null, .null] .null) (E_a1 : Exa Z h0 a1 "com/example/keys_to_structures/keystostructures/store/TimedEntry") (F_d_a1 : Fld Z h0 a1 "com/example/keys_to_structures/keystostructures/store/TimedEntry" "deadline" "J" (.long dl)) (F_p_a1 : Fld Z h0 a1 "com/example/keys_to_structures/keystostructures/store/TimedEntry" "position" "I" (.int po)) (ne_a0__hp : a0 ≠ hp) (ne_a0__a1 : a0 ≠ a1) (ne_hp__a1 : hp ≠ a1) :
    MetFree l (⟨"com/example/keys_to_structures/keystostructures/store/ExpiryQueue", "place", "(Lcom/example/keys_to_structures/keystostructures/store/TimedEntry;I)V"⟩ : MethodName) (head1 (Jvm.Cond.code (⟨"com/example/keys_to_structures/keystostructures/store/ExpiryQueue", "place", "(Lcom/example/keys_to_structures/keystostructures/store/TimedEntry;I)V"⟩ : MethodName) prog_43_method_9_code 3 none :: ws) ({ frames := 1, cells := 0, slots := 0, locals := 13 } : Room)) (fun a U => a = #[(.ref a0), (.ref a1), (.int (1 : Int32))] ∧ Z.Warmed39 U.vm ∧ U.heap = h0) (fun _ _ _ _ _ => True) (fun _ U o U' => ∃ v L, o = .returned v ∧ QPl1 Z a0 a1 hp kA v0 v1 v2 po dl h0 n0 v U'.heap L ∧ FrameEnd U o U' L ({ frames := 1, cells := 0, slots := 0, locals := 13 } : Room).cells ({ frames := 1, cells := 0, slots := 0, locals := 13 } : Room).slots) := by
  refine MetFree.of_bodySF (plainFor_of_name pn_4) hisR ?_
  intro p e s m args below meth c s₁ Bd hml0 hP hK
  obtain ⟨rfl, hZ, hh⟩ := hP
  have hx := Bd.exec
  have hby := Bd.bytes
  have hml : c.maxLocals = 3 := hml0
  have hown : s.vm.findClass "com/example/keys_to_structures/keystostructures/store/ExpiryQueue" = some m.cls := findClass_of_methodNamed Bd.named
  have hnm := (name_of_methodNamed Bd.named Bd.method).1
  have X0 : Stand p l e ({ frames := 1, cells := 0, slots := 0, locals := 13 } : Room) s m #[(.ref a0), (.ref a1), (.int (1 : Int32))] below meth c s₁ [] 0 0 := Stand.of_body Bd
  have e0 : s₁.heap = h0 := by rw [← hh, Bd.state]; rfl
  have N0 := Fr.nil n0
  have Kp := Keep.refl h0 [hp, a1]
  show Run p e below (Ends s (QPl1 Z a0 a1 hp kA v0 v1 v2 po dl h0 n0) ({ frames := 1, cells := 0, slots := 0, locals := 13 } : Room).cells ({ frames := 1, cells := 0, slots := 0, locals := 13 } : Room).slots) _
  refine Run.st (S' := s₁.setTop (mkF m 0 #[.val (.ref a0), .val (.ref a1), .val (.int (1 : Int32))] [])) (fun t k => castTop (ef_Pl1 m a0 a1) k) ?_
  refine Run.st (S' := s₁.setTop (mkF m 1 #[.val (.ref a0), .val (.ref a1), .val (.int (1 : Int32))] [(.ref a0)])) (fun _ k => XS.aloadN X0.here hx rfl (hb hby d9_0) rfl rfl k) ?_
  obtain ⟨T1, X1, e1, st1⟩ := getF X0 hx hZ hown (host := "") (Or.inl (hw _ (List.mem_of_getElem? (i := 39) rfl))) Via.refl e0 F_heap (g := (mkF m 1 #[.val (.ref a0), .val (.ref a1), .val (.int (1 : Int32))] [(.ref a0)])) rfl rfl (hb hby d9_1)
  refine Run.st (S' := T1.setTop (mkF m 6 #[.val (.ref a0), .val (.ref a1), .val (.int (1 : Int32))] [(.ref a1), (.int (1 : Int32)), (.ref hp)])) (fun _ k => st1 _ (XS.iloadN X1.here hx rfl (hb hby d9_4) rfl (XS.aloadN X1.here hx rfl (hb hby d9_5) rfl rfl k))) ?_
  obtain ⟨cl2, Ar2, qa2, Sa2, Na2, Ha2, Ga2⟩ := V_hp
  have hin2 : ¬ ((1 : Int32) < 0 ∨ cl2.slots.size ≤ ((1 : Int32)).toNatClampNeg) := inb_of Sa2 ⟨by decide, by decide⟩
  obtain ⟨T2, h2, X2, e2, W2, st2⟩ := stR X1 hx hZ e1 Ar2 (j := (1 : Int32)) hin2 rfl (Sto.ofV Ar2 qa2 O_kA (Ins.self E_a1)) (g := (mkF m 6 #[.val (.ref a0), .val (.ref a1), .val (.int (1 : Int32))] [(.ref a1), (.int (1 : Int32)), (.ref hp)])) rfl rfl (hb hby d9_6)
  have V_hp := Arv.set Ar2 qa2 Sa2 Na2 Ha2 Ga2 rfl W2 1 rfl (Nat.le_of_ble_eq_true rfl)
  have V_hp : Arv Z h2 hp kA (.object "com/example/keys_to_structures/keystostructures/store/TimedEntry") (16 : Int32) [v0, (.ref a1), v2, .null, .null, .null, .null, .null, .null, .null, .null, .null, .null, .null, .null, .null] .null := V_hp
  have E_a0 := E_a0.wr W2
  have F_heap := F_heap.other W2 (Or.inl ne_a0__hp)
  have E_a1 := E_a1.wr W2
  have F_d_a1 := F_d_a1.other W2 (Or.inl (Ne.symm ne_hp__a1))
  have F_p_a1 := F_p_a1.other W2 (Or.inl (Ne.symm ne_hp__a1))
  have N2 := Fr.snoc X2 N0 g_hp
  have Kp := Kp.wr W2 (Or.inl (by simp))
  have Zn := Nat.le_trans Zn (Nat.le_of_eq W2.size.symm)
  refine Run.st (S' := T2.setTop (mkF m 9 #[.val (.ref a0), .val (.ref a1), .val (.int (1 : Int32))] [(.int (1 : Int32)), (.ref a1)])) (fun _ k => st2 _ (XS.aloadN X2.here hx rfl (hb hby d9_7) rfl rfl (XS.iloadN X2.here hx rfl (hb hby d9_8) rfl k))) ?_
  obtain ⟨cq3, kq3, q3a, q3b, q3c⟩ := isOf hZ e2 E_a1
  obtain ⟨_, _, ⟨T3, L3, k3, n3⟩, -, X3, ⟨Lc3, hQ3, l3, y3, z3⟩, st3⟩ := X2.virtualBack hx (y := (⟨"com/example/keys_to_structures/keystostructures/store/TimedEntry", "setPosition", "(I)V"⟩ : MethodName)) (z := (⟨"com/example/keys_to_structures/keystostructures/store/TimedEntry", "setPosition", "(I)V"⟩ : MethodName)) hown (mvT hZ (hw _ (List.mem_of_getElem? (i := 57) rfl))) (mvT hZ (hw _ (List.mem_of_getElem? (i := 58) rfl))) (notFace_of_selects (args := #[]) (mvT hZ (hw _ (List.mem_of_getElem? (i := 60) rfl)))) (mvT hZ (hw _ (List.mem_of_getElem? (i := 60) rfl))) (mvT hZ (hw _ (List.mem_of_getElem? (i := 59) rfl))) (by decide) (backOf (W := 0) (rmSPo l Z aV hw [] a1 (1 : Int32) po dl h2 n0 Zn g_a1 E_a1 F_d_a1 F_p_a1) hZ (hw _ (List.mem_of_getElem? (i := 61) rfl)) (hw _ (List.mem_of_getElem? (i := 2) rfl)) (by decide) (by decide)) q3a q3c (g := (mkF m 9 #[.val (.ref a0), .val (.ref a1), .val (.int (1 : Int32))] [(.int (1 : Int32)), (.ref a1)])) rfl (by rw [hml]; rfl) (Steps.refl _) (argsL := [(.int (1 : Int32))]) (rest := []) (lenOf pd_2 rfl) rfl (by show 2 * 0 + _ ≤ _; exact Nat.le_of_eq rfl) (hb hby d9_9) (fun _ _ => ⟨rfl, e2, (by decide : 0 + 0 ≤ _), (by decide : 0 + 0 ≤ _)⟩)
  dsimp only [Pt.U, Pt.locs, Pt.cells, Pt.slots] at X3 l3 y3 z3 st3 hQ3
  subst l3 y3 z3
  obtain ⟨rfl, N3q, K3, q3_0, q3_1, q3_2⟩ := hQ3
  have E_a0 := E_a0.keep K3
  have F_heap := F_heap.keep K3 (ninS ne_a0__a1 nin0)
  have V_hp := V_hp.keep K3 (ninS ne_hp__a1 nin0)
  have E_a1 := q3_0
  have F_d_a1 := q3_1
  have F_p_a1 := q3_2
  have Kp := Kp.trans K3 (allS (Or.inl (by simp)) all0)
  have Zn := Nat.le_trans Zn K3.1
  have N3 := Fr.app N2 N3q
  refine Run.st (S' := T3.setTop (mkF m 12 #[.val (.ref a0), .val (.ref a1), .val (.int (1 : Int32))] [])) (fun _ k => st3.trans k) ?_
  refine Run.outV X3 hx Bd.notSynchronized Bd.returns (hb hby d9_12) (by decide) (by decide) ?_
  exact ⟨rfl, N3, Kp, V_hp, E_a1, F_d_a1, F_p_a1⟩
theorem ef_Pl2 (m : MethodId) (a0 : Addr) (a1 : Addr) : entryFrame m #[(.ref a0), (.ref a1), (.int (2 : Int32))] 3 = mkF m 0 #[.val (.ref a0), .val (.ref a1), .val (.int (2 : Int32))] [] := by first | (simp [entryFrame, mkF, argsToLocals, Value.category]; done) | rfl
def QPl2 (Z : State) (a0 : Addr) (a1 : Addr) (hp : Addr) (kA : ClassId) (v0 : Value) (v1 : Value) (v2 : Value) (po : Int32) (dl : Int64) (h0 : Heap) (n0 : Nat) (v : Option Value) (h : Heap) (L : List Loc) : Prop := v = none ∧ Fr n0 L ∧ Keep h0 h [hp, a1] ∧ Arv Z h hp kA (.object "com/example/keys_to_structures/keystostructures/store/TimedEntry") (16 : Int32) [v0, v1, (.ref a1), .null, .null, .null, .null, .null, .null, .null, .null, .null, .null, .null, .null, .null] .null ∧ Exa Z h a1 "com/example/keys_to_structures/keystostructures/store/TimedEntry" ∧ Fld Z h a1 "com/example/keys_to_structures/keystostructures/store/TimedEntry" "deadline" "J" (.long dl) ∧ Fld Z h a1 "com/example/keys_to_structures/keystostructures/store/TimedEntry" "position" "I" (.int (2 : Int32))
set_option maxRecDepth 65536 in
set_option maxHeartbeats 40000000 in
theorem rmPl2 (l : Launch) (Z : State) (aV : Array Value) (hw : ∀ d ∈ tables_1, d.before aV Z = true) (ws : List Jvm.Cond) (a0 : Addr) (a1 : Addr) (hp : Addr) (kA : ClassId) (v0 : Value) (v1 : Value) (v2 : Value) (po : Int32) (dl : Int64) (h0 : Heap) (n0 : Nat) (Zn : n0 ≤ h0.size) (g_hp : n0 ≤ hp) (g_a1 : n0 ≤ a1) (O_kA : Ovr Z kA "com/example/keys_to_structures/keystostructures/store/TimedEntry") (E_a0 : Exa Z h0 a0 "com/example/keys_to_structures/keystostructures/store/ExpiryQueue") (F_heap : Fld Z h0 a0 "com/example/keys_to_structures/keystostructures/store/ExpiryQueue" "heap" "[Lcom/example/keys_to_structures/keystostructures/store/TimedEntry;" (.ref hp)) (V_hp : Arv Z h0 hp kA (.object "com/example/keys_to_structures/keystostructures/store/TimedEntry") (16 : Int32) [v0, v1, v2, .null, .null, .null, .null, .null, .null, .null, .null, .null, .null, .null, .null, .null] .null) (E_a1 : Exa Z h0 a1 "com/example/keys_to_structures/keystostructures/store/TimedEntry") (F_d_a1 : Fld Z h0 a1 "com/example/keys_to_structures/keystostructures/store/TimedEntry" "deadline" "J" (.long dl)) (F_p_a1 : Fld Z h0 a1 "com/example/keys_to_structures/keystostructures/store/TimedEntry" "position" "I" (.int po)) (ne_a0__hp : a0 ≠ hp) (ne_a0__a1 : a0 ≠ a1) (ne_hp__a1 : hp ≠ a1) :
    MetFree l (⟨"com/example/keys_to_structures/keystostructures/store/ExpiryQueue", "place", "(Lcom/example/keys_to_structures/keystostructures/store/TimedEntry;I)V"⟩ : MethodName) (head1 (Jvm.Cond.code (⟨"com/example/keys_to_structures/keystostructures/store/ExpiryQueue", "place", "(Lcom/example/keys_to_structures/keystostructures/store/TimedEntry;I)V"⟩ : MethodName) prog_43_method_9_code 3 none :: ws) ({ frames := 1, cells := 0, slots := 0, locals := 13 } : Room)) (fun a U => a = #[(.ref a0), (.ref a1), (.int (2 : Int32))] ∧ Z.Warmed39 U.vm ∧ U.heap = h0) (fun _ _ _ _ _ => True) (fun _ U o U' => ∃ v L, o = .returned v ∧ QPl2 Z a0 a1 hp kA v0 v1 v2 po dl h0 n0 v U'.heap L ∧ FrameEnd U o U' L ({ frames := 1, cells := 0, slots := 0, locals := 13 } : Room).cells ({ frames := 1, cells := 0, slots := 0, locals := 13 } : Room).slots) := by
  refine MetFree.of_bodySF (plainFor_of_name pn_4) hisR ?_
  intro p e s m args below meth c s₁ Bd hml0 hP hK
  obtain ⟨rfl, hZ, hh⟩ := hP
  have hx := Bd.exec
  have hby := Bd.bytes
  have hml : c.maxLocals = 3 := hml0
  have hown : s.vm.findClass "com/example/keys_to_structures/keystostructures/store/ExpiryQueue" = some m.cls := findClass_of_methodNamed Bd.named
  have hnm := (name_of_methodNamed Bd.named Bd.method).1
  have X0 : Stand p l e ({ frames := 1, cells := 0, slots := 0, locals := 13 } : Room) s m #[(.ref a0), (.ref a1), (.int (2 : Int32))] below meth c s₁ [] 0 0 := Stand.of_body Bd
  have e0 : s₁.heap = h0 := by rw [← hh, Bd.state]; rfl
  have N0 := Fr.nil n0
  have Kp := Keep.refl h0 [hp, a1]
  show Run p e below (Ends s (QPl2 Z a0 a1 hp kA v0 v1 v2 po dl h0 n0) ({ frames := 1, cells := 0, slots := 0, locals := 13 } : Room).cells ({ frames := 1, cells := 0, slots := 0, locals := 13 } : Room).slots) _
  refine Run.st (S' := s₁.setTop (mkF m 0 #[.val (.ref a0), .val (.ref a1), .val (.int (2 : Int32))] [])) (fun t k => castTop (ef_Pl2 m a0 a1) k) ?_
  refine Run.st (S' := s₁.setTop (mkF m 1 #[.val (.ref a0), .val (.ref a1), .val (.int (2 : Int32))] [(.ref a0)])) (fun _ k => XS.aloadN X0.here hx rfl (hb hby d9_0) rfl rfl k) ?_
  obtain ⟨T1, X1, e1, st1⟩ := getF X0 hx hZ hown (host := "") (Or.inl (hw _ (List.mem_of_getElem? (i := 39) rfl))) Via.refl e0 F_heap (g := (mkF m 1 #[.val (.ref a0), .val (.ref a1), .val (.int (2 : Int32))] [(.ref a0)])) rfl rfl (hb hby d9_1)
  refine Run.st (S' := T1.setTop (mkF m 6 #[.val (.ref a0), .val (.ref a1), .val (.int (2 : Int32))] [(.ref a1), (.int (2 : Int32)), (.ref hp)])) (fun _ k => st1 _ (XS.iloadN X1.here hx rfl (hb hby d9_4) rfl (XS.aloadN X1.here hx rfl (hb hby d9_5) rfl rfl k))) ?_
  obtain ⟨cl2, Ar2, qa2, Sa2, Na2, Ha2, Ga2⟩ := V_hp
  have hin2 : ¬ ((2 : Int32) < 0 ∨ cl2.slots.size ≤ ((2 : Int32)).toNatClampNeg) := inb_of Sa2 ⟨by decide, by decide⟩
  obtain ⟨T2, h2, X2, e2, W2, st2⟩ := stR X1 hx hZ e1 Ar2 (j := (2 : Int32)) hin2 rfl (Sto.ofV Ar2 qa2 O_kA (Ins.self E_a1)) (g := (mkF m 6 #[.val (.ref a0), .val (.ref a1), .val (.int (2 : Int32))] [(.ref a1), (.int (2 : Int32)), (.ref hp)])) rfl rfl (hb hby d9_6)
  have V_hp := Arv.set Ar2 qa2 Sa2 Na2 Ha2 Ga2 rfl W2 2 rfl (Nat.le_of_ble_eq_true rfl)
  have V_hp : Arv Z h2 hp kA (.object "com/example/keys_to_structures/keystostructures/store/TimedEntry") (16 : Int32) [v0, v1, (.ref a1), .null, .null, .null, .null, .null, .null, .null, .null, .null, .null, .null, .null, .null] .null := V_hp
  have E_a0 := E_a0.wr W2
  have F_heap := F_heap.other W2 (Or.inl ne_a0__hp)
  have E_a1 := E_a1.wr W2
  have F_d_a1 := F_d_a1.other W2 (Or.inl (Ne.symm ne_hp__a1))
  have F_p_a1 := F_p_a1.other W2 (Or.inl (Ne.symm ne_hp__a1))
  have N2 := Fr.snoc X2 N0 g_hp
  have Kp := Kp.wr W2 (Or.inl (by simp))
  have Zn := Nat.le_trans Zn (Nat.le_of_eq W2.size.symm)
  refine Run.st (S' := T2.setTop (mkF m 9 #[.val (.ref a0), .val (.ref a1), .val (.int (2 : Int32))] [(.int (2 : Int32)), (.ref a1)])) (fun _ k => st2 _ (XS.aloadN X2.here hx rfl (hb hby d9_7) rfl rfl (XS.iloadN X2.here hx rfl (hb hby d9_8) rfl k))) ?_
  obtain ⟨cq3, kq3, q3a, q3b, q3c⟩ := isOf hZ e2 E_a1
  obtain ⟨_, _, ⟨T3, L3, k3, n3⟩, -, X3, ⟨Lc3, hQ3, l3, y3, z3⟩, st3⟩ := X2.virtualBack hx (y := (⟨"com/example/keys_to_structures/keystostructures/store/TimedEntry", "setPosition", "(I)V"⟩ : MethodName)) (z := (⟨"com/example/keys_to_structures/keystostructures/store/TimedEntry", "setPosition", "(I)V"⟩ : MethodName)) hown (mvT hZ (hw _ (List.mem_of_getElem? (i := 57) rfl))) (mvT hZ (hw _ (List.mem_of_getElem? (i := 58) rfl))) (notFace_of_selects (args := #[]) (mvT hZ (hw _ (List.mem_of_getElem? (i := 60) rfl)))) (mvT hZ (hw _ (List.mem_of_getElem? (i := 60) rfl))) (mvT hZ (hw _ (List.mem_of_getElem? (i := 59) rfl))) (by decide) (backOf (W := 0) (rmSPo l Z aV hw [] a1 (2 : Int32) po dl h2 n0 Zn g_a1 E_a1 F_d_a1 F_p_a1) hZ (hw _ (List.mem_of_getElem? (i := 61) rfl)) (hw _ (List.mem_of_getElem? (i := 2) rfl)) (by decide) (by decide)) q3a q3c (g := (mkF m 9 #[.val (.ref a0), .val (.ref a1), .val (.int (2 : Int32))] [(.int (2 : Int32)), (.ref a1)])) rfl (by rw [hml]; rfl) (Steps.refl _) (argsL := [(.int (2 : Int32))]) (rest := []) (lenOf pd_2 rfl) rfl (by show 2 * 0 + _ ≤ _; exact Nat.le_of_eq rfl) (hb hby d9_9) (fun _ _ => ⟨rfl, e2, (by decide : 0 + 0 ≤ _), (by decide : 0 + 0 ≤ _)⟩)
  dsimp only [Pt.U, Pt.locs, Pt.cells, Pt.slots] at X3 l3 y3 z3 st3 hQ3
  subst l3 y3 z3
  obtain ⟨rfl, N3q, K3, q3_0, q3_1, q3_2⟩ := hQ3
  have E_a0 := E_a0.keep K3
  have F_heap := F_heap.keep K3 (ninS ne_a0__a1 nin0)
  have V_hp := V_hp.keep K3 (ninS ne_hp__a1 nin0)
  have E_a1 := q3_0
  have F_d_a1 := q3_1
  have F_p_a1 := q3_2
  have Kp := Kp.trans K3 (allS (Or.inl (by simp)) all0)
  have Zn := Nat.le_trans Zn K3.1
  have N3 := Fr.app N2 N3q
  refine Run.st (S' := T3.setTop (mkF m 12 #[.val (.ref a0), .val (.ref a1), .val (.int (2 : Int32))] [])) (fun _ k => st3.trans k) ?_
  refine Run.outV X3 hx Bd.notSynchronized Bd.returns (hb hby d9_12) (by decide) (by decide) ?_
  exact ⟨rfl, N3, Kp, V_hp, E_a1, F_d_a1, F_p_a1⟩
theorem pd_3 : parseMethodDescriptor "(Lcom/example/keys_to_structures/keystostructures/store/TimedEntry;I)V" = some ⟨[(.object "com/example/keys_to_structures/keystostructures/store/TimedEntry"), .int], none⟩ := by decide +kernel
theorem d8_0 : decode prog_43_method_7_code 0 = .ok (.iload_n 2, 1) := by decide +kernel
theorem d8_1 : decode prog_43_method_7_code 1 = .ok (.istore_n 3, 1) := by decide +kernel
theorem d8_2 : decode prog_43_method_7_code 2 = .ok (.iload_n 3, 1) := by decide +kernel
theorem d8_3 : decode prog_43_method_7_code 3 = .ok (.ifCond .le 49, 3) := by decide +kernel
theorem d8_52 : decode prog_43_method_7_code 52 = .ok (.aload_n 0, 1) := by decide +kernel
theorem d8_53 : decode prog_43_method_7_code 53 = .ok (.aload_n 1, 1) := by decide +kernel
theorem d8_54 : decode prog_43_method_7_code 54 = .ok (.iload_n 3, 1) := by decide +kernel
theorem d8_55 : decode prog_43_method_7_code 55 = .ok (.invokevirtual 38, 3) := by decide +kernel
theorem d8_58 : decode prog_43_method_7_code 58 = .ok (.return_, 1) := by decide +kernel
theorem ef_Mu0 (m : MethodId) (a0 : Addr) (a1 : Addr) : entryFrame m #[(.ref a0), (.ref a1), (.int (0 : Int32))] 5 = mkF m 0 #[.val (.ref a0), .val (.ref a1), .val (.int (0 : Int32)), .unset, .unset] [] := by first | (simp [entryFrame, mkF, argsToLocals, Value.category]; done) | rfl
def QMu0 (Z : State) (a0 : Addr) (a1 : Addr) (hp : Addr) (kA : ClassId) (v0 : Value) (v1 : Value) (v2 : Value) (da1 : Int64) (pa1 : Int32) (h0 : Heap) (n0 : Nat) (v : Option Value) (h : Heap) (L : List Loc) : Prop := v = none ∧ Fr n0 L ∧ Keep h0 h [hp, a1] ∧ Arv Z h hp kA (.object "com/example/keys_to_structures/keystostructures/store/TimedEntry") (16 : Int32) [(.ref a1), v1, v2, .null, .null, .null, .null, .null, .null, .null, .null, .null, .null, .null, .null, .null] .null ∧ Exa Z h a1 "com/example/keys_to_structures/keystostructures/store/TimedEntry" ∧ Fld Z h a1 "com/example/keys_to_structures/keystostructures/store/TimedEntry" "deadline" "J" (.long da1) ∧ Fld Z h a1 "com/example/keys_to_structures/keystostructures/store/TimedEntry" "position" "I" (.int (0 : Int32))
set_option maxRecDepth 65536 in
set_option maxHeartbeats 40000000 in
theorem rmMu0 (l : Launch) (Z : State) (aV : Array Value) (hw : ∀ d ∈ tables_1, d.before aV Z = true) (ws : List Jvm.Cond) (a0 : Addr) (a1 : Addr) (hp : Addr) (kA : ClassId) (v0 : Value) (v1 : Value) (v2 : Value) (da1 : Int64) (pa1 : Int32) (h0 : Heap) (n0 : Nat) (Zn : n0 ≤ h0.size) (g_hp : n0 ≤ hp) (O_kA : Ovr Z kA "com/example/keys_to_structures/keystostructures/store/TimedEntry") (g_a1 : n0 ≤ a1) (E_a0 : Exa Z h0 a0 "com/example/keys_to_structures/keystostructures/store/ExpiryQueue") (F_heap : Fld Z h0 a0 "com/example/keys_to_structures/keystostructures/store/ExpiryQueue" "heap" "[Lcom/example/keys_to_structures/keystostructures/store/TimedEntry;" (.ref hp)) (V_hp : Arv Z h0 hp kA (.object "com/example/keys_to_structures/keystostructures/store/TimedEntry") (16 : Int32) [v0, v1, v2, .null, .null, .null, .null, .null, .null, .null, .null, .null, .null, .null, .null, .null] .null) (E_a1 : Exa Z h0 a1 "com/example/keys_to_structures/keystostructures/store/TimedEntry") (F_d_a1 : Fld Z h0 a1 "com/example/keys_to_structures/keystostructures/store/TimedEntry" "deadline" "J" (.long da1)) (F_p_a1 : Fld Z h0 a1 "com/example/keys_to_structures/keystostructures/store/TimedEntry" "position" "I" (.int pa1)) (ne_a0__hp : a0 ≠ hp) (ne_a0__a1 : a0 ≠ a1) (ne_hp__a1 : hp ≠ a1) :
    MetFree l (⟨"com/example/keys_to_structures/keystostructures/store/ExpiryQueue", "moveUp", "(Lcom/example/keys_to_structures/keystostructures/store/TimedEntry;I)V"⟩ : MethodName) (head1 (Jvm.Cond.code (⟨"com/example/keys_to_structures/keystostructures/store/ExpiryQueue", "moveUp", "(Lcom/example/keys_to_structures/keystostructures/store/TimedEntry;I)V"⟩ : MethodName) prog_43_method_7_code 5 none :: ws) ({ frames := 2, cells := 0, slots := 0, locals := 27 } : Room)) (fun a U => a = #[(.ref a0), (.ref a1), (.int (0 : Int32))] ∧ Z.Warmed39 U.vm ∧ U.heap = h0) (fun _ _ _ _ _ => True) (fun _ U o U' => ∃ v L, o = .returned v ∧ QMu0 Z a0 a1 hp kA v0 v1 v2 da1 pa1 h0 n0 v U'.heap L ∧ FrameEnd U o U' L ({ frames := 2, cells := 0, slots := 0, locals := 27 } : Room).cells ({ frames := 2, cells := 0, slots := 0, locals := 27 } : Room).slots) := by
  refine MetFree.of_bodySF (plainFor_of_name pn_4) hisR ?_
  intro p e s m args below meth c s₁ Bd hml0 hP hK
  obtain ⟨rfl, hZ, hh⟩ := hP
  have hx := Bd.exec
  have hby := Bd.bytes
  have hml : c.maxLocals = 5 := hml0
  have hown : s.vm.findClass "com/example/keys_to_structures/keystostructures/store/ExpiryQueue" = some m.cls := findClass_of_methodNamed Bd.named
  have hnm := (name_of_methodNamed Bd.named Bd.method).1
  have X0 : Stand p l e ({ frames := 2, cells := 0, slots := 0, locals := 27 } : Room) s m #[(.ref a0), (.ref a1), (.int (0 : Int32))] below meth c s₁ [] 0 0 := Stand.of_body Bd
  have e0 : s₁.heap = h0 := by rw [← hh, Bd.state]; rfl
  have N0 := Fr.nil n0
  have Kp := Keep.refl h0 [hp, a1]
  show Run p e below (Ends s (QMu0 Z a0 a1 hp kA v0 v1 v2 da1 pa1 h0 n0) ({ frames := 2, cells := 0, slots := 0, locals := 27 } : Room).cells ({ frames := 2, cells := 0, slots := 0, locals := 27 } : Room).slots) _
  refine Run.st (S' := s₁.setTop (mkF m 0 #[.val (.ref a0), .val (.ref a1), .val (.int (0 : Int32)), .unset, .unset] [])) (fun t k => castTop (ef_Mu0 m a0 a1) k) ?_
  refine Run.st (S' := s₁.setTop (mkF m 55 #[.val (.ref a0), .val (.ref a1), .val (.int (0 : Int32)), .val (.int (0 : Int32)), .unset] [(.int (0 : Int32)), (.ref a1), (.ref a0)])) (fun _ k => XS.iloadN X0.here hx rfl (hb hby d8_0) rfl (XS.istoreN X0.here hx rfl (hb hby d8_1) rfl (l' := #[.val (.ref a0), .val (.ref a1), .val (.int (0 : Int32)), .val (.int (0 : Int32)), .unset]) rfl (XS.iloadN X0.here hx rfl (hb hby d8_2) rfl (XS.ifYes X0.here hx rfl (pc0 := 3) (pc' := 52) rfl (hb hby d8_3) rfl ((if0 _ _).trans (flt (show ¬ ((0 : Int32) < (0 : Int32)) from (by decide))).2.2.2) (by decide) (by decide) (XS.aloadN X0.here hx rfl (hb hby d8_52) rfl rfl (XS.aloadN X0.here hx rfl (hb hby d8_53) rfl rfl (XS.iloadN X0.here hx rfl (hb hby d8_54) rfl k))))))) ?_
  obtain ⟨cq1, q1, q1'⟩ := E_a0.cell
  obtain ⟨_, _, ⟨T1, L1, k1, n1⟩, -, X1, ⟨Lc1, hQ1, l1, y1, z1⟩, st1⟩ := X0.privateBack hx (y := (⟨"com/example/keys_to_structures/keystostructures/store/ExpiryQueue", "place", "(Lcom/example/keys_to_structures/keystostructures/store/TimedEntry;I)V"⟩ : MethodName)) hown (mvT hZ (hw _ (List.mem_of_getElem? (i := 52) rfl))) (mvT hZ (hw _ (List.mem_of_getElem? (i := 53) rfl))) (selSelf (y := (⟨"com/example/keys_to_structures/keystostructures/store/ExpiryQueue", "place", "(Lcom/example/keys_to_structures/keystostructures/store/TimedEntry;I)V"⟩ : MethodName)) (mvT hZ (hw _ (List.mem_of_getElem? (i := 31) rfl))) (Cond.privateMethod_at (mvP hZ (hw _ (List.mem_of_getElem? (i := 54) rfl)) (args := #[]))) (mvT hZ (hw _ (List.mem_of_getElem? (i := 53) rfl))) (by decide)) (Cond.privateMethod_at (mvP hZ (hw _ (List.mem_of_getElem? (i := 54) rfl)) (args := #[]))) (mvT hZ (hw _ (List.mem_of_getElem? (i := 55) rfl))) (by decide) (backOf (W := 0) (rmPl0 l Z aV hw [] a0 a1 hp kA v0 v1 v2 pa1 da1 h0 n0 Zn g_hp g_a1 O_kA E_a0 F_heap V_hp E_a1 F_d_a1 F_p_a1 ne_a0__hp ne_a0__a1 ne_hp__a1) hZ (hw _ (List.mem_of_getElem? (i := 55) rfl)) (hw _ (List.mem_of_getElem? (i := 32) rfl)) (by decide) (by decide)) (g := (mkF m 55 #[.val (.ref a0), .val (.ref a1), .val (.int (0 : Int32)), .val (.int (0 : Int32)), .unset] [(.int (0 : Int32)), (.ref a1), (.ref a0)])) rfl (by rw [hml]; rfl) (Steps.refl _) (a := a0) (by rw [e0]; exact q1) q1' (argsL := [(.ref a1), (.int (0 : Int32))]) (rest := []) (lenOf pd_3 rfl) rfl (by show 2 * 0 + _ ≤ _; exact Nat.le_of_eq rfl) (hb hby d8_55) (fun _ _ => ⟨rfl, e0, (by decide : 0 + 0 ≤ _), (by decide : 0 + 0 ≤ _)⟩)
  dsimp only [Pt.U, Pt.locs, Pt.cells, Pt.slots] at X1 l1 y1 z1 st1 hQ1
  subst l1 y1 z1
  obtain ⟨rfl, N1q, K1, q1_0, q1_1, q1_2, q1_3⟩ := hQ1
  have E_a0 := E_a0.keep K1
  have F_heap := F_heap.keep K1 (ninS ne_a0__hp (ninS ne_a0__a1 nin0))
  have V_hp := q1_0
  have E_a1 := q1_1
  have F_d_a1 := q1_2
  have F_p_a1 := q1_3
  have Kp := Kp.trans K1 (allS (Or.inl (by simp)) (allS (Or.inl (by simp)) all0))
  have Zn := Nat.le_trans Zn K1.1
  have N1 := Fr.app N0 N1q
  refine Run.st (S' := T1.setTop (mkF m 58 #[.val (.ref a0), .val (.ref a1), .val (.int (0 : Int32)), .val (.int (0 : Int32)), .unset] [])) (fun _ k => st1.trans k) ?_
  refine Run.outV X1 hx Bd.notSynchronized Bd.returns (hb hby d8_58) (by decide) (by decide) ?_
  exact ⟨rfl, N1, Kp, V_hp, E_a1, F_d_a1, F_p_a1⟩
theorem pd_4 : parseMethodDescriptor "()J" = some ⟨[], some .long⟩ := by decide +kernel
theorem d8_6 : decode prog_43_method_7_code 6 = .ok (.iload_n 3, 1) := by decide +kernel
theorem d8_7 : decode prog_43_method_7_code 7 = .ok (.iconst 1, 1) := by decide +kernel
theorem d8_8 : decode prog_43_method_7_code 8 = .ok (.isub, 1) := by decide +kernel
theorem d8_9 : decode prog_43_method_7_code 9 = .ok (.iconst 2, 1) := by decide +kernel
theorem d8_10 : decode prog_43_method_7_code 10 = .ok (.idiv, 1) := by decide +kernel
theorem d8_11 : decode prog_43_method_7_code 11 = .ok (.istore 4, 2) := by decide +kernel
theorem d8_13 : decode prog_43_method_7_code 13 = .ok (.aload_n 0, 1) := by decide +kernel
theorem d8_14 : decode prog_43_method_7_code 14 = .ok (.getfield 11, 3) := by decide +kernel
theorem d8_17 : decode prog_43_method_7_code 17 = .ok (.iload 4, 2) := by decide +kernel
theorem d8_19 : decode prog_43_method_7_code 19 = .ok (.aaload, 1) := by decide +kernel
theorem d8_20 : decode prog_43_method_7_code 20 = .ok (.invokevirtual 34, 3) := by decide +kernel
theorem d8_23 : decode prog_43_method_7_code 23 = .ok (.aload_n 1, 1) := by decide +kernel
theorem d8_24 : decode prog_43_method_7_code 24 = .ok (.invokevirtual 34, 3) := by decide +kernel
theorem d8_27 : decode prog_43_method_7_code 27 = .ok (.lcmp, 1) := by decide +kernel
theorem d8_28 : decode prog_43_method_7_code 28 = .ok (.ifCond .gt 6, 3) := by decide +kernel
theorem d8_31 : decode prog_43_method_7_code 31 = .ok (.goto 21, 3) := by decide +kernel
theorem ef_Mu1 (m : MethodId) (a0 : Addr) (a1 : Addr) : entryFrame m #[(.ref a0), (.ref a1), (.int (1 : Int32))] 5 = mkF m 0 #[.val (.ref a0), .val (.ref a1), .val (.int (1 : Int32)), .unset, .unset] [] := by first | (simp [entryFrame, mkF, argsToLocals, Value.category]; done) | rfl
def QMu1 (Z : State) (a0 : Addr) (a1 : Addr) (hp : Addr) (kA : ClassId) (v1 : Value) (v2 : Value) (da1 : Int64) (pa1 : Int32) (x0 : Addr) (dx0 : Int64) (px0 : Int32) (h0 : Heap) (n0 : Nat) (v : Option Value) (h : Heap) (L : List Loc) : Prop := v = none ∧ Fr n0 L ∧ Keep h0 h [hp, a1] ∧ Arv Z h hp kA (.object "com/example/keys_to_structures/keystostructures/store/TimedEntry") (16 : Int32) [(.ref x0), (.ref a1), v2, .null, .null, .null, .null, .null, .null, .null, .null, .null, .null, .null, .null, .null] .null ∧ Exa Z h a1 "com/example/keys_to_structures/keystostructures/store/TimedEntry" ∧ Fld Z h a1 "com/example/keys_to_structures/keystostructures/store/TimedEntry" "deadline" "J" (.long da1) ∧ Fld Z h a1 "com/example/keys_to_structures/keystostructures/store/TimedEntry" "position" "I" (.int (1 : Int32))
set_option maxRecDepth 65536 in
set_option maxHeartbeats 40000000 in
theorem rmMu1 (l : Launch) (Z : State) (aV : Array Value) (hw : ∀ d ∈ tables_1, d.before aV Z = true) (ws : List Jvm.Cond) (a0 : Addr) (a1 : Addr) (hp : Addr) (kA : ClassId) (v1 : Value) (v2 : Value) (da1 : Int64) (pa1 : Int32) (x0 : Addr) (dx0 : Int64) (px0 : Int32) (h0 : Heap) (n0 : Nat) (Zn : n0 ≤ h0.size) (g_hp : n0 ≤ hp) (O_kA : Ovr Z kA "com/example/keys_to_structures/keystostructures/store/TimedEntry") (g_a1 : n0 ≤ a1) (g_x0 : n0 ≤ x0) (E_a0 : Exa Z h0 a0 "com/example/keys_to_structures/keystostructures/store/ExpiryQueue") (F_heap : Fld Z h0 a0 "com/example/keys_to_structures/keystostructures/store/ExpiryQueue" "heap" "[Lcom/example/keys_to_structures/keystostructures/store/TimedEntry;" (.ref hp)) (V_hp : Arv Z h0 hp kA (.object "com/example/keys_to_structures/keystostructures/store/TimedEntry") (16 : Int32) [(.ref x0), v1, v2, .null, .null, .null, .null, .null, .null, .null, .null, .null, .null, .null, .null, .null] .null) (E_a1 : Exa Z h0 a1 "com/example/keys_to_structures/keystostructures/store/TimedEntry") (F_d_a1 : Fld Z h0 a1 "com/example/keys_to_structures/keystostructures/store/TimedEntry" "deadline" "J" (.long da1)) (F_p_a1 : Fld Z h0 a1 "com/example/keys_to_structures/keystostructures/store/TimedEntry" "position" "I" (.int pa1)) (E_x0 : Exa Z h0 x0 "com/example/keys_to_structures/keystostructures/store/TimedEntry") (F_d_x0 : Fld Z h0 x0 "com/example/keys_to_structures/keystostructures/store/TimedEntry" "deadline" "J" (.long dx0)) (F_p_x0 : Fld Z h0 x0 "com/example/keys_to_structures/keystostructures/store/TimedEntry" "position" "I" (.int px0)) (ne_a0__hp : a0 ≠ hp) (ne_a0__a1 : a0 ≠ a1) (ne_a0__x0 : a0 ≠ x0) (ne_hp__a1 : hp ≠ a1) (ne_hp__x0 : hp ≠ x0) (ne_a1__x0 : a1 ≠ x0) (hsw : ¬ (da1 < dx0)) :
    MetFree l (⟨"com/example/keys_to_structures/keystostructures/store/ExpiryQueue", "moveUp", "(Lcom/example/keys_to_structures/keystostructures/store/TimedEntry;I)V"⟩ : MethodName) (head1 (Jvm.Cond.code (⟨"com/example/keys_to_structures/keystostructures/store/ExpiryQueue", "moveUp", "(Lcom/example/keys_to_structures/keystostructures/store/TimedEntry;I)V"⟩ : MethodName) prog_43_method_7_code 5 none :: ws) ({ frames := 2, cells := 0, slots := 0, locals := 27 } : Room)) (fun a U => a = #[(.ref a0), (.ref a1), (.int (1 : Int32))] ∧ Z.Warmed39 U.vm ∧ U.heap = h0) (fun _ _ _ _ _ => True) (fun _ U o U' => ∃ v L, o = .returned v ∧ QMu1 Z a0 a1 hp kA v1 v2 da1 pa1 x0 dx0 px0 h0 n0 v U'.heap L ∧ FrameEnd U o U' L ({ frames := 2, cells := 0, slots := 0, locals := 27 } : Room).cells ({ frames := 2, cells := 0, slots := 0, locals := 27 } : Room).slots) := by
  refine MetFree.of_bodySF (plainFor_of_name pn_4) hisR ?_
  intro p e s m args below meth c s₁ Bd hml0 hP hK
  obtain ⟨rfl, hZ, hh⟩ := hP
  have hx := Bd.exec
  have hby := Bd.bytes
  have hml : c.maxLocals = 5 := hml0
  have hown : s.vm.findClass "com/example/keys_to_structures/keystostructures/store/ExpiryQueue" = some m.cls := findClass_of_methodNamed Bd.named
  have hnm := (name_of_methodNamed Bd.named Bd.method).1
  have X0 : Stand p l e ({ frames := 2, cells := 0, slots := 0, locals := 27 } : Room) s m #[(.ref a0), (.ref a1), (.int (1 : Int32))] below meth c s₁ [] 0 0 := Stand.of_body Bd
  have e0 : s₁.heap = h0 := by rw [← hh, Bd.state]; rfl
  have N0 := Fr.nil n0
  have Kp := Keep.refl h0 [hp, a1]
  show Run p e below (Ends s (QMu1 Z a0 a1 hp kA v1 v2 da1 pa1 x0 dx0 px0 h0 n0) ({ frames := 2, cells := 0, slots := 0, locals := 27 } : Room).cells ({ frames := 2, cells := 0, slots := 0, locals := 27 } : Room).slots) _
  refine Run.st (S' := s₁.setTop (mkF m 0 #[.val (.ref a0), .val (.ref a1), .val (.int (1 : Int32)), .unset, .unset] [])) (fun t k => castTop (ef_Mu1 m a0 a1) k) ?_
  refine Run.st (S' := s₁.setTop (mkF m 10 #[.val (.ref a0), .val (.ref a1), .val (.int (1 : Int32)), .val (.int (1 : Int32)), .unset] [(.int (2 : Int32)), (.int (0 : Int32))])) (fun _ k => XS.iloadN X0.here hx rfl (hb hby d8_0) rfl (XS.istoreN X0.here hx rfl (hb hby d8_1) rfl (l' := #[.val (.ref a0), .val (.ref a1), .val (.int (1 : Int32)), .val (.int (1 : Int32)), .unset]) rfl (XS.iloadN X0.here hx rfl (hb hby d8_2) rfl (XS.ifNo X0.here hx rfl (hb hby d8_3) rfl ((if0 _ _).trans (tlt (show (0 : Int32) < (1 : Int32) from (by decide))).2.2.2) (XS.iloadN X0.here hx rfl (hb hby d8_6) rfl (XS.iconst X0.here hx rfl (hb hby d8_7) (XS.isub X0.here hx rfl (hb hby d8_8) rfl (XS.iconst X0.here hx rfl (hb hby d8_9) k)))))))) ?_
  refine Run.st (S' := s₁.setTop (mkF m 14 #[.val (.ref a0), .val (.ref a1), .val (.int (1 : Int32)), .val (.int (1 : Int32)), .val (.int (0 : Int32))] [(.ref a0)])) (fun _ k => XS.idiv X0.here hx rfl (hb hby d8_10) rfl (by decide) (XS.istore X0.here hx rfl (hb hby d8_11) rfl (l' := #[.val (.ref a0), .val (.ref a1), .val (.int (1 : Int32)), .val (.int (1 : Int32)), .val (.int (0 : Int32))]) rfl (XS.aloadN X0.here hx rfl (hb hby d8_13) rfl rfl k))) ?_
  obtain ⟨T1, X1, e1, st1⟩ := getF X0 hx hZ hown (host := "") (Or.inl (hw _ (List.mem_of_getElem? (i := 39) rfl))) Via.refl e0 F_heap (g := (mkF m 14 #[.val (.ref a0), .val (.ref a1), .val (.int (1 : Int32)), .val (.int (1 : Int32)), .val (.int (0 : Int32))] [(.ref a0)])) rfl rfl (hb hby d8_14)
  refine Run.st (S' := T1.setTop (mkF m 19 #[.val (.ref a0), .val (.ref a1), .val (.int (1 : Int32)), .val (.int (1 : Int32)), .val (.int (0 : Int32))] [(.int (0 : Int32)), (.ref hp)])) (fun _ k => st1 _ (XS.iload X1.here hx rfl (hb hby d8_17) rfl k)) ?_
  obtain ⟨cl2, Ar2, qa2, Sa2, Na2, Ha2, Ga2⟩ := id V_hp
  have hin2 : ¬ ((0 : Int32) < 0 ∨ cl2.slots.size ≤ ((0 : Int32)).toNatClampNeg) := inb_of Sa2 ⟨by decide, by decide⟩
  have hat2 : cl2.slots[((0 : Int32)).toNatClampNeg]? = some (.ref x0) := Has.at Ha2 hin2 rfl
  refine Run.st (S' := T1.setTop (mkF m 20 #[.val (.ref a0), .val (.ref a1), .val (.int (1 : Int32)), .val (.int (1 : Int32)), .val (.int (0 : Int32))] [(.ref x0)])) (fun _ k => X1.aaload hx (j := (0 : Int32)) (v := (.ref x0)) (by rw [e1]; exact Ar2.1) (State.isArrayOf_alike hZ.alike Ar2.2.1) rfl Ar2.2.2 hin2 hat2 (g := (mkF m 19 #[.val (.ref a0), .val (.ref a1), .val (.int (1 : Int32)), .val (.int (1 : Int32)), .val (.int (0 : Int32))] [(.int (0 : Int32)), (.ref hp)])) rfl rfl (hb hby d8_19) _ k) ?_
  obtain ⟨cq3, kq3, q3a, q3b, q3c⟩ := isOf hZ e1 E_x0
  obtain ⟨_, _, ⟨T3, L3, k3, n3⟩, -, X3, ⟨Lc3, hQ3, l3, y3, z3⟩, st3⟩ := X1.virtualBack hx (y := (⟨"com/example/keys_to_structures/keystostructures/store/TimedEntry", "deadline", "()J"⟩ : MethodName)) (z := (⟨"com/example/keys_to_structures/keystostructures/store/TimedEntry", "deadline", "()J"⟩ : MethodName)) hown (mvT hZ (hw _ (List.mem_of_getElem? (i := 64) rfl))) (mvT hZ (hw _ (List.mem_of_getElem? (i := 65) rfl))) (notFace_of_selects (args := #[]) (mvT hZ (hw _ (List.mem_of_getElem? (i := 67) rfl)))) (mvT hZ (hw _ (List.mem_of_getElem? (i := 67) rfl))) (mvT hZ (hw _ (List.mem_of_getElem? (i := 66) rfl))) (by decide) (backOf (W := 0) (rmDl l Z aV hw [] x0 dx0 h0 n0 Zn F_d_x0) hZ (hw _ (List.mem_of_getElem? (i := 68) rfl)) (hw _ (List.mem_of_getElem? (i := 2) rfl)) (by decide) (by decide)) q3a q3c (g := (mkF m 20 #[.val (.ref a0), .val (.ref a1), .val (.int (1 : Int32)), .val (.int (1 : Int32)), .val (.int (0 : Int32))] [(.ref x0)])) rfl (by rw [hml]; rfl) (Steps.refl _) (argsL := []) (rest := []) (lenOf pd_4 rfl) rfl (by show 2 * 0 + _ ≤ _; exact Nat.le_of_eq rfl) (hb hby d8_20) (fun _ _ => ⟨rfl, e1, (by decide : 0 + 0 ≤ _), (by decide : 0 + 0 ≤ _)⟩)
  dsimp only [Pt.U, Pt.locs, Pt.cells, Pt.slots] at X3 l3 y3 z3 st3 hQ3
  subst l3 y3 z3
  obtain ⟨rfl, N3q, e3⟩ := hQ3
  have N3 := Fr.app N0 N3q
  refine Run.st (S' := T3.setTop (mkF m 24 #[.val (.ref a0), .val (.ref a1), .val (.int (1 : Int32)), .val (.int (1 : Int32)), .val (.int (0 : Int32))] [(.ref a1), (.long dx0)])) (fun _ k => st3.trans (XS.aloadN X3.here hx rfl (hb hby d8_23) rfl rfl k)) ?_
  obtain ⟨cq4, kq4, q4a, q4b, q4c⟩ := isOf hZ e3 E_a1
  obtain ⟨_, _, ⟨T4, L4, k4, n4⟩, -, X4, ⟨Lc4, hQ4, l4, y4, z4⟩, st4⟩ := X3.virtualBack hx (y := (⟨"com/example/keys_to_structures/keystostructures/store/TimedEntry", "deadline", "()J"⟩ : MethodName)) (z := (⟨"com/example/keys_to_structures/keystostructures/store/TimedEntry", "deadline", "()J"⟩ : MethodName)) hown (mvT hZ (hw _ (List.mem_of_getElem? (i := 64) rfl))) (mvT hZ (hw _ (List.mem_of_getElem? (i := 65) rfl))) (notFace_of_selects (args := #[]) (mvT hZ (hw _ (List.mem_of_getElem? (i := 67) rfl)))) (mvT hZ (hw _ (List.mem_of_getElem? (i := 67) rfl))) (mvT hZ (hw _ (List.mem_of_getElem? (i := 66) rfl))) (by decide) (backOf (W := 2) (rmDl l Z aV hw [] a1 da1 h0 n0 Zn F_d_a1) hZ (hw _ (List.mem_of_getElem? (i := 68) rfl)) (hw _ (List.mem_of_getElem? (i := 2) rfl)) (by decide) (by decide)) q4a q4c (g := (mkF m 24 #[.val (.ref a0), .val (.ref a1), .val (.int (1 : Int32)), .val (.int (1 : Int32)), .val (.int (0 : Int32))] [(.ref a1), (.long dx0)])) rfl (by rw [hml]; rfl) (Steps.refl _) (argsL := []) (rest := [(.long dx0)]) (lenOf pd_4 rfl) rfl (by show 2 * 0 + _ ≤ _; exact Nat.le_of_eq rfl) (hb hby d8_24) (fun _ _ => ⟨rfl, e3, (by decide : 0 + 0 ≤ _), (by decide : 0 + 0 ≤ _)⟩)
  dsimp only [Pt.U, Pt.locs, Pt.cells, Pt.slots] at X4 l4 y4 z4 st4 hQ4
  subst l4 y4 z4
  obtain ⟨rfl, N4q, e4⟩ := hQ4
  have N4 := Fr.app N3 N4q
  refine Run.st (S' := T4.setTop (mkF m 55 #[.val (.ref a0), .val (.ref a1), .val (.int (1 : Int32)), .val (.int (1 : Int32)), .val (.int (0 : Int32))] [(.int (1 : Int32)), (.ref a1), (.ref a0)])) (fun _ k => st4.trans (XS.lcmp X4.here hx rfl (hb hby d8_27) rfl (XS.ifNo X4.here hx rfl (hb hby d8_28) rfl (lcYes (Jvm.Free.XT.ll_gt_f (show ¬ (da1 < dx0) from hsw))) (XS.goto X4.here hx rfl (pc0 := 31) (pc' := 52) rfl (hb hby d8_31) (by decide) (by decide) (XS.aloadN X4.here hx rfl (hb hby d8_52) rfl rfl (XS.aloadN X4.here hx rfl (hb hby d8_53) rfl rfl (XS.iloadN X4.here hx rfl (hb hby d8_54) rfl k))))))) ?_
  obtain ⟨cq5, q5, q5'⟩ := E_a0.cell
  obtain ⟨_, _, ⟨T5, L5, k5, n5⟩, -, X5, ⟨Lc5, hQ5, l5, y5, z5⟩, st5⟩ := X4.privateBack hx (y := (⟨"com/example/keys_to_structures/keystostructures/store/ExpiryQueue", "place", "(Lcom/example/keys_to_structures/keystostructures/store/TimedEntry;I)V"⟩ : MethodName)) hown (mvT hZ (hw _ (List.mem_of_getElem? (i := 52) rfl))) (mvT hZ (hw _ (List.mem_of_getElem? (i := 53) rfl))) (selSelf (y := (⟨"com/example/keys_to_structures/keystostructures/store/ExpiryQueue", "place", "(Lcom/example/keys_to_structures/keystostructures/store/TimedEntry;I)V"⟩ : MethodName)) (mvT hZ (hw _ (List.mem_of_getElem? (i := 31) rfl))) (Cond.privateMethod_at (mvP hZ (hw _ (List.mem_of_getElem? (i := 54) rfl)) (args := #[]))) (mvT hZ (hw _ (List.mem_of_getElem? (i := 53) rfl))) (by decide)) (Cond.privateMethod_at (mvP hZ (hw _ (List.mem_of_getElem? (i := 54) rfl)) (args := #[]))) (mvT hZ (hw _ (List.mem_of_getElem? (i := 55) rfl))) (by decide) (backOf (W := 0) (rmPl1 l Z aV hw [] a0 a1 hp kA (.ref x0) v1 v2 pa1 da1 h0 n0 Zn g_hp g_a1 O_kA E_a0 F_heap V_hp E_a1 F_d_a1 F_p_a1 ne_a0__hp ne_a0__a1 ne_hp__a1) hZ (hw _ (List.mem_of_getElem? (i := 55) rfl)) (hw _ (List.mem_of_getElem? (i := 32) rfl)) (by decide) (by decide)) (g := (mkF m 55 #[.val (.ref a0), .val (.ref a1), .val (.int (1 : Int32)), .val (.int (1 : Int32)), .val (.int (0 : Int32))] [(.int (1 : Int32)), (.ref a1), (.ref a0)])) rfl (by rw [hml]; rfl) (Steps.refl _) (a := a0) (by rw [e4]; exact q5) q5' (argsL := [(.ref a1), (.int (1 : Int32))]) (rest := []) (lenOf pd_3 rfl) rfl (by show 2 * 0 + _ ≤ _; exact Nat.le_of_eq rfl) (hb hby d8_55) (fun _ _ => ⟨rfl, e4, (by decide : 0 + 0 ≤ _), (by decide : 0 + 0 ≤ _)⟩)
  dsimp only [Pt.U, Pt.locs, Pt.cells, Pt.slots] at X5 l5 y5 z5 st5 hQ5
  subst l5 y5 z5
  obtain ⟨rfl, N5q, K5, q5_0, q5_1, q5_2, q5_3⟩ := hQ5
  have E_a0 := E_a0.keep K5
  have F_heap := F_heap.keep K5 (ninS ne_a0__hp (ninS ne_a0__a1 nin0))
  have E_x0 := E_x0.keep K5
  have F_d_x0 := F_d_x0.keep K5 (ninS (Ne.symm ne_hp__x0) (ninS (Ne.symm ne_a1__x0) nin0))
  have F_p_x0 := F_p_x0.keep K5 (ninS (Ne.symm ne_hp__x0) (ninS (Ne.symm ne_a1__x0) nin0))
  have V_hp := q5_0
  have E_a1 := q5_1
  have F_d_a1 := q5_2
  have F_p_a1 := q5_3
  have Kp := Kp.trans K5 (allS (Or.inl (by simp)) (allS (Or.inl (by simp)) all0))
  have Zn := Nat.le_trans Zn K5.1
  have N5 := Fr.app N4 N5q
  refine Run.st (S' := T5.setTop (mkF m 58 #[.val (.ref a0), .val (.ref a1), .val (.int (1 : Int32)), .val (.int (1 : Int32)), .val (.int (0 : Int32))] [])) (fun _ k => st5.trans k) ?_
  refine Run.outV X5 hx Bd.notSynchronized Bd.returns (hb hby d8_58) (by decide) (by decide) ?_
  exact ⟨rfl, N5, Kp, V_hp, E_a1, F_d_a1, F_p_a1⟩
theorem d8_34 : decode prog_43_method_7_code 34 = .ok (.aload_n 0, 1) := by decide +kernel
theorem d8_35 : decode prog_43_method_7_code 35 = .ok (.aload_n 0, 1) := by decide +kernel
theorem d8_36 : decode prog_43_method_7_code 36 = .ok (.getfield 11, 3) := by decide +kernel
theorem d8_39 : decode prog_43_method_7_code 39 = .ok (.iload 4, 2) := by decide +kernel
theorem d8_41 : decode prog_43_method_7_code 41 = .ok (.aaload, 1) := by decide +kernel
theorem d8_42 : decode prog_43_method_7_code 42 = .ok (.iload_n 3, 1) := by decide +kernel
theorem d8_43 : decode prog_43_method_7_code 43 = .ok (.invokevirtual 38, 3) := by decide +kernel
theorem d8_46 : decode prog_43_method_7_code 46 = .ok (.iload 4, 2) := by decide +kernel
theorem d8_48 : decode prog_43_method_7_code 48 = .ok (.istore_n 3, 1) := by decide +kernel
theorem d8_49 : decode prog_43_method_7_code 49 = .ok (.goto (-47), 3) := by decide +kernel
theorem ef_Mu1s (m : MethodId) (a0 : Addr) (a1 : Addr) : entryFrame m #[(.ref a0), (.ref a1), (.int (1 : Int32))] 5 = mkF m 0 #[.val (.ref a0), .val (.ref a1), .val (.int (1 : Int32)), .unset, .unset] [] := by first | (simp [entryFrame, mkF, argsToLocals, Value.category]; done) | rfl
def QMu1s (Z : State) (a0 : Addr) (a1 : Addr) (hp : Addr) (kA : ClassId) (v1 : Value) (v2 : Value) (da1 : Int64) (pa1 : Int32) (x0 : Addr) (dx0 : Int64) (px0 : Int32) (h0 : Heap) (n0 : Nat) (v : Option Value) (h : Heap) (L : List Loc) : Prop := v = none ∧ Fr n0 L ∧ Keep h0 h [hp, a1, x0] ∧ Arv Z h hp kA (.object "com/example/keys_to_structures/keystostructures/store/TimedEntry") (16 : Int32) [(.ref a1), (.ref x0), v2, .null, .null, .null, .null, .null, .null, .null, .null, .null, .null, .null, .null, .null] .null ∧ Exa Z h a1 "com/example/keys_to_structures/keystostructures/store/TimedEntry" ∧ Fld Z h a1 "com/example/keys_to_structures/keystostructures/store/TimedEntry" "deadline" "J" (.long da1) ∧ Fld Z h a1 "com/example/keys_to_structures/keystostructures/store/TimedEntry" "position" "I" (.int (0 : Int32)) ∧ Exa Z h x0 "com/example/keys_to_structures/keystostructures/store/TimedEntry" ∧ Fld Z h x0 "com/example/keys_to_structures/keystostructures/store/TimedEntry" "deadline" "J" (.long dx0) ∧ Fld Z h x0 "com/example/keys_to_structures/keystostructures/store/TimedEntry" "position" "I" (.int (1 : Int32))
set_option maxRecDepth 65536 in
set_option maxHeartbeats 40000000 in
theorem rmMu1s (l : Launch) (Z : State) (aV : Array Value) (hw : ∀ d ∈ tables_1, d.before aV Z = true) (ws : List Jvm.Cond) (a0 : Addr) (a1 : Addr) (hp : Addr) (kA : ClassId) (v1 : Value) (v2 : Value) (da1 : Int64) (pa1 : Int32) (x0 : Addr) (dx0 : Int64) (px0 : Int32) (h0 : Heap) (n0 : Nat) (Zn : n0 ≤ h0.size) (g_hp : n0 ≤ hp) (O_kA : Ovr Z kA "com/example/keys_to_structures/keystostructures/store/TimedEntry") (g_a1 : n0 ≤ a1) (g_x0 : n0 ≤ x0) (E_a0 : Exa Z h0 a0 "com/example/keys_to_structures/keystostructures/store/ExpiryQueue") (F_heap : Fld Z h0 a0 "com/example/keys_to_structures/keystostructures/store/ExpiryQueue" "heap" "[Lcom/example/keys_to_structures/keystostructures/store/TimedEntry;" (.ref hp)) (V_hp : Arv Z h0 hp kA (.object "com/example/keys_to_structures/keystostructures/store/TimedEntry") (16 : Int32) [(.ref x0), v1, v2, .null, .null, .null, .null, .null, .null, .null, .null, .null, .null, .null, .null, .null] .null) (E_a1 : Exa Z h0 a1 "com/example/keys_to_structures/keystostructures/store/TimedEntry") (F_d_a1 : Fld Z h0 a1 "com/example/keys_to_structures/keystostructures/store/TimedEntry" "deadline" "J" (.long da1)) (F_p_a1 : Fld Z h0 a1 "com/example/keys_to_structures/keystostructures/store/TimedEntry" "position" "I" (.int pa1)) (E_x0 : Exa Z h0 x0 "com/example/keys_to_structures/keystostructures/store/TimedEntry") (F_d_x0 : Fld Z h0 x0 "com/example/keys_to_structures/keystostructures/store/TimedEntry" "deadline" "J" (.long dx0)) (F_p_x0 : Fld Z h0 x0 "com/example/keys_to_structures/keystostructures/store/TimedEntry" "position" "I" (.int px0)) (ne_a0__hp : a0 ≠ hp) (ne_a0__a1 : a0 ≠ a1) (ne_a0__x0 : a0 ≠ x0) (ne_hp__a1 : hp ≠ a1) (ne_hp__x0 : hp ≠ x0) (ne_a1__x0 : a1 ≠ x0) (hsw : da1 < dx0) :
    MetFree l (⟨"com/example/keys_to_structures/keystostructures/store/ExpiryQueue", "moveUp", "(Lcom/example/keys_to_structures/keystostructures/store/TimedEntry;I)V"⟩ : MethodName) (head1 (Jvm.Cond.code (⟨"com/example/keys_to_structures/keystostructures/store/ExpiryQueue", "moveUp", "(Lcom/example/keys_to_structures/keystostructures/store/TimedEntry;I)V"⟩ : MethodName) prog_43_method_7_code 5 none :: ws) ({ frames := 2, cells := 0, slots := 0, locals := 27 } : Room)) (fun a U => a = #[(.ref a0), (.ref a1), (.int (1 : Int32))] ∧ Z.Warmed39 U.vm ∧ U.heap = h0) (fun _ _ _ _ _ => True) (fun _ U o U' => ∃ v L, o = .returned v ∧ QMu1s Z a0 a1 hp kA v1 v2 da1 pa1 x0 dx0 px0 h0 n0 v U'.heap L ∧ FrameEnd U o U' L ({ frames := 2, cells := 0, slots := 0, locals := 27 } : Room).cells ({ frames := 2, cells := 0, slots := 0, locals := 27 } : Room).slots) := by
  refine MetFree.of_bodySF (plainFor_of_name pn_4) hisR ?_
  intro p e s m args below meth c s₁ Bd hml0 hP hK
  obtain ⟨rfl, hZ, hh⟩ := hP
  have hx := Bd.exec
  have hby := Bd.bytes
  have hml : c.maxLocals = 5 := hml0
  have hown : s.vm.findClass "com/example/keys_to_structures/keystostructures/store/ExpiryQueue" = some m.cls := findClass_of_methodNamed Bd.named
  have hnm := (name_of_methodNamed Bd.named Bd.method).1
  have X0 : Stand p l e ({ frames := 2, cells := 0, slots := 0, locals := 27 } : Room) s m #[(.ref a0), (.ref a1), (.int (1 : Int32))] below meth c s₁ [] 0 0 := Stand.of_body Bd
  have e0 : s₁.heap = h0 := by rw [← hh, Bd.state]; rfl
  have N0 := Fr.nil n0
  have Kp := Keep.refl h0 [hp, a1, x0]
  show Run p e below (Ends s (QMu1s Z a0 a1 hp kA v1 v2 da1 pa1 x0 dx0 px0 h0 n0) ({ frames := 2, cells := 0, slots := 0, locals := 27 } : Room).cells ({ frames := 2, cells := 0, slots := 0, locals := 27 } : Room).slots) _
  refine Run.st (S' := s₁.setTop (mkF m 0 #[.val (.ref a0), .val (.ref a1), .val (.int (1 : Int32)), .unset, .unset] [])) (fun t k => castTop (ef_Mu1s m a0 a1) k) ?_
  refine Run.st (S' := s₁.setTop (mkF m 10 #[.val (.ref a0), .val (.ref a1), .val (.int (1 : Int32)), .val (.int (1 : Int32)), .unset] [(.int (2 : Int32)), (.int (0 : Int32))])) (fun _ k => XS.iloadN X0.here hx rfl (hb hby d8_0) rfl (XS.istoreN X0.here hx rfl (hb hby d8_1) rfl (l' := #[.val (.ref a0), .val (.ref a1), .val (.int (1 : Int32)), .val (.int (1 : Int32)), .unset]) rfl (XS.iloadN X0.here hx rfl (hb hby d8_2) rfl (XS.ifNo X0.here hx rfl (hb hby d8_3) rfl ((if0 _ _).trans (tlt (show (0 : Int32) < (1 : Int32) from (by decide))).2.2.2) (XS.iloadN X0.here hx rfl (hb hby d8_6) rfl (XS.iconst X0.here hx rfl (hb hby d8_7) (XS.isub X0.here hx rfl (hb hby d8_8) rfl (XS.iconst X0.here hx rfl (hb hby d8_9) k)))))))) ?_
  refine Run.st (S' := s₁.setTop (mkF m 14 #[.val (.ref a0), .val (.ref a1), .val (.int (1 : Int32)), .val (.int (1 : Int32)), .val (.int (0 : Int32))] [(.ref a0)])) (fun _ k => XS.idiv X0.here hx rfl (hb hby d8_10) rfl (by decide) (XS.istore X0.here hx rfl (hb hby d8_11) rfl (l' := #[.val (.ref a0), .val (.ref a1), .val (.int (1 : Int32)), .val (.int (1 : Int32)), .val (.int (0 : Int32))]) rfl (XS.aloadN X0.here hx rfl (hb hby d8_13) rfl rfl k))) ?_
  obtain ⟨T1, X1, e1, st1⟩ := getF X0 hx hZ hown (host := "") (Or.inl (hw _ (List.mem_of_getElem? (i := 39) rfl))) Via.refl e0 F_heap (g := (mkF m 14 #[.val (.ref a0), .val (.ref a1), .val (.int (1 : Int32)), .val (.int (1 : Int32)), .val (.int (0 : Int32))] [(.ref a0)])) rfl rfl (hb hby d8_14)
  refine Run.st (S' := T1.setTop (mkF m 19 #[.val (.ref a0), .val (.ref a1), .val (.int (1 : Int32)), .val (.int (1 : Int32)), .val (.int (0 : Int32))] [(.int (0 : Int32)), (.ref hp)])) (fun _ k => st1 _ (XS.iload X1.here hx rfl (hb hby d8_17) rfl k)) ?_
  obtain ⟨cl2, Ar2, qa2, Sa2, Na2, Ha2, Ga2⟩ := id V_hp
  have hin2 : ¬ ((0 : Int32) < 0 ∨ cl2.slots.size ≤ ((0 : Int32)).toNatClampNeg) := inb_of Sa2 ⟨by decide, by decide⟩
  have hat2 : cl2.slots[((0 : Int32)).toNatClampNeg]? = some (.ref x0) := Has.at Ha2 hin2 rfl
  refine Run.st (S' := T1.setTop (mkF m 20 #[.val (.ref a0), .val (.ref a1), .val (.int (1 : Int32)), .val (.int (1 : Int32)), .val (.int (0 : Int32))] [(.ref x0)])) (fun _ k => X1.aaload hx (j := (0 : Int32)) (v := (.ref x0)) (by rw [e1]; exact Ar2.1) (State.isArrayOf_alike hZ.alike Ar2.2.1) rfl Ar2.2.2 hin2 hat2 (g := (mkF m 19 #[.val (.ref a0), .val (.ref a1), .val (.int (1 : Int32)), .val (.int (1 : Int32)), .val (.int (0 : Int32))] [(.int (0 : Int32)), (.ref hp)])) rfl rfl (hb hby d8_19) _ k) ?_
  obtain ⟨cq3, kq3, q3a, q3b, q3c⟩ := isOf hZ e1 E_x0
  obtain ⟨_, _, ⟨T3, L3, k3, n3⟩, -, X3, ⟨Lc3, hQ3, l3, y3, z3⟩, st3⟩ := X1.virtualBack hx (y := (⟨"com/example/keys_to_structures/keystostructures/store/TimedEntry", "deadline", "()J"⟩ : MethodName)) (z := (⟨"com/example/keys_to_structures/keystostructures/store/TimedEntry", "deadline", "()J"⟩ : MethodName)) hown (mvT hZ (hw _ (List.mem_of_getElem? (i := 64) rfl))) (mvT hZ (hw _ (List.mem_of_getElem? (i := 65) rfl))) (notFace_of_selects (args := #[]) (mvT hZ (hw _ (List.mem_of_getElem? (i := 67) rfl)))) (mvT hZ (hw _ (List.mem_of_getElem? (i := 67) rfl))) (mvT hZ (hw _ (List.mem_of_getElem? (i := 66) rfl))) (by decide) (backOf (W := 0) (rmDl l Z aV hw [] x0 dx0 h0 n0 Zn F_d_x0) hZ (hw _ (List.mem_of_getElem? (i := 68) rfl)) (hw _ (List.mem_of_getElem? (i := 2) rfl)) (by decide) (by decide)) q3a q3c (g := (mkF m 20 #[.val (.ref a0), .val (.ref a1), .val (.int (1 : Int32)), .val (.int (1 : Int32)), .val (.int (0 : Int32))] [(.ref x0)])) rfl (by rw [hml]; rfl) (Steps.refl _) (argsL := []) (rest := []) (lenOf pd_4 rfl) rfl (by show 2 * 0 + _ ≤ _; exact Nat.le_of_eq rfl) (hb hby d8_20) (fun _ _ => ⟨rfl, e1, (by decide : 0 + 0 ≤ _), (by decide : 0 + 0 ≤ _)⟩)
  dsimp only [Pt.U, Pt.locs, Pt.cells, Pt.slots] at X3 l3 y3 z3 st3 hQ3
  subst l3 y3 z3
  obtain ⟨rfl, N3q, e3⟩ := hQ3
  have N3 := Fr.app N0 N3q
  refine Run.st (S' := T3.setTop (mkF m 24 #[.val (.ref a0), .val (.ref a1), .val (.int (1 : Int32)), .val (.int (1 : Int32)), .val (.int (0 : Int32))] [(.ref a1), (.long dx0)])) (fun _ k => st3.trans (XS.aloadN X3.here hx rfl (hb hby d8_23) rfl rfl k)) ?_
  obtain ⟨cq4, kq4, q4a, q4b, q4c⟩ := isOf hZ e3 E_a1
  obtain ⟨_, _, ⟨T4, L4, k4, n4⟩, -, X4, ⟨Lc4, hQ4, l4, y4, z4⟩, st4⟩ := X3.virtualBack hx (y := (⟨"com/example/keys_to_structures/keystostructures/store/TimedEntry", "deadline", "()J"⟩ : MethodName)) (z := (⟨"com/example/keys_to_structures/keystostructures/store/TimedEntry", "deadline", "()J"⟩ : MethodName)) hown (mvT hZ (hw _ (List.mem_of_getElem? (i := 64) rfl))) (mvT hZ (hw _ (List.mem_of_getElem? (i := 65) rfl))) (notFace_of_selects (args := #[]) (mvT hZ (hw _ (List.mem_of_getElem? (i := 67) rfl)))) (mvT hZ (hw _ (List.mem_of_getElem? (i := 67) rfl))) (mvT hZ (hw _ (List.mem_of_getElem? (i := 66) rfl))) (by decide) (backOf (W := 2) (rmDl l Z aV hw [] a1 da1 h0 n0 Zn F_d_a1) hZ (hw _ (List.mem_of_getElem? (i := 68) rfl)) (hw _ (List.mem_of_getElem? (i := 2) rfl)) (by decide) (by decide)) q4a q4c (g := (mkF m 24 #[.val (.ref a0), .val (.ref a1), .val (.int (1 : Int32)), .val (.int (1 : Int32)), .val (.int (0 : Int32))] [(.ref a1), (.long dx0)])) rfl (by rw [hml]; rfl) (Steps.refl _) (argsL := []) (rest := [(.long dx0)]) (lenOf pd_4 rfl) rfl (by show 2 * 0 + _ ≤ _; exact Nat.le_of_eq rfl) (hb hby d8_24) (fun _ _ => ⟨rfl, e3, (by decide : 0 + 0 ≤ _), (by decide : 0 + 0 ≤ _)⟩)
  dsimp only [Pt.U, Pt.locs, Pt.cells, Pt.slots] at X4 l4 y4 z4 st4 hQ4
  subst l4 y4 z4
  obtain ⟨rfl, N4q, e4⟩ := hQ4
  have N4 := Fr.app N3 N4q
  refine Run.st (S' := T4.setTop (mkF m 36 #[.val (.ref a0), .val (.ref a1), .val (.int (1 : Int32)), .val (.int (1 : Int32)), .val (.int (0 : Int32))] [(.ref a0), (.ref a0)])) (fun _ k => st4.trans (XS.lcmp X4.here hx rfl (hb hby d8_27) rfl (XS.ifYes X4.here hx rfl (pc0 := 28) (pc' := 34) rfl (hb hby d8_28) rfl (lcYes (Jvm.Free.XT.ll_gt_t (show da1 < dx0 from hsw))) (by decide) (by decide) (XS.aloadN X4.here hx rfl (hb hby d8_34) rfl rfl (XS.aloadN X4.here hx rfl (hb hby d8_35) rfl rfl k))))) ?_
  obtain ⟨T5, X5, e5, st5⟩ := getF X4 hx hZ hown (host := "") (Or.inl (hw _ (List.mem_of_getElem? (i := 39) rfl))) Via.refl e4 F_heap (g := (mkF m 36 #[.val (.ref a0), .val (.ref a1), .val (.int (1 : Int32)), .val (.int (1 : Int32)), .val (.int (0 : Int32))] [(.ref a0), (.ref a0)])) rfl rfl (hb hby d8_36)
  refine Run.st (S' := T5.setTop (mkF m 41 #[.val (.ref a0), .val (.ref a1), .val (.int (1 : Int32)), .val (.int (1 : Int32)), .val (.int (0 : Int32))] [(.int (0 : Int32)), (.ref hp), (.ref a0)])) (fun _ k => st5 _ (XS.iload X5.here hx rfl (hb hby d8_39) rfl k)) ?_
  obtain ⟨cl6, Ar6, qa6, Sa6, Na6, Ha6, Ga6⟩ := id V_hp
  have hin6 : ¬ ((0 : Int32) < 0 ∨ cl6.slots.size ≤ ((0 : Int32)).toNatClampNeg) := inb_of Sa6 ⟨by decide, by decide⟩
  have hat6 : cl6.slots[((0 : Int32)).toNatClampNeg]? = some (.ref x0) := Has.at Ha6 hin6 rfl
  refine Run.st (S' := T5.setTop (mkF m 43 #[.val (.ref a0), .val (.ref a1), .val (.int (1 : Int32)), .val (.int (1 : Int32)), .val (.int (0 : Int32))] [(.int (1 : Int32)), (.ref x0), (.ref a0)])) (fun _ k => X5.aaload hx (j := (0 : Int32)) (v := (.ref x0)) (by rw [e5]; exact Ar6.1) (State.isArrayOf_alike hZ.alike Ar6.2.1) rfl Ar6.2.2 hin6 hat6 (g := (mkF m 41 #[.val (.ref a0), .val (.ref a1), .val (.int (1 : Int32)), .val (.int (1 : Int32)), .val (.int (0 : Int32))] [(.int (0 : Int32)), (.ref hp), (.ref a0)])) rfl rfl (hb hby d8_41) _ (XS.iloadN X5.here hx rfl (hb hby d8_42) rfl k)) ?_
  obtain ⟨cq7, q7, q7'⟩ := E_a0.cell
  obtain ⟨_, _, ⟨T7, L7, k7, n7⟩, -, X7, ⟨Lc7, hQ7, l7, y7, z7⟩, st7⟩ := X5.privateBack hx (y := (⟨"com/example/keys_to_structures/keystostructures/store/ExpiryQueue", "place", "(Lcom/example/keys_to_structures/keystostructures/store/TimedEntry;I)V"⟩ : MethodName)) hown (mvT hZ (hw _ (List.mem_of_getElem? (i := 52) rfl))) (mvT hZ (hw _ (List.mem_of_getElem? (i := 53) rfl))) (selSelf (y := (⟨"com/example/keys_to_structures/keystostructures/store/ExpiryQueue", "place", "(Lcom/example/keys_to_structures/keystostructures/store/TimedEntry;I)V"⟩ : MethodName)) (mvT hZ (hw _ (List.mem_of_getElem? (i := 31) rfl))) (Cond.privateMethod_at (mvP hZ (hw _ (List.mem_of_getElem? (i := 54) rfl)) (args := #[]))) (mvT hZ (hw _ (List.mem_of_getElem? (i := 53) rfl))) (by decide)) (Cond.privateMethod_at (mvP hZ (hw _ (List.mem_of_getElem? (i := 54) rfl)) (args := #[]))) (mvT hZ (hw _ (List.mem_of_getElem? (i := 55) rfl))) (by decide) (backOf (W := 0) (rmPl1 l Z aV hw [] a0 x0 hp kA (.ref x0) v1 v2 px0 dx0 h0 n0 Zn g_hp g_x0 O_kA E_a0 F_heap V_hp E_x0 F_d_x0 F_p_x0 ne_a0__hp ne_a0__x0 ne_hp__x0) hZ (hw _ (List.mem_of_getElem? (i := 55) rfl)) (hw _ (List.mem_of_getElem? (i := 32) rfl)) (by decide) (by decide)) (g := (mkF m 43 #[.val (.ref a0), .val (.ref a1), .val (.int (1 : Int32)), .val (.int (1 : Int32)), .val (.int (0 : Int32))] [(.int (1 : Int32)), (.ref x0), (.ref a0)])) rfl (by rw [hml]; rfl) (Steps.refl _) (a := a0) (by rw [e5]; exact q7) q7' (argsL := [(.ref x0), (.int (1 : Int32))]) (rest := []) (lenOf pd_3 rfl) rfl (by show 2 * 0 + _ ≤ _; exact Nat.le_of_eq rfl) (hb hby d8_43) (fun _ _ => ⟨rfl, e5, (by decide : 0 + 0 ≤ _), (by decide : 0 + 0 ≤ _)⟩)
  dsimp only [Pt.U, Pt.locs, Pt.cells, Pt.slots] at X7 l7 y7 z7 st7 hQ7
  subst l7 y7 z7
  obtain ⟨rfl, N7q, K7, q7_0, q7_1, q7_2, q7_3⟩ := hQ7
  have E_a0 := E_a0.keep K7
  have F_heap := F_heap.keep K7 (ninS ne_a0__hp (ninS ne_a0__x0 nin0))
  have E_a1 := E_a1.keep K7
  have F_d_a1 := F_d_a1.keep K7 (ninS (Ne.symm ne_hp__a1) (ninS ne_a1__x0 nin0))
  have F_p_a1 := F_p_a1.keep K7 (ninS (Ne.symm ne_hp__a1) (ninS ne_a1__x0 nin0))
  have V_hp := q7_0
  have E_x0 := q7_1
  have F_d_x0 := q7_2
  have F_p_x0 := q7_3
  have Kp := Kp.trans K7 (allS (Or.inl (by simp)) (allS (Or.inl (by simp)) all0))
  have Zn := Nat.le_trans Zn K7.1
  have N7 := Fr.app N4 N7q
  refine Run.st (S' := T7.setTop (mkF m 54 #[.val (.ref a0), .val (.ref a1), .val (.int (1 : Int32)), .val (.int (0 : Int32)), .val (.int (0 : Int32))] [(.ref a1), (.ref a0)])) (fun _ k => st7.trans (XS.iload X7.here hx rfl (hb hby d8_46) rfl (XS.istoreN X7.here hx rfl (hb hby d8_48) rfl (l' := #[.val (.ref a0), .val (.ref a1), .val (.int (1 : Int32)), .val (.int (0 : Int32)), .val (.int (0 : Int32))]) rfl (XS.goto X7.here hx rfl (pc0 := 49) (pc' := 2) rfl (hb hby d8_49) (by decide) (by decide) (XS.iloadN X7.here hx rfl (hb hby d8_2) rfl (XS.ifYes X7.here hx rfl (pc0 := 3) (pc' := 52) rfl (hb hby d8_3) rfl ((if0 _ _).trans (flt (show ¬ ((0 : Int32) < (0 : Int32)) from (by decide))).2.2.2) (by decide) (by decide) (XS.aloadN X7.here hx rfl (hb hby d8_52) rfl rfl (XS.aloadN X7.here hx rfl (hb hby d8_53) rfl rfl k)))))))) ?_
  refine Run.st (S' := T7.setTop (mkF m 55 #[.val (.ref a0), .val (.ref a1), .val (.int (1 : Int32)), .val (.int (0 : Int32)), .val (.int (0 : Int32))] [(.int (0 : Int32)), (.ref a1), (.ref a0)])) (fun _ k => XS.iloadN X7.here hx rfl (hb hby d8_54) rfl k) ?_
  obtain ⟨cq8, q8, q8'⟩ := E_a0.cell
  obtain ⟨_, _, ⟨T8, L8, k8, n8⟩, -, X8, ⟨Lc8, hQ8, l8, y8, z8⟩, st8⟩ := X7.privateBack hx (y := (⟨"com/example/keys_to_structures/keystostructures/store/ExpiryQueue", "place", "(Lcom/example/keys_to_structures/keystostructures/store/TimedEntry;I)V"⟩ : MethodName)) hown (mvT hZ (hw _ (List.mem_of_getElem? (i := 52) rfl))) (mvT hZ (hw _ (List.mem_of_getElem? (i := 53) rfl))) (selSelf (y := (⟨"com/example/keys_to_structures/keystostructures/store/ExpiryQueue", "place", "(Lcom/example/keys_to_structures/keystostructures/store/TimedEntry;I)V"⟩ : MethodName)) (mvT hZ (hw _ (List.mem_of_getElem? (i := 31) rfl))) (Cond.privateMethod_at (mvP hZ (hw _ (List.mem_of_getElem? (i := 54) rfl)) (args := #[]))) (mvT hZ (hw _ (List.mem_of_getElem? (i := 53) rfl))) (by decide)) (Cond.privateMethod_at (mvP hZ (hw _ (List.mem_of_getElem? (i := 54) rfl)) (args := #[]))) (mvT hZ (hw _ (List.mem_of_getElem? (i := 55) rfl))) (by decide) (backOf (W := 0) (rmPl0 l Z aV hw [] a0 a1 hp kA (.ref x0) (.ref x0) v2 pa1 da1 T7.heap n0 Zn g_hp g_a1 O_kA E_a0 F_heap V_hp E_a1 F_d_a1 F_p_a1 ne_a0__hp ne_a0__a1 ne_hp__a1) hZ (hw _ (List.mem_of_getElem? (i := 55) rfl)) (hw _ (List.mem_of_getElem? (i := 32) rfl)) (by decide) (by decide)) (g := (mkF m 55 #[.val (.ref a0), .val (.ref a1), .val (.int (1 : Int32)), .val (.int (0 : Int32)), .val (.int (0 : Int32))] [(.int (0 : Int32)), (.ref a1), (.ref a0)])) rfl (by rw [hml]; rfl) (Steps.refl _) (a := a0) q8 q8' (argsL := [(.ref a1), (.int (0 : Int32))]) (rest := []) (lenOf pd_3 rfl) rfl (by show 2 * 0 + _ ≤ _; exact Nat.le_of_eq rfl) (hb hby d8_55) (fun _ _ => ⟨rfl, rfl, (by decide : 0 + 0 ≤ _), (by decide : 0 + 0 ≤ _)⟩)
  dsimp only [Pt.U, Pt.locs, Pt.cells, Pt.slots] at X8 l8 y8 z8 st8 hQ8
  subst l8 y8 z8
  obtain ⟨rfl, N8q, K8, q8_0, q8_1, q8_2, q8_3⟩ := hQ8
  have E_a0 := E_a0.keep K8
  have F_heap := F_heap.keep K8 (ninS ne_a0__hp (ninS ne_a0__a1 nin0))
  have E_x0 := E_x0.keep K8
  have F_d_x0 := F_d_x0.keep K8 (ninS (Ne.symm ne_hp__x0) (ninS (Ne.symm ne_a1__x0) nin0))
  have F_p_x0 := F_p_x0.keep K8 (ninS (Ne.symm ne_hp__x0) (ninS (Ne.symm ne_a1__x0) nin0))
  have V_hp := q8_0
  have E_a1 := q8_1
  have F_d_a1 := q8_2
  have F_p_a1 := q8_3
  have Kp := Kp.trans K8 (allS (Or.inl (by simp)) (allS (Or.inl (by simp)) all0))
  have Zn := Nat.le_trans Zn K8.1
  have N8 := Fr.app N7 N8q
  refine Run.st (S' := T8.setTop (mkF m 58 #[.val (.ref a0), .val (.ref a1), .val (.int (1 : Int32)), .val (.int (0 : Int32)), .val (.int (0 : Int32))] [])) (fun _ k => st8.trans k) ?_
  refine Run.outV X8 hx Bd.notSynchronized Bd.returns (hb hby d8_58) (by decide) (by decide) ?_
  exact ⟨rfl, N8, Kp, V_hp, E_a1, F_d_a1, F_p_a1, E_x0, F_d_x0, F_p_x0⟩
theorem ef_Mu2 (m : MethodId) (a0 : Addr) (a1 : Addr) : entryFrame m #[(.ref a0), (.ref a1), (.int (2 : Int32))] 5 = mkF m 0 #[.val (.ref a0), .val (.ref a1), .val (.int (2 : Int32)), .unset, .unset] [] := by first | (simp [entryFrame, mkF, argsToLocals, Value.category]; done) | rfl
def QMu2 (Z : State) (a0 : Addr) (a1 : Addr) (hp : Addr) (kA : ClassId) (v2 : Value) (da1 : Int64) (pa1 : Int32) (x0 : Addr) (dx0 : Int64) (px0 : Int32) (x1 : Addr) (dx1 : Int64) (px1 : Int32) (h0 : Heap) (n0 : Nat) (v : Option Value) (h : Heap) (L : List Loc) : Prop := v = none ∧ Fr n0 L ∧ Keep h0 h [hp, a1] ∧ Arv Z h hp kA (.object "com/example/keys_to_structures/keystostructures/store/TimedEntry") (16 : Int32) [(.ref x0), (.ref x1), (.ref a1), .null, .null, .null, .null, .null, .null, .null, .null, .null, .null, .null, .null, .null] .null ∧ Exa Z h a1 "com/example/keys_to_structures/keystostructures/store/TimedEntry" ∧ Fld Z h a1 "com/example/keys_to_structures/keystostructures/store/TimedEntry" "deadline" "J" (.long da1) ∧ Fld Z h a1 "com/example/keys_to_structures/keystostructures/store/TimedEntry" "position" "I" (.int (2 : Int32))
set_option maxRecDepth 65536 in
set_option maxHeartbeats 40000000 in
theorem rmMu2 (l : Launch) (Z : State) (aV : Array Value) (hw : ∀ d ∈ tables_1, d.before aV Z = true) (ws : List Jvm.Cond) (a0 : Addr) (a1 : Addr) (hp : Addr) (kA : ClassId) (v2 : Value) (da1 : Int64) (pa1 : Int32) (x0 : Addr) (dx0 : Int64) (px0 : Int32) (x1 : Addr) (dx1 : Int64) (px1 : Int32) (h0 : Heap) (n0 : Nat) (Zn : n0 ≤ h0.size) (g_hp : n0 ≤ hp) (O_kA : Ovr Z kA "com/example/keys_to_structures/keystostructures/store/TimedEntry") (g_a1 : n0 ≤ a1) (g_x0 : n0 ≤ x0) (g_x1 : n0 ≤ x1) (E_a0 : Exa Z h0 a0 "com/example/keys_to_structures/keystostructures/store/ExpiryQueue") (F_heap : Fld Z h0 a0 "com/example/keys_to_structures/keystostructures/store/ExpiryQueue" "heap" "[Lcom/example/keys_to_structures/keystostructures/store/TimedEntry;" (.ref hp)) (V_hp : Arv Z h0 hp kA (.object "com/example/keys_to_structures/keystostructures/store/TimedEntry") (16 : Int32) [(.ref x0), (.ref x1), v2, .null, .null, .null, .null, .null, .null, .null, .null, .null, .null, .null, .null, .null] .null) (E_a1 : Exa Z h0 a1 "com/example/keys_to_structures/keystostructures/store/TimedEntry") (F_d_a1 : Fld Z h0 a1 "com/example/keys_to_structures/keystostructures/store/TimedEntry" "deadline" "J" (.long da1)) (F_p_a1 : Fld Z h0 a1 "com/example/keys_to_structures/keystostructures/store/TimedEntry" "position" "I" (.int pa1)) (E_x0 : Exa Z h0 x0 "com/example/keys_to_structures/keystostructures/store/TimedEntry") (F_d_x0 : Fld Z h0 x0 "com/example/keys_to_structures/keystostructures/store/TimedEntry" "deadline" "J" (.long dx0)) (F_p_x0 : Fld Z h0 x0 "com/example/keys_to_structures/keystostructures/store/TimedEntry" "position" "I" (.int px0)) (E_x1 : Exa Z h0 x1 "com/example/keys_to_structures/keystostructures/store/TimedEntry") (F_d_x1 : Fld Z h0 x1 "com/example/keys_to_structures/keystostructures/store/TimedEntry" "deadline" "J" (.long dx1)) (F_p_x1 : Fld Z h0 x1 "com/example/keys_to_structures/keystostructures/store/TimedEntry" "position" "I" (.int px1)) (ne_a0__hp : a0 ≠ hp) (ne_a0__a1 : a0 ≠ a1) (ne_a0__x0 : a0 ≠ x0) (ne_a0__x1 : a0 ≠ x1) (ne_hp__a1 : hp ≠ a1) (ne_hp__x0 : hp ≠ x0) (ne_hp__x1 : hp ≠ x1) (ne_a1__x0 : a1 ≠ x0) (ne_a1__x1 : a1 ≠ x1) (ne_x0__x1 : x0 ≠ x1) (hsw : ¬ (da1 < dx0)) :
    MetFree l (⟨"com/example/keys_to_structures/keystostructures/store/ExpiryQueue", "moveUp", "(Lcom/example/keys_to_structures/keystostructures/store/TimedEntry;I)V"⟩ : MethodName) (head1 (Jvm.Cond.code (⟨"com/example/keys_to_structures/keystostructures/store/ExpiryQueue", "moveUp", "(Lcom/example/keys_to_structures/keystostructures/store/TimedEntry;I)V"⟩ : MethodName) prog_43_method_7_code 5 none :: ws) ({ frames := 2, cells := 0, slots := 0, locals := 27 } : Room)) (fun a U => a = #[(.ref a0), (.ref a1), (.int (2 : Int32))] ∧ Z.Warmed39 U.vm ∧ U.heap = h0) (fun _ _ _ _ _ => True) (fun _ U o U' => ∃ v L, o = .returned v ∧ QMu2 Z a0 a1 hp kA v2 da1 pa1 x0 dx0 px0 x1 dx1 px1 h0 n0 v U'.heap L ∧ FrameEnd U o U' L ({ frames := 2, cells := 0, slots := 0, locals := 27 } : Room).cells ({ frames := 2, cells := 0, slots := 0, locals := 27 } : Room).slots) := by
  refine MetFree.of_bodySF (plainFor_of_name pn_4) hisR ?_
  intro p e s m args below meth c s₁ Bd hml0 hP hK
  obtain ⟨rfl, hZ, hh⟩ := hP
  have hx := Bd.exec
  have hby := Bd.bytes
  have hml : c.maxLocals = 5 := hml0
  have hown : s.vm.findClass "com/example/keys_to_structures/keystostructures/store/ExpiryQueue" = some m.cls := findClass_of_methodNamed Bd.named
  have hnm := (name_of_methodNamed Bd.named Bd.method).1
  have X0 : Stand p l e ({ frames := 2, cells := 0, slots := 0, locals := 27 } : Room) s m #[(.ref a0), (.ref a1), (.int (2 : Int32))] below meth c s₁ [] 0 0 := Stand.of_body Bd
  have e0 : s₁.heap = h0 := by rw [← hh, Bd.state]; rfl
  have N0 := Fr.nil n0
  have Kp := Keep.refl h0 [hp, a1]
  show Run p e below (Ends s (QMu2 Z a0 a1 hp kA v2 da1 pa1 x0 dx0 px0 x1 dx1 px1 h0 n0) ({ frames := 2, cells := 0, slots := 0, locals := 27 } : Room).cells ({ frames := 2, cells := 0, slots := 0, locals := 27 } : Room).slots) _
  refine Run.st (S' := s₁.setTop (mkF m 0 #[.val (.ref a0), .val (.ref a1), .val (.int (2 : Int32)), .unset, .unset] [])) (fun t k => castTop (ef_Mu2 m a0 a1) k) ?_
  refine Run.st (S' := s₁.setTop (mkF m 10 #[.val (.ref a0), .val (.ref a1), .val (.int (2 : Int32)), .val (.int (2 : Int32)), .unset] [(.int (2 : Int32)), (.int (1 : Int32))])) (fun _ k => XS.iloadN X0.here hx rfl (hb hby d8_0) rfl (XS.istoreN X0.here hx rfl (hb hby d8_1) rfl (l' := #[.val (.ref a0), .val (.ref a1), .val (.int (2 : Int32)), .val (.int (2 : Int32)), .unset]) rfl (XS.iloadN X0.here hx rfl (hb hby d8_2) rfl (XS.ifNo X0.here hx rfl (hb hby d8_3) rfl ((if0 _ _).trans (tlt (show (0 : Int32) < (2 : Int32) from (by decide))).2.2.2) (XS.iloadN X0.here hx rfl (hb hby d8_6) rfl (XS.iconst X0.here hx rfl (hb hby d8_7) (XS.isub X0.here hx rfl (hb hby d8_8) rfl (XS.iconst X0.here hx rfl (hb hby d8_9) k)))))))) ?_
  refine Run.st (S' := s₁.setTop (mkF m 14 #[.val (.ref a0), .val (.ref a1), .val (.int (2 : Int32)), .val (.int (2 : Int32)), .val (.int (0 : Int32))] [(.ref a0)])) (fun _ k => XS.idiv X0.here hx rfl (hb hby d8_10) rfl (by decide) (XS.istore X0.here hx rfl (hb hby d8_11) rfl (l' := #[.val (.ref a0), .val (.ref a1), .val (.int (2 : Int32)), .val (.int (2 : Int32)), .val (.int (0 : Int32))]) rfl (XS.aloadN X0.here hx rfl (hb hby d8_13) rfl rfl k))) ?_
  obtain ⟨T1, X1, e1, st1⟩ := getF X0 hx hZ hown (host := "") (Or.inl (hw _ (List.mem_of_getElem? (i := 39) rfl))) Via.refl e0 F_heap (g := (mkF m 14 #[.val (.ref a0), .val (.ref a1), .val (.int (2 : Int32)), .val (.int (2 : Int32)), .val (.int (0 : Int32))] [(.ref a0)])) rfl rfl (hb hby d8_14)
  refine Run.st (S' := T1.setTop (mkF m 19 #[.val (.ref a0), .val (.ref a1), .val (.int (2 : Int32)), .val (.int (2 : Int32)), .val (.int (0 : Int32))] [(.int (0 : Int32)), (.ref hp)])) (fun _ k => st1 _ (XS.iload X1.here hx rfl (hb hby d8_17) rfl k)) ?_
  obtain ⟨cl2, Ar2, qa2, Sa2, Na2, Ha2, Ga2⟩ := id V_hp
  have hin2 : ¬ ((0 : Int32) < 0 ∨ cl2.slots.size ≤ ((0 : Int32)).toNatClampNeg) := inb_of Sa2 ⟨by decide, by decide⟩
  have hat2 : cl2.slots[((0 : Int32)).toNatClampNeg]? = some (.ref x0) := Has.at Ha2 hin2 rfl
  refine Run.st (S' := T1.setTop (mkF m 20 #[.val (.ref a0), .val (.ref a1), .val (.int (2 : Int32)), .val (.int (2 : Int32)), .val (.int (0 : Int32))] [(.ref x0)])) (fun _ k => X1.aaload hx (j := (0 : Int32)) (v := (.ref x0)) (by rw [e1]; exact Ar2.1) (State.isArrayOf_alike hZ.alike Ar2.2.1) rfl Ar2.2.2 hin2 hat2 (g := (mkF m 19 #[.val (.ref a0), .val (.ref a1), .val (.int (2 : Int32)), .val (.int (2 : Int32)), .val (.int (0 : Int32))] [(.int (0 : Int32)), (.ref hp)])) rfl rfl (hb hby d8_19) _ k) ?_
  obtain ⟨cq3, kq3, q3a, q3b, q3c⟩ := isOf hZ e1 E_x0
  obtain ⟨_, _, ⟨T3, L3, k3, n3⟩, -, X3, ⟨Lc3, hQ3, l3, y3, z3⟩, st3⟩ := X1.virtualBack hx (y := (⟨"com/example/keys_to_structures/keystostructures/store/TimedEntry", "deadline", "()J"⟩ : MethodName)) (z := (⟨"com/example/keys_to_structures/keystostructures/store/TimedEntry", "deadline", "()J"⟩ : MethodName)) hown (mvT hZ (hw _ (List.mem_of_getElem? (i := 64) rfl))) (mvT hZ (hw _ (List.mem_of_getElem? (i := 65) rfl))) (notFace_of_selects (args := #[]) (mvT hZ (hw _ (List.mem_of_getElem? (i := 67) rfl)))) (mvT hZ (hw _ (List.mem_of_getElem? (i := 67) rfl))) (mvT hZ (hw _ (List.mem_of_getElem? (i := 66) rfl))) (by decide) (backOf (W := 0) (rmDl l Z aV hw [] x0 dx0 h0 n0 Zn F_d_x0) hZ (hw _ (List.mem_of_getElem? (i := 68) rfl)) (hw _ (List.mem_of_getElem? (i := 2) rfl)) (by decide) (by decide)) q3a q3c (g := (mkF m 20 #[.val (.ref a0), .val (.ref a1), .val (.int (2 : Int32)), .val (.int (2 : Int32)), .val (.int (0 : Int32))] [(.ref x0)])) rfl (by rw [hml]; rfl) (Steps.refl _) (argsL := []) (rest := []) (lenOf pd_4 rfl) rfl (by show 2 * 0 + _ ≤ _; exact Nat.le_of_eq rfl) (hb hby d8_20) (fun _ _ => ⟨rfl, e1, (by decide : 0 + 0 ≤ _), (by decide : 0 + 0 ≤ _)⟩)
  dsimp only [Pt.U, Pt.locs, Pt.cells, Pt.slots] at X3 l3 y3 z3 st3 hQ3
  subst l3 y3 z3
  obtain ⟨rfl, N3q, e3⟩ := hQ3
  have N3 := Fr.app N0 N3q
  refine Run.st (S' := T3.setTop (mkF m 24 #[.val (.ref a0), .val (.ref a1), .val (.int (2 : Int32)), .val (.int (2 : Int32)), .val (.int (0 : Int32))] [(.ref a1), (.long dx0)])) (fun _ k => st3.trans (XS.aloadN X3.here hx rfl (hb hby d8_23) rfl rfl k)) ?_
  obtain ⟨cq4, kq4, q4a, q4b, q4c⟩ := isOf hZ e3 E_a1
  obtain ⟨_, _, ⟨T4, L4, k4, n4⟩, -, X4, ⟨Lc4, hQ4, l4, y4, z4⟩, st4⟩ := X3.virtualBack hx (y := (⟨"com/example/keys_to_structures/keystostructures/store/TimedEntry", "deadline", "()J"⟩ : MethodName)) (z := (⟨"com/example/keys_to_structures/keystostructures/store/TimedEntry", "deadline", "()J"⟩ : MethodName)) hown (mvT hZ (hw _ (List.mem_of_getElem? (i := 64) rfl))) (mvT hZ (hw _ (List.mem_of_getElem? (i := 65) rfl))) (notFace_of_selects (args := #[]) (mvT hZ (hw _ (List.mem_of_getElem? (i := 67) rfl)))) (mvT hZ (hw _ (List.mem_of_getElem? (i := 67) rfl))) (mvT hZ (hw _ (List.mem_of_getElem? (i := 66) rfl))) (by decide) (backOf (W := 2) (rmDl l Z aV hw [] a1 da1 h0 n0 Zn F_d_a1) hZ (hw _ (List.mem_of_getElem? (i := 68) rfl)) (hw _ (List.mem_of_getElem? (i := 2) rfl)) (by decide) (by decide)) q4a q4c (g := (mkF m 24 #[.val (.ref a0), .val (.ref a1), .val (.int (2 : Int32)), .val (.int (2 : Int32)), .val (.int (0 : Int32))] [(.ref a1), (.long dx0)])) rfl (by rw [hml]; rfl) (Steps.refl _) (argsL := []) (rest := [(.long dx0)]) (lenOf pd_4 rfl) rfl (by show 2 * 0 + _ ≤ _; exact Nat.le_of_eq rfl) (hb hby d8_24) (fun _ _ => ⟨rfl, e3, (by decide : 0 + 0 ≤ _), (by decide : 0 + 0 ≤ _)⟩)
  dsimp only [Pt.U, Pt.locs, Pt.cells, Pt.slots] at X4 l4 y4 z4 st4 hQ4
  subst l4 y4 z4
  obtain ⟨rfl, N4q, e4⟩ := hQ4
  have N4 := Fr.app N3 N4q
  refine Run.st (S' := T4.setTop (mkF m 55 #[.val (.ref a0), .val (.ref a1), .val (.int (2 : Int32)), .val (.int (2 : Int32)), .val (.int (0 : Int32))] [(.int (2 : Int32)), (.ref a1), (.ref a0)])) (fun _ k => st4.trans (XS.lcmp X4.here hx rfl (hb hby d8_27) rfl (XS.ifNo X4.here hx rfl (hb hby d8_28) rfl (lcYes (Jvm.Free.XT.ll_gt_f (show ¬ (da1 < dx0) from hsw))) (XS.goto X4.here hx rfl (pc0 := 31) (pc' := 52) rfl (hb hby d8_31) (by decide) (by decide) (XS.aloadN X4.here hx rfl (hb hby d8_52) rfl rfl (XS.aloadN X4.here hx rfl (hb hby d8_53) rfl rfl (XS.iloadN X4.here hx rfl (hb hby d8_54) rfl k))))))) ?_
  obtain ⟨cq5, q5, q5'⟩ := E_a0.cell
  obtain ⟨_, _, ⟨T5, L5, k5, n5⟩, -, X5, ⟨Lc5, hQ5, l5, y5, z5⟩, st5⟩ := X4.privateBack hx (y := (⟨"com/example/keys_to_structures/keystostructures/store/ExpiryQueue", "place", "(Lcom/example/keys_to_structures/keystostructures/store/TimedEntry;I)V"⟩ : MethodName)) hown (mvT hZ (hw _ (List.mem_of_getElem? (i := 52) rfl))) (mvT hZ (hw _ (List.mem_of_getElem? (i := 53) rfl))) (selSelf (y := (⟨"com/example/keys_to_structures/keystostructures/store/ExpiryQueue", "place", "(Lcom/example/keys_to_structures/keystostructures/store/TimedEntry;I)V"⟩ : MethodName)) (mvT hZ (hw _ (List.mem_of_getElem? (i := 31) rfl))) (Cond.privateMethod_at (mvP hZ (hw _ (List.mem_of_getElem? (i := 54) rfl)) (args := #[]))) (mvT hZ (hw _ (List.mem_of_getElem? (i := 53) rfl))) (by decide)) (Cond.privateMethod_at (mvP hZ (hw _ (List.mem_of_getElem? (i := 54) rfl)) (args := #[]))) (mvT hZ (hw _ (List.mem_of_getElem? (i := 55) rfl))) (by decide) (backOf (W := 0) (rmPl2 l Z aV hw [] a0 a1 hp kA (.ref x0) (.ref x1) v2 pa1 da1 h0 n0 Zn g_hp g_a1 O_kA E_a0 F_heap V_hp E_a1 F_d_a1 F_p_a1 ne_a0__hp ne_a0__a1 ne_hp__a1) hZ (hw _ (List.mem_of_getElem? (i := 55) rfl)) (hw _ (List.mem_of_getElem? (i := 32) rfl)) (by decide) (by decide)) (g := (mkF m 55 #[.val (.ref a0), .val (.ref a1), .val (.int (2 : Int32)), .val (.int (2 : Int32)), .val (.int (0 : Int32))] [(.int (2 : Int32)), (.ref a1), (.ref a0)])) rfl (by rw [hml]; rfl) (Steps.refl _) (a := a0) (by rw [e4]; exact q5) q5' (argsL := [(.ref a1), (.int (2 : Int32))]) (rest := []) (lenOf pd_3 rfl) rfl (by show 2 * 0 + _ ≤ _; exact Nat.le_of_eq rfl) (hb hby d8_55) (fun _ _ => ⟨rfl, e4, (by decide : 0 + 0 ≤ _), (by decide : 0 + 0 ≤ _)⟩)
  dsimp only [Pt.U, Pt.locs, Pt.cells, Pt.slots] at X5 l5 y5 z5 st5 hQ5
  subst l5 y5 z5
  obtain ⟨rfl, N5q, K5, q5_0, q5_1, q5_2, q5_3⟩ := hQ5
  have E_a0 := E_a0.keep K5
  have F_heap := F_heap.keep K5 (ninS ne_a0__hp (ninS ne_a0__a1 nin0))
  have E_x0 := E_x0.keep K5
  have F_d_x0 := F_d_x0.keep K5 (ninS (Ne.symm ne_hp__x0) (ninS (Ne.symm ne_a1__x0) nin0))
  have F_p_x0 := F_p_x0.keep K5 (ninS (Ne.symm ne_hp__x0) (ninS (Ne.symm ne_a1__x0) nin0))
  have E_x1 := E_x1.keep K5
  have F_d_x1 := F_d_x1.keep K5 (ninS (Ne.symm ne_hp__x1) (ninS (Ne.symm ne_a1__x1) nin0))
  have F_p_x1 := F_p_x1.keep K5 (ninS (Ne.symm ne_hp__x1) (ninS (Ne.symm ne_a1__x1) nin0))
  have V_hp := q5_0
  have E_a1 := q5_1
  have F_d_a1 := q5_2
  have F_p_a1 := q5_3
  have Kp := Kp.trans K5 (allS (Or.inl (by simp)) (allS (Or.inl (by simp)) all0))
  have Zn := Nat.le_trans Zn K5.1
  have N5 := Fr.app N4 N5q
  refine Run.st (S' := T5.setTop (mkF m 58 #[.val (.ref a0), .val (.ref a1), .val (.int (2 : Int32)), .val (.int (2 : Int32)), .val (.int (0 : Int32))] [])) (fun _ k => st5.trans k) ?_
  refine Run.outV X5 hx Bd.notSynchronized Bd.returns (hb hby d8_58) (by decide) (by decide) ?_
  exact ⟨rfl, N5, Kp, V_hp, E_a1, F_d_a1, F_p_a1⟩
theorem ef_Mu2s (m : MethodId) (a0 : Addr) (a1 : Addr) : entryFrame m #[(.ref a0), (.ref a1), (.int (2 : Int32))] 5 = mkF m 0 #[.val (.ref a0), .val (.ref a1), .val (.int (2 : Int32)), .unset, .unset] [] := by first | (simp [entryFrame, mkF, argsToLocals, Value.category]; done) | rfl
def QMu2s (Z : State) (a0 : Addr) (a1 : Addr) (hp : Addr) (kA : ClassId) (v2 : Value) (da1 : Int64) (pa1 : Int32) (x0 : Addr) (dx0 : Int64) (px0 : Int32) (x1 : Addr) (dx1 : Int64) (px1 : Int32) (h0 : Heap) (n0 : Nat) (v : Option Value) (h : Heap) (L : List Loc) : Prop := v = none ∧ Fr n0 L ∧ Keep h0 h [hp, a1, x0] ∧ Arv Z h hp kA (.object "com/example/keys_to_structures/keystostructures/store/TimedEntry") (16 : Int32) [(.ref a1), (.ref x1), (.ref x0), .null, .null, .null, .null, .null, .null, .null, .null, .null, .null, .null, .null, .null] .null ∧ Exa Z h a1 "com/example/keys_to_structures/keystostructures/store/TimedEntry" ∧ Fld Z h a1 "com/example/keys_to_structures/keystostructures/store/TimedEntry" "deadline" "J" (.long da1) ∧ Fld Z h a1 "com/example/keys_to_structures/keystostructures/store/TimedEntry" "position" "I" (.int (0 : Int32)) ∧ Exa Z h x0 "com/example/keys_to_structures/keystostructures/store/TimedEntry" ∧ Fld Z h x0 "com/example/keys_to_structures/keystostructures/store/TimedEntry" "deadline" "J" (.long dx0) ∧ Fld Z h x0 "com/example/keys_to_structures/keystostructures/store/TimedEntry" "position" "I" (.int (2 : Int32))
set_option maxRecDepth 65536 in
set_option maxHeartbeats 40000000 in
theorem rmMu2s (l : Launch) (Z : State) (aV : Array Value) (hw : ∀ d ∈ tables_1, d.before aV Z = true) (ws : List Jvm.Cond) (a0 : Addr) (a1 : Addr) (hp : Addr) (kA : ClassId) (v2 : Value) (da1 : Int64) (pa1 : Int32) (x0 : Addr) (dx0 : Int64) (px0 : Int32) (x1 : Addr) (dx1 : Int64) (px1 : Int32) (h0 : Heap) (n0 : Nat) (Zn : n0 ≤ h0.size) (g_hp : n0 ≤ hp) (O_kA : Ovr Z kA "com/example/keys_to_structures/keystostructures/store/TimedEntry") (g_a1 : n0 ≤ a1) (g_x0 : n0 ≤ x0) (g_x1 : n0 ≤ x1) (E_a0 : Exa Z h0 a0 "com/example/keys_to_structures/keystostructures/store/ExpiryQueue") (F_heap : Fld Z h0 a0 "com/example/keys_to_structures/keystostructures/store/ExpiryQueue" "heap" "[Lcom/example/keys_to_structures/keystostructures/store/TimedEntry;" (.ref hp)) (V_hp : Arv Z h0 hp kA (.object "com/example/keys_to_structures/keystostructures/store/TimedEntry") (16 : Int32) [(.ref x0), (.ref x1), v2, .null, .null, .null, .null, .null, .null, .null, .null, .null, .null, .null, .null, .null] .null) (E_a1 : Exa Z h0 a1 "com/example/keys_to_structures/keystostructures/store/TimedEntry") (F_d_a1 : Fld Z h0 a1 "com/example/keys_to_structures/keystostructures/store/TimedEntry" "deadline" "J" (.long da1)) (F_p_a1 : Fld Z h0 a1 "com/example/keys_to_structures/keystostructures/store/TimedEntry" "position" "I" (.int pa1)) (E_x0 : Exa Z h0 x0 "com/example/keys_to_structures/keystostructures/store/TimedEntry") (F_d_x0 : Fld Z h0 x0 "com/example/keys_to_structures/keystostructures/store/TimedEntry" "deadline" "J" (.long dx0)) (F_p_x0 : Fld Z h0 x0 "com/example/keys_to_structures/keystostructures/store/TimedEntry" "position" "I" (.int px0)) (E_x1 : Exa Z h0 x1 "com/example/keys_to_structures/keystostructures/store/TimedEntry") (F_d_x1 : Fld Z h0 x1 "com/example/keys_to_structures/keystostructures/store/TimedEntry" "deadline" "J" (.long dx1)) (F_p_x1 : Fld Z h0 x1 "com/example/keys_to_structures/keystostructures/store/TimedEntry" "position" "I" (.int px1)) (ne_a0__hp : a0 ≠ hp) (ne_a0__a1 : a0 ≠ a1) (ne_a0__x0 : a0 ≠ x0) (ne_a0__x1 : a0 ≠ x1) (ne_hp__a1 : hp ≠ a1) (ne_hp__x0 : hp ≠ x0) (ne_hp__x1 : hp ≠ x1) (ne_a1__x0 : a1 ≠ x0) (ne_a1__x1 : a1 ≠ x1) (ne_x0__x1 : x0 ≠ x1) (hsw : da1 < dx0) :
    MetFree l (⟨"com/example/keys_to_structures/keystostructures/store/ExpiryQueue", "moveUp", "(Lcom/example/keys_to_structures/keystostructures/store/TimedEntry;I)V"⟩ : MethodName) (head1 (Jvm.Cond.code (⟨"com/example/keys_to_structures/keystostructures/store/ExpiryQueue", "moveUp", "(Lcom/example/keys_to_structures/keystostructures/store/TimedEntry;I)V"⟩ : MethodName) prog_43_method_7_code 5 none :: ws) ({ frames := 2, cells := 0, slots := 0, locals := 27 } : Room)) (fun a U => a = #[(.ref a0), (.ref a1), (.int (2 : Int32))] ∧ Z.Warmed39 U.vm ∧ U.heap = h0) (fun _ _ _ _ _ => True) (fun _ U o U' => ∃ v L, o = .returned v ∧ QMu2s Z a0 a1 hp kA v2 da1 pa1 x0 dx0 px0 x1 dx1 px1 h0 n0 v U'.heap L ∧ FrameEnd U o U' L ({ frames := 2, cells := 0, slots := 0, locals := 27 } : Room).cells ({ frames := 2, cells := 0, slots := 0, locals := 27 } : Room).slots) := by
  refine MetFree.of_bodySF (plainFor_of_name pn_4) hisR ?_
  intro p e s m args below meth c s₁ Bd hml0 hP hK
  obtain ⟨rfl, hZ, hh⟩ := hP
  have hx := Bd.exec
  have hby := Bd.bytes
  have hml : c.maxLocals = 5 := hml0
  have hown : s.vm.findClass "com/example/keys_to_structures/keystostructures/store/ExpiryQueue" = some m.cls := findClass_of_methodNamed Bd.named
  have hnm := (name_of_methodNamed Bd.named Bd.method).1
  have X0 : Stand p l e ({ frames := 2, cells := 0, slots := 0, locals := 27 } : Room) s m #[(.ref a0), (.ref a1), (.int (2 : Int32))] below meth c s₁ [] 0 0 := Stand.of_body Bd
  have e0 : s₁.heap = h0 := by rw [← hh, Bd.state]; rfl
  have N0 := Fr.nil n0
  have Kp := Keep.refl h0 [hp, a1, x0]
  show Run p e below (Ends s (QMu2s Z a0 a1 hp kA v2 da1 pa1 x0 dx0 px0 x1 dx1 px1 h0 n0) ({ frames := 2, cells := 0, slots := 0, locals := 27 } : Room).cells ({ frames := 2, cells := 0, slots := 0, locals := 27 } : Room).slots) _
  refine Run.st (S' := s₁.setTop (mkF m 0 #[.val (.ref a0), .val (.ref a1), .val (.int (2 : Int32)), .unset, .unset] [])) (fun t k => castTop (ef_Mu2s m a0 a1) k) ?_
  refine Run.st (S' := s₁.setTop (mkF m 10 #[.val (.ref a0), .val (.ref a1), .val (.int (2 : Int32)), .val (.int (2 : Int32)), .unset] [(.int (2 : Int32)), (.int (1 : Int32))])) (fun _ k => XS.iloadN X0.here hx rfl (hb hby d8_0) rfl (XS.istoreN X0.here hx rfl (hb hby d8_1) rfl (l' := #[.val (.ref a0), .val (.ref a1), .val (.int (2 : Int32)), .val (.int (2 : Int32)), .unset]) rfl (XS.iloadN X0.here hx rfl (hb hby d8_2) rfl (XS.ifNo X0.here hx rfl (hb hby d8_3) rfl ((if0 _ _).trans (tlt (show (0 : Int32) < (2 : Int32) from (by decide))).2.2.2) (XS.iloadN X0.here hx rfl (hb hby d8_6) rfl (XS.iconst X0.here hx rfl (hb hby d8_7) (XS.isub X0.here hx rfl (hb hby d8_8) rfl (XS.iconst X0.here hx rfl (hb hby d8_9) k)))))))) ?_
  refine Run.st (S' := s₁.setTop (mkF m 14 #[.val (.ref a0), .val (.ref a1), .val (.int (2 : Int32)), .val (.int (2 : Int32)), .val (.int (0 : Int32))] [(.ref a0)])) (fun _ k => XS.idiv X0.here hx rfl (hb hby d8_10) rfl (by decide) (XS.istore X0.here hx rfl (hb hby d8_11) rfl (l' := #[.val (.ref a0), .val (.ref a1), .val (.int (2 : Int32)), .val (.int (2 : Int32)), .val (.int (0 : Int32))]) rfl (XS.aloadN X0.here hx rfl (hb hby d8_13) rfl rfl k))) ?_
  obtain ⟨T1, X1, e1, st1⟩ := getF X0 hx hZ hown (host := "") (Or.inl (hw _ (List.mem_of_getElem? (i := 39) rfl))) Via.refl e0 F_heap (g := (mkF m 14 #[.val (.ref a0), .val (.ref a1), .val (.int (2 : Int32)), .val (.int (2 : Int32)), .val (.int (0 : Int32))] [(.ref a0)])) rfl rfl (hb hby d8_14)
  refine Run.st (S' := T1.setTop (mkF m 19 #[.val (.ref a0), .val (.ref a1), .val (.int (2 : Int32)), .val (.int (2 : Int32)), .val (.int (0 : Int32))] [(.int (0 : Int32)), (.ref hp)])) (fun _ k => st1 _ (XS.iload X1.here hx rfl (hb hby d8_17) rfl k)) ?_
  obtain ⟨cl2, Ar2, qa2, Sa2, Na2, Ha2, Ga2⟩ := id V_hp
  have hin2 : ¬ ((0 : Int32) < 0 ∨ cl2.slots.size ≤ ((0 : Int32)).toNatClampNeg) := inb_of Sa2 ⟨by decide, by decide⟩
  have hat2 : cl2.slots[((0 : Int32)).toNatClampNeg]? = some (.ref x0) := Has.at Ha2 hin2 rfl
  refine Run.st (S' := T1.setTop (mkF m 20 #[.val (.ref a0), .val (.ref a1), .val (.int (2 : Int32)), .val (.int (2 : Int32)), .val (.int (0 : Int32))] [(.ref x0)])) (fun _ k => X1.aaload hx (j := (0 : Int32)) (v := (.ref x0)) (by rw [e1]; exact Ar2.1) (State.isArrayOf_alike hZ.alike Ar2.2.1) rfl Ar2.2.2 hin2 hat2 (g := (mkF m 19 #[.val (.ref a0), .val (.ref a1), .val (.int (2 : Int32)), .val (.int (2 : Int32)), .val (.int (0 : Int32))] [(.int (0 : Int32)), (.ref hp)])) rfl rfl (hb hby d8_19) _ k) ?_
  obtain ⟨cq3, kq3, q3a, q3b, q3c⟩ := isOf hZ e1 E_x0
  obtain ⟨_, _, ⟨T3, L3, k3, n3⟩, -, X3, ⟨Lc3, hQ3, l3, y3, z3⟩, st3⟩ := X1.virtualBack hx (y := (⟨"com/example/keys_to_structures/keystostructures/store/TimedEntry", "deadline", "()J"⟩ : MethodName)) (z := (⟨"com/example/keys_to_structures/keystostructures/store/TimedEntry", "deadline", "()J"⟩ : MethodName)) hown (mvT hZ (hw _ (List.mem_of_getElem? (i := 64) rfl))) (mvT hZ (hw _ (List.mem_of_getElem? (i := 65) rfl))) (notFace_of_selects (args := #[]) (mvT hZ (hw _ (List.mem_of_getElem? (i := 67) rfl)))) (mvT hZ (hw _ (List.mem_of_getElem? (i := 67) rfl))) (mvT hZ (hw _ (List.mem_of_getElem? (i := 66) rfl))) (by decide) (backOf (W := 0) (rmDl l Z aV hw [] x0 dx0 h0 n0 Zn F_d_x0) hZ (hw _ (List.mem_of_getElem? (i := 68) rfl)) (hw _ (List.mem_of_getElem? (i := 2) rfl)) (by decide) (by decide)) q3a q3c (g := (mkF m 20 #[.val (.ref a0), .val (.ref a1), .val (.int (2 : Int32)), .val (.int (2 : Int32)), .val (.int (0 : Int32))] [(.ref x0)])) rfl (by rw [hml]; rfl) (Steps.refl _) (argsL := []) (rest := []) (lenOf pd_4 rfl) rfl (by show 2 * 0 + _ ≤ _; exact Nat.le_of_eq rfl) (hb hby d8_20) (fun _ _ => ⟨rfl, e1, (by decide : 0 + 0 ≤ _), (by decide : 0 + 0 ≤ _)⟩)
  dsimp only [Pt.U, Pt.locs, Pt.cells, Pt.slots] at X3 l3 y3 z3 st3 hQ3
  subst l3 y3 z3
  obtain ⟨rfl, N3q, e3⟩ := hQ3
  have N3 := Fr.app N0 N3q
  refine Run.st (S' := T3.setTop (mkF m 24 #[.val (.ref a0), .val (.ref a1), .val (.int (2 : Int32)), .val (.int (2 : Int32)), .val (.int (0 : Int32))] [(.ref a1), (.long dx0)])) (fun _ k => st3.trans (XS.aloadN X3.here hx rfl (hb hby d8_23) rfl rfl k)) ?_
  obtain ⟨cq4, kq4, q4a, q4b, q4c⟩ := isOf hZ e3 E_a1
  obtain ⟨_, _, ⟨T4, L4, k4, n4⟩, -, X4, ⟨Lc4, hQ4, l4, y4, z4⟩, st4⟩ := X3.virtualBack hx (y := (⟨"com/example/keys_to_structures/keystostructures/store/TimedEntry", "deadline", "()J"⟩ : MethodName)) (z := (⟨"com/example/keys_to_structures/keystostructures/store/TimedEntry", "deadline", "()J"⟩ : MethodName)) hown (mvT hZ (hw _ (List.mem_of_getElem? (i := 64) rfl))) (mvT hZ (hw _ (List.mem_of_getElem? (i := 65) rfl))) (notFace_of_selects (args := #[]) (mvT hZ (hw _ (List.mem_of_getElem? (i := 67) rfl)))) (mvT hZ (hw _ (List.mem_of_getElem? (i := 67) rfl))) (mvT hZ (hw _ (List.mem_of_getElem? (i := 66) rfl))) (by decide) (backOf (W := 2) (rmDl l Z aV hw [] a1 da1 h0 n0 Zn F_d_a1) hZ (hw _ (List.mem_of_getElem? (i := 68) rfl)) (hw _ (List.mem_of_getElem? (i := 2) rfl)) (by decide) (by decide)) q4a q4c (g := (mkF m 24 #[.val (.ref a0), .val (.ref a1), .val (.int (2 : Int32)), .val (.int (2 : Int32)), .val (.int (0 : Int32))] [(.ref a1), (.long dx0)])) rfl (by rw [hml]; rfl) (Steps.refl _) (argsL := []) (rest := [(.long dx0)]) (lenOf pd_4 rfl) rfl (by show 2 * 0 + _ ≤ _; exact Nat.le_of_eq rfl) (hb hby d8_24) (fun _ _ => ⟨rfl, e3, (by decide : 0 + 0 ≤ _), (by decide : 0 + 0 ≤ _)⟩)
  dsimp only [Pt.U, Pt.locs, Pt.cells, Pt.slots] at X4 l4 y4 z4 st4 hQ4
  subst l4 y4 z4
  obtain ⟨rfl, N4q, e4⟩ := hQ4
  have N4 := Fr.app N3 N4q
  refine Run.st (S' := T4.setTop (mkF m 36 #[.val (.ref a0), .val (.ref a1), .val (.int (2 : Int32)), .val (.int (2 : Int32)), .val (.int (0 : Int32))] [(.ref a0), (.ref a0)])) (fun _ k => st4.trans (XS.lcmp X4.here hx rfl (hb hby d8_27) rfl (XS.ifYes X4.here hx rfl (pc0 := 28) (pc' := 34) rfl (hb hby d8_28) rfl (lcYes (Jvm.Free.XT.ll_gt_t (show da1 < dx0 from hsw))) (by decide) (by decide) (XS.aloadN X4.here hx rfl (hb hby d8_34) rfl rfl (XS.aloadN X4.here hx rfl (hb hby d8_35) rfl rfl k))))) ?_
  obtain ⟨T5, X5, e5, st5⟩ := getF X4 hx hZ hown (host := "") (Or.inl (hw _ (List.mem_of_getElem? (i := 39) rfl))) Via.refl e4 F_heap (g := (mkF m 36 #[.val (.ref a0), .val (.ref a1), .val (.int (2 : Int32)), .val (.int (2 : Int32)), .val (.int (0 : Int32))] [(.ref a0), (.ref a0)])) rfl rfl (hb hby d8_36)
  refine Run.st (S' := T5.setTop (mkF m 41 #[.val (.ref a0), .val (.ref a1), .val (.int (2 : Int32)), .val (.int (2 : Int32)), .val (.int (0 : Int32))] [(.int (0 : Int32)), (.ref hp), (.ref a0)])) (fun _ k => st5 _ (XS.iload X5.here hx rfl (hb hby d8_39) rfl k)) ?_
  obtain ⟨cl6, Ar6, qa6, Sa6, Na6, Ha6, Ga6⟩ := id V_hp
  have hin6 : ¬ ((0 : Int32) < 0 ∨ cl6.slots.size ≤ ((0 : Int32)).toNatClampNeg) := inb_of Sa6 ⟨by decide, by decide⟩
  have hat6 : cl6.slots[((0 : Int32)).toNatClampNeg]? = some (.ref x0) := Has.at Ha6 hin6 rfl
  refine Run.st (S' := T5.setTop (mkF m 43 #[.val (.ref a0), .val (.ref a1), .val (.int (2 : Int32)), .val (.int (2 : Int32)), .val (.int (0 : Int32))] [(.int (2 : Int32)), (.ref x0), (.ref a0)])) (fun _ k => X5.aaload hx (j := (0 : Int32)) (v := (.ref x0)) (by rw [e5]; exact Ar6.1) (State.isArrayOf_alike hZ.alike Ar6.2.1) rfl Ar6.2.2 hin6 hat6 (g := (mkF m 41 #[.val (.ref a0), .val (.ref a1), .val (.int (2 : Int32)), .val (.int (2 : Int32)), .val (.int (0 : Int32))] [(.int (0 : Int32)), (.ref hp), (.ref a0)])) rfl rfl (hb hby d8_41) _ (XS.iloadN X5.here hx rfl (hb hby d8_42) rfl k)) ?_
  obtain ⟨cq7, q7, q7'⟩ := E_a0.cell
  obtain ⟨_, _, ⟨T7, L7, k7, n7⟩, -, X7, ⟨Lc7, hQ7, l7, y7, z7⟩, st7⟩ := X5.privateBack hx (y := (⟨"com/example/keys_to_structures/keystostructures/store/ExpiryQueue", "place", "(Lcom/example/keys_to_structures/keystostructures/store/TimedEntry;I)V"⟩ : MethodName)) hown (mvT hZ (hw _ (List.mem_of_getElem? (i := 52) rfl))) (mvT hZ (hw _ (List.mem_of_getElem? (i := 53) rfl))) (selSelf (y := (⟨"com/example/keys_to_structures/keystostructures/store/ExpiryQueue", "place", "(Lcom/example/keys_to_structures/keystostructures/store/TimedEntry;I)V"⟩ : MethodName)) (mvT hZ (hw _ (List.mem_of_getElem? (i := 31) rfl))) (Cond.privateMethod_at (mvP hZ (hw _ (List.mem_of_getElem? (i := 54) rfl)) (args := #[]))) (mvT hZ (hw _ (List.mem_of_getElem? (i := 53) rfl))) (by decide)) (Cond.privateMethod_at (mvP hZ (hw _ (List.mem_of_getElem? (i := 54) rfl)) (args := #[]))) (mvT hZ (hw _ (List.mem_of_getElem? (i := 55) rfl))) (by decide) (backOf (W := 0) (rmPl2 l Z aV hw [] a0 x0 hp kA (.ref x0) (.ref x1) v2 px0 dx0 h0 n0 Zn g_hp g_x0 O_kA E_a0 F_heap V_hp E_x0 F_d_x0 F_p_x0 ne_a0__hp ne_a0__x0 ne_hp__x0) hZ (hw _ (List.mem_of_getElem? (i := 55) rfl)) (hw _ (List.mem_of_getElem? (i := 32) rfl)) (by decide) (by decide)) (g := (mkF m 43 #[.val (.ref a0), .val (.ref a1), .val (.int (2 : Int32)), .val (.int (2 : Int32)), .val (.int (0 : Int32))] [(.int (2 : Int32)), (.ref x0), (.ref a0)])) rfl (by rw [hml]; rfl) (Steps.refl _) (a := a0) (by rw [e5]; exact q7) q7' (argsL := [(.ref x0), (.int (2 : Int32))]) (rest := []) (lenOf pd_3 rfl) rfl (by show 2 * 0 + _ ≤ _; exact Nat.le_of_eq rfl) (hb hby d8_43) (fun _ _ => ⟨rfl, e5, (by decide : 0 + 0 ≤ _), (by decide : 0 + 0 ≤ _)⟩)
  dsimp only [Pt.U, Pt.locs, Pt.cells, Pt.slots] at X7 l7 y7 z7 st7 hQ7
  subst l7 y7 z7
  obtain ⟨rfl, N7q, K7, q7_0, q7_1, q7_2, q7_3⟩ := hQ7
  have E_a0 := E_a0.keep K7
  have F_heap := F_heap.keep K7 (ninS ne_a0__hp (ninS ne_a0__x0 nin0))
  have E_a1 := E_a1.keep K7
  have F_d_a1 := F_d_a1.keep K7 (ninS (Ne.symm ne_hp__a1) (ninS ne_a1__x0 nin0))
  have F_p_a1 := F_p_a1.keep K7 (ninS (Ne.symm ne_hp__a1) (ninS ne_a1__x0 nin0))
  have E_x1 := E_x1.keep K7
  have F_d_x1 := F_d_x1.keep K7 (ninS (Ne.symm ne_hp__x1) (ninS (Ne.symm ne_x0__x1) nin0))
  have F_p_x1 := F_p_x1.keep K7 (ninS (Ne.symm ne_hp__x1) (ninS (Ne.symm ne_x0__x1) nin0))
  have V_hp := q7_0
  have E_x0 := q7_1
  have F_d_x0 := q7_2
  have F_p_x0 := q7_3
  have Kp := Kp.trans K7 (allS (Or.inl (by simp)) (allS (Or.inl (by simp)) all0))
  have Zn := Nat.le_trans Zn K7.1
  have N7 := Fr.app N4 N7q
  refine Run.st (S' := T7.setTop (mkF m 54 #[.val (.ref a0), .val (.ref a1), .val (.int (2 : Int32)), .val (.int (0 : Int32)), .val (.int (0 : Int32))] [(.ref a1), (.ref a0)])) (fun _ k => st7.trans (XS.iload X7.here hx rfl (hb hby d8_46) rfl (XS.istoreN X7.here hx rfl (hb hby d8_48) rfl (l' := #[.val (.ref a0), .val (.ref a1), .val (.int (2 : Int32)), .val (.int (0 : Int32)), .val (.int (0 : Int32))]) rfl (XS.goto X7.here hx rfl (pc0 := 49) (pc' := 2) rfl (hb hby d8_49) (by decide) (by decide) (XS.iloadN X7.here hx rfl (hb hby d8_2) rfl (XS.ifYes X7.here hx rfl (pc0 := 3) (pc' := 52) rfl (hb hby d8_3) rfl ((if0 _ _).trans (flt (show ¬ ((0 : Int32) < (0 : Int32)) from (by decide))).2.2.2) (by decide) (by decide) (XS.aloadN X7.here hx rfl (hb hby d8_52) rfl rfl (XS.aloadN X7.here hx rfl (hb hby d8_53) rfl rfl k)))))))) ?_
  refine Run.st (S' := T7.setTop (mkF m 55 #[.val (.ref a0), .val (.ref a1), .val (.int (2 : Int32)), .val (.int (0 : Int32)), .val (.int (0 : Int32))] [(.int (0 : Int32)), (.ref a1), (.ref a0)])) (fun _ k => XS.iloadN X7.here hx rfl (hb hby d8_54) rfl k) ?_
  obtain ⟨cq8, q8, q8'⟩ := E_a0.cell
  obtain ⟨_, _, ⟨T8, L8, k8, n8⟩, -, X8, ⟨Lc8, hQ8, l8, y8, z8⟩, st8⟩ := X7.privateBack hx (y := (⟨"com/example/keys_to_structures/keystostructures/store/ExpiryQueue", "place", "(Lcom/example/keys_to_structures/keystostructures/store/TimedEntry;I)V"⟩ : MethodName)) hown (mvT hZ (hw _ (List.mem_of_getElem? (i := 52) rfl))) (mvT hZ (hw _ (List.mem_of_getElem? (i := 53) rfl))) (selSelf (y := (⟨"com/example/keys_to_structures/keystostructures/store/ExpiryQueue", "place", "(Lcom/example/keys_to_structures/keystostructures/store/TimedEntry;I)V"⟩ : MethodName)) (mvT hZ (hw _ (List.mem_of_getElem? (i := 31) rfl))) (Cond.privateMethod_at (mvP hZ (hw _ (List.mem_of_getElem? (i := 54) rfl)) (args := #[]))) (mvT hZ (hw _ (List.mem_of_getElem? (i := 53) rfl))) (by decide)) (Cond.privateMethod_at (mvP hZ (hw _ (List.mem_of_getElem? (i := 54) rfl)) (args := #[]))) (mvT hZ (hw _ (List.mem_of_getElem? (i := 55) rfl))) (by decide) (backOf (W := 0) (rmPl0 l Z aV hw [] a0 a1 hp kA (.ref x0) (.ref x1) (.ref x0) pa1 da1 T7.heap n0 Zn g_hp g_a1 O_kA E_a0 F_heap V_hp E_a1 F_d_a1 F_p_a1 ne_a0__hp ne_a0__a1 ne_hp__a1) hZ (hw _ (List.mem_of_getElem? (i := 55) rfl)) (hw _ (List.mem_of_getElem? (i := 32) rfl)) (by decide) (by decide)) (g := (mkF m 55 #[.val (.ref a0), .val (.ref a1), .val (.int (2 : Int32)), .val (.int (0 : Int32)), .val (.int (0 : Int32))] [(.int (0 : Int32)), (.ref a1), (.ref a0)])) rfl (by rw [hml]; rfl) (Steps.refl _) (a := a0) q8 q8' (argsL := [(.ref a1), (.int (0 : Int32))]) (rest := []) (lenOf pd_3 rfl) rfl (by show 2 * 0 + _ ≤ _; exact Nat.le_of_eq rfl) (hb hby d8_55) (fun _ _ => ⟨rfl, rfl, (by decide : 0 + 0 ≤ _), (by decide : 0 + 0 ≤ _)⟩)
  dsimp only [Pt.U, Pt.locs, Pt.cells, Pt.slots] at X8 l8 y8 z8 st8 hQ8
  subst l8 y8 z8
  obtain ⟨rfl, N8q, K8, q8_0, q8_1, q8_2, q8_3⟩ := hQ8
  have E_a0 := E_a0.keep K8
  have F_heap := F_heap.keep K8 (ninS ne_a0__hp (ninS ne_a0__a1 nin0))
  have E_x0 := E_x0.keep K8
  have F_d_x0 := F_d_x0.keep K8 (ninS (Ne.symm ne_hp__x0) (ninS (Ne.symm ne_a1__x0) nin0))
  have F_p_x0 := F_p_x0.keep K8 (ninS (Ne.symm ne_hp__x0) (ninS (Ne.symm ne_a1__x0) nin0))
  have E_x1 := E_x1.keep K8
  have F_d_x1 := F_d_x1.keep K8 (ninS (Ne.symm ne_hp__x1) (ninS (Ne.symm ne_a1__x1) nin0))
  have F_p_x1 := F_p_x1.keep K8 (ninS (Ne.symm ne_hp__x1) (ninS (Ne.symm ne_a1__x1) nin0))
  have V_hp := q8_0
  have E_a1 := q8_1
  have F_d_a1 := q8_2
  have F_p_a1 := q8_3
  have Kp := Kp.trans K8 (allS (Or.inl (by simp)) (allS (Or.inl (by simp)) all0))
  have Zn := Nat.le_trans Zn K8.1
  have N8 := Fr.app N7 N8q
  refine Run.st (S' := T8.setTop (mkF m 58 #[.val (.ref a0), .val (.ref a1), .val (.int (2 : Int32)), .val (.int (0 : Int32)), .val (.int (0 : Int32))] [])) (fun _ k => st8.trans k) ?_
  refine Run.outV X8 hx Bd.notSynchronized Bd.returns (hb hby d8_58) (by decide) (by decide) ?_
  exact ⟨rfl, N8, Kp, V_hp, E_a1, F_d_a1, F_p_a1, E_x0, F_d_x0, F_p_x0⟩
theorem d7_0 : decode prog_43_method_3_code 0 = .ok (.aload_n 0, 1) := by decide +kernel
theorem d7_1 : decode prog_43_method_3_code 1 = .ok (.getfield 15, 3) := by decide +kernel
theorem d7_4 : decode prog_43_method_3_code 4 = .ok (.aload_n 0, 1) := by decide +kernel
theorem d7_5 : decode prog_43_method_3_code 5 = .ok (.getfield 11, 3) := by decide +kernel
theorem d7_8 : decode prog_43_method_3_code 8 = .ok (.arraylength, 1) := by decide +kernel
theorem d7_9 : decode prog_43_method_3_code 9 = .ok (.if_icmp .ne 14, 3) := by decide +kernel
theorem d7_23 : decode prog_43_method_3_code 23 = .ok (.aload_n 0, 1) := by decide +kernel
theorem d7_24 : decode prog_43_method_3_code 24 = .ok (.dup, 1) := by decide +kernel
theorem d7_25 : decode prog_43_method_3_code 25 = .ok (.getfield 15, 3) := by decide +kernel
theorem d7_28 : decode prog_43_method_3_code 28 = .ok (.iconst 1, 1) := by decide +kernel
theorem d7_29 : decode prog_43_method_3_code 29 = .ok (.iadd, 1) := by decide +kernel
theorem d7_30 : decode prog_43_method_3_code 30 = .ok (.putfield 15, 3) := by decide +kernel
theorem d7_33 : decode prog_43_method_3_code 33 = .ok (.aload_n 0, 1) := by decide +kernel
theorem d7_34 : decode prog_43_method_3_code 34 = .ok (.aload_n 1, 1) := by decide +kernel
theorem d7_35 : decode prog_43_method_3_code 35 = .ok (.aload_n 0, 1) := by decide +kernel
theorem d7_36 : decode prog_43_method_3_code 36 = .ok (.getfield 15, 3) := by decide +kernel
theorem d7_39 : decode prog_43_method_3_code 39 = .ok (.iconst 1, 1) := by decide +kernel
theorem d7_40 : decode prog_43_method_3_code 40 = .ok (.isub, 1) := by decide +kernel
theorem d7_41 : decode prog_43_method_3_code 41 = .ok (.invokevirtual 23, 3) := by decide +kernel
theorem d7_44 : decode prog_43_method_3_code 44 = .ok (.return_, 1) := by decide +kernel
theorem ef_Ad0 (m : MethodId) (a0 : Addr) (a1 : Addr) : entryFrame m #[(.ref a0), (.ref a1)] 2 = mkF m 0 #[.val (.ref a0), .val (.ref a1)] [] := by first | (simp [entryFrame, mkF, argsToLocals, Value.category]; done) | rfl
def QAd0 (Z : State) (a0 : Addr) (a1 : Addr) (hp : Addr) (kA : ClassId) (v0 : Value) (v1 : Value) (v2 : Value) (da1 : Int64) (pa1 : Int32) (h0 : Heap) (n0 : Nat) (v : Option Value) (h : Heap) (L : List Loc) : Prop := v = none ∧ Fr n0 L ∧ Keep h0 h [a0, hp, a1] ∧ Exa Z h a0 "com/example/keys_to_structures/keystostructures/store/ExpiryQueue" ∧ Fld Z h a0 "com/example/keys_to_structures/keystostructures/store/ExpiryQueue" "heap" "[Lcom/example/keys_to_structures/keystostructures/store/TimedEntry;" (.ref hp) ∧ Fld Z h a0 "com/example/keys_to_structures/keystostructures/store/ExpiryQueue" "size" "I" (.int (1 : Int32)) ∧ Arv Z h hp kA (.object "com/example/keys_to_structures/keystostructures/store/TimedEntry") (16 : Int32) [(.ref a1), v1, v2, .null, .null, .null, .null, .null, .null, .null, .null, .null, .null, .null, .null, .null] .null ∧ Exa Z h a1 "com/example/keys_to_structures/keystostructures/store/TimedEntry" ∧ Fld Z h a1 "com/example/keys_to_structures/keystostructures/store/TimedEntry" "deadline" "J" (.long da1) ∧ Fld Z h a1 "com/example/keys_to_structures/keystostructures/store/TimedEntry" "position" "I" (.int (0 : Int32))
set_option maxRecDepth 65536 in
set_option maxHeartbeats 40000000 in
theorem rmAd0 (l : Launch) (Z : State) (aV : Array Value) (hw : ∀ d ∈ tables_1, d.before aV Z = true) (ws : List Jvm.Cond) (a0 : Addr) (a1 : Addr) (hp : Addr) (kA : ClassId) (v0 : Value) (v1 : Value) (v2 : Value) (da1 : Int64) (pa1 : Int32) (h0 : Heap) (n0 : Nat) (Zn : n0 ≤ h0.size) (g_a0 : n0 ≤ a0) (g_hp : n0 ≤ hp) (O_kA : Ovr Z kA "com/example/keys_to_structures/keystostructures/store/TimedEntry") (g_a1 : n0 ≤ a1) (E_a0 : Exa Z h0 a0 "com/example/keys_to_structures/keystostructures/store/ExpiryQueue") (F_heap : Fld Z h0 a0 "com/example/keys_to_structures/keystostructures/store/ExpiryQueue" "heap" "[Lcom/example/keys_to_structures/keystostructures/store/TimedEntry;" (.ref hp)) (F_size : Fld Z h0 a0 "com/example/keys_to_structures/keystostructures/store/ExpiryQueue" "size" "I" (.int (0 : Int32))) (V_hp : Arv Z h0 hp kA (.object "com/example/keys_to_structures/keystostructures/store/TimedEntry") (16 : Int32) [v0, v1, v2, .null, .null, .null, .null, .null, .null, .null, .null, .null, .null, .null, .null, .null] .null) (E_a1 : Exa Z h0 a1 "com/example/keys_to_structures/keystostructures/store/TimedEntry") (F_d_a1 : Fld Z h0 a1 "com/example/keys_to_structures/keystostructures/store/TimedEntry" "deadline" "J" (.long da1)) (F_p_a1 : Fld Z h0 a1 "com/example/keys_to_structures/keystostructures/store/TimedEntry" "position" "I" (.int pa1)) (ne_a0__hp : a0 ≠ hp) (ne_a0__a1 : a0 ≠ a1) (ne_hp__a1 : hp ≠ a1) :
    MetFree l (⟨"com/example/keys_to_structures/keystostructures/store/ExpiryQueue", "add", "(Lcom/example/keys_to_structures/keystostructures/store/TimedEntry;)V"⟩ : MethodName) (head1 (Jvm.Cond.code (⟨"com/example/keys_to_structures/keystostructures/store/ExpiryQueue", "add", "(Lcom/example/keys_to_structures/keystostructures/store/TimedEntry;)V"⟩ : MethodName) prog_43_method_3_code 2 none :: ws) ({ frames := 3, cells := 0, slots := 0, locals := 43 } : Room)) (fun a U => a = #[(.ref a0), (.ref a1)] ∧ Z.Warmed39 U.vm ∧ U.heap = h0) (fun _ _ _ _ _ => True) (fun _ U o U' => ∃ v L, o = .returned v ∧ QAd0 Z a0 a1 hp kA v0 v1 v2 da1 pa1 h0 n0 v U'.heap L ∧ FrameEnd U o U' L ({ frames := 3, cells := 0, slots := 0, locals := 43 } : Room).cells ({ frames := 3, cells := 0, slots := 0, locals := 43 } : Room).slots) := by
  refine MetFree.of_bodySF (plainFor_of_name pn_4) hisR ?_
  intro p e s m args below meth c s₁ Bd hml0 hP hK
  obtain ⟨rfl, hZ, hh⟩ := hP
  have hx := Bd.exec
  have hby := Bd.bytes
  have hml : c.maxLocals = 2 := hml0
  have hown : s.vm.findClass "com/example/keys_to_structures/keystostructures/store/ExpiryQueue" = some m.cls := findClass_of_methodNamed Bd.named
  have hnm := (name_of_methodNamed Bd.named Bd.method).1
  have X0 : Stand p l e ({ frames := 3, cells := 0, slots := 0, locals := 43 } : Room) s m #[(.ref a0), (.ref a1)] below meth c s₁ [] 0 0 := Stand.of_body Bd
  have e0 : s₁.heap = h0 := by rw [← hh, Bd.state]; rfl
  have N0 := Fr.nil n0
  have Kp := Keep.refl h0 [a0, hp, a1]
  show Run p e below (Ends s (QAd0 Z a0 a1 hp kA v0 v1 v2 da1 pa1 h0 n0) ({ frames := 3, cells := 0, slots := 0, locals := 43 } : Room).cells ({ frames := 3, cells := 0, slots := 0, locals := 43 } : Room).slots) _
  refine Run.st (S' := s₁.setTop (mkF m 0 #[.val (.ref a0), .val (.ref a1)] [])) (fun t k => castTop (ef_Ad0 m a0 a1) k) ?_
  refine Run.st (S' := s₁.setTop (mkF m 1 #[.val (.ref a0), .val (.ref a1)] [(.ref a0)])) (fun _ k => XS.aloadN X0.here hx rfl (hb hby d7_0) rfl rfl k) ?_
  obtain ⟨T1, X1, e1, st1⟩ := getF X0 hx hZ hown (host := "") (Or.inl (hw _ (List.mem_of_getElem? (i := 46) rfl))) Via.refl e0 F_size (g := (mkF m 1 #[.val (.ref a0), .val (.ref a1)] [(.ref a0)])) rfl rfl (hb hby d7_1)
  refine Run.st (S' := T1.setTop (mkF m 5 #[.val (.ref a0), .val (.ref a1)] [(.ref a0), (.int (0 : Int32))])) (fun _ k => st1 _ (XS.aloadN X1.here hx rfl (hb hby d7_4) rfl rfl k)) ?_
  obtain ⟨T2, X2, e2, st2⟩ := getF X1 hx hZ hown (host := "") (Or.inl (hw _ (List.mem_of_getElem? (i := 39) rfl))) Via.refl e1 F_heap (g := (mkF m 5 #[.val (.ref a0), .val (.ref a1)] [(.ref a0), (.int (0 : Int32))])) rfl rfl (hb hby d7_5)
  refine Run.st (S' := T2.setTop (mkF m 8 #[.val (.ref a0), .val (.ref a1)] [(.ref hp), (.int (0 : Int32))])) (fun _ k => st2 _ k) ?_
  obtain ⟨cl3, Ar3, -, Sa3, Na3, -, -⟩ := id V_hp
  refine Run.st (S' := T2.setTop (mkF m 9 #[.val (.ref a0), .val (.ref a1)] [(.int (16 : Int32)), (.int (0 : Int32))])) (fun _ k => X2.arraylength hx (by rw [e2]; exact Ar3.1) (State.isArrayOf_alike hZ.alike Ar3.2.1) (g := (mkF m 8 #[.val (.ref a0), .val (.ref a1)] [(.ref hp), (.int (0 : Int32))])) rfl rfl (hb hby d7_8) _ (by rw [len_of Sa3 Na3]; exact k)) ?_
  refine Run.st (S' := T2.setTop (mkF m 25 #[.val (.ref a0), .val (.ref a1)] [(.ref a0), (.ref a0)])) (fun _ k => XS.icmpYes X2.here hx rfl (pc0 := 9) (pc' := 23) rfl (hb hby d7_9) rfl (feq (show ¬ ((0 : Int32) = (16 : Int32)) from (by decide))).2 (by decide) (by decide) (XS.aloadN X2.here hx rfl (hb hby d7_23) rfl rfl (XS.dup X2.here hx rfl (hb hby d7_24) rfl rfl k))) ?_
  obtain ⟨T4, X4, e4, st4⟩ := getF X2 hx hZ hown (host := "") (Or.inl (hw _ (List.mem_of_getElem? (i := 46) rfl))) Via.refl e2 F_size (g := (mkF m 25 #[.val (.ref a0), .val (.ref a1)] [(.ref a0), (.ref a0)])) rfl rfl (hb hby d7_25)
  refine Run.st (S' := T4.setTop (mkF m 30 #[.val (.ref a0), .val (.ref a1)] [(.int (1 : Int32)), (.ref a0)])) (fun _ k => st4 _ (XS.iconst X4.here hx rfl (hb hby d7_28) (XS.iadd X4.here hx rfl (hb hby d7_29) rfl k))) ?_
  obtain ⟨T5, h5, X5, e5, W5, st5⟩ := putF X4 hx hZ hown (host := "") (Or.inl (hw _ (List.mem_of_getElem? (i := 46) rfl))) Via.refl e4 F_size E_a0 (Or.inl (hw _ (List.mem_of_getElem? (i := 47) rfl))) (hw _ (List.mem_of_getElem? (i := 31) rfl)) (ty := .int) (by decide) rfl rfl (g := (mkF m 30 #[.val (.ref a0), .val (.ref a1)] [(.int (1 : Int32)), (.ref a0)])) rfl rfl (hb hby d7_30)
  have F_size := F_size.same W5
  have E_a0 := E_a0.wr W5
  have F_heap := F_heap.other W5 (Or.inr (slot_ne (Or.inl (hw _ (List.mem_of_getElem? (i := 40) rfl))) (Or.inl (hw _ (List.mem_of_getElem? (i := 47) rfl))) (by decide) (t := (.array (.object "com/example/keys_to_structures/keystostructures/store/TimedEntry"))) (t' := .int) (by decide) (by decide)))
  have V_hp := V_hp.other W5 (Ne.symm ne_a0__hp)
  have E_a1 := E_a1.wr W5
  have F_d_a1 := F_d_a1.other W5 (Or.inl (Ne.symm ne_a0__a1))
  have F_p_a1 := F_p_a1.other W5 (Or.inl (Ne.symm ne_a0__a1))
  have N5 := Fr.snoc X5 N0 g_a0
  have Kp := Kp.wr W5 (Or.inl (by simp))
  have Zn := Nat.le_trans Zn (Nat.le_of_eq W5.size.symm)
  refine Run.st (S' := T5.setTop (mkF m 36 #[.val (.ref a0), .val (.ref a1)] [(.ref a0), (.ref a1), (.ref a0)])) (fun _ k => st5 _ (XS.aloadN X5.here hx rfl (hb hby d7_33) rfl rfl (XS.aloadN X5.here hx rfl (hb hby d7_34) rfl rfl (XS.aloadN X5.here hx rfl (hb hby d7_35) rfl rfl k)))) ?_
  obtain ⟨T6, X6, e6, st6⟩ := getF X5 hx hZ hown (host := "") (Or.inl (hw _ (List.mem_of_getElem? (i := 46) rfl))) Via.refl e5 F_size (g := (mkF m 36 #[.val (.ref a0), .val (.ref a1)] [(.ref a0), (.ref a1), (.ref a0)])) rfl rfl (hb hby d7_36)
  refine Run.st (S' := T6.setTop (mkF m 41 #[.val (.ref a0), .val (.ref a1)] [(.int (0 : Int32)), (.ref a1), (.ref a0)])) (fun _ k => st6 _ (XS.iconst X6.here hx rfl (hb hby d7_39) (XS.isub X6.here hx rfl (hb hby d7_40) rfl k))) ?_
  obtain ⟨cq7, q7, q7'⟩ := E_a0.cell
  obtain ⟨_, _, ⟨T7, L7, k7, n7⟩, -, X7, ⟨Lc7, hQ7, l7, y7, z7⟩, st7⟩ := X6.privateBack hx (y := (⟨"com/example/keys_to_structures/keystostructures/store/ExpiryQueue", "moveUp", "(Lcom/example/keys_to_structures/keystostructures/store/TimedEntry;I)V"⟩ : MethodName)) hown (mvT hZ (hw _ (List.mem_of_getElem? (i := 48) rfl))) (mvT hZ (hw _ (List.mem_of_getElem? (i := 49) rfl))) (selSelf (y := (⟨"com/example/keys_to_structures/keystostructures/store/ExpiryQueue", "moveUp", "(Lcom/example/keys_to_structures/keystostructures/store/TimedEntry;I)V"⟩ : MethodName)) (mvT hZ (hw _ (List.mem_of_getElem? (i := 31) rfl))) (Cond.privateMethod_at (mvP hZ (hw _ (List.mem_of_getElem? (i := 50) rfl)) (args := #[]))) (mvT hZ (hw _ (List.mem_of_getElem? (i := 49) rfl))) (by decide)) (Cond.privateMethod_at (mvP hZ (hw _ (List.mem_of_getElem? (i := 50) rfl)) (args := #[]))) (mvT hZ (hw _ (List.mem_of_getElem? (i := 51) rfl))) (by decide) (backOf (W := 0) (rmMu0 l Z aV hw [] a0 a1 hp kA v0 v1 v2 da1 pa1 h5 n0 Zn g_hp O_kA g_a1 E_a0 F_heap V_hp E_a1 F_d_a1 F_p_a1 ne_a0__hp ne_a0__a1 ne_hp__a1) hZ (hw _ (List.mem_of_getElem? (i := 51) rfl)) (hw _ (List.mem_of_getElem? (i := 32) rfl)) (by decide) (by decide)) (g := (mkF m 41 #[.val (.ref a0), .val (.ref a1)] [(.int (0 : Int32)), (.ref a1), (.ref a0)])) rfl (by rw [hml]; rfl) (Steps.refl _) (a := a0) (by rw [e6]; exact q7) q7' (argsL := [(.ref a1), (.int (0 : Int32))]) (rest := []) (lenOf pd_3 rfl) rfl (by show 2 * 0 + _ ≤ _; exact Nat.le_of_eq rfl) (hb hby d7_41) (fun _ _ => ⟨rfl, e6, (by decide : 0 + 0 ≤ _), (by decide : 0 + 0 ≤ _)⟩)
  dsimp only [Pt.U, Pt.locs, Pt.cells, Pt.slots] at X7 l7 y7 z7 st7 hQ7
  subst l7 y7 z7
  obtain ⟨rfl, N7q, K7, q7_0, q7_1, q7_2, q7_3⟩ := hQ7
  have E_a0 := E_a0.keep K7
  have F_heap := F_heap.keep K7 (ninS ne_a0__hp (ninS ne_a0__a1 nin0))
  have F_size := F_size.keep K7 (ninS ne_a0__hp (ninS ne_a0__a1 nin0))
  have V_hp := q7_0
  have E_a1 := q7_1
  have F_d_a1 := q7_2
  have F_p_a1 := q7_3
  have Kp := Kp.trans K7 (allS (Or.inl (by simp)) (allS (Or.inl (by simp)) all0))
  have Zn := Nat.le_trans Zn K7.1
  have N7 := Fr.app N5 N7q
  refine Run.st (S' := T7.setTop (mkF m 44 #[.val (.ref a0), .val (.ref a1)] [])) (fun _ k => st7.trans k) ?_
  refine Run.outV X7 hx Bd.notSynchronized Bd.returns (hb hby d7_44) (by decide) (by decide) ?_
  exact ⟨rfl, N7, Kp, E_a0, F_heap, F_size, V_hp, E_a1, F_d_a1, F_p_a1⟩
theorem ef_Ad1 (m : MethodId) (a0 : Addr) (a1 : Addr) : entryFrame m #[(.ref a0), (.ref a1)] 2 = mkF m 0 #[.val (.ref a0), .val (.ref a1)] [] := by first | (simp [entryFrame, mkF, argsToLocals, Value.category]; done) | rfl
def QAd1 (Z : State) (a0 : Addr) (a1 : Addr) (hp : Addr) (kA : ClassId) (v1 : Value) (v2 : Value) (da1 : Int64) (pa1 : Int32) (x0 : Addr) (dx0 : Int64) (h0 : Heap) (n0 : Nat) (v : Option Value) (h : Heap) (L : List Loc) : Prop := v = none ∧ Fr n0 L ∧ Keep h0 h [a0, hp, a1, x0] ∧ Exa Z h a0 "com/example/keys_to_structures/keystostructures/store/ExpiryQueue" ∧ Fld Z h a0 "com/example/keys_to_structures/keystostructures/store/ExpiryQueue" "heap" "[Lcom/example/keys_to_structures/keystostructures/store/TimedEntry;" (.ref hp) ∧ Fld Z h a0 "com/example/keys_to_structures/keystostructures/store/ExpiryQueue" "size" "I" (.int (2 : Int32)) ∧ Arv Z h hp kA (.object "com/example/keys_to_structures/keystostructures/store/TimedEntry") (16 : Int32) [(.ref x0), (.ref a1), v2, .null, .null, .null, .null, .null, .null, .null, .null, .null, .null, .null, .null, .null] .null ∧ Exa Z h a1 "com/example/keys_to_structures/keystostructures/store/TimedEntry" ∧ Fld Z h a1 "com/example/keys_to_structures/keystostructures/store/TimedEntry" "deadline" "J" (.long da1) ∧ Fld Z h a1 "com/example/keys_to_structures/keystostructures/store/TimedEntry" "position" "I" (.int (1 : Int32)) ∧ Exa Z h x0 "com/example/keys_to_structures/keystostructures/store/TimedEntry" ∧ Fld Z h x0 "com/example/keys_to_structures/keystostructures/store/TimedEntry" "deadline" "J" (.long dx0) ∧ Fld Z h x0 "com/example/keys_to_structures/keystostructures/store/TimedEntry" "position" "I" (.int (0 : Int32))
set_option maxRecDepth 65536 in
set_option maxHeartbeats 40000000 in
theorem rmAd1 (l : Launch) (Z : State) (aV : Array Value) (hw : ∀ d ∈ tables_1, d.before aV Z = true) (ws : List Jvm.Cond) (a0 : Addr) (a1 : Addr) (hp : Addr) (kA : ClassId) (v1 : Value) (v2 : Value) (da1 : Int64) (pa1 : Int32) (x0 : Addr) (dx0 : Int64) (h0 : Heap) (n0 : Nat) (Zn : n0 ≤ h0.size) (g_a0 : n0 ≤ a0) (g_hp : n0 ≤ hp) (O_kA : Ovr Z kA "com/example/keys_to_structures/keystostructures/store/TimedEntry") (g_a1 : n0 ≤ a1) (g_x0 : n0 ≤ x0) (E_a0 : Exa Z h0 a0 "com/example/keys_to_structures/keystostructures/store/ExpiryQueue") (F_heap : Fld Z h0 a0 "com/example/keys_to_structures/keystostructures/store/ExpiryQueue" "heap" "[Lcom/example/keys_to_structures/keystostructures/store/TimedEntry;" (.ref hp)) (F_size : Fld Z h0 a0 "com/example/keys_to_structures/keystostructures/store/ExpiryQueue" "size" "I" (.int (1 : Int32))) (V_hp : Arv Z h0 hp kA (.object "com/example/keys_to_structures/keystostructures/store/TimedEntry") (16 : Int32) [(.ref x0), v1, v2, .null, .null, .null, .null, .null, .null, .null, .null, .null, .null, .null, .null, .null] .null) (E_a1 : Exa Z h0 a1 "com/example/keys_to_structures/keystostructures/store/TimedEntry") (F_d_a1 : Fld Z h0 a1 "com/example/keys_to_structures/keystostructures/store/TimedEntry" "deadline" "J" (.long da1)) (F_p_a1 : Fld Z h0 a1 "com/example/keys_to_structures/keystostructures/store/TimedEntry" "position" "I" (.int pa1)) (E_x0 : Exa Z h0 x0 "com/example/keys_to_structures/keystostructures/store/TimedEntry") (F_d_x0 : Fld Z h0 x0 "com/example/keys_to_structures/keystostructures/store/TimedEntry" "deadline" "J" (.long dx0)) (F_p_x0 : Fld Z h0 x0 "com/example/keys_to_structures/keystostructures/store/TimedEntry" "position" "I" (.int (0 : Int32))) (ne_a0__hp : a0 ≠ hp) (ne_a0__a1 : a0 ≠ a1) (ne_a0__x0 : a0 ≠ x0) (ne_hp__a1 : hp ≠ a1) (ne_hp__x0 : hp ≠ x0) (ne_a1__x0 : a1 ≠ x0) (hsw : ¬ (da1 < dx0)) :
    MetFree l (⟨"com/example/keys_to_structures/keystostructures/store/ExpiryQueue", "add", "(Lcom/example/keys_to_structures/keystostructures/store/TimedEntry;)V"⟩ : MethodName) (head1 (Jvm.Cond.code (⟨"com/example/keys_to_structures/keystostructures/store/ExpiryQueue", "add", "(Lcom/example/keys_to_structures/keystostructures/store/TimedEntry;)V"⟩ : MethodName) prog_43_method_3_code 2 none :: ws) ({ frames := 3, cells := 0, slots := 0, locals := 43 } : Room)) (fun a U => a = #[(.ref a0), (.ref a1)] ∧ Z.Warmed39 U.vm ∧ U.heap = h0) (fun _ _ _ _ _ => True) (fun _ U o U' => ∃ v L, o = .returned v ∧ QAd1 Z a0 a1 hp kA v1 v2 da1 pa1 x0 dx0 h0 n0 v U'.heap L ∧ FrameEnd U o U' L ({ frames := 3, cells := 0, slots := 0, locals := 43 } : Room).cells ({ frames := 3, cells := 0, slots := 0, locals := 43 } : Room).slots) := by
  refine MetFree.of_bodySF (plainFor_of_name pn_4) hisR ?_
  intro p e s m args below meth c s₁ Bd hml0 hP hK
  obtain ⟨rfl, hZ, hh⟩ := hP
  have hx := Bd.exec
  have hby := Bd.bytes
  have hml : c.maxLocals = 2 := hml0
  have hown : s.vm.findClass "com/example/keys_to_structures/keystostructures/store/ExpiryQueue" = some m.cls := findClass_of_methodNamed Bd.named
  have hnm := (name_of_methodNamed Bd.named Bd.method).1
  have X0 : Stand p l e ({ frames := 3, cells := 0, slots := 0, locals := 43 } : Room) s m #[(.ref a0), (.ref a1)] below meth c s₁ [] 0 0 := Stand.of_body Bd
  have e0 : s₁.heap = h0 := by rw [← hh, Bd.state]; rfl
  have N0 := Fr.nil n0
  have Kp := Keep.refl h0 [a0, hp, a1, x0]
  show Run p e below (Ends s (QAd1 Z a0 a1 hp kA v1 v2 da1 pa1 x0 dx0 h0 n0) ({ frames := 3, cells := 0, slots := 0, locals := 43 } : Room).cells ({ frames := 3, cells := 0, slots := 0, locals := 43 } : Room).slots) _
  refine Run.st (S' := s₁.setTop (mkF m 0 #[.val (.ref a0), .val (.ref a1)] [])) (fun t k => castTop (ef_Ad1 m a0 a1) k) ?_
  refine Run.st (S' := s₁.setTop (mkF m 1 #[.val (.ref a0), .val (.ref a1)] [(.ref a0)])) (fun _ k => XS.aloadN X0.here hx rfl (hb hby d7_0) rfl rfl k) ?_
  obtain ⟨T1, X1, e1, st1⟩ := getF X0 hx hZ hown (host := "") (Or.inl (hw _ (List.mem_of_getElem? (i := 46) rfl))) Via.refl e0 F_size (g := (mkF m 1 #[.val (.ref a0), .val (.ref a1)] [(.ref a0)])) rfl rfl (hb hby d7_1)
  refine Run.st (S' := T1.setTop (mkF m 5 #[.val (.ref a0), .val (.ref a1)] [(.ref a0), (.int (1 : Int32))])) (fun _ k => st1 _ (XS.aloadN X1.here hx rfl (hb hby d7_4) rfl rfl k)) ?_
  obtain ⟨T2, X2, e2, st2⟩ := getF X1 hx hZ hown (host := "") (Or.inl (hw _ (List.mem_of_getElem? (i := 39) rfl))) Via.refl e1 F_heap (g := (mkF m 5 #[.val (.ref a0), .val (.ref a1)] [(.ref a0), (.int (1 : Int32))])) rfl rfl (hb hby d7_5)
  refine Run.st (S' := T2.setTop (mkF m 8 #[.val (.ref a0), .val (.ref a1)] [(.ref hp), (.int (1 : Int32))])) (fun _ k => st2 _ k) ?_
  obtain ⟨cl3, Ar3, -, Sa3, Na3, -, -⟩ := id V_hp
  refine Run.st (S' := T2.setTop (mkF m 9 #[.val (.ref a0), .val (.ref a1)] [(.int (16 : Int32)), (.int (1 : Int32))])) (fun _ k => X2.arraylength hx (by rw [e2]; exact Ar3.1) (State.isArrayOf_alike hZ.alike Ar3.2.1) (g := (mkF m 8 #[.val (.ref a0), .val (.ref a1)] [(.ref hp), (.int (1 : Int32))])) rfl rfl (hb hby d7_8) _ (by rw [len_of Sa3 Na3]; exact k)) ?_
  refine Run.st (S' := T2.setTop (mkF m 25 #[.val (.ref a0), .val (.ref a1)] [(.ref a0), (.ref a0)])) (fun _ k => XS.icmpYes X2.here hx rfl (pc0 := 9) (pc' := 23) rfl (hb hby d7_9) rfl (feq (show ¬ ((1 : Int32) = (16 : Int32)) from (by decide))).2 (by decide) (by decide) (XS.aloadN X2.here hx rfl (hb hby d7_23) rfl rfl (XS.dup X2.here hx rfl (hb hby d7_24) rfl rfl k))) ?_
  obtain ⟨T4, X4, e4, st4⟩ := getF X2 hx hZ hown (host := "") (Or.inl (hw _ (List.mem_of_getElem? (i := 46) rfl))) Via.refl e2 F_size (g := (mkF m 25 #[.val (.ref a0), .val (.ref a1)] [(.ref a0), (.ref a0)])) rfl rfl (hb hby d7_25)
  refine Run.st (S' := T4.setTop (mkF m 30 #[.val (.ref a0), .val (.ref a1)] [(.int (2 : Int32)), (.ref a0)])) (fun _ k => st4 _ (XS.iconst X4.here hx rfl (hb hby d7_28) (XS.iadd X4.here hx rfl (hb hby d7_29) rfl k))) ?_
  obtain ⟨T5, h5, X5, e5, W5, st5⟩ := putF X4 hx hZ hown (host := "") (Or.inl (hw _ (List.mem_of_getElem? (i := 46) rfl))) Via.refl e4 F_size E_a0 (Or.inl (hw _ (List.mem_of_getElem? (i := 47) rfl))) (hw _ (List.mem_of_getElem? (i := 31) rfl)) (ty := .int) (by decide) rfl rfl (g := (mkF m 30 #[.val (.ref a0), .val (.ref a1)] [(.int (2 : Int32)), (.ref a0)])) rfl rfl (hb hby d7_30)
  have F_size := F_size.same W5
  have E_a0 := E_a0.wr W5
  have F_heap := F_heap.other W5 (Or.inr (slot_ne (Or.inl (hw _ (List.mem_of_getElem? (i := 40) rfl))) (Or.inl (hw _ (List.mem_of_getElem? (i := 47) rfl))) (by decide) (t := (.array (.object "com/example/keys_to_structures/keystostructures/store/TimedEntry"))) (t' := .int) (by decide) (by decide)))
  have V_hp := V_hp.other W5 (Ne.symm ne_a0__hp)
  have E_a1 := E_a1.wr W5
  have F_d_a1 := F_d_a1.other W5 (Or.inl (Ne.symm ne_a0__a1))
  have F_p_a1 := F_p_a1.other W5 (Or.inl (Ne.symm ne_a0__a1))
  have E_x0 := E_x0.wr W5
  have F_d_x0 := F_d_x0.other W5 (Or.inl (Ne.symm ne_a0__x0))
  have F_p_x0 := F_p_x0.other W5 (Or.inl (Ne.symm ne_a0__x0))
  have N5 := Fr.snoc X5 N0 g_a0
  have Kp := Kp.wr W5 (Or.inl (by simp))
  have Zn := Nat.le_trans Zn (Nat.le_of_eq W5.size.symm)
  refine Run.st (S' := T5.setTop (mkF m 36 #[.val (.ref a0), .val (.ref a1)] [(.ref a0), (.ref a1), (.ref a0)])) (fun _ k => st5 _ (XS.aloadN X5.here hx rfl (hb hby d7_33) rfl rfl (XS.aloadN X5.here hx rfl (hb hby d7_34) rfl rfl (XS.aloadN X5.here hx rfl (hb hby d7_35) rfl rfl k)))) ?_
  obtain ⟨T6, X6, e6, st6⟩ := getF X5 hx hZ hown (host := "") (Or.inl (hw _ (List.mem_of_getElem? (i := 46) rfl))) Via.refl e5 F_size (g := (mkF m 36 #[.val (.ref a0), .val (.ref a1)] [(.ref a0), (.ref a1), (.ref a0)])) rfl rfl (hb hby d7_36)
  refine Run.st (S' := T6.setTop (mkF m 41 #[.val (.ref a0), .val (.ref a1)] [(.int (1 : Int32)), (.ref a1), (.ref a0)])) (fun _ k => st6 _ (XS.iconst X6.here hx rfl (hb hby d7_39) (XS.isub X6.here hx rfl (hb hby d7_40) rfl k))) ?_
  obtain ⟨cq7, q7, q7'⟩ := E_a0.cell
  obtain ⟨_, _, ⟨T7, L7, k7, n7⟩, -, X7, ⟨Lc7, hQ7, l7, y7, z7⟩, st7⟩ := X6.privateBack hx (y := (⟨"com/example/keys_to_structures/keystostructures/store/ExpiryQueue", "moveUp", "(Lcom/example/keys_to_structures/keystostructures/store/TimedEntry;I)V"⟩ : MethodName)) hown (mvT hZ (hw _ (List.mem_of_getElem? (i := 48) rfl))) (mvT hZ (hw _ (List.mem_of_getElem? (i := 49) rfl))) (selSelf (y := (⟨"com/example/keys_to_structures/keystostructures/store/ExpiryQueue", "moveUp", "(Lcom/example/keys_to_structures/keystostructures/store/TimedEntry;I)V"⟩ : MethodName)) (mvT hZ (hw _ (List.mem_of_getElem? (i := 31) rfl))) (Cond.privateMethod_at (mvP hZ (hw _ (List.mem_of_getElem? (i := 50) rfl)) (args := #[]))) (mvT hZ (hw _ (List.mem_of_getElem? (i := 49) rfl))) (by decide)) (Cond.privateMethod_at (mvP hZ (hw _ (List.mem_of_getElem? (i := 50) rfl)) (args := #[]))) (mvT hZ (hw _ (List.mem_of_getElem? (i := 51) rfl))) (by decide) (backOf (W := 0) (rmMu1 l Z aV hw [] a0 a1 hp kA v1 v2 da1 pa1 x0 dx0 (0 : Int32) h5 n0 Zn g_hp O_kA g_a1 g_x0 E_a0 F_heap V_hp E_a1 F_d_a1 F_p_a1 E_x0 F_d_x0 F_p_x0 ne_a0__hp ne_a0__a1 ne_a0__x0 ne_hp__a1 ne_hp__x0 ne_a1__x0 hsw) hZ (hw _ (List.mem_of_getElem? (i := 51) rfl)) (hw _ (List.mem_of_getElem? (i := 32) rfl)) (by decide) (by decide)) (g := (mkF m 41 #[.val (.ref a0), .val (.ref a1)] [(.int (1 : Int32)), (.ref a1), (.ref a0)])) rfl (by rw [hml]; rfl) (Steps.refl _) (a := a0) (by rw [e6]; exact q7) q7' (argsL := [(.ref a1), (.int (1 : Int32))]) (rest := []) (lenOf pd_3 rfl) rfl (by show 2 * 0 + _ ≤ _; exact Nat.le_of_eq rfl) (hb hby d7_41) (fun _ _ => ⟨rfl, e6, (by decide : 0 + 0 ≤ _), (by decide : 0 + 0 ≤ _)⟩)
  dsimp only [Pt.U, Pt.locs, Pt.cells, Pt.slots] at X7 l7 y7 z7 st7 hQ7
  subst l7 y7 z7
  obtain ⟨rfl, N7q, K7, q7_0, q7_1, q7_2, q7_3⟩ := hQ7
  have E_a0 := E_a0.keep K7
  have F_heap := F_heap.keep K7 (ninS ne_a0__hp (ninS ne_a0__a1 nin0))
  have F_size := F_size.keep K7 (ninS ne_a0__hp (ninS ne_a0__a1 nin0))
  have E_x0 := E_x0.keep K7
  have F_d_x0 := F_d_x0.keep K7 (ninS (Ne.symm ne_hp__x0) (ninS (Ne.symm ne_a1__x0) nin0))
  have F_p_x0 := F_p_x0.keep K7 (ninS (Ne.symm ne_hp__x0) (ninS (Ne.symm ne_a1__x0) nin0))
  have V_hp := q7_0
  have E_a1 := q7_1
  have F_d_a1 := q7_2
  have F_p_a1 := q7_3
  have Kp := Kp.trans K7 (allS (Or.inl (by simp)) (allS (Or.inl (by simp)) all0))
  have Zn := Nat.le_trans Zn K7.1
  have N7 := Fr.app N5 N7q
  refine Run.st (S' := T7.setTop (mkF m 44 #[.val (.ref a0), .val (.ref a1)] [])) (fun _ k => st7.trans k) ?_
  refine Run.outV X7 hx Bd.notSynchronized Bd.returns (hb hby d7_44) (by decide) (by decide) ?_
  exact ⟨rfl, N7, Kp, E_a0, F_heap, F_size, V_hp, E_a1, F_d_a1, F_p_a1, E_x0, F_d_x0, F_p_x0⟩
theorem ef_Ad1s (m : MethodId) (a0 : Addr) (a1 : Addr) : entryFrame m #[(.ref a0), (.ref a1)] 2 = mkF m 0 #[.val (.ref a0), .val (.ref a1)] [] := by first | (simp [entryFrame, mkF, argsToLocals, Value.category]; done) | rfl
def QAd1s (Z : State) (a0 : Addr) (a1 : Addr) (hp : Addr) (kA : ClassId) (v1 : Value) (v2 : Value) (da1 : Int64) (pa1 : Int32) (x0 : Addr) (dx0 : Int64) (h0 : Heap) (n0 : Nat) (v : Option Value) (h : Heap) (L : List Loc) : Prop := v = none ∧ Fr n0 L ∧ Keep h0 h [a0, hp, a1, x0] ∧ Exa Z h a0 "com/example/keys_to_structures/keystostructures/store/ExpiryQueue" ∧ Fld Z h a0 "com/example/keys_to_structures/keystostructures/store/ExpiryQueue" "heap" "[Lcom/example/keys_to_structures/keystostructures/store/TimedEntry;" (.ref hp) ∧ Fld Z h a0 "com/example/keys_to_structures/keystostructures/store/ExpiryQueue" "size" "I" (.int (2 : Int32)) ∧ Arv Z h hp kA (.object "com/example/keys_to_structures/keystostructures/store/TimedEntry") (16 : Int32) [(.ref a1), (.ref x0), v2, .null, .null, .null, .null, .null, .null, .null, .null, .null, .null, .null, .null, .null] .null ∧ Exa Z h a1 "com/example/keys_to_structures/keystostructures/store/TimedEntry" ∧ Fld Z h a1 "com/example/keys_to_structures/keystostructures/store/TimedEntry" "deadline" "J" (.long da1) ∧ Fld Z h a1 "com/example/keys_to_structures/keystostructures/store/TimedEntry" "position" "I" (.int (0 : Int32)) ∧ Exa Z h x0 "com/example/keys_to_structures/keystostructures/store/TimedEntry" ∧ Fld Z h x0 "com/example/keys_to_structures/keystostructures/store/TimedEntry" "deadline" "J" (.long dx0) ∧ Fld Z h x0 "com/example/keys_to_structures/keystostructures/store/TimedEntry" "position" "I" (.int (1 : Int32))
set_option maxRecDepth 65536 in
set_option maxHeartbeats 40000000 in
theorem rmAd1s (l : Launch) (Z : State) (aV : Array Value) (hw : ∀ d ∈ tables_1, d.before aV Z = true) (ws : List Jvm.Cond) (a0 : Addr) (a1 : Addr) (hp : Addr) (kA : ClassId) (v1 : Value) (v2 : Value) (da1 : Int64) (pa1 : Int32) (x0 : Addr) (dx0 : Int64) (h0 : Heap) (n0 : Nat) (Zn : n0 ≤ h0.size) (g_a0 : n0 ≤ a0) (g_hp : n0 ≤ hp) (O_kA : Ovr Z kA "com/example/keys_to_structures/keystostructures/store/TimedEntry") (g_a1 : n0 ≤ a1) (g_x0 : n0 ≤ x0) (E_a0 : Exa Z h0 a0 "com/example/keys_to_structures/keystostructures/store/ExpiryQueue") (F_heap : Fld Z h0 a0 "com/example/keys_to_structures/keystostructures/store/ExpiryQueue" "heap" "[Lcom/example/keys_to_structures/keystostructures/store/TimedEntry;" (.ref hp)) (F_size : Fld Z h0 a0 "com/example/keys_to_structures/keystostructures/store/ExpiryQueue" "size" "I" (.int (1 : Int32))) (V_hp : Arv Z h0 hp kA (.object "com/example/keys_to_structures/keystostructures/store/TimedEntry") (16 : Int32) [(.ref x0), v1, v2, .null, .null, .null, .null, .null, .null, .null, .null, .null, .null, .null, .null, .null] .null) (E_a1 : Exa Z h0 a1 "com/example/keys_to_structures/keystostructures/store/TimedEntry") (F_d_a1 : Fld Z h0 a1 "com/example/keys_to_structures/keystostructures/store/TimedEntry" "deadline" "J" (.long da1)) (F_p_a1 : Fld Z h0 a1 "com/example/keys_to_structures/keystostructures/store/TimedEntry" "position" "I" (.int pa1)) (E_x0 : Exa Z h0 x0 "com/example/keys_to_structures/keystostructures/store/TimedEntry") (F_d_x0 : Fld Z h0 x0 "com/example/keys_to_structures/keystostructures/store/TimedEntry" "deadline" "J" (.long dx0)) (F_p_x0 : Fld Z h0 x0 "com/example/keys_to_structures/keystostructures/store/TimedEntry" "position" "I" (.int (0 : Int32))) (ne_a0__hp : a0 ≠ hp) (ne_a0__a1 : a0 ≠ a1) (ne_a0__x0 : a0 ≠ x0) (ne_hp__a1 : hp ≠ a1) (ne_hp__x0 : hp ≠ x0) (ne_a1__x0 : a1 ≠ x0) (hsw : da1 < dx0) :
    MetFree l (⟨"com/example/keys_to_structures/keystostructures/store/ExpiryQueue", "add", "(Lcom/example/keys_to_structures/keystostructures/store/TimedEntry;)V"⟩ : MethodName) (head1 (Jvm.Cond.code (⟨"com/example/keys_to_structures/keystostructures/store/ExpiryQueue", "add", "(Lcom/example/keys_to_structures/keystostructures/store/TimedEntry;)V"⟩ : MethodName) prog_43_method_3_code 2 none :: ws) ({ frames := 3, cells := 0, slots := 0, locals := 43 } : Room)) (fun a U => a = #[(.ref a0), (.ref a1)] ∧ Z.Warmed39 U.vm ∧ U.heap = h0) (fun _ _ _ _ _ => True) (fun _ U o U' => ∃ v L, o = .returned v ∧ QAd1s Z a0 a1 hp kA v1 v2 da1 pa1 x0 dx0 h0 n0 v U'.heap L ∧ FrameEnd U o U' L ({ frames := 3, cells := 0, slots := 0, locals := 43 } : Room).cells ({ frames := 3, cells := 0, slots := 0, locals := 43 } : Room).slots) := by
  refine MetFree.of_bodySF (plainFor_of_name pn_4) hisR ?_
  intro p e s m args below meth c s₁ Bd hml0 hP hK
  obtain ⟨rfl, hZ, hh⟩ := hP
  have hx := Bd.exec
  have hby := Bd.bytes
  have hml : c.maxLocals = 2 := hml0
  have hown : s.vm.findClass "com/example/keys_to_structures/keystostructures/store/ExpiryQueue" = some m.cls := findClass_of_methodNamed Bd.named
  have hnm := (name_of_methodNamed Bd.named Bd.method).1
  have X0 : Stand p l e ({ frames := 3, cells := 0, slots := 0, locals := 43 } : Room) s m #[(.ref a0), (.ref a1)] below meth c s₁ [] 0 0 := Stand.of_body Bd
  have e0 : s₁.heap = h0 := by rw [← hh, Bd.state]; rfl
  have N0 := Fr.nil n0
  have Kp := Keep.refl h0 [a0, hp, a1, x0]
  show Run p e below (Ends s (QAd1s Z a0 a1 hp kA v1 v2 da1 pa1 x0 dx0 h0 n0) ({ frames := 3, cells := 0, slots := 0, locals := 43 } : Room).cells ({ frames := 3, cells := 0, slots := 0, locals := 43 } : Room).slots) _
  refine Run.st (S' := s₁.setTop (mkF m 0 #[.val (.ref a0), .val (.ref a1)] [])) (fun t k => castTop (ef_Ad1s m a0 a1) k) ?_
  refine Run.st (S' := s₁.setTop (mkF m 1 #[.val (.ref a0), .val (.ref a1)] [(.ref a0)])) (fun _ k => XS.aloadN X0.here hx rfl (hb hby d7_0) rfl rfl k) ?_
  obtain ⟨T1, X1, e1, st1⟩ := getF X0 hx hZ hown (host := "") (Or.inl (hw _ (List.mem_of_getElem? (i := 46) rfl))) Via.refl e0 F_size (g := (mkF m 1 #[.val (.ref a0), .val (.ref a1)] [(.ref a0)])) rfl rfl (hb hby d7_1)
  refine Run.st (S' := T1.setTop (mkF m 5 #[.val (.ref a0), .val (.ref a1)] [(.ref a0), (.int (1 : Int32))])) (fun _ k => st1 _ (XS.aloadN X1.here hx rfl (hb hby d7_4) rfl rfl k)) ?_
  obtain ⟨T2, X2, e2, st2⟩ := getF X1 hx hZ hown (host := "") (Or.inl (hw _ (List.mem_of_getElem? (i := 39) rfl))) Via.refl e1 F_heap (g := (mkF m 5 #[.val (.ref a0), .val (.ref a1)] [(.ref a0), (.int (1 : Int32))])) rfl rfl (hb hby d7_5)
  refine Run.st (S' := T2.setTop (mkF m 8 #[.val (.ref a0), .val (.ref a1)] [(.ref hp), (.int (1 : Int32))])) (fun _ k => st2 _ k) ?_
  obtain ⟨cl3, Ar3, -, Sa3, Na3, -, -⟩ := id V_hp
  refine Run.st (S' := T2.setTop (mkF m 9 #[.val (.ref a0), .val (.ref a1)] [(.int (16 : Int32)), (.int (1 : Int32))])) (fun _ k => X2.arraylength hx (by rw [e2]; exact Ar3.1) (State.isArrayOf_alike hZ.alike Ar3.2.1) (g := (mkF m 8 #[.val (.ref a0), .val (.ref a1)] [(.ref hp), (.int (1 : Int32))])) rfl rfl (hb hby d7_8) _ (by rw [len_of Sa3 Na3]; exact k)) ?_
  refine Run.st (S' := T2.setTop (mkF m 25 #[.val (.ref a0), .val (.ref a1)] [(.ref a0), (.ref a0)])) (fun _ k => XS.icmpYes X2.here hx rfl (pc0 := 9) (pc' := 23) rfl (hb hby d7_9) rfl (feq (show ¬ ((1 : Int32) = (16 : Int32)) from (by decide))).2 (by decide) (by decide) (XS.aloadN X2.here hx rfl (hb hby d7_23) rfl rfl (XS.dup X2.here hx rfl (hb hby d7_24) rfl rfl k))) ?_
  obtain ⟨T4, X4, e4, st4⟩ := getF X2 hx hZ hown (host := "") (Or.inl (hw _ (List.mem_of_getElem? (i := 46) rfl))) Via.refl e2 F_size (g := (mkF m 25 #[.val (.ref a0), .val (.ref a1)] [(.ref a0), (.ref a0)])) rfl rfl (hb hby d7_25)
  refine Run.st (S' := T4.setTop (mkF m 30 #[.val (.ref a0), .val (.ref a1)] [(.int (2 : Int32)), (.ref a0)])) (fun _ k => st4 _ (XS.iconst X4.here hx rfl (hb hby d7_28) (XS.iadd X4.here hx rfl (hb hby d7_29) rfl k))) ?_
  obtain ⟨T5, h5, X5, e5, W5, st5⟩ := putF X4 hx hZ hown (host := "") (Or.inl (hw _ (List.mem_of_getElem? (i := 46) rfl))) Via.refl e4 F_size E_a0 (Or.inl (hw _ (List.mem_of_getElem? (i := 47) rfl))) (hw _ (List.mem_of_getElem? (i := 31) rfl)) (ty := .int) (by decide) rfl rfl (g := (mkF m 30 #[.val (.ref a0), .val (.ref a1)] [(.int (2 : Int32)), (.ref a0)])) rfl rfl (hb hby d7_30)
  have F_size := F_size.same W5
  have E_a0 := E_a0.wr W5
  have F_heap := F_heap.other W5 (Or.inr (slot_ne (Or.inl (hw _ (List.mem_of_getElem? (i := 40) rfl))) (Or.inl (hw _ (List.mem_of_getElem? (i := 47) rfl))) (by decide) (t := (.array (.object "com/example/keys_to_structures/keystostructures/store/TimedEntry"))) (t' := .int) (by decide) (by decide)))
  have V_hp := V_hp.other W5 (Ne.symm ne_a0__hp)
  have E_a1 := E_a1.wr W5
  have F_d_a1 := F_d_a1.other W5 (Or.inl (Ne.symm ne_a0__a1))
  have F_p_a1 := F_p_a1.other W5 (Or.inl (Ne.symm ne_a0__a1))
  have E_x0 := E_x0.wr W5
  have F_d_x0 := F_d_x0.other W5 (Or.inl (Ne.symm ne_a0__x0))
  have F_p_x0 := F_p_x0.other W5 (Or.inl (Ne.symm ne_a0__x0))
  have N5 := Fr.snoc X5 N0 g_a0
  have Kp := Kp.wr W5 (Or.inl (by simp))
  have Zn := Nat.le_trans Zn (Nat.le_of_eq W5.size.symm)
  refine Run.st (S' := T5.setTop (mkF m 36 #[.val (.ref a0), .val (.ref a1)] [(.ref a0), (.ref a1), (.ref a0)])) (fun _ k => st5 _ (XS.aloadN X5.here hx rfl (hb hby d7_33) rfl rfl (XS.aloadN X5.here hx rfl (hb hby d7_34) rfl rfl (XS.aloadN X5.here hx rfl (hb hby d7_35) rfl rfl k)))) ?_
  obtain ⟨T6, X6, e6, st6⟩ := getF X5 hx hZ hown (host := "") (Or.inl (hw _ (List.mem_of_getElem? (i := 46) rfl))) Via.refl e5 F_size (g := (mkF m 36 #[.val (.ref a0), .val (.ref a1)] [(.ref a0), (.ref a1), (.ref a0)])) rfl rfl (hb hby d7_36)
  refine Run.st (S' := T6.setTop (mkF m 41 #[.val (.ref a0), .val (.ref a1)] [(.int (1 : Int32)), (.ref a1), (.ref a0)])) (fun _ k => st6 _ (XS.iconst X6.here hx rfl (hb hby d7_39) (XS.isub X6.here hx rfl (hb hby d7_40) rfl k))) ?_
  obtain ⟨cq7, q7, q7'⟩ := E_a0.cell
  obtain ⟨_, _, ⟨T7, L7, k7, n7⟩, -, X7, ⟨Lc7, hQ7, l7, y7, z7⟩, st7⟩ := X6.privateBack hx (y := (⟨"com/example/keys_to_structures/keystostructures/store/ExpiryQueue", "moveUp", "(Lcom/example/keys_to_structures/keystostructures/store/TimedEntry;I)V"⟩ : MethodName)) hown (mvT hZ (hw _ (List.mem_of_getElem? (i := 48) rfl))) (mvT hZ (hw _ (List.mem_of_getElem? (i := 49) rfl))) (selSelf (y := (⟨"com/example/keys_to_structures/keystostructures/store/ExpiryQueue", "moveUp", "(Lcom/example/keys_to_structures/keystostructures/store/TimedEntry;I)V"⟩ : MethodName)) (mvT hZ (hw _ (List.mem_of_getElem? (i := 31) rfl))) (Cond.privateMethod_at (mvP hZ (hw _ (List.mem_of_getElem? (i := 50) rfl)) (args := #[]))) (mvT hZ (hw _ (List.mem_of_getElem? (i := 49) rfl))) (by decide)) (Cond.privateMethod_at (mvP hZ (hw _ (List.mem_of_getElem? (i := 50) rfl)) (args := #[]))) (mvT hZ (hw _ (List.mem_of_getElem? (i := 51) rfl))) (by decide) (backOf (W := 0) (rmMu1s l Z aV hw [] a0 a1 hp kA v1 v2 da1 pa1 x0 dx0 (0 : Int32) h5 n0 Zn g_hp O_kA g_a1 g_x0 E_a0 F_heap V_hp E_a1 F_d_a1 F_p_a1 E_x0 F_d_x0 F_p_x0 ne_a0__hp ne_a0__a1 ne_a0__x0 ne_hp__a1 ne_hp__x0 ne_a1__x0 hsw) hZ (hw _ (List.mem_of_getElem? (i := 51) rfl)) (hw _ (List.mem_of_getElem? (i := 32) rfl)) (by decide) (by decide)) (g := (mkF m 41 #[.val (.ref a0), .val (.ref a1)] [(.int (1 : Int32)), (.ref a1), (.ref a0)])) rfl (by rw [hml]; rfl) (Steps.refl _) (a := a0) (by rw [e6]; exact q7) q7' (argsL := [(.ref a1), (.int (1 : Int32))]) (rest := []) (lenOf pd_3 rfl) rfl (by show 2 * 0 + _ ≤ _; exact Nat.le_of_eq rfl) (hb hby d7_41) (fun _ _ => ⟨rfl, e6, (by decide : 0 + 0 ≤ _), (by decide : 0 + 0 ≤ _)⟩)
  dsimp only [Pt.U, Pt.locs, Pt.cells, Pt.slots] at X7 l7 y7 z7 st7 hQ7
  subst l7 y7 z7
  obtain ⟨rfl, N7q, K7, q7_0, q7_1, q7_2, q7_3, q7_4, q7_5, q7_6⟩ := hQ7
  have E_a0 := E_a0.keep K7
  have F_heap := F_heap.keep K7 (ninS ne_a0__hp (ninS ne_a0__a1 (ninS ne_a0__x0 nin0)))
  have F_size := F_size.keep K7 (ninS ne_a0__hp (ninS ne_a0__a1 (ninS ne_a0__x0 nin0)))
  have V_hp := q7_0
  have E_a1 := q7_1
  have F_d_a1 := q7_2
  have F_p_a1 := q7_3
  have E_x0 := q7_4
  have F_d_x0 := q7_5
  have F_p_x0 := q7_6
  have Kp := Kp.trans K7 (allS (Or.inl (by simp)) (allS (Or.inl (by simp)) (allS (Or.inl (by simp)) all0)))
  have Zn := Nat.le_trans Zn K7.1
  have N7 := Fr.app N5 N7q
  refine Run.st (S' := T7.setTop (mkF m 44 #[.val (.ref a0), .val (.ref a1)] [])) (fun _ k => st7.trans k) ?_
  refine Run.outV X7 hx Bd.notSynchronized Bd.returns (hb hby d7_44) (by decide) (by decide) ?_
  exact ⟨rfl, N7, Kp, E_a0, F_heap, F_size, V_hp, E_a1, F_d_a1, F_p_a1, E_x0, F_d_x0, F_p_x0⟩
theorem ef_Ad2 (m : MethodId) (a0 : Addr) (a1 : Addr) : entryFrame m #[(.ref a0), (.ref a1)] 2 = mkF m 0 #[.val (.ref a0), .val (.ref a1)] [] := by first | (simp [entryFrame, mkF, argsToLocals, Value.category]; done) | rfl
def QAd2 (Z : State) (a0 : Addr) (a1 : Addr) (hp : Addr) (kA : ClassId) (v2 : Value) (da1 : Int64) (pa1 : Int32) (x0 : Addr) (dx0 : Int64) (x1 : Addr) (dx1 : Int64) (h0 : Heap) (n0 : Nat) (v : Option Value) (h : Heap) (L : List Loc) : Prop := v = none ∧ Fr n0 L ∧ Keep h0 h [a0, hp, a1, x0, x1] ∧ Exa Z h a0 "com/example/keys_to_structures/keystostructures/store/ExpiryQueue" ∧ Fld Z h a0 "com/example/keys_to_structures/keystostructures/store/ExpiryQueue" "heap" "[Lcom/example/keys_to_structures/keystostructures/store/TimedEntry;" (.ref hp) ∧ Fld Z h a0 "com/example/keys_to_structures/keystostructures/store/ExpiryQueue" "size" "I" (.int (3 : Int32)) ∧ Arv Z h hp kA (.object "com/example/keys_to_structures/keystostructures/store/TimedEntry") (16 : Int32) [(.ref x0), (.ref x1), (.ref a1), .null, .null, .null, .null, .null, .null, .null, .null, .null, .null, .null, .null, .null] .null ∧ Exa Z h a1 "com/example/keys_to_structures/keystostructures/store/TimedEntry" ∧ Fld Z h a1 "com/example/keys_to_structures/keystostructures/store/TimedEntry" "deadline" "J" (.long da1) ∧ Fld Z h a1 "com/example/keys_to_structures/keystostructures/store/TimedEntry" "position" "I" (.int (2 : Int32)) ∧ Exa Z h x0 "com/example/keys_to_structures/keystostructures/store/TimedEntry" ∧ Fld Z h x0 "com/example/keys_to_structures/keystostructures/store/TimedEntry" "deadline" "J" (.long dx0) ∧ Fld Z h x0 "com/example/keys_to_structures/keystostructures/store/TimedEntry" "position" "I" (.int (0 : Int32)) ∧ Exa Z h x1 "com/example/keys_to_structures/keystostructures/store/TimedEntry" ∧ Fld Z h x1 "com/example/keys_to_structures/keystostructures/store/TimedEntry" "deadline" "J" (.long dx1) ∧ Fld Z h x1 "com/example/keys_to_structures/keystostructures/store/TimedEntry" "position" "I" (.int (1 : Int32))
set_option maxRecDepth 65536 in
set_option maxHeartbeats 40000000 in
theorem rmAd2 (l : Launch) (Z : State) (aV : Array Value) (hw : ∀ d ∈ tables_1, d.before aV Z = true) (ws : List Jvm.Cond) (a0 : Addr) (a1 : Addr) (hp : Addr) (kA : ClassId) (v2 : Value) (da1 : Int64) (pa1 : Int32) (x0 : Addr) (dx0 : Int64) (x1 : Addr) (dx1 : Int64) (h0 : Heap) (n0 : Nat) (Zn : n0 ≤ h0.size) (g_a0 : n0 ≤ a0) (g_hp : n0 ≤ hp) (O_kA : Ovr Z kA "com/example/keys_to_structures/keystostructures/store/TimedEntry") (g_a1 : n0 ≤ a1) (g_x0 : n0 ≤ x0) (g_x1 : n0 ≤ x1) (E_a0 : Exa Z h0 a0 "com/example/keys_to_structures/keystostructures/store/ExpiryQueue") (F_heap : Fld Z h0 a0 "com/example/keys_to_structures/keystostructures/store/ExpiryQueue" "heap" "[Lcom/example/keys_to_structures/keystostructures/store/TimedEntry;" (.ref hp)) (F_size : Fld Z h0 a0 "com/example/keys_to_structures/keystostructures/store/ExpiryQueue" "size" "I" (.int (2 : Int32))) (V_hp : Arv Z h0 hp kA (.object "com/example/keys_to_structures/keystostructures/store/TimedEntry") (16 : Int32) [(.ref x0), (.ref x1), v2, .null, .null, .null, .null, .null, .null, .null, .null, .null, .null, .null, .null, .null] .null) (E_a1 : Exa Z h0 a1 "com/example/keys_to_structures/keystostructures/store/TimedEntry") (F_d_a1 : Fld Z h0 a1 "com/example/keys_to_structures/keystostructures/store/TimedEntry" "deadline" "J" (.long da1)) (F_p_a1 : Fld Z h0 a1 "com/example/keys_to_structures/keystostructures/store/TimedEntry" "position" "I" (.int pa1)) (E_x0 : Exa Z h0 x0 "com/example/keys_to_structures/keystostructures/store/TimedEntry") (F_d_x0 : Fld Z h0 x0 "com/example/keys_to_structures/keystostructures/store/TimedEntry" "deadline" "J" (.long dx0)) (F_p_x0 : Fld Z h0 x0 "com/example/keys_to_structures/keystostructures/store/TimedEntry" "position" "I" (.int (0 : Int32))) (E_x1 : Exa Z h0 x1 "com/example/keys_to_structures/keystostructures/store/TimedEntry") (F_d_x1 : Fld Z h0 x1 "com/example/keys_to_structures/keystostructures/store/TimedEntry" "deadline" "J" (.long dx1)) (F_p_x1 : Fld Z h0 x1 "com/example/keys_to_structures/keystostructures/store/TimedEntry" "position" "I" (.int (1 : Int32))) (ne_a0__hp : a0 ≠ hp) (ne_a0__a1 : a0 ≠ a1) (ne_a0__x0 : a0 ≠ x0) (ne_a0__x1 : a0 ≠ x1) (ne_hp__a1 : hp ≠ a1) (ne_hp__x0 : hp ≠ x0) (ne_hp__x1 : hp ≠ x1) (ne_a1__x0 : a1 ≠ x0) (ne_a1__x1 : a1 ≠ x1) (ne_x0__x1 : x0 ≠ x1) (hsw : ¬ (da1 < dx0)) :
    MetFree l (⟨"com/example/keys_to_structures/keystostructures/store/ExpiryQueue", "add", "(Lcom/example/keys_to_structures/keystostructures/store/TimedEntry;)V"⟩ : MethodName) (head1 (Jvm.Cond.code (⟨"com/example/keys_to_structures/keystostructures/store/ExpiryQueue", "add", "(Lcom/example/keys_to_structures/keystostructures/store/TimedEntry;)V"⟩ : MethodName) prog_43_method_3_code 2 none :: ws) ({ frames := 3, cells := 0, slots := 0, locals := 43 } : Room)) (fun a U => a = #[(.ref a0), (.ref a1)] ∧ Z.Warmed39 U.vm ∧ U.heap = h0) (fun _ _ _ _ _ => True) (fun _ U o U' => ∃ v L, o = .returned v ∧ QAd2 Z a0 a1 hp kA v2 da1 pa1 x0 dx0 x1 dx1 h0 n0 v U'.heap L ∧ FrameEnd U o U' L ({ frames := 3, cells := 0, slots := 0, locals := 43 } : Room).cells ({ frames := 3, cells := 0, slots := 0, locals := 43 } : Room).slots) := by
  refine MetFree.of_bodySF (plainFor_of_name pn_4) hisR ?_
  intro p e s m args below meth c s₁ Bd hml0 hP hK
  obtain ⟨rfl, hZ, hh⟩ := hP
  have hx := Bd.exec
  have hby := Bd.bytes
  have hml : c.maxLocals = 2 := hml0
  have hown : s.vm.findClass "com/example/keys_to_structures/keystostructures/store/ExpiryQueue" = some m.cls := findClass_of_methodNamed Bd.named
  have hnm := (name_of_methodNamed Bd.named Bd.method).1
  have X0 : Stand p l e ({ frames := 3, cells := 0, slots := 0, locals := 43 } : Room) s m #[(.ref a0), (.ref a1)] below meth c s₁ [] 0 0 := Stand.of_body Bd
  have e0 : s₁.heap = h0 := by rw [← hh, Bd.state]; rfl
  have N0 := Fr.nil n0
  have Kp := Keep.refl h0 [a0, hp, a1, x0, x1]
  show Run p e below (Ends s (QAd2 Z a0 a1 hp kA v2 da1 pa1 x0 dx0 x1 dx1 h0 n0) ({ frames := 3, cells := 0, slots := 0, locals := 43 } : Room).cells ({ frames := 3, cells := 0, slots := 0, locals := 43 } : Room).slots) _
  refine Run.st (S' := s₁.setTop (mkF m 0 #[.val (.ref a0), .val (.ref a1)] [])) (fun t k => castTop (ef_Ad2 m a0 a1) k) ?_
  refine Run.st (S' := s₁.setTop (mkF m 1 #[.val (.ref a0), .val (.ref a1)] [(.ref a0)])) (fun _ k => XS.aloadN X0.here hx rfl (hb hby d7_0) rfl rfl k) ?_
  obtain ⟨T1, X1, e1, st1⟩ := getF X0 hx hZ hown (host := "") (Or.inl (hw _ (List.mem_of_getElem? (i := 46) rfl))) Via.refl e0 F_size (g := (mkF m 1 #[.val (.ref a0), .val (.ref a1)] [(.ref a0)])) rfl rfl (hb hby d7_1)
  refine Run.st (S' := T1.setTop (mkF m 5 #[.val (.ref a0), .val (.ref a1)] [(.ref a0), (.int (2 : Int32))])) (fun _ k => st1 _ (XS.aloadN X1.here hx rfl (hb hby d7_4) rfl rfl k)) ?_
  obtain ⟨T2, X2, e2, st2⟩ := getF X1 hx hZ hown (host := "") (Or.inl (hw _ (List.mem_of_getElem? (i := 39) rfl))) Via.refl e1 F_heap (g := (mkF m 5 #[.val (.ref a0), .val (.ref a1)] [(.ref a0), (.int (2 : Int32))])) rfl rfl (hb hby d7_5)
  refine Run.st (S' := T2.setTop (mkF m 8 #[.val (.ref a0), .val (.ref a1)] [(.ref hp), (.int (2 : Int32))])) (fun _ k => st2 _ k) ?_
  obtain ⟨cl3, Ar3, -, Sa3, Na3, -, -⟩ := id V_hp
  refine Run.st (S' := T2.setTop (mkF m 9 #[.val (.ref a0), .val (.ref a1)] [(.int (16 : Int32)), (.int (2 : Int32))])) (fun _ k => X2.arraylength hx (by rw [e2]; exact Ar3.1) (State.isArrayOf_alike hZ.alike Ar3.2.1) (g := (mkF m 8 #[.val (.ref a0), .val (.ref a1)] [(.ref hp), (.int (2 : Int32))])) rfl rfl (hb hby d7_8) _ (by rw [len_of Sa3 Na3]; exact k)) ?_
  refine Run.st (S' := T2.setTop (mkF m 25 #[.val (.ref a0), .val (.ref a1)] [(.ref a0), (.ref a0)])) (fun _ k => XS.icmpYes X2.here hx rfl (pc0 := 9) (pc' := 23) rfl (hb hby d7_9) rfl (feq (show ¬ ((2 : Int32) = (16 : Int32)) from (by decide))).2 (by decide) (by decide) (XS.aloadN X2.here hx rfl (hb hby d7_23) rfl rfl (XS.dup X2.here hx rfl (hb hby d7_24) rfl rfl k))) ?_
  obtain ⟨T4, X4, e4, st4⟩ := getF X2 hx hZ hown (host := "") (Or.inl (hw _ (List.mem_of_getElem? (i := 46) rfl))) Via.refl e2 F_size (g := (mkF m 25 #[.val (.ref a0), .val (.ref a1)] [(.ref a0), (.ref a0)])) rfl rfl (hb hby d7_25)
  refine Run.st (S' := T4.setTop (mkF m 30 #[.val (.ref a0), .val (.ref a1)] [(.int (3 : Int32)), (.ref a0)])) (fun _ k => st4 _ (XS.iconst X4.here hx rfl (hb hby d7_28) (XS.iadd X4.here hx rfl (hb hby d7_29) rfl k))) ?_
  obtain ⟨T5, h5, X5, e5, W5, st5⟩ := putF X4 hx hZ hown (host := "") (Or.inl (hw _ (List.mem_of_getElem? (i := 46) rfl))) Via.refl e4 F_size E_a0 (Or.inl (hw _ (List.mem_of_getElem? (i := 47) rfl))) (hw _ (List.mem_of_getElem? (i := 31) rfl)) (ty := .int) (by decide) rfl rfl (g := (mkF m 30 #[.val (.ref a0), .val (.ref a1)] [(.int (3 : Int32)), (.ref a0)])) rfl rfl (hb hby d7_30)
  have F_size := F_size.same W5
  have E_a0 := E_a0.wr W5
  have F_heap := F_heap.other W5 (Or.inr (slot_ne (Or.inl (hw _ (List.mem_of_getElem? (i := 40) rfl))) (Or.inl (hw _ (List.mem_of_getElem? (i := 47) rfl))) (by decide) (t := (.array (.object "com/example/keys_to_structures/keystostructures/store/TimedEntry"))) (t' := .int) (by decide) (by decide)))
  have V_hp := V_hp.other W5 (Ne.symm ne_a0__hp)
  have E_a1 := E_a1.wr W5
  have F_d_a1 := F_d_a1.other W5 (Or.inl (Ne.symm ne_a0__a1))
  have F_p_a1 := F_p_a1.other W5 (Or.inl (Ne.symm ne_a0__a1))
  have E_x0 := E_x0.wr W5
  have F_d_x0 := F_d_x0.other W5 (Or.inl (Ne.symm ne_a0__x0))
  have F_p_x0 := F_p_x0.other W5 (Or.inl (Ne.symm ne_a0__x0))
  have E_x1 := E_x1.wr W5
  have F_d_x1 := F_d_x1.other W5 (Or.inl (Ne.symm ne_a0__x1))
  have F_p_x1 := F_p_x1.other W5 (Or.inl (Ne.symm ne_a0__x1))
  have N5 := Fr.snoc X5 N0 g_a0
  have Kp := Kp.wr W5 (Or.inl (by simp))
  have Zn := Nat.le_trans Zn (Nat.le_of_eq W5.size.symm)
  refine Run.st (S' := T5.setTop (mkF m 36 #[.val (.ref a0), .val (.ref a1)] [(.ref a0), (.ref a1), (.ref a0)])) (fun _ k => st5 _ (XS.aloadN X5.here hx rfl (hb hby d7_33) rfl rfl (XS.aloadN X5.here hx rfl (hb hby d7_34) rfl rfl (XS.aloadN X5.here hx rfl (hb hby d7_35) rfl rfl k)))) ?_
  obtain ⟨T6, X6, e6, st6⟩ := getF X5 hx hZ hown (host := "") (Or.inl (hw _ (List.mem_of_getElem? (i := 46) rfl))) Via.refl e5 F_size (g := (mkF m 36 #[.val (.ref a0), .val (.ref a1)] [(.ref a0), (.ref a1), (.ref a0)])) rfl rfl (hb hby d7_36)
  refine Run.st (S' := T6.setTop (mkF m 41 #[.val (.ref a0), .val (.ref a1)] [(.int (2 : Int32)), (.ref a1), (.ref a0)])) (fun _ k => st6 _ (XS.iconst X6.here hx rfl (hb hby d7_39) (XS.isub X6.here hx rfl (hb hby d7_40) rfl k))) ?_
  obtain ⟨cq7, q7, q7'⟩ := E_a0.cell
  obtain ⟨_, _, ⟨T7, L7, k7, n7⟩, -, X7, ⟨Lc7, hQ7, l7, y7, z7⟩, st7⟩ := X6.privateBack hx (y := (⟨"com/example/keys_to_structures/keystostructures/store/ExpiryQueue", "moveUp", "(Lcom/example/keys_to_structures/keystostructures/store/TimedEntry;I)V"⟩ : MethodName)) hown (mvT hZ (hw _ (List.mem_of_getElem? (i := 48) rfl))) (mvT hZ (hw _ (List.mem_of_getElem? (i := 49) rfl))) (selSelf (y := (⟨"com/example/keys_to_structures/keystostructures/store/ExpiryQueue", "moveUp", "(Lcom/example/keys_to_structures/keystostructures/store/TimedEntry;I)V"⟩ : MethodName)) (mvT hZ (hw _ (List.mem_of_getElem? (i := 31) rfl))) (Cond.privateMethod_at (mvP hZ (hw _ (List.mem_of_getElem? (i := 50) rfl)) (args := #[]))) (mvT hZ (hw _ (List.mem_of_getElem? (i := 49) rfl))) (by decide)) (Cond.privateMethod_at (mvP hZ (hw _ (List.mem_of_getElem? (i := 50) rfl)) (args := #[]))) (mvT hZ (hw _ (List.mem_of_getElem? (i := 51) rfl))) (by decide) (backOf (W := 0) (rmMu2 l Z aV hw [] a0 a1 hp kA v2 da1 pa1 x0 dx0 (0 : Int32) x1 dx1 (1 : Int32) h5 n0 Zn g_hp O_kA g_a1 g_x0 g_x1 E_a0 F_heap V_hp E_a1 F_d_a1 F_p_a1 E_x0 F_d_x0 F_p_x0 E_x1 F_d_x1 F_p_x1 ne_a0__hp ne_a0__a1 ne_a0__x0 ne_a0__x1 ne_hp__a1 ne_hp__x0 ne_hp__x1 ne_a1__x0 ne_a1__x1 ne_x0__x1 hsw) hZ (hw _ (List.mem_of_getElem? (i := 51) rfl)) (hw _ (List.mem_of_getElem? (i := 32) rfl)) (by decide) (by decide)) (g := (mkF m 41 #[.val (.ref a0), .val (.ref a1)] [(.int (2 : Int32)), (.ref a1), (.ref a0)])) rfl (by rw [hml]; rfl) (Steps.refl _) (a := a0) (by rw [e6]; exact q7) q7' (argsL := [(.ref a1), (.int (2 : Int32))]) (rest := []) (lenOf pd_3 rfl) rfl (by show 2 * 0 + _ ≤ _; exact Nat.le_of_eq rfl) (hb hby d7_41) (fun _ _ => ⟨rfl, e6, (by decide : 0 + 0 ≤ _), (by decide : 0 + 0 ≤ _)⟩)
  dsimp only [Pt.U, Pt.locs, Pt.cells, Pt.slots] at X7 l7 y7 z7 st7 hQ7
  subst l7 y7 z7
  obtain ⟨rfl, N7q, K7, q7_0, q7_1, q7_2, q7_3⟩ := hQ7
  have E_a0 := E_a0.keep K7
  have F_heap := F_heap.keep K7 (ninS ne_a0__hp (ninS ne_a0__a1 nin0))
  have F_size := F_size.keep K7 (ninS ne_a0__hp (ninS ne_a0__a1 nin0))
  have E_x0 := E_x0.keep K7
  have F_d_x0 := F_d_x0.keep K7 (ninS (Ne.symm ne_hp__x0) (ninS (Ne.symm ne_a1__x0) nin0))
  have F_p_x0 := F_p_x0.keep K7 (ninS (Ne.symm ne_hp__x0) (ninS (Ne.symm ne_a1__x0) nin0))
  have E_x1 := E_x1.keep K7
  have F_d_x1 := F_d_x1.keep K7 (ninS (Ne.symm ne_hp__x1) (ninS (Ne.symm ne_a1__x1) nin0))
  have F_p_x1 := F_p_x1.keep K7 (ninS (Ne.symm ne_hp__x1) (ninS (Ne.symm ne_a1__x1) nin0))
  have V_hp := q7_0
  have E_a1 := q7_1
  have F_d_a1 := q7_2
  have F_p_a1 := q7_3
  have Kp := Kp.trans K7 (allS (Or.inl (by simp)) (allS (Or.inl (by simp)) all0))
  have Zn := Nat.le_trans Zn K7.1
  have N7 := Fr.app N5 N7q
  refine Run.st (S' := T7.setTop (mkF m 44 #[.val (.ref a0), .val (.ref a1)] [])) (fun _ k => st7.trans k) ?_
  refine Run.outV X7 hx Bd.notSynchronized Bd.returns (hb hby d7_44) (by decide) (by decide) ?_
  exact ⟨rfl, N7, Kp, E_a0, F_heap, F_size, V_hp, E_a1, F_d_a1, F_p_a1, E_x0, F_d_x0, F_p_x0, E_x1, F_d_x1, F_p_x1⟩
theorem ef_Ad2s (m : MethodId) (a0 : Addr) (a1 : Addr) : entryFrame m #[(.ref a0), (.ref a1)] 2 = mkF m 0 #[.val (.ref a0), .val (.ref a1)] [] := by first | (simp [entryFrame, mkF, argsToLocals, Value.category]; done) | rfl
def QAd2s (Z : State) (a0 : Addr) (a1 : Addr) (hp : Addr) (kA : ClassId) (v2 : Value) (da1 : Int64) (pa1 : Int32) (x0 : Addr) (dx0 : Int64) (x1 : Addr) (dx1 : Int64) (h0 : Heap) (n0 : Nat) (v : Option Value) (h : Heap) (L : List Loc) : Prop := v = none ∧ Fr n0 L ∧ Keep h0 h [a0, hp, a1, x0, x1] ∧ Exa Z h a0 "com/example/keys_to_structures/keystostructures/store/ExpiryQueue" ∧ Fld Z h a0 "com/example/keys_to_structures/keystostructures/store/ExpiryQueue" "heap" "[Lcom/example/keys_to_structures/keystostructures/store/TimedEntry;" (.ref hp) ∧ Fld Z h a0 "com/example/keys_to_structures/keystostructures/store/ExpiryQueue" "size" "I" (.int (3 : Int32)) ∧ Arv Z h hp kA (.object "com/example/keys_to_structures/keystostructures/store/TimedEntry") (16 : Int32) [(.ref a1), (.ref x1), (.ref x0), .null, .null, .null, .null, .null, .null, .null, .null, .null, .null, .null, .null, .null] .null ∧ Exa Z h a1 "com/example/keys_to_structures/keystostructures/store/TimedEntry" ∧ Fld Z h a1 "com/example/keys_to_structures/keystostructures/store/TimedEntry" "deadline" "J" (.long da1) ∧ Fld Z h a1 "com/example/keys_to_structures/keystostructures/store/TimedEntry" "position" "I" (.int (0 : Int32)) ∧ Exa Z h x0 "com/example/keys_to_structures/keystostructures/store/TimedEntry" ∧ Fld Z h x0 "com/example/keys_to_structures/keystostructures/store/TimedEntry" "deadline" "J" (.long dx0) ∧ Fld Z h x0 "com/example/keys_to_structures/keystostructures/store/TimedEntry" "position" "I" (.int (2 : Int32)) ∧ Exa Z h x1 "com/example/keys_to_structures/keystostructures/store/TimedEntry" ∧ Fld Z h x1 "com/example/keys_to_structures/keystostructures/store/TimedEntry" "deadline" "J" (.long dx1) ∧ Fld Z h x1 "com/example/keys_to_structures/keystostructures/store/TimedEntry" "position" "I" (.int (1 : Int32))
set_option maxRecDepth 65536 in
set_option maxHeartbeats 40000000 in
theorem rmAd2s (l : Launch) (Z : State) (aV : Array Value) (hw : ∀ d ∈ tables_1, d.before aV Z = true) (ws : List Jvm.Cond) (a0 : Addr) (a1 : Addr) (hp : Addr) (kA : ClassId) (v2 : Value) (da1 : Int64) (pa1 : Int32) (x0 : Addr) (dx0 : Int64) (x1 : Addr) (dx1 : Int64) (h0 : Heap) (n0 : Nat) (Zn : n0 ≤ h0.size) (g_a0 : n0 ≤ a0) (g_hp : n0 ≤ hp) (O_kA : Ovr Z kA "com/example/keys_to_structures/keystostructures/store/TimedEntry") (g_a1 : n0 ≤ a1) (g_x0 : n0 ≤ x0) (g_x1 : n0 ≤ x1) (E_a0 : Exa Z h0 a0 "com/example/keys_to_structures/keystostructures/store/ExpiryQueue") (F_heap : Fld Z h0 a0 "com/example/keys_to_structures/keystostructures/store/ExpiryQueue" "heap" "[Lcom/example/keys_to_structures/keystostructures/store/TimedEntry;" (.ref hp)) (F_size : Fld Z h0 a0 "com/example/keys_to_structures/keystostructures/store/ExpiryQueue" "size" "I" (.int (2 : Int32))) (V_hp : Arv Z h0 hp kA (.object "com/example/keys_to_structures/keystostructures/store/TimedEntry") (16 : Int32) [(.ref x0), (.ref x1), v2, .null, .null, .null, .null, .null, .null, .null, .null, .null, .null, .null, .null, .null] .null) (E_a1 : Exa Z h0 a1 "com/example/keys_to_structures/keystostructures/store/TimedEntry") (F_d_a1 : Fld Z h0 a1 "com/example/keys_to_structures/keystostructures/store/TimedEntry" "deadline" "J" (.long da1)) (F_p_a1 : Fld Z h0 a1 "com/example/keys_to_structures/keystostructures/store/TimedEntry" "position" "I" (.int pa1)) (E_x0 : Exa Z h0 x0 "com/example/keys_to_structures/keystostructures/store/TimedEntry") (F_d_x0 : Fld Z h0 x0 "com/example/keys_to_structures/keystostructures/store/TimedEntry" "deadline" "J" (.long dx0)) (F_p_x0 : Fld Z h0 x0 "com/example/keys_to_structures/keystostructures/store/TimedEntry" "position" "I" (.int (0 : Int32))) (E_x1 : Exa Z h0 x1 "com/example/keys_to_structures/keystostructures/store/TimedEntry") (F_d_x1 : Fld Z h0 x1 "com/example/keys_to_structures/keystostructures/store/TimedEntry" "deadline" "J" (.long dx1)) (F_p_x1 : Fld Z h0 x1 "com/example/keys_to_structures/keystostructures/store/TimedEntry" "position" "I" (.int (1 : Int32))) (ne_a0__hp : a0 ≠ hp) (ne_a0__a1 : a0 ≠ a1) (ne_a0__x0 : a0 ≠ x0) (ne_a0__x1 : a0 ≠ x1) (ne_hp__a1 : hp ≠ a1) (ne_hp__x0 : hp ≠ x0) (ne_hp__x1 : hp ≠ x1) (ne_a1__x0 : a1 ≠ x0) (ne_a1__x1 : a1 ≠ x1) (ne_x0__x1 : x0 ≠ x1) (hsw : da1 < dx0) :
    MetFree l (⟨"com/example/keys_to_structures/keystostructures/store/ExpiryQueue", "add", "(Lcom/example/keys_to_structures/keystostructures/store/TimedEntry;)V"⟩ : MethodName) (head1 (Jvm.Cond.code (⟨"com/example/keys_to_structures/keystostructures/store/ExpiryQueue", "add", "(Lcom/example/keys_to_structures/keystostructures/store/TimedEntry;)V"⟩ : MethodName) prog_43_method_3_code 2 none :: ws) ({ frames := 3, cells := 0, slots := 0, locals := 43 } : Room)) (fun a U => a = #[(.ref a0), (.ref a1)] ∧ Z.Warmed39 U.vm ∧ U.heap = h0) (fun _ _ _ _ _ => True) (fun _ U o U' => ∃ v L, o = .returned v ∧ QAd2s Z a0 a1 hp kA v2 da1 pa1 x0 dx0 x1 dx1 h0 n0 v U'.heap L ∧ FrameEnd U o U' L ({ frames := 3, cells := 0, slots := 0, locals := 43 } : Room).cells ({ frames := 3, cells := 0, slots := 0, locals := 43 } : Room).slots) := by
  refine MetFree.of_bodySF (plainFor_of_name pn_4) hisR ?_
  intro p e s m args below meth c s₁ Bd hml0 hP hK
  obtain ⟨rfl, hZ, hh⟩ := hP
  have hx := Bd.exec
  have hby := Bd.bytes
  have hml : c.maxLocals = 2 := hml0
  have hown : s.vm.findClass "com/example/keys_to_structures/keystostructures/store/ExpiryQueue" = some m.cls := findClass_of_methodNamed Bd.named
  have hnm := (name_of_methodNamed Bd.named Bd.method).1
  have X0 : Stand p l e ({ frames := 3, cells := 0, slots := 0, locals := 43 } : Room) s m #[(.ref a0), (.ref a1)] below meth c s₁ [] 0 0 := Stand.of_body Bd
  have e0 : s₁.heap = h0 := by rw [← hh, Bd.state]; rfl
  have N0 := Fr.nil n0
  have Kp := Keep.refl h0 [a0, hp, a1, x0, x1]
  show Run p e below (Ends s (QAd2s Z a0 a1 hp kA v2 da1 pa1 x0 dx0 x1 dx1 h0 n0) ({ frames := 3, cells := 0, slots := 0, locals := 43 } : Room).cells ({ frames := 3, cells := 0, slots := 0, locals := 43 } : Room).slots) _
  refine Run.st (S' := s₁.setTop (mkF m 0 #[.val (.ref a0), .val (.ref a1)] [])) (fun t k => castTop (ef_Ad2s m a0 a1) k) ?_
  refine Run.st (S' := s₁.setTop (mkF m 1 #[.val (.ref a0), .val (.ref a1)] [(.ref a0)])) (fun _ k => XS.aloadN X0.here hx rfl (hb hby d7_0) rfl rfl k) ?_
  obtain ⟨T1, X1, e1, st1⟩ := getF X0 hx hZ hown (host := "") (Or.inl (hw _ (List.mem_of_getElem? (i := 46) rfl))) Via.refl e0 F_size (g := (mkF m 1 #[.val (.ref a0), .val (.ref a1)] [(.ref a0)])) rfl rfl (hb hby d7_1)
  refine Run.st (S' := T1.setTop (mkF m 5 #[.val (.ref a0), .val (.ref a1)] [(.ref a0), (.int (2 : Int32))])) (fun _ k => st1 _ (XS.aloadN X1.here hx rfl (hb hby d7_4) rfl rfl k)) ?_
  obtain ⟨T2, X2, e2, st2⟩ := getF X1 hx hZ hown (host := "") (Or.inl (hw _ (List.mem_of_getElem? (i := 39) rfl))) Via.refl e1 F_heap (g := (mkF m 5 #[.val (.ref a0), .val (.ref a1)] [(.ref a0), (.int (2 : Int32))])) rfl rfl (hb hby d7_5)
  refine Run.st (S' := T2.setTop (mkF m 8 #[.val (.ref a0), .val (.ref a1)] [(.ref hp), (.int (2 : Int32))])) (fun _ k => st2 _ k) ?_
  obtain ⟨cl3, Ar3, -, Sa3, Na3, -, -⟩ := id V_hp
  refine Run.st (S' := T2.setTop (mkF m 9 #[.val (.ref a0), .val (.ref a1)] [(.int (16 : Int32)), (.int (2 : Int32))])) (fun _ k => X2.arraylength hx (by rw [e2]; exact Ar3.1) (State.isArrayOf_alike hZ.alike Ar3.2.1) (g := (mkF m 8 #[.val (.ref a0), .val (.ref a1)] [(.ref hp), (.int (2 : Int32))])) rfl rfl (hb hby d7_8) _ (by rw [len_of Sa3 Na3]; exact k)) ?_
  refine Run.st (S' := T2.setTop (mkF m 25 #[.val (.ref a0), .val (.ref a1)] [(.ref a0), (.ref a0)])) (fun _ k => XS.icmpYes X2.here hx rfl (pc0 := 9) (pc' := 23) rfl (hb hby d7_9) rfl (feq (show ¬ ((2 : Int32) = (16 : Int32)) from (by decide))).2 (by decide) (by decide) (XS.aloadN X2.here hx rfl (hb hby d7_23) rfl rfl (XS.dup X2.here hx rfl (hb hby d7_24) rfl rfl k))) ?_
  obtain ⟨T4, X4, e4, st4⟩ := getF X2 hx hZ hown (host := "") (Or.inl (hw _ (List.mem_of_getElem? (i := 46) rfl))) Via.refl e2 F_size (g := (mkF m 25 #[.val (.ref a0), .val (.ref a1)] [(.ref a0), (.ref a0)])) rfl rfl (hb hby d7_25)
  refine Run.st (S' := T4.setTop (mkF m 30 #[.val (.ref a0), .val (.ref a1)] [(.int (3 : Int32)), (.ref a0)])) (fun _ k => st4 _ (XS.iconst X4.here hx rfl (hb hby d7_28) (XS.iadd X4.here hx rfl (hb hby d7_29) rfl k))) ?_
  obtain ⟨T5, h5, X5, e5, W5, st5⟩ := putF X4 hx hZ hown (host := "") (Or.inl (hw _ (List.mem_of_getElem? (i := 46) rfl))) Via.refl e4 F_size E_a0 (Or.inl (hw _ (List.mem_of_getElem? (i := 47) rfl))) (hw _ (List.mem_of_getElem? (i := 31) rfl)) (ty := .int) (by decide) rfl rfl (g := (mkF m 30 #[.val (.ref a0), .val (.ref a1)] [(.int (3 : Int32)), (.ref a0)])) rfl rfl (hb hby d7_30)
  have F_size := F_size.same W5
  have E_a0 := E_a0.wr W5
  have F_heap := F_heap.other W5 (Or.inr (slot_ne (Or.inl (hw _ (List.mem_of_getElem? (i := 40) rfl))) (Or.inl (hw _ (List.mem_of_getElem? (i := 47) rfl))) (by decide) (t := (.array (.object "com/example/keys_to_structures/keystostructures/store/TimedEntry"))) (t' := .int) (by decide) (by decide)))
  have V_hp := V_hp.other W5 (Ne.symm ne_a0__hp)
  have E_a1 := E_a1.wr W5
  have F_d_a1 := F_d_a1.other W5 (Or.inl (Ne.symm ne_a0__a1))
  have F_p_a1 := F_p_a1.other W5 (Or.inl (Ne.symm ne_a0__a1))
  have E_x0 := E_x0.wr W5
  have F_d_x0 := F_d_x0.other W5 (Or.inl (Ne.symm ne_a0__x0))
  have F_p_x0 := F_p_x0.other W5 (Or.inl (Ne.symm ne_a0__x0))
  have E_x1 := E_x1.wr W5
  have F_d_x1 := F_d_x1.other W5 (Or.inl (Ne.symm ne_a0__x1))
  have F_p_x1 := F_p_x1.other W5 (Or.inl (Ne.symm ne_a0__x1))
  have N5 := Fr.snoc X5 N0 g_a0
  have Kp := Kp.wr W5 (Or.inl (by simp))
  have Zn := Nat.le_trans Zn (Nat.le_of_eq W5.size.symm)
  refine Run.st (S' := T5.setTop (mkF m 36 #[.val (.ref a0), .val (.ref a1)] [(.ref a0), (.ref a1), (.ref a0)])) (fun _ k => st5 _ (XS.aloadN X5.here hx rfl (hb hby d7_33) rfl rfl (XS.aloadN X5.here hx rfl (hb hby d7_34) rfl rfl (XS.aloadN X5.here hx rfl (hb hby d7_35) rfl rfl k)))) ?_
  obtain ⟨T6, X6, e6, st6⟩ := getF X5 hx hZ hown (host := "") (Or.inl (hw _ (List.mem_of_getElem? (i := 46) rfl))) Via.refl e5 F_size (g := (mkF m 36 #[.val (.ref a0), .val (.ref a1)] [(.ref a0), (.ref a1), (.ref a0)])) rfl rfl (hb hby d7_36)
  refine Run.st (S' := T6.setTop (mkF m 41 #[.val (.ref a0), .val (.ref a1)] [(.int (2 : Int32)), (.ref a1), (.ref a0)])) (fun _ k => st6 _ (XS.iconst X6.here hx rfl (hb hby d7_39) (XS.isub X6.here hx rfl (hb hby d7_40) rfl k))) ?_
  obtain ⟨cq7, q7, q7'⟩ := E_a0.cell
  obtain ⟨_, _, ⟨T7, L7, k7, n7⟩, -, X7, ⟨Lc7, hQ7, l7, y7, z7⟩, st7⟩ := X6.privateBack hx (y := (⟨"com/example/keys_to_structures/keystostructures/store/ExpiryQueue", "moveUp", "(Lcom/example/keys_to_structures/keystostructures/store/TimedEntry;I)V"⟩ : MethodName)) hown (mvT hZ (hw _ (List.mem_of_getElem? (i := 48) rfl))) (mvT hZ (hw _ (List.mem_of_getElem? (i := 49) rfl))) (selSelf (y := (⟨"com/example/keys_to_structures/keystostructures/store/ExpiryQueue", "moveUp", "(Lcom/example/keys_to_structures/keystostructures/store/TimedEntry;I)V"⟩ : MethodName)) (mvT hZ (hw _ (List.mem_of_getElem? (i := 31) rfl))) (Cond.privateMethod_at (mvP hZ (hw _ (List.mem_of_getElem? (i := 50) rfl)) (args := #[]))) (mvT hZ (hw _ (List.mem_of_getElem? (i := 49) rfl))) (by decide)) (Cond.privateMethod_at (mvP hZ (hw _ (List.mem_of_getElem? (i := 50) rfl)) (args := #[]))) (mvT hZ (hw _ (List.mem_of_getElem? (i := 51) rfl))) (by decide) (backOf (W := 0) (rmMu2s l Z aV hw [] a0 a1 hp kA v2 da1 pa1 x0 dx0 (0 : Int32) x1 dx1 (1 : Int32) h5 n0 Zn g_hp O_kA g_a1 g_x0 g_x1 E_a0 F_heap V_hp E_a1 F_d_a1 F_p_a1 E_x0 F_d_x0 F_p_x0 E_x1 F_d_x1 F_p_x1 ne_a0__hp ne_a0__a1 ne_a0__x0 ne_a0__x1 ne_hp__a1 ne_hp__x0 ne_hp__x1 ne_a1__x0 ne_a1__x1 ne_x0__x1 hsw) hZ (hw _ (List.mem_of_getElem? (i := 51) rfl)) (hw _ (List.mem_of_getElem? (i := 32) rfl)) (by decide) (by decide)) (g := (mkF m 41 #[.val (.ref a0), .val (.ref a1)] [(.int (2 : Int32)), (.ref a1), (.ref a0)])) rfl (by rw [hml]; rfl) (Steps.refl _) (a := a0) (by rw [e6]; exact q7) q7' (argsL := [(.ref a1), (.int (2 : Int32))]) (rest := []) (lenOf pd_3 rfl) rfl (by show 2 * 0 + _ ≤ _; exact Nat.le_of_eq rfl) (hb hby d7_41) (fun _ _ => ⟨rfl, e6, (by decide : 0 + 0 ≤ _), (by decide : 0 + 0 ≤ _)⟩)
  dsimp only [Pt.U, Pt.locs, Pt.cells, Pt.slots] at X7 l7 y7 z7 st7 hQ7
  subst l7 y7 z7
  obtain ⟨rfl, N7q, K7, q7_0, q7_1, q7_2, q7_3, q7_4, q7_5, q7_6⟩ := hQ7
  have E_a0 := E_a0.keep K7
  have F_heap := F_heap.keep K7 (ninS ne_a0__hp (ninS ne_a0__a1 (ninS ne_a0__x0 nin0)))
  have F_size := F_size.keep K7 (ninS ne_a0__hp (ninS ne_a0__a1 (ninS ne_a0__x0 nin0)))
  have E_x1 := E_x1.keep K7
  have F_d_x1 := F_d_x1.keep K7 (ninS (Ne.symm ne_hp__x1) (ninS (Ne.symm ne_a1__x1) (ninS (Ne.symm ne_x0__x1) nin0)))
  have F_p_x1 := F_p_x1.keep K7 (ninS (Ne.symm ne_hp__x1) (ninS (Ne.symm ne_a1__x1) (ninS (Ne.symm ne_x0__x1) nin0)))
  have V_hp := q7_0
  have E_a1 := q7_1
  have F_d_a1 := q7_2
  have F_p_a1 := q7_3
  have E_x0 := q7_4
  have F_d_x0 := q7_5
  have F_p_x0 := q7_6
  have Kp := Kp.trans K7 (allS (Or.inl (by simp)) (allS (Or.inl (by simp)) (allS (Or.inl (by simp)) all0)))
  have Zn := Nat.le_trans Zn K7.1
  have N7 := Fr.app N5 N7q
  refine Run.st (S' := T7.setTop (mkF m 44 #[.val (.ref a0), .val (.ref a1)] [])) (fun _ k => st7.trans k) ?_
  refine Run.outV X7 hx Bd.notSynchronized Bd.returns (hb hby d7_44) (by decide) (by decide) ?_
  exact ⟨rfl, N7, Kp, E_a0, F_heap, F_size, V_hp, E_a1, F_d_a1, F_p_a1, E_x0, F_d_x0, F_p_x0, E_x1, F_d_x1, F_p_x1⟩
theorem d16_0 : decode prog_43_method_8_code 0 = .ok (.iload_n 2, 1) := by decide +kernel
theorem d16_1 : decode prog_43_method_8_code 1 = .ok (.istore_n 3, 1) := by decide +kernel
theorem d16_2 : decode prog_43_method_8_code 2 = .ok (.iconst 2, 1) := by decide +kernel
theorem d16_3 : decode prog_43_method_8_code 3 = .ok (.iload_n 3, 1) := by decide +kernel
theorem d16_4 : decode prog_43_method_8_code 4 = .ok (.imul, 1) := by decide +kernel
theorem d16_5 : decode prog_43_method_8_code 5 = .ok (.iconst 1, 1) := by decide +kernel
theorem d16_6 : decode prog_43_method_8_code 6 = .ok (.iadd, 1) := by decide +kernel
theorem d16_7 : decode prog_43_method_8_code 7 = .ok (.istore 4, 2) := by decide +kernel
theorem d16_9 : decode prog_43_method_8_code 9 = .ok (.iload 4, 2) := by decide +kernel
theorem d16_11 : decode prog_43_method_8_code 11 = .ok (.aload_n 0, 1) := by decide +kernel
theorem d16_12 : decode prog_43_method_8_code 12 = .ok (.getfield 15, 3) := by decide +kernel
theorem d16_15 : decode prog_43_method_8_code 15 = .ok (.if_icmp .ge 89, 3) := by decide +kernel
theorem d16_104 : decode prog_43_method_8_code 104 = .ok (.aload_n 0, 1) := by decide +kernel
theorem d16_105 : decode prog_43_method_8_code 105 = .ok (.aload_n 1, 1) := by decide +kernel
theorem d16_106 : decode prog_43_method_8_code 106 = .ok (.iload_n 3, 1) := by decide +kernel
theorem d16_107 : decode prog_43_method_8_code 107 = .ok (.invokevirtual 38, 3) := by decide +kernel
theorem d16_110 : decode prog_43_method_8_code 110 = .ok (.return_, 1) := by decide +kernel
theorem ef_MdA1 (m : MethodId) (a0 : Addr) (a1 : Addr) : entryFrame m #[(.ref a0), (.ref a1), (.int (0 : Int32))] 5 = mkF m 0 #[.val (.ref a0), .val (.ref a1), .val (.int (0 : Int32)), .unset, .unset] [] := by first | (simp [entryFrame, mkF, argsToLocals, Value.category]; done) | rfl
def QMdA1 (Z : State) (a0 : Addr) (a1 : Addr) (hp : Addr) (kA : ClassId) (v0 : Value) (v1 : Value) (v2 : Value) (da1 : Int64) (pa1 : Int32) (h0 : Heap) (n0 : Nat) (v : Option Value) (h : Heap) (L : List Loc) : Prop := v = none ∧ Fr n0 L ∧ Keep h0 h [hp, a1] ∧ Arv Z h hp kA (.object "com/example/keys_to_structures/keystostructures/store/TimedEntry") (16 : Int32) [(.ref a1), v1, v2, .null, .null, .null, .null, .null, .null, .null, .null, .null, .null, .null, .null, .null] .null ∧ Exa Z h a1 "com/example/keys_to_structures/keystostructures/store/TimedEntry" ∧ Fld Z h a1 "com/example/keys_to_structures/keystostructures/store/TimedEntry" "deadline" "J" (.long da1) ∧ Fld Z h a1 "com/example/keys_to_structures/keystostructures/store/TimedEntry" "position" "I" (.int (0 : Int32))
set_option maxRecDepth 65536 in
set_option maxHeartbeats 40000000 in
theorem rmMdA1 (l : Launch) (Z : State) (aV : Array Value) (hw : ∀ d ∈ tables_1, d.before aV Z = true) (ws : List Jvm.Cond) (a0 : Addr) (a1 : Addr) (hp : Addr) (kA : ClassId) (v0 : Value) (v1 : Value) (v2 : Value) (da1 : Int64) (pa1 : Int32) (h0 : Heap) (n0 : Nat) (Zn : n0 ≤ h0.size) (g_hp : n0 ≤ hp) (O_kA : Ovr Z kA "com/example/keys_to_structures/keystostructures/store/TimedEntry") (g_a1 : n0 ≤ a1) (E_a0 : Exa Z h0 a0 "com/example/keys_to_structures/keystostructures/store/ExpiryQueue") (F_heap : Fld Z h0 a0 "com/example/keys_to_structures/keystostructures/store/ExpiryQueue" "heap" "[Lcom/example/keys_to_structures/keystostructures/store/TimedEntry;" (.ref hp)) (F_size : Fld Z h0 a0 "com/example/keys_to_structures/keystostructures/store/ExpiryQueue" "size" "I" (.int (1 : Int32))) (V_hp : Arv Z h0 hp kA (.object "com/example/keys_to_structures/keystostructures/store/TimedEntry") (16 : Int32) [v0, v1, v2, .null, .null, .null, .null, .null, .null, .null, .null, .null, .null, .null, .null, .null] .null) (E_a1 : Exa Z h0 a1 "com/example/keys_to_structures/keystostructures/store/TimedEntry") (F_d_a1 : Fld Z h0 a1 "com/example/keys_to_structures/keystostructures/store/TimedEntry" "deadline" "J" (.long da1)) (F_p_a1 : Fld Z h0 a1 "com/example/keys_to_structures/keystostructures/store/TimedEntry" "position" "I" (.int pa1)) (ne_a0__hp : a0 ≠ hp) (ne_a0__a1 : a0 ≠ a1) (ne_hp__a1 : hp ≠ a1) :
    MetFree l (⟨"com/example/keys_to_structures/keystostructures/store/ExpiryQueue", "moveDown", "(Lcom/example/keys_to_structures/keystostructures/store/TimedEntry;I)V"⟩ : MethodName) (head1 (Jvm.Cond.code (⟨"com/example/keys_to_structures/keystostructures/store/ExpiryQueue", "moveDown", "(Lcom/example/keys_to_structures/keystostructures/store/TimedEntry;I)V"⟩ : MethodName) prog_43_method_8_code 5 none :: ws) ({ frames := 2, cells := 0, slots := 0, locals := 27 } : Room)) (fun a U => a = #[(.ref a0), (.ref a1), (.int (0 : Int32))] ∧ Z.Warmed39 U.vm ∧ U.heap = h0) (fun _ _ _ _ _ => True) (fun _ U o U' => ∃ v L, o = .returned v ∧ QMdA1 Z a0 a1 hp kA v0 v1 v2 da1 pa1 h0 n0 v U'.heap L ∧ FrameEnd U o U' L ({ frames := 2, cells := 0, slots := 0, locals := 27 } : Room).cells ({ frames := 2, cells := 0, slots := 0, locals := 27 } : Room).slots) := by
  refine MetFree.of_bodySF (plainFor_of_name pn_4) hisR ?_
  intro p e s m args below meth c s₁ Bd hml0 hP hK
  obtain ⟨rfl, hZ, hh⟩ := hP
  have hx := Bd.exec
  have hby := Bd.bytes
  have hml : c.maxLocals = 5 := hml0
  have hown : s.vm.findClass "com/example/keys_to_structures/keystostructures/store/ExpiryQueue" = some m.cls := findClass_of_methodNamed Bd.named
  have hnm := (name_of_methodNamed Bd.named Bd.method).1
  have X0 : Stand p l e ({ frames := 2, cells := 0, slots := 0, locals := 27 } : Room) s m #[(.ref a0), (.ref a1), (.int (0 : Int32))] below meth c s₁ [] 0 0 := Stand.of_body Bd
  have e0 : s₁.heap = h0 := by rw [← hh, Bd.state]; rfl
  have N0 := Fr.nil n0
  have Kp := Keep.refl h0 [hp, a1]
  show Run p e below (Ends s (QMdA1 Z a0 a1 hp kA v0 v1 v2 da1 pa1 h0 n0) ({ frames := 2, cells := 0, slots := 0, locals := 27 } : Room).cells ({ frames := 2, cells := 0, slots := 0, locals := 27 } : Room).slots) _
  refine Run.st (S' := s₁.setTop (mkF m 0 #[.val (.ref a0), .val (.ref a1), .val (.int (0 : Int32)), .unset, .unset] [])) (fun t k => castTop (ef_MdA1 m a0 a1) k) ?_
  refine Run.st (S' := s₁.setTop (mkF m 9 #[.val (.ref a0), .val (.ref a1), .val (.int (0 : Int32)), .val (.int (0 : Int32)), .val (.int (1 : Int32))] [])) (fun _ k => XS.iloadN X0.here hx rfl (hb hby d16_0) rfl (XS.istoreN X0.here hx rfl (hb hby d16_1) rfl (l' := #[.val (.ref a0), .val (.ref a1), .val (.int (0 : Int32)), .val (.int (0 : Int32)), .unset]) rfl (XS.iconst X0.here hx rfl (hb hby d16_2) (XS.iloadN X0.here hx rfl (hb hby d16_3) rfl (XS.imul X0.here hx rfl (hb hby d16_4) rfl (XS.iconst X0.here hx rfl (hb hby d16_5) (XS.iadd X0.here hx rfl (hb hby d16_6) rfl (XS.istore X0.here hx rfl (hb hby d16_7) rfl (l' := #[.val (.ref a0), .val (.ref a1), .val (.int (0 : Int32)), .val (.int (0 : Int32)), .val (.int (1 : Int32))]) rfl k)))))))) ?_
  refine Run.st (S' := s₁.setTop (mkF m 12 #[.val (.ref a0), .val (.ref a1), .val (.int (0 : Int32)), .val (.int (0 : Int32)), .val (.int (1 : Int32))] [(.ref a0), (.int (1 : Int32))])) (fun _ k => XS.iload X0.here hx rfl (hb hby d16_9) rfl (XS.aloadN X0.here hx rfl (hb hby d16_11) rfl rfl k)) ?_
  obtain ⟨T1, X1, e1, st1⟩ := getF X0 hx hZ hown (host := "") (Or.inl (hw _ (List.mem_of_getElem? (i := 46) rfl))) Via.refl e0 F_size (g := (mkF m 12 #[.val (.ref a0), .val (.ref a1), .val (.int (0 : Int32)), .val (.int (0 : Int32)), .val (.int (1 : Int32))] [(.ref a0), (.int (1 : Int32))])) rfl rfl (hb hby d16_12)
  refine Run.st (S' := T1.setTop (mkF m 107 #[.val (.ref a0), .val (.ref a1), .val (.int (0 : Int32)), .val (.int (0 : Int32)), .val (.int (1 : Int32))] [(.int (0 : Int32)), (.ref a1), (.ref a0)])) (fun _ k => st1 _ (XS.icmpYes X1.here hx rfl (pc0 := 15) (pc' := 104) rfl (hb hby d16_15) rfl (flt (show ¬ ((1 : Int32) < (1 : Int32)) from (by decide))).2.1 (by decide) (by decide) (XS.aloadN X1.here hx rfl (hb hby d16_104) rfl rfl (XS.aloadN X1.here hx rfl (hb hby d16_105) rfl rfl (XS.iloadN X1.here hx rfl (hb hby d16_106) rfl k))))) ?_
  obtain ⟨cq2, q2, q2'⟩ := E_a0.cell
  obtain ⟨_, _, ⟨T2, L2, k2, n2⟩, -, X2, ⟨Lc2, hQ2, l2, y2, z2⟩, st2⟩ := X1.privateBack hx (y := (⟨"com/example/keys_to_structures/keystostructures/store/ExpiryQueue", "place", "(Lcom/example/keys_to_structures/keystostructures/store/TimedEntry;I)V"⟩ : MethodName)) hown (mvT hZ (hw _ (List.mem_of_getElem? (i := 52) rfl))) (mvT hZ (hw _ (List.mem_of_getElem? (i := 53) rfl))) (selSelf (y := (⟨"com/example/keys_to_structures/keystostructures/store/ExpiryQueue", "place", "(Lcom/example/keys_to_structures/keystostructures/store/TimedEntry;I)V"⟩ : MethodName)) (mvT hZ (hw _ (List.mem_of_getElem? (i := 31) rfl))) (Cond.privateMethod_at (mvP hZ (hw _ (List.mem_of_getElem? (i := 54) rfl)) (args := #[]))) (mvT hZ (hw _ (List.mem_of_getElem? (i := 53) rfl))) (by decide)) (Cond.privateMethod_at (mvP hZ (hw _ (List.mem_of_getElem? (i := 54) rfl)) (args := #[]))) (mvT hZ (hw _ (List.mem_of_getElem? (i := 55) rfl))) (by decide) (backOf (W := 0) (rmPl0 l Z aV hw [] a0 a1 hp kA v0 v1 v2 pa1 da1 h0 n0 Zn g_hp g_a1 O_kA E_a0 F_heap V_hp E_a1 F_d_a1 F_p_a1 ne_a0__hp ne_a0__a1 ne_hp__a1) hZ (hw _ (List.mem_of_getElem? (i := 55) rfl)) (hw _ (List.mem_of_getElem? (i := 32) rfl)) (by decide) (by decide)) (g := (mkF m 107 #[.val (.ref a0), .val (.ref a1), .val (.int (0 : Int32)), .val (.int (0 : Int32)), .val (.int (1 : Int32))] [(.int (0 : Int32)), (.ref a1), (.ref a0)])) rfl (by rw [hml]; rfl) (Steps.refl _) (a := a0) (by rw [e1]; exact q2) q2' (argsL := [(.ref a1), (.int (0 : Int32))]) (rest := []) (lenOf pd_3 rfl) rfl (by show 2 * 0 + _ ≤ _; exact Nat.le_of_eq rfl) (hb hby d16_107) (fun _ _ => ⟨rfl, e1, (by decide : 0 + 0 ≤ _), (by decide : 0 + 0 ≤ _)⟩)
  dsimp only [Pt.U, Pt.locs, Pt.cells, Pt.slots] at X2 l2 y2 z2 st2 hQ2
  subst l2 y2 z2
  obtain ⟨rfl, N2q, K2, q2_0, q2_1, q2_2, q2_3⟩ := hQ2
  have E_a0 := E_a0.keep K2
  have F_heap := F_heap.keep K2 (ninS ne_a0__hp (ninS ne_a0__a1 nin0))
  have F_size := F_size.keep K2 (ninS ne_a0__hp (ninS ne_a0__a1 nin0))
  have V_hp := q2_0
  have E_a1 := q2_1
  have F_d_a1 := q2_2
  have F_p_a1 := q2_3
  have Kp := Kp.trans K2 (allS (Or.inl (by simp)) (allS (Or.inl (by simp)) all0))
  have Zn := Nat.le_trans Zn K2.1
  have N2 := Fr.app N0 N2q
  refine Run.st (S' := T2.setTop (mkF m 110 #[.val (.ref a0), .val (.ref a1), .val (.int (0 : Int32)), .val (.int (0 : Int32)), .val (.int (1 : Int32))] [])) (fun _ k => st2.trans k) ?_
  refine Run.outV X2 hx Bd.notSynchronized Bd.returns (hb hby d16_110) (by decide) (by decide) ?_
  exact ⟨rfl, N2, Kp, V_hp, E_a1, F_d_a1, F_p_a1⟩
theorem ef_MdA2 (m : MethodId) (a0 : Addr) (a1 : Addr) : entryFrame m #[(.ref a0), (.ref a1), (.int (1 : Int32))] 5 = mkF m 0 #[.val (.ref a0), .val (.ref a1), .val (.int (1 : Int32)), .unset, .unset] [] := by first | (simp [entryFrame, mkF, argsToLocals, Value.category]; done) | rfl
def QMdA2 (Z : State) (a0 : Addr) (a1 : Addr) (hp : Addr) (kA : ClassId) (v0 : Value) (v1 : Value) (v2 : Value) (da1 : Int64) (pa1 : Int32) (h0 : Heap) (n0 : Nat) (v : Option Value) (h : Heap) (L : List Loc) : Prop := v = none ∧ Fr n0 L ∧ Keep h0 h [hp, a1] ∧ Arv Z h hp kA (.object "com/example/keys_to_structures/keystostructures/store/TimedEntry") (16 : Int32) [v0, (.ref a1), v2, .null, .null, .null, .null, .null, .null, .null, .null, .null, .null, .null, .null, .null] .null ∧ Exa Z h a1 "com/example/keys_to_structures/keystostructures/store/TimedEntry" ∧ Fld Z h a1 "com/example/keys_to_structures/keystostructures/store/TimedEntry" "deadline" "J" (.long da1) ∧ Fld Z h a1 "com/example/keys_to_structures/keystostructures/store/TimedEntry" "position" "I" (.int (1 : Int32))
set_option maxRecDepth 65536 in
set_option maxHeartbeats 40000000 in
theorem rmMdA2 (l : Launch) (Z : State) (aV : Array Value) (hw : ∀ d ∈ tables_1, d.before aV Z = true) (ws : List Jvm.Cond) (a0 : Addr) (a1 : Addr) (hp : Addr) (kA : ClassId) (v0 : Value) (v1 : Value) (v2 : Value) (da1 : Int64) (pa1 : Int32) (h0 : Heap) (n0 : Nat) (Zn : n0 ≤ h0.size) (g_hp : n0 ≤ hp) (O_kA : Ovr Z kA "com/example/keys_to_structures/keystostructures/store/TimedEntry") (g_a1 : n0 ≤ a1) (E_a0 : Exa Z h0 a0 "com/example/keys_to_structures/keystostructures/store/ExpiryQueue") (F_heap : Fld Z h0 a0 "com/example/keys_to_structures/keystostructures/store/ExpiryQueue" "heap" "[Lcom/example/keys_to_structures/keystostructures/store/TimedEntry;" (.ref hp)) (F_size : Fld Z h0 a0 "com/example/keys_to_structures/keystostructures/store/ExpiryQueue" "size" "I" (.int (2 : Int32))) (V_hp : Arv Z h0 hp kA (.object "com/example/keys_to_structures/keystostructures/store/TimedEntry") (16 : Int32) [v0, v1, v2, .null, .null, .null, .null, .null, .null, .null, .null, .null, .null, .null, .null, .null] .null) (E_a1 : Exa Z h0 a1 "com/example/keys_to_structures/keystostructures/store/TimedEntry") (F_d_a1 : Fld Z h0 a1 "com/example/keys_to_structures/keystostructures/store/TimedEntry" "deadline" "J" (.long da1)) (F_p_a1 : Fld Z h0 a1 "com/example/keys_to_structures/keystostructures/store/TimedEntry" "position" "I" (.int pa1)) (ne_a0__hp : a0 ≠ hp) (ne_a0__a1 : a0 ≠ a1) (ne_hp__a1 : hp ≠ a1) :
    MetFree l (⟨"com/example/keys_to_structures/keystostructures/store/ExpiryQueue", "moveDown", "(Lcom/example/keys_to_structures/keystostructures/store/TimedEntry;I)V"⟩ : MethodName) (head1 (Jvm.Cond.code (⟨"com/example/keys_to_structures/keystostructures/store/ExpiryQueue", "moveDown", "(Lcom/example/keys_to_structures/keystostructures/store/TimedEntry;I)V"⟩ : MethodName) prog_43_method_8_code 5 none :: ws) ({ frames := 2, cells := 0, slots := 0, locals := 27 } : Room)) (fun a U => a = #[(.ref a0), (.ref a1), (.int (1 : Int32))] ∧ Z.Warmed39 U.vm ∧ U.heap = h0) (fun _ _ _ _ _ => True) (fun _ U o U' => ∃ v L, o = .returned v ∧ QMdA2 Z a0 a1 hp kA v0 v1 v2 da1 pa1 h0 n0 v U'.heap L ∧ FrameEnd U o U' L ({ frames := 2, cells := 0, slots := 0, locals := 27 } : Room).cells ({ frames := 2, cells := 0, slots := 0, locals := 27 } : Room).slots) := by
  refine MetFree.of_bodySF (plainFor_of_name pn_4) hisR ?_
  intro p e s m args below meth c s₁ Bd hml0 hP hK
  obtain ⟨rfl, hZ, hh⟩ := hP
  have hx := Bd.exec
  have hby := Bd.bytes
  have hml : c.maxLocals = 5 := hml0
  have hown : s.vm.findClass "com/example/keys_to_structures/keystostructures/store/ExpiryQueue" = some m.cls := findClass_of_methodNamed Bd.named
  have hnm := (name_of_methodNamed Bd.named Bd.method).1
  have X0 : Stand p l e ({ frames := 2, cells := 0, slots := 0, locals := 27 } : Room) s m #[(.ref a0), (.ref a1), (.int (1 : Int32))] below meth c s₁ [] 0 0 := Stand.of_body Bd
  have e0 : s₁.heap = h0 := by rw [← hh, Bd.state]; rfl
  have N0 := Fr.nil n0
  have Kp := Keep.refl h0 [hp, a1]
  show Run p e below (Ends s (QMdA2 Z a0 a1 hp kA v0 v1 v2 da1 pa1 h0 n0) ({ frames := 2, cells := 0, slots := 0, locals := 27 } : Room).cells ({ frames := 2, cells := 0, slots := 0, locals := 27 } : Room).slots) _
  refine Run.st (S' := s₁.setTop (mkF m 0 #[.val (.ref a0), .val (.ref a1), .val (.int (1 : Int32)), .unset, .unset] [])) (fun t k => castTop (ef_MdA2 m a0 a1) k) ?_
  refine Run.st (S' := s₁.setTop (mkF m 9 #[.val (.ref a0), .val (.ref a1), .val (.int (1 : Int32)), .val (.int (1 : Int32)), .val (.int (3 : Int32))] [])) (fun _ k => XS.iloadN X0.here hx rfl (hb hby d16_0) rfl (XS.istoreN X0.here hx rfl (hb hby d16_1) rfl (l' := #[.val (.ref a0), .val (.ref a1), .val (.int (1 : Int32)), .val (.int (1 : Int32)), .unset]) rfl (XS.iconst X0.here hx rfl (hb hby d16_2) (XS.iloadN X0.here hx rfl (hb hby d16_3) rfl (XS.imul X0.here hx rfl (hb hby d16_4) rfl (XS.iconst X0.here hx rfl (hb hby d16_5) (XS.iadd X0.here hx rfl (hb hby d16_6) rfl (XS.istore X0.here hx rfl (hb hby d16_7) rfl (l' := #[.val (.ref a0), .val (.ref a1), .val (.int (1 : Int32)), .val (.int (1 : Int32)), .val (.int (3 : Int32))]) rfl k)))))))) ?_
  refine Run.st (S' := s₁.setTop (mkF m 12 #[.val (.ref a0), .val (.ref a1), .val (.int (1 : Int32)), .val (.int (1 : Int32)), .val (.int (3 : Int32))] [(.ref a0), (.int (3 : Int32))])) (fun _ k => XS.iload X0.here hx rfl (hb hby d16_9) rfl (XS.aloadN X0.here hx rfl (hb hby d16_11) rfl rfl k)) ?_
  obtain ⟨T1, X1, e1, st1⟩ := getF X0 hx hZ hown (host := "") (Or.inl (hw _ (List.mem_of_getElem? (i := 46) rfl))) Via.refl e0 F_size (g := (mkF m 12 #[.val (.ref a0), .val (.ref a1), .val (.int (1 : Int32)), .val (.int (1 : Int32)), .val (.int (3 : Int32))] [(.ref a0), (.int (3 : Int32))])) rfl rfl (hb hby d16_12)
  refine Run.st (S' := T1.setTop (mkF m 107 #[.val (.ref a0), .val (.ref a1), .val (.int (1 : Int32)), .val (.int (1 : Int32)), .val (.int (3 : Int32))] [(.int (1 : Int32)), (.ref a1), (.ref a0)])) (fun _ k => st1 _ (XS.icmpYes X1.here hx rfl (pc0 := 15) (pc' := 104) rfl (hb hby d16_15) rfl (flt (show ¬ ((3 : Int32) < (2 : Int32)) from (by decide))).2.1 (by decide) (by decide) (XS.aloadN X1.here hx rfl (hb hby d16_104) rfl rfl (XS.aloadN X1.here hx rfl (hb hby d16_105) rfl rfl (XS.iloadN X1.here hx rfl (hb hby d16_106) rfl k))))) ?_
  obtain ⟨cq2, q2, q2'⟩ := E_a0.cell
  obtain ⟨_, _, ⟨T2, L2, k2, n2⟩, -, X2, ⟨Lc2, hQ2, l2, y2, z2⟩, st2⟩ := X1.privateBack hx (y := (⟨"com/example/keys_to_structures/keystostructures/store/ExpiryQueue", "place", "(Lcom/example/keys_to_structures/keystostructures/store/TimedEntry;I)V"⟩ : MethodName)) hown (mvT hZ (hw _ (List.mem_of_getElem? (i := 52) rfl))) (mvT hZ (hw _ (List.mem_of_getElem? (i := 53) rfl))) (selSelf (y := (⟨"com/example/keys_to_structures/keystostructures/store/ExpiryQueue", "place", "(Lcom/example/keys_to_structures/keystostructures/store/TimedEntry;I)V"⟩ : MethodName)) (mvT hZ (hw _ (List.mem_of_getElem? (i := 31) rfl))) (Cond.privateMethod_at (mvP hZ (hw _ (List.mem_of_getElem? (i := 54) rfl)) (args := #[]))) (mvT hZ (hw _ (List.mem_of_getElem? (i := 53) rfl))) (by decide)) (Cond.privateMethod_at (mvP hZ (hw _ (List.mem_of_getElem? (i := 54) rfl)) (args := #[]))) (mvT hZ (hw _ (List.mem_of_getElem? (i := 55) rfl))) (by decide) (backOf (W := 0) (rmPl1 l Z aV hw [] a0 a1 hp kA v0 v1 v2 pa1 da1 h0 n0 Zn g_hp g_a1 O_kA E_a0 F_heap V_hp E_a1 F_d_a1 F_p_a1 ne_a0__hp ne_a0__a1 ne_hp__a1) hZ (hw _ (List.mem_of_getElem? (i := 55) rfl)) (hw _ (List.mem_of_getElem? (i := 32) rfl)) (by decide) (by decide)) (g := (mkF m 107 #[.val (.ref a0), .val (.ref a1), .val (.int (1 : Int32)), .val (.int (1 : Int32)), .val (.int (3 : Int32))] [(.int (1 : Int32)), (.ref a1), (.ref a0)])) rfl (by rw [hml]; rfl) (Steps.refl _) (a := a0) (by rw [e1]; exact q2) q2' (argsL := [(.ref a1), (.int (1 : Int32))]) (rest := []) (lenOf pd_3 rfl) rfl (by show 2 * 0 + _ ≤ _; exact Nat.le_of_eq rfl) (hb hby d16_107) (fun _ _ => ⟨rfl, e1, (by decide : 0 + 0 ≤ _), (by decide : 0 + 0 ≤ _)⟩)
  dsimp only [Pt.U, Pt.locs, Pt.cells, Pt.slots] at X2 l2 y2 z2 st2 hQ2
  subst l2 y2 z2
  obtain ⟨rfl, N2q, K2, q2_0, q2_1, q2_2, q2_3⟩ := hQ2
  have E_a0 := E_a0.keep K2
  have F_heap := F_heap.keep K2 (ninS ne_a0__hp (ninS ne_a0__a1 nin0))
  have F_size := F_size.keep K2 (ninS ne_a0__hp (ninS ne_a0__a1 nin0))
  have V_hp := q2_0
  have E_a1 := q2_1
  have F_d_a1 := q2_2
  have F_p_a1 := q2_3
  have Kp := Kp.trans K2 (allS (Or.inl (by simp)) (allS (Or.inl (by simp)) all0))
  have Zn := Nat.le_trans Zn K2.1
  have N2 := Fr.app N0 N2q
  refine Run.st (S' := T2.setTop (mkF m 110 #[.val (.ref a0), .val (.ref a1), .val (.int (1 : Int32)), .val (.int (1 : Int32)), .val (.int (3 : Int32))] [])) (fun _ k => st2.trans k) ?_
  refine Run.outV X2 hx Bd.notSynchronized Bd.returns (hb hby d16_110) (by decide) (by decide) ?_
  exact ⟨rfl, N2, Kp, V_hp, E_a1, F_d_a1, F_p_a1⟩
theorem d16_18 : decode prog_43_method_8_code 18 = .ok (.iload 4, 2) := by decide +kernel
theorem d16_20 : decode prog_43_method_8_code 20 = .ok (.iconst 1, 1) := by decide +kernel
theorem d16_21 : decode prog_43_method_8_code 21 = .ok (.iadd, 1) := by decide +kernel
theorem d16_22 : decode prog_43_method_8_code 22 = .ok (.aload_n 0, 1) := by decide +kernel
theorem d16_23 : decode prog_43_method_8_code 23 = .ok (.getfield 15, 3) := by decide +kernel
theorem d16_26 : decode prog_43_method_8_code 26 = .ok (.if_icmp .ge 32, 3) := by decide +kernel
theorem d16_58 : decode prog_43_method_8_code 58 = .ok (.aload_n 1, 1) := by decide +kernel
theorem d16_59 : decode prog_43_method_8_code 59 = .ok (.invokevirtual 34, 3) := by decide +kernel
theorem d16_62 : decode prog_43_method_8_code 62 = .ok (.aload_n 0, 1) := by decide +kernel
theorem d16_63 : decode prog_43_method_8_code 63 = .ok (.getfield 11, 3) := by decide +kernel
theorem d16_66 : decode prog_43_method_8_code 66 = .ok (.iload 4, 2) := by decide +kernel
theorem d16_68 : decode prog_43_method_8_code 68 = .ok (.aaload, 1) := by decide +kernel
theorem d16_69 : decode prog_43_method_8_code 69 = .ok (.invokevirtual 34, 3) := by decide +kernel
theorem d16_72 : decode prog_43_method_8_code 72 = .ok (.lcmp, 1) := by decide +kernel
theorem d16_73 : decode prog_43_method_8_code 73 = .ok (.ifCond .gt 6, 3) := by decide +kernel
theorem d16_76 : decode prog_43_method_8_code 76 = .ok (.goto 28, 3) := by decide +kernel
theorem ef_MdB (m : MethodId) (a0 : Addr) (a1 : Addr) : entryFrame m #[(.ref a0), (.ref a1), (.int (0 : Int32))] 5 = mkF m 0 #[.val (.ref a0), .val (.ref a1), .val (.int (0 : Int32)), .unset, .unset] [] := by first | (simp [entryFrame, mkF, argsToLocals, Value.category]; done) | rfl
def QMdB (Z : State) (a0 : Addr) (a1 : Addr) (hp : Addr) (kA : ClassId) (v0 : Value) (v2 : Value) (da1 : Int64) (pa1 : Int32) (x1 : Addr) (dx1 : Int64) (px1 : Int32) (h0 : Heap) (n0 : Nat) (v : Option Value) (h : Heap) (L : List Loc) : Prop := v = none ∧ Fr n0 L ∧ Keep h0 h [hp, a1] ∧ Arv Z h hp kA (.object "com/example/keys_to_structures/keystostructures/store/TimedEntry") (16 : Int32) [(.ref a1), (.ref x1), v2, .null, .null, .null, .null, .null, .null, .null, .null, .null, .null, .null, .null, .null] .null ∧ Exa Z h a1 "com/example/keys_to_structures/keystostructures/store/TimedEntry" ∧ Fld Z h a1 "com/example/keys_to_structures/keystostructures/store/TimedEntry" "deadline" "J" (.long da1) ∧ Fld Z h a1 "com/example/keys_to_structures/keystostructures/store/TimedEntry" "position" "I" (.int (0 : Int32))
set_option maxRecDepth 65536 in
set_option maxHeartbeats 40000000 in
theorem rmMdB (l : Launch) (Z : State) (aV : Array Value) (hw : ∀ d ∈ tables_1, d.before aV Z = true) (ws : List Jvm.Cond) (a0 : Addr) (a1 : Addr) (hp : Addr) (kA : ClassId) (v0 : Value) (v2 : Value) (da1 : Int64) (pa1 : Int32) (x1 : Addr) (dx1 : Int64) (px1 : Int32) (h0 : Heap) (n0 : Nat) (Zn : n0 ≤ h0.size) (g_hp : n0 ≤ hp) (O_kA : Ovr Z kA "com/example/keys_to_structures/keystostructures/store/TimedEntry") (g_a1 : n0 ≤ a1) (g_x1 : n0 ≤ x1) (E_a0 : Exa Z h0 a0 "com/example/keys_to_structures/keystostructures/store/ExpiryQueue") (F_heap : Fld Z h0 a0 "com/example/keys_to_structures/keystostructures/store/ExpiryQueue" "heap" "[Lcom/example/keys_to_structures/keystostructures/store/TimedEntry;" (.ref hp)) (F_size : Fld Z h0 a0 "com/example/keys_to_structures/keystostructures/store/ExpiryQueue" "size" "I" (.int (2 : Int32))) (V_hp : Arv Z h0 hp kA (.object "com/example/keys_to_structures/keystostructures/store/TimedEntry") (16 : Int32) [v0, (.ref x1), v2, .null, .null, .null, .null, .null, .null, .null, .null, .null, .null, .null, .null, .null] .null) (E_a1 : Exa Z h0 a1 "com/example/keys_to_structures/keystostructures/store/TimedEntry") (F_d_a1 : Fld Z h0 a1 "com/example/keys_to_structures/keystostructures/store/TimedEntry" "deadline" "J" (.long da1)) (F_p_a1 : Fld Z h0 a1 "com/example/keys_to_structures/keystostructures/store/TimedEntry" "position" "I" (.int pa1)) (E_x1 : Exa Z h0 x1 "com/example/keys_to_structures/keystostructures/store/TimedEntry") (F_d_x1 : Fld Z h0 x1 "com/example/keys_to_structures/keystostructures/store/TimedEntry" "deadline" "J" (.long dx1)) (F_p_x1 : Fld Z h0 x1 "com/example/keys_to_structures/keystostructures/store/TimedEntry" "position" "I" (.int px1)) (ne_a0__hp : a0 ≠ hp) (ne_a0__a1 : a0 ≠ a1) (ne_a0__x1 : a0 ≠ x1) (ne_hp__a1 : hp ≠ a1) (ne_hp__x1 : hp ≠ x1) (ne_a1__x1 : a1 ≠ x1) (hsw : ¬ (dx1 < da1)) :
    MetFree l (⟨"com/example/keys_to_structures/keystostructures/store/ExpiryQueue", "moveDown", "(Lcom/example/keys_to_structures/keystostructures/store/TimedEntry;I)V"⟩ : MethodName) (head1 (Jvm.Cond.code (⟨"com/example/keys_to_structures/keystostructures/store/ExpiryQueue", "moveDown", "(Lcom/example/keys_to_structures/keystostructures/store/TimedEntry;I)V"⟩ : MethodName) prog_43_method_8_code 5 none :: ws) ({ frames := 2, cells := 0, slots := 0, locals := 27 } : Room)) (fun a U => a = #[(.ref a0), (.ref a1), (.int (0 : Int32))] ∧ Z.Warmed39 U.vm ∧ U.heap = h0) (fun _ _ _ _ _ => True) (fun _ U o U' => ∃ v L, o = .returned v ∧ QMdB Z a0 a1 hp kA v0 v2 da1 pa1 x1 dx1 px1 h0 n0 v U'.heap L ∧ FrameEnd U o U' L ({ frames := 2, cells := 0, slots := 0, locals := 27 } : Room).cells ({ frames := 2, cells := 0, slots := 0, locals := 27 } : Room).slots) := by
  refine MetFree.of_bodySF (plainFor_of_name pn_4) hisR ?_
  intro p e s m args below meth c s₁ Bd hml0 hP hK
  obtain ⟨rfl, hZ, hh⟩ := hP
  have hx := Bd.exec
  have hby := Bd.bytes
  have hml : c.maxLocals = 5 := hml0
  have hown : s.vm.findClass "com/example/keys_to_structures/keystostructures/store/ExpiryQueue" = some m.cls := findClass_of_methodNamed Bd.named
  have hnm := (name_of_methodNamed Bd.named Bd.method).1
  have X0 : Stand p l e ({ frames := 2, cells := 0, slots := 0, locals := 27 } : Room) s m #[(.ref a0), (.ref a1), (.int (0 : Int32))] below meth c s₁ [] 0 0 := Stand.of_body Bd
  have e0 : s₁.heap = h0 := by rw [← hh, Bd.state]; rfl
  have N0 := Fr.nil n0
  have Kp := Keep.refl h0 [hp, a1]
  show Run p e below (Ends s (QMdB Z a0 a1 hp kA v0 v2 da1 pa1 x1 dx1 px1 h0 n0) ({ frames := 2, cells := 0, slots := 0, locals := 27 } : Room).cells ({ frames := 2, cells := 0, slots := 0, locals := 27 } : Room).slots) _
  refine Run.st (S' := s₁.setTop (mkF m 0 #[.val (.ref a0), .val (.ref a1), .val (.int (0 : Int32)), .unset, .unset] [])) (fun t k => castTop (ef_MdB m a0 a1) k) ?_
  refine Run.st (S' := s₁.setTop (mkF m 9 #[.val (.ref a0), .val (.ref a1), .val (.int (0 : Int32)), .val (.int (0 : Int32)), .val (.int (1 : Int32))] [])) (fun _ k => XS.iloadN X0.here hx rfl (hb hby d16_0) rfl (XS.istoreN X0.here hx rfl (hb hby d16_1) rfl (l' := #[.val (.ref a0), .val (.ref a1), .val (.int (0 : Int32)), .val (.int (0 : Int32)), .unset]) rfl (XS.iconst X0.here hx rfl (hb hby d16_2) (XS.iloadN X0.here hx rfl (hb hby d16_3) rfl (XS.imul X0.here hx rfl (hb hby d16_4) rfl (XS.iconst X0.here hx rfl (hb hby d16_5) (XS.iadd X0.here hx rfl (hb hby d16_6) rfl (XS.istore X0.here hx rfl (hb hby d16_7) rfl (l' := #[.val (.ref a0), .val (.ref a1), .val (.int (0 : Int32)), .val (.int (0 : Int32)), .val (.int (1 : Int32))]) rfl k)))))))) ?_
  refine Run.st (S' := s₁.setTop (mkF m 12 #[.val (.ref a0), .val (.ref a1), .val (.int (0 : Int32)), .val (.int (0 : Int32)), .val (.int (1 : Int32))] [(.ref a0), (.int (1 : Int32))])) (fun _ k => XS.iload X0.here hx rfl (hb hby d16_9) rfl (XS.aloadN X0.here hx rfl (hb hby d16_11) rfl rfl k)) ?_
  obtain ⟨T1, X1, e1, st1⟩ := getF X0 hx hZ hown (host := "") (Or.inl (hw _ (List.mem_of_getElem? (i := 46) rfl))) Via.refl e0 F_size (g := (mkF m 12 #[.val (.ref a0), .val (.ref a1), .val (.int (0 : Int32)), .val (.int (0 : Int32)), .val (.int (1 : Int32))] [(.ref a0), (.int (1 : Int32))])) rfl rfl (hb hby d16_12)
  refine Run.st (S' := T1.setTop (mkF m 23 #[.val (.ref a0), .val (.ref a1), .val (.int (0 : Int32)), .val (.int (0 : Int32)), .val (.int (1 : Int32))] [(.ref a0), (.int (2 : Int32))])) (fun _ k => st1 _ (XS.icmpNo X1.here hx rfl (hb hby d16_15) rfl (tlt (show (1 : Int32) < (2 : Int32) from (by decide))).2.1 (XS.iload X1.here hx rfl (hb hby d16_18) rfl (XS.iconst X1.here hx rfl (hb hby d16_20) (XS.iadd X1.here hx rfl (hb hby d16_21) rfl (XS.aloadN X1.here hx rfl (hb hby d16_22) rfl rfl k)))))) ?_
  obtain ⟨T2, X2, e2, st2⟩ := getF X1 hx hZ hown (host := "") (Or.inl (hw _ (List.mem_of_getElem? (i := 46) rfl))) Via.refl e1 F_size (g := (mkF m 23 #[.val (.ref a0), .val (.ref a1), .val (.int (0 : Int32)), .val (.int (0 : Int32)), .val (.int (1 : Int32))] [(.ref a0), (.int (2 : Int32))])) rfl rfl (hb hby d16_23)
  refine Run.st (S' := T2.setTop (mkF m 59 #[.val (.ref a0), .val (.ref a1), .val (.int (0 : Int32)), .val (.int (0 : Int32)), .val (.int (1 : Int32))] [(.ref a1)])) (fun _ k => st2 _ (XS.icmpYes X2.here hx rfl (pc0 := 26) (pc' := 58) rfl (hb hby d16_26) rfl (flt (show ¬ ((2 : Int32) < (2 : Int32)) from (by decide))).2.1 (by decide) (by decide) (XS.aloadN X2.here hx rfl (hb hby d16_58) rfl rfl k))) ?_
  obtain ⟨cq3, kq3, q3a, q3b, q3c⟩ := isOf hZ e2 E_a1
  obtain ⟨_, _, ⟨T3, L3, k3, n3⟩, -, X3, ⟨Lc3, hQ3, l3, y3, z3⟩, st3⟩ := X2.virtualBack hx (y := (⟨"com/example/keys_to_structures/keystostructures/store/TimedEntry", "deadline", "()J"⟩ : MethodName)) (z := (⟨"com/example/keys_to_structures/keystostructures/store/TimedEntry", "deadline", "()J"⟩ : MethodName)) hown (mvT hZ (hw _ (List.mem_of_getElem? (i := 64) rfl))) (mvT hZ (hw _ (List.mem_of_getElem? (i := 65) rfl))) (notFace_of_selects (args := #[]) (mvT hZ (hw _ (List.mem_of_getElem? (i := 67) rfl)))) (mvT hZ (hw _ (List.mem_of_getElem? (i := 67) rfl))) (mvT hZ (hw _ (List.mem_of_getElem? (i := 66) rfl))) (by decide) (backOf (W := 0) (rmDl l Z aV hw [] a1 da1 h0 n0 Zn F_d_a1) hZ (hw _ (List.mem_of_getElem? (i := 68) rfl)) (hw _ (List.mem_of_getElem? (i := 2) rfl)) (by decide) (by decide)) q3a q3c (g := (mkF m 59 #[.val (.ref a0), .val (.ref a1), .val (.int (0 : Int32)), .val (.int (0 : Int32)), .val (.int (1 : Int32))] [(.ref a1)])) rfl (by rw [hml]; rfl) (Steps.refl _) (argsL := []) (rest := []) (lenOf pd_4 rfl) rfl (by show 2 * 0 + _ ≤ _; exact Nat.le_of_eq rfl) (hb hby d16_59) (fun _ _ => ⟨rfl, e2, (by decide : 0 + 0 ≤ _), (by decide : 0 + 0 ≤ _)⟩)
  dsimp only [Pt.U, Pt.locs, Pt.cells, Pt.slots] at X3 l3 y3 z3 st3 hQ3
  subst l3 y3 z3
  obtain ⟨rfl, N3q, e3⟩ := hQ3
  have N3 := Fr.app N0 N3q
  refine Run.st (S' := T3.setTop (mkF m 63 #[.val (.ref a0), .val (.ref a1), .val (.int (0 : Int32)), .val (.int (0 : Int32)), .val (.int (1 : Int32))] [(.ref a0), (.long da1)])) (fun _ k => st3.trans (XS.aloadN X3.here hx rfl (hb hby d16_62) rfl rfl k)) ?_
  obtain ⟨T4, X4, e4, st4⟩ := getF X3 hx hZ hown (host := "") (Or.inl (hw _ (List.mem_of_getElem? (i := 39) rfl))) Via.refl e3 F_heap (g := (mkF m 63 #[.val (.ref a0), .val (.ref a1), .val (.int (0 : Int32)), .val (.int (0 : Int32)), .val (.int (1 : Int32))] [(.ref a0), (.long da1)])) rfl rfl (hb hby d16_63)
  refine Run.st (S' := T4.setTop (mkF m 68 #[.val (.ref a0), .val (.ref a1), .val (.int (0 : Int32)), .val (.int (0 : Int32)), .val (.int (1 : Int32))] [(.int (1 : Int32)), (.ref hp), (.long da1)])) (fun _ k => st4 _ (XS.iload X4.here hx rfl (hb hby d16_66) rfl k)) ?_
  obtain ⟨cl5, Ar5, qa5, Sa5, Na5, Ha5, Ga5⟩ := id V_hp
  have hin5 : ¬ ((1 : Int32) < 0 ∨ cl5.slots.size ≤ ((1 : Int32)).toNatClampNeg) := inb_of Sa5 ⟨by decide, by decide⟩
  have hat5 : cl5.slots[((1 : Int32)).toNatClampNeg]? = some (.ref x1) := Has.at Ha5 hin5 rfl
  refine Run.st (S' := T4.setTop (mkF m 69 #[.val (.ref a0), .val (.ref a1), .val (.int (0 : Int32)), .val (.int (0 : Int32)), .val (.int (1 : Int32))] [(.ref x1), (.long da1)])) (fun _ k => X4.aaload hx (j := (1 : Int32)) (v := (.ref x1)) (by rw [e4]; exact Ar5.1) (State.isArrayOf_alike hZ.alike Ar5.2.1) rfl Ar5.2.2 hin5 hat5 (g := (mkF m 68 #[.val (.ref a0), .val (.ref a1), .val (.int (0 : Int32)), .val (.int (0 : Int32)), .val (.int (1 : Int32))] [(.int (1 : Int32)), (.ref hp), (.long da1)])) rfl rfl (hb hby d16_68) _ k) ?_
  obtain ⟨cq6, kq6, q6a, q6b, q6c⟩ := isOf hZ e4 E_x1
  obtain ⟨_, _, ⟨T6, L6, k6, n6⟩, -, X6, ⟨Lc6, hQ6, l6, y6, z6⟩, st6⟩ := X4.virtualBack hx (y := (⟨"com/example/keys_to_structures/keystostructures/store/TimedEntry", "deadline", "()J"⟩ : MethodName)) (z := (⟨"com/example/keys_to_structures/keystostructures/store/TimedEntry", "deadline", "()J"⟩ : MethodName)) hown (mvT hZ (hw _ (List.mem_of_getElem? (i := 64) rfl))) (mvT hZ (hw _ (List.mem_of_getElem? (i := 65) rfl))) (notFace_of_selects (args := #[]) (mvT hZ (hw _ (List.mem_of_getElem? (i := 67) rfl)))) (mvT hZ (hw _ (List.mem_of_getElem? (i := 67) rfl))) (mvT hZ (hw _ (List.mem_of_getElem? (i := 66) rfl))) (by decide) (backOf (W := 2) (rmDl l Z aV hw [] x1 dx1 h0 n0 Zn F_d_x1) hZ (hw _ (List.mem_of_getElem? (i := 68) rfl)) (hw _ (List.mem_of_getElem? (i := 2) rfl)) (by decide) (by decide)) q6a q6c (g := (mkF m 69 #[.val (.ref a0), .val (.ref a1), .val (.int (0 : Int32)), .val (.int (0 : Int32)), .val (.int (1 : Int32))] [(.ref x1), (.long da1)])) rfl (by rw [hml]; rfl) (Steps.refl _) (argsL := []) (rest := [(.long da1)]) (lenOf pd_4 rfl) rfl (by show 2 * 0 + _ ≤ _; exact Nat.le_of_eq rfl) (hb hby d16_69) (fun _ _ => ⟨rfl, e4, (by decide : 0 + 0 ≤ _), (by decide : 0 + 0 ≤ _)⟩)
  dsimp only [Pt.U, Pt.locs, Pt.cells, Pt.slots] at X6 l6 y6 z6 st6 hQ6
  subst l6 y6 z6
  obtain ⟨rfl, N6q, e6⟩ := hQ6
  have N6 := Fr.app N3 N6q
  refine Run.st (S' := T6.setTop (mkF m 107 #[.val (.ref a0), .val (.ref a1), .val (.int (0 : Int32)), .val (.int (0 : Int32)), .val (.int (1 : Int32))] [(.int (0 : Int32)), (.ref a1), (.ref a0)])) (fun _ k => st6.trans (XS.lcmp X6.here hx rfl (hb hby d16_72) rfl (XS.ifNo X6.here hx rfl (hb hby d16_73) rfl (lcYes (Jvm.Free.XT.ll_gt_f (show ¬ (dx1 < da1) from hsw))) (XS.goto X6.here hx rfl (pc0 := 76) (pc' := 104) rfl (hb hby d16_76) (by decide) (by decide) (XS.aloadN X6.here hx rfl (hb hby d16_104) rfl rfl (XS.aloadN X6.here hx rfl (hb hby d16_105) rfl rfl (XS.iloadN X6.here hx rfl (hb hby d16_106) rfl k))))))) ?_
  obtain ⟨cq7, q7, q7'⟩ := E_a0.cell
  obtain ⟨_, _, ⟨T7, L7, k7, n7⟩, -, X7, ⟨Lc7, hQ7, l7, y7, z7⟩, st7⟩ := X6.privateBack hx (y := (⟨"com/example/keys_to_structures/keystostructures/store/ExpiryQueue", "place", "(Lcom/example/keys_to_structures/keystostructures/store/TimedEntry;I)V"⟩ : MethodName)) hown (mvT hZ (hw _ (List.mem_of_getElem? (i := 52) rfl))) (mvT hZ (hw _ (List.mem_of_getElem? (i := 53) rfl))) (selSelf (y := (⟨"com/example/keys_to_structures/keystostructures/store/ExpiryQueue", "place", "(Lcom/example/keys_to_structures/keystostructures/store/TimedEntry;I)V"⟩ : MethodName)) (mvT hZ (hw _ (List.mem_of_getElem? (i := 31) rfl))) (Cond.privateMethod_at (mvP hZ (hw _ (List.mem_of_getElem? (i := 54) rfl)) (args := #[]))) (mvT hZ (hw _ (List.mem_of_getElem? (i := 53) rfl))) (by decide)) (Cond.privateMethod_at (mvP hZ (hw _ (List.mem_of_getElem? (i := 54) rfl)) (args := #[]))) (mvT hZ (hw _ (List.mem_of_getElem? (i := 55) rfl))) (by decide) (backOf (W := 0) (rmPl0 l Z aV hw [] a0 a1 hp kA v0 (.ref x1) v2 pa1 da1 h0 n0 Zn g_hp g_a1 O_kA E_a0 F_heap V_hp E_a1 F_d_a1 F_p_a1 ne_a0__hp ne_a0__a1 ne_hp__a1) hZ (hw _ (List.mem_of_getElem? (i := 55) rfl)) (hw _ (List.mem_of_getElem? (i := 32) rfl)) (by decide) (by decide)) (g := (mkF m 107 #[.val (.ref a0), .val (.ref a1), .val (.int (0 : Int32)), .val (.int (0 : Int32)), .val (.int (1 : Int32))] [(.int (0 : Int32)), (.ref a1), (.ref a0)])) rfl (by rw [hml]; rfl) (Steps.refl _) (a := a0) (by rw [e6]; exact q7) q7' (argsL := [(.ref a1), (.int (0 : Int32))]) (rest := []) (lenOf pd_3 rfl) rfl (by show 2 * 0 + _ ≤ _; exact Nat.le_of_eq rfl) (hb hby d16_107) (fun _ _ => ⟨rfl, e6, (by decide : 0 + 0 ≤ _), (by decide : 0 + 0 ≤ _)⟩)
  dsimp only [Pt.U, Pt.locs, Pt.cells, Pt.slots] at X7 l7 y7 z7 st7 hQ7
  subst l7 y7 z7
  obtain ⟨rfl, N7q, K7, q7_0, q7_1, q7_2, q7_3⟩ := hQ7
  have E_a0 := E_a0.keep K7
  have F_heap := F_heap.keep K7 (ninS ne_a0__hp (ninS ne_a0__a1 nin0))
  have F_size := F_size.keep K7 (ninS ne_a0__hp (ninS ne_a0__a1 nin0))
  have E_x1 := E_x1.keep K7
  have F_d_x1 := F_d_x1.keep K7 (ninS (Ne.symm ne_hp__x1) (ninS (Ne.symm ne_a1__x1) nin0))
  have F_p_x1 := F_p_x1.keep K7 (ninS (Ne.symm ne_hp__x1) (ninS (Ne.symm ne_a1__x1) nin0))
  have V_hp := q7_0
  have E_a1 := q7_1
  have F_d_a1 := q7_2
  have F_p_a1 := q7_3
  have Kp := Kp.trans K7 (allS (Or.inl (by simp)) (allS (Or.inl (by simp)) all0))
  have Zn := Nat.le_trans Zn K7.1
  have N7 := Fr.app N6 N7q
  refine Run.st (S' := T7.setTop (mkF m 110 #[.val (.ref a0), .val (.ref a1), .val (.int (0 : Int32)), .val (.int (0 : Int32)), .val (.int (1 : Int32))] [])) (fun _ k => st7.trans k) ?_
  refine Run.outV X7 hx Bd.notSynchronized Bd.returns (hb hby d16_110) (by decide) (by decide) ?_
  exact ⟨rfl, N7, Kp, V_hp, E_a1, F_d_a1, F_p_a1⟩
theorem d16_79 : decode prog_43_method_8_code 79 = .ok (.aload_n 0, 1) := by decide +kernel
theorem d16_80 : decode prog_43_method_8_code 80 = .ok (.aload_n 0, 1) := by decide +kernel
theorem d16_81 : decode prog_43_method_8_code 81 = .ok (.getfield 11, 3) := by decide +kernel
theorem d16_84 : decode prog_43_method_8_code 84 = .ok (.iload 4, 2) := by decide +kernel
theorem d16_86 : decode prog_43_method_8_code 86 = .ok (.aaload, 1) := by decide +kernel
theorem d16_87 : decode prog_43_method_8_code 87 = .ok (.iload_n 3, 1) := by decide +kernel
theorem d16_88 : decode prog_43_method_8_code 88 = .ok (.invokevirtual 38, 3) := by decide +kernel
theorem d16_91 : decode prog_43_method_8_code 91 = .ok (.iload 4, 2) := by decide +kernel
theorem d16_93 : decode prog_43_method_8_code 93 = .ok (.istore_n 3, 1) := by decide +kernel
theorem d16_94 : decode prog_43_method_8_code 94 = .ok (.iconst 2, 1) := by decide +kernel
theorem d16_95 : decode prog_43_method_8_code 95 = .ok (.iload_n 3, 1) := by decide +kernel
theorem d16_96 : decode prog_43_method_8_code 96 = .ok (.imul, 1) := by decide +kernel
theorem d16_97 : decode prog_43_method_8_code 97 = .ok (.iconst 1, 1) := by decide +kernel
theorem d16_98 : decode prog_43_method_8_code 98 = .ok (.iadd, 1) := by decide +kernel
theorem d16_99 : decode prog_43_method_8_code 99 = .ok (.istore 4, 2) := by decide +kernel
theorem d16_101 : decode prog_43_method_8_code 101 = .ok (.goto (-92), 3) := by decide +kernel
theorem ef_MdBs (m : MethodId) (a0 : Addr) (a1 : Addr) : entryFrame m #[(.ref a0), (.ref a1), (.int (0 : Int32))] 5 = mkF m 0 #[.val (.ref a0), .val (.ref a1), .val (.int (0 : Int32)), .unset, .unset] [] := by first | (simp [entryFrame, mkF, argsToLocals, Value.category]; done) | rfl
def QMdBs (Z : State) (a0 : Addr) (a1 : Addr) (hp : Addr) (kA : ClassId) (v0 : Value) (v2 : Value) (da1 : Int64) (pa1 : Int32) (x1 : Addr) (dx1 : Int64) (px1 : Int32) (h0 : Heap) (n0 : Nat) (v : Option Value) (h : Heap) (L : List Loc) : Prop := v = none ∧ Fr n0 L ∧ Keep h0 h [hp, a1, x1] ∧ Arv Z h hp kA (.object "com/example/keys_to_structures/keystostructures/store/TimedEntry") (16 : Int32) [(.ref x1), (.ref a1), v2, .null, .null, .null, .null, .null, .null, .null, .null, .null, .null, .null, .null, .null] .null ∧ Exa Z h a1 "com/example/keys_to_structures/keystostructures/store/TimedEntry" ∧ Fld Z h a1 "com/example/keys_to_structures/keystostructures/store/TimedEntry" "deadline" "J" (.long da1) ∧ Fld Z h a1 "com/example/keys_to_structures/keystostructures/store/TimedEntry" "position" "I" (.int (1 : Int32)) ∧ Exa Z h x1 "com/example/keys_to_structures/keystostructures/store/TimedEntry" ∧ Fld Z h x1 "com/example/keys_to_structures/keystostructures/store/TimedEntry" "deadline" "J" (.long dx1) ∧ Fld Z h x1 "com/example/keys_to_structures/keystostructures/store/TimedEntry" "position" "I" (.int (0 : Int32))
set_option maxRecDepth 65536 in
set_option maxHeartbeats 40000000 in
theorem rmMdBs (l : Launch) (Z : State) (aV : Array Value) (hw : ∀ d ∈ tables_1, d.before aV Z = true) (ws : List Jvm.Cond) (a0 : Addr) (a1 : Addr) (hp : Addr) (kA : ClassId) (v0 : Value) (v2 : Value) (da1 : Int64) (pa1 : Int32) (x1 : Addr) (dx1 : Int64) (px1 : Int32) (h0 : Heap) (n0 : Nat) (Zn : n0 ≤ h0.size) (g_hp : n0 ≤ hp) (O_kA : Ovr Z kA "com/example/keys_to_structures/keystostructures/store/TimedEntry") (g_a1 : n0 ≤ a1) (g_x1 : n0 ≤ x1) (E_a0 : Exa Z h0 a0 "com/example/keys_to_structures/keystostructures/store/ExpiryQueue") (F_heap : Fld Z h0 a0 "com/example/keys_to_structures/keystostructures/store/ExpiryQueue" "heap" "[Lcom/example/keys_to_structures/keystostructures/store/TimedEntry;" (.ref hp)) (F_size : Fld Z h0 a0 "com/example/keys_to_structures/keystostructures/store/ExpiryQueue" "size" "I" (.int (2 : Int32))) (V_hp : Arv Z h0 hp kA (.object "com/example/keys_to_structures/keystostructures/store/TimedEntry") (16 : Int32) [v0, (.ref x1), v2, .null, .null, .null, .null, .null, .null, .null, .null, .null, .null, .null, .null, .null] .null) (E_a1 : Exa Z h0 a1 "com/example/keys_to_structures/keystostructures/store/TimedEntry") (F_d_a1 : Fld Z h0 a1 "com/example/keys_to_structures/keystostructures/store/TimedEntry" "deadline" "J" (.long da1)) (F_p_a1 : Fld Z h0 a1 "com/example/keys_to_structures/keystostructures/store/TimedEntry" "position" "I" (.int pa1)) (E_x1 : Exa Z h0 x1 "com/example/keys_to_structures/keystostructures/store/TimedEntry") (F_d_x1 : Fld Z h0 x1 "com/example/keys_to_structures/keystostructures/store/TimedEntry" "deadline" "J" (.long dx1)) (F_p_x1 : Fld Z h0 x1 "com/example/keys_to_structures/keystostructures/store/TimedEntry" "position" "I" (.int px1)) (ne_a0__hp : a0 ≠ hp) (ne_a0__a1 : a0 ≠ a1) (ne_a0__x1 : a0 ≠ x1) (ne_hp__a1 : hp ≠ a1) (ne_hp__x1 : hp ≠ x1) (ne_a1__x1 : a1 ≠ x1) (hsw : dx1 < da1) :
    MetFree l (⟨"com/example/keys_to_structures/keystostructures/store/ExpiryQueue", "moveDown", "(Lcom/example/keys_to_structures/keystostructures/store/TimedEntry;I)V"⟩ : MethodName) (head1 (Jvm.Cond.code (⟨"com/example/keys_to_structures/keystostructures/store/ExpiryQueue", "moveDown", "(Lcom/example/keys_to_structures/keystostructures/store/TimedEntry;I)V"⟩ : MethodName) prog_43_method_8_code 5 none :: ws) ({ frames := 2, cells := 0, slots := 0, locals := 27 } : Room)) (fun a U => a = #[(.ref a0), (.ref a1), (.int (0 : Int32))] ∧ Z.Warmed39 U.vm ∧ U.heap = h0) (fun _ _ _ _ _ => True) (fun _ U o U' => ∃ v L, o = .returned v ∧ QMdBs Z a0 a1 hp kA v0 v2 da1 pa1 x1 dx1 px1 h0 n0 v U'.heap L ∧ FrameEnd U o U' L ({ frames := 2, cells := 0, slots := 0, locals := 27 } : Room).cells ({ frames := 2, cells := 0, slots := 0, locals := 27 } : Room).slots) := by
  refine MetFree.of_bodySF (plainFor_of_name pn_4) hisR ?_
  intro p e s m args below meth c s₁ Bd hml0 hP hK
  obtain ⟨rfl, hZ, hh⟩ := hP
  have hx := Bd.exec
  have hby := Bd.bytes
  have hml : c.maxLocals = 5 := hml0
  have hown : s.vm.findClass "com/example/keys_to_structures/keystostructures/store/ExpiryQueue" = some m.cls := findClass_of_methodNamed Bd.named
  have hnm := (name_of_methodNamed Bd.named Bd.method).1
  have X0 : Stand p l e ({ frames := 2, cells := 0, slots := 0, locals := 27 } : Room) s m #[(.ref a0), (.ref a1), (.int (0 : Int32))] below meth c s₁ [] 0 0 := Stand.of_body Bd
  have e0 : s₁.heap = h0 := by rw [← hh, Bd.state]; rfl
  have N0 := Fr.nil n0
  have Kp := Keep.refl h0 [hp, a1, x1]
  show Run p e below (Ends s (QMdBs Z a0 a1 hp kA v0 v2 da1 pa1 x1 dx1 px1 h0 n0) ({ frames := 2, cells := 0, slots := 0, locals := 27 } : Room).cells ({ frames := 2, cells := 0, slots := 0, locals := 27 } : Room).slots) _
  refine Run.st (S' := s₁.setTop (mkF m 0 #[.val (.ref a0), .val (.ref a1), .val (.int (0 : Int32)), .unset, .unset] [])) (fun t k => castTop (ef_MdBs m a0 a1) k) ?_
  refine Run.st (S' := s₁.setTop (mkF m 9 #[.val (.ref a0), .val (.ref a1), .val (.int (0 : Int32)), .val (.int (0 : Int32)), .val (.int (1 : Int32))] [])) (fun _ k => XS.iloadN X0.here hx rfl (hb hby d16_0) rfl (XS.istoreN X0.here hx rfl (hb hby d16_1) rfl (l' := #[.val (.ref a0), .val (.ref a1), .val (.int (0 : Int32)), .val (.int (0 : Int32)), .unset]) rfl (XS.iconst X0.here hx rfl (hb hby d16_2) (XS.iloadN X0.here hx rfl (hb hby d16_3) rfl (XS.imul X0.here hx rfl (hb hby d16_4) rfl (XS.iconst X0.here hx rfl (hb hby d16_5) (XS.iadd X0.here hx rfl (hb hby d16_6) rfl (XS.istore X0.here hx rfl (hb hby d16_7) rfl (l' := #[.val (.ref a0), .val (.ref a1), .val (.int (0 : Int32)), .val (.int (0 : Int32)), .val (.int (1 : Int32))]) rfl k)))))))) ?_
  refine Run.st (S' := s₁.setTop (mkF m 12 #[.val (.ref a0), .val (.ref a1), .val (.int (0 : Int32)), .val (.int (0 : Int32)), .val (.int (1 : Int32))] [(.ref a0), (.int (1 : Int32))])) (fun _ k => XS.iload X0.here hx rfl (hb hby d16_9) rfl (XS.aloadN X0.here hx rfl (hb hby d16_11) rfl rfl k)) ?_
  obtain ⟨T1, X1, e1, st1⟩ := getF X0 hx hZ hown (host := "") (Or.inl (hw _ (List.mem_of_getElem? (i := 46) rfl))) Via.refl e0 F_size (g := (mkF m 12 #[.val (.ref a0), .val (.ref a1), .val (.int (0 : Int32)), .val (.int (0 : Int32)), .val (.int (1 : Int32))] [(.ref a0), (.int (1 : Int32))])) rfl rfl (hb hby d16_12)
  refine Run.st (S' := T1.setTop (mkF m 23 #[.val (.ref a0), .val (.ref a1), .val (.int (0 : Int32)), .val (.int (0 : Int32)), .val (.int (1 : Int32))] [(.ref a0), (.int (2 : Int32))])) (fun _ k => st1 _ (XS.icmpNo X1.here hx rfl (hb hby d16_15) rfl (tlt (show (1 : Int32) < (2 : Int32) from (by decide))).2.1 (XS.iload X1.here hx rfl (hb hby d16_18) rfl (XS.iconst X1.here hx rfl (hb hby d16_20) (XS.iadd X1.here hx rfl (hb hby d16_21) rfl (XS.aloadN X1.here hx rfl (hb hby d16_22) rfl rfl k)))))) ?_
  obtain ⟨T2, X2, e2, st2⟩ := getF X1 hx hZ hown (host := "") (Or.inl (hw _ (List.mem_of_getElem? (i := 46) rfl))) Via.refl e1 F_size (g := (mkF m 23 #[.val (.ref a0), .val (.ref a1), .val (.int (0 : Int32)), .val (.int (0 : Int32)), .val (.int (1 : Int32))] [(.ref a0), (.int (2 : Int32))])) rfl rfl (hb hby d16_23)
  refine Run.st (S' := T2.setTop (mkF m 59 #[.val (.ref a0), .val (.ref a1), .val (.int (0 : Int32)), .val (.int (0 : Int32)), .val (.int (1 : Int32))] [(.ref a1)])) (fun _ k => st2 _ (XS.icmpYes X2.here hx rfl (pc0 := 26) (pc' := 58) rfl (hb hby d16_26) rfl (flt (show ¬ ((2 : Int32) < (2 : Int32)) from (by decide))).2.1 (by decide) (by decide) (XS.aloadN X2.here hx rfl (hb hby d16_58) rfl rfl k))) ?_
  obtain ⟨cq3, kq3, q3a, q3b, q3c⟩ := isOf hZ e2 E_a1
  obtain ⟨_, _, ⟨T3, L3, k3, n3⟩, -, X3, ⟨Lc3, hQ3, l3, y3, z3⟩, st3⟩ := X2.virtualBack hx (y := (⟨"com/example/keys_to_structures/keystostructures/store/TimedEntry", "deadline", "()J"⟩ : MethodName)) (z := (⟨"com/example/keys_to_structures/keystostructures/store/TimedEntry", "deadline", "()J"⟩ : MethodName)) hown (mvT hZ (hw _ (List.mem_of_getElem? (i := 64) rfl))) (mvT hZ (hw _ (List.mem_of_getElem? (i := 65) rfl))) (notFace_of_selects (args := #[]) (mvT hZ (hw _ (List.mem_of_getElem? (i := 67) rfl)))) (mvT hZ (hw _ (List.mem_of_getElem? (i := 67) rfl))) (mvT hZ (hw _ (List.mem_of_getElem? (i := 66) rfl))) (by decide) (backOf (W := 0) (rmDl l Z aV hw [] a1 da1 h0 n0 Zn F_d_a1) hZ (hw _ (List.mem_of_getElem? (i := 68) rfl)) (hw _ (List.mem_of_getElem? (i := 2) rfl)) (by decide) (by decide)) q3a q3c (g := (mkF m 59 #[.val (.ref a0), .val (.ref a1), .val (.int (0 : Int32)), .val (.int (0 : Int32)), .val (.int (1 : Int32))] [(.ref a1)])) rfl (by rw [hml]; rfl) (Steps.refl _) (argsL := []) (rest := []) (lenOf pd_4 rfl) rfl (by show 2 * 0 + _ ≤ _; exact Nat.le_of_eq rfl) (hb hby d16_59) (fun _ _ => ⟨rfl, e2, (by decide : 0 + 0 ≤ _), (by decide : 0 + 0 ≤ _)⟩)
  dsimp only [Pt.U, Pt.locs, Pt.cells, Pt.slots] at X3 l3 y3 z3 st3 hQ3
  subst l3 y3 z3
  obtain ⟨rfl, N3q, e3⟩ := hQ3
  have N3 := Fr.app N0 N3q
  refine Run.st (S' := T3.setTop (mkF m 63 #[.val (.ref a0), .val (.ref a1), .val (.int (0 : Int32)), .val (.int (0 : Int32)), .val (.int (1 : Int32))] [(.ref a0), (.long da1)])) (fun _ k => st3.trans (XS.aloadN X3.here hx rfl (hb hby d16_62) rfl rfl k)) ?_
  obtain ⟨T4, X4, e4, st4⟩ := getF X3 hx hZ hown (host := "") (Or.inl (hw _ (List.mem_of_getElem? (i := 39) rfl))) Via.refl e3 F_heap (g := (mkF m 63 #[.val (.ref a0), .val (.ref a1), .val (.int (0 : Int32)), .val (.int (0 : Int32)), .val (.int (1 : Int32))] [(.ref a0), (.long da1)])) rfl rfl (hb hby d16_63)
  refine Run.st (S' := T4.setTop (mkF m 68 #[.val (.ref a0), .val (.ref a1), .val (.int (0 : Int32)), .val (.int (0 : Int32)), .val (.int (1 : Int32))] [(.int (1 : Int32)), (.ref hp), (.long da1)])) (fun _ k => st4 _ (XS.iload X4.here hx rfl (hb hby d16_66) rfl k)) ?_
  obtain ⟨cl5, Ar5, qa5, Sa5, Na5, Ha5, Ga5⟩ := id V_hp
  have hin5 : ¬ ((1 : Int32) < 0 ∨ cl5.slots.size ≤ ((1 : Int32)).toNatClampNeg) := inb_of Sa5 ⟨by decide, by decide⟩
  have hat5 : cl5.slots[((1 : Int32)).toNatClampNeg]? = some (.ref x1) := Has.at Ha5 hin5 rfl
  refine Run.st (S' := T4.setTop (mkF m 69 #[.val (.ref a0), .val (.ref a1), .val (.int (0 : Int32)), .val (.int (0 : Int32)), .val (.int (1 : Int32))] [(.ref x1), (.long da1)])) (fun _ k => X4.aaload hx (j := (1 : Int32)) (v := (.ref x1)) (by rw [e4]; exact Ar5.1) (State.isArrayOf_alike hZ.alike Ar5.2.1) rfl Ar5.2.2 hin5 hat5 (g := (mkF m 68 #[.val (.ref a0), .val (.ref a1), .val (.int (0 : Int32)), .val (.int (0 : Int32)), .val (.int (1 : Int32))] [(.int (1 : Int32)), (.ref hp), (.long da1)])) rfl rfl (hb hby d16_68) _ k) ?_
  obtain ⟨cq6, kq6, q6a, q6b, q6c⟩ := isOf hZ e4 E_x1
  obtain ⟨_, _, ⟨T6, L6, k6, n6⟩, -, X6, ⟨Lc6, hQ6, l6, y6, z6⟩, st6⟩ := X4.virtualBack hx (y := (⟨"com/example/keys_to_structures/keystostructures/store/TimedEntry", "deadline", "()J"⟩ : MethodName)) (z := (⟨"com/example/keys_to_structures/keystostructures/store/TimedEntry", "deadline", "()J"⟩ : MethodName)) hown (mvT hZ (hw _ (List.mem_of_getElem? (i := 64) rfl))) (mvT hZ (hw _ (List.mem_of_getElem? (i := 65) rfl))) (notFace_of_selects (args := #[]) (mvT hZ (hw _ (List.mem_of_getElem? (i := 67) rfl)))) (mvT hZ (hw _ (List.mem_of_getElem? (i := 67) rfl))) (mvT hZ (hw _ (List.mem_of_getElem? (i := 66) rfl))) (by decide) (backOf (W := 2) (rmDl l Z aV hw [] x1 dx1 h0 n0 Zn F_d_x1) hZ (hw _ (List.mem_of_getElem? (i := 68) rfl)) (hw _ (List.mem_of_getElem? (i := 2) rfl)) (by decide) (by decide)) q6a q6c (g := (mkF m 69 #[.val (.ref a0), .val (.ref a1), .val (.int (0 : Int32)), .val (.int (0 : Int32)), .val (.int (1 : Int32))] [(.ref x1), (.long da1)])) rfl (by rw [hml]; rfl) (Steps.refl _) (argsL := []) (rest := [(.long da1)]) (lenOf pd_4 rfl) rfl (by show 2 * 0 + _ ≤ _; exact Nat.le_of_eq rfl) (hb hby d16_69) (fun _ _ => ⟨rfl, e4, (by decide : 0 + 0 ≤ _), (by decide : 0 + 0 ≤ _)⟩)
  dsimp only [Pt.U, Pt.locs, Pt.cells, Pt.slots] at X6 l6 y6 z6 st6 hQ6
  subst l6 y6 z6
  obtain ⟨rfl, N6q, e6⟩ := hQ6
  have N6 := Fr.app N3 N6q
  refine Run.st (S' := T6.setTop (mkF m 81 #[.val (.ref a0), .val (.ref a1), .val (.int (0 : Int32)), .val (.int (0 : Int32)), .val (.int (1 : Int32))] [(.ref a0), (.ref a0)])) (fun _ k => st6.trans (XS.lcmp X6.here hx rfl (hb hby d16_72) rfl (XS.ifYes X6.here hx rfl (pc0 := 73) (pc' := 79) rfl (hb hby d16_73) rfl (lcYes (Jvm.Free.XT.ll_gt_t (show dx1 < da1 from hsw))) (by decide) (by decide) (XS.aloadN X6.here hx rfl (hb hby d16_79) rfl rfl (XS.aloadN X6.here hx rfl (hb hby d16_80) rfl rfl k))))) ?_
  obtain ⟨T7, X7, e7, st7⟩ := getF X6 hx hZ hown (host := "") (Or.inl (hw _ (List.mem_of_getElem? (i := 39) rfl))) Via.refl e6 F_heap (g := (mkF m 81 #[.val (.ref a0), .val (.ref a1), .val (.int (0 : Int32)), .val (.int (0 : Int32)), .val (.int (1 : Int32))] [(.ref a0), (.ref a0)])) rfl rfl (hb hby d16_81)
  refine Run.st (S' := T7.setTop (mkF m 86 #[.val (.ref a0), .val (.ref a1), .val (.int (0 : Int32)), .val (.int (0 : Int32)), .val (.int (1 : Int32))] [(.int (1 : Int32)), (.ref hp), (.ref a0)])) (fun _ k => st7 _ (XS.iload X7.here hx rfl (hb hby d16_84) rfl k)) ?_
  obtain ⟨cl8, Ar8, qa8, Sa8, Na8, Ha8, Ga8⟩ := id V_hp
  have hin8 : ¬ ((1 : Int32) < 0 ∨ cl8.slots.size ≤ ((1 : Int32)).toNatClampNeg) := inb_of Sa8 ⟨by decide, by decide⟩
  have hat8 : cl8.slots[((1 : Int32)).toNatClampNeg]? = some (.ref x1) := Has.at Ha8 hin8 rfl
  refine Run.st (S' := T7.setTop (mkF m 88 #[.val (.ref a0), .val (.ref a1), .val (.int (0 : Int32)), .val (.int (0 : Int32)), .val (.int (1 : Int32))] [(.int (0 : Int32)), (.ref x1), (.ref a0)])) (fun _ k => X7.aaload hx (j := (1 : Int32)) (v := (.ref x1)) (by rw [e7]; exact Ar8.1) (State.isArrayOf_alike hZ.alike Ar8.2.1) rfl Ar8.2.2 hin8 hat8 (g := (mkF m 86 #[.val (.ref a0), .val (.ref a1), .val (.int (0 : Int32)), .val (.int (0 : Int32)), .val (.int (1 : Int32))] [(.int (1 : Int32)), (.ref hp), (.ref a0)])) rfl rfl (hb hby d16_86) _ (XS.iloadN X7.here hx rfl (hb hby d16_87) rfl k)) ?_
  obtain ⟨cq9, q9, q9'⟩ := E_a0.cell
  obtain ⟨_, _, ⟨T9, L9, k9, n9⟩, -, X9, ⟨Lc9, hQ9, l9, y9, z9⟩, st9⟩ := X7.privateBack hx (y := (⟨"com/example/keys_to_structures/keystostructures/store/ExpiryQueue", "place", "(Lcom/example/keys_to_structures/keystostructures/store/TimedEntry;I)V"⟩ : MethodName)) hown (mvT hZ (hw _ (List.mem_of_getElem? (i := 52) rfl))) (mvT hZ (hw _ (List.mem_of_getElem? (i := 53) rfl))) (selSelf (y := (⟨"com/example/keys_to_structures/keystostructures/store/ExpiryQueue", "place", "(Lcom/example/keys_to_structures/keystostructures/store/TimedEntry;I)V"⟩ : MethodName)) (mvT hZ (hw _ (List.mem_of_getElem? (i := 31) rfl))) (Cond.privateMethod_at (mvP hZ (hw _ (List.mem_of_getElem? (i := 54) rfl)) (args := #[]))) (mvT hZ (hw _ (List.mem_of_getElem? (i := 53) rfl))) (by decide)) (Cond.privateMethod_at (mvP hZ (hw _ (List.mem_of_getElem? (i := 54) rfl)) (args := #[]))) (mvT hZ (hw _ (List.mem_of_getElem? (i := 55) rfl))) (by decide) (backOf (W := 0) (rmPl0 l Z aV hw [] a0 x1 hp kA v0 (.ref x1) v2 px1 dx1 h0 n0 Zn g_hp g_x1 O_kA E_a0 F_heap V_hp E_x1 F_d_x1 F_p_x1 ne_a0__hp ne_a0__x1 ne_hp__x1) hZ (hw _ (List.mem_of_getElem? (i := 55) rfl)) (hw _ (List.mem_of_getElem? (i := 32) rfl)) (by decide) (by decide)) (g := (mkF m 88 #[.val (.ref a0), .val (.ref a1), .val (.int (0 : Int32)), .val (.int (0 : Int32)), .val (.int (1 : Int32))] [(.int (0 : Int32)), (.ref x1), (.ref a0)])) rfl (by rw [hml]; rfl) (Steps.refl _) (a := a0) (by rw [e7]; exact q9) q9' (argsL := [(.ref x1), (.int (0 : Int32))]) (rest := []) (lenOf pd_3 rfl) rfl (by show 2 * 0 + _ ≤ _; exact Nat.le_of_eq rfl) (hb hby d16_88) (fun _ _ => ⟨rfl, e7, (by decide : 0 + 0 ≤ _), (by decide : 0 + 0 ≤ _)⟩)
  dsimp only [Pt.U, Pt.locs, Pt.cells, Pt.slots] at X9 l9 y9 z9 st9 hQ9
  subst l9 y9 z9
  obtain ⟨rfl, N9q, K9, q9_0, q9_1, q9_2, q9_3⟩ := hQ9
  have E_a0 := E_a0.keep K9
  have F_heap := F_heap.keep K9 (ninS ne_a0__hp (ninS ne_a0__x1 nin0))
  have F_size := F_size.keep K9 (ninS ne_a0__hp (ninS ne_a0__x1 nin0))
  have E_a1 := E_a1.keep K9
  have F_d_a1 := F_d_a1.keep K9 (ninS (Ne.symm ne_hp__a1) (ninS ne_a1__x1 nin0))
  have F_p_a1 := F_p_a1.keep K9 (ninS (Ne.symm ne_hp__a1) (ninS ne_a1__x1 nin0))
  have V_hp := q9_0
  have E_x1 := q9_1
  have F_d_x1 := q9_2
  have F_p_x1 := q9_3
  have Kp := Kp.trans K9 (allS (Or.inl (by simp)) (allS (Or.inl (by simp)) all0))
  have Zn := Nat.le_trans Zn K9.1
  have N9 := Fr.app N6 N9q
  refine Run.st (S' := T9.setTop (mkF m 99 #[.val (.ref a0), .val (.ref a1), .val (.int (0 : Int32)), .val (.int (1 : Int32)), .val (.int (1 : Int32))] [(.int (3 : Int32))])) (fun _ k => st9.trans (XS.iload X9.here hx rfl (hb hby d16_91) rfl (XS.istoreN X9.here hx rfl (hb hby d16_93) rfl (l' := #[.val (.ref a0), .val (.ref a1), .val (.int (0 : Int32)), .val (.int (1 : Int32)), .val (.int (1 : Int32))]) rfl (XS.iconst X9.here hx rfl (hb hby d16_94) (XS.iloadN X9.here hx rfl (hb hby d16_95) rfl (XS.imul X9.here hx rfl (hb hby d16_96) rfl (XS.iconst X9.here hx rfl (hb hby d16_97) (XS.iadd X9.here hx rfl (hb hby d16_98) rfl k)))))))) ?_
  refine Run.st (S' := T9.setTop (mkF m 12 #[.val (.ref a0), .val (.ref a1), .val (.int (0 : Int32)), .val (.int (1 : Int32)), .val (.int (3 : Int32))] [(.ref a0), (.int (3 : Int32))])) (fun _ k => XS.istore X9.here hx rfl (hb hby d16_99) rfl (l' := #[.val (.ref a0), .val (.ref a1), .val (.int (0 : Int32)), .val (.int (1 : Int32)), .val (.int (3 : Int32))]) rfl (XS.goto X9.here hx rfl (pc0 := 101) (pc' := 9) rfl (hb hby d16_101) (by decide) (by decide) (XS.iload X9.here hx rfl (hb hby d16_9) rfl (XS.aloadN X9.here hx rfl (hb hby d16_11) rfl rfl k)))) ?_
  obtain ⟨T10, X10, e10, st10⟩ := getF X9 hx hZ hown (host := "") (Or.inl (hw _ (List.mem_of_getElem? (i := 46) rfl))) Via.refl rfl F_size (g := (mkF m 12 #[.val (.ref a0), .val (.ref a1), .val (.int (0 : Int32)), .val (.int (1 : Int32)), .val (.int (3 : Int32))] [(.ref a0), (.int (3 : Int32))])) rfl rfl (hb hby d16_12)
  refine Run.st (S' := T10.setTop (mkF m 107 #[.val (.ref a0), .val (.ref a1), .val (.int (0 : Int32)), .val (.int (1 : Int32)), .val (.int (3 : Int32))] [(.int (1 : Int32)), (.ref a1), (.ref a0)])) (fun _ k => st10 _ (XS.icmpYes X10.here hx rfl (pc0 := 15) (pc' := 104) rfl (hb hby d16_15) rfl (flt (show ¬ ((3 : Int32) < (2 : Int32)) from (by decide))).2.1 (by decide) (by decide) (XS.aloadN X10.here hx rfl (hb hby d16_104) rfl rfl (XS.aloadN X10.here hx rfl (hb hby d16_105) rfl rfl (XS.iloadN X10.here hx rfl (hb hby d16_106) rfl k))))) ?_
  obtain ⟨cq11, q11, q11'⟩ := E_a0.cell
  obtain ⟨_, _, ⟨T11, L11, k11, n11⟩, -, X11, ⟨Lc11, hQ11, l11, y11, z11⟩, st11⟩ := X10.privateBack hx (y := (⟨"com/example/keys_to_structures/keystostructures/store/ExpiryQueue", "place", "(Lcom/example/keys_to_structures/keystostructures/store/TimedEntry;I)V"⟩ : MethodName)) hown (mvT hZ (hw _ (List.mem_of_getElem? (i := 52) rfl))) (mvT hZ (hw _ (List.mem_of_getElem? (i := 53) rfl))) (selSelf (y := (⟨"com/example/keys_to_structures/keystostructures/store/ExpiryQueue", "place", "(Lcom/example/keys_to_structures/keystostructures/store/TimedEntry;I)V"⟩ : MethodName)) (mvT hZ (hw _ (List.mem_of_getElem? (i := 31) rfl))) (Cond.privateMethod_at (mvP hZ (hw _ (List.mem_of_getElem? (i := 54) rfl)) (args := #[]))) (mvT hZ (hw _ (List.mem_of_getElem? (i := 53) rfl))) (by decide)) (Cond.privateMethod_at (mvP hZ (hw _ (List.mem_of_getElem? (i := 54) rfl)) (args := #[]))) (mvT hZ (hw _ (List.mem_of_getElem? (i := 55) rfl))) (by decide) (backOf (W := 0) (rmPl1 l Z aV hw [] a0 a1 hp kA (.ref x1) (.ref x1) v2 pa1 da1 T9.heap n0 Zn g_hp g_a1 O_kA E_a0 F_heap V_hp E_a1 F_d_a1 F_p_a1 ne_a0__hp ne_a0__a1 ne_hp__a1) hZ (hw _ (List.mem_of_getElem? (i := 55) rfl)) (hw _ (List.mem_of_getElem? (i := 32) rfl)) (by decide) (by decide)) (g := (mkF m 107 #[.val (.ref a0), .val (.ref a1), .val (.int (0 : Int32)), .val (.int (1 : Int32)), .val (.int (3 : Int32))] [(.int (1 : Int32)), (.ref a1), (.ref a0)])) rfl (by rw [hml]; rfl) (Steps.refl _) (a := a0) (by rw [e10]; exact q11) q11' (argsL := [(.ref a1), (.int (1 : Int32))]) (rest := []) (lenOf pd_3 rfl) rfl (by show 2 * 0 + _ ≤ _; exact Nat.le_of_eq rfl) (hb hby d16_107) (fun _ _ => ⟨rfl, e10, (by decide : 0 + 0 ≤ _), (by decide : 0 + 0 ≤ _)⟩)
  dsimp only [Pt.U, Pt.locs, Pt.cells, Pt.slots] at X11 l11 y11 z11 st11 hQ11
  subst l11 y11 z11
  obtain ⟨rfl, N11q, K11, q11_0, q11_1, q11_2, q11_3⟩ := hQ11
  have E_a0 := E_a0.keep K11
  have F_heap := F_heap.keep K11 (ninS ne_a0__hp (ninS ne_a0__a1 nin0))
  have F_size := F_size.keep K11 (ninS ne_a0__hp (ninS ne_a0__a1 nin0))
  have E_x1 := E_x1.keep K11
  have F_d_x1 := F_d_x1.keep K11 (ninS (Ne.symm ne_hp__x1) (ninS (Ne.symm ne_a1__x1) nin0))
  have F_p_x1 := F_p_x1.keep K11 (ninS (Ne.symm ne_hp__x1) (ninS (Ne.symm ne_a1__x1) nin0))
  have V_hp := q11_0
  have E_a1 := q11_1
  have F_d_a1 := q11_2
  have F_p_a1 := q11_3
  have Kp := Kp.trans K11 (allS (Or.inl (by simp)) (allS (Or.inl (by simp)) all0))
  have Zn := Nat.le_trans Zn K11.1
  have N11 := Fr.app N9 N11q
  refine Run.st (S' := T11.setTop (mkF m 110 #[.val (.ref a0), .val (.ref a1), .val (.int (0 : Int32)), .val (.int (1 : Int32)), .val (.int (3 : Int32))] [])) (fun _ k => st11.trans k) ?_
  refine Run.outV X11 hx Bd.notSynchronized Bd.returns (hb hby d16_110) (by decide) (by decide) ?_
  exact ⟨rfl, N11, Kp, V_hp, E_a1, F_d_a1, F_p_a1, E_x1, F_d_x1, F_p_x1⟩
theorem pd_5 : parseMethodDescriptor "()I" = some ⟨[], some .int⟩ := by decide +kernel
theorem d14_0 : decode prog_43_method_4_code 0 = .ok (.aload_n 1, 1) := by decide +kernel
theorem d14_1 : decode prog_43_method_4_code 1 = .ok (.invokevirtual 27, 3) := by decide +kernel
theorem d14_4 : decode prog_43_method_4_code 4 = .ok (.istore_n 2, 1) := by decide +kernel
theorem d14_5 : decode prog_43_method_4_code 5 = .ok (.aload_n 0, 1) := by decide +kernel
theorem d14_6 : decode prog_43_method_4_code 6 = .ok (.dup, 1) := by decide +kernel
theorem d14_7 : decode prog_43_method_4_code 7 = .ok (.getfield 15, 3) := by decide +kernel
theorem d14_10 : decode prog_43_method_4_code 10 = .ok (.iconst 1, 1) := by decide +kernel
theorem d14_11 : decode prog_43_method_4_code 11 = .ok (.isub, 1) := by decide +kernel
theorem d14_12 : decode prog_43_method_4_code 12 = .ok (.putfield 15, 3) := by decide +kernel
theorem d14_15 : decode prog_43_method_4_code 15 = .ok (.aload_n 0, 1) := by decide +kernel
theorem d14_16 : decode prog_43_method_4_code 16 = .ok (.getfield 11, 3) := by decide +kernel
theorem d14_19 : decode prog_43_method_4_code 19 = .ok (.aload_n 0, 1) := by decide +kernel
theorem d14_20 : decode prog_43_method_4_code 20 = .ok (.getfield 15, 3) := by decide +kernel
theorem d14_23 : decode prog_43_method_4_code 23 = .ok (.aaload, 1) := by decide +kernel
theorem d14_24 : decode prog_43_method_4_code 24 = .ok (.astore_n 3, 1) := by decide +kernel
theorem d14_25 : decode prog_43_method_4_code 25 = .ok (.aload_n 0, 1) := by decide +kernel
theorem d14_26 : decode prog_43_method_4_code 26 = .ok (.getfield 11, 3) := by decide +kernel
theorem d14_29 : decode prog_43_method_4_code 29 = .ok (.aload_n 0, 1) := by decide +kernel
theorem d14_30 : decode prog_43_method_4_code 30 = .ok (.getfield 15, 3) := by decide +kernel
theorem d14_33 : decode prog_43_method_4_code 33 = .ok (.aconst_null, 1) := by decide +kernel
theorem d14_34 : decode prog_43_method_4_code 34 = .ok (.aastore, 1) := by decide +kernel
theorem d14_35 : decode prog_43_method_4_code 35 = .ok (.iload_n 2, 1) := by decide +kernel
theorem d14_36 : decode prog_43_method_4_code 36 = .ok (.aload_n 0, 1) := by decide +kernel
theorem d14_37 : decode prog_43_method_4_code 37 = .ok (.getfield 15, 3) := by decide +kernel
theorem d14_40 : decode prog_43_method_4_code 40 = .ok (.if_icmp .ge 20, 3) := by decide +kernel
theorem d14_60 : decode prog_43_method_4_code 60 = .ok (.aload_n 0, 1) := by decide +kernel
theorem d14_61 : decode prog_43_method_4_code 61 = .ok (.getfield 15, 3) := by decide +kernel
theorem d14_64 : decode prog_43_method_4_code 64 = .ok (.aload_n 0, 1) := by decide +kernel
theorem d14_65 : decode prog_43_method_4_code 65 = .ok (.getfield 11, 3) := by decide +kernel
theorem d14_68 : decode prog_43_method_4_code 68 = .ok (.arraylength, 1) := by decide +kernel
theorem d14_69 : decode prog_43_method_4_code 69 = .ok (.iconst 4, 1) := by decide +kernel
theorem d14_70 : decode prog_43_method_4_code 70 = .ok (.idiv, 1) := by decide +kernel
theorem d14_71 : decode prog_43_method_4_code 71 = .ok (.if_icmp .ge 24, 3) := by decide +kernel
theorem d14_74 : decode prog_43_method_4_code 74 = .ok (.aload_n 0, 1) := by decide +kernel
theorem d14_75 : decode prog_43_method_4_code 75 = .ok (.getfield 11, 3) := by decide +kernel
theorem d14_78 : decode prog_43_method_4_code 78 = .ok (.arraylength, 1) := by decide +kernel
theorem d14_79 : decode prog_43_method_4_code 79 = .ok (.bipush 16, 2) := by decide +kernel
theorem d14_81 : decode prog_43_method_4_code 81 = .ok (.if_icmp .le 14, 3) := by decide +kernel
theorem d14_95 : decode prog_43_method_4_code 95 = .ok (.return_, 1) := by decide +kernel
theorem ef_Rm1 (m : MethodId) (a0 : Addr) (x0 : Addr) : entryFrame m #[(.ref a0), (.ref x0)] 4 = mkF m 0 #[.val (.ref a0), .val (.ref x0), .unset, .unset] [] := by first | (simp [entryFrame, mkF, argsToLocals, Value.category]; done) | rfl
def QRm1 (Z : State) (a0 : Addr) (hp : Addr) (kA : ClassId) (v1 : Value) (v2 : Value) (x0 : Addr) (dx0 : Int64) (h0 : Heap) (n0 : Nat) (v : Option Value) (h : Heap) (L : List Loc) : Prop := v = none ∧ Fr n0 L ∧ Keep h0 h [a0, hp, x0] ∧ Exa Z h a0 "com/example/keys_to_structures/keystostructures/store/ExpiryQueue" ∧ Fld Z h a0 "com/example/keys_to_structures/keystostructures/store/ExpiryQueue" "heap" "[Lcom/example/keys_to_structures/keystostructures/store/TimedEntry;" (.ref hp) ∧ Fld Z h a0 "com/example/keys_to_structures/keystostructures/store/ExpiryQueue" "size" "I" (.int (0 : Int32)) ∧ Arv Z h hp kA (.object "com/example/keys_to_structures/keystostructures/store/TimedEntry") (16 : Int32) [.null, v1, v2, .null, .null, .null, .null, .null, .null, .null, .null, .null, .null, .null, .null, .null] .null ∧ Exa Z h x0 "com/example/keys_to_structures/keystostructures/store/TimedEntry" ∧ Fld Z h x0 "com/example/keys_to_structures/keystostructures/store/TimedEntry" "deadline" "J" (.long dx0) ∧ Fld Z h x0 "com/example/keys_to_structures/keystostructures/store/TimedEntry" "position" "I" (.int (0 : Int32))
set_option maxRecDepth 65536 in
set_option maxHeartbeats 40000000 in
theorem rmRm1 (l : Launch) (Z : State) (aV : Array Value) (hw : ∀ d ∈ tables_1, d.before aV Z = true) (ws : List Jvm.Cond) (a0 : Addr) (hp : Addr) (kA : ClassId) (v1 : Value) (v2 : Value) (x0 : Addr) (dx0 : Int64) (h0 : Heap) (n0 : Nat) (Zn : n0 ≤ h0.size) (g_a0 : n0 ≤ a0) (g_hp : n0 ≤ hp) (O_kA : Ovr Z kA "com/example/keys_to_structures/keystostructures/store/TimedEntry") (g_x0 : n0 ≤ x0) (E_a0 : Exa Z h0 a0 "com/example/keys_to_structures/keystostructures/store/ExpiryQueue") (F_heap : Fld Z h0 a0 "com/example/keys_to_structures/keystostructures/store/ExpiryQueue" "heap" "[Lcom/example/keys_to_structures/keystostructures/store/TimedEntry;" (.ref hp)) (F_size : Fld Z h0 a0 "com/example/keys_to_structures/keystostructures/store/ExpiryQueue" "size" "I" (.int (1 : Int32))) (V_hp : Arv Z h0 hp kA (.object "com/example/keys_to_structures/keystostructures/store/TimedEntry") (16 : Int32) [(.ref x0), v1, v2, .null, .null, .null, .null, .null, .null, .null, .null, .null, .null, .null, .null, .null] .null) (E_x0 : Exa Z h0 x0 "com/example/keys_to_structures/keystostructures/store/TimedEntry") (F_d_x0 : Fld Z h0 x0 "com/example/keys_to_structures/keystostructures/store/TimedEntry" "deadline" "J" (.long dx0)) (F_p_x0 : Fld Z h0 x0 "com/example/keys_to_structures/keystostructures/store/TimedEntry" "position" "I" (.int (0 : Int32))) (ne_a0__hp : a0 ≠ hp) (ne_a0__x0 : a0 ≠ x0) (ne_hp__x0 : hp ≠ x0) :
    MetFree l (⟨"com/example/keys_to_structures/keystostructures/store/ExpiryQueue", "remove", "(Lcom/example/keys_to_structures/keystostructures/store/TimedEntry;)V"⟩ : MethodName) (head1 (Jvm.Cond.code (⟨"com/example/keys_to_structures/keystostructures/store/ExpiryQueue", "remove", "(Lcom/example/keys_to_structures/keystostructures/store/TimedEntry;)V"⟩ : MethodName) prog_43_method_4_code 4 none :: ws) ({ frames := 3, cells := 0, slots := 0, locals := 43 } : Room)) (fun a U => a = #[(.ref a0), (.ref x0)] ∧ Z.Warmed39 U.vm ∧ U.heap = h0) (fun _ _ _ _ _ => True) (fun _ U o U' => ∃ v L, o = .returned v ∧ QRm1 Z a0 hp kA v1 v2 x0 dx0 h0 n0 v U'.heap L ∧ FrameEnd U o U' L ({ frames := 3, cells := 0, slots := 0, locals := 43 } : Room).cells ({ frames := 3, cells := 0, slots := 0, locals := 43 } : Room).slots) := by
  refine MetFree.of_bodySF (plainFor_of_name pn_4) hisR ?_
  intro p e s m args below meth c s₁ Bd hml0 hP hK
  obtain ⟨rfl, hZ, hh⟩ := hP
  have hx := Bd.exec
  have hby := Bd.bytes
  have hml : c.maxLocals = 4 := hml0
  have hown : s.vm.findClass "com/example/keys_to_structures/keystostructures/store/ExpiryQueue" = some m.cls := findClass_of_methodNamed Bd.named
  have hnm := (name_of_methodNamed Bd.named Bd.method).1
  have X0 : Stand p l e ({ frames := 3, cells := 0, slots := 0, locals := 43 } : Room) s m #[(.ref a0), (.ref x0)] below meth c s₁ [] 0 0 := Stand.of_body Bd
  have e0 : s₁.heap = h0 := by rw [← hh, Bd.state]; rfl
  have N0 := Fr.nil n0
  have Kp := Keep.refl h0 [a0, hp, x0]
  show Run p e below (Ends s (QRm1 Z a0 hp kA v1 v2 x0 dx0 h0 n0) ({ frames := 3, cells := 0, slots := 0, locals := 43 } : Room).cells ({ frames := 3, cells := 0, slots := 0, locals := 43 } : Room).slots) _
  refine Run.st (S' := s₁.setTop (mkF m 0 #[.val (.ref a0), .val (.ref x0), .unset, .unset] [])) (fun t k => castTop (ef_Rm1 m a0 x0) k) ?_
  refine Run.st (S' := s₁.setTop (mkF m 1 #[.val (.ref a0), .val (.ref x0), .unset, .unset] [(.ref x0)])) (fun _ k => XS.aloadN X0.here hx rfl (hb hby d14_0) rfl rfl k) ?_
  obtain ⟨cq1, kq1, q1a, q1b, q1c⟩ := isOf hZ e0 E_x0
  obtain ⟨_, _, ⟨T1, L1, k1, n1⟩, -, X1, ⟨Lc1, hQ1, l1, y1, z1⟩, st1⟩ := X0.virtualBack hx (y := (⟨"com/example/keys_to_structures/keystostructures/store/TimedEntry", "position", "()I"⟩ : MethodName)) (z := (⟨"com/example/keys_to_structures/keystostructures/store/TimedEntry", "position", "()I"⟩ : MethodName)) hown (mvT hZ (hw _ (List.mem_of_getElem? (i := 85) rfl))) (mvT hZ (hw _ (List.mem_of_getElem? (i := 86) rfl))) (notFace_of_selects (args := #[]) (mvT hZ (hw _ (List.mem_of_getElem? (i := 88) rfl)))) (mvT hZ (hw _ (List.mem_of_getElem? (i := 88) rfl))) (mvT hZ (hw _ (List.mem_of_getElem? (i := 87) rfl))) (by decide) (backOf (W := 0) (rmPo l Z aV hw [] x0 (0 : Int32) h0 n0 Zn F_p_x0) hZ (hw _ (List.mem_of_getElem? (i := 89) rfl)) (hw _ (List.mem_of_getElem? (i := 2) rfl)) (by decide) (by decide)) q1a q1c (g := (mkF m 1 #[.val (.ref a0), .val (.ref x0), .unset, .unset] [(.ref x0)])) rfl (by rw [hml]; rfl) (Steps.refl _) (argsL := []) (rest := []) (lenOf pd_5 rfl) rfl (by show 2 * 0 + _ ≤ _; exact Nat.le_of_eq rfl) (hb hby d14_1) (fun _ _ => ⟨rfl, e0, (by decide : 0 + 0 ≤ _), (by decide : 0 + 0 ≤ _)⟩)
  dsimp only [Pt.U, Pt.locs, Pt.cells, Pt.slots] at X1 l1 y1 z1 st1 hQ1
  subst l1 y1 z1
  obtain ⟨rfl, N1q, e1⟩ := hQ1
  have N1 := Fr.app N0 N1q
  refine Run.st (S' := T1.setTop (mkF m 7 #[.val (.ref a0), .val (.ref x0), .val (.int (0 : Int32)), .unset] [(.ref a0), (.ref a0)])) (fun _ k => st1.trans (XS.istoreN X1.here hx rfl (hb hby d14_4) rfl (l' := #[.val (.ref a0), .val (.ref x0), .val (.int (0 : Int32)), .unset]) rfl (XS.aloadN X1.here hx rfl (hb hby d14_5) rfl rfl (XS.dup X1.here hx rfl (hb hby d14_6) rfl rfl k)))) ?_
  obtain ⟨T2, X2, e2, st2⟩ := getF X1 hx hZ hown (host := "") (Or.inl (hw _ (List.mem_of_getElem? (i := 46) rfl))) Via.refl e1 F_size (g := (mkF m 7 #[.val (.ref a0), .val (.ref x0), .val (.int (0 : Int32)), .unset] [(.ref a0), (.ref a0)])) rfl rfl (hb hby d14_7)
  refine Run.st (S' := T2.setTop (mkF m 12 #[.val (.ref a0), .val (.ref x0), .val (.int (0 : Int32)), .unset] [(.int (0 : Int32)), (.ref a0)])) (fun _ k => st2 _ (XS.iconst X2.here hx rfl (hb hby d14_10) (XS.isub X2.here hx rfl (hb hby d14_11) rfl k))) ?_
  obtain ⟨T3, h3, X3, e3, W3, st3⟩ := putF X2 hx hZ hown (host := "") (Or.inl (hw _ (List.mem_of_getElem? (i := 46) rfl))) Via.refl e2 F_size E_a0 (Or.inl (hw _ (List.mem_of_getElem? (i := 47) rfl))) (hw _ (List.mem_of_getElem? (i := 31) rfl)) (ty := .int) (by decide) rfl rfl (g := (mkF m 12 #[.val (.ref a0), .val (.ref x0), .val (.int (0 : Int32)), .unset] [(.int (0 : Int32)), (.ref a0)])) rfl rfl (hb hby d14_12)
  have F_size := F_size.same W3
  have E_a0 := E_a0.wr W3
  have F_heap := F_heap.other W3 (Or.inr (slot_ne (Or.inl (hw _ (List.mem_of_getElem? (i := 40) rfl))) (Or.inl (hw _ (List.mem_of_getElem? (i := 47) rfl))) (by decide) (t := (.array (.object "com/example/keys_to_structures/keystostructures/store/TimedEntry"))) (t' := .int) (by decide) (by decide)))
  have V_hp := V_hp.other W3 (Ne.symm ne_a0__hp)
  have E_x0 := E_x0.wr W3
  have F_d_x0 := F_d_x0.other W3 (Or.inl (Ne.symm ne_a0__x0))
  have F_p_x0 := F_p_x0.other W3 (Or.inl (Ne.symm ne_a0__x0))
  have N3 := Fr.snoc X3 N1 g_a0
  have Kp := Kp.wr W3 (Or.inl (by simp))
  have Zn := Nat.le_trans Zn (Nat.le_of_eq W3.size.symm)
  refine Run.st (S' := T3.setTop (mkF m 16 #[.val (.ref a0), .val (.ref x0), .val (.int (0 : Int32)), .unset] [(.ref a0)])) (fun _ k => st3 _ (XS.aloadN X3.here hx rfl (hb hby d14_15) rfl rfl k)) ?_
  obtain ⟨T4, X4, e4, st4⟩ := getF X3 hx hZ hown (host := "") (Or.inl (hw _ (List.mem_of_getElem? (i := 39) rfl))) Via.refl e3 F_heap (g := (mkF m 16 #[.val (.ref a0), .val (.ref x0), .val (.int (0 : Int32)), .unset] [(.ref a0)])) rfl rfl (hb hby d14_16)
  refine Run.st (S' := T4.setTop (mkF m 20 #[.val (.ref a0), .val (.ref x0), .val (.int (0 : Int32)), .unset] [(.ref a0), (.ref hp)])) (fun _ k => st4 _ (XS.aloadN X4.here hx rfl (hb hby d14_19) rfl rfl k)) ?_
  obtain ⟨T5, X5, e5, st5⟩ := getF X4 hx hZ hown (host := "") (Or.inl (hw _ (List.mem_of_getElem? (i := 46) rfl))) Via.refl e4 F_size (g := (mkF m 20 #[.val (.ref a0), .val (.ref x0), .val (.int (0 : Int32)), .unset] [(.ref a0), (.ref hp)])) rfl rfl (hb hby d14_20)
  refine Run.st (S' := T5.setTop (mkF m 23 #[.val (.ref a0), .val (.ref x0), .val (.int (0 : Int32)), .unset] [(.int (0 : Int32)), (.ref hp)])) (fun _ k => st5 _ k) ?_
  obtain ⟨cl6, Ar6, qa6, Sa6, Na6, Ha6, Ga6⟩ := id V_hp
  have hin6 : ¬ ((0 : Int32) < 0 ∨ cl6.slots.size ≤ ((0 : Int32)).toNatClampNeg) := inb_of Sa6 ⟨by decide, by decide⟩
  have hat6 : cl6.slots[((0 : Int32)).toNatClampNeg]? = some (.ref x0) := Has.at Ha6 hin6 rfl
  refine Run.st (S' := T5.setTop (mkF m 26 #[.val (.ref a0), .val (.ref x0), .val (.int (0 : Int32)), .val (.ref x0)] [(.ref a0)])) (fun _ k => X5.aaload hx (j := (0 : Int32)) (v := (.ref x0)) (by rw [e5]; exact Ar6.1) (State.isArrayOf_alike hZ.alike Ar6.2.1) rfl Ar6.2.2 hin6 hat6 (g := (mkF m 23 #[.val (.ref a0), .val (.ref x0), .val (.int (0 : Int32)), .unset] [(.int (0 : Int32)), (.ref hp)])) rfl rfl (hb hby d14_23) _ (XS.astoreN X5.here hx rfl (hb hby d14_24) rfl rfl (l' := #[.val (.ref a0), .val (.ref x0), .val (.int (0 : Int32)), .val (.ref x0)]) rfl (XS.aloadN X5.here hx rfl (hb hby d14_25) rfl rfl k))) ?_
  obtain ⟨T7, X7, e7, st7⟩ := getF X5 hx hZ hown (host := "") (Or.inl (hw _ (List.mem_of_getElem? (i := 39) rfl))) Via.refl e5 F_heap (g := (mkF m 26 #[.val (.ref a0), .val (.ref x0), .val (.int (0 : Int32)), .val (.ref x0)] [(.ref a0)])) rfl rfl (hb hby d14_26)
  refine Run.st (S' := T7.setTop (mkF m 30 #[.val (.ref a0), .val (.ref x0), .val (.int (0 : Int32)), .val (.ref x0)] [(.ref a0), (.ref hp)])) (fun _ k => st7 _ (XS.aloadN X7.here hx rfl (hb hby d14_29) rfl rfl k)) ?_
  obtain ⟨T8, X8, e8, st8⟩ := getF X7 hx hZ hown (host := "") (Or.inl (hw _ (List.mem_of_getElem? (i := 46) rfl))) Via.refl e7 F_size (g := (mkF m 30 #[.val (.ref a0), .val (.ref x0), .val (.int (0 : Int32)), .val (.ref x0)] [(.ref a0), (.ref hp)])) rfl rfl (hb hby d14_30)
  refine Run.st (S' := T8.setTop (mkF m 34 #[.val (.ref a0), .val (.ref x0), .val (.int (0 : Int32)), .val (.ref x0)] [.null, (.int (0 : Int32)), (.ref hp)])) (fun _ k => st8 _ (XS.aconstNull X8.here hx rfl (hb hby d14_33) k)) ?_
  obtain ⟨cl9, Ar9, qa9, Sa9, Na9, Ha9, Ga9⟩ := V_hp
  have hin9 : ¬ ((0 : Int32) < 0 ∨ cl9.slots.size ≤ ((0 : Int32)).toNatClampNeg) := inb_of Sa9 ⟨by decide, by decide⟩
  obtain ⟨T9, h9, X9, e9, W9, st9⟩ := stR X8 hx hZ e8 Ar9 (j := (0 : Int32)) hin9 rfl (Or.inl rfl) (g := (mkF m 34 #[.val (.ref a0), .val (.ref x0), .val (.int (0 : Int32)), .val (.ref x0)] [.null, (.int (0 : Int32)), (.ref hp)])) rfl rfl (hb hby d14_34)
  have V_hp := Arv.set Ar9 qa9 Sa9 Na9 Ha9 Ga9 rfl W9 0 rfl (Nat.le_of_ble_eq_true rfl)
  have V_hp : Arv Z h9 hp kA (.object "com/example/keys_to_structures/keystostructures/store/TimedEntry") (16 : Int32) [.null, v1, v2, .null, .null, .null, .null, .null, .null, .null, .null, .null, .null, .null, .null, .null] .null := V_hp
  have E_a0 := E_a0.wr W9
  have F_heap := F_heap.other W9 (Or.inl ne_a0__hp)
  have F_size := F_size.other W9 (Or.inl ne_a0__hp)
  have E_x0 := E_x0.wr W9
  have F_d_x0 := F_d_x0.other W9 (Or.inl (Ne.symm ne_hp__x0))
  have F_p_x0 := F_p_x0.other W9 (Or.inl (Ne.symm ne_hp__x0))
  have N9 := Fr.snoc X9 N3 g_hp
  have Kp := Kp.wr W9 (Or.inl (by simp))
  have Zn := Nat.le_trans Zn (Nat.le_of_eq W9.size.symm)
  refine Run.st (S' := T9.setTop (mkF m 37 #[.val (.ref a0), .val (.ref x0), .val (.int (0 : Int32)), .val (.ref x0)] [(.ref a0), (.int (0 : Int32))])) (fun _ k => st9 _ (XS.iloadN X9.here hx rfl (hb hby d14_35) rfl (XS.aloadN X9.here hx rfl (hb hby d14_36) rfl rfl k))) ?_
  obtain ⟨T10, X10, e10, st10⟩ := getF X9 hx hZ hown (host := "") (Or.inl (hw _ (List.mem_of_getElem? (i := 46) rfl))) Via.refl e9 F_size (g := (mkF m 37 #[.val (.ref a0), .val (.ref x0), .val (.int (0 : Int32)), .val (.ref x0)] [(.ref a0), (.int (0 : Int32))])) rfl rfl (hb hby d14_37)
  refine Run.st (S' := T10.setTop (mkF m 61 #[.val (.ref a0), .val (.ref x0), .val (.int (0 : Int32)), .val (.ref x0)] [(.ref a0)])) (fun _ k => st10 _ (XS.icmpYes X10.here hx rfl (pc0 := 40) (pc' := 60) rfl (hb hby d14_40) rfl (flt (show ¬ ((0 : Int32) < (0 : Int32)) from (by decide))).2.1 (by decide) (by decide) (XS.aloadN X10.here hx rfl (hb hby d14_60) rfl rfl k))) ?_
  obtain ⟨T11, X11, e11, st11⟩ := getF X10 hx hZ hown (host := "") (Or.inl (hw _ (List.mem_of_getElem? (i := 46) rfl))) Via.refl e10 F_size (g := (mkF m 61 #[.val (.ref a0), .val (.ref x0), .val (.int (0 : Int32)), .val (.ref x0)] [(.ref a0)])) rfl rfl (hb hby d14_61)
  refine Run.st (S' := T11.setTop (mkF m 65 #[.val (.ref a0), .val (.ref x0), .val (.int (0 : Int32)), .val (.ref x0)] [(.ref a0), (.int (0 : Int32))])) (fun _ k => st11 _ (XS.aloadN X11.here hx rfl (hb hby d14_64) rfl rfl k)) ?_
  obtain ⟨T12, X12, e12, st12⟩ := getF X11 hx hZ hown (host := "") (Or.inl (hw _ (List.mem_of_getElem? (i := 39) rfl))) Via.refl e11 F_heap (g := (mkF m 65 #[.val (.ref a0), .val (.ref x0), .val (.int (0 : Int32)), .val (.ref x0)] [(.ref a0), (.int (0 : Int32))])) rfl rfl (hb hby d14_65)
  refine Run.st (S' := T12.setTop (mkF m 68 #[.val (.ref a0), .val (.ref x0), .val (.int (0 : Int32)), .val (.ref x0)] [(.ref hp), (.int (0 : Int32))])) (fun _ k => st12 _ k) ?_
  obtain ⟨cl13, Ar13, -, Sa13, Na13, -, -⟩ := id V_hp
  refine Run.st (S' := T12.setTop (mkF m 69 #[.val (.ref a0), .val (.ref x0), .val (.int (0 : Int32)), .val (.ref x0)] [(.int (16 : Int32)), (.int (0 : Int32))])) (fun _ k => X12.arraylength hx (by rw [e12]; exact Ar13.1) (State.isArrayOf_alike hZ.alike Ar13.2.1) (g := (mkF m 68 #[.val (.ref a0), .val (.ref x0), .val (.int (0 : Int32)), .val (.ref x0)] [(.ref hp), (.int (0 : Int32))])) rfl rfl (hb hby d14_68) _ (by rw [len_of Sa13 Na13]; exact k)) ?_
  refine Run.st (S' := T12.setTop (mkF m 75 #[.val (.ref a0), .val (.ref x0), .val (.int (0 : Int32)), .val (.ref x0)] [(.ref a0)])) (fun _ k => XS.iconst X12.here hx rfl (hb hby d14_69) (XS.idiv X12.here hx rfl (hb hby d14_70) rfl (by decide) (XS.icmpNo X12.here hx rfl (hb hby d14_71) rfl (tlt (show (0 : Int32) < (4 : Int32) from (by decide))).2.1 (XS.aloadN X12.here hx rfl (hb hby d14_74) rfl rfl k)))) ?_
  obtain ⟨T14, X14, e14, st14⟩ := getF X12 hx hZ hown (host := "") (Or.inl (hw _ (List.mem_of_getElem? (i := 39) rfl))) Via.refl e12 F_heap (g := (mkF m 75 #[.val (.ref a0), .val (.ref x0), .val (.int (0 : Int32)), .val (.ref x0)] [(.ref a0)])) rfl rfl (hb hby d14_75)
  refine Run.st (S' := T14.setTop (mkF m 78 #[.val (.ref a0), .val (.ref x0), .val (.int (0 : Int32)), .val (.ref x0)] [(.ref hp)])) (fun _ k => st14 _ k) ?_
  obtain ⟨cl15, Ar15, -, Sa15, Na15, -, -⟩ := id V_hp
  refine Run.st (S' := T14.setTop (mkF m 79 #[.val (.ref a0), .val (.ref x0), .val (.int (0 : Int32)), .val (.ref x0)] [(.int (16 : Int32))])) (fun _ k => X14.arraylength hx (by rw [e14]; exact Ar15.1) (State.isArrayOf_alike hZ.alike Ar15.2.1) (g := (mkF m 78 #[.val (.ref a0), .val (.ref x0), .val (.int (0 : Int32)), .val (.ref x0)] [(.ref hp)])) rfl rfl (hb hby d14_78) _ (by rw [len_of Sa15 Na15]; exact k)) ?_
  refine Run.st (S' := T14.setTop (mkF m 95 #[.val (.ref a0), .val (.ref x0), .val (.int (0 : Int32)), .val (.ref x0)] [])) (fun _ k => XS.bipush X14.here hx rfl (hb hby d14_79) (XS.icmpYes X14.here hx rfl (pc0 := 81) (pc' := 95) rfl (hb hby d14_81) rfl (flt (show ¬ ((16 : Int32) < (16 : Int32)) from (by decide))).2.2.2 (by decide) (by decide) k)) ?_
  refine Run.outV X14 hx Bd.notSynchronized Bd.returns (hb hby d14_95) (by decide) (by decide) ?_
  rw [e14]
  exact ⟨rfl, N9, Kp, E_a0, F_heap, F_size, V_hp, E_x0, F_d_x0, F_p_x0⟩
theorem d14_43 : decode prog_43_method_4_code 43 = .ok (.aload_n 0, 1) := by decide +kernel
theorem d14_44 : decode prog_43_method_4_code 44 = .ok (.aload_n 3, 1) := by decide +kernel
theorem d14_45 : decode prog_43_method_4_code 45 = .ok (.iload_n 2, 1) := by decide +kernel
theorem d14_46 : decode prog_43_method_4_code 46 = .ok (.invokevirtual 31, 3) := by decide +kernel
theorem d14_49 : decode prog_43_method_4_code 49 = .ok (.aload_n 0, 1) := by decide +kernel
theorem d14_50 : decode prog_43_method_4_code 50 = .ok (.aload_n 0, 1) := by decide +kernel
theorem d14_51 : decode prog_43_method_4_code 51 = .ok (.getfield 11, 3) := by decide +kernel
theorem d14_54 : decode prog_43_method_4_code 54 = .ok (.iload_n 2, 1) := by decide +kernel
theorem d14_55 : decode prog_43_method_4_code 55 = .ok (.aaload, 1) := by decide +kernel
theorem d14_56 : decode prog_43_method_4_code 56 = .ok (.iload_n 2, 1) := by decide +kernel
theorem d14_57 : decode prog_43_method_4_code 57 = .ok (.invokevirtual 23, 3) := by decide +kernel
theorem ef_Rm20 (m : MethodId) (a0 : Addr) (x0 : Addr) : entryFrame m #[(.ref a0), (.ref x0)] 4 = mkF m 0 #[.val (.ref a0), .val (.ref x0), .unset, .unset] [] := by first | (simp [entryFrame, mkF, argsToLocals, Value.category]; done) | rfl
def QRm20 (Z : State) (a0 : Addr) (hp : Addr) (kA : ClassId) (v2 : Value) (x0 : Addr) (dx0 : Int64) (x1 : Addr) (dx1 : Int64) (h0 : Heap) (n0 : Nat) (v : Option Value) (h : Heap) (L : List Loc) : Prop := v = none ∧ Fr n0 L ∧ Keep h0 h [a0, hp, x0, x1] ∧ Exa Z h a0 "com/example/keys_to_structures/keystostructures/store/ExpiryQueue" ∧ Fld Z h a0 "com/example/keys_to_structures/keystostructures/store/ExpiryQueue" "heap" "[Lcom/example/keys_to_structures/keystostructures/store/TimedEntry;" (.ref hp) ∧ Fld Z h a0 "com/example/keys_to_structures/keystostructures/store/ExpiryQueue" "size" "I" (.int (1 : Int32)) ∧ Arv Z h hp kA (.object "com/example/keys_to_structures/keystostructures/store/TimedEntry") (16 : Int32) [(.ref x1), .null, v2, .null, .null, .null, .null, .null, .null, .null, .null, .null, .null, .null, .null, .null] .null ∧ Exa Z h x0 "com/example/keys_to_structures/keystostructures/store/TimedEntry" ∧ Fld Z h x0 "com/example/keys_to_structures/keystostructures/store/TimedEntry" "deadline" "J" (.long dx0) ∧ Fld Z h x0 "com/example/keys_to_structures/keystostructures/store/TimedEntry" "position" "I" (.int (0 : Int32)) ∧ Exa Z h x1 "com/example/keys_to_structures/keystostructures/store/TimedEntry" ∧ Fld Z h x1 "com/example/keys_to_structures/keystostructures/store/TimedEntry" "deadline" "J" (.long dx1) ∧ Fld Z h x1 "com/example/keys_to_structures/keystostructures/store/TimedEntry" "position" "I" (.int (0 : Int32))
set_option maxRecDepth 65536 in
set_option maxHeartbeats 40000000 in
theorem rmRm20 (l : Launch) (Z : State) (aV : Array Value) (hw : ∀ d ∈ tables_1, d.before aV Z = true) (ws : List Jvm.Cond) (a0 : Addr) (hp : Addr) (kA : ClassId) (v2 : Value) (x0 : Addr) (dx0 : Int64) (x1 : Addr) (dx1 : Int64) (h0 : Heap) (n0 : Nat) (Zn : n0 ≤ h0.size) (g_a0 : n0 ≤ a0) (g_hp : n0 ≤ hp) (O_kA : Ovr Z kA "com/example/keys_to_structures/keystostructures/store/TimedEntry") (g_x0 : n0 ≤ x0) (g_x1 : n0 ≤ x1) (E_a0 : Exa Z h0 a0 "com/example/keys_to_structures/keystostructures/store/ExpiryQueue") (F_heap : Fld Z h0 a0 "com/example/keys_to_structures/keystostructures/store/ExpiryQueue" "heap" "[Lcom/example/keys_to_structures/keystostructures/store/TimedEntry;" (.ref hp)) (F_size : Fld Z h0 a0 "com/example/keys_to_structures/keystostructures/store/ExpiryQueue" "size" "I" (.int (2 : Int32))) (V_hp : Arv Z h0 hp kA (.object "com/example/keys_to_structures/keystostructures/store/TimedEntry") (16 : Int32) [(.ref x0), (.ref x1), v2, .null, .null, .null, .null, .null, .null, .null, .null, .null, .null, .null, .null, .null] .null) (E_x0 : Exa Z h0 x0 "com/example/keys_to_structures/keystostructures/store/TimedEntry") (F_d_x0 : Fld Z h0 x0 "com/example/keys_to_structures/keystostructures/store/TimedEntry" "deadline" "J" (.long dx0)) (F_p_x0 : Fld Z h0 x0 "com/example/keys_to_structures/keystostructures/store/TimedEntry" "position" "I" (.int (0 : Int32))) (E_x1 : Exa Z h0 x1 "com/example/keys_to_structures/keystostructures/store/TimedEntry") (F_d_x1 : Fld Z h0 x1 "com/example/keys_to_structures/keystostructures/store/TimedEntry" "deadline" "J" (.long dx1)) (F_p_x1 : Fld Z h0 x1 "com/example/keys_to_structures/keystostructures/store/TimedEntry" "position" "I" (.int (1 : Int32))) (ne_a0__hp : a0 ≠ hp) (ne_a0__x0 : a0 ≠ x0) (ne_a0__x1 : a0 ≠ x1) (ne_hp__x0 : hp ≠ x0) (ne_hp__x1 : hp ≠ x1) (ne_x0__x1 : x0 ≠ x1) :
    MetFree l (⟨"com/example/keys_to_structures/keystostructures/store/ExpiryQueue", "remove", "(Lcom/example/keys_to_structures/keystostructures/store/TimedEntry;)V"⟩ : MethodName) (head1 (Jvm.Cond.code (⟨"com/example/keys_to_structures/keystostructures/store/ExpiryQueue", "remove", "(Lcom/example/keys_to_structures/keystostructures/store/TimedEntry;)V"⟩ : MethodName) prog_43_method_4_code 4 none :: ws) ({ frames := 3, cells := 0, slots := 0, locals := 43 } : Room)) (fun a U => a = #[(.ref a0), (.ref x0)] ∧ Z.Warmed39 U.vm ∧ U.heap = h0) (fun _ _ _ _ _ => True) (fun _ U o U' => ∃ v L, o = .returned v ∧ QRm20 Z a0 hp kA v2 x0 dx0 x1 dx1 h0 n0 v U'.heap L ∧ FrameEnd U o U' L ({ frames := 3, cells := 0, slots := 0, locals := 43 } : Room).cells ({ frames := 3, cells := 0, slots := 0, locals := 43 } : Room).slots) := by
  refine MetFree.of_bodySF (plainFor_of_name pn_4) hisR ?_
  intro p e s m args below meth c s₁ Bd hml0 hP hK
  obtain ⟨rfl, hZ, hh⟩ := hP
  have hx := Bd.exec
  have hby := Bd.bytes
  have hml : c.maxLocals = 4 := hml0
  have hown : s.vm.findClass "com/example/keys_to_structures/keystostructures/store/ExpiryQueue" = some m.cls := findClass_of_methodNamed Bd.named
  have hnm := (name_of_methodNamed Bd.named Bd.method).1
  have X0 : Stand p l e ({ frames := 3, cells := 0, slots := 0, locals := 43 } : Room) s m #[(.ref a0), (.ref x0)] below meth c s₁ [] 0 0 := Stand.of_body Bd
  have e0 : s₁.heap = h0 := by rw [← hh, Bd.state]; rfl
  have N0 := Fr.nil n0
  have Kp := Keep.refl h0 [a0, hp, x0, x1]
  show Run p e below (Ends s (QRm20 Z a0 hp kA v2 x0 dx0 x1 dx1 h0 n0) ({ frames := 3, cells := 0, slots := 0, locals := 43 } : Room).cells ({ frames := 3, cells := 0, slots := 0, locals := 43 } : Room).slots) _
  refine Run.st (S' := s₁.setTop (mkF m 0 #[.val (.ref a0), .val (.ref x0), .unset, .unset] [])) (fun t k => castTop (ef_Rm20 m a0 x0) k) ?_
  refine Run.st (S' := s₁.setTop (mkF m 1 #[.val (.ref a0), .val (.ref x0), .unset, .unset] [(.ref x0)])) (fun _ k => XS.aloadN X0.here hx rfl (hb hby d14_0) rfl rfl k) ?_
  obtain ⟨cq1, kq1, q1a, q1b, q1c⟩ := isOf hZ e0 E_x0
  obtain ⟨_, _, ⟨T1, L1, k1, n1⟩, -, X1, ⟨Lc1, hQ1, l1, y1, z1⟩, st1⟩ := X0.virtualBack hx (y := (⟨"com/example/keys_to_structures/keystostructures/store/TimedEntry", "position", "()I"⟩ : MethodName)) (z := (⟨"com/example/keys_to_structures/keystostructures/store/TimedEntry", "position", "()I"⟩ : MethodName)) hown (mvT hZ (hw _ (List.mem_of_getElem? (i := 85) rfl))) (mvT hZ (hw _ (List.mem_of_getElem? (i := 86) rfl))) (notFace_of_selects (args := #[]) (mvT hZ (hw _ (List.mem_of_getElem? (i := 88) rfl)))) (mvT hZ (hw _ (List.mem_of_getElem? (i := 88) rfl))) (mvT hZ (hw _ (List.mem_of_getElem? (i := 87) rfl))) (by decide) (backOf (W := 0) (rmPo l Z aV hw [] x0 (0 : Int32) h0 n0 Zn F_p_x0) hZ (hw _ (List.mem_of_getElem? (i := 89) rfl)) (hw _ (List.mem_of_getElem? (i := 2) rfl)) (by decide) (by decide)) q1a q1c (g := (mkF m 1 #[.val (.ref a0), .val (.ref x0), .unset, .unset] [(.ref x0)])) rfl (by rw [hml]; rfl) (Steps.refl _) (argsL := []) (rest := []) (lenOf pd_5 rfl) rfl (by show 2 * 0 + _ ≤ _; exact Nat.le_of_eq rfl) (hb hby d14_1) (fun _ _ => ⟨rfl, e0, (by decide : 0 + 0 ≤ _), (by decide : 0 + 0 ≤ _)⟩)
  dsimp only [Pt.U, Pt.locs, Pt.cells, Pt.slots] at X1 l1 y1 z1 st1 hQ1
  subst l1 y1 z1
  obtain ⟨rfl, N1q, e1⟩ := hQ1
  have N1 := Fr.app N0 N1q
  refine Run.st (S' := T1.setTop (mkF m 7 #[.val (.ref a0), .val (.ref x0), .val (.int (0 : Int32)), .unset] [(.ref a0), (.ref a0)])) (fun _ k => st1.trans (XS.istoreN X1.here hx rfl (hb hby d14_4) rfl (l' := #[.val (.ref a0), .val (.ref x0), .val (.int (0 : Int32)), .unset]) rfl (XS.aloadN X1.here hx rfl (hb hby d14_5) rfl rfl (XS.dup X1.here hx rfl (hb hby d14_6) rfl rfl k)))) ?_
  obtain ⟨T2, X2, e2, st2⟩ := getF X1 hx hZ hown (host := "") (Or.inl (hw _ (List.mem_of_getElem? (i := 46) rfl))) Via.refl e1 F_size (g := (mkF m 7 #[.val (.ref a0), .val (.ref x0), .val (.int (0 : Int32)), .unset] [(.ref a0), (.ref a0)])) rfl rfl (hb hby d14_7)
  refine Run.st (S' := T2.setTop (mkF m 12 #[.val (.ref a0), .val (.ref x0), .val (.int (0 : Int32)), .unset] [(.int (1 : Int32)), (.ref a0)])) (fun _ k => st2 _ (XS.iconst X2.here hx rfl (hb hby d14_10) (XS.isub X2.here hx rfl (hb hby d14_11) rfl k))) ?_
  obtain ⟨T3, h3, X3, e3, W3, st3⟩ := putF X2 hx hZ hown (host := "") (Or.inl (hw _ (List.mem_of_getElem? (i := 46) rfl))) Via.refl e2 F_size E_a0 (Or.inl (hw _ (List.mem_of_getElem? (i := 47) rfl))) (hw _ (List.mem_of_getElem? (i := 31) rfl)) (ty := .int) (by decide) rfl rfl (g := (mkF m 12 #[.val (.ref a0), .val (.ref x0), .val (.int (0 : Int32)), .unset] [(.int (1 : Int32)), (.ref a0)])) rfl rfl (hb hby d14_12)
  have F_size := F_size.same W3
  have E_a0 := E_a0.wr W3
  have F_heap := F_heap.other W3 (Or.inr (slot_ne (Or.inl (hw _ (List.mem_of_getElem? (i := 40) rfl))) (Or.inl (hw _ (List.mem_of_getElem? (i := 47) rfl))) (by decide) (t := (.array (.object "com/example/keys_to_structures/keystostructures/store/TimedEntry"))) (t' := .int) (by decide) (by decide)))
  have V_hp := V_hp.other W3 (Ne.symm ne_a0__hp)
  have E_x0 := E_x0.wr W3
  have F_d_x0 := F_d_x0.other W3 (Or.inl (Ne.symm ne_a0__x0))
  have F_p_x0 := F_p_x0.other W3 (Or.inl (Ne.symm ne_a0__x0))
  have E_x1 := E_x1.wr W3
  have F_d_x1 := F_d_x1.other W3 (Or.inl (Ne.symm ne_a0__x1))
  have F_p_x1 := F_p_x1.other W3 (Or.inl (Ne.symm ne_a0__x1))
  have N3 := Fr.snoc X3 N1 g_a0
  have Kp := Kp.wr W3 (Or.inl (by simp))
  have Zn := Nat.le_trans Zn (Nat.le_of_eq W3.size.symm)
  refine Run.st (S' := T3.setTop (mkF m 16 #[.val (.ref a0), .val (.ref x0), .val (.int (0 : Int32)), .unset] [(.ref a0)])) (fun _ k => st3 _ (XS.aloadN X3.here hx rfl (hb hby d14_15) rfl rfl k)) ?_
  obtain ⟨T4, X4, e4, st4⟩ := getF X3 hx hZ hown (host := "") (Or.inl (hw _ (List.mem_of_getElem? (i := 39) rfl))) Via.refl e3 F_heap (g := (mkF m 16 #[.val (.ref a0), .val (.ref x0), .val (.int (0 : Int32)), .unset] [(.ref a0)])) rfl rfl (hb hby d14_16)
  refine Run.st (S' := T4.setTop (mkF m 20 #[.val (.ref a0), .val (.ref x0), .val (.int (0 : Int32)), .unset] [(.ref a0), (.ref hp)])) (fun _ k => st4 _ (XS.aloadN X4.here hx rfl (hb hby d14_19) rfl rfl k)) ?_
  obtain ⟨T5, X5, e5, st5⟩ := getF X4 hx hZ hown (host := "") (Or.inl (hw _ (List.mem_of_getElem? (i := 46) rfl))) Via.refl e4 F_size (g := (mkF m 20 #[.val (.ref a0), .val (.ref x0), .val (.int (0 : Int32)), .unset] [(.ref a0), (.ref hp)])) rfl rfl (hb hby d14_20)
  refine Run.st (S' := T5.setTop (mkF m 23 #[.val (.ref a0), .val (.ref x0), .val (.int (0 : Int32)), .unset] [(.int (1 : Int32)), (.ref hp)])) (fun _ k => st5 _ k) ?_
  obtain ⟨cl6, Ar6, qa6, Sa6, Na6, Ha6, Ga6⟩ := id V_hp
  have hin6 : ¬ ((1 : Int32) < 0 ∨ cl6.slots.size ≤ ((1 : Int32)).toNatClampNeg) := inb_of Sa6 ⟨by decide, by decide⟩
  have hat6 : cl6.slots[((1 : Int32)).toNatClampNeg]? = some (.ref x1) := Has.at Ha6 hin6 rfl
  refine Run.st (S' := T5.setTop (mkF m 26 #[.val (.ref a0), .val (.ref x0), .val (.int (0 : Int32)), .val (.ref x1)] [(.ref a0)])) (fun _ k => X5.aaload hx (j := (1 : Int32)) (v := (.ref x1)) (by rw [e5]; exact Ar6.1) (State.isArrayOf_alike hZ.alike Ar6.2.1) rfl Ar6.2.2 hin6 hat6 (g := (mkF m 23 #[.val (.ref a0), .val (.ref x0), .val (.int (0 : Int32)), .unset] [(.int (1 : Int32)), (.ref hp)])) rfl rfl (hb hby d14_23) _ (XS.astoreN X5.here hx rfl (hb hby d14_24) rfl rfl (l' := #[.val (.ref a0), .val (.ref x0), .val (.int (0 : Int32)), .val (.ref x1)]) rfl (XS.aloadN X5.here hx rfl (hb hby d14_25) rfl rfl k))) ?_
  obtain ⟨T7, X7, e7, st7⟩ := getF X5 hx hZ hown (host := "") (Or.inl (hw _ (List.mem_of_getElem? (i := 39) rfl))) Via.refl e5 F_heap (g := (mkF m 26 #[.val (.ref a0), .val (.ref x0), .val (.int (0 : Int32)), .val (.ref x1)] [(.ref a0)])) rfl rfl (hb hby d14_26)
  refine Run.st (S' := T7.setTop (mkF m 30 #[.val (.ref a0), .val (.ref x0), .val (.int (0 : Int32)), .val (.ref x1)] [(.ref a0), (.ref hp)])) (fun _ k => st7 _ (XS.aloadN X7.here hx rfl (hb hby d14_29) rfl rfl k)) ?_
  obtain ⟨T8, X8, e8, st8⟩ := getF X7 hx hZ hown (host := "") (Or.inl (hw _ (List.mem_of_getElem? (i := 46) rfl))) Via.refl e7 F_size (g := (mkF m 30 #[.val (.ref a0), .val (.ref x0), .val (.int (0 : Int32)), .val (.ref x1)] [(.ref a0), (.ref hp)])) rfl rfl (hb hby d14_30)
  refine Run.st (S' := T8.setTop (mkF m 34 #[.val (.ref a0), .val (.ref x0), .val (.int (0 : Int32)), .val (.ref x1)] [.null, (.int (1 : Int32)), (.ref hp)])) (fun _ k => st8 _ (XS.aconstNull X8.here hx rfl (hb hby d14_33) k)) ?_
  obtain ⟨cl9, Ar9, qa9, Sa9, Na9, Ha9, Ga9⟩ := V_hp
  have hin9 : ¬ ((1 : Int32) < 0 ∨ cl9.slots.size ≤ ((1 : Int32)).toNatClampNeg) := inb_of Sa9 ⟨by decide, by decide⟩
  obtain ⟨T9, h9, X9, e9, W9, st9⟩ := stR X8 hx hZ e8 Ar9 (j := (1 : Int32)) hin9 rfl (Or.inl rfl) (g := (mkF m 34 #[.val (.ref a0), .val (.ref x0), .val (.int (0 : Int32)), .val (.ref x1)] [.null, (.int (1 : Int32)), (.ref hp)])) rfl rfl (hb hby d14_34)
  have V_hp := Arv.set Ar9 qa9 Sa9 Na9 Ha9 Ga9 rfl W9 1 rfl (Nat.le_of_ble_eq_true rfl)
  have V_hp : Arv Z h9 hp kA (.object "com/example/keys_to_structures/keystostructures/store/TimedEntry") (16 : Int32) [(.ref x0), .null, v2, .null, .null, .null, .null, .null, .null, .null, .null, .null, .null, .null, .null, .null] .null := V_hp
  have E_a0 := E_a0.wr W9
  have F_heap := F_heap.other W9 (Or.inl ne_a0__hp)
  have F_size := F_size.other W9 (Or.inl ne_a0__hp)
  have E_x0 := E_x0.wr W9
  have F_d_x0 := F_d_x0.other W9 (Or.inl (Ne.symm ne_hp__x0))
  have F_p_x0 := F_p_x0.other W9 (Or.inl (Ne.symm ne_hp__x0))
  have E_x1 := E_x1.wr W9
  have F_d_x1 := F_d_x1.other W9 (Or.inl (Ne.symm ne_hp__x1))
  have F_p_x1 := F_p_x1.other W9 (Or.inl (Ne.symm ne_hp__x1))
  have N9 := Fr.snoc X9 N3 g_hp
  have Kp := Kp.wr W9 (Or.inl (by simp))
  have Zn := Nat.le_trans Zn (Nat.le_of_eq W9.size.symm)
  refine Run.st (S' := T9.setTop (mkF m 37 #[.val (.ref a0), .val (.ref x0), .val (.int (0 : Int32)), .val (.ref x1)] [(.ref a0), (.int (0 : Int32))])) (fun _ k => st9 _ (XS.iloadN X9.here hx rfl (hb hby d14_35) rfl (XS.aloadN X9.here hx rfl (hb hby d14_36) rfl rfl k))) ?_
  obtain ⟨T10, X10, e10, st10⟩ := getF X9 hx hZ hown (host := "") (Or.inl (hw _ (List.mem_of_getElem? (i := 46) rfl))) Via.refl e9 F_size (g := (mkF m 37 #[.val (.ref a0), .val (.ref x0), .val (.int (0 : Int32)), .val (.ref x1)] [(.ref a0), (.int (0 : Int32))])) rfl rfl (hb hby d14_37)
  refine Run.st (S' := T10.setTop (mkF m 46 #[.val (.ref a0), .val (.ref x0), .val (.int (0 : Int32)), .val (.ref x1)] [(.int (0 : Int32)), (.ref x1), (.ref a0)])) (fun _ k => st10 _ (XS.icmpNo X10.here hx rfl (hb hby d14_40) rfl (tlt (show (0 : Int32) < (1 : Int32) from (by decide))).2.1 (XS.aloadN X10.here hx rfl (hb hby d14_43) rfl rfl (XS.aloadN X10.here hx rfl (hb hby d14_44) rfl rfl (XS.iloadN X10.here hx rfl (hb hby d14_45) rfl k))))) ?_
  obtain ⟨cq11, q11, q11'⟩ := E_a0.cell
  obtain ⟨_, _, ⟨T11, L11, k11, n11⟩, -, X11, ⟨Lc11, hQ11, l11, y11, z11⟩, st11⟩ := X10.privateBack hx (y := (⟨"com/example/keys_to_structures/keystostructures/store/ExpiryQueue", "moveDown", "(Lcom/example/keys_to_structures/keystostructures/store/TimedEntry;I)V"⟩ : MethodName)) hown (mvT hZ (hw _ (List.mem_of_getElem? (i := 90) rfl))) (mvT hZ (hw _ (List.mem_of_getElem? (i := 91) rfl))) (selSelf (y := (⟨"com/example/keys_to_structures/keystostructures/store/ExpiryQueue", "moveDown", "(Lcom/example/keys_to_structures/keystostructures/store/TimedEntry;I)V"⟩ : MethodName)) (mvT hZ (hw _ (List.mem_of_getElem? (i := 31) rfl))) (Cond.privateMethod_at (mvP hZ (hw _ (List.mem_of_getElem? (i := 92) rfl)) (args := #[]))) (mvT hZ (hw _ (List.mem_of_getElem? (i := 91) rfl))) (by decide)) (Cond.privateMethod_at (mvP hZ (hw _ (List.mem_of_getElem? (i := 92) rfl)) (args := #[]))) (mvT hZ (hw _ (List.mem_of_getElem? (i := 93) rfl))) (by decide) (backOf (W := 0) (rmMdA1 l Z aV hw [] a0 x1 hp kA (.ref x0) .null v2 dx1 (1 : Int32) h9 n0 Zn g_hp O_kA g_x1 E_a0 F_heap F_size V_hp E_x1 F_d_x1 F_p_x1 ne_a0__hp ne_a0__x1 ne_hp__x1) hZ (hw _ (List.mem_of_getElem? (i := 93) rfl)) (hw _ (List.mem_of_getElem? (i := 32) rfl)) (by decide) (by decide)) (g := (mkF m 46 #[.val (.ref a0), .val (.ref x0), .val (.int (0 : Int32)), .val (.ref x1)] [(.int (0 : Int32)), (.ref x1), (.ref a0)])) rfl (by rw [hml]; rfl) (Steps.refl _) (a := a0) (by rw [e10]; exact q11) q11' (argsL := [(.ref x1), (.int (0 : Int32))]) (rest := []) (lenOf pd_3 rfl) rfl (by show 2 * 0 + _ ≤ _; exact Nat.le_of_eq rfl) (hb hby d14_46) (fun _ _ => ⟨rfl, e10, (by decide : 0 + 0 ≤ _), (by decide : 0 + 0 ≤ _)⟩)
  dsimp only [Pt.U, Pt.locs, Pt.cells, Pt.slots] at X11 l11 y11 z11 st11 hQ11
  subst l11 y11 z11
  obtain ⟨rfl, N11q, K11, q11_0, q11_1, q11_2, q11_3⟩ := hQ11
  have E_a0 := E_a0.keep K11
  have F_heap := F_heap.keep K11 (ninS ne_a0__hp (ninS ne_a0__x1 nin0))
  have F_size := F_size.keep K11 (ninS ne_a0__hp (ninS ne_a0__x1 nin0))
  have E_x0 := E_x0.keep K11
  have F_d_x0 := F_d_x0.keep K11 (ninS (Ne.symm ne_hp__x0) (ninS ne_x0__x1 nin0))
  have F_p_x0 := F_p_x0.keep K11 (ninS (Ne.symm ne_hp__x0) (ninS ne_x0__x1 nin0))
  have V_hp := q11_0
  have E_x1 := q11_1
  have F_d_x1 := q11_2
  have F_p_x1 := q11_3
  have Kp := Kp.trans K11 (allS (Or.inl (by simp)) (allS (Or.inl (by simp)) all0))
  have Zn := Nat.le_trans Zn K11.1
  have N11 := Fr.app N9 N11q
  refine Run.st (S' := T11.setTop (mkF m 51 #[.val (.ref a0), .val (.ref x0), .val (.int (0 : Int32)), .val (.ref x1)] [(.ref a0), (.ref a0)])) (fun _ k => st11.trans (XS.aloadN X11.here hx rfl (hb hby d14_49) rfl rfl (XS.aloadN X11.here hx rfl (hb hby d14_50) rfl rfl k))) ?_
  obtain ⟨T12, X12, e12, st12⟩ := getF X11 hx hZ hown (host := "") (Or.inl (hw _ (List.mem_of_getElem? (i := 39) rfl))) Via.refl rfl F_heap (g := (mkF m 51 #[.val (.ref a0), .val (.ref x0), .val (.int (0 : Int32)), .val (.ref x1)] [(.ref a0), (.ref a0)])) rfl rfl (hb hby d14_51)
  refine Run.st (S' := T12.setTop (mkF m 55 #[.val (.ref a0), .val (.ref x0), .val (.int (0 : Int32)), .val (.ref x1)] [(.int (0 : Int32)), (.ref hp), (.ref a0)])) (fun _ k => st12 _ (XS.iloadN X12.here hx rfl (hb hby d14_54) rfl k)) ?_
  obtain ⟨cl13, Ar13, qa13, Sa13, Na13, Ha13, Ga13⟩ := id V_hp
  have hin13 : ¬ ((0 : Int32) < 0 ∨ cl13.slots.size ≤ ((0 : Int32)).toNatClampNeg) := inb_of Sa13 ⟨by decide, by decide⟩
  have hat13 : cl13.slots[((0 : Int32)).toNatClampNeg]? = some (.ref x1) := Has.at Ha13 hin13 rfl
  refine Run.st (S' := T12.setTop (mkF m 57 #[.val (.ref a0), .val (.ref x0), .val (.int (0 : Int32)), .val (.ref x1)] [(.int (0 : Int32)), (.ref x1), (.ref a0)])) (fun _ k => X12.aaload hx (j := (0 : Int32)) (v := (.ref x1)) (by rw [e12]; exact Ar13.1) (State.isArrayOf_alike hZ.alike Ar13.2.1) rfl Ar13.2.2 hin13 hat13 (g := (mkF m 55 #[.val (.ref a0), .val (.ref x0), .val (.int (0 : Int32)), .val (.ref x1)] [(.int (0 : Int32)), (.ref hp), (.ref a0)])) rfl rfl (hb hby d14_55) _ (XS.iloadN X12.here hx rfl (hb hby d14_56) rfl k)) ?_
  obtain ⟨cq14, q14, q14'⟩ := E_a0.cell
  obtain ⟨_, _, ⟨T14, L14, k14, n14⟩, -, X14, ⟨Lc14, hQ14, l14, y14, z14⟩, st14⟩ := X12.privateBack hx (y := (⟨"com/example/keys_to_structures/keystostructures/store/ExpiryQueue", "moveUp", "(Lcom/example/keys_to_structures/keystostructures/store/TimedEntry;I)V"⟩ : MethodName)) hown (mvT hZ (hw _ (List.mem_of_getElem? (i := 48) rfl))) (mvT hZ (hw _ (List.mem_of_getElem? (i := 49) rfl))) (selSelf (y := (⟨"com/example/keys_to_structures/keystostructures/store/ExpiryQueue", "moveUp", "(Lcom/example/keys_to_structures/keystostructures/store/TimedEntry;I)V"⟩ : MethodName)) (mvT hZ (hw _ (List.mem_of_getElem? (i := 31) rfl))) (Cond.privateMethod_at (mvP hZ (hw _ (List.mem_of_getElem? (i := 50) rfl)) (args := #[]))) (mvT hZ (hw _ (List.mem_of_getElem? (i := 49) rfl))) (by decide)) (Cond.privateMethod_at (mvP hZ (hw _ (List.mem_of_getElem? (i := 50) rfl)) (args := #[]))) (mvT hZ (hw _ (List.mem_of_getElem? (i := 51) rfl))) (by decide) (backOf (W := 0) (rmMu0 l Z aV hw [] a0 x1 hp kA (.ref x1) .null v2 dx1 (0 : Int32) T11.heap n0 Zn g_hp O_kA g_x1 E_a0 F_heap V_hp E_x1 F_d_x1 F_p_x1 ne_a0__hp ne_a0__x1 ne_hp__x1) hZ (hw _ (List.mem_of_getElem? (i := 51) rfl)) (hw _ (List.mem_of_getElem? (i := 32) rfl)) (by decide) (by decide)) (g := (mkF m 57 #[.val (.ref a0), .val (.ref x0), .val (.int (0 : Int32)), .val (.ref x1)] [(.int (0 : Int32)), (.ref x1), (.ref a0)])) rfl (by rw [hml]; rfl) (Steps.refl _) (a := a0) (by rw [e12]; exact q14) q14' (argsL := [(.ref x1), (.int (0 : Int32))]) (rest := []) (lenOf pd_3 rfl) rfl (by show 2 * 0 + _ ≤ _; exact Nat.le_of_eq rfl) (hb hby d14_57) (fun _ _ => ⟨rfl, e12, (by decide : 0 + 0 ≤ _), (by decide : 0 + 0 ≤ _)⟩)
  dsimp only [Pt.U, Pt.locs, Pt.cells, Pt.slots] at X14 l14 y14 z14 st14 hQ14
  subst l14 y14 z14
  obtain ⟨rfl, N14q, K14, q14_0, q14_1, q14_2, q14_3⟩ := hQ14
  have E_a0 := E_a0.keep K14
  have F_heap := F_heap.keep K14 (ninS ne_a0__hp (ninS ne_a0__x1 nin0))
  have F_size := F_size.keep K14 (ninS ne_a0__hp (ninS ne_a0__x1 nin0))
  have E_x0 := E_x0.keep K14
  have F_d_x0 := F_d_x0.keep K14 (ninS (Ne.symm ne_hp__x0) (ninS ne_x0__x1 nin0))
  have F_p_x0 := F_p_x0.keep K14 (ninS (Ne.symm ne_hp__x0) (ninS ne_x0__x1 nin0))
  have V_hp := q14_0
  have E_x1 := q14_1
  have F_d_x1 := q14_2
  have F_p_x1 := q14_3
  have Kp := Kp.trans K14 (allS (Or.inl (by simp)) (allS (Or.inl (by simp)) all0))
  have Zn := Nat.le_trans Zn K14.1
  have N14 := Fr.app N11 N14q
  refine Run.st (S' := T14.setTop (mkF m 61 #[.val (.ref a0), .val (.ref x0), .val (.int (0 : Int32)), .val (.ref x1)] [(.ref a0)])) (fun _ k => st14.trans (XS.aloadN X14.here hx rfl (hb hby d14_60) rfl rfl k)) ?_
  obtain ⟨T15, X15, e15, st15⟩ := getF X14 hx hZ hown (host := "") (Or.inl (hw _ (List.mem_of_getElem? (i := 46) rfl))) Via.refl rfl F_size (g := (mkF m 61 #[.val (.ref a0), .val (.ref x0), .val (.int (0 : Int32)), .val (.ref x1)] [(.ref a0)])) rfl rfl (hb hby d14_61)
  refine Run.st (S' := T15.setTop (mkF m 65 #[.val (.ref a0), .val (.ref x0), .val (.int (0 : Int32)), .val (.ref x1)] [(.ref a0), (.int (1 : Int32))])) (fun _ k => st15 _ (XS.aloadN X15.here hx rfl (hb hby d14_64) rfl rfl k)) ?_
  obtain ⟨T16, X16, e16, st16⟩ := getF X15 hx hZ hown (host := "") (Or.inl (hw _ (List.mem_of_getElem? (i := 39) rfl))) Via.refl e15 F_heap (g := (mkF m 65 #[.val (.ref a0), .val (.ref x0), .val (.int (0 : Int32)), .val (.ref x1)] [(.ref a0), (.int (1 : Int32))])) rfl rfl (hb hby d14_65)
  refine Run.st (S' := T16.setTop (mkF m 68 #[.val (.ref a0), .val (.ref x0), .val (.int (0 : Int32)), .val (.ref x1)] [(.ref hp), (.int (1 : Int32))])) (fun _ k => st16 _ k) ?_
  obtain ⟨cl17, Ar17, -, Sa17, Na17, -, -⟩ := id V_hp
  refine Run.st (S' := T16.setTop (mkF m 69 #[.val (.ref a0), .val (.ref x0), .val (.int (0 : Int32)), .val (.ref x1)] [(.int (16 : Int32)), (.int (1 : Int32))])) (fun _ k => X16.arraylength hx (by rw [e16]; exact Ar17.1) (State.isArrayOf_alike hZ.alike Ar17.2.1) (g := (mkF m 68 #[.val (.ref a0), .val (.ref x0), .val (.int (0 : Int32)), .val (.ref x1)] [(.ref hp), (.int (1 : Int32))])) rfl rfl (hb hby d14_68) _ (by rw [len_of Sa17 Na17]; exact k)) ?_
  refine Run.st (S' := T16.setTop (mkF m 75 #[.val (.ref a0), .val (.ref x0), .val (.int (0 : Int32)), .val (.ref x1)] [(.ref a0)])) (fun _ k => XS.iconst X16.here hx rfl (hb hby d14_69) (XS.idiv X16.here hx rfl (hb hby d14_70) rfl (by decide) (XS.icmpNo X16.here hx rfl (hb hby d14_71) rfl (tlt (show (1 : Int32) < (4 : Int32) from (by decide))).2.1 (XS.aloadN X16.here hx rfl (hb hby d14_74) rfl rfl k)))) ?_
  obtain ⟨T18, X18, e18, st18⟩ := getF X16 hx hZ hown (host := "") (Or.inl (hw _ (List.mem_of_getElem? (i := 39) rfl))) Via.refl e16 F_heap (g := (mkF m 75 #[.val (.ref a0), .val (.ref x0), .val (.int (0 : Int32)), .val (.ref x1)] [(.ref a0)])) rfl rfl (hb hby d14_75)
  refine Run.st (S' := T18.setTop (mkF m 78 #[.val (.ref a0), .val (.ref x0), .val (.int (0 : Int32)), .val (.ref x1)] [(.ref hp)])) (fun _ k => st18 _ k) ?_
  obtain ⟨cl19, Ar19, -, Sa19, Na19, -, -⟩ := id V_hp
  refine Run.st (S' := T18.setTop (mkF m 79 #[.val (.ref a0), .val (.ref x0), .val (.int (0 : Int32)), .val (.ref x1)] [(.int (16 : Int32))])) (fun _ k => X18.arraylength hx (by rw [e18]; exact Ar19.1) (State.isArrayOf_alike hZ.alike Ar19.2.1) (g := (mkF m 78 #[.val (.ref a0), .val (.ref x0), .val (.int (0 : Int32)), .val (.ref x1)] [(.ref hp)])) rfl rfl (hb hby d14_78) _ (by rw [len_of Sa19 Na19]; exact k)) ?_
  refine Run.st (S' := T18.setTop (mkF m 95 #[.val (.ref a0), .val (.ref x0), .val (.int (0 : Int32)), .val (.ref x1)] [])) (fun _ k => XS.bipush X18.here hx rfl (hb hby d14_79) (XS.icmpYes X18.here hx rfl (pc0 := 81) (pc' := 95) rfl (hb hby d14_81) rfl (flt (show ¬ ((16 : Int32) < (16 : Int32)) from (by decide))).2.2.2 (by decide) (by decide) k)) ?_
  refine Run.outV X18 hx Bd.notSynchronized Bd.returns (hb hby d14_95) (by decide) (by decide) ?_
  rw [e18]
  exact ⟨rfl, N14, Kp, E_a0, F_heap, F_size, V_hp, E_x0, F_d_x0, F_p_x0, E_x1, F_d_x1, F_p_x1⟩
theorem ef_Rm21 (m : MethodId) (a0 : Addr) (x1 : Addr) : entryFrame m #[(.ref a0), (.ref x1)] 4 = mkF m 0 #[.val (.ref a0), .val (.ref x1), .unset, .unset] [] := by first | (simp [entryFrame, mkF, argsToLocals, Value.category]; done) | rfl
def QRm21 (Z : State) (a0 : Addr) (hp : Addr) (kA : ClassId) (v2 : Value) (x0 : Addr) (dx0 : Int64) (x1 : Addr) (dx1 : Int64) (h0 : Heap) (n0 : Nat) (v : Option Value) (h : Heap) (L : List Loc) : Prop := v = none ∧ Fr n0 L ∧ Keep h0 h [a0, hp, x0, x1] ∧ Exa Z h a0 "com/example/keys_to_structures/keystostructures/store/ExpiryQueue" ∧ Fld Z h a0 "com/example/keys_to_structures/keystostructures/store/ExpiryQueue" "heap" "[Lcom/example/keys_to_structures/keystostructures/store/TimedEntry;" (.ref hp) ∧ Fld Z h a0 "com/example/keys_to_structures/keystostructures/store/ExpiryQueue" "size" "I" (.int (1 : Int32)) ∧ Arv Z h hp kA (.object "com/example/keys_to_structures/keystostructures/store/TimedEntry") (16 : Int32) [(.ref x0), .null, v2, .null, .null, .null, .null, .null, .null, .null, .null, .null, .null, .null, .null, .null] .null ∧ Exa Z h x0 "com/example/keys_to_structures/keystostructures/store/TimedEntry" ∧ Fld Z h x0 "com/example/keys_to_structures/keystostructures/store/TimedEntry" "deadline" "J" (.long dx0) ∧ Fld Z h x0 "com/example/keys_to_structures/keystostructures/store/TimedEntry" "position" "I" (.int (0 : Int32)) ∧ Exa Z h x1 "com/example/keys_to_structures/keystostructures/store/TimedEntry" ∧ Fld Z h x1 "com/example/keys_to_structures/keystostructures/store/TimedEntry" "deadline" "J" (.long dx1) ∧ Fld Z h x1 "com/example/keys_to_structures/keystostructures/store/TimedEntry" "position" "I" (.int (1 : Int32))
set_option maxRecDepth 65536 in
set_option maxHeartbeats 40000000 in
theorem rmRm21 (l : Launch) (Z : State) (aV : Array Value) (hw : ∀ d ∈ tables_1, d.before aV Z = true) (ws : List Jvm.Cond) (a0 : Addr) (hp : Addr) (kA : ClassId) (v2 : Value) (x0 : Addr) (dx0 : Int64) (x1 : Addr) (dx1 : Int64) (h0 : Heap) (n0 : Nat) (Zn : n0 ≤ h0.size) (g_a0 : n0 ≤ a0) (g_hp : n0 ≤ hp) (O_kA : Ovr Z kA "com/example/keys_to_structures/keystostructures/store/TimedEntry") (g_x0 : n0 ≤ x0) (g_x1 : n0 ≤ x1) (E_a0 : Exa Z h0 a0 "com/example/keys_to_structures/keystostructures/store/ExpiryQueue") (F_heap : Fld Z h0 a0 "com/example/keys_to_structures/keystostructures/store/ExpiryQueue" "heap" "[Lcom/example/keys_to_structures/keystostructures/store/TimedEntry;" (.ref hp)) (F_size : Fld Z h0 a0 "com/example/keys_to_structures/keystostructures/store/ExpiryQueue" "size" "I" (.int (2 : Int32))) (V_hp : Arv Z h0 hp kA (.object "com/example/keys_to_structures/keystostructures/store/TimedEntry") (16 : Int32) [(.ref x0), (.ref x1), v2, .null, .null, .null, .null, .null, .null, .null, .null, .null, .null, .null, .null, .null] .null) (E_x0 : Exa Z h0 x0 "com/example/keys_to_structures/keystostructures/store/TimedEntry") (F_d_x0 : Fld Z h0 x0 "com/example/keys_to_structures/keystostructures/store/TimedEntry" "deadline" "J" (.long dx0)) (F_p_x0 : Fld Z h0 x0 "com/example/keys_to_structures/keystostructures/store/TimedEntry" "position" "I" (.int (0 : Int32))) (E_x1 : Exa Z h0 x1 "com/example/keys_to_structures/keystostructures/store/TimedEntry") (F_d_x1 : Fld Z h0 x1 "com/example/keys_to_structures/keystostructures/store/TimedEntry" "deadline" "J" (.long dx1)) (F_p_x1 : Fld Z h0 x1 "com/example/keys_to_structures/keystostructures/store/TimedEntry" "position" "I" (.int (1 : Int32))) (ne_a0__hp : a0 ≠ hp) (ne_a0__x0 : a0 ≠ x0) (ne_a0__x1 : a0 ≠ x1) (ne_hp__x0 : hp ≠ x0) (ne_hp__x1 : hp ≠ x1) (ne_x0__x1 : x0 ≠ x1) :
    MetFree l (⟨"com/example/keys_to_structures/keystostructures/store/ExpiryQueue", "remove", "(Lcom/example/keys_to_structures/keystostructures/store/TimedEntry;)V"⟩ : MethodName) (head1 (Jvm.Cond.code (⟨"com/example/keys_to_structures/keystostructures/store/ExpiryQueue", "remove", "(Lcom/example/keys_to_structures/keystostructures/store/TimedEntry;)V"⟩ : MethodName) prog_43_method_4_code 4 none :: ws) ({ frames := 3, cells := 0, slots := 0, locals := 43 } : Room)) (fun a U => a = #[(.ref a0), (.ref x1)] ∧ Z.Warmed39 U.vm ∧ U.heap = h0) (fun _ _ _ _ _ => True) (fun _ U o U' => ∃ v L, o = .returned v ∧ QRm21 Z a0 hp kA v2 x0 dx0 x1 dx1 h0 n0 v U'.heap L ∧ FrameEnd U o U' L ({ frames := 3, cells := 0, slots := 0, locals := 43 } : Room).cells ({ frames := 3, cells := 0, slots := 0, locals := 43 } : Room).slots) := by
  refine MetFree.of_bodySF (plainFor_of_name pn_4) hisR ?_
  intro p e s m args below meth c s₁ Bd hml0 hP hK
  obtain ⟨rfl, hZ, hh⟩ := hP
  have hx := Bd.exec
  have hby := Bd.bytes
  have hml : c.maxLocals = 4 := hml0
  have hown : s.vm.findClass "com/example/keys_to_structures/keystostructures/store/ExpiryQueue" = some m.cls := findClass_of_methodNamed Bd.named
  have hnm := (name_of_methodNamed Bd.named Bd.method).1
  have X0 : Stand p l e ({ frames := 3, cells := 0, slots := 0, locals := 43 } : Room) s m #[(.ref a0), (.ref x1)] below meth c s₁ [] 0 0 := Stand.of_body Bd
  have e0 : s₁.heap = h0 := by rw [← hh, Bd.state]; rfl
  have N0 := Fr.nil n0
  have Kp := Keep.refl h0 [a0, hp, x0, x1]
  show Run p e below (Ends s (QRm21 Z a0 hp kA v2 x0 dx0 x1 dx1 h0 n0) ({ frames := 3, cells := 0, slots := 0, locals := 43 } : Room).cells ({ frames := 3, cells := 0, slots := 0, locals := 43 } : Room).slots) _
  refine Run.st (S' := s₁.setTop (mkF m 0 #[.val (.ref a0), .val (.ref x1), .unset, .unset] [])) (fun t k => castTop (ef_Rm21 m a0 x1) k) ?_
  refine Run.st (S' := s₁.setTop (mkF m 1 #[.val (.ref a0), .val (.ref x1), .unset, .unset] [(.ref x1)])) (fun _ k => XS.aloadN X0.here hx rfl (hb hby d14_0) rfl rfl k) ?_
  obtain ⟨cq1, kq1, q1a, q1b, q1c⟩ := isOf hZ e0 E_x1
  obtain ⟨_, _, ⟨T1, L1, k1, n1⟩, -, X1, ⟨Lc1, hQ1, l1, y1, z1⟩, st1⟩ := X0.virtualBack hx (y := (⟨"com/example/keys_to_structures/keystostructures/store/TimedEntry", "position", "()I"⟩ : MethodName)) (z := (⟨"com/example/keys_to_structures/keystostructures/store/TimedEntry", "position", "()I"⟩ : MethodName)) hown (mvT hZ (hw _ (List.mem_of_getElem? (i := 85) rfl))) (mvT hZ (hw _ (List.mem_of_getElem? (i := 86) rfl))) (notFace_of_selects (args := #[]) (mvT hZ (hw _ (List.mem_of_getElem? (i := 88) rfl)))) (mvT hZ (hw _ (List.mem_of_getElem? (i := 88) rfl))) (mvT hZ (hw _ (List.mem_of_getElem? (i := 87) rfl))) (by decide) (backOf (W := 0) (rmPo l Z aV hw [] x1 (1 : Int32) h0 n0 Zn F_p_x1) hZ (hw _ (List.mem_of_getElem? (i := 89) rfl)) (hw _ (List.mem_of_getElem? (i := 2) rfl)) (by decide) (by decide)) q1a q1c (g := (mkF m 1 #[.val (.ref a0), .val (.ref x1), .unset, .unset] [(.ref x1)])) rfl (by rw [hml]; rfl) (Steps.refl _) (argsL := []) (rest := []) (lenOf pd_5 rfl) rfl (by show 2 * 0 + _ ≤ _; exact Nat.le_of_eq rfl) (hb hby d14_1) (fun _ _ => ⟨rfl, e0, (by decide : 0 + 0 ≤ _), (by decide : 0 + 0 ≤ _)⟩)
  dsimp only [Pt.U, Pt.locs, Pt.cells, Pt.slots] at X1 l1 y1 z1 st1 hQ1
  subst l1 y1 z1
  obtain ⟨rfl, N1q, e1⟩ := hQ1
  have N1 := Fr.app N0 N1q
  refine Run.st (S' := T1.setTop (mkF m 7 #[.val (.ref a0), .val (.ref x1), .val (.int (1 : Int32)), .unset] [(.ref a0), (.ref a0)])) (fun _ k => st1.trans (XS.istoreN X1.here hx rfl (hb hby d14_4) rfl (l' := #[.val (.ref a0), .val (.ref x1), .val (.int (1 : Int32)), .unset]) rfl (XS.aloadN X1.here hx rfl (hb hby d14_5) rfl rfl (XS.dup X1.here hx rfl (hb hby d14_6) rfl rfl k)))) ?_
  obtain ⟨T2, X2, e2, st2⟩ := getF X1 hx hZ hown (host := "") (Or.inl (hw _ (List.mem_of_getElem? (i := 46) rfl))) Via.refl e1 F_size (g := (mkF m 7 #[.val (.ref a0), .val (.ref x1), .val (.int (1 : Int32)), .unset] [(.ref a0), (.ref a0)])) rfl rfl (hb hby d14_7)
  refine Run.st (S' := T2.setTop (mkF m 12 #[.val (.ref a0), .val (.ref x1), .val (.int (1 : Int32)), .unset] [(.int (1 : Int32)), (.ref a0)])) (fun _ k => st2 _ (XS.iconst X2.here hx rfl (hb hby d14_10) (XS.isub X2.here hx rfl (hb hby d14_11) rfl k))) ?_
  obtain ⟨T3, h3, X3, e3, W3, st3⟩ := putF X2 hx hZ hown (host := "") (Or.inl (hw _ (List.mem_of_getElem? (i := 46) rfl))) Via.refl e2 F_size E_a0 (Or.inl (hw _ (List.mem_of_getElem? (i := 47) rfl))) (hw _ (List.mem_of_getElem? (i := 31) rfl)) (ty := .int) (by decide) rfl rfl (g := (mkF m 12 #[.val (.ref a0), .val (.ref x1), .val (.int (1 : Int32)), .unset] [(.int (1 : Int32)), (.ref a0)])) rfl rfl (hb hby d14_12)
  have F_size := F_size.same W3
  have E_a0 := E_a0.wr W3
  have F_heap := F_heap.other W3 (Or.inr (slot_ne (Or.inl (hw _ (List.mem_of_getElem? (i := 40) rfl))) (Or.inl (hw _ (List.mem_of_getElem? (i := 47) rfl))) (by decide) (t := (.array (.object "com/example/keys_to_structures/keystostructures/store/TimedEntry"))) (t' := .int) (by decide) (by decide)))
  have V_hp := V_hp.other W3 (Ne.symm ne_a0__hp)
  have E_x0 := E_x0.wr W3
  have F_d_x0 := F_d_x0.other W3 (Or.inl (Ne.symm ne_a0__x0))
  have F_p_x0 := F_p_x0.other W3 (Or.inl (Ne.symm ne_a0__x0))
  have E_x1 := E_x1.wr W3
  have F_d_x1 := F_d_x1.other W3 (Or.inl (Ne.symm ne_a0__x1))
  have F_p_x1 := F_p_x1.other W3 (Or.inl (Ne.symm ne_a0__x1))
  have N3 := Fr.snoc X3 N1 g_a0
  have Kp := Kp.wr W3 (Or.inl (by simp))
  have Zn := Nat.le_trans Zn (Nat.le_of_eq W3.size.symm)
  refine Run.st (S' := T3.setTop (mkF m 16 #[.val (.ref a0), .val (.ref x1), .val (.int (1 : Int32)), .unset] [(.ref a0)])) (fun _ k => st3 _ (XS.aloadN X3.here hx rfl (hb hby d14_15) rfl rfl k)) ?_
  obtain ⟨T4, X4, e4, st4⟩ := getF X3 hx hZ hown (host := "") (Or.inl (hw _ (List.mem_of_getElem? (i := 39) rfl))) Via.refl e3 F_heap (g := (mkF m 16 #[.val (.ref a0), .val (.ref x1), .val (.int (1 : Int32)), .unset] [(.ref a0)])) rfl rfl (hb hby d14_16)
  refine Run.st (S' := T4.setTop (mkF m 20 #[.val (.ref a0), .val (.ref x1), .val (.int (1 : Int32)), .unset] [(.ref a0), (.ref hp)])) (fun _ k => st4 _ (XS.aloadN X4.here hx rfl (hb hby d14_19) rfl rfl k)) ?_
  obtain ⟨T5, X5, e5, st5⟩ := getF X4 hx hZ hown (host := "") (Or.inl (hw _ (List.mem_of_getElem? (i := 46) rfl))) Via.refl e4 F_size (g := (mkF m 20 #[.val (.ref a0), .val (.ref x1), .val (.int (1 : Int32)), .unset] [(.ref a0), (.ref hp)])) rfl rfl (hb hby d14_20)
  refine Run.st (S' := T5.setTop (mkF m 23 #[.val (.ref a0), .val (.ref x1), .val (.int (1 : Int32)), .unset] [(.int (1 : Int32)), (.ref hp)])) (fun _ k => st5 _ k) ?_
  obtain ⟨cl6, Ar6, qa6, Sa6, Na6, Ha6, Ga6⟩ := id V_hp
  have hin6 : ¬ ((1 : Int32) < 0 ∨ cl6.slots.size ≤ ((1 : Int32)).toNatClampNeg) := inb_of Sa6 ⟨by decide, by decide⟩
  have hat6 : cl6.slots[((1 : Int32)).toNatClampNeg]? = some (.ref x1) := Has.at Ha6 hin6 rfl
  refine Run.st (S' := T5.setTop (mkF m 26 #[.val (.ref a0), .val (.ref x1), .val (.int (1 : Int32)), .val (.ref x1)] [(.ref a0)])) (fun _ k => X5.aaload hx (j := (1 : Int32)) (v := (.ref x1)) (by rw [e5]; exact Ar6.1) (State.isArrayOf_alike hZ.alike Ar6.2.1) rfl Ar6.2.2 hin6 hat6 (g := (mkF m 23 #[.val (.ref a0), .val (.ref x1), .val (.int (1 : Int32)), .unset] [(.int (1 : Int32)), (.ref hp)])) rfl rfl (hb hby d14_23) _ (XS.astoreN X5.here hx rfl (hb hby d14_24) rfl rfl (l' := #[.val (.ref a0), .val (.ref x1), .val (.int (1 : Int32)), .val (.ref x1)]) rfl (XS.aloadN X5.here hx rfl (hb hby d14_25) rfl rfl k))) ?_
  obtain ⟨T7, X7, e7, st7⟩ := getF X5 hx hZ hown (host := "") (Or.inl (hw _ (List.mem_of_getElem? (i := 39) rfl))) Via.refl e5 F_heap (g := (mkF m 26 #[.val (.ref a0), .val (.ref x1), .val (.int (1 : Int32)), .val (.ref x1)] [(.ref a0)])) rfl rfl (hb hby d14_26)
  refine Run.st (S' := T7.setTop (mkF m 30 #[.val (.ref a0), .val (.ref x1), .val (.int (1 : Int32)), .val (.ref x1)] [(.ref a0), (.ref hp)])) (fun _ k => st7 _ (XS.aloadN X7.here hx rfl (hb hby d14_29) rfl rfl k)) ?_
  obtain ⟨T8, X8, e8, st8⟩ := getF X7 hx hZ hown (host := "") (Or.inl (hw _ (List.mem_of_getElem? (i := 46) rfl))) Via.refl e7 F_size (g := (mkF m 30 #[.val (.ref a0), .val (.ref x1), .val (.int (1 : Int32)), .val (.ref x1)] [(.ref a0), (.ref hp)])) rfl rfl (hb hby d14_30)
  refine Run.st (S' := T8.setTop (mkF m 34 #[.val (.ref a0), .val (.ref x1), .val (.int (1 : Int32)), .val (.ref x1)] [.null, (.int (1 : Int32)), (.ref hp)])) (fun _ k => st8 _ (XS.aconstNull X8.here hx rfl (hb hby d14_33) k)) ?_
  obtain ⟨cl9, Ar9, qa9, Sa9, Na9, Ha9, Ga9⟩ := V_hp
  have hin9 : ¬ ((1 : Int32) < 0 ∨ cl9.slots.size ≤ ((1 : Int32)).toNatClampNeg) := inb_of Sa9 ⟨by decide, by decide⟩
  obtain ⟨T9, h9, X9, e9, W9, st9⟩ := stR X8 hx hZ e8 Ar9 (j := (1 : Int32)) hin9 rfl (Or.inl rfl) (g := (mkF m 34 #[.val (.ref a0), .val (.ref x1), .val (.int (1 : Int32)), .val (.ref x1)] [.null, (.int (1 : Int32)), (.ref hp)])) rfl rfl (hb hby d14_34)
  have V_hp := Arv.set Ar9 qa9 Sa9 Na9 Ha9 Ga9 rfl W9 1 rfl (Nat.le_of_ble_eq_true rfl)
  have V_hp : Arv Z h9 hp kA (.object "com/example/keys_to_structures/keystostructures/store/TimedEntry") (16 : Int32) [(.ref x0), .null, v2, .null, .null, .null, .null, .null, .null, .null, .null, .null, .null, .null, .null, .null] .null := V_hp
  have E_a0 := E_a0.wr W9
  have F_heap := F_heap.other W9 (Or.inl ne_a0__hp)
  have F_size := F_size.other W9 (Or.inl ne_a0__hp)
  have E_x0 := E_x0.wr W9
  have F_d_x0 := F_d_x0.other W9 (Or.inl (Ne.symm ne_hp__x0))
  have F_p_x0 := F_p_x0.other W9 (Or.inl (Ne.symm ne_hp__x0))
  have E_x1 := E_x1.wr W9
  have F_d_x1 := F_d_x1.other W9 (Or.inl (Ne.symm ne_hp__x1))
  have F_p_x1 := F_p_x1.other W9 (Or.inl (Ne.symm ne_hp__x1))
  have N9 := Fr.snoc X9 N3 g_hp
  have Kp := Kp.wr W9 (Or.inl (by simp))
  have Zn := Nat.le_trans Zn (Nat.le_of_eq W9.size.symm)
  refine Run.st (S' := T9.setTop (mkF m 37 #[.val (.ref a0), .val (.ref x1), .val (.int (1 : Int32)), .val (.ref x1)] [(.ref a0), (.int (1 : Int32))])) (fun _ k => st9 _ (XS.iloadN X9.here hx rfl (hb hby d14_35) rfl (XS.aloadN X9.here hx rfl (hb hby d14_36) rfl rfl k))) ?_
  obtain ⟨T10, X10, e10, st10⟩ := getF X9 hx hZ hown (host := "") (Or.inl (hw _ (List.mem_of_getElem? (i := 46) rfl))) Via.refl e9 F_size (g := (mkF m 37 #[.val (.ref a0), .val (.ref x1), .val (.int (1 : Int32)), .val (.ref x1)] [(.ref a0), (.int (1 : Int32))])) rfl rfl (hb hby d14_37)
  refine Run.st (S' := T10.setTop (mkF m 61 #[.val (.ref a0), .val (.ref x1), .val (.int (1 : Int32)), .val (.ref x1)] [(.ref a0)])) (fun _ k => st10 _ (XS.icmpYes X10.here hx rfl (pc0 := 40) (pc' := 60) rfl (hb hby d14_40) rfl (flt (show ¬ ((1 : Int32) < (1 : Int32)) from (by decide))).2.1 (by decide) (by decide) (XS.aloadN X10.here hx rfl (hb hby d14_60) rfl rfl k))) ?_
  obtain ⟨T11, X11, e11, st11⟩ := getF X10 hx hZ hown (host := "") (Or.inl (hw _ (List.mem_of_getElem? (i := 46) rfl))) Via.refl e10 F_size (g := (mkF m 61 #[.val (.ref a0), .val (.ref x1), .val (.int (1 : Int32)), .val (.ref x1)] [(.ref a0)])) rfl rfl (hb hby d14_61)
  refine Run.st (S' := T11.setTop (mkF m 65 #[.val (.ref a0), .val (.ref x1), .val (.int (1 : Int32)), .val (.ref x1)] [(.ref a0), (.int (1 : Int32))])) (fun _ k => st11 _ (XS.aloadN X11.here hx rfl (hb hby d14_64) rfl rfl k)) ?_
  obtain ⟨T12, X12, e12, st12⟩ := getF X11 hx hZ hown (host := "") (Or.inl (hw _ (List.mem_of_getElem? (i := 39) rfl))) Via.refl e11 F_heap (g := (mkF m 65 #[.val (.ref a0), .val (.ref x1), .val (.int (1 : Int32)), .val (.ref x1)] [(.ref a0), (.int (1 : Int32))])) rfl rfl (hb hby d14_65)
  refine Run.st (S' := T12.setTop (mkF m 68 #[.val (.ref a0), .val (.ref x1), .val (.int (1 : Int32)), .val (.ref x1)] [(.ref hp), (.int (1 : Int32))])) (fun _ k => st12 _ k) ?_
  obtain ⟨cl13, Ar13, -, Sa13, Na13, -, -⟩ := id V_hp
  refine Run.st (S' := T12.setTop (mkF m 69 #[.val (.ref a0), .val (.ref x1), .val (.int (1 : Int32)), .val (.ref x1)] [(.int (16 : Int32)), (.int (1 : Int32))])) (fun _ k => X12.arraylength hx (by rw [e12]; exact Ar13.1) (State.isArrayOf_alike hZ.alike Ar13.2.1) (g := (mkF m 68 #[.val (.ref a0), .val (.ref x1), .val (.int (1 : Int32)), .val (.ref x1)] [(.ref hp), (.int (1 : Int32))])) rfl rfl (hb hby d14_68) _ (by rw [len_of Sa13 Na13]; exact k)) ?_
  refine Run.st (S' := T12.setTop (mkF m 75 #[.val (.ref a0), .val (.ref x1), .val (.int (1 : Int32)), .val (.ref x1)] [(.ref a0)])) (fun _ k => XS.iconst X12.here hx rfl (hb hby d14_69) (XS.idiv X12.here hx rfl (hb hby d14_70) rfl (by decide) (XS.icmpNo X12.here hx rfl (hb hby d14_71) rfl (tlt (show (1 : Int32) < (4 : Int32) from (by decide))).2.1 (XS.aloadN X12.here hx rfl (hb hby d14_74) rfl rfl k)))) ?_
  obtain ⟨T14, X14, e14, st14⟩ := getF X12 hx hZ hown (host := "") (Or.inl (hw _ (List.mem_of_getElem? (i := 39) rfl))) Via.refl e12 F_heap (g := (mkF m 75 #[.val (.ref a0), .val (.ref x1), .val (.int (1 : Int32)), .val (.ref x1)] [(.ref a0)])) rfl rfl (hb hby d14_75)
  refine Run.st (S' := T14.setTop (mkF m 78 #[.val (.ref a0), .val (.ref x1), .val (.int (1 : Int32)), .val (.ref x1)] [(.ref hp)])) (fun _ k => st14 _ k) ?_
  obtain ⟨cl15, Ar15, -, Sa15, Na15, -, -⟩ := id V_hp
  refine Run.st (S' := T14.setTop (mkF m 79 #[.val (.ref a0), .val (.ref x1), .val (.int (1 : Int32)), .val (.ref x1)] [(.int (16 : Int32))])) (fun _ k => X14.arraylength hx (by rw [e14]; exact Ar15.1) (State.isArrayOf_alike hZ.alike Ar15.2.1) (g := (mkF m 78 #[.val (.ref a0), .val (.ref x1), .val (.int (1 : Int32)), .val (.ref x1)] [(.ref hp)])) rfl rfl (hb hby d14_78) _ (by rw [len_of Sa15 Na15]; exact k)) ?_
  refine Run.st (S' := T14.setTop (mkF m 95 #[.val (.ref a0), .val (.ref x1), .val (.int (1 : Int32)), .val (.ref x1)] [])) (fun _ k => XS.bipush X14.here hx rfl (hb hby d14_79) (XS.icmpYes X14.here hx rfl (pc0 := 81) (pc' := 95) rfl (hb hby d14_81) rfl (flt (show ¬ ((16 : Int32) < (16 : Int32)) from (by decide))).2.2.2 (by decide) (by decide) k)) ?_
  refine Run.outV X14 hx Bd.notSynchronized Bd.returns (hb hby d14_95) (by decide) (by decide) ?_
  rw [e14]
  exact ⟨rfl, N9, Kp, E_a0, F_heap, F_size, V_hp, E_x0, F_d_x0, F_p_x0, E_x1, F_d_x1, F_p_x1⟩
theorem ef_Rm30 (m : MethodId) (a0 : Addr) (x0 : Addr) : entryFrame m #[(.ref a0), (.ref x0)] 4 = mkF m 0 #[.val (.ref a0), .val (.ref x0), .unset, .unset] [] := by first | (simp [entryFrame, mkF, argsToLocals, Value.category]; done) | rfl
def QRm30 (Z : State) (a0 : Addr) (hp : Addr) (kA : ClassId) (x0 : Addr) (dx0 : Int64) (x1 : Addr) (dx1 : Int64) (x2 : Addr) (dx2 : Int64) (h0 : Heap) (n0 : Nat) (v : Option Value) (h : Heap) (L : List Loc) : Prop := v = none ∧ Fr n0 L ∧ Keep h0 h [a0, hp, x0, x1, x2] ∧ Exa Z h a0 "com/example/keys_to_structures/keystostructures/store/ExpiryQueue" ∧ Fld Z h a0 "com/example/keys_to_structures/keystostructures/store/ExpiryQueue" "heap" "[Lcom/example/keys_to_structures/keystostructures/store/TimedEntry;" (.ref hp) ∧ Fld Z h a0 "com/example/keys_to_structures/keystostructures/store/ExpiryQueue" "size" "I" (.int (2 : Int32)) ∧ Arv Z h hp kA (.object "com/example/keys_to_structures/keystostructures/store/TimedEntry") (16 : Int32) [(.ref x2), (.ref x1), .null, .null, .null, .null, .null, .null, .null, .null, .null, .null, .null, .null, .null, .null] .null ∧ Exa Z h x0 "com/example/keys_to_structures/keystostructures/store/TimedEntry" ∧ Fld Z h x0 "com/example/keys_to_structures/keystostructures/store/TimedEntry" "deadline" "J" (.long dx0) ∧ Fld Z h x0 "com/example/keys_to_structures/keystostructures/store/TimedEntry" "position" "I" (.int (0 : Int32)) ∧ Exa Z h x1 "com/example/keys_to_structures/keystostructures/store/TimedEntry" ∧ Fld Z h x1 "com/example/keys_to_structures/keystostructures/store/TimedEntry" "deadline" "J" (.long dx1) ∧ Fld Z h x1 "com/example/keys_to_structures/keystostructures/store/TimedEntry" "position" "I" (.int (1 : Int32)) ∧ Exa Z h x2 "com/example/keys_to_structures/keystostructures/store/TimedEntry" ∧ Fld Z h x2 "com/example/keys_to_structures/keystostructures/store/TimedEntry" "deadline" "J" (.long dx2) ∧ Fld Z h x2 "com/example/keys_to_structures/keystostructures/store/TimedEntry" "position" "I" (.int (0 : Int32))
set_option maxRecDepth 65536 in
set_option maxHeartbeats 40000000 in
theorem rmRm30 (l : Launch) (Z : State) (aV : Array Value) (hw : ∀ d ∈ tables_1, d.before aV Z = true) (ws : List Jvm.Cond) (a0 : Addr) (hp : Addr) (kA : ClassId) (x0 : Addr) (dx0 : Int64) (x1 : Addr) (dx1 : Int64) (x2 : Addr) (dx2 : Int64) (h0 : Heap) (n0 : Nat) (Zn : n0 ≤ h0.size) (g_a0 : n0 ≤ a0) (g_hp : n0 ≤ hp) (O_kA : Ovr Z kA "com/example/keys_to_structures/keystostructures/store/TimedEntry") (g_x0 : n0 ≤ x0) (g_x1 : n0 ≤ x1) (g_x2 : n0 ≤ x2) (E_a0 : Exa Z h0 a0 "com/example/keys_to_structures/keystostructures/store/ExpiryQueue") (F_heap : Fld Z h0 a0 "com/example/keys_to_structures/keystostructures/store/ExpiryQueue" "heap" "[Lcom/example/keys_to_structures/keystostructures/store/TimedEntry;" (.ref hp)) (F_size : Fld Z h0 a0 "com/example/keys_to_structures/keystostructures/store/ExpiryQueue" "size" "I" (.int (3 : Int32))) (V_hp : Arv Z h0 hp kA (.object "com/example/keys_to_structures/keystostructures/store/TimedEntry") (16 : Int32) [(.ref x0), (.ref x1), (.ref x2), .null, .null, .null, .null, .null, .null, .null, .null, .null, .null, .null, .null, .null] .null) (E_x0 : Exa Z h0 x0 "com/example/keys_to_structures/keystostructures/store/TimedEntry") (F_d_x0 : Fld Z h0 x0 "com/example/keys_to_structures/keystostructures/store/TimedEntry" "deadline" "J" (.long dx0)) (F_p_x0 : Fld Z h0 x0 "com/example/keys_to_structures/keystostructures/store/TimedEntry" "position" "I" (.int (0 : Int32))) (E_x1 : Exa Z h0 x1 "com/example/keys_to_structures/keystostructures/store/TimedEntry") (F_d_x1 : Fld Z h0 x1 "com/example/keys_to_structures/keystostructures/store/TimedEntry" "deadline" "J" (.long dx1)) (F_p_x1 : Fld Z h0 x1 "com/example/keys_to_structures/keystostructures/store/TimedEntry" "position" "I" (.int (1 : Int32))) (E_x2 : Exa Z h0 x2 "com/example/keys_to_structures/keystostructures/store/TimedEntry") (F_d_x2 : Fld Z h0 x2 "com/example/keys_to_structures/keystostructures/store/TimedEntry" "deadline" "J" (.long dx2)) (F_p_x2 : Fld Z h0 x2 "com/example/keys_to_structures/keystostructures/store/TimedEntry" "position" "I" (.int (2 : Int32))) (ne_a0__hp : a0 ≠ hp) (ne_a0__x0 : a0 ≠ x0) (ne_a0__x1 : a0 ≠ x1) (ne_a0__x2 : a0 ≠ x2) (ne_hp__x0 : hp ≠ x0) (ne_hp__x1 : hp ≠ x1) (ne_hp__x2 : hp ≠ x2) (ne_x0__x1 : x0 ≠ x1) (ne_x0__x2 : x0 ≠ x2) (ne_x1__x2 : x1 ≠ x2) (hsw0 : ¬ (dx1 < dx2)) :
    MetFree l (⟨"com/example/keys_to_structures/keystostructures/store/ExpiryQueue", "remove", "(Lcom/example/keys_to_structures/keystostructures/store/TimedEntry;)V"⟩ : MethodName) (head1 (Jvm.Cond.code (⟨"com/example/keys_to_structures/keystostructures/store/ExpiryQueue", "remove", "(Lcom/example/keys_to_structures/keystostructures/store/TimedEntry;)V"⟩ : MethodName) prog_43_method_4_code 4 none :: ws) ({ frames := 3, cells := 0, slots := 0, locals := 43 } : Room)) (fun a U => a = #[(.ref a0), (.ref x0)] ∧ Z.Warmed39 U.vm ∧ U.heap = h0) (fun _ _ _ _ _ => True) (fun _ U o U' => ∃ v L, o = .returned v ∧ QRm30 Z a0 hp kA x0 dx0 x1 dx1 x2 dx2 h0 n0 v U'.heap L ∧ FrameEnd U o U' L ({ frames := 3, cells := 0, slots := 0, locals := 43 } : Room).cells ({ frames := 3, cells := 0, slots := 0, locals := 43 } : Room).slots) := by
  refine MetFree.of_bodySF (plainFor_of_name pn_4) hisR ?_
  intro p e s m args below meth c s₁ Bd hml0 hP hK
  obtain ⟨rfl, hZ, hh⟩ := hP
  have hx := Bd.exec
  have hby := Bd.bytes
  have hml : c.maxLocals = 4 := hml0
  have hown : s.vm.findClass "com/example/keys_to_structures/keystostructures/store/ExpiryQueue" = some m.cls := findClass_of_methodNamed Bd.named
  have hnm := (name_of_methodNamed Bd.named Bd.method).1
  have X0 : Stand p l e ({ frames := 3, cells := 0, slots := 0, locals := 43 } : Room) s m #[(.ref a0), (.ref x0)] below meth c s₁ [] 0 0 := Stand.of_body Bd
  have e0 : s₁.heap = h0 := by rw [← hh, Bd.state]; rfl
  have N0 := Fr.nil n0
  have Kp := Keep.refl h0 [a0, hp, x0, x1, x2]
  show Run p e below (Ends s (QRm30 Z a0 hp kA x0 dx0 x1 dx1 x2 dx2 h0 n0) ({ frames := 3, cells := 0, slots := 0, locals := 43 } : Room).cells ({ frames := 3, cells := 0, slots := 0, locals := 43 } : Room).slots) _
  refine Run.st (S' := s₁.setTop (mkF m 0 #[.val (.ref a0), .val (.ref x0), .unset, .unset] [])) (fun t k => castTop (ef_Rm30 m a0 x0) k) ?_
  refine Run.st (S' := s₁.setTop (mkF m 1 #[.val (.ref a0), .val (.ref x0), .unset, .unset] [(.ref x0)])) (fun _ k => XS.aloadN X0.here hx rfl (hb hby d14_0) rfl rfl k) ?_
  obtain ⟨cq1, kq1, q1a, q1b, q1c⟩ := isOf hZ e0 E_x0
  obtain ⟨_, _, ⟨T1, L1, k1, n1⟩, -, X1, ⟨Lc1, hQ1, l1, y1, z1⟩, st1⟩ := X0.virtualBack hx (y := (⟨"com/example/keys_to_structures/keystostructures/store/TimedEntry", "position", "()I"⟩ : MethodName)) (z := (⟨"com/example/keys_to_structures/keystostructures/store/TimedEntry", "position", "()I"⟩ : MethodName)) hown (mvT hZ (hw _ (List.mem_of_getElem? (i := 85) rfl))) (mvT hZ (hw _ (List.mem_of_getElem? (i := 86) rfl))) (notFace_of_selects (args := #[]) (mvT hZ (hw _ (List.mem_of_getElem? (i := 88) rfl)))) (mvT hZ (hw _ (List.mem_of_getElem? (i := 88) rfl))) (mvT hZ (hw _ (List.mem_of_getElem? (i := 87) rfl))) (by decide) (backOf (W := 0) (rmPo l Z aV hw [] x0 (0 : Int32) h0 n0 Zn F_p_x0) hZ (hw _ (List.mem_of_getElem? (i := 89) rfl)) (hw _ (List.mem_of_getElem? (i := 2) rfl)) (by decide) (by decide)) q1a q1c (g := (mkF m 1 #[.val (.ref a0), .val (.ref x0), .unset, .unset] [(.ref x0)])) rfl (by rw [hml]; rfl) (Steps.refl _) (argsL := []) (rest := []) (lenOf pd_5 rfl) rfl (by show 2 * 0 + _ ≤ _; exact Nat.le_of_eq rfl) (hb hby d14_1) (fun _ _ => ⟨rfl, e0, (by decide : 0 + 0 ≤ _), (by decide : 0 + 0 ≤ _)⟩)
  dsimp only [Pt.U, Pt.locs, Pt.cells, Pt.slots] at X1 l1 y1 z1 st1 hQ1
  subst l1 y1 z1
  obtain ⟨rfl, N1q, e1⟩ := hQ1
  have N1 := Fr.app N0 N1q
  refine Run.st (S' := T1.setTop (mkF m 7 #[.val (.ref a0), .val (.ref x0), .val (.int (0 : Int32)), .unset] [(.ref a0), (.ref a0)])) (fun _ k => st1.trans (XS.istoreN X1.here hx rfl (hb hby d14_4) rfl (l' := #[.val (.ref a0), .val (.ref x0), .val (.int (0 : Int32)), .unset]) rfl (XS.aloadN X1.here hx rfl (hb hby d14_5) rfl rfl (XS.dup X1.here hx rfl (hb hby d14_6) rfl rfl k)))) ?_
  obtain ⟨T2, X2, e2, st2⟩ := getF X1 hx hZ hown (host := "") (Or.inl (hw _ (List.mem_of_getElem? (i := 46) rfl))) Via.refl e1 F_size (g := (mkF m 7 #[.val (.ref a0), .val (.ref x0), .val (.int (0 : Int32)), .unset] [(.ref a0), (.ref a0)])) rfl rfl (hb hby d14_7)
  refine Run.st (S' := T2.setTop (mkF m 12 #[.val (.ref a0), .val (.ref x0), .val (.int (0 : Int32)), .unset] [(.int (2 : Int32)), (.ref a0)])) (fun _ k => st2 _ (XS.iconst X2.here hx rfl (hb hby d14_10) (XS.isub X2.here hx rfl (hb hby d14_11) rfl k))) ?_
  obtain ⟨T3, h3, X3, e3, W3, st3⟩ := putF X2 hx hZ hown (host := "") (Or.inl (hw _ (List.mem_of_getElem? (i := 46) rfl))) Via.refl e2 F_size E_a0 (Or.inl (hw _ (List.mem_of_getElem? (i := 47) rfl))) (hw _ (List.mem_of_getElem? (i := 31) rfl)) (ty := .int) (by decide) rfl rfl (g := (mkF m 12 #[.val (.ref a0), .val (.ref x0), .val (.int (0 : Int32)), .unset] [(.int (2 : Int32)), (.ref a0)])) rfl rfl (hb hby d14_12)
  have F_size := F_size.same W3
  have E_a0 := E_a0.wr W3
  have F_heap := F_heap.other W3 (Or.inr (slot_ne (Or.inl (hw _ (List.mem_of_getElem? (i := 40) rfl))) (Or.inl (hw _ (List.mem_of_getElem? (i := 47) rfl))) (by decide) (t := (.array (.object "com/example/keys_to_structures/keystostructures/store/TimedEntry"))) (t' := .int) (by decide) (by decide)))
  have V_hp := V_hp.other W3 (Ne.symm ne_a0__hp)
  have E_x0 := E_x0.wr W3
  have F_d_x0 := F_d_x0.other W3 (Or.inl (Ne.symm ne_a0__x0))
  have F_p_x0 := F_p_x0.other W3 (Or.inl (Ne.symm ne_a0__x0))
  have E_x1 := E_x1.wr W3
  have F_d_x1 := F_d_x1.other W3 (Or.inl (Ne.symm ne_a0__x1))
  have F_p_x1 := F_p_x1.other W3 (Or.inl (Ne.symm ne_a0__x1))
  have E_x2 := E_x2.wr W3
  have F_d_x2 := F_d_x2.other W3 (Or.inl (Ne.symm ne_a0__x2))
  have F_p_x2 := F_p_x2.other W3 (Or.inl (Ne.symm ne_a0__x2))
  have N3 := Fr.snoc X3 N1 g_a0
  have Kp := Kp.wr W3 (Or.inl (by simp))
  have Zn := Nat.le_trans Zn (Nat.le_of_eq W3.size.symm)
  refine Run.st (S' := T3.setTop (mkF m 16 #[.val (.ref a0), .val (.ref x0), .val (.int (0 : Int32)), .unset] [(.ref a0)])) (fun _ k => st3 _ (XS.aloadN X3.here hx rfl (hb hby d14_15) rfl rfl k)) ?_
  obtain ⟨T4, X4, e4, st4⟩ := getF X3 hx hZ hown (host := "") (Or.inl (hw _ (List.mem_of_getElem? (i := 39) rfl))) Via.refl e3 F_heap (g := (mkF m 16 #[.val (.ref a0), .val (.ref x0), .val (.int (0 : Int32)), .unset] [(.ref a0)])) rfl rfl (hb hby d14_16)
  refine Run.st (S' := T4.setTop (mkF m 20 #[.val (.ref a0), .val (.ref x0), .val (.int (0 : Int32)), .unset] [(.ref a0), (.ref hp)])) (fun _ k => st4 _ (XS.aloadN X4.here hx rfl (hb hby d14_19) rfl rfl k)) ?_
  obtain ⟨T5, X5, e5, st5⟩ := getF X4 hx hZ hown (host := "") (Or.inl (hw _ (List.mem_of_getElem? (i := 46) rfl))) Via.refl e4 F_size (g := (mkF m 20 #[.val (.ref a0), .val (.ref x0), .val (.int (0 : Int32)), .unset] [(.ref a0), (.ref hp)])) rfl rfl (hb hby d14_20)
  refine Run.st (S' := T5.setTop (mkF m 23 #[.val (.ref a0), .val (.ref x0), .val (.int (0 : Int32)), .unset] [(.int (2 : Int32)), (.ref hp)])) (fun _ k => st5 _ k) ?_
  obtain ⟨cl6, Ar6, qa6, Sa6, Na6, Ha6, Ga6⟩ := id V_hp
  have hin6 : ¬ ((2 : Int32) < 0 ∨ cl6.slots.size ≤ ((2 : Int32)).toNatClampNeg) := inb_of Sa6 ⟨by decide, by decide⟩
  have hat6 : cl6.slots[((2 : Int32)).toNatClampNeg]? = some (.ref x2) := Has.at Ha6 hin6 rfl
  refine Run.st (S' := T5.setTop (mkF m 26 #[.val (.ref a0), .val (.ref x0), .val (.int (0 : Int32)), .val (.ref x2)] [(.ref a0)])) (fun _ k => X5.aaload hx (j := (2 : Int32)) (v := (.ref x2)) (by rw [e5]; exact Ar6.1) (State.isArrayOf_alike hZ.alike Ar6.2.1) rfl Ar6.2.2 hin6 hat6 (g := (mkF m 23 #[.val (.ref a0), .val (.ref x0), .val (.int (0 : Int32)), .unset] [(.int (2 : Int32)), (.ref hp)])) rfl rfl (hb hby d14_23) _ (XS.astoreN X5.here hx rfl (hb hby d14_24) rfl rfl (l' := #[.val (.ref a0), .val (.ref x0), .val (.int (0 : Int32)), .val (.ref x2)]) rfl (XS.aloadN X5.here hx rfl (hb hby d14_25) rfl rfl k))) ?_
  obtain ⟨T7, X7, e7, st7⟩ := getF X5 hx hZ hown (host := "") (Or.inl (hw _ (List.mem_of_getElem? (i := 39) rfl))) Via.refl e5 F_heap (g := (mkF m 26 #[.val (.ref a0), .val (.ref x0), .val (.int (0 : Int32)), .val (.ref x2)] [(.ref a0)])) rfl rfl (hb hby d14_26)
  refine Run.st (S' := T7.setTop (mkF m 30 #[.val (.ref a0), .val (.ref x0), .val (.int (0 : Int32)), .val (.ref x2)] [(.ref a0), (.ref hp)])) (fun _ k => st7 _ (XS.aloadN X7.here hx rfl (hb hby d14_29) rfl rfl k)) ?_
  obtain ⟨T8, X8, e8, st8⟩ := getF X7 hx hZ hown (host := "") (Or.inl (hw _ (List.mem_of_getElem? (i := 46) rfl))) Via.refl e7 F_size (g := (mkF m 30 #[.val (.ref a0), .val (.ref x0), .val (.int (0 : Int32)), .val (.ref x2)] [(.ref a0), (.ref hp)])) rfl rfl (hb hby d14_30)
  refine Run.st (S' := T8.setTop (mkF m 34 #[.val (.ref a0), .val (.ref x0), .val (.int (0 : Int32)), .val (.ref x2)] [.null, (.int (2 : Int32)), (.ref hp)])) (fun _ k => st8 _ (XS.aconstNull X8.here hx rfl (hb hby d14_33) k)) ?_
  obtain ⟨cl9, Ar9, qa9, Sa9, Na9, Ha9, Ga9⟩ := V_hp
  have hin9 : ¬ ((2 : Int32) < 0 ∨ cl9.slots.size ≤ ((2 : Int32)).toNatClampNeg) := inb_of Sa9 ⟨by decide, by decide⟩
  obtain ⟨T9, h9, X9, e9, W9, st9⟩ := stR X8 hx hZ e8 Ar9 (j := (2 : Int32)) hin9 rfl (Or.inl rfl) (g := (mkF m 34 #[.val (.ref a0), .val (.ref x0), .val (.int (0 : Int32)), .val (.ref x2)] [.null, (.int (2 : Int32)), (.ref hp)])) rfl rfl (hb hby d14_34)
  have V_hp := Arv.set Ar9 qa9 Sa9 Na9 Ha9 Ga9 rfl W9 2 rfl (Nat.le_of_ble_eq_true rfl)
  have V_hp : Arv Z h9 hp kA (.object "com/example/keys_to_structures/keystostructures/store/TimedEntry") (16 : Int32) [(.ref x0), (.ref x1), .null, .null, .null, .null, .null, .null, .null, .null, .null, .null, .null, .null, .null, .null] .null := V_hp
  have E_a0 := E_a0.wr W9
  have F_heap := F_heap.other W9 (Or.inl ne_a0__hp)
  have F_size := F_size.other W9 (Or.inl ne_a0__hp)
  have E_x0 := E_x0.wr W9
  have F_d_x0 := F_d_x0.other W9 (Or.inl (Ne.symm ne_hp__x0))
  have F_p_x0 := F_p_x0.other W9 (Or.inl (Ne.symm ne_hp__x0))
  have E_x1 := E_x1.wr W9
  have F_d_x1 := F_d_x1.other W9 (Or.inl (Ne.symm ne_hp__x1))
  have F_p_x1 := F_p_x1.other W9 (Or.inl (Ne.symm ne_hp__x1))
  have E_x2 := E_x2.wr W9
  have F_d_x2 := F_d_x2.other W9 (Or.inl (Ne.symm ne_hp__x2))
  have F_p_x2 := F_p_x2.other W9 (Or.inl (Ne.symm ne_hp__x2))
  have N9 := Fr.snoc X9 N3 g_hp
  have Kp := Kp.wr W9 (Or.inl (by simp))
  have Zn := Nat.le_trans Zn (Nat.le_of_eq W9.size.symm)
  refine Run.st (S' := T9.setTop (mkF m 37 #[.val (.ref a0), .val (.ref x0), .val (.int (0 : Int32)), .val (.ref x2)] [(.ref a0), (.int (0 : Int32))])) (fun _ k => st9 _ (XS.iloadN X9.here hx rfl (hb hby d14_35) rfl (XS.aloadN X9.here hx rfl (hb hby d14_36) rfl rfl k))) ?_
  obtain ⟨T10, X10, e10, st10⟩ := getF X9 hx hZ hown (host := "") (Or.inl (hw _ (List.mem_of_getElem? (i := 46) rfl))) Via.refl e9 F_size (g := (mkF m 37 #[.val (.ref a0), .val (.ref x0), .val (.int (0 : Int32)), .val (.ref x2)] [(.ref a0), (.int (0 : Int32))])) rfl rfl (hb hby d14_37)
  refine Run.st (S' := T10.setTop (mkF m 46 #[.val (.ref a0), .val (.ref x0), .val (.int (0 : Int32)), .val (.ref x2)] [(.int (0 : Int32)), (.ref x2), (.ref a0)])) (fun _ k => st10 _ (XS.icmpNo X10.here hx rfl (hb hby d14_40) rfl (tlt (show (0 : Int32) < (2 : Int32) from (by decide))).2.1 (XS.aloadN X10.here hx rfl (hb hby d14_43) rfl rfl (XS.aloadN X10.here hx rfl (hb hby d14_44) rfl rfl (XS.iloadN X10.here hx rfl (hb hby d14_45) rfl k))))) ?_
  obtain ⟨cq11, q11, q11'⟩ := E_a0.cell
  obtain ⟨_, _, ⟨T11, L11, k11, n11⟩, -, X11, ⟨Lc11, hQ11, l11, y11, z11⟩, st11⟩ := X10.privateBack hx (y := (⟨"com/example/keys_to_structures/keystostructures/store/ExpiryQueue", "moveDown", "(Lcom/example/keys_to_structures/keystostructures/store/TimedEntry;I)V"⟩ : MethodName)) hown (mvT hZ (hw _ (List.mem_of_getElem? (i := 90) rfl))) (mvT hZ (hw _ (List.mem_of_getElem? (i := 91) rfl))) (selSelf (y := (⟨"com/example/keys_to_structures/keystostructures/store/ExpiryQueue", "moveDown", "(Lcom/example/keys_to_structures/keystostructures/store/TimedEntry;I)V"⟩ : MethodName)) (mvT hZ (hw _ (List.mem_of_getElem? (i := 31) rfl))) (Cond.privateMethod_at (mvP hZ (hw _ (List.mem_of_getElem? (i := 92) rfl)) (args := #[]))) (mvT hZ (hw _ (List.mem_of_getElem? (i := 91) rfl))) (by decide)) (Cond.privateMethod_at (mvP hZ (hw _ (List.mem_of_getElem? (i := 92) rfl)) (args := #[]))) (mvT hZ (hw _ (List.mem_of_getElem? (i := 93) rfl))) (by decide) (backOf (W := 0) (rmMdB l Z aV hw [] a0 x2 hp kA (.ref x0) .null dx2 (2 : Int32) x1 dx1 (1 : Int32) h9 n0 Zn g_hp O_kA g_x2 g_x1 E_a0 F_heap F_size V_hp E_x2 F_d_x2 F_p_x2 E_x1 F_d_x1 F_p_x1 ne_a0__hp ne_a0__x2 ne_a0__x1 ne_hp__x2 ne_hp__x1 (Ne.symm ne_x1__x2) hsw0) hZ (hw _ (List.mem_of_getElem? (i := 93) rfl)) (hw _ (List.mem_of_getElem? (i := 32) rfl)) (by decide) (by decide)) (g := (mkF m 46 #[.val (.ref a0), .val (.ref x0), .val (.int (0 : Int32)), .val (.ref x2)] [(.int (0 : Int32)), (.ref x2), (.ref a0)])) rfl (by rw [hml]; rfl) (Steps.refl _) (a := a0) (by rw [e10]; exact q11) q11' (argsL := [(.ref x2), (.int (0 : Int32))]) (rest := []) (lenOf pd_3 rfl) rfl (by show 2 * 0 + _ ≤ _; exact Nat.le_of_eq rfl) (hb hby d14_46) (fun _ _ => ⟨rfl, e10, (by decide : 0 + 0 ≤ _), (by decide : 0 + 0 ≤ _)⟩)
  dsimp only [Pt.U, Pt.locs, Pt.cells, Pt.slots] at X11 l11 y11 z11 st11 hQ11
  subst l11 y11 z11
  obtain ⟨rfl, N11q, K11, q11_0, q11_1, q11_2, q11_3⟩ := hQ11
  have E_a0 := E_a0.keep K11
  have F_heap := F_heap.keep K11 (ninS ne_a0__hp (ninS ne_a0__x2 nin0))
  have F_size := F_size.keep K11 (ninS ne_a0__hp (ninS ne_a0__x2 nin0))
  have E_x0 := E_x0.keep K11
  have F_d_x0 := F_d_x0.keep K11 (ninS (Ne.symm ne_hp__x0) (ninS ne_x0__x2 nin0))
  have F_p_x0 := F_p_x0.keep K11 (ninS (Ne.symm ne_hp__x0) (ninS ne_x0__x2 nin0))
  have E_x1 := E_x1.keep K11
  have F_d_x1 := F_d_x1.keep K11 (ninS (Ne.symm ne_hp__x1) (ninS ne_x1__x2 nin0))
  have F_p_x1 := F_p_x1.keep K11 (ninS (Ne.symm ne_hp__x1) (ninS ne_x1__x2 nin0))
  have V_hp := q11_0
  have E_x2 := q11_1
  have F_d_x2 := q11_2
  have F_p_x2 := q11_3
  have Kp := Kp.trans K11 (allS (Or.inl (by simp)) (allS (Or.inl (by simp)) all0))
  have Zn := Nat.le_trans Zn K11.1
  have N11 := Fr.app N9 N11q
  refine Run.st (S' := T11.setTop (mkF m 51 #[.val (.ref a0), .val (.ref x0), .val (.int (0 : Int32)), .val (.ref x2)] [(.ref a0), (.ref a0)])) (fun _ k => st11.trans (XS.aloadN X11.here hx rfl (hb hby d14_49) rfl rfl (XS.aloadN X11.here hx rfl (hb hby d14_50) rfl rfl k))) ?_
  obtain ⟨T12, X12, e12, st12⟩ := getF X11 hx hZ hown (host := "") (Or.inl (hw _ (List.mem_of_getElem? (i := 39) rfl))) Via.refl rfl F_heap (g := (mkF m 51 #[.val (.ref a0), .val (.ref x0), .val (.int (0 : Int32)), .val (.ref x2)] [(.ref a0), (.ref a0)])) rfl rfl (hb hby d14_51)
  refine Run.st (S' := T12.setTop (mkF m 55 #[.val (.ref a0), .val (.ref x0), .val (.int (0 : Int32)), .val (.ref x2)] [(.int (0 : Int32)), (.ref hp), (.ref a0)])) (fun _ k => st12 _ (XS.iloadN X12.here hx rfl (hb hby d14_54) rfl k)) ?_
  obtain ⟨cl13, Ar13, qa13, Sa13, Na13, Ha13, Ga13⟩ := id V_hp
  have hin13 : ¬ ((0 : Int32) < 0 ∨ cl13.slots.size ≤ ((0 : Int32)).toNatClampNeg) := inb_of Sa13 ⟨by decide, by decide⟩
  have hat13 : cl13.slots[((0 : Int32)).toNatClampNeg]? = some (.ref x2) := Has.at Ha13 hin13 rfl
  refine Run.st (S' := T12.setTop (mkF m 57 #[.val (.ref a0), .val (.ref x0), .val (.int (0 : Int32)), .val (.ref x2)] [(.int (0 : Int32)), (.ref x2), (.ref a0)])) (fun _ k => X12.aaload hx (j := (0 : Int32)) (v := (.ref x2)) (by rw [e12]; exact Ar13.1) (State.isArrayOf_alike hZ.alike Ar13.2.1) rfl Ar13.2.2 hin13 hat13 (g := (mkF m 55 #[.val (.ref a0), .val (.ref x0), .val (.int (0 : Int32)), .val (.ref x2)] [(.int (0 : Int32)), (.ref hp), (.ref a0)])) rfl rfl (hb hby d14_55) _ (XS.iloadN X12.here hx rfl (hb hby d14_56) rfl k)) ?_
  obtain ⟨cq14, q14, q14'⟩ := E_a0.cell
  obtain ⟨_, _, ⟨T14, L14, k14, n14⟩, -, X14, ⟨Lc14, hQ14, l14, y14, z14⟩, st14⟩ := X12.privateBack hx (y := (⟨"com/example/keys_to_structures/keystostructures/store/ExpiryQueue", "moveUp", "(Lcom/example/keys_to_structures/keystostructures/store/TimedEntry;I)V"⟩ : MethodName)) hown (mvT hZ (hw _ (List.mem_of_getElem? (i := 48) rfl))) (mvT hZ (hw _ (List.mem_of_getElem? (i := 49) rfl))) (selSelf (y := (⟨"com/example/keys_to_structures/keystostructures/store/ExpiryQueue", "moveUp", "(Lcom/example/keys_to_structures/keystostructures/store/TimedEntry;I)V"⟩ : MethodName)) (mvT hZ (hw _ (List.mem_of_getElem? (i := 31) rfl))) (Cond.privateMethod_at (mvP hZ (hw _ (List.mem_of_getElem? (i := 50) rfl)) (args := #[]))) (mvT hZ (hw _ (List.mem_of_getElem? (i := 49) rfl))) (by decide)) (Cond.privateMethod_at (mvP hZ (hw _ (List.mem_of_getElem? (i := 50) rfl)) (args := #[]))) (mvT hZ (hw _ (List.mem_of_getElem? (i := 51) rfl))) (by decide) (backOf (W := 0) (rmMu0 l Z aV hw [] a0 x2 hp kA (.ref x2) (.ref x1) .null dx2 (0 : Int32) T11.heap n0 Zn g_hp O_kA g_x2 E_a0 F_heap V_hp E_x2 F_d_x2 F_p_x2 ne_a0__hp ne_a0__x2 ne_hp__x2) hZ (hw _ (List.mem_of_getElem? (i := 51) rfl)) (hw _ (List.mem_of_getElem? (i := 32) rfl)) (by decide) (by decide)) (g := (mkF m 57 #[.val (.ref a0), .val (.ref x0), .val (.int (0 : Int32)), .val (.ref x2)] [(.int (0 : Int32)), (.ref x2), (.ref a0)])) rfl (by rw [hml]; rfl) (Steps.refl _) (a := a0) (by rw [e12]; exact q14) q14' (argsL := [(.ref x2), (.int (0 : Int32))]) (rest := []) (lenOf pd_3 rfl) rfl (by show 2 * 0 + _ ≤ _; exact Nat.le_of_eq rfl) (hb hby d14_57) (fun _ _ => ⟨rfl, e12, (by decide : 0 + 0 ≤ _), (by decide : 0 + 0 ≤ _)⟩)
  dsimp only [Pt.U, Pt.locs, Pt.cells, Pt.slots] at X14 l14 y14 z14 st14 hQ14
  subst l14 y14 z14
  obtain ⟨rfl, N14q, K14, q14_0, q14_1, q14_2, q14_3⟩ := hQ14
  have E_a0 := E_a0.keep K14
  have F_heap := F_heap.keep K14 (ninS ne_a0__hp (ninS ne_a0__x2 nin0))
  have F_size := F_size.keep K14 (ninS ne_a0__hp (ninS ne_a0__x2 nin0))
  have E_x0 := E_x0.keep K14
  have F_d_x0 := F_d_x0.keep K14 (ninS (Ne.symm ne_hp__x0) (ninS ne_x0__x2 nin0))
  have F_p_x0 := F_p_x0.keep K14 (ninS (Ne.symm ne_hp__x0) (ninS ne_x0__x2 nin0))
  have E_x1 := E_x1.keep K14
  have F_d_x1 := F_d_x1.keep K14 (ninS (Ne.symm ne_hp__x1) (ninS ne_x1__x2 nin0))
  have F_p_x1 := F_p_x1.keep K14 (ninS (Ne.symm ne_hp__x1) (ninS ne_x1__x2 nin0))
  have V_hp := q14_0
  have E_x2 := q14_1
  have F_d_x2 := q14_2
  have F_p_x2 := q14_3
  have Kp := Kp.trans K14 (allS (Or.inl (by simp)) (allS (Or.inl (by simp)) all0))
  have Zn := Nat.le_trans Zn K14.1
  have N14 := Fr.app N11 N14q
  refine Run.st (S' := T14.setTop (mkF m 61 #[.val (.ref a0), .val (.ref x0), .val (.int (0 : Int32)), .val (.ref x2)] [(.ref a0)])) (fun _ k => st14.trans (XS.aloadN X14.here hx rfl (hb hby d14_60) rfl rfl k)) ?_
  obtain ⟨T15, X15, e15, st15⟩ := getF X14 hx hZ hown (host := "") (Or.inl (hw _ (List.mem_of_getElem? (i := 46) rfl))) Via.refl rfl F_size (g := (mkF m 61 #[.val (.ref a0), .val (.ref x0), .val (.int (0 : Int32)), .val (.ref x2)] [(.ref a0)])) rfl rfl (hb hby d14_61)
  refine Run.st (S' := T15.setTop (mkF m 65 #[.val (.ref a0), .val (.ref x0), .val (.int (0 : Int32)), .val (.ref x2)] [(.ref a0), (.int (2 : Int32))])) (fun _ k => st15 _ (XS.aloadN X15.here hx rfl (hb hby d14_64) rfl rfl k)) ?_
  obtain ⟨T16, X16, e16, st16⟩ := getF X15 hx hZ hown (host := "") (Or.inl (hw _ (List.mem_of_getElem? (i := 39) rfl))) Via.refl e15 F_heap (g := (mkF m 65 #[.val (.ref a0), .val (.ref x0), .val (.int (0 : Int32)), .val (.ref x2)] [(.ref a0), (.int (2 : Int32))])) rfl rfl (hb hby d14_65)
  refine Run.st (S' := T16.setTop (mkF m 68 #[.val (.ref a0), .val (.ref x0), .val (.int (0 : Int32)), .val (.ref x2)] [(.ref hp), (.int (2 : Int32))])) (fun _ k => st16 _ k) ?_
  obtain ⟨cl17, Ar17, -, Sa17, Na17, -, -⟩ := id V_hp
  refine Run.st (S' := T16.setTop (mkF m 69 #[.val (.ref a0), .val (.ref x0), .val (.int (0 : Int32)), .val (.ref x2)] [(.int (16 : Int32)), (.int (2 : Int32))])) (fun _ k => X16.arraylength hx (by rw [e16]; exact Ar17.1) (State.isArrayOf_alike hZ.alike Ar17.2.1) (g := (mkF m 68 #[.val (.ref a0), .val (.ref x0), .val (.int (0 : Int32)), .val (.ref x2)] [(.ref hp), (.int (2 : Int32))])) rfl rfl (hb hby d14_68) _ (by rw [len_of Sa17 Na17]; exact k)) ?_
  refine Run.st (S' := T16.setTop (mkF m 75 #[.val (.ref a0), .val (.ref x0), .val (.int (0 : Int32)), .val (.ref x2)] [(.ref a0)])) (fun _ k => XS.iconst X16.here hx rfl (hb hby d14_69) (XS.idiv X16.here hx rfl (hb hby d14_70) rfl (by decide) (XS.icmpNo X16.here hx rfl (hb hby d14_71) rfl (tlt (show (2 : Int32) < (4 : Int32) from (by decide))).2.1 (XS.aloadN X16.here hx rfl (hb hby d14_74) rfl rfl k)))) ?_
  obtain ⟨T18, X18, e18, st18⟩ := getF X16 hx hZ hown (host := "") (Or.inl (hw _ (List.mem_of_getElem? (i := 39) rfl))) Via.refl e16 F_heap (g := (mkF m 75 #[.val (.ref a0), .val (.ref x0), .val (.int (0 : Int32)), .val (.ref x2)] [(.ref a0)])) rfl rfl (hb hby d14_75)
  refine Run.st (S' := T18.setTop (mkF m 78 #[.val (.ref a0), .val (.ref x0), .val (.int (0 : Int32)), .val (.ref x2)] [(.ref hp)])) (fun _ k => st18 _ k) ?_
  obtain ⟨cl19, Ar19, -, Sa19, Na19, -, -⟩ := id V_hp
  refine Run.st (S' := T18.setTop (mkF m 79 #[.val (.ref a0), .val (.ref x0), .val (.int (0 : Int32)), .val (.ref x2)] [(.int (16 : Int32))])) (fun _ k => X18.arraylength hx (by rw [e18]; exact Ar19.1) (State.isArrayOf_alike hZ.alike Ar19.2.1) (g := (mkF m 78 #[.val (.ref a0), .val (.ref x0), .val (.int (0 : Int32)), .val (.ref x2)] [(.ref hp)])) rfl rfl (hb hby d14_78) _ (by rw [len_of Sa19 Na19]; exact k)) ?_
  refine Run.st (S' := T18.setTop (mkF m 95 #[.val (.ref a0), .val (.ref x0), .val (.int (0 : Int32)), .val (.ref x2)] [])) (fun _ k => XS.bipush X18.here hx rfl (hb hby d14_79) (XS.icmpYes X18.here hx rfl (pc0 := 81) (pc' := 95) rfl (hb hby d14_81) rfl (flt (show ¬ ((16 : Int32) < (16 : Int32)) from (by decide))).2.2.2 (by decide) (by decide) k)) ?_
  refine Run.outV X18 hx Bd.notSynchronized Bd.returns (hb hby d14_95) (by decide) (by decide) ?_
  rw [e18]
  exact ⟨rfl, N14, Kp, E_a0, F_heap, F_size, V_hp, E_x0, F_d_x0, F_p_x0, E_x1, F_d_x1, F_p_x1, E_x2, F_d_x2, F_p_x2⟩
theorem ef_Rm30s (m : MethodId) (a0 : Addr) (x0 : Addr) : entryFrame m #[(.ref a0), (.ref x0)] 4 = mkF m 0 #[.val (.ref a0), .val (.ref x0), .unset, .unset] [] := by first | (simp [entryFrame, mkF, argsToLocals, Value.category]; done) | rfl
def QRm30s (Z : State) (a0 : Addr) (hp : Addr) (kA : ClassId) (x0 : Addr) (dx0 : Int64) (x1 : Addr) (dx1 : Int64) (x2 : Addr) (dx2 : Int64) (h0 : Heap) (n0 : Nat) (v : Option Value) (h : Heap) (L : List Loc) : Prop := v = none ∧ Fr n0 L ∧ Keep h0 h [a0, hp, x0, x1, x2] ∧ Exa Z h a0 "com/example/keys_to_structures/keystostructures/store/ExpiryQueue" ∧ Fld Z h a0 "com/example/keys_to_structures/keystostructures/store/ExpiryQueue" "heap" "[Lcom/example/keys_to_structures/keystostructures/store/TimedEntry;" (.ref hp) ∧ Fld Z h a0 "com/example/keys_to_structures/keystostructures/store/ExpiryQueue" "size" "I" (.int (2 : Int32)) ∧ Arv Z h hp kA (.object "com/example/keys_to_structures/keystostructures/store/TimedEntry") (16 : Int32) [(.ref x1), (.ref x2), .null, .null, .null, .null, .null, .null, .null, .null, .null, .null, .null, .null, .null, .null] .null ∧ Exa Z h x0 "com/example/keys_to_structures/keystostructures/store/TimedEntry" ∧ Fld Z h x0 "com/example/keys_to_structures/keystostructures/store/TimedEntry" "deadline" "J" (.long dx0) ∧ Fld Z h x0 "com/example/keys_to_structures/keystostructures/store/TimedEntry" "position" "I" (.int (0 : Int32)) ∧ Exa Z h x1 "com/example/keys_to_structures/keystostructures/store/TimedEntry" ∧ Fld Z h x1 "com/example/keys_to_structures/keystostructures/store/TimedEntry" "deadline" "J" (.long dx1) ∧ Fld Z h x1 "com/example/keys_to_structures/keystostructures/store/TimedEntry" "position" "I" (.int (0 : Int32)) ∧ Exa Z h x2 "com/example/keys_to_structures/keystostructures/store/TimedEntry" ∧ Fld Z h x2 "com/example/keys_to_structures/keystostructures/store/TimedEntry" "deadline" "J" (.long dx2) ∧ Fld Z h x2 "com/example/keys_to_structures/keystostructures/store/TimedEntry" "position" "I" (.int (1 : Int32))
set_option maxRecDepth 65536 in
set_option maxHeartbeats 40000000 in
theorem rmRm30s (l : Launch) (Z : State) (aV : Array Value) (hw : ∀ d ∈ tables_1, d.before aV Z = true) (ws : List Jvm.Cond) (a0 : Addr) (hp : Addr) (kA : ClassId) (x0 : Addr) (dx0 : Int64) (x1 : Addr) (dx1 : Int64) (x2 : Addr) (dx2 : Int64) (h0 : Heap) (n0 : Nat) (Zn : n0 ≤ h0.size) (g_a0 : n0 ≤ a0) (g_hp : n0 ≤ hp) (O_kA : Ovr Z kA "com/example/keys_to_structures/keystostructures/store/TimedEntry") (g_x0 : n0 ≤ x0) (g_x1 : n0 ≤ x1) (g_x2 : n0 ≤ x2) (E_a0 : Exa Z h0 a0 "com/example/keys_to_structures/keystostructures/store/ExpiryQueue") (F_heap : Fld Z h0 a0 "com/example/keys_to_structures/keystostructures/store/ExpiryQueue" "heap" "[Lcom/example/keys_to_structures/keystostructures/store/TimedEntry;" (.ref hp)) (F_size : Fld Z h0 a0 "com/example/keys_to_structures/keystostructures/store/ExpiryQueue" "size" "I" (.int (3 : Int32))) (V_hp : Arv Z h0 hp kA (.object "com/example/keys_to_structures/keystostructures/store/TimedEntry") (16 : Int32) [(.ref x0), (.ref x1), (.ref x2), .null, .null, .null, .null, .null, .null, .null, .null, .null, .null, .null, .null, .null] .null) (E_x0 : Exa Z h0 x0 "com/example/keys_to_structures/keystostructures/store/TimedEntry") (F_d_x0 : Fld Z h0 x0 "com/example/keys_to_structures/keystostructures/store/TimedEntry" "deadline" "J" (.long dx0)) (F_p_x0 : Fld Z h0 x0 "com/example/keys_to_structures/keystostructures/store/TimedEntry" "position" "I" (.int (0 : Int32))) (E_x1 : Exa Z h0 x1 "com/example/keys_to_structures/keystostructures/store/TimedEntry") (F_d_x1 : Fld Z h0 x1 "com/example/keys_to_structures/keystostructures/store/TimedEntry" "deadline" "J" (.long dx1)) (F_p_x1 : Fld Z h0 x1 "com/example/keys_to_structures/keystostructures/store/TimedEntry" "position" "I" (.int (1 : Int32))) (E_x2 : Exa Z h0 x2 "com/example/keys_to_structures/keystostructures/store/TimedEntry") (F_d_x2 : Fld Z h0 x2 "com/example/keys_to_structures/keystostructures/store/TimedEntry" "deadline" "J" (.long dx2)) (F_p_x2 : Fld Z h0 x2 "com/example/keys_to_structures/keystostructures/store/TimedEntry" "position" "I" (.int (2 : Int32))) (ne_a0__hp : a0 ≠ hp) (ne_a0__x0 : a0 ≠ x0) (ne_a0__x1 : a0 ≠ x1) (ne_a0__x2 : a0 ≠ x2) (ne_hp__x0 : hp ≠ x0) (ne_hp__x1 : hp ≠ x1) (ne_hp__x2 : hp ≠ x2) (ne_x0__x1 : x0 ≠ x1) (ne_x0__x2 : x0 ≠ x2) (ne_x1__x2 : x1 ≠ x2) (hsw0 : dx1 < dx2) :
    MetFree l (⟨"com/example/keys_to_structures/keystostructures/store/ExpiryQueue", "remove", "(Lcom/example/keys_to_structures/keystostructures/store/TimedEntry;)V"⟩ : MethodName) (head1 (Jvm.Cond.code (⟨"com/example/keys_to_structures/keystostructures/store/ExpiryQueue", "remove", "(Lcom/example/keys_to_structures/keystostructures/store/TimedEntry;)V"⟩ : MethodName) prog_43_method_4_code 4 none :: ws) ({ frames := 3, cells := 0, slots := 0, locals := 43 } : Room)) (fun a U => a = #[(.ref a0), (.ref x0)] ∧ Z.Warmed39 U.vm ∧ U.heap = h0) (fun _ _ _ _ _ => True) (fun _ U o U' => ∃ v L, o = .returned v ∧ QRm30s Z a0 hp kA x0 dx0 x1 dx1 x2 dx2 h0 n0 v U'.heap L ∧ FrameEnd U o U' L ({ frames := 3, cells := 0, slots := 0, locals := 43 } : Room).cells ({ frames := 3, cells := 0, slots := 0, locals := 43 } : Room).slots) := by
  refine MetFree.of_bodySF (plainFor_of_name pn_4) hisR ?_
  intro p e s m args below meth c s₁ Bd hml0 hP hK
  obtain ⟨rfl, hZ, hh⟩ := hP
  have hx := Bd.exec
  have hby := Bd.bytes
  have hml : c.maxLocals = 4 := hml0
  have hown : s.vm.findClass "com/example/keys_to_structures/keystostructures/store/ExpiryQueue" = some m.cls := findClass_of_methodNamed Bd.named
  have hnm := (name_of_methodNamed Bd.named Bd.method).1
  have X0 : Stand p l e ({ frames := 3, cells := 0, slots := 0, locals := 43 } : Room) s m #[(.ref a0), (.ref x0)] below meth c s₁ [] 0 0 := Stand.of_body Bd
  have e0 : s₁.heap = h0 := by rw [← hh, Bd.state]; rfl
  have N0 := Fr.nil n0
  have Kp := Keep.refl h0 [a0, hp, x0, x1, x2]
  show Run p e below (Ends s (QRm30s Z a0 hp kA x0 dx0 x1 dx1 x2 dx2 h0 n0) ({ frames := 3, cells := 0, slots := 0, locals := 43 } : Room).cells ({ frames := 3, cells := 0, slots := 0, locals := 43 } : Room).slots) _
  refine Run.st (S' := s₁.setTop (mkF m 0 #[.val (.ref a0), .val (.ref x0), .unset, .unset] [])) (fun t k => castTop (ef_Rm30s m a0 x0) k) ?_
  refine Run.st (S' := s₁.setTop (mkF m 1 #[.val (.ref a0), .val (.ref x0), .unset, .unset] [(.ref x0)])) (fun _ k => XS.aloadN X0.here hx rfl (hb hby d14_0) rfl rfl k) ?_
  obtain ⟨cq1, kq1, q1a, q1b, q1c⟩ := isOf hZ e0 E_x0
  obtain ⟨_, _, ⟨T1, L1, k1, n1⟩, -, X1, ⟨Lc1, hQ1, l1, y1, z1⟩, st1⟩ := X0.virtualBack hx (y := (⟨"com/example/keys_to_structures/keystostructures/store/TimedEntry", "position", "()I"⟩ : MethodName)) (z := (⟨"com/example/keys_to_structures/keystostructures/store/TimedEntry", "position", "()I"⟩ : MethodName)) hown (mvT hZ (hw _ (List.mem_of_getElem? (i := 85) rfl))) (mvT hZ (hw _ (List.mem_of_getElem? (i := 86) rfl))) (notFace_of_selects (args := #[]) (mvT hZ (hw _ (List.mem_of_getElem? (i := 88) rfl)))) (mvT hZ (hw _ (List.mem_of_getElem? (i := 88) rfl))) (mvT hZ (hw _ (List.mem_of_getElem? (i := 87) rfl))) (by decide) (backOf (W := 0) (rmPo l Z aV hw [] x0 (0 : Int32) h0 n0 Zn F_p_x0) hZ (hw _ (List.mem_of_getElem? (i := 89) rfl)) (hw _ (List.mem_of_getElem? (i := 2) rfl)) (by decide) (by decide)) q1a q1c (g := (mkF m 1 #[.val (.ref a0), .val (.ref x0), .unset, .unset] [(.ref x0)])) rfl (by rw [hml]; rfl) (Steps.refl _) (argsL := []) (rest := []) (lenOf pd_5 rfl) rfl (by show 2 * 0 + _ ≤ _; exact Nat.le_of_eq rfl) (hb hby d14_1) (fun _ _ => ⟨rfl, e0, (by decide : 0 + 0 ≤ _), (by decide : 0 + 0 ≤ _)⟩)
  dsimp only [Pt.U, Pt.locs, Pt.cells, Pt.slots] at X1 l1 y1 z1 st1 hQ1
  subst l1 y1 z1
  obtain ⟨rfl, N1q, e1⟩ := hQ1
  have N1 := Fr.app N0 N1q
  refine Run.st (S' := T1.setTop (mkF m 7 #[.val (.ref a0), .val (.ref x0), .val (.int (0 : Int32)), .unset] [(.ref a0), (.ref a0)])) (fun _ k => st1.trans (XS.istoreN X1.here hx rfl (hb hby d14_4) rfl (l' := #[.val (.ref a0), .val (.ref x0), .val (.int (0 : Int32)), .unset]) rfl (XS.aloadN X1.here hx rfl (hb hby d14_5) rfl rfl (XS.dup X1.here hx rfl (hb hby d14_6) rfl rfl k)))) ?_
  obtain ⟨T2, X2, e2, st2⟩ := getF X1 hx hZ hown (host := "") (Or.inl (hw _ (List.mem_of_getElem? (i := 46) rfl))) Via.refl e1 F_size (g := (mkF m 7 #[.val (.ref a0), .val (.ref x0), .val (.int (0 : Int32)), .unset] [(.ref a0), (.ref a0)])) rfl rfl (hb hby d14_7)
  refine Run.st (S' := T2.setTop (mkF m 12 #[.val (.ref a0), .val (.ref x0), .val (.int (0 : Int32)), .unset] [(.int (2 : Int32)), (.ref a0)])) (fun _ k => st2 _ (XS.iconst X2.here hx rfl (hb hby d14_10) (XS.isub X2.here hx rfl (hb hby d14_11) rfl k))) ?_
  obtain ⟨T3, h3, X3, e3, W3, st3⟩ := putF X2 hx hZ hown (host := "") (Or.inl (hw _ (List.mem_of_getElem? (i := 46) rfl))) Via.refl e2 F_size E_a0 (Or.inl (hw _ (List.mem_of_getElem? (i := 47) rfl))) (hw _ (List.mem_of_getElem? (i := 31) rfl)) (ty := .int) (by decide) rfl rfl (g := (mkF m 12 #[.val (.ref a0), .val (.ref x0), .val (.int (0 : Int32)), .unset] [(.int (2 : Int32)), (.ref a0)])) rfl rfl (hb hby d14_12)
  have F_size := F_size.same W3
  have E_a0 := E_a0.wr W3
  have F_heap := F_heap.other W3 (Or.inr (slot_ne (Or.inl (hw _ (List.mem_of_getElem? (i := 40) rfl))) (Or.inl (hw _ (List.mem_of_getElem? (i := 47) rfl))) (by decide) (t := (.array (.object "com/example/keys_to_structures/keystostructures/store/TimedEntry"))) (t' := .int) (by decide) (by decide)))
  have V_hp := V_hp.other W3 (Ne.symm ne_a0__hp)
  have E_x0 := E_x0.wr W3
  have F_d_x0 := F_d_x0.other W3 (Or.inl (Ne.symm ne_a0__x0))
  have F_p_x0 := F_p_x0.other W3 (Or.inl (Ne.symm ne_a0__x0))
  have E_x1 := E_x1.wr W3
  have F_d_x1 := F_d_x1.other W3 (Or.inl (Ne.symm ne_a0__x1))
  have F_p_x1 := F_p_x1.other W3 (Or.inl (Ne.symm ne_a0__x1))
  have E_x2 := E_x2.wr W3
  have F_d_x2 := F_d_x2.other W3 (Or.inl (Ne.symm ne_a0__x2))
  have F_p_x2 := F_p_x2.other W3 (Or.inl (Ne.symm ne_a0__x2))
  have N3 := Fr.snoc X3 N1 g_a0
  have Kp := Kp.wr W3 (Or.inl (by simp))
  have Zn := Nat.le_trans Zn (Nat.le_of_eq W3.size.symm)
  refine Run.st (S' := T3.setTop (mkF m 16 #[.val (.ref a0), .val (.ref x0), .val (.int (0 : Int32)), .unset] [(.ref a0)])) (fun _ k => st3 _ (XS.aloadN X3.here hx rfl (hb hby d14_15) rfl rfl k)) ?_
  obtain ⟨T4, X4, e4, st4⟩ := getF X3 hx hZ hown (host := "") (Or.inl (hw _ (List.mem_of_getElem? (i := 39) rfl))) Via.refl e3 F_heap (g := (mkF m 16 #[.val (.ref a0), .val (.ref x0), .val (.int (0 : Int32)), .unset] [(.ref a0)])) rfl rfl (hb hby d14_16)
  refine Run.st (S' := T4.setTop (mkF m 20 #[.val (.ref a0), .val (.ref x0), .val (.int (0 : Int32)), .unset] [(.ref a0), (.ref hp)])) (fun _ k => st4 _ (XS.aloadN X4.here hx rfl (hb hby d14_19) rfl rfl k)) ?_
  obtain ⟨T5, X5, e5, st5⟩ := getF X4 hx hZ hown (host := "") (Or.inl (hw _ (List.mem_of_getElem? (i := 46) rfl))) Via.refl e4 F_size (g := (mkF m 20 #[.val (.ref a0), .val (.ref x0), .val (.int (0 : Int32)), .unset] [(.ref a0), (.ref hp)])) rfl rfl (hb hby d14_20)
  refine Run.st (S' := T5.setTop (mkF m 23 #[.val (.ref a0), .val (.ref x0), .val (.int (0 : Int32)), .unset] [(.int (2 : Int32)), (.ref hp)])) (fun _ k => st5 _ k) ?_
  obtain ⟨cl6, Ar6, qa6, Sa6, Na6, Ha6, Ga6⟩ := id V_hp
  have hin6 : ¬ ((2 : Int32) < 0 ∨ cl6.slots.size ≤ ((2 : Int32)).toNatClampNeg) := inb_of Sa6 ⟨by decide, by decide⟩
  have hat6 : cl6.slots[((2 : Int32)).toNatClampNeg]? = some (.ref x2) := Has.at Ha6 hin6 rfl
  refine Run.st (S' := T5.setTop (mkF m 26 #[.val (.ref a0), .val (.ref x0), .val (.int (0 : Int32)), .val (.ref x2)] [(.ref a0)])) (fun _ k => X5.aaload hx (j := (2 : Int32)) (v := (.ref x2)) (by rw [e5]; exact Ar6.1) (State.isArrayOf_alike hZ.alike Ar6.2.1) rfl Ar6.2.2 hin6 hat6 (g := (mkF m 23 #[.val (.ref a0), .val (.ref x0), .val (.int (0 : Int32)), .unset] [(.int (2 : Int32)), (.ref hp)])) rfl rfl (hb hby d14_23) _ (XS.astoreN X5.here hx rfl (hb hby d14_24) rfl rfl (l' := #[.val (.ref a0), .val (.ref x0), .val (.int (0 : Int32)), .val (.ref x2)]) rfl (XS.aloadN X5.here hx rfl (hb hby d14_25) rfl rfl k))) ?_
  obtain ⟨T7, X7, e7, st7⟩ := getF X5 hx hZ hown (host := "") (Or.inl (hw _ (List.mem_of_getElem? (i := 39) rfl))) Via.refl e5 F_heap (g := (mkF m 26 #[.val (.ref a0), .val (.ref x0), .val (.int (0 : Int32)), .val (.ref x2)] [(.ref a0)])) rfl rfl (hb hby d14_26)
  refine Run.st (S' := T7.setTop (mkF m 30 #[.val (.ref a0), .val (.ref x0), .val (.int (0 : Int32)), .val (.ref x2)] [(.ref a0), (.ref hp)])) (fun _ k => st7 _ (XS.aloadN X7.here hx rfl (hb hby d14_29) rfl rfl k)) ?_
  obtain ⟨T8, X8, e8, st8⟩ := getF X7 hx hZ hown (host := "") (Or.inl (hw _ (List.mem_of_getElem? (i := 46) rfl))) Via.refl e7 F_size (g := (mkF m 30 #[.val (.ref a0), .val (.ref x0), .val (.int (0 : Int32)), .val (.ref x2)] [(.ref a0), (.ref hp)])) rfl rfl (hb hby d14_30)
  refine Run.st (S' := T8.setTop (mkF m 34 #[.val (.ref a0), .val (.ref x0), .val (.int (0 : Int32)), .val (.ref x2)] [.null, (.int (2 : Int32)), (.ref hp)])) (fun _ k => st8 _ (XS.aconstNull X8.here hx rfl (hb hby d14_33) k)) ?_
  obtain ⟨cl9, Ar9, qa9, Sa9, Na9, Ha9, Ga9⟩ := V_hp
  have hin9 : ¬ ((2 : Int32) < 0 ∨ cl9.slots.size ≤ ((2 : Int32)).toNatClampNeg) := inb_of Sa9 ⟨by decide, by decide⟩
  obtain ⟨T9, h9, X9, e9, W9, st9⟩ := stR X8 hx hZ e8 Ar9 (j := (2 : Int32)) hin9 rfl (Or.inl rfl) (g := (mkF m 34 #[.val (.ref a0), .val (.ref x0), .val (.int (0 : Int32)), .val (.ref x2)] [.null, (.int (2 : Int32)), (.ref hp)])) rfl rfl (hb hby d14_34)
  have V_hp := Arv.set Ar9 qa9 Sa9 Na9 Ha9 Ga9 rfl W9 2 rfl (Nat.le_of_ble_eq_true rfl)
  have V_hp : Arv Z h9 hp kA (.object "com/example/keys_to_structures/keystostructures/store/TimedEntry") (16 : Int32) [(.ref x0), (.ref x1), .null, .null, .null, .null, .null, .null, .null, .null, .null, .null, .null, .null, .null, .null] .null := V_hp
  have E_a0 := E_a0.wr W9
  have F_heap := F_heap.other W9 (Or.inl ne_a0__hp)
  have F_size := F_size.other W9 (Or.inl ne_a0__hp)
  have E_x0 := E_x0.wr W9
  have F_d_x0 := F_d_x0.other W9 (Or.inl (Ne.symm ne_hp__x0))
  have F_p_x0 := F_p_x0.other W9 (Or.inl (Ne.symm ne_hp__x0))
  have E_x1 := E_x1.wr W9
  have F_d_x1 := F_d_x1.other W9 (Or.inl (Ne.symm ne_hp__x1))
  have F_p_x1 := F_p_x1.other W9 (Or.inl (Ne.symm ne_hp__x1))
  have E_x2 := E_x2.wr W9
  have F_d_x2 := F_d_x2.other W9 (Or.inl (Ne.symm ne_hp__x2))
  have F_p_x2 := F_p_x2.other W9 (Or.inl (Ne.symm ne_hp__x2))
  have N9 := Fr.snoc X9 N3 g_hp
  have Kp := Kp.wr W9 (Or.inl (by simp))
  have Zn := Nat.le_trans Zn (Nat.le_of_eq W9.size.symm)
  refine Run.st (S' := T9.setTop (mkF m 37 #[.val (.ref a0), .val (.ref x0), .val (.int (0 : Int32)), .val (.ref x2)] [(.ref a0), (.int (0 : Int32))])) (fun _ k => st9 _ (XS.iloadN X9.here hx rfl (hb hby d14_35) rfl (XS.aloadN X9.here hx rfl (hb hby d14_36) rfl rfl k))) ?_
  obtain ⟨T10, X10, e10, st10⟩ := getF X9 hx hZ hown (host := "") (Or.inl (hw _ (List.mem_of_getElem? (i := 46) rfl))) Via.refl e9 F_size (g := (mkF m 37 #[.val (.ref a0), .val (.ref x0), .val (.int (0 : Int32)), .val (.ref x2)] [(.ref a0), (.int (0 : Int32))])) rfl rfl (hb hby d14_37)
  refine Run.st (S' := T10.setTop (mkF m 46 #[.val (.ref a0), .val (.ref x0), .val (.int (0 : Int32)), .val (.ref x2)] [(.int (0 : Int32)), (.ref x2), (.ref a0)])) (fun _ k => st10 _ (XS.icmpNo X10.here hx rfl (hb hby d14_40) rfl (tlt (show (0 : Int32) < (2 : Int32) from (by decide))).2.1 (XS.aloadN X10.here hx rfl (hb hby d14_43) rfl rfl (XS.aloadN X10.here hx rfl (hb hby d14_44) rfl rfl (XS.iloadN X10.here hx rfl (hb hby d14_45) rfl k))))) ?_
  obtain ⟨cq11, q11, q11'⟩ := E_a0.cell
  obtain ⟨_, _, ⟨T11, L11, k11, n11⟩, -, X11, ⟨Lc11, hQ11, l11, y11, z11⟩, st11⟩ := X10.privateBack hx (y := (⟨"com/example/keys_to_structures/keystostructures/store/ExpiryQueue", "moveDown", "(Lcom/example/keys_to_structures/keystostructures/store/TimedEntry;I)V"⟩ : MethodName)) hown (mvT hZ (hw _ (List.mem_of_getElem? (i := 90) rfl))) (mvT hZ (hw _ (List.mem_of_getElem? (i := 91) rfl))) (selSelf (y := (⟨"com/example/keys_to_structures/keystostructures/store/ExpiryQueue", "moveDown", "(Lcom/example/keys_to_structures/keystostructures/store/TimedEntry;I)V"⟩ : MethodName)) (mvT hZ (hw _ (List.mem_of_getElem? (i := 31) rfl))) (Cond.privateMethod_at (mvP hZ (hw _ (List.mem_of_getElem? (i := 92) rfl)) (args := #[]))) (mvT hZ (hw _ (List.mem_of_getElem? (i := 91) rfl))) (by decide)) (Cond.privateMethod_at (mvP hZ (hw _ (List.mem_of_getElem? (i := 92) rfl)) (args := #[]))) (mvT hZ (hw _ (List.mem_of_getElem? (i := 93) rfl))) (by decide) (backOf (W := 0) (rmMdBs l Z aV hw [] a0 x2 hp kA (.ref x0) .null dx2 (2 : Int32) x1 dx1 (1 : Int32) h9 n0 Zn g_hp O_kA g_x2 g_x1 E_a0 F_heap F_size V_hp E_x2 F_d_x2 F_p_x2 E_x1 F_d_x1 F_p_x1 ne_a0__hp ne_a0__x2 ne_a0__x1 ne_hp__x2 ne_hp__x1 (Ne.symm ne_x1__x2) hsw0) hZ (hw _ (List.mem_of_getElem? (i := 93) rfl)) (hw _ (List.mem_of_getElem? (i := 32) rfl)) (by decide) (by decide)) (g := (mkF m 46 #[.val (.ref a0), .val (.ref x0), .val (.int (0 : Int32)), .val (.ref x2)] [(.int (0 : Int32)), (.ref x2), (.ref a0)])) rfl (by rw [hml]; rfl) (Steps.refl _) (a := a0) (by rw [e10]; exact q11) q11' (argsL := [(.ref x2), (.int (0 : Int32))]) (rest := []) (lenOf pd_3 rfl) rfl (by show 2 * 0 + _ ≤ _; exact Nat.le_of_eq rfl) (hb hby d14_46) (fun _ _ => ⟨rfl, e10, (by decide : 0 + 0 ≤ _), (by decide : 0 + 0 ≤ _)⟩)
  dsimp only [Pt.U, Pt.locs, Pt.cells, Pt.slots] at X11 l11 y11 z11 st11 hQ11
  subst l11 y11 z11
  obtain ⟨rfl, N11q, K11, q11_0, q11_1, q11_2, q11_3, q11_4, q11_5, q11_6⟩ := hQ11
  have E_a0 := E_a0.keep K11
  have F_heap := F_heap.keep K11 (ninS ne_a0__hp (ninS ne_a0__x2 (ninS ne_a0__x1 nin0)))
  have F_size := F_size.keep K11 (ninS ne_a0__hp (ninS ne_a0__x2 (ninS ne_a0__x1 nin0)))
  have E_x0 := E_x0.keep K11
  have F_d_x0 := F_d_x0.keep K11 (ninS (Ne.symm ne_hp__x0) (ninS ne_x0__x2 (ninS ne_x0__x1 nin0)))
  have F_p_x0 := F_p_x0.keep K11 (ninS (Ne.symm ne_hp__x0) (ninS ne_x0__x2 (ninS ne_x0__x1 nin0)))
  have V_hp := q11_0
  have E_x2 := q11_1
  have F_d_x2 := q11_2
  have F_p_x2 := q11_3
  have E_x1 := q11_4
  have F_d_x1 := q11_5
  have F_p_x1 := q11_6
  have Kp := Kp.trans K11 (allS (Or.inl (by simp)) (allS (Or.inl (by simp)) (allS (Or.inl (by simp)) all0)))
  have Zn := Nat.le_trans Zn K11.1
  have N11 := Fr.app N9 N11q
  refine Run.st (S' := T11.setTop (mkF m 51 #[.val (.ref a0), .val (.ref x0), .val (.int (0 : Int32)), .val (.ref x2)] [(.ref a0), (.ref a0)])) (fun _ k => st11.trans (XS.aloadN X11.here hx rfl (hb hby d14_49) rfl rfl (XS.aloadN X11.here hx rfl (hb hby d14_50) rfl rfl k))) ?_
  obtain ⟨T12, X12, e12, st12⟩ := getF X11 hx hZ hown (host := "") (Or.inl (hw _ (List.mem_of_getElem? (i := 39) rfl))) Via.refl rfl F_heap (g := (mkF m 51 #[.val (.ref a0), .val (.ref x0), .val (.int (0 : Int32)), .val (.ref x2)] [(.ref a0), (.ref a0)])) rfl rfl (hb hby d14_51)
  refine Run.st (S' := T12.setTop (mkF m 55 #[.val (.ref a0), .val (.ref x0), .val (.int (0 : Int32)), .val (.ref x2)] [(.int (0 : Int32)), (.ref hp), (.ref a0)])) (fun _ k => st12 _ (XS.iloadN X12.here hx rfl (hb hby d14_54) rfl k)) ?_
  obtain ⟨cl13, Ar13, qa13, Sa13, Na13, Ha13, Ga13⟩ := id V_hp
  have hin13 : ¬ ((0 : Int32) < 0 ∨ cl13.slots.size ≤ ((0 : Int32)).toNatClampNeg) := inb_of Sa13 ⟨by decide, by decide⟩
  have hat13 : cl13.slots[((0 : Int32)).toNatClampNeg]? = some (.ref x1) := Has.at Ha13 hin13 rfl
  refine Run.st (S' := T12.setTop (mkF m 57 #[.val (.ref a0), .val (.ref x0), .val (.int (0 : Int32)), .val (.ref x2)] [(.int (0 : Int32)), (.ref x1), (.ref a0)])) (fun _ k => X12.aaload hx (j := (0 : Int32)) (v := (.ref x1)) (by rw [e12]; exact Ar13.1) (State.isArrayOf_alike hZ.alike Ar13.2.1) rfl Ar13.2.2 hin13 hat13 (g := (mkF m 55 #[.val (.ref a0), .val (.ref x0), .val (.int (0 : Int32)), .val (.ref x2)] [(.int (0 : Int32)), (.ref hp), (.ref a0)])) rfl rfl (hb hby d14_55) _ (XS.iloadN X12.here hx rfl (hb hby d14_56) rfl k)) ?_
  obtain ⟨cq14, q14, q14'⟩ := E_a0.cell
  obtain ⟨_, _, ⟨T14, L14, k14, n14⟩, -, X14, ⟨Lc14, hQ14, l14, y14, z14⟩, st14⟩ := X12.privateBack hx (y := (⟨"com/example/keys_to_structures/keystostructures/store/ExpiryQueue", "moveUp", "(Lcom/example/keys_to_structures/keystostructures/store/TimedEntry;I)V"⟩ : MethodName)) hown (mvT hZ (hw _ (List.mem_of_getElem? (i := 48) rfl))) (mvT hZ (hw _ (List.mem_of_getElem? (i := 49) rfl))) (selSelf (y := (⟨"com/example/keys_to_structures/keystostructures/store/ExpiryQueue", "moveUp", "(Lcom/example/keys_to_structures/keystostructures/store/TimedEntry;I)V"⟩ : MethodName)) (mvT hZ (hw _ (List.mem_of_getElem? (i := 31) rfl))) (Cond.privateMethod_at (mvP hZ (hw _ (List.mem_of_getElem? (i := 50) rfl)) (args := #[]))) (mvT hZ (hw _ (List.mem_of_getElem? (i := 49) rfl))) (by decide)) (Cond.privateMethod_at (mvP hZ (hw _ (List.mem_of_getElem? (i := 50) rfl)) (args := #[]))) (mvT hZ (hw _ (List.mem_of_getElem? (i := 51) rfl))) (by decide) (backOf (W := 0) (rmMu0 l Z aV hw [] a0 x1 hp kA (.ref x1) (.ref x2) .null dx1 (0 : Int32) T11.heap n0 Zn g_hp O_kA g_x1 E_a0 F_heap V_hp E_x1 F_d_x1 F_p_x1 ne_a0__hp ne_a0__x1 ne_hp__x1) hZ (hw _ (List.mem_of_getElem? (i := 51) rfl)) (hw _ (List.mem_of_getElem? (i := 32) rfl)) (by decide) (by decide)) (g := (mkF m 57 #[.val (.ref a0), .val (.ref x0), .val (.int (0 : Int32)), .val (.ref x2)] [(.int (0 : Int32)), (.ref x1), (.ref a0)])) rfl (by rw [hml]; rfl) (Steps.refl _) (a := a0) (by rw [e12]; exact q14) q14' (argsL := [(.ref x1), (.int (0 : Int32))]) (rest := []) (lenOf pd_3 rfl) rfl (by show 2 * 0 + _ ≤ _; exact Nat.le_of_eq rfl) (hb hby d14_57) (fun _ _ => ⟨rfl, e12, (by decide : 0 + 0 ≤ _), (by decide : 0 + 0 ≤ _)⟩)
  dsimp only [Pt.U, Pt.locs, Pt.cells, Pt.slots] at X14 l14 y14 z14 st14 hQ14
  subst l14 y14 z14
  obtain ⟨rfl, N14q, K14, q14_0, q14_1, q14_2, q14_3⟩ := hQ14
  have E_a0 := E_a0.keep K14
  have F_heap := F_heap.keep K14 (ninS ne_a0__hp (ninS ne_a0__x1 nin0))
  have F_size := F_size.keep K14 (ninS ne_a0__hp (ninS ne_a0__x1 nin0))
  have E_x0 := E_x0.keep K14
  have F_d_x0 := F_d_x0.keep K14 (ninS (Ne.symm ne_hp__x0) (ninS ne_x0__x1 nin0))
  have F_p_x0 := F_p_x0.keep K14 (ninS (Ne.symm ne_hp__x0) (ninS ne_x0__x1 nin0))
  have E_x2 := E_x2.keep K14
  have F_d_x2 := F_d_x2.keep K14 (ninS (Ne.symm ne_hp__x2) (ninS (Ne.symm ne_x1__x2) nin0))
  have F_p_x2 := F_p_x2.keep K14 (ninS (Ne.symm ne_hp__x2) (ninS (Ne.symm ne_x1__x2) nin0))
  have V_hp := q14_0
  have E_x1 := q14_1
  have F_d_x1 := q14_2
  have F_p_x1 := q14_3
  have Kp := Kp.trans K14 (allS (Or.inl (by simp)) (allS (Or.inl (by simp)) all0))
  have Zn := Nat.le_trans Zn K14.1
  have N14 := Fr.app N11 N14q
  refine Run.st (S' := T14.setTop (mkF m 61 #[.val (.ref a0), .val (.ref x0), .val (.int (0 : Int32)), .val (.ref x2)] [(.ref a0)])) (fun _ k => st14.trans (XS.aloadN X14.here hx rfl (hb hby d14_60) rfl rfl k)) ?_
  obtain ⟨T15, X15, e15, st15⟩ := getF X14 hx hZ hown (host := "") (Or.inl (hw _ (List.mem_of_getElem? (i := 46) rfl))) Via.refl rfl F_size (g := (mkF m 61 #[.val (.ref a0), .val (.ref x0), .val (.int (0 : Int32)), .val (.ref x2)] [(.ref a0)])) rfl rfl (hb hby d14_61)
  refine Run.st (S' := T15.setTop (mkF m 65 #[.val (.ref a0), .val (.ref x0), .val (.int (0 : Int32)), .val (.ref x2)] [(.ref a0), (.int (2 : Int32))])) (fun _ k => st15 _ (XS.aloadN X15.here hx rfl (hb hby d14_64) rfl rfl k)) ?_
  obtain ⟨T16, X16, e16, st16⟩ := getF X15 hx hZ hown (host := "") (Or.inl (hw _ (List.mem_of_getElem? (i := 39) rfl))) Via.refl e15 F_heap (g := (mkF m 65 #[.val (.ref a0), .val (.ref x0), .val (.int (0 : Int32)), .val (.ref x2)] [(.ref a0), (.int (2 : Int32))])) rfl rfl (hb hby d14_65)
  refine Run.st (S' := T16.setTop (mkF m 68 #[.val (.ref a0), .val (.ref x0), .val (.int (0 : Int32)), .val (.ref x2)] [(.ref hp), (.int (2 : Int32))])) (fun _ k => st16 _ k) ?_
  obtain ⟨cl17, Ar17, -, Sa17, Na17, -, -⟩ := id V_hp
  refine Run.st (S' := T16.setTop (mkF m 69 #[.val (.ref a0), .val (.ref x0), .val (.int (0 : Int32)), .val (.ref x2)] [(.int (16 : Int32)), (.int (2 : Int32))])) (fun _ k => X16.arraylength hx (by rw [e16]; exact Ar17.1) (State.isArrayOf_alike hZ.alike Ar17.2.1) (g := (mkF m 68 #[.val (.ref a0), .val (.ref x0), .val (.int (0 : Int32)), .val (.ref x2)] [(.ref hp), (.int (2 : Int32))])) rfl rfl (hb hby d14_68) _ (by rw [len_of Sa17 Na17]; exact k)) ?_
  refine Run.st (S' := T16.setTop (mkF m 75 #[.val (.ref a0), .val (.ref x0), .val (.int (0 : Int32)), .val (.ref x2)] [(.ref a0)])) (fun _ k => XS.iconst X16.here hx rfl (hb hby d14_69) (XS.idiv X16.here hx rfl (hb hby d14_70) rfl (by decide) (XS.icmpNo X16.here hx rfl (hb hby d14_71) rfl (tlt (show (2 : Int32) < (4 : Int32) from (by decide))).2.1 (XS.aloadN X16.here hx rfl (hb hby d14_74) rfl rfl k)))) ?_
  obtain ⟨T18, X18, e18, st18⟩ := getF X16 hx hZ hown (host := "") (Or.inl (hw _ (List.mem_of_getElem? (i := 39) rfl))) Via.refl e16 F_heap (g := (mkF m 75 #[.val (.ref a0), .val (.ref x0), .val (.int (0 : Int32)), .val (.ref x2)] [(.ref a0)])) rfl rfl (hb hby d14_75)
  refine Run.st (S' := T18.setTop (mkF m 78 #[.val (.ref a0), .val (.ref x0), .val (.int (0 : Int32)), .val (.ref x2)] [(.ref hp)])) (fun _ k => st18 _ k) ?_
  obtain ⟨cl19, Ar19, -, Sa19, Na19, -, -⟩ := id V_hp
  refine Run.st (S' := T18.setTop (mkF m 79 #[.val (.ref a0), .val (.ref x0), .val (.int (0 : Int32)), .val (.ref x2)] [(.int (16 : Int32))])) (fun _ k => X18.arraylength hx (by rw [e18]; exact Ar19.1) (State.isArrayOf_alike hZ.alike Ar19.2.1) (g := (mkF m 78 #[.val (.ref a0), .val (.ref x0), .val (.int (0 : Int32)), .val (.ref x2)] [(.ref hp)])) rfl rfl (hb hby d14_78) _ (by rw [len_of Sa19 Na19]; exact k)) ?_
  refine Run.st (S' := T18.setTop (mkF m 95 #[.val (.ref a0), .val (.ref x0), .val (.int (0 : Int32)), .val (.ref x2)] [])) (fun _ k => XS.bipush X18.here hx rfl (hb hby d14_79) (XS.icmpYes X18.here hx rfl (pc0 := 81) (pc' := 95) rfl (hb hby d14_81) rfl (flt (show ¬ ((16 : Int32) < (16 : Int32)) from (by decide))).2.2.2 (by decide) (by decide) k)) ?_
  refine Run.outV X18 hx Bd.notSynchronized Bd.returns (hb hby d14_95) (by decide) (by decide) ?_
  rw [e18]
  exact ⟨rfl, N14, Kp, E_a0, F_heap, F_size, V_hp, E_x0, F_d_x0, F_p_x0, E_x1, F_d_x1, F_p_x1, E_x2, F_d_x2, F_p_x2⟩
theorem ef_Rm31 (m : MethodId) (a0 : Addr) (x1 : Addr) : entryFrame m #[(.ref a0), (.ref x1)] 4 = mkF m 0 #[.val (.ref a0), .val (.ref x1), .unset, .unset] [] := by first | (simp [entryFrame, mkF, argsToLocals, Value.category]; done) | rfl
def QRm31 (Z : State) (a0 : Addr) (hp : Addr) (kA : ClassId) (x0 : Addr) (dx0 : Int64) (x1 : Addr) (dx1 : Int64) (x2 : Addr) (dx2 : Int64) (h0 : Heap) (n0 : Nat) (v : Option Value) (h : Heap) (L : List Loc) : Prop := v = none ∧ Fr n0 L ∧ Keep h0 h [a0, hp, x0, x1, x2] ∧ Exa Z h a0 "com/example/keys_to_structures/keystostructures/store/ExpiryQueue" ∧ Fld Z h a0 "com/example/keys_to_structures/keystostructures/store/ExpiryQueue" "heap" "[Lcom/example/keys_to_structures/keystostructures/store/TimedEntry;" (.ref hp) ∧ Fld Z h a0 "com/example/keys_to_structures/keystostructures/store/ExpiryQueue" "size" "I" (.int (2 : Int32)) ∧ Arv Z h hp kA (.object "com/example/keys_to_structures/keystostructures/store/TimedEntry") (16 : Int32) [(.ref x0), (.ref x2), .null, .null, .null, .null, .null, .null, .null, .null, .null, .null, .null, .null, .null, .null] .null ∧ Exa Z h x0 "com/example/keys_to_structures/keystostructures/store/TimedEntry" ∧ Fld Z h x0 "com/example/keys_to_structures/keystostructures/store/TimedEntry" "deadline" "J" (.long dx0) ∧ Fld Z h x0 "com/example/keys_to_structures/keystostructures/store/TimedEntry" "position" "I" (.int (0 : Int32)) ∧ Exa Z h x1 "com/example/keys_to_structures/keystostructures/store/TimedEntry" ∧ Fld Z h x1 "com/example/keys_to_structures/keystostructures/store/TimedEntry" "deadline" "J" (.long dx1) ∧ Fld Z h x1 "com/example/keys_to_structures/keystostructures/store/TimedEntry" "position" "I" (.int (1 : Int32)) ∧ Exa Z h x2 "com/example/keys_to_structures/keystostructures/store/TimedEntry" ∧ Fld Z h x2 "com/example/keys_to_structures/keystostructures/store/TimedEntry" "deadline" "J" (.long dx2) ∧ Fld Z h x2 "com/example/keys_to_structures/keystostructures/store/TimedEntry" "position" "I" (.int (1 : Int32))
set_option maxRecDepth 65536 in
set_option maxHeartbeats 40000000 in
theorem rmRm31 (l : Launch) (Z : State) (aV : Array Value) (hw : ∀ d ∈ tables_1, d.before aV Z = true) (ws : List Jvm.Cond) (a0 : Addr) (hp : Addr) (kA : ClassId) (x0 : Addr) (dx0 : Int64) (x1 : Addr) (dx1 : Int64) (x2 : Addr) (dx2 : Int64) (h0 : Heap) (n0 : Nat) (Zn : n0 ≤ h0.size) (g_a0 : n0 ≤ a0) (g_hp : n0 ≤ hp) (O_kA : Ovr Z kA "com/example/keys_to_structures/keystostructures/store/TimedEntry") (g_x0 : n0 ≤ x0) (g_x1 : n0 ≤ x1) (g_x2 : n0 ≤ x2) (E_a0 : Exa Z h0 a0 "com/example/keys_to_structures/keystostructures/store/ExpiryQueue") (F_heap : Fld Z h0 a0 "com/example/keys_to_structures/keystostructures/store/ExpiryQueue" "heap" "[Lcom/example/keys_to_structures/keystostructures/store/TimedEntry;" (.ref hp)) (F_size : Fld Z h0 a0 "com/example/keys_to_structures/keystostructures/store/ExpiryQueue" "size" "I" (.int (3 : Int32))) (V_hp : Arv Z h0 hp kA (.object "com/example/keys_to_structures/keystostructures/store/TimedEntry") (16 : Int32) [(.ref x0), (.ref x1), (.ref x2), .null, .null, .null, .null, .null, .null, .null, .null, .null, .null, .null, .null, .null] .null) (E_x0 : Exa Z h0 x0 "com/example/keys_to_structures/keystostructures/store/TimedEntry") (F_d_x0 : Fld Z h0 x0 "com/example/keys_to_structures/keystostructures/store/TimedEntry" "deadline" "J" (.long dx0)) (F_p_x0 : Fld Z h0 x0 "com/example/keys_to_structures/keystostructures/store/TimedEntry" "position" "I" (.int (0 : Int32))) (E_x1 : Exa Z h0 x1 "com/example/keys_to_structures/keystostructures/store/TimedEntry") (F_d_x1 : Fld Z h0 x1 "com/example/keys_to_structures/keystostructures/store/TimedEntry" "deadline" "J" (.long dx1)) (F_p_x1 : Fld Z h0 x1 "com/example/keys_to_structures/keystostructures/store/TimedEntry" "position" "I" (.int (1 : Int32))) (E_x2 : Exa Z h0 x2 "com/example/keys_to_structures/keystostructures/store/TimedEntry") (F_d_x2 : Fld Z h0 x2 "com/example/keys_to_structures/keystostructures/store/TimedEntry" "deadline" "J" (.long dx2)) (F_p_x2 : Fld Z h0 x2 "com/example/keys_to_structures/keystostructures/store/TimedEntry" "position" "I" (.int (2 : Int32))) (ne_a0__hp : a0 ≠ hp) (ne_a0__x0 : a0 ≠ x0) (ne_a0__x1 : a0 ≠ x1) (ne_a0__x2 : a0 ≠ x2) (ne_hp__x0 : hp ≠ x0) (ne_hp__x1 : hp ≠ x1) (ne_hp__x2 : hp ≠ x2) (ne_x0__x1 : x0 ≠ x1) (ne_x0__x2 : x0 ≠ x2) (ne_x1__x2 : x1 ≠ x2) (hsw0 : ¬ (dx2 < dx0)) :
    MetFree l (⟨"com/example/keys_to_structures/keystostructures/store/ExpiryQueue", "remove", "(Lcom/example/keys_to_structures/keystostructures/store/TimedEntry;)V"⟩ : MethodName) (head1 (Jvm.Cond.code (⟨"com/example/keys_to_structures/keystostructures/store/ExpiryQueue", "remove", "(Lcom/example/keys_to_structures/keystostructures/store/TimedEntry;)V"⟩ : MethodName) prog_43_method_4_code 4 none :: ws) ({ frames := 3, cells := 0, slots := 0, locals := 43 } : Room)) (fun a U => a = #[(.ref a0), (.ref x1)] ∧ Z.Warmed39 U.vm ∧ U.heap = h0) (fun _ _ _ _ _ => True) (fun _ U o U' => ∃ v L, o = .returned v ∧ QRm31 Z a0 hp kA x0 dx0 x1 dx1 x2 dx2 h0 n0 v U'.heap L ∧ FrameEnd U o U' L ({ frames := 3, cells := 0, slots := 0, locals := 43 } : Room).cells ({ frames := 3, cells := 0, slots := 0, locals := 43 } : Room).slots) := by
  refine MetFree.of_bodySF (plainFor_of_name pn_4) hisR ?_
  intro p e s m args below meth c s₁ Bd hml0 hP hK
  obtain ⟨rfl, hZ, hh⟩ := hP
  have hx := Bd.exec
  have hby := Bd.bytes
  have hml : c.maxLocals = 4 := hml0
  have hown : s.vm.findClass "com/example/keys_to_structures/keystostructures/store/ExpiryQueue" = some m.cls := findClass_of_methodNamed Bd.named
  have hnm := (name_of_methodNamed Bd.named Bd.method).1
  have X0 : Stand p l e ({ frames := 3, cells := 0, slots := 0, locals := 43 } : Room) s m #[(.ref a0), (.ref x1)] below meth c s₁ [] 0 0 := Stand.of_body Bd
  have e0 : s₁.heap = h0 := by rw [← hh, Bd.state]; rfl
  have N0 := Fr.nil n0
  have Kp := Keep.refl h0 [a0, hp, x0, x1, x2]
  show Run p e below (Ends s (QRm31 Z a0 hp kA x0 dx0 x1 dx1 x2 dx2 h0 n0) ({ frames := 3, cells := 0, slots := 0, locals := 43 } : Room).cells ({ frames := 3, cells := 0, slots := 0, locals := 43 } : Room).slots) _
  refine Run.st (S' := s₁.setTop (mkF m 0 #[.val (.ref a0), .val (.ref x1), .unset, .unset] [])) (fun t k => castTop (ef_Rm31 m a0 x1) k) ?_
  refine Run.st (S' := s₁.setTop (mkF m 1 #[.val (.ref a0), .val (.ref x1), .unset, .unset] [(.ref x1)])) (fun _ k => XS.aloadN X0.here hx rfl (hb hby d14_0) rfl rfl k) ?_
  obtain ⟨cq1, kq1, q1a, q1b, q1c⟩ := isOf hZ e0 E_x1
  obtain ⟨_, _, ⟨T1, L1, k1, n1⟩, -, X1, ⟨Lc1, hQ1, l1, y1, z1⟩, st1⟩ := X0.virtualBack hx (y := (⟨"com/example/keys_to_structures/keystostructures/store/TimedEntry", "position", "()I"⟩ : MethodName)) (z := (⟨"com/example/keys_to_structures/keystostructures/store/TimedEntry", "position", "()I"⟩ : MethodName)) hown (mvT hZ (hw _ (List.mem_of_getElem? (i := 85) rfl))) (mvT hZ (hw _ (List.mem_of_getElem? (i := 86) rfl))) (notFace_of_selects (args := #[]) (mvT hZ (hw _ (List.mem_of_getElem? (i := 88) rfl)))) (mvT hZ (hw _ (List.mem_of_getElem? (i := 88) rfl))) (mvT hZ (hw _ (List.mem_of_getElem? (i := 87) rfl))) (by decide) (backOf (W := 0) (rmPo l Z aV hw [] x1 (1 : Int32) h0 n0 Zn F_p_x1) hZ (hw _ (List.mem_of_getElem? (i := 89) rfl)) (hw _ (List.mem_of_getElem? (i := 2) rfl)) (by decide) (by decide)) q1a q1c (g := (mkF m 1 #[.val (.ref a0), .val (.ref x1), .unset, .unset] [(.ref x1)])) rfl (by rw [hml]; rfl) (Steps.refl _) (argsL := []) (rest := []) (lenOf pd_5 rfl) rfl (by show 2 * 0 + _ ≤ _; exact Nat.le_of_eq rfl) (hb hby d14_1) (fun _ _ => ⟨rfl, e0, (by decide : 0 + 0 ≤ _), (by decide : 0 + 0 ≤ _)⟩)
  dsimp only [Pt.U, Pt.locs, Pt.cells, Pt.slots] at X1 l1 y1 z1 st1 hQ1
  subst l1 y1 z1
  obtain ⟨rfl, N1q, e1⟩ := hQ1
  have N1 := Fr.app N0 N1q
  refine Run.st (S' := T1.setTop (mkF m 7 #[.val (.ref a0), .val (.ref x1), .val (.int (1 : Int32)), .unset] [(.ref a0), (.ref a0)])) (fun _ k => st1.trans (XS.istoreN X1.here hx rfl (hb hby d14_4) rfl (l' := #[.val (.ref a0), .val (.ref x1), .val (.int (1 : Int32)), .unset]) rfl (XS.aloadN X1.here hx rfl (hb hby d14_5) rfl rfl (XS.dup X1.here hx rfl (hb hby d14_6) rfl rfl k)))) ?_
  obtain ⟨T2, X2, e2, st2⟩ := getF X1 hx hZ hown (host := "") (Or.inl (hw _ (List.mem_of_getElem? (i := 46) rfl))) Via.refl e1 F_size (g := (mkF m 7 #[.val (.ref a0), .val (.ref x1), .val (.int (1 : Int32)), .unset] [(.ref a0), (.ref a0)])) rfl rfl (hb hby d14_7)
  refine Run.st (S' := T2.setTop (mkF m 12 #[.val (.ref a0), .val (.ref x1), .val (.int (1 : Int32)), .unset] [(.int (2 : Int32)), (.ref a0)])) (fun _ k => st2 _ (XS.iconst X2.here hx rfl (hb hby d14_10) (XS.isub X2.here hx rfl (hb hby d14_11) rfl k))) ?_
  obtain ⟨T3, h3, X3, e3, W3, st3⟩ := putF X2 hx hZ hown (host := "") (Or.inl (hw _ (List.mem_of_getElem? (i := 46) rfl))) Via.refl e2 F_size E_a0 (Or.inl (hw _ (List.mem_of_getElem? (i := 47) rfl))) (hw _ (List.mem_of_getElem? (i := 31) rfl)) (ty := .int) (by decide) rfl rfl (g := (mkF m 12 #[.val (.ref a0), .val (.ref x1), .val (.int (1 : Int32)), .unset] [(.int (2 : Int32)), (.ref a0)])) rfl rfl (hb hby d14_12)
  have F_size := F_size.same W3
  have E_a0 := E_a0.wr W3
  have F_heap := F_heap.other W3 (Or.inr (slot_ne (Or.inl (hw _ (List.mem_of_getElem? (i := 40) rfl))) (Or.inl (hw _ (List.mem_of_getElem? (i := 47) rfl))) (by decide) (t := (.array (.object "com/example/keys_to_structures/keystostructures/store/TimedEntry"))) (t' := .int) (by decide) (by decide)))
  have V_hp := V_hp.other W3 (Ne.symm ne_a0__hp)
  have E_x0 := E_x0.wr W3
  have F_d_x0 := F_d_x0.other W3 (Or.inl (Ne.symm ne_a0__x0))
  have F_p_x0 := F_p_x0.other W3 (Or.inl (Ne.symm ne_a0__x0))
  have E_x1 := E_x1.wr W3
  have F_d_x1 := F_d_x1.other W3 (Or.inl (Ne.symm ne_a0__x1))
  have F_p_x1 := F_p_x1.other W3 (Or.inl (Ne.symm ne_a0__x1))
  have E_x2 := E_x2.wr W3
  have F_d_x2 := F_d_x2.other W3 (Or.inl (Ne.symm ne_a0__x2))
  have F_p_x2 := F_p_x2.other W3 (Or.inl (Ne.symm ne_a0__x2))
  have N3 := Fr.snoc X3 N1 g_a0
  have Kp := Kp.wr W3 (Or.inl (by simp))
  have Zn := Nat.le_trans Zn (Nat.le_of_eq W3.size.symm)
  refine Run.st (S' := T3.setTop (mkF m 16 #[.val (.ref a0), .val (.ref x1), .val (.int (1 : Int32)), .unset] [(.ref a0)])) (fun _ k => st3 _ (XS.aloadN X3.here hx rfl (hb hby d14_15) rfl rfl k)) ?_
  obtain ⟨T4, X4, e4, st4⟩ := getF X3 hx hZ hown (host := "") (Or.inl (hw _ (List.mem_of_getElem? (i := 39) rfl))) Via.refl e3 F_heap (g := (mkF m 16 #[.val (.ref a0), .val (.ref x1), .val (.int (1 : Int32)), .unset] [(.ref a0)])) rfl rfl (hb hby d14_16)
  refine Run.st (S' := T4.setTop (mkF m 20 #[.val (.ref a0), .val (.ref x1), .val (.int (1 : Int32)), .unset] [(.ref a0), (.ref hp)])) (fun _ k => st4 _ (XS.aloadN X4.here hx rfl (hb hby d14_19) rfl rfl k)) ?_
  obtain ⟨T5, X5, e5, st5⟩ := getF X4 hx hZ hown (host := "") (Or.inl (hw _ (List.mem_of_getElem? (i := 46) rfl))) Via.refl e4 F_size (g := (mkF m 20 #[.val (.ref a0), .val (.ref x1), .val (.int (1 : Int32)), .unset] [(.ref a0), (.ref hp)])) rfl rfl (hb hby d14_20)
  refine Run.st (S' := T5.setTop (mkF m 23 #[.val (.ref a0), .val (.ref x1), .val (.int (1 : Int32)), .unset] [(.int (2 : Int32)), (.ref hp)])) (fun _ k => st5 _ k) ?_
  obtain ⟨cl6, Ar6, qa6, Sa6, Na6, Ha6, Ga6⟩ := id V_hp
  have hin6 : ¬ ((2 : Int32) < 0 ∨ cl6.slots.size ≤ ((2 : Int32)).toNatClampNeg) := inb_of Sa6 ⟨by decide, by decide⟩
  have hat6 : cl6.slots[((2 : Int32)).toNatClampNeg]? = some (.ref x2) := Has.at Ha6 hin6 rfl
  refine Run.st (S' := T5.setTop (mkF m 26 #[.val (.ref a0), .val (.ref x1), .val (.int (1 : Int32)), .val (.ref x2)] [(.ref a0)])) (fun _ k => X5.aaload hx (j := (2 : Int32)) (v := (.ref x2)) (by rw [e5]; exact Ar6.1) (State.isArrayOf_alike hZ.alike Ar6.2.1) rfl Ar6.2.2 hin6 hat6 (g := (mkF m 23 #[.val (.ref a0), .val (.ref x1), .val (.int (1 : Int32)), .unset] [(.int (2 : Int32)), (.ref hp)])) rfl rfl (hb hby d14_23) _ (XS.astoreN X5.here hx rfl (hb hby d14_24) rfl rfl (l' := #[.val (.ref a0), .val (.ref x1), .val (.int (1 : Int32)), .val (.ref x2)]) rfl (XS.aloadN X5.here hx rfl (hb hby d14_25) rfl rfl k))) ?_
  obtain ⟨T7, X7, e7, st7⟩ := getF X5 hx hZ hown (host := "") (Or.inl (hw _ (List.mem_of_getElem? (i := 39) rfl))) Via.refl e5 F_heap (g := (mkF m 26 #[.val (.ref a0), .val (.ref x1), .val (.int (1 : Int32)), .val (.ref x2)] [(.ref a0)])) rfl rfl (hb hby d14_26)
  refine Run.st (S' := T7.setTop (mkF m 30 #[.val (.ref a0), .val (.ref x1), .val (.int (1 : Int32)), .val (.ref x2)] [(.ref a0), (.ref hp)])) (fun _ k => st7 _ (XS.aloadN X7.here hx rfl (hb hby d14_29) rfl rfl k)) ?_
  obtain ⟨T8, X8, e8, st8⟩ := getF X7 hx hZ hown (host := "") (Or.inl (hw _ (List.mem_of_getElem? (i := 46) rfl))) Via.refl e7 F_size (g := (mkF m 30 #[.val (.ref a0), .val (.ref x1), .val (.int (1 : Int32)), .val (.ref x2)] [(.ref a0), (.ref hp)])) rfl rfl (hb hby d14_30)
  refine Run.st (S' := T8.setTop (mkF m 34 #[.val (.ref a0), .val (.ref x1), .val (.int (1 : Int32)), .val (.ref x2)] [.null, (.int (2 : Int32)), (.ref hp)])) (fun _ k => st8 _ (XS.aconstNull X8.here hx rfl (hb hby d14_33) k)) ?_
  obtain ⟨cl9, Ar9, qa9, Sa9, Na9, Ha9, Ga9⟩ := V_hp
  have hin9 : ¬ ((2 : Int32) < 0 ∨ cl9.slots.size ≤ ((2 : Int32)).toNatClampNeg) := inb_of Sa9 ⟨by decide, by decide⟩
  obtain ⟨T9, h9, X9, e9, W9, st9⟩ := stR X8 hx hZ e8 Ar9 (j := (2 : Int32)) hin9 rfl (Or.inl rfl) (g := (mkF m 34 #[.val (.ref a0), .val (.ref x1), .val (.int (1 : Int32)), .val (.ref x2)] [.null, (.int (2 : Int32)), (.ref hp)])) rfl rfl (hb hby d14_34)
  have V_hp := Arv.set Ar9 qa9 Sa9 Na9 Ha9 Ga9 rfl W9 2 rfl (Nat.le_of_ble_eq_true rfl)
  have V_hp : Arv Z h9 hp kA (.object "com/example/keys_to_structures/keystostructures/store/TimedEntry") (16 : Int32) [(.ref x0), (.ref x1), .null, .null, .null, .null, .null, .null, .null, .null, .null, .null, .null, .null, .null, .null] .null := V_hp
  have E_a0 := E_a0.wr W9
  have F_heap := F_heap.other W9 (Or.inl ne_a0__hp)
  have F_size := F_size.other W9 (Or.inl ne_a0__hp)
  have E_x0 := E_x0.wr W9
  have F_d_x0 := F_d_x0.other W9 (Or.inl (Ne.symm ne_hp__x0))
  have F_p_x0 := F_p_x0.other W9 (Or.inl (Ne.symm ne_hp__x0))
  have E_x1 := E_x1.wr W9
  have F_d_x1 := F_d_x1.other W9 (Or.inl (Ne.symm ne_hp__x1))
  have F_p_x1 := F_p_x1.other W9 (Or.inl (Ne.symm ne_hp__x1))
  have E_x2 := E_x2.wr W9
  have F_d_x2 := F_d_x2.other W9 (Or.inl (Ne.symm ne_hp__x2))
  have F_p_x2 := F_p_x2.other W9 (Or.inl (Ne.symm ne_hp__x2))
  have N9 := Fr.snoc X9 N3 g_hp
  have Kp := Kp.wr W9 (Or.inl (by simp))
  have Zn := Nat.le_trans Zn (Nat.le_of_eq W9.size.symm)
  refine Run.st (S' := T9.setTop (mkF m 37 #[.val (.ref a0), .val (.ref x1), .val (.int (1 : Int32)), .val (.ref x2)] [(.ref a0), (.int (1 : Int32))])) (fun _ k => st9 _ (XS.iloadN X9.here hx rfl (hb hby d14_35) rfl (XS.aloadN X9.here hx rfl (hb hby d14_36) rfl rfl k))) ?_
  obtain ⟨T10, X10, e10, st10⟩ := getF X9 hx hZ hown (host := "") (Or.inl (hw _ (List.mem_of_getElem? (i := 46) rfl))) Via.refl e9 F_size (g := (mkF m 37 #[.val (.ref a0), .val (.ref x1), .val (.int (1 : Int32)), .val (.ref x2)] [(.ref a0), (.int (1 : Int32))])) rfl rfl (hb hby d14_37)
  refine Run.st (S' := T10.setTop (mkF m 46 #[.val (.ref a0), .val (.ref x1), .val (.int (1 : Int32)), .val (.ref x2)] [(.int (1 : Int32)), (.ref x2), (.ref a0)])) (fun _ k => st10 _ (XS.icmpNo X10.here hx rfl (hb hby d14_40) rfl (tlt (show (1 : Int32) < (2 : Int32) from (by decide))).2.1 (XS.aloadN X10.here hx rfl (hb hby d14_43) rfl rfl (XS.aloadN X10.here hx rfl (hb hby d14_44) rfl rfl (XS.iloadN X10.here hx rfl (hb hby d14_45) rfl k))))) ?_
  obtain ⟨cq11, q11, q11'⟩ := E_a0.cell
  obtain ⟨_, _, ⟨T11, L11, k11, n11⟩, -, X11, ⟨Lc11, hQ11, l11, y11, z11⟩, st11⟩ := X10.privateBack hx (y := (⟨"com/example/keys_to_structures/keystostructures/store/ExpiryQueue", "moveDown", "(Lcom/example/keys_to_structures/keystostructures/store/TimedEntry;I)V"⟩ : MethodName)) hown (mvT hZ (hw _ (List.mem_of_getElem? (i := 90) rfl))) (mvT hZ (hw _ (List.mem_of_getElem? (i := 91) rfl))) (selSelf (y := (⟨"com/example/keys_to_structures/keystostructures/store/ExpiryQueue", "moveDown", "(Lcom/example/keys_to_structures/keystostructures/store/TimedEntry;I)V"⟩ : MethodName)) (mvT hZ (hw _ (List.mem_of_getElem? (i := 31) rfl))) (Cond.privateMethod_at (mvP hZ (hw _ (List.mem_of_getElem? (i := 92) rfl)) (args := #[]))) (mvT hZ (hw _ (List.mem_of_getElem? (i := 91) rfl))) (by decide)) (Cond.privateMethod_at (mvP hZ (hw _ (List.mem_of_getElem? (i := 92) rfl)) (args := #[]))) (mvT hZ (hw _ (List.mem_of_getElem? (i := 93) rfl))) (by decide) (backOf (W := 0) (rmMdA2 l Z aV hw [] a0 x2 hp kA (.ref x0) (.ref x1) .null dx2 (2 : Int32) h9 n0 Zn g_hp O_kA g_x2 E_a0 F_heap F_size V_hp E_x2 F_d_x2 F_p_x2 ne_a0__hp ne_a0__x2 ne_hp__x2) hZ (hw _ (List.mem_of_getElem? (i := 93) rfl)) (hw _ (List.mem_of_getElem? (i := 32) rfl)) (by decide) (by decide)) (g := (mkF m 46 #[.val (.ref a0), .val (.ref x1), .val (.int (1 : Int32)), .val (.ref x2)] [(.int (1 : Int32)), (.ref x2), (.ref a0)])) rfl (by rw [hml]; rfl) (Steps.refl _) (a := a0) (by rw [e10]; exact q11) q11' (argsL := [(.ref x2), (.int (1 : Int32))]) (rest := []) (lenOf pd_3 rfl) rfl (by show 2 * 0 + _ ≤ _; exact Nat.le_of_eq rfl) (hb hby d14_46) (fun _ _ => ⟨rfl, e10, (by decide : 0 + 0 ≤ _), (by decide : 0 + 0 ≤ _)⟩)
  dsimp only [Pt.U, Pt.locs, Pt.cells, Pt.slots] at X11 l11 y11 z11 st11 hQ11
  subst l11 y11 z11
  obtain ⟨rfl, N11q, K11, q11_0, q11_1, q11_2, q11_3⟩ := hQ11
  have E_a0 := E_a0.keep K11
  have F_heap := F_heap.keep K11 (ninS ne_a0__hp (ninS ne_a0__x2 nin0))
  have F_size := F_size.keep K11 (ninS ne_a0__hp (ninS ne_a0__x2 nin0))
  have E_x0 := E_x0.keep K11
  have F_d_x0 := F_d_x0.keep K11 (ninS (Ne.symm ne_hp__x0) (ninS ne_x0__x2 nin0))
  have F_p_x0 := F_p_x0.keep K11 (ninS (Ne.symm ne_hp__x0) (ninS ne_x0__x2 nin0))
  have E_x1 := E_x1.keep K11
  have F_d_x1 := F_d_x1.keep K11 (ninS (Ne.symm ne_hp__x1) (ninS ne_x1__x2 nin0))
  have F_p_x1 := F_p_x1.keep K11 (ninS (Ne.symm ne_hp__x1) (ninS ne_x1__x2 nin0))
  have V_hp := q11_0
  have E_x2 := q11_1
  have F_d_x2 := q11_2
  have F_p_x2 := q11_3
  have Kp := Kp.trans K11 (allS (Or.inl (by simp)) (allS (Or.inl (by simp)) all0))
  have Zn := Nat.le_trans Zn K11.1
  have N11 := Fr.app N9 N11q
  refine Run.st (S' := T11.setTop (mkF m 51 #[.val (.ref a0), .val (.ref x1), .val (.int (1 : Int32)), .val (.ref x2)] [(.ref a0), (.ref a0)])) (fun _ k => st11.trans (XS.aloadN X11.here hx rfl (hb hby d14_49) rfl rfl (XS.aloadN X11.here hx rfl (hb hby d14_50) rfl rfl k))) ?_
  obtain ⟨T12, X12, e12, st12⟩ := getF X11 hx hZ hown (host := "") (Or.inl (hw _ (List.mem_of_getElem? (i := 39) rfl))) Via.refl rfl F_heap (g := (mkF m 51 #[.val (.ref a0), .val (.ref x1), .val (.int (1 : Int32)), .val (.ref x2)] [(.ref a0), (.ref a0)])) rfl rfl (hb hby d14_51)
  refine Run.st (S' := T12.setTop (mkF m 55 #[.val (.ref a0), .val (.ref x1), .val (.int (1 : Int32)), .val (.ref x2)] [(.int (1 : Int32)), (.ref hp), (.ref a0)])) (fun _ k => st12 _ (XS.iloadN X12.here hx rfl (hb hby d14_54) rfl k)) ?_
  obtain ⟨cl13, Ar13, qa13, Sa13, Na13, Ha13, Ga13⟩ := id V_hp
  have hin13 : ¬ ((1 : Int32) < 0 ∨ cl13.slots.size ≤ ((1 : Int32)).toNatClampNeg) := inb_of Sa13 ⟨by decide, by decide⟩
  have hat13 : cl13.slots[((1 : Int32)).toNatClampNeg]? = some (.ref x2) := Has.at Ha13 hin13 rfl
  refine Run.st (S' := T12.setTop (mkF m 57 #[.val (.ref a0), .val (.ref x1), .val (.int (1 : Int32)), .val (.ref x2)] [(.int (1 : Int32)), (.ref x2), (.ref a0)])) (fun _ k => X12.aaload hx (j := (1 : Int32)) (v := (.ref x2)) (by rw [e12]; exact Ar13.1) (State.isArrayOf_alike hZ.alike Ar13.2.1) rfl Ar13.2.2 hin13 hat13 (g := (mkF m 55 #[.val (.ref a0), .val (.ref x1), .val (.int (1 : Int32)), .val (.ref x2)] [(.int (1 : Int32)), (.ref hp), (.ref a0)])) rfl rfl (hb hby d14_55) _ (XS.iloadN X12.here hx rfl (hb hby d14_56) rfl k)) ?_
  obtain ⟨cq14, q14, q14'⟩ := E_a0.cell
  obtain ⟨_, _, ⟨T14, L14, k14, n14⟩, -, X14, ⟨Lc14, hQ14, l14, y14, z14⟩, st14⟩ := X12.privateBack hx (y := (⟨"com/example/keys_to_structures/keystostructures/store/ExpiryQueue", "moveUp", "(Lcom/example/keys_to_structures/keystostructures/store/TimedEntry;I)V"⟩ : MethodName)) hown (mvT hZ (hw _ (List.mem_of_getElem? (i := 48) rfl))) (mvT hZ (hw _ (List.mem_of_getElem? (i := 49) rfl))) (selSelf (y := (⟨"com/example/keys_to_structures/keystostructures/store/ExpiryQueue", "moveUp", "(Lcom/example/keys_to_structures/keystostructures/store/TimedEntry;I)V"⟩ : MethodName)) (mvT hZ (hw _ (List.mem_of_getElem? (i := 31) rfl))) (Cond.privateMethod_at (mvP hZ (hw _ (List.mem_of_getElem? (i := 50) rfl)) (args := #[]))) (mvT hZ (hw _ (List.mem_of_getElem? (i := 49) rfl))) (by decide)) (Cond.privateMethod_at (mvP hZ (hw _ (List.mem_of_getElem? (i := 50) rfl)) (args := #[]))) (mvT hZ (hw _ (List.mem_of_getElem? (i := 51) rfl))) (by decide) (backOf (W := 0) (rmMu1 l Z aV hw [] a0 x2 hp kA (.ref x2) .null dx2 (1 : Int32) x0 dx0 (0 : Int32) T11.heap n0 Zn g_hp O_kA g_x2 g_x0 E_a0 F_heap V_hp E_x2 F_d_x2 F_p_x2 E_x0 F_d_x0 F_p_x0 ne_a0__hp ne_a0__x2 ne_a0__x0 ne_hp__x2 ne_hp__x0 (Ne.symm ne_x0__x2) hsw0) hZ (hw _ (List.mem_of_getElem? (i := 51) rfl)) (hw _ (List.mem_of_getElem? (i := 32) rfl)) (by decide) (by decide)) (g := (mkF m 57 #[.val (.ref a0), .val (.ref x1), .val (.int (1 : Int32)), .val (.ref x2)] [(.int (1 : Int32)), (.ref x2), (.ref a0)])) rfl (by rw [hml]; rfl) (Steps.refl _) (a := a0) (by rw [e12]; exact q14) q14' (argsL := [(.ref x2), (.int (1 : Int32))]) (rest := []) (lenOf pd_3 rfl) rfl (by show 2 * 0 + _ ≤ _; exact Nat.le_of_eq rfl) (hb hby d14_57) (fun _ _ => ⟨rfl, e12, (by decide : 0 + 0 ≤ _), (by decide : 0 + 0 ≤ _)⟩)
  dsimp only [Pt.U, Pt.locs, Pt.cells, Pt.slots] at X14 l14 y14 z14 st14 hQ14
  subst l14 y14 z14
  obtain ⟨rfl, N14q, K14, q14_0, q14_1, q14_2, q14_3⟩ := hQ14
  have E_a0 := E_a0.keep K14
  have F_heap := F_heap.keep K14 (ninS ne_a0__hp (ninS ne_a0__x2 nin0))
  have F_size := F_size.keep K14 (ninS ne_a0__hp (ninS ne_a0__x2 nin0))
  have E_x0 := E_x0.keep K14
  have F_d_x0 := F_d_x0.keep K14 (ninS (Ne.symm ne_hp__x0) (ninS ne_x0__x2 nin0))
  have F_p_x0 := F_p_x0.keep K14 (ninS (Ne.symm ne_hp__x0) (ninS ne_x0__x2 nin0))
  have E_x1 := E_x1.keep K14
  have F_d_x1 := F_d_x1.keep K14 (ninS (Ne.symm ne_hp__x1) (ninS ne_x1__x2 nin0))
  have F_p_x1 := F_p_x1.keep K14 (ninS (Ne.symm ne_hp__x1) (ninS ne_x1__x2 nin0))
  have V_hp := q14_0
  have E_x2 := q14_1
  have F_d_x2 := q14_2
  have F_p_x2 := q14_3
  have Kp := Kp.trans K14 (allS (Or.inl (by simp)) (allS (Or.inl (by simp)) all0))
  have Zn := Nat.le_trans Zn K14.1
  have N14 := Fr.app N11 N14q
  refine Run.st (S' := T14.setTop (mkF m 61 #[.val (.ref a0), .val (.ref x1), .val (.int (1 : Int32)), .val (.ref x2)] [(.ref a0)])) (fun _ k => st14.trans (XS.aloadN X14.here hx rfl (hb hby d14_60) rfl rfl k)) ?_
  obtain ⟨T15, X15, e15, st15⟩ := getF X14 hx hZ hown (host := "") (Or.inl (hw _ (List.mem_of_getElem? (i := 46) rfl))) Via.refl rfl F_size (g := (mkF m 61 #[.val (.ref a0), .val (.ref x1), .val (.int (1 : Int32)), .val (.ref x2)] [(.ref a0)])) rfl rfl (hb hby d14_61)
  refine Run.st (S' := T15.setTop (mkF m 65 #[.val (.ref a0), .val (.ref x1), .val (.int (1 : Int32)), .val (.ref x2)] [(.ref a0), (.int (2 : Int32))])) (fun _ k => st15 _ (XS.aloadN X15.here hx rfl (hb hby d14_64) rfl rfl k)) ?_
  obtain ⟨T16, X16, e16, st16⟩ := getF X15 hx hZ hown (host := "") (Or.inl (hw _ (List.mem_of_getElem? (i := 39) rfl))) Via.refl e15 F_heap (g := (mkF m 65 #[.val (.ref a0), .val (.ref x1), .val (.int (1 : Int32)), .val (.ref x2)] [(.ref a0), (.int (2 : Int32))])) rfl rfl (hb hby d14_65)
  refine Run.st (S' := T16.setTop (mkF m 68 #[.val (.ref a0), .val (.ref x1), .val (.int (1 : Int32)), .val (.ref x2)] [(.ref hp), (.int (2 : Int32))])) (fun _ k => st16 _ k) ?_
  obtain ⟨cl17, Ar17, -, Sa17, Na17, -, -⟩ := id V_hp
  refine Run.st (S' := T16.setTop (mkF m 69 #[.val (.ref a0), .val (.ref x1), .val (.int (1 : Int32)), .val (.ref x2)] [(.int (16 : Int32)), (.int (2 : Int32))])) (fun _ k => X16.arraylength hx (by rw [e16]; exact Ar17.1) (State.isArrayOf_alike hZ.alike Ar17.2.1) (g := (mkF m 68 #[.val (.ref a0), .val (.ref x1), .val (.int (1 : Int32)), .val (.ref x2)] [(.ref hp), (.int (2 : Int32))])) rfl rfl (hb hby d14_68) _ (by rw [len_of Sa17 Na17]; exact k)) ?_
  refine Run.st (S' := T16.setTop (mkF m 75 #[.val (.ref a0), .val (.ref x1), .val (.int (1 : Int32)), .val (.ref x2)] [(.ref a0)])) (fun _ k => XS.iconst X16.here hx rfl (hb hby d14_69) (XS.idiv X16.here hx rfl (hb hby d14_70) rfl (by decide) (XS.icmpNo X16.here hx rfl (hb hby d14_71) rfl (tlt (show (2 : Int32) < (4 : Int32) from (by decide))).2.1 (XS.aloadN X16.here hx rfl (hb hby d14_74) rfl rfl k)))) ?_
  obtain ⟨T18, X18, e18, st18⟩ := getF X16 hx hZ hown (host := "") (Or.inl (hw _ (List.mem_of_getElem? (i := 39) rfl))) Via.refl e16 F_heap (g := (mkF m 75 #[.val (.ref a0), .val (.ref x1), .val (.int (1 : Int32)), .val (.ref x2)] [(.ref a0)])) rfl rfl (hb hby d14_75)
  refine Run.st (S' := T18.setTop (mkF m 78 #[.val (.ref a0), .val (.ref x1), .val (.int (1 : Int32)), .val (.ref x2)] [(.ref hp)])) (fun _ k => st18 _ k) ?_
  obtain ⟨cl19, Ar19, -, Sa19, Na19, -, -⟩ := id V_hp
  refine Run.st (S' := T18.setTop (mkF m 79 #[.val (.ref a0), .val (.ref x1), .val (.int (1 : Int32)), .val (.ref x2)] [(.int (16 : Int32))])) (fun _ k => X18.arraylength hx (by rw [e18]; exact Ar19.1) (State.isArrayOf_alike hZ.alike Ar19.2.1) (g := (mkF m 78 #[.val (.ref a0), .val (.ref x1), .val (.int (1 : Int32)), .val (.ref x2)] [(.ref hp)])) rfl rfl (hb hby d14_78) _ (by rw [len_of Sa19 Na19]; exact k)) ?_
  refine Run.st (S' := T18.setTop (mkF m 95 #[.val (.ref a0), .val (.ref x1), .val (.int (1 : Int32)), .val (.ref x2)] [])) (fun _ k => XS.bipush X18.here hx rfl (hb hby d14_79) (XS.icmpYes X18.here hx rfl (pc0 := 81) (pc' := 95) rfl (hb hby d14_81) rfl (flt (show ¬ ((16 : Int32) < (16 : Int32)) from (by decide))).2.2.2 (by decide) (by decide) k)) ?_
  refine Run.outV X18 hx Bd.notSynchronized Bd.returns (hb hby d14_95) (by decide) (by decide) ?_
  rw [e18]
  exact ⟨rfl, N14, Kp, E_a0, F_heap, F_size, V_hp, E_x0, F_d_x0, F_p_x0, E_x1, F_d_x1, F_p_x1, E_x2, F_d_x2, F_p_x2⟩
theorem ef_Rm32 (m : MethodId) (a0 : Addr) (x2 : Addr) : entryFrame m #[(.ref a0), (.ref x2)] 4 = mkF m 0 #[.val (.ref a0), .val (.ref x2), .unset, .unset] [] := by first | (simp [entryFrame, mkF, argsToLocals, Value.category]; done) | rfl
def QRm32 (Z : State) (a0 : Addr) (hp : Addr) (kA : ClassId) (x0 : Addr) (dx0 : Int64) (x1 : Addr) (dx1 : Int64) (x2 : Addr) (dx2 : Int64) (h0 : Heap) (n0 : Nat) (v : Option Value) (h : Heap) (L : List Loc) : Prop := v = none ∧ Fr n0 L ∧ Keep h0 h [a0, hp, x0, x1, x2] ∧ Exa Z h a0 "com/example/keys_to_structures/keystostructures/store/ExpiryQueue" ∧ Fld Z h a0 "com/example/keys_to_structures/keystostructures/store/ExpiryQueue" "heap" "[Lcom/example/keys_to_structures/keystostructures/store/TimedEntry;" (.ref hp) ∧ Fld Z h a0 "com/example/keys_to_structures/keystostructures/store/ExpiryQueue" "size" "I" (.int (2 : Int32)) ∧ Arv Z h hp kA (.object "com/example/keys_to_structures/keystostructures/store/TimedEntry") (16 : Int32) [(.ref x0), (.ref x1), .null, .null, .null, .null, .null, .null, .null, .null, .null, .null, .null, .null, .null, .null] .null ∧ Exa Z h x0 "com/example/keys_to_structures/keystostructures/store/TimedEntry" ∧ Fld Z h x0 "com/example/keys_to_structures/keystostructures/store/TimedEntry" "deadline" "J" (.long dx0) ∧ Fld Z h x0 "com/example/keys_to_structures/keystostructures/store/TimedEntry" "position" "I" (.int (0 : Int32)) ∧ Exa Z h x1 "com/example/keys_to_structures/keystostructures/store/TimedEntry" ∧ Fld Z h x1 "com/example/keys_to_structures/keystostructures/store/TimedEntry" "deadline" "J" (.long dx1) ∧ Fld Z h x1 "com/example/keys_to_structures/keystostructures/store/TimedEntry" "position" "I" (.int (1 : Int32)) ∧ Exa Z h x2 "com/example/keys_to_structures/keystostructures/store/TimedEntry" ∧ Fld Z h x2 "com/example/keys_to_structures/keystostructures/store/TimedEntry" "deadline" "J" (.long dx2) ∧ Fld Z h x2 "com/example/keys_to_structures/keystostructures/store/TimedEntry" "position" "I" (.int (2 : Int32))
set_option maxRecDepth 65536 in
set_option maxHeartbeats 40000000 in
theorem rmRm32 (l : Launch) (Z : State) (aV : Array Value) (hw : ∀ d ∈ tables_1, d.before aV Z = true) (ws : List Jvm.Cond) (a0 : Addr) (hp : Addr) (kA : ClassId) (x0 : Addr) (dx0 : Int64) (x1 : Addr) (dx1 : Int64) (x2 : Addr) (dx2 : Int64) (h0 : Heap) (n0 : Nat) (Zn : n0 ≤ h0.size) (g_a0 : n0 ≤ a0) (g_hp : n0 ≤ hp) (O_kA : Ovr Z kA "com/example/keys_to_structures/keystostructures/store/TimedEntry") (g_x0 : n0 ≤ x0) (g_x1 : n0 ≤ x1) (g_x2 : n0 ≤ x2) (E_a0 : Exa Z h0 a0 "com/example/keys_to_structures/keystostructures/store/ExpiryQueue") (F_heap : Fld Z h0 a0 "com/example/keys_to_structures/keystostructures/store/ExpiryQueue" "heap" "[Lcom/example/keys_to_structures/keystostructures/store/TimedEntry;" (.ref hp)) (F_size : Fld Z h0 a0 "com/example/keys_to_structures/keystostructures/store/ExpiryQueue" "size" "I" (.int (3 : Int32))) (V_hp : Arv Z h0 hp kA (.object "com/example/keys_to_structures/keystostructures/store/TimedEntry") (16 : Int32) [(.ref x0), (.ref x1), (.ref x2), .null, .null, .null, .null, .null, .null, .null, .null, .null, .null, .null, .null, .null] .null) (E_x0 : Exa Z h0 x0 "com/example/keys_to_structures/keystostructures/store/TimedEntry") (F_d_x0 : Fld Z h0 x0 "com/example/keys_to_structures/keystostructures/store/TimedEntry" "deadline" "J" (.long dx0)) (F_p_x0 : Fld Z h0 x0 "com/example/keys_to_structures/keystostructures/store/TimedEntry" "position" "I" (.int (0 : Int32))) (E_x1 : Exa Z h0 x1 "com/example/keys_to_structures/keystostructures/store/TimedEntry") (F_d_x1 : Fld Z h0 x1 "com/example/keys_to_structures/keystostructures/store/TimedEntry" "deadline" "J" (.long dx1)) (F_p_x1 : Fld Z h0 x1 "com/example/keys_to_structures/keystostructures/store/TimedEntry" "position" "I" (.int (1 : Int32))) (E_x2 : Exa Z h0 x2 "com/example/keys_to_structures/keystostructures/store/TimedEntry") (F_d_x2 : Fld Z h0 x2 "com/example/keys_to_structures/keystostructures/store/TimedEntry" "deadline" "J" (.long dx2)) (F_p_x2 : Fld Z h0 x2 "com/example/keys_to_structures/keystostructures/store/TimedEntry" "position" "I" (.int (2 : Int32))) (ne_a0__hp : a0 ≠ hp) (ne_a0__x0 : a0 ≠ x0) (ne_a0__x1 : a0 ≠ x1) (ne_a0__x2 : a0 ≠ x2) (ne_hp__x0 : hp ≠ x0) (ne_hp__x1 : hp ≠ x1) (ne_hp__x2 : hp ≠ x2) (ne_x0__x1 : x0 ≠ x1) (ne_x0__x2 : x0 ≠ x2) (ne_x1__x2 : x1 ≠ x2) :
    MetFree l (⟨"com/example/keys_to_structures/keystostructures/store/ExpiryQueue", "remove", "(Lcom/example/keys_to_structures/keystostructures/store/TimedEntry;)V"⟩ : MethodName) (head1 (Jvm.Cond.code (⟨"com/example/keys_to_structures/keystostructures/store/ExpiryQueue", "remove", "(Lcom/example/keys_to_structures/keystostructures/store/TimedEntry;)V"⟩ : MethodName) prog_43_method_4_code 4 none :: ws) ({ frames := 3, cells := 0, slots := 0, locals := 43 } : Room)) (fun a U => a = #[(.ref a0), (.ref x2)] ∧ Z.Warmed39 U.vm ∧ U.heap = h0) (fun _ _ _ _ _ => True) (fun _ U o U' => ∃ v L, o = .returned v ∧ QRm32 Z a0 hp kA x0 dx0 x1 dx1 x2 dx2 h0 n0 v U'.heap L ∧ FrameEnd U o U' L ({ frames := 3, cells := 0, slots := 0, locals := 43 } : Room).cells ({ frames := 3, cells := 0, slots := 0, locals := 43 } : Room).slots) := by
  refine MetFree.of_bodySF (plainFor_of_name pn_4) hisR ?_
  intro p e s m args below meth c s₁ Bd hml0 hP hK
  obtain ⟨rfl, hZ, hh⟩ := hP
  have hx := Bd.exec
  have hby := Bd.bytes
  have hml : c.maxLocals = 4 := hml0
  have hown : s.vm.findClass "com/example/keys_to_structures/keystostructures/store/ExpiryQueue" = some m.cls := findClass_of_methodNamed Bd.named
  have hnm := (name_of_methodNamed Bd.named Bd.method).1
  have X0 : Stand p l e ({ frames := 3, cells := 0, slots := 0, locals := 43 } : Room) s m #[(.ref a0), (.ref x2)] below meth c s₁ [] 0 0 := Stand.of_body Bd
  have e0 : s₁.heap = h0 := by rw [← hh, Bd.state]; rfl
  have N0 := Fr.nil n0
  have Kp := Keep.refl h0 [a0, hp, x0, x1, x2]
  show Run p e below (Ends s (QRm32 Z a0 hp kA x0 dx0 x1 dx1 x2 dx2 h0 n0) ({ frames := 3, cells := 0, slots := 0, locals := 43 } : Room).cells ({ frames := 3, cells := 0, slots := 0, locals := 43 } : Room).slots) _
  refine Run.st (S' := s₁.setTop (mkF m 0 #[.val (.ref a0), .val (.ref x2), .unset, .unset] [])) (fun t k => castTop (ef_Rm32 m a0 x2) k) ?_
  refine Run.st (S' := s₁.setTop (mkF m 1 #[.val (.ref a0), .val (.ref x2), .unset, .unset] [(.ref x2)])) (fun _ k => XS.aloadN X0.here hx rfl (hb hby d14_0) rfl rfl k) ?_
  obtain ⟨cq1, kq1, q1a, q1b, q1c⟩ := isOf hZ e0 E_x2
  obtain ⟨_, _, ⟨T1, L1, k1, n1⟩, -, X1, ⟨Lc1, hQ1, l1, y1, z1⟩, st1⟩ := X0.virtualBack hx (y := (⟨"com/example/keys_to_structures/keystostructures/store/TimedEntry", "position", "()I"⟩ : MethodName)) (z := (⟨"com/example/keys_to_structures/keystostructures/store/TimedEntry", "position", "()I"⟩ : MethodName)) hown (mvT hZ (hw _ (List.mem_of_getElem? (i := 85) rfl))) (mvT hZ (hw _ (List.mem_of_getElem? (i := 86) rfl))) (notFace_of_selects (args := #[]) (mvT hZ (hw _ (List.mem_of_getElem? (i := 88) rfl)))) (mvT hZ (hw _ (List.mem_of_getElem? (i := 88) rfl))) (mvT hZ (hw _ (List.mem_of_getElem? (i := 87) rfl))) (by decide) (backOf (W := 0) (rmPo l Z aV hw [] x2 (2 : Int32) h0 n0 Zn F_p_x2) hZ (hw _ (List.mem_of_getElem? (i := 89) rfl)) (hw _ (List.mem_of_getElem? (i := 2) rfl)) (by decide) (by decide)) q1a q1c (g := (mkF m 1 #[.val (.ref a0), .val (.ref x2), .unset, .unset] [(.ref x2)])) rfl (by rw [hml]; rfl) (Steps.refl _) (argsL := []) (rest := []) (lenOf pd_5 rfl) rfl (by show 2 * 0 + _ ≤ _; exact Nat.le_of_eq rfl) (hb hby d14_1) (fun _ _ => ⟨rfl, e0, (by decide : 0 + 0 ≤ _), (by decide : 0 + 0 ≤ _)⟩)
  dsimp only [Pt.U, Pt.locs, Pt.cells, Pt.slots] at X1 l1 y1 z1 st1 hQ1
  subst l1 y1 z1
  obtain ⟨rfl, N1q, e1⟩ := hQ1
  have N1 := Fr.app N0 N1q
  refine Run.st (S' := T1.setTop (mkF m 7 #[.val (.ref a0), .val (.ref x2), .val (.int (2 : Int32)), .unset] [(.ref a0), (.ref a0)])) (fun _ k => st1.trans (XS.istoreN X1.here hx rfl (hb hby d14_4) rfl (l' := #[.val (.ref a0), .val (.ref x2), .val (.int (2 : Int32)), .unset]) rfl (XS.aloadN X1.here hx rfl (hb hby d14_5) rfl rfl (XS.dup X1.here hx rfl (hb hby d14_6) rfl rfl k)))) ?_
  obtain ⟨T2, X2, e2, st2⟩ := getF X1 hx hZ hown (host := "") (Or.inl (hw _ (List.mem_of_getElem? (i := 46) rfl))) Via.refl e1 F_size (g := (mkF m 7 #[.val (.ref a0), .val (.ref x2), .val (.int (2 : Int32)), .unset] [(.ref a0), (.ref a0)])) rfl rfl (hb hby d14_7)
  refine Run.st (S' := T2.setTop (mkF m 12 #[.val (.ref a0), .val (.ref x2), .val (.int (2 : Int32)), .unset] [(.int (2 : Int32)), (.ref a0)])) (fun _ k => st2 _ (XS.iconst X2.here hx rfl (hb hby d14_10) (XS.isub X2.here hx rfl (hb hby d14_11) rfl k))) ?_
  obtain ⟨T3, h3, X3, e3, W3, st3⟩ := putF X2 hx hZ hown (host := "") (Or.inl (hw _ (List.mem_of_getElem? (i := 46) rfl))) Via.refl e2 F_size E_a0 (Or.inl (hw _ (List.mem_of_getElem? (i := 47) rfl))) (hw _ (List.mem_of_getElem? (i := 31) rfl)) (ty := .int) (by decide) rfl rfl (g := (mkF m 12 #[.val (.ref a0), .val (.ref x2), .val (.int (2 : Int32)), .unset] [(.int (2 : Int32)), (.ref a0)])) rfl rfl (hb hby d14_12)
  have F_size := F_size.same W3
  have E_a0 := E_a0.wr W3
  have F_heap := F_heap.other W3 (Or.inr (slot_ne (Or.inl (hw _ (List.mem_of_getElem? (i := 40) rfl))) (Or.inl (hw _ (List.mem_of_getElem? (i := 47) rfl))) (by decide) (t := (.array (.object "com/example/keys_to_structures/keystostructures/store/TimedEntry"))) (t' := .int) (by decide) (by decide)))
  have V_hp := V_hp.other W3 (Ne.symm ne_a0__hp)
  have E_x0 := E_x0.wr W3
  have F_d_x0 := F_d_x0.other W3 (Or.inl (Ne.symm ne_a0__x0))
  have F_p_x0 := F_p_x0.other W3 (Or.inl (Ne.symm ne_a0__x0))
  have E_x1 := E_x1.wr W3
  have F_d_x1 := F_d_x1.other W3 (Or.inl (Ne.symm ne_a0__x1))
  have F_p_x1 := F_p_x1.other W3 (Or.inl (Ne.symm ne_a0__x1))
  have E_x2 := E_x2.wr W3
  have F_d_x2 := F_d_x2.other W3 (Or.inl (Ne.symm ne_a0__x2))
  have F_p_x2 := F_p_x2.other W3 (Or.inl (Ne.symm ne_a0__x2))
  have N3 := Fr.snoc X3 N1 g_a0
  have Kp := Kp.wr W3 (Or.inl (by simp))
  have Zn := Nat.le_trans Zn (Nat.le_of_eq W3.size.symm)
  refine Run.st (S' := T3.setTop (mkF m 16 #[.val (.ref a0), .val (.ref x2), .val (.int (2 : Int32)), .unset] [(.ref a0)])) (fun _ k => st3 _ (XS.aloadN X3.here hx rfl (hb hby d14_15) rfl rfl k)) ?_
  obtain ⟨T4, X4, e4, st4⟩ := getF X3 hx hZ hown (host := "") (Or.inl (hw _ (List.mem_of_getElem? (i := 39) rfl))) Via.refl e3 F_heap (g := (mkF m 16 #[.val (.ref a0), .val (.ref x2), .val (.int (2 : Int32)), .unset] [(.ref a0)])) rfl rfl (hb hby d14_16)
  refine Run.st (S' := T4.setTop (mkF m 20 #[.val (.ref a0), .val (.ref x2), .val (.int (2 : Int32)), .unset] [(.ref a0), (.ref hp)])) (fun _ k => st4 _ (XS.aloadN X4.here hx rfl (hb hby d14_19) rfl rfl k)) ?_
  obtain ⟨T5, X5, e5, st5⟩ := getF X4 hx hZ hown (host := "") (Or.inl (hw _ (List.mem_of_getElem? (i := 46) rfl))) Via.refl e4 F_size (g := (mkF m 20 #[.val (.ref a0), .val (.ref x2), .val (.int (2 : Int32)), .unset] [(.ref a0), (.ref hp)])) rfl rfl (hb hby d14_20)
  refine Run.st (S' := T5.setTop (mkF m 23 #[.val (.ref a0), .val (.ref x2), .val (.int (2 : Int32)), .unset] [(.int (2 : Int32)), (.ref hp)])) (fun _ k => st5 _ k) ?_
  obtain ⟨cl6, Ar6, qa6, Sa6, Na6, Ha6, Ga6⟩ := id V_hp
  have hin6 : ¬ ((2 : Int32) < 0 ∨ cl6.slots.size ≤ ((2 : Int32)).toNatClampNeg) := inb_of Sa6 ⟨by decide, by decide⟩
  have hat6 : cl6.slots[((2 : Int32)).toNatClampNeg]? = some (.ref x2) := Has.at Ha6 hin6 rfl
  refine Run.st (S' := T5.setTop (mkF m 26 #[.val (.ref a0), .val (.ref x2), .val (.int (2 : Int32)), .val (.ref x2)] [(.ref a0)])) (fun _ k => X5.aaload hx (j := (2 : Int32)) (v := (.ref x2)) (by rw [e5]; exact Ar6.1) (State.isArrayOf_alike hZ.alike Ar6.2.1) rfl Ar6.2.2 hin6 hat6 (g := (mkF m 23 #[.val (.ref a0), .val (.ref x2), .val (.int (2 : Int32)), .unset] [(.int (2 : Int32)), (.ref hp)])) rfl rfl (hb hby d14_23) _ (XS.astoreN X5.here hx rfl (hb hby d14_24) rfl rfl (l' := #[.val (.ref a0), .val (.ref x2), .val (.int (2 : Int32)), .val (.ref x2)]) rfl (XS.aloadN X5.here hx rfl (hb hby d14_25) rfl rfl k))) ?_
  obtain ⟨T7, X7, e7, st7⟩ := getF X5 hx hZ hown (host := "") (Or.inl (hw _ (List.mem_of_getElem? (i := 39) rfl))) Via.refl e5 F_heap (g := (mkF m 26 #[.val (.ref a0), .val (.ref x2), .val (.int (2 : Int32)), .val (.ref x2)] [(.ref a0)])) rfl rfl (hb hby d14_26)
  refine Run.st (S' := T7.setTop (mkF m 30 #[.val (.ref a0), .val (.ref x2), .val (.int (2 : Int32)), .val (.ref x2)] [(.ref a0), (.ref hp)])) (fun _ k => st7 _ (XS.aloadN X7.here hx rfl (hb hby d14_29) rfl rfl k)) ?_
  obtain ⟨T8, X8, e8, st8⟩ := getF X7 hx hZ hown (host := "") (Or.inl (hw _ (List.mem_of_getElem? (i := 46) rfl))) Via.refl e7 F_size (g := (mkF m 30 #[.val (.ref a0), .val (.ref x2), .val (.int (2 : Int32)), .val (.ref x2)] [(.ref a0), (.ref hp)])) rfl rfl (hb hby d14_30)
  refine Run.st (S' := T8.setTop (mkF m 34 #[.val (.ref a0), .val (.ref x2), .val (.int (2 : Int32)), .val (.ref x2)] [.null, (.int (2 : Int32)), (.ref hp)])) (fun _ k => st8 _ (XS.aconstNull X8.here hx rfl (hb hby d14_33) k)) ?_
  obtain ⟨cl9, Ar9, qa9, Sa9, Na9, Ha9, Ga9⟩ := V_hp
  have hin9 : ¬ ((2 : Int32) < 0 ∨ cl9.slots.size ≤ ((2 : Int32)).toNatClampNeg) := inb_of Sa9 ⟨by decide, by decide⟩
  obtain ⟨T9, h9, X9, e9, W9, st9⟩ := stR X8 hx hZ e8 Ar9 (j := (2 : Int32)) hin9 rfl (Or.inl rfl) (g := (mkF m 34 #[.val (.ref a0), .val (.ref x2), .val (.int (2 : Int32)), .val (.ref x2)] [.null, (.int (2 : Int32)), (.ref hp)])) rfl rfl (hb hby d14_34)
  have V_hp := Arv.set Ar9 qa9 Sa9 Na9 Ha9 Ga9 rfl W9 2 rfl (Nat.le_of_ble_eq_true rfl)
  have V_hp : Arv Z h9 hp kA (.object "com/example/keys_to_structures/keystostructures/store/TimedEntry") (16 : Int32) [(.ref x0), (.ref x1), .null, .null, .null, .null, .null, .null, .null, .null, .null, .null, .null, .null, .null, .null] .null := V_hp
  have E_a0 := E_a0.wr W9
  have F_heap := F_heap.other W9 (Or.inl ne_a0__hp)
  have F_size := F_size.other W9 (Or.inl ne_a0__hp)
  have E_x0 := E_x0.wr W9
  have F_d_x0 := F_d_x0.other W9 (Or.inl (Ne.symm ne_hp__x0))
  have F_p_x0 := F_p_x0.other W9 (Or.inl (Ne.symm ne_hp__x0))
  have E_x1 := E_x1.wr W9
  have F_d_x1 := F_d_x1.other W9 (Or.inl (Ne.symm ne_hp__x1))
  have F_p_x1 := F_p_x1.other W9 (Or.inl (Ne.symm ne_hp__x1))
  have E_x2 := E_x2.wr W9
  have F_d_x2 := F_d_x2.other W9 (Or.inl (Ne.symm ne_hp__x2))
  have F_p_x2 := F_p_x2.other W9 (Or.inl (Ne.symm ne_hp__x2))
  have N9 := Fr.snoc X9 N3 g_hp
  have Kp := Kp.wr W9 (Or.inl (by simp))
  have Zn := Nat.le_trans Zn (Nat.le_of_eq W9.size.symm)
  refine Run.st (S' := T9.setTop (mkF m 37 #[.val (.ref a0), .val (.ref x2), .val (.int (2 : Int32)), .val (.ref x2)] [(.ref a0), (.int (2 : Int32))])) (fun _ k => st9 _ (XS.iloadN X9.here hx rfl (hb hby d14_35) rfl (XS.aloadN X9.here hx rfl (hb hby d14_36) rfl rfl k))) ?_
  obtain ⟨T10, X10, e10, st10⟩ := getF X9 hx hZ hown (host := "") (Or.inl (hw _ (List.mem_of_getElem? (i := 46) rfl))) Via.refl e9 F_size (g := (mkF m 37 #[.val (.ref a0), .val (.ref x2), .val (.int (2 : Int32)), .val (.ref x2)] [(.ref a0), (.int (2 : Int32))])) rfl rfl (hb hby d14_37)
  refine Run.st (S' := T10.setTop (mkF m 61 #[.val (.ref a0), .val (.ref x2), .val (.int (2 : Int32)), .val (.ref x2)] [(.ref a0)])) (fun _ k => st10 _ (XS.icmpYes X10.here hx rfl (pc0 := 40) (pc' := 60) rfl (hb hby d14_40) rfl (flt (show ¬ ((2 : Int32) < (2 : Int32)) from (by decide))).2.1 (by decide) (by decide) (XS.aloadN X10.here hx rfl (hb hby d14_60) rfl rfl k))) ?_
  obtain ⟨T11, X11, e11, st11⟩ := getF X10 hx hZ hown (host := "") (Or.inl (hw _ (List.mem_of_getElem? (i := 46) rfl))) Via.refl e10 F_size (g := (mkF m 61 #[.val (.ref a0), .val (.ref x2), .val (.int (2 : Int32)), .val (.ref x2)] [(.ref a0)])) rfl rfl (hb hby d14_61)
  refine Run.st (S' := T11.setTop (mkF m 65 #[.val (.ref a0), .val (.ref x2), .val (.int (2 : Int32)), .val (.ref x2)] [(.ref a0), (.int (2 : Int32))])) (fun _ k => st11 _ (XS.aloadN X11.here hx rfl (hb hby d14_64) rfl rfl k)) ?_
  obtain ⟨T12, X12, e12, st12⟩ := getF X11 hx hZ hown (host := "") (Or.inl (hw _ (List.mem_of_getElem? (i := 39) rfl))) Via.refl e11 F_heap (g := (mkF m 65 #[.val (.ref a0), .val (.ref x2), .val (.int (2 : Int32)), .val (.ref x2)] [(.ref a0), (.int (2 : Int32))])) rfl rfl (hb hby d14_65)
  refine Run.st (S' := T12.setTop (mkF m 68 #[.val (.ref a0), .val (.ref x2), .val (.int (2 : Int32)), .val (.ref x2)] [(.ref hp), (.int (2 : Int32))])) (fun _ k => st12 _ k) ?_
  obtain ⟨cl13, Ar13, -, Sa13, Na13, -, -⟩ := id V_hp
  refine Run.st (S' := T12.setTop (mkF m 69 #[.val (.ref a0), .val (.ref x2), .val (.int (2 : Int32)), .val (.ref x2)] [(.int (16 : Int32)), (.int (2 : Int32))])) (fun _ k => X12.arraylength hx (by rw [e12]; exact Ar13.1) (State.isArrayOf_alike hZ.alike Ar13.2.1) (g := (mkF m 68 #[.val (.ref a0), .val (.ref x2), .val (.int (2 : Int32)), .val (.ref x2)] [(.ref hp), (.int (2 : Int32))])) rfl rfl (hb hby d14_68) _ (by rw [len_of Sa13 Na13]; exact k)) ?_
  refine Run.st (S' := T12.setTop (mkF m 75 #[.val (.ref a0), .val (.ref x2), .val (.int (2 : Int32)), .val (.ref x2)] [(.ref a0)])) (fun _ k => XS.iconst X12.here hx rfl (hb hby d14_69) (XS.idiv X12.here hx rfl (hb hby d14_70) rfl (by decide) (XS.icmpNo X12.here hx rfl (hb hby d14_71) rfl (tlt (show (2 : Int32) < (4 : Int32) from (by decide))).2.1 (XS.aloadN X12.here hx rfl (hb hby d14_74) rfl rfl k)))) ?_
  obtain ⟨T14, X14, e14, st14⟩ := getF X12 hx hZ hown (host := "") (Or.inl (hw _ (List.mem_of_getElem? (i := 39) rfl))) Via.refl e12 F_heap (g := (mkF m 75 #[.val (.ref a0), .val (.ref x2), .val (.int (2 : Int32)), .val (.ref x2)] [(.ref a0)])) rfl rfl (hb hby d14_75)
  refine Run.st (S' := T14.setTop (mkF m 78 #[.val (.ref a0), .val (.ref x2), .val (.int (2 : Int32)), .val (.ref x2)] [(.ref hp)])) (fun _ k => st14 _ k) ?_
  obtain ⟨cl15, Ar15, -, Sa15, Na15, -, -⟩ := id V_hp
  refine Run.st (S' := T14.setTop (mkF m 79 #[.val (.ref a0), .val (.ref x2), .val (.int (2 : Int32)), .val (.ref x2)] [(.int (16 : Int32))])) (fun _ k => X14.arraylength hx (by rw [e14]; exact Ar15.1) (State.isArrayOf_alike hZ.alike Ar15.2.1) (g := (mkF m 78 #[.val (.ref a0), .val (.ref x2), .val (.int (2 : Int32)), .val (.ref x2)] [(.ref hp)])) rfl rfl (hb hby d14_78) _ (by rw [len_of Sa15 Na15]; exact k)) ?_
  refine Run.st (S' := T14.setTop (mkF m 95 #[.val (.ref a0), .val (.ref x2), .val (.int (2 : Int32)), .val (.ref x2)] [])) (fun _ k => XS.bipush X14.here hx rfl (hb hby d14_79) (XS.icmpYes X14.here hx rfl (pc0 := 81) (pc' := 95) rfl (hb hby d14_81) rfl (flt (show ¬ ((16 : Int32) < (16 : Int32)) from (by decide))).2.2.2 (by decide) (by decide) k)) ?_
  refine Run.outV X14 hx Bd.notSynchronized Bd.returns (hb hby d14_95) (by decide) (by decide) ?_
  rw [e14]
  exact ⟨rfl, N9, Kp, E_a0, F_heap, F_size, V_hp, E_x0, F_d_x0, F_p_x0, E_x1, F_d_x1, F_p_x1, E_x2, F_d_x2, F_p_x2⟩
theorem own_asym {a b : Int64} (h : a < b) : ¬ b < a := by
  rw [Int64.lt_iff_toInt_lt] at *
  omega
theorem own_tr {a b c : Int64} (h : a < b) (k : ¬ c < b) : ¬ c < a := by
  rw [Int64.lt_iff_toInt_lt] at *
  omega
def QAd1c (Z : State) (a0 : Addr) (a1 : Addr) (hp : Addr) (kA : ClassId) (v1 : Value) (v2 : Value) (da1 : Int64) (pa1 : Int32) (x0 : Addr) (dx0 : Int64) (h0 : Heap) (n0 : Nat) (v : Option Value) (h : Heap) (L : List Loc) : Prop := ∃ (y0 y1 : Addr) (dy0 dy1 : Int64), v = none ∧ Fr n0 L ∧ Keep h0 h [a0, hp, a1, x0] ∧ ((y0 = x0 ∧ y1 = a1 ∧ dy0 = dx0 ∧ dy1 = da1) ∨ (y0 = a1 ∧ y1 = x0 ∧ dy0 = da1 ∧ dy1 = dx0)) ∧ ¬ dy1 < dy0 ∧ Exa Z h a0 "com/example/keys_to_structures/keystostructures/store/ExpiryQueue" ∧ Fld Z h a0 "com/example/keys_to_structures/keystostructures/store/ExpiryQueue" "heap" "[Lcom/example/keys_to_structures/keystostructures/store/TimedEntry;" (.ref hp) ∧ Fld Z h a0 "com/example/keys_to_structures/keystostructures/store/ExpiryQueue" "size" "I" (.int (2 : Int32)) ∧ Arv Z h hp kA (.object "com/example/keys_to_structures/keystostructures/store/TimedEntry") (16 : Int32) [(.ref y0), (.ref y1), v2, .null, .null, .null, .null, .null, .null, .null, .null, .null, .null, .null, .null, .null] .null ∧ Exa Z h y0 "com/example/keys_to_structures/keystostructures/store/TimedEntry" ∧ Fld Z h y0 "com/example/keys_to_structures/keystostructures/store/TimedEntry" "deadline" "J" (.long dy0) ∧ Fld Z h y0 "com/example/keys_to_structures/keystostructures/store/TimedEntry" "position" "I" (.int (0 : Int32)) ∧ Exa Z h y1 "com/example/keys_to_structures/keystostructures/store/TimedEntry" ∧ Fld Z h y1 "com/example/keys_to_structures/keystostructures/store/TimedEntry" "deadline" "J" (.long dy1) ∧ Fld Z h y1 "com/example/keys_to_structures/keystostructures/store/TimedEntry" "position" "I" (.int (1 : Int32))
theorem rmAd1c (l : Launch) (Z : State) (aV : Array Value) (hw : ∀ d ∈ tables_1, d.before aV Z = true) (ws : List Jvm.Cond) (a0 : Addr) (a1 : Addr) (hp : Addr) (kA : ClassId) (v1 : Value) (v2 : Value) (da1 : Int64) (pa1 : Int32) (x0 : Addr) (dx0 : Int64) (h0 : Heap) (n0 : Nat) (Zn : n0 ≤ h0.size) (g_a0 : n0 ≤ a0) (g_hp : n0 ≤ hp) (O_kA : Ovr Z kA "com/example/keys_to_structures/keystostructures/store/TimedEntry") (g_a1 : n0 ≤ a1) (g_x0 : n0 ≤ x0) (E_a0 : Exa Z h0 a0 "com/example/keys_to_structures/keystostructures/store/ExpiryQueue") (F_heap : Fld Z h0 a0 "com/example/keys_to_structures/keystostructures/store/ExpiryQueue" "heap" "[Lcom/example/keys_to_structures/keystostructures/store/TimedEntry;" (.ref hp)) (F_size : Fld Z h0 a0 "com/example/keys_to_structures/keystostructures/store/ExpiryQueue" "size" "I" (.int (1 : Int32))) (V_hp : Arv Z h0 hp kA (.object "com/example/keys_to_structures/keystostructures/store/TimedEntry") (16 : Int32) [(.ref x0), v1, v2, .null, .null, .null, .null, .null, .null, .null, .null, .null, .null, .null, .null, .null] .null) (E_a1 : Exa Z h0 a1 "com/example/keys_to_structures/keystostructures/store/TimedEntry") (F_d_a1 : Fld Z h0 a1 "com/example/keys_to_structures/keystostructures/store/TimedEntry" "deadline" "J" (.long da1)) (F_p_a1 : Fld Z h0 a1 "com/example/keys_to_structures/keystostructures/store/TimedEntry" "position" "I" (.int pa1)) (E_x0 : Exa Z h0 x0 "com/example/keys_to_structures/keystostructures/store/TimedEntry") (F_d_x0 : Fld Z h0 x0 "com/example/keys_to_structures/keystostructures/store/TimedEntry" "deadline" "J" (.long dx0)) (F_p_x0 : Fld Z h0 x0 "com/example/keys_to_structures/keystostructures/store/TimedEntry" "position" "I" (.int (0 : Int32))) (ne_a0__hp : a0 ≠ hp) (ne_a0__a1 : a0 ≠ a1) (ne_a0__x0 : a0 ≠ x0) (ne_hp__a1 : hp ≠ a1) (ne_hp__x0 : hp ≠ x0) (ne_a1__x0 : a1 ≠ x0) :
    MetFree l (⟨"com/example/keys_to_structures/keystostructures/store/ExpiryQueue", "add", "(Lcom/example/keys_to_structures/keystostructures/store/TimedEntry;)V"⟩ : MethodName) (head1 (Jvm.Cond.code (⟨"com/example/keys_to_structures/keystostructures/store/ExpiryQueue", "add", "(Lcom/example/keys_to_structures/keystostructures/store/TimedEntry;)V"⟩ : MethodName) prog_43_method_3_code 2 none :: ws) ({ frames := 3, cells := 0, slots := 0, locals := 43 } : Room)) (fun a U => a = #[(.ref a0), (.ref a1)] ∧ Z.Warmed39 U.vm ∧ U.heap = h0) (fun _ _ _ _ _ => True) (fun _ U o U' => ∃ v L, o = .returned v ∧ QAd1c Z a0 a1 hp kA v1 v2 da1 pa1 x0 dx0 h0 n0 v U'.heap L ∧ FrameEnd U o U' L ({ frames := 3, cells := 0, slots := 0, locals := 43 } : Room).cells ({ frames := 3, cells := 0, slots := 0, locals := 43 } : Room).slots) := by
  by_cases hsw : da1 < dx0
  · refine (rmAd1s l Z aV hw ws a0 a1 hp kA v1 v2 da1 pa1 x0 dx0 h0 n0 Zn g_a0 g_hp O_kA g_a1 g_x0 E_a0 F_heap F_size V_hp E_a1 F_d_a1 F_p_a1 E_x0 F_d_x0 F_p_x0 ne_a0__hp ne_a0__a1 ne_a0__x0 ne_hp__a1 ne_hp__x0 ne_a1__x0 hsw).mono (fun _ _ h => h) (fun _ _ _ _ _ h => h) (fun _ _ _ _ _ q => ?_)
    obtain ⟨v, L, e1, ⟨rfl, N, K, E_a0, F_heap, F_size, V_hp, E_a1, F_d_a1, F_p_a1, E_x0, F_d_x0, F_p_x0⟩, hf⟩ := q
    exact ⟨none, L, e1, ⟨a1, x0, da1, dx0, rfl, N, K, Or.inr ⟨rfl, rfl, rfl, rfl⟩, own_asym hsw, E_a0, F_heap, F_size, V_hp, E_a1, F_d_a1, F_p_a1, E_x0, F_d_x0, F_p_x0⟩, hf⟩
  · refine (rmAd1 l Z aV hw ws a0 a1 hp kA v1 v2 da1 pa1 x0 dx0 h0 n0 Zn g_a0 g_hp O_kA g_a1 g_x0 E_a0 F_heap F_size V_hp E_a1 F_d_a1 F_p_a1 E_x0 F_d_x0 F_p_x0 ne_a0__hp ne_a0__a1 ne_a0__x0 ne_hp__a1 ne_hp__x0 ne_a1__x0 hsw).mono (fun _ _ h => h) (fun _ _ _ _ _ h => h) (fun _ _ _ _ _ q => ?_)
    obtain ⟨v, L, e1, ⟨rfl, N, K, E_a0, F_heap, F_size, V_hp, E_a1, F_d_a1, F_p_a1, E_x0, F_d_x0, F_p_x0⟩, hf⟩ := q
    exact ⟨none, L, e1, ⟨x0, a1, dx0, da1, rfl, N, K, Or.inl ⟨rfl, rfl, rfl, rfl⟩, hsw, E_a0, F_heap, F_size, V_hp, E_x0, F_d_x0, F_p_x0, E_a1, F_d_a1, F_p_a1⟩, hf⟩
def QAd2c (Z : State) (a0 : Addr) (a1 : Addr) (hp : Addr) (kA : ClassId) (v2 : Value) (da1 : Int64) (pa1 : Int32) (x0 : Addr) (dx0 : Int64) (x1 : Addr) (dx1 : Int64) (h0 : Heap) (n0 : Nat) (v : Option Value) (h : Heap) (L : List Loc) : Prop := ∃ (y0 y1 y2 : Addr) (dy0 dy1 dy2 : Int64), v = none ∧ Fr n0 L ∧ Keep h0 h [a0, hp, a1, x0, x1] ∧ ((y0 = x0 ∧ y1 = x1 ∧ y2 = a1 ∧ dy0 = dx0 ∧ dy1 = dx1 ∧ dy2 = da1) ∨ (y0 = a1 ∧ y1 = x1 ∧ y2 = x0 ∧ dy0 = da1 ∧ dy1 = dx1 ∧ dy2 = dx0)) ∧ ¬ dy1 < dy0 ∧ ¬ dy2 < dy0 ∧ Exa Z h a0 "com/example/keys_to_structures/keystostructures/store/ExpiryQueue" ∧ Fld Z h a0 "com/example/keys_to_structures/keystostructures/store/ExpiryQueue" "heap" "[Lcom/example/keys_to_structures/keystostructures/store/TimedEntry;" (.ref hp) ∧ Fld Z h a0 "com/example/keys_to_structures/keystostructures/store/ExpiryQueue" "size" "I" (.int (3 : Int32)) ∧ Arv Z h hp kA (.object "com/example/keys_to_structures/keystostructures/store/TimedEntry") (16 : Int32) [(.ref y0), (.ref y1), (.ref y2), .null, .null, .null, .null, .null, .null, .null, .null, .null, .null, .null, .null, .null] .null ∧ Exa Z h y0 "com/example/keys_to_structures/keystostructures/store/TimedEntry" ∧ Fld Z h y0 "com/example/keys_to_structures/keystostructures/store/TimedEntry" "deadline" "J" (.long dy0) ∧ Fld Z h y0 "com/example/keys_to_structures/keystostructures/store/TimedEntry" "position" "I" (.int (0 : Int32)) ∧ Exa Z h y1 "com/example/keys_to_structures/keystostructures/store/TimedEntry" ∧ Fld Z h y1 "com/example/keys_to_structures/keystostructures/store/TimedEntry" "deadline" "J" (.long dy1) ∧ Fld Z h y1 "com/example/keys_to_structures/keystostructures/store/TimedEntry" "position" "I" (.int (1 : Int32)) ∧ Exa Z h y2 "com/example/keys_to_structures/keystostructures/store/TimedEntry" ∧ Fld Z h y2 "com/example/keys_to_structures/keystostructures/store/TimedEntry" "deadline" "J" (.long dy2) ∧ Fld Z h y2 "com/example/keys_to_structures/keystostructures/store/TimedEntry" "position" "I" (.int (2 : Int32))
theorem rmAd2c (l : Launch) (Z : State) (aV : Array Value) (hw : ∀ d ∈ tables_1, d.before aV Z = true) (ws : List Jvm.Cond) (a0 : Addr) (a1 : Addr) (hp : Addr) (kA : ClassId) (v2 : Value) (da1 : Int64) (pa1 : Int32) (x0 : Addr) (dx0 : Int64) (x1 : Addr) (dx1 : Int64) (h0 : Heap) (n0 : Nat) (Zn : n0 ≤ h0.size) (g_a0 : n0 ≤ a0) (g_hp : n0 ≤ hp) (O_kA : Ovr Z kA "com/example/keys_to_structures/keystostructures/store/TimedEntry") (g_a1 : n0 ≤ a1) (g_x0 : n0 ≤ x0) (g_x1 : n0 ≤ x1) (E_a0 : Exa Z h0 a0 "com/example/keys_to_structures/keystostructures/store/ExpiryQueue") (F_heap : Fld Z h0 a0 "com/example/keys_to_structures/keystostructures/store/ExpiryQueue" "heap" "[Lcom/example/keys_to_structures/keystostructures/store/TimedEntry;" (.ref hp)) (F_size : Fld Z h0 a0 "com/example/keys_to_structures/keystostructures/store/ExpiryQueue" "size" "I" (.int (2 : Int32))) (V_hp : Arv Z h0 hp kA (.object "com/example/keys_to_structures/keystostructures/store/TimedEntry") (16 : Int32) [(.ref x0), (.ref x1), v2, .null, .null, .null, .null, .null, .null, .null, .null, .null, .null, .null, .null, .null] .null) (E_a1 : Exa Z h0 a1 "com/example/keys_to_structures/keystostructures/store/TimedEntry") (F_d_a1 : Fld Z h0 a1 "com/example/keys_to_structures/keystostructures/store/TimedEntry" "deadline" "J" (.long da1)) (F_p_a1 : Fld Z h0 a1 "com/example/keys_to_structures/keystostructures/store/TimedEntry" "position" "I" (.int pa1)) (E_x0 : Exa Z h0 x0 "com/example/keys_to_structures/keystostructures/store/TimedEntry") (F_d_x0 : Fld Z h0 x0 "com/example/keys_to_structures/keystostructures/store/TimedEntry" "deadline" "J" (.long dx0)) (F_p_x0 : Fld Z h0 x0 "com/example/keys_to_structures/keystostructures/store/TimedEntry" "position" "I" (.int (0 : Int32))) (E_x1 : Exa Z h0 x1 "com/example/keys_to_structures/keystostructures/store/TimedEntry") (F_d_x1 : Fld Z h0 x1 "com/example/keys_to_structures/keystostructures/store/TimedEntry" "deadline" "J" (.long dx1)) (F_p_x1 : Fld Z h0 x1 "com/example/keys_to_structures/keystostructures/store/TimedEntry" "position" "I" (.int (1 : Int32))) (ne_a0__hp : a0 ≠ hp) (ne_a0__a1 : a0 ≠ a1) (ne_a0__x0 : a0 ≠ x0) (ne_a0__x1 : a0 ≠ x1) (ne_hp__a1 : hp ≠ a1) (ne_hp__x0 : hp ≠ x0) (ne_hp__x1 : hp ≠ x1) (ne_a1__x0 : a1 ≠ x0) (ne_a1__x1 : a1 ≠ x1) (ne_x0__x1 : x0 ≠ x1) (hle : ¬ dx1 < dx0) :
    MetFree l (⟨"com/example/keys_to_structures/keystostructures/store/ExpiryQueue", "add", "(Lcom/example/keys_to_structures/keystostructures/store/TimedEntry;)V"⟩ : MethodName) (head1 (Jvm.Cond.code (⟨"com/example/keys_to_structures/keystostructures/store/ExpiryQueue", "add", "(Lcom/example/keys_to_structures/keystostructures/store/TimedEntry;)V"⟩ : MethodName) prog_43_method_3_code 2 none :: ws) ({ frames := 3, cells := 0, slots := 0, locals := 43 } : Room)) (fun a U => a = #[(.ref a0), (.ref a1)] ∧ Z.Warmed39 U.vm ∧ U.heap = h0) (fun _ _ _ _ _ => True) (fun _ U o U' => ∃ v L, o = .returned v ∧ QAd2c Z a0 a1 hp kA v2 da1 pa1 x0 dx0 x1 dx1 h0 n0 v U'.heap L ∧ FrameEnd U o U' L ({ frames := 3, cells := 0, slots := 0, locals := 43 } : Room).cells ({ frames := 3, cells := 0, slots := 0, locals := 43 } : Room).slots) := by
  by_cases hsw : da1 < dx0
  · refine (rmAd2s l Z aV hw ws a0 a1 hp kA v2 da1 pa1 x0 dx0 x1 dx1 h0 n0 Zn g_a0 g_hp O_kA g_a1 g_x0 g_x1 E_a0 F_heap F_size V_hp E_a1 F_d_a1 F_p_a1 E_x0 F_d_x0 F_p_x0 E_x1 F_d_x1 F_p_x1 ne_a0__hp ne_a0__a1 ne_a0__x0 ne_a0__x1 ne_hp__a1 ne_hp__x0 ne_hp__x1 ne_a1__x0 ne_a1__x1 ne_x0__x1 hsw).mono (fun _ _ h => h) (fun _ _ _ _ _ h => h) (fun _ _ _ _ _ q => ?_)
    obtain ⟨v, L, e1, ⟨rfl, N, K, E_a0, F_heap, F_size, V_hp, E_a1, F_d_a1, F_p_a1, E_x0, F_d_x0, F_p_x0, E_x1, F_d_x1, F_p_x1⟩, hf⟩ := q
    exact ⟨none, L, e1, ⟨a1, x1, x0, da1, dx1, dx0, rfl, N, K, Or.inr ⟨rfl, rfl, rfl, rfl, rfl, rfl⟩, own_tr hsw hle, own_asym hsw, E_a0, F_heap, F_size, V_hp, E_a1, F_d_a1, F_p_a1, E_x1, F_d_x1, F_p_x1, E_x0, F_d_x0, F_p_x0⟩, hf⟩
  · refine (rmAd2 l Z aV hw ws a0 a1 hp kA v2 da1 pa1 x0 dx0 x1 dx1 h0 n0 Zn g_a0 g_hp O_kA g_a1 g_x0 g_x1 E_a0 F_heap F_size V_hp E_a1 F_d_a1 F_p_a1 E_x0 F_d_x0 F_p_x0 E_x1 F_d_x1 F_p_x1 ne_a0__hp ne_a0__a1 ne_a0__x0 ne_a0__x1 ne_hp__a1 ne_hp__x0 ne_hp__x1 ne_a1__x0 ne_a1__x1 ne_x0__x1 hsw).mono (fun _ _ h => h) (fun _ _ _ _ _ h => h) (fun _ _ _ _ _ q => ?_)
    obtain ⟨v, L, e1, ⟨rfl, N, K, E_a0, F_heap, F_size, V_hp, E_a1, F_d_a1, F_p_a1, E_x0, F_d_x0, F_p_x0, E_x1, F_d_x1, F_p_x1⟩, hf⟩ := q
    exact ⟨none, L, e1, ⟨x0, x1, a1, dx0, dx1, da1, rfl, N, K, Or.inl ⟨rfl, rfl, rfl, rfl, rfl, rfl⟩, hle, hsw, E_a0, F_heap, F_size, V_hp, E_x0, F_d_x0, F_p_x0, E_x1, F_d_x1, F_p_x1, E_a1, F_d_a1, F_p_a1⟩, hf⟩
def QRm2c (Z : State) (a0 : Addr) (a1 : Addr) (hp : Addr) (kA : ClassId) (v2 : Value) (x0 : Addr) (dx0 : Int64) (x1 : Addr) (dx1 : Int64) (h0 : Heap) (n0 : Nat) (v : Option Value) (h : Heap) (L : List Loc) : Prop := ∃ (z : Addr) (dz : Int64), v = none ∧ Fr n0 L ∧ Keep h0 h [a0, hp, x0, x1] ∧ ((a1 = x0 ∧ z = x1 ∧ dz = dx1) ∨ (a1 = x1 ∧ z = x0 ∧ dz = dx0)) ∧ Exa Z h a0 "com/example/keys_to_structures/keystostructures/store/ExpiryQueue" ∧ Fld Z h a0 "com/example/keys_to_structures/keystostructures/store/ExpiryQueue" "heap" "[Lcom/example/keys_to_structures/keystostructures/store/TimedEntry;" (.ref hp) ∧ Fld Z h a0 "com/example/keys_to_structures/keystostructures/store/ExpiryQueue" "size" "I" (.int (1 : Int32)) ∧ Arv Z h hp kA (.object "com/example/keys_to_structures/keystostructures/store/TimedEntry") (16 : Int32) [(.ref z), .null, v2, .null, .null, .null, .null, .null, .null, .null, .null, .null, .null, .null, .null, .null] .null
theorem rmRm2c (l : Launch) (Z : State) (aV : Array Value) (hw : ∀ d ∈ tables_1, d.before aV Z = true) (ws : List Jvm.Cond) (a0 : Addr) (a1 : Addr) (hp : Addr) (kA : ClassId) (v2 : Value) (x0 : Addr) (dx0 : Int64) (x1 : Addr) (dx1 : Int64) (h0 : Heap) (n0 : Nat) (Zn : n0 ≤ h0.size) (g_a0 : n0 ≤ a0) (g_hp : n0 ≤ hp) (O_kA : Ovr Z kA "com/example/keys_to_structures/keystostructures/store/TimedEntry") (g_x0 : n0 ≤ x0) (g_x1 : n0 ≤ x1) (E_a0 : Exa Z h0 a0 "com/example/keys_to_structures/keystostructures/store/ExpiryQueue") (F_heap : Fld Z h0 a0 "com/example/keys_to_structures/keystostructures/store/ExpiryQueue" "heap" "[Lcom/example/keys_to_structures/keystostructures/store/TimedEntry;" (.ref hp)) (F_size : Fld Z h0 a0 "com/example/keys_to_structures/keystostructures/store/ExpiryQueue" "size" "I" (.int (2 : Int32))) (V_hp : Arv Z h0 hp kA (.object "com/example/keys_to_structures/keystostructures/store/TimedEntry") (16 : Int32) [(.ref x0), (.ref x1), v2, .null, .null, .null, .null, .null, .null, .null, .null, .null, .null, .null, .null, .null] .null) (E_x0 : Exa Z h0 x0 "com/example/keys_to_structures/keystostructures/store/TimedEntry") (F_d_x0 : Fld Z h0 x0 "com/example/keys_to_structures/keystostructures/store/TimedEntry" "deadline" "J" (.long dx0)) (F_p_x0 : Fld Z h0 x0 "com/example/keys_to_structures/keystostructures/store/TimedEntry" "position" "I" (.int (0 : Int32))) (E_x1 : Exa Z h0 x1 "com/example/keys_to_structures/keystostructures/store/TimedEntry") (F_d_x1 : Fld Z h0 x1 "com/example/keys_to_structures/keystostructures/store/TimedEntry" "deadline" "J" (.long dx1)) (F_p_x1 : Fld Z h0 x1 "com/example/keys_to_structures/keystostructures/store/TimedEntry" "position" "I" (.int (1 : Int32))) (ne_a0__hp : a0 ≠ hp) (ne_a0__x0 : a0 ≠ x0) (ne_a0__x1 : a0 ≠ x1) (ne_hp__x0 : hp ≠ x0) (ne_hp__x1 : hp ≠ x1) (ne_x0__x1 : x0 ≠ x1) (hm : a1 = x0 ∨ a1 = x1) :
    MetFree l (⟨"com/example/keys_to_structures/keystostructures/store/ExpiryQueue", "remove", "(Lcom/example/keys_to_structures/keystostructures/store/TimedEntry;)V"⟩ : MethodName) (head1 (Jvm.Cond.code (⟨"com/example/keys_to_structures/keystostructures/store/ExpiryQueue", "remove", "(Lcom/example/keys_to_structures/keystostructures/store/TimedEntry;)V"⟩ : MethodName) prog_43_method_4_code 4 none :: ws) ({ frames := 3, cells := 0, slots := 0, locals := 43 } : Room)) (fun a U => a = #[(.ref a0), (.ref a1)] ∧ Z.Warmed39 U.vm ∧ U.heap = h0) (fun _ _ _ _ _ => True) (fun _ U o U' => ∃ v L, o = .returned v ∧ QRm2c Z a0 a1 hp kA v2 x0 dx0 x1 dx1 h0 n0 v U'.heap L ∧ FrameEnd U o U' L ({ frames := 3, cells := 0, slots := 0, locals := 43 } : Room).cells ({ frames := 3, cells := 0, slots := 0, locals := 43 } : Room).slots) := by
  rcases hm with rfl | rfl
  · refine (rmRm20 l Z aV hw ws a0 hp kA v2 a1 dx0 x1 dx1 h0 n0 Zn g_a0 g_hp O_kA g_x0 g_x1 E_a0 F_heap F_size V_hp E_x0 F_d_x0 F_p_x0 E_x1 F_d_x1 F_p_x1 ne_a0__hp ne_a0__x0 ne_a0__x1 ne_hp__x0 ne_hp__x1 ne_x0__x1).mono (fun _ _ h => h) (fun _ _ _ _ _ h => h) (fun _ _ _ _ _ q => ?_)
    obtain ⟨v, L, e1, ⟨rfl, N, K, E_a0, F_heap, F_size, V_hp, E_x0, F_d_x0, F_p_x0, E_x1, F_d_x1, F_p_x1⟩, hf⟩ := q
    exact ⟨none, L, e1, ⟨x1, dx1, rfl, N, K, Or.inl ⟨rfl, rfl, rfl⟩, E_a0, F_heap, F_size, V_hp⟩, hf⟩
  · refine (rmRm21 l Z aV hw ws a0 hp kA v2 x0 dx0 a1 dx1 h0 n0 Zn g_a0 g_hp O_kA g_x0 g_x1 E_a0 F_heap F_size V_hp E_x0 F_d_x0 F_p_x0 E_x1 F_d_x1 F_p_x1 ne_a0__hp ne_a0__x0 ne_a0__x1 ne_hp__x0 ne_hp__x1 ne_x0__x1).mono (fun _ _ h => h) (fun _ _ _ _ _ h => h) (fun _ _ _ _ _ q => ?_)
    obtain ⟨v, L, e1, ⟨rfl, N, K, E_a0, F_heap, F_size, V_hp, E_x0, F_d_x0, F_p_x0, E_x1, F_d_x1, F_p_x1⟩, hf⟩ := q
    exact ⟨none, L, e1, ⟨x0, dx0, rfl, N, K, Or.inr ⟨rfl, rfl, rfl⟩, E_a0, F_heap, F_size, V_hp⟩, hf⟩
def QRm3c (Z : State) (a0 : Addr) (a1 : Addr) (hp : Addr) (kA : ClassId) (x0 : Addr) (dx0 : Int64) (x1 : Addr) (dx1 : Int64) (x2 : Addr) (dx2 : Int64) (h0 : Heap) (n0 : Nat) (v : Option Value) (h : Heap) (L : List Loc) : Prop := ∃ (z : Addr) (dz : Int64) (w1 : Value), v = none ∧ Fr n0 L ∧ Keep h0 h [a0, hp, x0, x1, x2] ∧ ((a1 = x0 ∧ ((z = x2 ∧ dz = dx2 ∧ ¬ dx1 < dx2) ∨ (z = x1 ∧ dz = dx1 ∧ dx1 < dx2))) ∨ (a1 = x1 ∧ z = x0 ∧ dz = dx0) ∨ (a1 = x2 ∧ z = x0 ∧ dz = dx0)) ∧ Exa Z h a0 "com/example/keys_to_structures/keystostructures/store/ExpiryQueue" ∧ Fld Z h a0 "com/example/keys_to_structures/keystostructures/store/ExpiryQueue" "heap" "[Lcom/example/keys_to_structures/keystostructures/store/TimedEntry;" (.ref hp) ∧ Fld Z h a0 "com/example/keys_to_structures/keystostructures/store/ExpiryQueue" "size" "I" (.int (2 : Int32)) ∧ Arv Z h hp kA (.object "com/example/keys_to_structures/keystostructures/store/TimedEntry") (16 : Int32) [(.ref z), w1, .null, .null, .null, .null, .null, .null, .null, .null, .null, .null, .null, .null, .null, .null] .null
theorem rmRm3c (l : Launch) (Z : State) (aV : Array Value) (hw : ∀ d ∈ tables_1, d.before aV Z = true) (ws : List Jvm.Cond) (a0 : Addr) (a1 : Addr) (hp : Addr) (kA : ClassId) (x0 : Addr) (dx0 : Int64) (x1 : Addr) (dx1 : Int64) (x2 : Addr) (dx2 : Int64) (h0 : Heap) (n0 : Nat) (Zn : n0 ≤ h0.size) (g_a0 : n0 ≤ a0) (g_hp : n0 ≤ hp) (O_kA : Ovr Z kA "com/example/keys_to_structures/keystostructures/store/TimedEntry") (g_x0 : n0 ≤ x0) (g_x1 : n0 ≤ x1) (g_x2 : n0 ≤ x2) (E_a0 : Exa Z h0 a0 "com/example/keys_to_structures/keystostructures/store/ExpiryQueue") (F_heap : Fld Z h0 a0 "com/example/keys_to_structures/keystostructures/store/ExpiryQueue" "heap" "[Lcom/example/keys_to_structures/keystostructures/store/TimedEntry;" (.ref hp)) (F_size : Fld Z h0 a0 "com/example/keys_to_structures/keystostructures/store/ExpiryQueue" "size" "I" (.int (3 : Int32))) (V_hp : Arv Z h0 hp kA (.object "com/example/keys_to_structures/keystostructures/store/TimedEntry") (16 : Int32) [(.ref x0), (.ref x1), (.ref x2), .null, .null, .null, .null, .null, .null, .null, .null, .null, .null, .null, .null, .null] .null) (E_x0 : Exa Z h0 x0 "com/example/keys_to_structures/keystostructures/store/TimedEntry") (F_d_x0 : Fld Z h0 x0 "com/example/keys_to_structures/keystostructures/store/TimedEntry" "deadline" "J" (.long dx0)) (F_p_x0 : Fld Z h0 x0 "com/example/keys_to_structures/keystostructures/store/TimedEntry" "position" "I" (.int (0 : Int32))) (E_x1 : Exa Z h0 x1 "com/example/keys_to_structures/keystostructures/store/TimedEntry") (F_d_x1 : Fld Z h0 x1 "com/example/keys_to_structures/keystostructures/store/TimedEntry" "deadline" "J" (.long dx1)) (F_p_x1 : Fld Z h0 x1 "com/example/keys_to_structures/keystostructures/store/TimedEntry" "position" "I" (.int (1 : Int32))) (E_x2 : Exa Z h0 x2 "com/example/keys_to_structures/keystostructures/store/TimedEntry") (F_d_x2 : Fld Z h0 x2 "com/example/keys_to_structures/keystostructures/store/TimedEntry" "deadline" "J" (.long dx2)) (F_p_x2 : Fld Z h0 x2 "com/example/keys_to_structures/keystostructures/store/TimedEntry" "position" "I" (.int (2 : Int32))) (ne_a0__hp : a0 ≠ hp) (ne_a0__x0 : a0 ≠ x0) (ne_a0__x1 : a0 ≠ x1) (ne_a0__x2 : a0 ≠ x2) (ne_hp__x0 : hp ≠ x0) (ne_hp__x1 : hp ≠ x1) (ne_hp__x2 : hp ≠ x2) (ne_x0__x1 : x0 ≠ x1) (ne_x0__x2 : x0 ≠ x2) (ne_x1__x2 : x1 ≠ x2) (hle2 : ¬ dx2 < dx0) (hm : a1 = x0 ∨ a1 = x1 ∨ a1 = x2) :
    MetFree l (⟨"com/example/keys_to_structures/keystostructures/store/ExpiryQueue", "remove", "(Lcom/example/keys_to_structures/keystostructures/store/TimedEntry;)V"⟩ : MethodName) (head1 (Jvm.Cond.code (⟨"com/example/keys_to_structures/keystostructures/store/ExpiryQueue", "remove", "(Lcom/example/keys_to_structures/keystostructures/store/TimedEntry;)V"⟩ : MethodName) prog_43_method_4_code 4 none :: ws) ({ frames := 3, cells := 0, slots := 0, locals := 43 } : Room)) (fun a U => a = #[(.ref a0), (.ref a1)] ∧ Z.Warmed39 U.vm ∧ U.heap = h0) (fun _ _ _ _ _ => True) (fun _ U o U' => ∃ v L, o = .returned v ∧ QRm3c Z a0 a1 hp kA x0 dx0 x1 dx1 x2 dx2 h0 n0 v U'.heap L ∧ FrameEnd U o U' L ({ frames := 3, cells := 0, slots := 0, locals := 43 } : Room).cells ({ frames := 3, cells := 0, slots := 0, locals := 43 } : Room).slots) := by
  rcases hm with rfl | rfl | rfl
  · by_cases hs : dx1 < dx2
    · refine (rmRm30s l Z aV hw ws a0 hp kA a1 dx0 x1 dx1 x2 dx2 h0 n0 Zn g_a0 g_hp O_kA g_x0 g_x1 g_x2 E_a0 F_heap F_size V_hp E_x0 F_d_x0 F_p_x0 E_x1 F_d_x1 F_p_x1 E_x2 F_d_x2 F_p_x2 ne_a0__hp ne_a0__x0 ne_a0__x1 ne_a0__x2 ne_hp__x0 ne_hp__x1 ne_hp__x2 ne_x0__x1 ne_x0__x2 ne_x1__x2 hs).mono (fun _ _ h => h) (fun _ _ _ _ _ h => h) (fun _ _ _ _ _ q => ?_)
      obtain ⟨v, L, e1, ⟨rfl, N, K, E_a0, F_heap, F_size, V_hp, E_x0, F_d_x0, F_p_x0, E_x1, F_d_x1, F_p_x1, E_x2, F_d_x2, F_p_x2⟩, hf⟩ := q
      exact ⟨none, L, e1, ⟨x1, dx1, (.ref x2), rfl, N, K, Or.inl ⟨rfl, Or.inr ⟨rfl, rfl, hs⟩⟩, E_a0, F_heap, F_size, V_hp⟩, hf⟩
    · refine (rmRm30 l Z aV hw ws a0 hp kA a1 dx0 x1 dx1 x2 dx2 h0 n0 Zn g_a0 g_hp O_kA g_x0 g_x1 g_x2 E_a0 F_heap F_size V_hp E_x0 F_d_x0 F_p_x0 E_x1 F_d_x1 F_p_x1 E_x2 F_d_x2 F_p_x2 ne_a0__hp ne_a0__x0 ne_a0__x1 ne_a0__x2 ne_hp__x0 ne_hp__x1 ne_hp__x2 ne_x0__x1 ne_x0__x2 ne_x1__x2 hs).mono (fun _ _ h => h) (fun _ _ _ _ _ h => h) (fun _ _ _ _ _ q => ?_)
      obtain ⟨v, L, e1, ⟨rfl, N, K, E_a0, F_heap, F_size, V_hp, E_x0, F_d_x0, F_p_x0, E_x1, F_d_x1, F_p_x1, E_x2, F_d_x2, F_p_x2⟩, hf⟩ := q
      exact ⟨none, L, e1, ⟨x2, dx2, (.ref x1), rfl, N, K, Or.inl ⟨rfl, Or.inl ⟨rfl, rfl, hs⟩⟩, E_a0, F_heap, F_size, V_hp⟩, hf⟩
  · refine (rmRm31 l Z aV hw ws a0 hp kA x0 dx0 a1 dx1 x2 dx2 h0 n0 Zn g_a0 g_hp O_kA g_x0 g_x1 g_x2 E_a0 F_heap F_size V_hp E_x0 F_d_x0 F_p_x0 E_x1 F_d_x1 F_p_x1 E_x2 F_d_x2 F_p_x2 ne_a0__hp ne_a0__x0 ne_a0__x1 ne_a0__x2 ne_hp__x0 ne_hp__x1 ne_hp__x2 ne_x0__x1 ne_x0__x2 ne_x1__x2 hle2).mono (fun _ _ h => h) (fun _ _ _ _ _ h => h) (fun _ _ _ _ _ q => ?_)
    obtain ⟨v, L, e1, ⟨rfl, N, K, E_a0, F_heap, F_size, V_hp, E_x0, F_d_x0, F_p_x0, E_x1, F_d_x1, F_p_x1, E_x2, F_d_x2, F_p_x2⟩, hf⟩ := q
    exact ⟨none, L, e1, ⟨x0, dx0, (.ref x2), rfl, N, K, Or.inr (Or.inl ⟨rfl, rfl, rfl⟩), E_a0, F_heap, F_size, V_hp⟩, hf⟩
  · refine (rmRm32 l Z aV hw ws a0 hp kA x0 dx0 x1 dx1 a1 dx2 h0 n0 Zn g_a0 g_hp O_kA g_x0 g_x1 g_x2 E_a0 F_heap F_size V_hp E_x0 F_d_x0 F_p_x0 E_x1 F_d_x1 F_p_x1 E_x2 F_d_x2 F_p_x2 ne_a0__hp ne_a0__x0 ne_a0__x1 ne_a0__x2 ne_hp__x0 ne_hp__x1 ne_hp__x2 ne_x0__x1 ne_x0__x2 ne_x1__x2).mono (fun _ _ h => h) (fun _ _ _ _ _ h => h) (fun _ _ _ _ _ q => ?_)
    obtain ⟨v, L, e1, ⟨rfl, N, K, E_a0, F_heap, F_size, V_hp, E_x0, F_d_x0, F_p_x0, E_x1, F_d_x1, F_p_x1, E_x2, F_d_x2, F_p_x2⟩, hf⟩ := q
    exact ⟨none, L, e1, ⟨x0, dx0, (.ref x1), rfl, N, K, Or.inr (Or.inr ⟨rfl, rfl, rfl⟩), E_a0, F_heap, F_size, V_hp⟩, hf⟩
theorem d12_0 : decode prog_43_method_2_code 0 = .ok (.aload_n 0, 1) := by decide +kernel
theorem d12_1 : decode prog_43_method_2_code 1 = .ok (.getfield 15, 3) := by decide +kernel
theorem d12_4 : decode prog_43_method_2_code 4 = .ok (.ifCond .ne 7, 3) := by decide +kernel
theorem d12_7 : decode prog_43_method_2_code 7 = .ok (.aconst_null, 1) := by decide +kernel
theorem d12_8 : decode prog_43_method_2_code 8 = .ok (.goto 9, 3) := by decide +kernel
theorem d12_17 : decode prog_43_method_2_code 17 = .ok (.areturn, 1) := by decide +kernel
theorem ef_Fi0 (m : MethodId) (a0 : Addr) : entryFrame m #[(.ref a0)] 1 = mkF m 0 #[.val (.ref a0)] [] := by first | (simp [entryFrame, mkF, argsToLocals, Value.category]; done) | rfl
def QFi0 (Z : State) (a0 : Addr) (hp : Addr) (kA : ClassId) (v0 : Value) (v1 : Value) (v2 : Value) (h0 : Heap) (n0 : Nat) (v : Option Value) (h : Heap) (L : List Loc) : Prop := v = some .null ∧ Fr n0 L ∧ h = h0
set_option maxRecDepth 65536 in
set_option maxHeartbeats 40000000 in
theorem rmFi0 (l : Launch) (Z : State) (aV : Array Value) (hw : ∀ d ∈ tables_1, d.before aV Z = true) (ws : List Jvm.Cond) (a0 : Addr) (hp : Addr) (kA : ClassId) (v0 : Value) (v1 : Value) (v2 : Value) (h0 : Heap) (n0 : Nat) (Zn : n0 ≤ h0.size) (F_heap : Fld Z h0 a0 "com/example/keys_to_structures/keystostructures/store/ExpiryQueue" "heap" "[Lcom/example/keys_to_structures/keystostructures/store/TimedEntry;" (.ref hp)) (F_size : Fld Z h0 a0 "com/example/keys_to_structures/keystostructures/store/ExpiryQueue" "size" "I" (.int (0 : Int32))) (V_hp : Arv Z h0 hp kA (.object "com/example/keys_to_structures/keystostructures/store/TimedEntry") (16 : Int32) [v0, v1, v2, .null, .null, .null, .null, .null, .null, .null, .null, .null, .null, .null, .null, .null] .null) :
    MetFree l (⟨"com/example/keys_to_structures/keystostructures/store/ExpiryQueue", "first", "()Lcom/example/keys_to_structures/keystostructures/store/TimedEntry;"⟩ : MethodName) (head1 (Jvm.Cond.code (⟨"com/example/keys_to_structures/keystostructures/store/ExpiryQueue", "first", "()Lcom/example/keys_to_structures/keystostructures/store/TimedEntry;"⟩ : MethodName) prog_43_method_2_code 1 (some (.object "com/example/keys_to_structures/keystostructures/store/TimedEntry")) :: ws) ({ frames := 0, cells := 0, slots := 0, locals := 0 } : Room)) (fun a U => a = #[(.ref a0)] ∧ Z.Warmed39 U.vm ∧ U.heap = h0) (fun _ _ _ _ _ => True) (fun _ U o U' => ∃ v L, o = .returned v ∧ QFi0 Z a0 hp kA v0 v1 v2 h0 n0 v U'.heap L ∧ FrameEnd U o U' L ({ frames := 0, cells := 0, slots := 0, locals := 0 } : Room).cells ({ frames := 0, cells := 0, slots := 0, locals := 0 } : Room).slots) := by
  refine MetFree.of_bodySF (plainFor_of_name pn_4) hisR ?_
  intro p e s m args below meth c s₁ Bd hml0 hP hK
  obtain ⟨rfl, hZ, hh⟩ := hP
  have hx := Bd.exec
  have hby := Bd.bytes
  have hml : c.maxLocals = 1 := hml0
  have hown : s.vm.findClass "com/example/keys_to_structures/keystostructures/store/ExpiryQueue" = some m.cls := findClass_of_methodNamed Bd.named
  have hnm := (name_of_methodNamed Bd.named Bd.method).1
  have X0 : Stand p l e ({ frames := 0, cells := 0, slots := 0, locals := 0 } : Room) s m #[(.ref a0)] below meth c s₁ [] 0 0 := Stand.of_body Bd
  have e0 : s₁.heap = h0 := by rw [← hh, Bd.state]; rfl
  have N0 := Fr.nil n0
  have Kp := Keep.refl h0 []
  show Run p e below (Ends s (QFi0 Z a0 hp kA v0 v1 v2 h0 n0) ({ frames := 0, cells := 0, slots := 0, locals := 0 } : Room).cells ({ frames := 0, cells := 0, slots := 0, locals := 0 } : Room).slots) _
  refine Run.st (S' := s₁.setTop (mkF m 0 #[.val (.ref a0)] [])) (fun t k => castTop (ef_Fi0 m a0) k) ?_
  refine Run.st (S' := s₁.setTop (mkF m 1 #[.val (.ref a0)] [(.ref a0)])) (fun _ k => XS.aloadN X0.here hx rfl (hb hby d12_0) rfl rfl k) ?_
  obtain ⟨T1, X1, e1, st1⟩ := getF X0 hx hZ hown (host := "") (Or.inl (hw _ (List.mem_of_getElem? (i := 46) rfl))) Via.refl e0 F_size (g := (mkF m 1 #[.val (.ref a0)] [(.ref a0)])) rfl rfl (hb hby d12_1)
  refine Run.st (S' := T1.setTop (mkF m 17 #[.val (.ref a0)] [.null])) (fun _ k => st1 _ (XS.ifNo X1.here hx rfl (hb hby d12_4) rfl ((if0 _ _).trans (teq (show (0 : Int32) = (0 : Int32) from (by decide))).2) (XS.aconstNull X1.here hx rfl (hb hby d12_7) (XS.goto X1.here hx rfl (pc0 := 8) (pc' := 17) rfl (hb hby d12_8) (by decide) (by decide) k)))) ?_
  refine Run.out X1 hx Bd.notSynchronized Bd.returns rfl (Or.inr (Or.inr (Or.inr (Or.inr ⟨rfl, rfl, rfl⟩)))) (hb hby d12_17) (by decide) (by decide) ?_
  rw [e1]
  exact ⟨rfl, N0, rfl⟩
theorem d12_11 : decode prog_43_method_2_code 11 = .ok (.aload_n 0, 1) := by decide +kernel
theorem d12_12 : decode prog_43_method_2_code 12 = .ok (.getfield 11, 3) := by decide +kernel
theorem d12_15 : decode prog_43_method_2_code 15 = .ok (.iconst 0, 1) := by decide +kernel
theorem d12_16 : decode prog_43_method_2_code 16 = .ok (.aaload, 1) := by decide +kernel
theorem ef_Fi1 (m : MethodId) (a0 : Addr) : entryFrame m #[(.ref a0)] 1 = mkF m 0 #[.val (.ref a0)] [] := by first | (simp [entryFrame, mkF, argsToLocals, Value.category]; done) | rfl
def QFi1 (Z : State) (a0 : Addr) (hp : Addr) (kA : ClassId) (x0 : Addr) (v1 : Value) (v2 : Value) (h0 : Heap) (n0 : Nat) (v : Option Value) (h : Heap) (L : List Loc) : Prop := v = some (.ref x0) ∧ Fr n0 L ∧ h = h0
set_option maxRecDepth 65536 in
set_option maxHeartbeats 40000000 in
theorem rmFi1 (l : Launch) (Z : State) (aV : Array Value) (hw : ∀ d ∈ tables_1, d.before aV Z = true) (ws : List Jvm.Cond) (a0 : Addr) (hp : Addr) (kA : ClassId) (x0 : Addr) (v1 : Value) (v2 : Value) (h0 : Heap) (n0 : Nat) (Zn : n0 ≤ h0.size) (F_heap : Fld Z h0 a0 "com/example/keys_to_structures/keystostructures/store/ExpiryQueue" "heap" "[Lcom/example/keys_to_structures/keystostructures/store/TimedEntry;" (.ref hp)) (F_size : Fld Z h0 a0 "com/example/keys_to_structures/keystostructures/store/ExpiryQueue" "size" "I" (.int (1 : Int32))) (V_hp : Arv Z h0 hp kA (.object "com/example/keys_to_structures/keystostructures/store/TimedEntry") (16 : Int32) [(.ref x0), v1, v2, .null, .null, .null, .null, .null, .null, .null, .null, .null, .null, .null, .null, .null] .null) :
    MetFree l (⟨"com/example/keys_to_structures/keystostructures/store/ExpiryQueue", "first", "()Lcom/example/keys_to_structures/keystostructures/store/TimedEntry;"⟩ : MethodName) (head1 (Jvm.Cond.code (⟨"com/example/keys_to_structures/keystostructures/store/ExpiryQueue", "first", "()Lcom/example/keys_to_structures/keystostructures/store/TimedEntry;"⟩ : MethodName) prog_43_method_2_code 1 (some (.object "com/example/keys_to_structures/keystostructures/store/TimedEntry")) :: ws) ({ frames := 0, cells := 0, slots := 0, locals := 0 } : Room)) (fun a U => a = #[(.ref a0)] ∧ Z.Warmed39 U.vm ∧ U.heap = h0) (fun _ _ _ _ _ => True) (fun _ U o U' => ∃ v L, o = .returned v ∧ QFi1 Z a0 hp kA x0 v1 v2 h0 n0 v U'.heap L ∧ FrameEnd U o U' L ({ frames := 0, cells := 0, slots := 0, locals := 0 } : Room).cells ({ frames := 0, cells := 0, slots := 0, locals := 0 } : Room).slots) := by
  refine MetFree.of_bodySF (plainFor_of_name pn_4) hisR ?_
  intro p e s m args below meth c s₁ Bd hml0 hP hK
  obtain ⟨rfl, hZ, hh⟩ := hP
  have hx := Bd.exec
  have hby := Bd.bytes
  have hml : c.maxLocals = 1 := hml0
  have hown : s.vm.findClass "com/example/keys_to_structures/keystostructures/store/ExpiryQueue" = some m.cls := findClass_of_methodNamed Bd.named
  have hnm := (name_of_methodNamed Bd.named Bd.method).1
  have X0 : Stand p l e ({ frames := 0, cells := 0, slots := 0, locals := 0 } : Room) s m #[(.ref a0)] below meth c s₁ [] 0 0 := Stand.of_body Bd
  have e0 : s₁.heap = h0 := by rw [← hh, Bd.state]; rfl
  have N0 := Fr.nil n0
  have Kp := Keep.refl h0 []
  show Run p e below (Ends s (QFi1 Z a0 hp kA x0 v1 v2 h0 n0) ({ frames := 0, cells := 0, slots := 0, locals := 0 } : Room).cells ({ frames := 0, cells := 0, slots := 0, locals := 0 } : Room).slots) _
  refine Run.st (S' := s₁.setTop (mkF m 0 #[.val (.ref a0)] [])) (fun t k => castTop (ef_Fi1 m a0) k) ?_
  refine Run.st (S' := s₁.setTop (mkF m 1 #[.val (.ref a0)] [(.ref a0)])) (fun _ k => XS.aloadN X0.here hx rfl (hb hby d12_0) rfl rfl k) ?_
  obtain ⟨T1, X1, e1, st1⟩ := getF X0 hx hZ hown (host := "") (Or.inl (hw _ (List.mem_of_getElem? (i := 46) rfl))) Via.refl e0 F_size (g := (mkF m 1 #[.val (.ref a0)] [(.ref a0)])) rfl rfl (hb hby d12_1)
  refine Run.st (S' := T1.setTop (mkF m 12 #[.val (.ref a0)] [(.ref a0)])) (fun _ k => st1 _ (XS.ifYes X1.here hx rfl (pc0 := 4) (pc' := 11) rfl (hb hby d12_4) rfl ((if0 _ _).trans (feq (show ¬ ((1 : Int32) = (0 : Int32)) from (by decide))).2) (by decide) (by decide) (XS.aloadN X1.here hx rfl (hb hby d12_11) rfl rfl k))) ?_
  obtain ⟨T2, X2, e2, st2⟩ := getF X1 hx hZ hown (host := "") (Or.inl (hw _ (List.mem_of_getElem? (i := 39) rfl))) Via.refl e1 F_heap (g := (mkF m 12 #[.val (.ref a0)] [(.ref a0)])) rfl rfl (hb hby d12_12)
  refine Run.st (S' := T2.setTop (mkF m 16 #[.val (.ref a0)] [(.int (0 : Int32)), (.ref hp)])) (fun _ k => st2 _ (XS.iconst X2.here hx rfl (hb hby d12_15) k)) ?_
  obtain ⟨cl3, Ar3, qa3, Sa3, Na3, Ha3, Ga3⟩ := id V_hp
  have hin3 : ¬ ((0 : Int32) < 0 ∨ cl3.slots.size ≤ ((0 : Int32)).toNatClampNeg) := inb_of Sa3 ⟨by decide, by decide⟩
  have hat3 : cl3.slots[((0 : Int32)).toNatClampNeg]? = some (.ref x0) := Has.at Ha3 hin3 rfl
  refine Run.st (S' := T2.setTop (mkF m 17 #[.val (.ref a0)] [(.ref x0)])) (fun _ k => X2.aaload hx (j := (0 : Int32)) (v := (.ref x0)) (by rw [e2]; exact Ar3.1) (State.isArrayOf_alike hZ.alike Ar3.2.1) rfl Ar3.2.2 hin3 hat3 (g := (mkF m 16 #[.val (.ref a0)] [(.int (0 : Int32)), (.ref hp)])) rfl rfl (hb hby d12_16) _ k) ?_
  refine Run.out X2 hx Bd.notSynchronized Bd.returns rfl (Or.inr (Or.inr (Or.inr (Or.inr ⟨rfl, rfl, rfl⟩)))) (hb hby d12_17) (by decide) (by decide) ?_
  rw [e2]
  exact ⟨rfl, N0, rfl⟩
theorem ef_Fi2 (m : MethodId) (a0 : Addr) : entryFrame m #[(.ref a0)] 1 = mkF m 0 #[.val (.ref a0)] [] := by first | (simp [entryFrame, mkF, argsToLocals, Value.category]; done) | rfl
def QFi2 (Z : State) (a0 : Addr) (hp : Addr) (kA : ClassId) (x0 : Addr) (v1 : Value) (v2 : Value) (h0 : Heap) (n0 : Nat) (v : Option Value) (h : Heap) (L : List Loc) : Prop := v = some (.ref x0) ∧ Fr n0 L ∧ h = h0
set_option maxRecDepth 65536 in
set_option maxHeartbeats 40000000 in
theorem rmFi2 (l : Launch) (Z : State) (aV : Array Value) (hw : ∀ d ∈ tables_1, d.before aV Z = true) (ws : List Jvm.Cond) (a0 : Addr) (hp : Addr) (kA : ClassId) (x0 : Addr) (v1 : Value) (v2 : Value) (h0 : Heap) (n0 : Nat) (Zn : n0 ≤ h0.size) (F_heap : Fld Z h0 a0 "com/example/keys_to_structures/keystostructures/store/ExpiryQueue" "heap" "[Lcom/example/keys_to_structures/keystostructures/store/TimedEntry;" (.ref hp)) (F_size : Fld Z h0 a0 "com/example/keys_to_structures/keystostructures/store/ExpiryQueue" "size" "I" (.int (2 : Int32))) (V_hp : Arv Z h0 hp kA (.object "com/example/keys_to_structures/keystostructures/store/TimedEntry") (16 : Int32) [(.ref x0), v1, v2, .null, .null, .null, .null, .null, .null, .null, .null, .null, .null, .null, .null, .null] .null) :
    MetFree l (⟨"com/example/keys_to_structures/keystostructures/store/ExpiryQueue", "first", "()Lcom/example/keys_to_structures/keystostructures/store/TimedEntry;"⟩ : MethodName) (head1 (Jvm.Cond.code (⟨"com/example/keys_to_structures/keystostructures/store/ExpiryQueue", "first", "()Lcom/example/keys_to_structures/keystostructures/store/TimedEntry;"⟩ : MethodName) prog_43_method_2_code 1 (some (.object "com/example/keys_to_structures/keystostructures/store/TimedEntry")) :: ws) ({ frames := 0, cells := 0, slots := 0, locals := 0 } : Room)) (fun a U => a = #[(.ref a0)] ∧ Z.Warmed39 U.vm ∧ U.heap = h0) (fun _ _ _ _ _ => True) (fun _ U o U' => ∃ v L, o = .returned v ∧ QFi2 Z a0 hp kA x0 v1 v2 h0 n0 v U'.heap L ∧ FrameEnd U o U' L ({ frames := 0, cells := 0, slots := 0, locals := 0 } : Room).cells ({ frames := 0, cells := 0, slots := 0, locals := 0 } : Room).slots) := by
  refine MetFree.of_bodySF (plainFor_of_name pn_4) hisR ?_
  intro p e s m args below meth c s₁ Bd hml0 hP hK
  obtain ⟨rfl, hZ, hh⟩ := hP
  have hx := Bd.exec
  have hby := Bd.bytes
  have hml : c.maxLocals = 1 := hml0
  have hown : s.vm.findClass "com/example/keys_to_structures/keystostructures/store/ExpiryQueue" = some m.cls := findClass_of_methodNamed Bd.named
  have hnm := (name_of_methodNamed Bd.named Bd.method).1
  have X0 : Stand p l e ({ frames := 0, cells := 0, slots := 0, locals := 0 } : Room) s m #[(.ref a0)] below meth c s₁ [] 0 0 := Stand.of_body Bd
  have e0 : s₁.heap = h0 := by rw [← hh, Bd.state]; rfl
  have N0 := Fr.nil n0
  have Kp := Keep.refl h0 []
  show Run p e below (Ends s (QFi2 Z a0 hp kA x0 v1 v2 h0 n0) ({ frames := 0, cells := 0, slots := 0, locals := 0 } : Room).cells ({ frames := 0, cells := 0, slots := 0, locals := 0 } : Room).slots) _
  refine Run.st (S' := s₁.setTop (mkF m 0 #[.val (.ref a0)] [])) (fun t k => castTop (ef_Fi2 m a0) k) ?_
  refine Run.st (S' := s₁.setTop (mkF m 1 #[.val (.ref a0)] [(.ref a0)])) (fun _ k => XS.aloadN X0.here hx rfl (hb hby d12_0) rfl rfl k) ?_
  obtain ⟨T1, X1, e1, st1⟩ := getF X0 hx hZ hown (host := "") (Or.inl (hw _ (List.mem_of_getElem? (i := 46) rfl))) Via.refl e0 F_size (g := (mkF m 1 #[.val (.ref a0)] [(.ref a0)])) rfl rfl (hb hby d12_1)
  refine Run.st (S' := T1.setTop (mkF m 12 #[.val (.ref a0)] [(.ref a0)])) (fun _ k => st1 _ (XS.ifYes X1.here hx rfl (pc0 := 4) (pc' := 11) rfl (hb hby d12_4) rfl ((if0 _ _).trans (feq (show ¬ ((2 : Int32) = (0 : Int32)) from (by decide))).2) (by decide) (by decide) (XS.aloadN X1.here hx rfl (hb hby d12_11) rfl rfl k))) ?_
  obtain ⟨T2, X2, e2, st2⟩ := getF X1 hx hZ hown (host := "") (Or.inl (hw _ (List.mem_of_getElem? (i := 39) rfl))) Via.refl e1 F_heap (g := (mkF m 12 #[.val (.ref a0)] [(.ref a0)])) rfl rfl (hb hby d12_12)
  refine Run.st (S' := T2.setTop (mkF m 16 #[.val (.ref a0)] [(.int (0 : Int32)), (.ref hp)])) (fun _ k => st2 _ (XS.iconst X2.here hx rfl (hb hby d12_15) k)) ?_
  obtain ⟨cl3, Ar3, qa3, Sa3, Na3, Ha3, Ga3⟩ := id V_hp
  have hin3 : ¬ ((0 : Int32) < 0 ∨ cl3.slots.size ≤ ((0 : Int32)).toNatClampNeg) := inb_of Sa3 ⟨by decide, by decide⟩
  have hat3 : cl3.slots[((0 : Int32)).toNatClampNeg]? = some (.ref x0) := Has.at Ha3 hin3 rfl
  refine Run.st (S' := T2.setTop (mkF m 17 #[.val (.ref a0)] [(.ref x0)])) (fun _ k => X2.aaload hx (j := (0 : Int32)) (v := (.ref x0)) (by rw [e2]; exact Ar3.1) (State.isArrayOf_alike hZ.alike Ar3.2.1) rfl Ar3.2.2 hin3 hat3 (g := (mkF m 16 #[.val (.ref a0)] [(.int (0 : Int32)), (.ref hp)])) rfl rfl (hb hby d12_16) _ k) ?_
  refine Run.out X2 hx Bd.notSynchronized Bd.returns rfl (Or.inr (Or.inr (Or.inr (Or.inr ⟨rfl, rfl, rfl⟩)))) (hb hby d12_17) (by decide) (by decide) ?_
  rw [e2]
  exact ⟨rfl, N0, rfl⟩
theorem ef_Fi3 (m : MethodId) (a0 : Addr) : entryFrame m #[(.ref a0)] 1 = mkF m 0 #[.val (.ref a0)] [] := by first | (simp [entryFrame, mkF, argsToLocals, Value.category]; done) | rfl
def QFi3 (Z : State) (a0 : Addr) (hp : Addr) (kA : ClassId) (x0 : Addr) (v1 : Value) (v2 : Value) (h0 : Heap) (n0 : Nat) (v : Option Value) (h : Heap) (L : List Loc) : Prop := v = some (.ref x0) ∧ Fr n0 L ∧ h = h0
set_option maxRecDepth 65536 in
set_option maxHeartbeats 40000000 in
theorem rmFi3 (l : Launch) (Z : State) (aV : Array Value) (hw : ∀ d ∈ tables_1, d.before aV Z = true) (ws : List Jvm.Cond) (a0 : Addr) (hp : Addr) (kA : ClassId) (x0 : Addr) (v1 : Value) (v2 : Value) (h0 : Heap) (n0 : Nat) (Zn : n0 ≤ h0.size) (F_heap : Fld Z h0 a0 "com/example/keys_to_structures/keystostructures/store/ExpiryQueue" "heap" "[Lcom/example/keys_to_structures/keystostructures/store/TimedEntry;" (.ref hp)) (F_size : Fld Z h0 a0 "com/example/keys_to_structures/keystostructures/store/ExpiryQueue" "size" "I" (.int (3 : Int32))) (V_hp : Arv Z h0 hp kA (.object "com/example/keys_to_structures/keystostructures/store/TimedEntry") (16 : Int32) [(.ref x0), v1, v2, .null, .null, .null, .null, .null, .null, .null, .null, .null, .null, .null, .null, .null] .null) :
    MetFree l (⟨"com/example/keys_to_structures/keystostructures/store/ExpiryQueue", "first", "()Lcom/example/keys_to_structures/keystostructures/store/TimedEntry;"⟩ : MethodName) (head1 (Jvm.Cond.code (⟨"com/example/keys_to_structures/keystostructures/store/ExpiryQueue", "first", "()Lcom/example/keys_to_structures/keystostructures/store/TimedEntry;"⟩ : MethodName) prog_43_method_2_code 1 (some (.object "com/example/keys_to_structures/keystostructures/store/TimedEntry")) :: ws) ({ frames := 0, cells := 0, slots := 0, locals := 0 } : Room)) (fun a U => a = #[(.ref a0)] ∧ Z.Warmed39 U.vm ∧ U.heap = h0) (fun _ _ _ _ _ => True) (fun _ U o U' => ∃ v L, o = .returned v ∧ QFi3 Z a0 hp kA x0 v1 v2 h0 n0 v U'.heap L ∧ FrameEnd U o U' L ({ frames := 0, cells := 0, slots := 0, locals := 0 } : Room).cells ({ frames := 0, cells := 0, slots := 0, locals := 0 } : Room).slots) := by
  refine MetFree.of_bodySF (plainFor_of_name pn_4) hisR ?_
  intro p e s m args below meth c s₁ Bd hml0 hP hK
  obtain ⟨rfl, hZ, hh⟩ := hP
  have hx := Bd.exec
  have hby := Bd.bytes
  have hml : c.maxLocals = 1 := hml0
  have hown : s.vm.findClass "com/example/keys_to_structures/keystostructures/store/ExpiryQueue" = some m.cls := findClass_of_methodNamed Bd.named
  have hnm := (name_of_methodNamed Bd.named Bd.method).1
  have X0 : Stand p l e ({ frames := 0, cells := 0, slots := 0, locals := 0 } : Room) s m #[(.ref a0)] below meth c s₁ [] 0 0 := Stand.of_body Bd
  have e0 : s₁.heap = h0 := by rw [← hh, Bd.state]; rfl
  have N0 := Fr.nil n0
  have Kp := Keep.refl h0 []
  show Run p e below (Ends s (QFi3 Z a0 hp kA x0 v1 v2 h0 n0) ({ frames := 0, cells := 0, slots := 0, locals := 0 } : Room).cells ({ frames := 0, cells := 0, slots := 0, locals := 0 } : Room).slots) _
  refine Run.st (S' := s₁.setTop (mkF m 0 #[.val (.ref a0)] [])) (fun t k => castTop (ef_Fi3 m a0) k) ?_
  refine Run.st (S' := s₁.setTop (mkF m 1 #[.val (.ref a0)] [(.ref a0)])) (fun _ k => XS.aloadN X0.here hx rfl (hb hby d12_0) rfl rfl k) ?_
  obtain ⟨T1, X1, e1, st1⟩ := getF X0 hx hZ hown (host := "") (Or.inl (hw _ (List.mem_of_getElem? (i := 46) rfl))) Via.refl e0 F_size (g := (mkF m 1 #[.val (.ref a0)] [(.ref a0)])) rfl rfl (hb hby d12_1)
  refine Run.st (S' := T1.setTop (mkF m 12 #[.val (.ref a0)] [(.ref a0)])) (fun _ k => st1 _ (XS.ifYes X1.here hx rfl (pc0 := 4) (pc' := 11) rfl (hb hby d12_4) rfl ((if0 _ _).trans (feq (show ¬ ((3 : Int32) = (0 : Int32)) from (by decide))).2) (by decide) (by decide) (XS.aloadN X1.here hx rfl (hb hby d12_11) rfl rfl k))) ?_
  obtain ⟨T2, X2, e2, st2⟩ := getF X1 hx hZ hown (host := "") (Or.inl (hw _ (List.mem_of_getElem? (i := 39) rfl))) Via.refl e1 F_heap (g := (mkF m 12 #[.val (.ref a0)] [(.ref a0)])) rfl rfl (hb hby d12_12)
  refine Run.st (S' := T2.setTop (mkF m 16 #[.val (.ref a0)] [(.int (0 : Int32)), (.ref hp)])) (fun _ k => st2 _ (XS.iconst X2.here hx rfl (hb hby d12_15) k)) ?_
  obtain ⟨cl3, Ar3, qa3, Sa3, Na3, Ha3, Ga3⟩ := id V_hp
  have hin3 : ¬ ((0 : Int32) < 0 ∨ cl3.slots.size ≤ ((0 : Int32)).toNatClampNeg) := inb_of Sa3 ⟨by decide, by decide⟩
  have hat3 : cl3.slots[((0 : Int32)).toNatClampNeg]? = some (.ref x0) := Has.at Ha3 hin3 rfl
  refine Run.st (S' := T2.setTop (mkF m 17 #[.val (.ref a0)] [(.ref x0)])) (fun _ k => X2.aaload hx (j := (0 : Int32)) (v := (.ref x0)) (by rw [e2]; exact Ar3.1) (State.isArrayOf_alike hZ.alike Ar3.2.1) rfl Ar3.2.2 hin3 hat3 (g := (mkF m 16 #[.val (.ref a0)] [(.int (0 : Int32)), (.ref hp)])) rfl rfl (hb hby d12_16) _ k) ?_
  refine Run.out X2 hx Bd.notSynchronized Bd.returns rfl (Or.inr (Or.inr (Or.inr (Or.inr ⟨rfl, rfl, rfl⟩)))) (hb hby d12_17) (by decide) (by decide) ?_
  rw [e2]
  exact ⟨rfl, N0, rfl⟩
theorem d6_0 : decode prog_43_method_1_code 0 = .ok (.aload_n 0, 1) := by decide +kernel
theorem d6_1 : decode prog_43_method_1_code 1 = .ok (.invokespecial 1, 3) := by decide +kernel
theorem d6_4 : decode prog_43_method_1_code 4 = .ok (.aload_n 0, 1) := by decide +kernel
theorem d6_5 : decode prog_43_method_1_code 5 = .ok (.bipush 16, 2) := by decide +kernel
theorem d6_7 : decode prog_43_method_1_code 7 = .ok (.anewarray 9, 3) := by decide +kernel
theorem d6_10 : decode prog_43_method_1_code 10 = .ok (.putfield 11, 3) := by decide +kernel
theorem d6_13 : decode prog_43_method_1_code 13 = .ok (.return_, 1) := by decide +kernel
theorem ef_QIni (m : MethodId) (a0 : Addr) : entryFrame m #[(.ref a0)] 1 = mkF m 0 #[.val (.ref a0)] [] := by first | (simp [entryFrame, mkF, argsToLocals, Value.category]; done) | rfl
def QQIni (Z : State) (a0 : Addr) (h0 : Heap) (n0 : Nat) (v : Option Value) (h : Heap) (L : List Loc) : Prop := ∃ (y0 : Addr) (ky0 : ClassId), v = none ∧ Fr n0 L ∧ Keep h0 h [a0] ∧ n0 ≤ y0 ∧ h0.size ≤ y0 ∧ Ovr Z ky0 "com/example/keys_to_structures/keystostructures/store/TimedEntry" ∧ Exa Z h a0 "com/example/keys_to_structures/keystostructures/store/ExpiryQueue" ∧ Fld Z h a0 "com/example/keys_to_structures/keystostructures/store/ExpiryQueue" "heap" "[Lcom/example/keys_to_structures/keystostructures/store/TimedEntry;" (.ref y0) ∧ Fld Z h a0 "com/example/keys_to_structures/keystostructures/store/ExpiryQueue" "size" "I" (.int (0 : Int32)) ∧ Arv Z h y0 ky0 (.object "com/example/keys_to_structures/keystostructures/store/TimedEntry") (16 : Int32) [.null, .null, .null, .null, .null, .null, .null, .null, .null, .null, .null, .null, .null, .null, .null, .null] .null
set_option maxRecDepth 65536 in
set_option maxHeartbeats 40000000 in
theorem rmQIni (l : Launch) (Z : State) (aV : Array Value) (hw : ∀ d ∈ tables_1, d.before aV Z = true) (ws : List Jvm.Cond) (a0 : Addr) (h0 : Heap) (n0 : Nat) (Zn : n0 ≤ h0.size) (g_a0 : n0 ≤ a0) (E_a0 : Exa Z h0 a0 "com/example/keys_to_structures/keystostructures/store/ExpiryQueue") (F_heap : Fld Z h0 a0 "com/example/keys_to_structures/keystostructures/store/ExpiryQueue" "heap" "[Lcom/example/keys_to_structures/keystostructures/store/TimedEntry;" .null) (F_size : Fld Z h0 a0 "com/example/keys_to_structures/keystostructures/store/ExpiryQueue" "size" "I" (.int (0 : Int32))) :
    MetFree l (⟨"com/example/keys_to_structures/keystostructures/store/ExpiryQueue", "<init>", "()V"⟩ : MethodName) (head1 (Jvm.Cond.code (⟨"com/example/keys_to_structures/keystostructures/store/ExpiryQueue", "<init>", "()V"⟩ : MethodName) prog_43_method_1_code 1 none :: ws) ({ frames := 1, cells := 1, slots := 16, locals := 12 } : Room)) (fun a U => a = #[(.ref a0)] ∧ Z.Warmed39 U.vm ∧ U.heap = h0) (fun _ _ _ _ _ => True) (fun _ U o U' => ∃ v L, o = .returned v ∧ QQIni Z a0 h0 n0 v U'.heap L ∧ FrameEnd U o U' L ({ frames := 1, cells := 1, slots := 16, locals := 12 } : Room).cells ({ frames := 1, cells := 1, slots := 16, locals := 12 } : Room).slots) := by
  refine MetFree.of_bodySF (plainFor_of_name pn_4) hisR ?_
  intro p e s m args below meth c s₁ Bd hml0 hP hK
  obtain ⟨rfl, hZ, hh⟩ := hP
  have hx := Bd.exec
  have hby := Bd.bytes
  have hml : c.maxLocals = 1 := hml0
  have hown : s.vm.findClass "com/example/keys_to_structures/keystostructures/store/ExpiryQueue" = some m.cls := findClass_of_methodNamed Bd.named
  have hnm := (name_of_methodNamed Bd.named Bd.method).1
  have X0 : Stand p l e ({ frames := 1, cells := 1, slots := 16, locals := 12 } : Room) s m #[(.ref a0)] below meth c s₁ [] 0 0 := Stand.of_body Bd
  have e0 : s₁.heap = h0 := by rw [← hh, Bd.state]; rfl
  have N0 := Fr.nil n0
  have Kp := Keep.refl h0 [a0]
  show Run p e below (Ends s (QQIni Z a0 h0 n0) ({ frames := 1, cells := 1, slots := 16, locals := 12 } : Room).cells ({ frames := 1, cells := 1, slots := 16, locals := 12 } : Room).slots) _
  refine Run.st (S' := s₁.setTop (mkF m 0 #[.val (.ref a0)] [])) (fun t k => castTop (ef_QIni m a0) k) ?_
  refine Run.st (S' := s₁.setTop (mkF m 1 #[.val (.ref a0)] [(.ref a0)])) (fun _ k => XS.aloadN X0.here hx rfl (hb hby d6_0) rfl rfl k) ?_
  obtain ⟨T1, X1, e1, st1⟩ := initO X0 hx hZ hown (hw _ (List.mem_of_getElem? (i := 36) rfl)) (hw _ (List.mem_of_getElem? (i := 13) rfl)) (hw _ (List.mem_of_getElem? (i := 14) rfl)) e0 (g := (mkF m 1 #[.val (.ref a0)] [(.ref a0)])) rfl (by rw [hml]; rfl) rfl (hb hby d6_1) (by decide) (W := 0) (by show 2 * 0 + _ ≤ _; exact Nat.le_of_eq rfl) (by decide)
  refine Run.st (S' := T1.setTop (mkF m 7 #[.val (.ref a0)] [(.int (16 : Int32)), (.ref a0)])) (fun _ k => st1 _ (XS.aloadN X1.here hx rfl (hb hby d6_4) rfl rfl (XS.bipush X1.here hx rfl (hb hby d6_5) k))) ?_
  obtain ⟨T2, h2, k2, X2, e2, E2, A2, O2, st2⟩ := newR X1 hx hZ hown (hw _ (List.mem_of_getElem? (i := 37) rfl)) (hw _ (List.mem_of_getElem? (i := 38) rfl)) e1 (g := (mkF m 7 #[.val (.ref a0)] [(.int (16 : Int32)), (.ref a0)])) rfl (hb hby d6_7) rfl (by decide) (cap := 16) (by decide) (by decide) (by decide) (by decide)
  obtain ⟨b2, g2⟩ : ∃ z, z = h0.size := ⟨_, rfl⟩
  rw [← g2] at A2 st2
  have ne_a0_b2 : a0 ≠ b2 := Nat.ne_of_lt (Nat.lt_of_lt_of_le E_a0.lt (Nat.le_of_eq g2.symm))
  have E_a0 := E_a0.ext E2
  have F_heap := F_heap.ext E2
  have F_size := F_size.ext E2
  have g_b2 : n0 ≤ b2 := Nat.le_trans Zn (Nat.le_of_eq g2.symm)
  have Zn := Nat.le_trans Zn E2.1
  have sz_b2 : h0.size ≤ b2 := Nat.le_trans Kp.1 (Nat.le_of_eq g2.symm)
  have Kp := Kp.ext E2
  have V_b2 : Arv Z h2 b2 k2 (.object "com/example/keys_to_structures/keystostructures/store/TimedEntry") (16 : Int32) [.null, .null, .null, .null, .null, .null, .null, .null, .null, .null, .null, .null, .null, .null, .null, .null] .null := (Arv.new A2 (by decide)).pad (pad_rep [] .null 16)
  refine Run.st (S' := T2.setTop (mkF m 10 #[.val (.ref a0)] [(.ref b2), (.ref a0)])) (fun _ k => st2 _ k) ?_
  obtain ⟨T3, h3, X3, e3, W3, st3⟩ := putF X2 hx hZ hown (host := "") (Or.inl (hw _ (List.mem_of_getElem? (i := 39) rfl))) Via.refl e2 F_heap E_a0 (Or.inl (hw _ (List.mem_of_getElem? (i := 40) rfl))) (hw _ (List.mem_of_getElem? (i := 31) rfl)) (ty := (.array (.object "com/example/keys_to_structures/keystostructures/store/TimedEntry"))) (by decide) rfl rfl (g := (mkF m 10 #[.val (.ref a0)] [(.ref b2), (.ref a0)])) rfl rfl (hb hby d6_10)
  have F_heap := F_heap.same W3
  have E_a0 := E_a0.wr W3
  have F_size := F_size.other W3 (Or.inr (slot_ne (Or.inl (hw _ (List.mem_of_getElem? (i := 47) rfl))) (Or.inl (hw _ (List.mem_of_getElem? (i := 40) rfl))) (by decide) (t := .int) (t' := (.array (.object "com/example/keys_to_structures/keystostructures/store/TimedEntry"))) (by decide) (by decide)))
  have V_b2 := V_b2.other W3 (Ne.symm ne_a0_b2)
  have N3 := Fr.snoc X3 N0 g_a0
  have Kp := Kp.wr W3 (Or.inl (by simp))
  have Zn := Nat.le_trans Zn (Nat.le_of_eq W3.size.symm)
  refine Run.st (S' := T3.setTop (mkF m 13 #[.val (.ref a0)] [])) (fun _ k => st3 _ k) ?_
  refine Run.outV X3 hx Bd.notSynchronized Bd.returns (hb hby d6_13) (by decide) (by decide) ?_
  rw [e3]
  exact ⟨b2, k2, rfl, N3, Kp, g_b2, sz_b2, O2, E_a0, F_heap, F_size, V_b2⟩
theorem own_c4 {x : Int32} (h : 0 ≤ x.toInt ∧ x.toInt < 4) : x = (0 : Int32) ∨ x = (1 : Int32) ∨ x = (2 : Int32) ∨ x = (3 : Int32) := by
  simp only [← Int32.toInt_inj]
  have e0 : (0 : Int32).toInt = 0 := by decide
  have e1 : (1 : Int32).toInt = 1 := by decide
  have e2 : (2 : Int32).toInt = 2 := by decide
  have e3 : (3 : Int32).toInt = 3 := by decide
  omega
theorem own_c3 {x : Int32} (h : 0 ≤ x.toInt ∧ x.toInt < 3) : x = (0 : Int32) ∨ x = (1 : Int32) ∨ x = (2 : Int32) := by
  simp only [← Int32.toInt_inj]
  have e0 : (0 : Int32).toInt = 0 := by decide
  have e1 : (1 : Int32).toInt = 1 := by decide
  have e2 : (2 : Int32).toInt = 2 := by decide
  omega
theorem own_c2 {x : Int32} (h : 0 ≤ x.toInt ∧ x.toInt < 2) : x = (0 : Int32) ∨ x = (1 : Int32) := by
  simp only [← Int32.toInt_inj]
  have e0 : (0 : Int32).toInt = 0 := by decide
  have e1 : (1 : Int32).toInt = 1 := by decide
  omega
theorem own_m1i (d m : Int64) : (own_m1 1 d m).toInt = min d.toInt m.toInt := by
  unfold own_m1
  rw [if_neg (by decide)]
  split
  · rename_i h; rw [Int64.lt_iff_toInt_lt] at h; omega
  · rename_i h; rw [Int64.lt_iff_toInt_lt] at h; omega
theorem own_m1o (d m : Int64) : own_m1 0 d m = m := by unfold own_m1; rw [if_pos rfl]
theorem own_m0i (d : Int64) : own_m0 1 d = d := by
  unfold own_m0
  rw [if_neg (by decide)]
  have r := rng64 d
  have em : (9223372036854775807 : Int64).toInt = 9223372036854775807 := by decide
  split
  · rfl
  · rename_i h; rw [Int64.lt_iff_toInt_lt] at h; apply Int64.toInt_inj.mp; omega
theorem own_m0o (d : Int64) : own_m0 0 d = (9223372036854775807 : Int64) := by unfold own_m0; rw [if_pos rfl]
theorem own_key (g o0 o1 o2 : Addr) (f0 f1 f2 : Int32) (d0 d1 d2 m : Int64) (hm : (¬ f0 = (0 : Int32) ∧ g = o0 ∧ d0 = m) ∨ (¬ f1 = (0 : Int32) ∧ g = o1 ∧ d1 = m) ∨ (¬ f2 = (0 : Int32) ∧ g = o2 ∧ d2 = m)) : own_isFm g o0 o1 o2 f0 f1 f2 d0 d1 d2 m = (1 : Int32) := by
  unfold own_isFm
  split
  · rfl
  · split
    · rfl
    · split
      · rfl
      · rename_i a b c
        rcases hm with q | q | q
        · exact absurd q a
        · exact absurd q b
        · exact absurd q c
theorem own_min (f0 f1 f2 : Int32) (d0 d1 d2 : Int64) (h0 : f0 = 0 ∨ f0 = 1) (h1 : f1 = 0 ∨ f1 = 1) (h2 : f2 = 0 ∨ f2 = 1) :
    (f0 = 1 → (f1 = 1 → ¬ d1 < d0) → (f2 = 1 → ¬ d2 < d0) → d0 = own_m1 f2 d2 (own_m1 f1 d1 (own_m0 f0 d0))) ∧
    (f1 = 1 → (f0 = 1 → ¬ d0 < d1) → (f2 = 1 → ¬ d2 < d1) → d1 = own_m1 f2 d2 (own_m1 f1 d1 (own_m0 f0 d0))) ∧
    (f2 = 1 → (f0 = 1 → ¬ d0 < d2) → (f1 = 1 → ¬ d1 < d2) → d2 = own_m1 f2 d2 (own_m1 f1 d1 (own_m0 f0 d0))) := by
  have r0 := rng64 d0
  have r1 := rng64 d1
  have r2 := rng64 d2
  have em : (9223372036854775807 : Int64).toInt = 9223372036854775807 := by decide
  have t0 : ¬ (0 : Int32) = 1 := by decide
  rcases h0 with rfl | rfl <;> rcases h1 with rfl | rfl <;> rcases h2 with rfl | rfl <;> refine ⟨fun a b c => ?_, fun a b c => ?_, fun a b c => ?_⟩ <;> first
    | exact absurd a t0
    | (apply Int64.toInt_inj.mp; simp only [own_m1i, own_m1o, own_m0i, own_m0o, em]; done)
    | (apply Int64.toInt_inj.mp
       simp only [own_m1i, own_m1o, own_m0i, own_m0o, em]
       try have b' := mt Int64.lt_iff_toInt_lt.mpr (b rfl)
       try have c' := mt Int64.lt_iff_toInt_lt.mpr (c rfl)
       omega)
theorem own_hit (g o0 o1 o2 : Addr) (f0 f1 f2 : Int32) (d0 d1 d2 : Int64) (h0 : f0 = 0 ∨ f0 = 1) (h1 : f1 = 0 ∨ f1 = 1) (h2 : f2 = 0 ∨ f2 = 1)
    (h : (f0 = 1 ∧ g = o0 ∧ (f1 = 1 → ¬ d1 < d0) ∧ (f2 = 1 → ¬ d2 < d0)) ∨ (f1 = 1 ∧ g = o1 ∧ (f0 = 1 → ¬ d0 < d1) ∧ (f2 = 1 → ¬ d2 < d1)) ∨ (f2 = 1 ∧ g = o2 ∧ (f0 = 1 → ¬ d0 < d2) ∧ (f1 = 1 → ¬ d1 < d2))) : own_isF g o0 o1 o2 f0 f1 f2 d0 d1 d2 = (1 : Int32) := by
  have M := own_min f0 f1 f2 d0 d1 d2 h0 h1 h2
  have t1 : ¬ (1 : Int32) = 0 := by decide
  unfold own_isF
  apply own_key
  rcases h with ⟨a, b, c, d⟩ | ⟨a, b, c, d⟩ | ⟨a, b, c, d⟩
  · exact Or.inl ⟨by rw [a]; exact t1, b, M.1 a c d⟩
  · exact Or.inr (Or.inl ⟨by rw [a]; exact t1, b, M.2.1 a c d⟩)
  · exact Or.inr (Or.inr ⟨by rw [a]; exact t1, b, M.2.2 a c d⟩)
/- the arrangements -/
theorem own_L2 (e0 e1 e2 y0 y1 : Addr) (a b c dy0 dy1 : Int64) (hp : (y0 = e0 ∧ y1 = e1 ∧ dy0 = a ∧ dy1 = b) ∨ (y0 = e1 ∧ y1 = e0 ∧ dy0 = b ∧ dy1 = a)) (hl : ¬ dy1 < dy0) : own_isF y0 e0 e1 e2 1 1 0 a b c = (1 : Int32) := by
  refine own_hit _ _ _ _ _ _ _ _ _ _ (by decide) (by decide) (by decide) ?_
  rcases hp with ⟨rfl, rfl, rfl, rfl⟩ | ⟨rfl, rfl, rfl, rfl⟩ <;> simp [hl]
theorem own_L3 (e0 e1 e2 y0 y1 z0 z1 z2 : Addr) (a b c dy0 dy1 dz0 dz1 dz2 : Int64) (hp : (y0 = e0 ∧ y1 = e1 ∧ dy0 = a ∧ dy1 = b) ∨ (y0 = e1 ∧ y1 = e0 ∧ dy0 = b ∧ dy1 = a)) (hq : (z0 = y0 ∧ z1 = y1 ∧ z2 = e2 ∧ dz0 = dy0 ∧ dz1 = dy1 ∧ dz2 = c) ∨ (z0 = e2 ∧ z1 = y1 ∧ z2 = y0 ∧ dz0 = c ∧ dz1 = dy1 ∧ dz2 = dy0)) (h1 : ¬ dz1 < dz0) (h2 : ¬ dz2 < dz0) : own_isF z0 e0 e1 e2 1 1 1 a b c = (1 : Int32) := by
  refine own_hit _ _ _ _ _ _ _ _ _ _ (by decide) (by decide) (by decide) ?_
  rcases hp with ⟨rfl, rfl, rfl, rfl⟩ | ⟨rfl, rfl, rfl, rfl⟩ <;> rcases hq with ⟨rfl, rfl, rfl, rfl, rfl, rfl⟩ | ⟨rfl, rfl, rfl, rfl, rfl, rfl⟩ <;> simp [h1, h2]
theorem own_L1 (e0 e1 e2 : Addr) (a b c : Int64) : own_isF e0 e0 e1 e2 1 0 0 a b c = (1 : Int32) := by
  refine own_hit _ _ _ _ _ _ _ _ _ _ (by decide) (by decide) (by decide) ?_
  simp
theorem own_R2 (e0 e1 e2 y0 y1 z : Addr) (a b c dy0 dy1 dz : Int64) (ne : e0 ≠ e1) (hp : (y0 = e0 ∧ y1 = e1 ∧ dy0 = a ∧ dy1 = b) ∨ (y0 = e1 ∧ y1 = e0 ∧ dy0 = b ∧ dy1 = a)) : (((e0 = y0 ∧ z = y1 ∧ dz = dy1) ∨ (e0 = y1 ∧ z = y0 ∧ dz = dy0)) → own_isF z e0 e1 e2 0 1 0 a b c = (1 : Int32)) ∧ (((e1 = y0 ∧ z = y1 ∧ dz = dy1) ∨ (e1 = y1 ∧ z = y0 ∧ dz = dy0)) → own_isF z e0 e1 e2 1 0 0 a b c = (1 : Int32)) := by
  constructor <;> intro h <;> refine own_hit _ _ _ _ _ _ _ _ _ _ (by decide) (by decide) (by decide) ?_ <;> rcases hp with ⟨rfl, rfl, rfl, rfl⟩ | ⟨rfl, rfl, rfl, rfl⟩ <;> rcases h with ⟨h1, h2, h3⟩ | ⟨h1, h2, h3⟩ <;> simp_all
theorem own_R3 (e0 e1 e2 y0 y1 x0 x1 x2 z k : Addr) (a b c dy0 dy1 d0 d1 d2 dz : Int64) (n1 : e0 ≠ e1) (n2 : e0 ≠ e2) (n3 : e1 ≠ e2) (hp : (y0 = e0 ∧ y1 = e1 ∧ dy0 = a ∧ dy1 = b) ∨ (y0 = e1 ∧ y1 = e0 ∧ dy0 = b ∧ dy1 = a)) (hq : (x0 = y0 ∧ x1 = y1 ∧ x2 = e2 ∧ d0 = dy0 ∧ d1 = dy1 ∧ d2 = c) ∨ (x0 = e2 ∧ x1 = y1 ∧ x2 = y0 ∧ d0 = c ∧ d1 = dy1 ∧ d2 = dy0)) (h1 : ¬ d1 < d0) (h2 : ¬ d2 < d0)
    (hr : (k = x0 ∧ ((z = x2 ∧ dz = d2 ∧ ¬ d1 < d2) ∨ (z = x1 ∧ dz = d1 ∧ d1 < d2))) ∨ (k = x1 ∧ z = x0 ∧ dz = d0) ∨ (k = x2 ∧ z = x0 ∧ dz = d0)) : (k = e0 → own_isF z e0 e1 e2 0 1 1 a b c = (1 : Int32)) ∧ (k = e1 → own_isF z e0 e1 e2 1 0 1 a b c = (1 : Int32)) ∧ (k = e2 → own_isF z e0 e1 e2 1 1 0 a b c = (1 : Int32)) := by
  have as : ∀ {u v : Int64}, u < v → ¬ v < u := fun h => by rw [Int64.lt_iff_toInt_lt] at *; omega
  refine ⟨fun hk => ?_, fun hk => ?_, fun hk => ?_⟩ <;> refine own_hit _ _ _ _ _ _ _ _ _ _ (by decide) (by decide) (by decide) ?_ <;> rcases hp with ⟨rfl, rfl, rfl, rfl⟩ | ⟨rfl, rfl, rfl, rfl⟩ <;> rcases hq with ⟨rfl, rfl, rfl, rfl, rfl, rfl⟩ | ⟨rfl, rfl, rfl, rfl, rfl, rfl⟩ <;> rcases hr with ⟨g1, ⟨g2, g3, g4⟩ | ⟨g2, g3, g4⟩⟩ | ⟨g1, g2, g3⟩ | ⟨g1, g2, g3⟩ <;> first | (exfalso; simp_all; done) | (have g5 := as g4; simp_all; done) | (simp_all; done)
theorem own_mem2 (e0 e1 y0 y1 : Addr) (a b dy0 dy1 : Int64) (hp : (y0 = e0 ∧ y1 = e1 ∧ dy0 = a ∧ dy1 = b) ∨ (y0 = e1 ∧ y1 = e0 ∧ dy0 = b ∧ dy1 = a)) : (e0 = y0 ∨ e0 = y1) ∧ (e1 = y0 ∨ e1 = y1) := by
  rcases hp with ⟨rfl, rfl, -, -⟩ | ⟨rfl, rfl, -, -⟩ <;> simp
theorem own_mem3 (e0 e1 e2 y0 y1 x0 x1 x2 : Addr) (a b c dy0 dy1 d0 d1 d2 : Int64) (hp : (y0 = e0 ∧ y1 = e1 ∧ dy0 = a ∧ dy1 = b) ∨ (y0 = e1 ∧ y1 = e0 ∧ dy0 = b ∧ dy1 = a)) (hq : (x0 = y0 ∧ x1 = y1 ∧ x2 = e2 ∧ d0 = dy0 ∧ d1 = dy1 ∧ d2 = c) ∨ (x0 = e2 ∧ x1 = y1 ∧ x2 = y0 ∧ d0 = c ∧ d1 = dy1 ∧ d2 = dy0)) : (e0 = x0 ∨ e0 = x1 ∨ e0 = x2) ∧ (e1 = x0 ∨ e1 = x1 ∨ e1 = x2) ∧ (e2 = x0 ∨ e2 = x1 ∨ e2 = x2) := by
  rcases hp with ⟨rfl, rfl, -, -⟩ | ⟨rfl, rfl, -, -⟩ <;> rcases hq with ⟨rfl, rfl, rfl, -, -, -⟩ | ⟨rfl, rfl, rfl, -, -, -⟩ <;> simp
theorem own_c1 {x : Int32} (h : 0 ≤ x.toInt ∧ x.toInt < 1) : x = (0 : Int32) := by
  simp only [← Int32.toInt_inj]
  have e0 : (0 : Int32).toInt = 0 := by decide
  omega
theorem pd_6 : parseMethodDescriptor "([BLjava/lang/Object;J)V" = some ⟨[(.array .byte), (.object "java/lang/Object"), .long], none⟩ := by decide +kernel
theorem pd_7 : parseMethodDescriptor "()V" = some ⟨[], none⟩ := by decide +kernel
theorem pd_8 : parseMethodDescriptor "()Lcom/example/keys_to_structures/keystostructures/store/TimedEntry;" = some ⟨[], some (.object "com/example/keys_to_structures/keystostructures/store/TimedEntry")⟩ := by decide +kernel
theorem pd_9 : parseMethodDescriptor "(Lcom/example/keys_to_structures/keystostructures/store/TimedEntry;Lcom/example/keys_to_structures/keystostructures/store/TimedEntry;Lcom/example/keys_to_structures/keystostructures/store/TimedEntry;Lcom/example/keys_to_structures/keystostructures/store/TimedEntry;ZZZJJJ)Z" = some ⟨[(.object "com/example/keys_to_structures/keystostructures/store/TimedEntry"), (.object "com/example/keys_to_structures/keystostructures/store/TimedEntry"), (.object "com/example/keys_to_structures/keystostructures/store/TimedEntry"), (.object "com/example/keys_to_structures/keystostructures/store/TimedEntry"), .boolean, .boolean, .boolean, .long, .long, .long], some .boolean⟩ := by decide +kernel
theorem pd_10 : parseMethodDescriptor "(Lcom/example/keys_to_structures/keystostructures/store/TimedEntry;)V" = some ⟨[(.object "com/example/keys_to_structures/keystostructures/store/TimedEntry")], none⟩ := by decide +kernel
theorem ef_0 (m : MethodId) (q0 : Int64) (q1 : Int64) (q2 : Int64) (p3 : Int32) (p4 : Int32) : entryFrame m #[(.long q0), (.long q1), (.long q2), (.int p3), (.int p4)] maxLocals = mkF m 0 #[.val (.long q0), .second, .val (.long q1), .second, .val (.long q2), .second, .val (.int p3), .val (.int p4), .unset, .unset, .unset, .unset, .unset, .unset, .unset, .unset, .unset, .unset, .unset] [] := by first | (simp [entryFrame, mkF, argsToLocals, Value.category, maxLocals]; done) | rfl
def Q0 (Z : State) (q0 : Int64) (q1 : Int64) (q2 : Int64) (p3 : Int32) (p4 : Int32) (h0 : Heap) (n0 : Nat) (v : Option Value) (h : Heap) (L : List Loc) : Prop := v = some (.int 1) ∧ Fr n0 L
set_option maxRecDepth 65536 in
set_option maxHeartbeats 40000000 in
theorem rm0 (l : Launch) (Z : State) (aV : Array Value) (hw : ∀ d ∈ tables_1, d.before aV Z = true) (ws : List Jvm.Cond) (q0 : Int64) (q1 : Int64) (q2 : Int64) (p3 : Int32) (p4 : Int32) (h0 : Heap) (n0 : Nat) (Zn : n0 ≤ h0.size) :
    MetFree l x (head1 (Jvm.Cond.code x code maxLocals ret :: ws) room_1) (fun a U => a = #[(.long q0), (.long q1), (.long q2), (.int p3), (.int p4)] ∧ Z.Warmed39 U.vm ∧ U.heap = h0) (fun _ _ _ _ _ => True) (fun _ U o U' => ∃ v L, o = .returned v ∧ Q0 Z q0 q1 q2 p3 p4 h0 n0 v U'.heap L ∧ FrameEnd U o U' L room_1.cells room_1.slots) := by
  refine MetFree.of_bodySF (plainFor_of_name pn_3) hisR ?_
  intro p e s m args below meth c s₁ Bd hml0 hP hK
  obtain ⟨rfl, hZ, hh⟩ := hP
  have hx := Bd.exec
  have hby := Bd.bytes
  have hml : c.maxLocals = 19 := hml0
  have hown : s.vm.findClass "com/example/keys_to_structures/keystostructures/store/ExpiryQueueFirstPinLaw" = some m.cls := findClass_of_methodNamed Bd.named
  have hnm := (name_of_methodNamed Bd.named Bd.method).1
  have X0 : Stand p l e room_1 s m #[(.long q0), (.long q1), (.long q2), (.int p3), (.int p4)] below meth c s₁ [] 0 0 := Stand.of_body Bd
  have e0 : s₁.heap = h0 := by rw [← hh, Bd.state]; rfl
  have N0 := Fr.nil n0
  have Kp := Keep.refl h0 []
  show Run p e below (Ends s (Q0 Z q0 q1 q2 p3 p4 h0 n0) room_1.cells room_1.slots) _
  refine Run.st (S' := s₁.setTop (mkF m 0 #[.val (.long q0), .second, .val (.long q1), .second, .val (.long q2), .second, .val (.int p3), .val (.int p4), .unset, .unset, .unset, .unset, .unset, .unset, .unset, .unset, .unset, .unset, .unset] [])) (fun t k => castTop (ef_0 m q0 q1 q2 p3 p4) k) ?_
  refine Run.st (S' := s₁.setTop (mkF m 6 #[.val (.long q0), .second, .val (.long q1), .second, .val (.long q2), .second, .val (.int p3), .val (.int p4), .val (.int (p3 &&& (3 : Int32))), .unset, .unset, .unset, .unset, .unset, .unset, .unset, .unset, .unset, .unset] [])) (fun _ k => XS.iload X0.here hx rfl (hb hby at_0) rfl (XS.iconst X0.here hx rfl (hb hby at_2) (XS.iand X0.here hx rfl (hb hby at_3) rfl (XS.istore X0.here hx rfl (hb hby at_4) rfl (l' := #[.val (.long q0), .second, .val (.long q1), .second, .val (.long q2), .second, .val (.int p3), .val (.int p4), .val (.int (p3 &&& (3 : Int32))), .unset, .unset, .unset, .unset, .unset, .unset, .unset, .unset, .unset, .unset]) rfl k)))) ?_
  have hcnt : 0 ≤ ((p3 &&& (3 : Int32))).toInt ∧ ((p3 &&& (3 : Int32))).toInt < 4 := (by have := rng32 (p3 &&& (3 : Int32)); have := c_mask p3 (3 : Int32) 2 (by decide) (by decide); have := rng32 p3; (try simp only [Int32.lt_iff_toInt_lt, Int64.lt_iff_toInt_lt, Int32.le_iff_toInt_le, Int64.le_iff_toInt_le, ← Int32.toInt_inj, ← Int64.toInt_inj] at  ⊢); omega)
  generalize ecnt : (p3 &&& (3 : Int32)) = cnt at hcnt ⊢
  obtain ⟨T1, h1, X1, e1, E1, A1, D1, -, st1⟩ := newO X0 hx hZ hown (hw _ (List.mem_of_getElem? (i := 0) rfl)) (hw _ (List.mem_of_getElem? (i := 1) rfl)) (hw _ (List.mem_of_getElem? (i := 2) rfl)) e0 (g := (mkF m 6 #[.val (.long q0), .second, .val (.long q1), .second, .val (.long q2), .second, .val (.int p3), .val (.int p4), .val (.int cnt), .unset, .unset, .unset, .unset, .unset, .unset, .unset, .unset, .unset, .unset] [])) rfl (hb hby at_6) (by decide) (by decide)
  obtain ⟨b1, g1⟩ : ∃ z, z = h0.size := ⟨_, rfl⟩
  rw [← g1] at A1 D1 st1
  have g_b1 : n0 ≤ b1 := Nat.le_trans Zn (Nat.le_of_eq g1.symm)
  have Zn := Nat.le_trans Zn E1.1
  have sz_b1 : h0.size ≤ b1 := Nat.le_trans Kp.1 (Nat.le_of_eq g1.symm)
  have Kp := Kp.ext E1
  have E_b1 := A1
  have F_key_b1 : Fld Z h1 b1 "com/example/keys_to_structures/keystostructures/store/Entry" "key" "[B" .null := D1 (Or.inr (hw _ (List.mem_of_getElem? (i := 16) rfl))) (ty := (.array .byte)) (by decide)
  have F_value_b1 : Fld Z h1 b1 "com/example/keys_to_structures/keystostructures/store/Entry" "value" "Ljava/lang/Object;" .null := D1 (Or.inl (hw _ (List.mem_of_getElem? (i := 18) rfl))) (ty := (.object "java/lang/Object")) (by decide)
  have F_hash_b1 : Fld Z h1 b1 "com/example/keys_to_structures/keystostructures/store/Entry" "hash" "I" (.int (0 : Int32)) := D1 (Or.inr (hw _ (List.mem_of_getElem? (i := 27) rfl))) (ty := .int) (by decide)
  have F_deadline_b1 : Fld Z h1 b1 "com/example/keys_to_structures/keystostructures/store/TimedEntry" "deadline" "J" (.long (0 : Int64)) := D1 (Or.inl (hw _ (List.mem_of_getElem? (i := 29) rfl))) (ty := .long) (by decide)
  have F_position_b1 : Fld Z h1 b1 "com/example/keys_to_structures/keystostructures/store/TimedEntry" "position" "I" (.int (0 : Int32)) := D1 (Or.inl (hw _ (List.mem_of_getElem? (i := 63) rfl))) (ty := .int) (by decide)
  refine Run.st (S' := T1.setTop (mkF m 11 #[.val (.long q0), .second, .val (.long q1), .second, .val (.long q2), .second, .val (.int p3), .val (.int p4), .val (.int cnt), .unset, .unset, .unset, .unset, .unset, .unset, .unset, .unset, .unset, .unset] [(.int (0 : Int32)), (.ref b1), (.ref b1)])) (fun _ k => st1 _ (XS.dup X1.here hx rfl (hb hby at_9) rfl rfl (XS.iconst X1.here hx rfl (hb hby at_10) k))) ?_
  obtain ⟨T2, h2, k2, X2, e2, E2, A2, st2⟩ := newP X1 hx hZ (hw _ (List.mem_of_getElem? (i := 3) rfl)) e1 (g := (mkF m 11 #[.val (.long q0), .second, .val (.long q1), .second, .val (.long q2), .second, .val (.int p3), .val (.int p4), .val (.int cnt), .unset, .unset, .unset, .unset, .unset, .unset, .unset, .unset, .unset, .unset] [(.int (0 : Int32)), (.ref b1), (.ref b1)])) rfl (hb hby at_11) rfl (by decide) (cap := 0) (by decide) (by decide) (by decide) (by decide)
  obtain ⟨b2, g2⟩ : ∃ z, z = h1.size := ⟨_, rfl⟩
  rw [← g2] at A2 st2
  have ne_b1_b2 : b1 ≠ b2 := Nat.ne_of_lt (Nat.lt_of_lt_of_le E_b1.lt (Nat.le_of_eq g2.symm))
  have E_b1 := E_b1.ext E2
  have F_key_b1 := F_key_b1.ext E2
  have F_value_b1 := F_value_b1.ext E2
  have F_hash_b1 := F_hash_b1.ext E2
  have F_deadline_b1 := F_deadline_b1.ext E2
  have F_position_b1 := F_position_b1.ext E2
  have g_b2 : n0 ≤ b2 := Nat.le_trans Zn (Nat.le_of_eq g2.symm)
  have Zn := Nat.le_trans Zn E2.1
  have sz_b2 : h0.size ≤ b2 := Nat.le_trans Kp.1 (Nat.le_of_eq g2.symm)
  have Kp := Kp.ext E2
  have V_b2 : Arv Z h2 b2 k2 .byte (0 : Int32) [] (.int (0 : Int32)) := (Arv.new A2 (by decide)).pad (pad_rep [] (.int (0 : Int32)) 0)
  refine Run.st (S' := T2.setTop (mkF m 15 #[.val (.long q0), .second, .val (.long q1), .second, .val (.long q2), .second, .val (.int p3), .val (.int p4), .val (.int cnt), .unset, .unset, .unset, .unset, .unset, .unset, .unset, .unset, .unset, .unset] [(.long q0), .null, (.ref b2), (.ref b1), (.ref b1)])) (fun _ k => st2 _ (XS.aconstNull X2.here hx rfl (hb hby at_13) (XS.lloadN X2.here hx rfl (hb hby at_14) rfl k))) ?_
  obtain ⟨_, _, ⟨T3, L3, k3, n3⟩, -, X3, ⟨Lc3, hQ3, l3, y3, z3⟩, st3⟩ := X2.specialBack hx (y := (⟨"com/example/keys_to_structures/keystostructures/store/TimedEntry", "<init>", "([BLjava/lang/Object;J)V"⟩ : MethodName)) rfl hown (mvT hZ (hw _ (List.mem_of_getElem? (i := 4) rfl))) (mvT hZ (hw _ (List.mem_of_getElem? (i := 5) rfl))) (mvT hZ (hw _ (List.mem_of_getElem? (i := 6) rfl))) (by decide) (backOf (W := 1) (rmTIni l Z aV hw [] b1 b2 q0 k2 h2 n0 Zn g_b1 E_b1 F_deadline_b1 F_position_b1 F_key_b1 F_value_b1 F_hash_b1 V_b2 ne_b1_b2) hZ (hw _ (List.mem_of_getElem? (i := 6) rfl)) (hw _ (List.mem_of_getElem? (i := 2) rfl)) (by decide) (by decide)) (g := (mkF m 15 #[.val (.long q0), .second, .val (.long q1), .second, .val (.long q2), .second, .val (.int p3), .val (.int p4), .val (.int cnt), .unset, .unset, .unset, .unset, .unset, .unset, .unset, .unset, .unset, .unset] [(.long q0), .null, (.ref b2), (.ref b1), (.ref b1)])) rfl (by rw [hml]; rfl) (Steps.refl _) (a := b1) (argsL := [(.ref b2), .null, (.long q0)]) (rest := [(.ref b1)]) (lenOf pd_6 rfl) rfl (by show 2 * 0 + _ ≤ _; exact Nat.le_of_eq rfl) (hb hby at_15) (fun _ _ => ⟨rfl, e2, (by decide : 2 + 0 ≤ _), (by decide : 6 + 0 ≤ _)⟩)
  dsimp only [Pt.U, Pt.locs, Pt.cells, Pt.slots] at X3 l3 y3 z3 st3 hQ3
  subst l3 y3 z3
  obtain ⟨rfl, N3q, K3, q3_0, q3_1, q3_2, q3_3, q3_4, q3_5⟩ := hQ3
  have V_b2 := V_b2.keep K3 (ninS (Ne.symm ne_b1_b2) nin0)
  have E_b1 := q3_0
  have F_deadline_b1 := q3_1
  have F_position_b1 := q3_2
  have F_key_b1 := q3_3
  have F_value_b1 := q3_4
  have F_hash_b1 := q3_5
  have Kp := Kp.trans K3 (allS (Or.inr sz_b1) all0)
  have Zn := Nat.le_trans Zn K3.1
  have N3 := Fr.app N0 N3q
  refine Run.st (S' := T3.setTop (mkF m 20 #[.val (.long q0), .second, .val (.long q1), .second, .val (.long q2), .second, .val (.int p3), .val (.int p4), .val (.int cnt), .val (.ref b1), .unset, .unset, .unset, .unset, .unset, .unset, .unset, .unset, .unset] [])) (fun _ k => st3.trans (XS.astore X3.here hx rfl (hb hby at_18) rfl rfl (l' := #[.val (.long q0), .second, .val (.long q1), .second, .val (.long q2), .second, .val (.int p3), .val (.int p4), .val (.int cnt), .val (.ref b1), .unset, .unset, .unset, .unset, .unset, .unset, .unset, .unset, .unset]) rfl k)) ?_
  obtain ⟨T4, h4, X4, e4, E4, A4, D4, -, st4⟩ := newO X3 hx hZ hown (hw _ (List.mem_of_getElem? (i := 0) rfl)) (hw _ (List.mem_of_getElem? (i := 1) rfl)) (hw _ (List.mem_of_getElem? (i := 2) rfl)) rfl (g := (mkF m 20 #[.val (.long q0), .second, .val (.long q1), .second, .val (.long q2), .second, .val (.int p3), .val (.int p4), .val (.int cnt), .val (.ref b1), .unset, .unset, .unset, .unset, .unset, .unset, .unset, .unset, .unset] [])) rfl (hb hby at_20) (by decide) (by decide)
  obtain ⟨b4, g4⟩ : ∃ z, z = T3.heap.size := ⟨_, rfl⟩
  rw [← g4] at A4 D4 st4
  have ne_b1_b4 : b1 ≠ b4 := Nat.ne_of_lt (Nat.lt_of_lt_of_le E_b1.lt (Nat.le_of_eq g4.symm))
  have E_b1 := E_b1.ext E4
  have F_deadline_b1 := F_deadline_b1.ext E4
  have F_position_b1 := F_position_b1.ext E4
  have g_b4 : n0 ≤ b4 := Nat.le_trans Zn (Nat.le_of_eq g4.symm)
  have Zn := Nat.le_trans Zn E4.1
  have sz_b4 : h0.size ≤ b4 := Nat.le_trans Kp.1 (Nat.le_of_eq g4.symm)
  have Kp := Kp.ext E4
  have E_b4 := A4
  have F_key_b4 : Fld Z h4 b4 "com/example/keys_to_structures/keystostructures/store/Entry" "key" "[B" .null := D4 (Or.inr (hw _ (List.mem_of_getElem? (i := 16) rfl))) (ty := (.array .byte)) (by decide)
  have F_value_b4 : Fld Z h4 b4 "com/example/keys_to_structures/keystostructures/store/Entry" "value" "Ljava/lang/Object;" .null := D4 (Or.inl (hw _ (List.mem_of_getElem? (i := 18) rfl))) (ty := (.object "java/lang/Object")) (by decide)
  have F_hash_b4 : Fld Z h4 b4 "com/example/keys_to_structures/keystostructures/store/Entry" "hash" "I" (.int (0 : Int32)) := D4 (Or.inr (hw _ (List.mem_of_getElem? (i := 27) rfl))) (ty := .int) (by decide)
  have F_deadline_b4 : Fld Z h4 b4 "com/example/keys_to_structures/keystostructures/store/TimedEntry" "deadline" "J" (.long (0 : Int64)) := D4 (Or.inl (hw _ (List.mem_of_getElem? (i := 29) rfl))) (ty := .long) (by decide)
  have F_position_b4 : Fld Z h4 b4 "com/example/keys_to_structures/keystostructures/store/TimedEntry" "position" "I" (.int (0 : Int32)) := D4 (Or.inl (hw _ (List.mem_of_getElem? (i := 63) rfl))) (ty := .int) (by decide)
  refine Run.st (S' := T4.setTop (mkF m 25 #[.val (.long q0), .second, .val (.long q1), .second, .val (.long q2), .second, .val (.int p3), .val (.int p4), .val (.int cnt), .val (.ref b1), .unset, .unset, .unset, .unset, .unset, .unset, .unset, .unset, .unset] [(.int (0 : Int32)), (.ref b4), (.ref b4)])) (fun _ k => st4 _ (XS.dup X4.here hx rfl (hb hby at_23) rfl rfl (XS.iconst X4.here hx rfl (hb hby at_24) k))) ?_
  obtain ⟨T5, h5, k5, X5, e5, E5, A5, st5⟩ := newP X4 hx hZ (hw _ (List.mem_of_getElem? (i := 3) rfl)) e4 (g := (mkF m 25 #[.val (.long q0), .second, .val (.long q1), .second, .val (.long q2), .second, .val (.int p3), .val (.int p4), .val (.int cnt), .val (.ref b1), .unset, .unset, .unset, .unset, .unset, .unset, .unset, .unset, .unset] [(.int (0 : Int32)), (.ref b4), (.ref b4)])) rfl (hb hby at_25) rfl (by decide) (cap := 0) (by decide) (by decide) (by decide) (by decide)
  obtain ⟨b5, g5⟩ : ∃ z, z = h4.size := ⟨_, rfl⟩
  rw [← g5] at A5 st5
  have ne_b1_b5 : b1 ≠ b5 := Nat.ne_of_lt (Nat.lt_of_lt_of_le E_b1.lt (Nat.le_of_eq g5.symm))
  have ne_b4_b5 : b4 ≠ b5 := Nat.ne_of_lt (Nat.lt_of_lt_of_le E_b4.lt (Nat.le_of_eq g5.symm))
  have E_b1 := E_b1.ext E5
  have F_deadline_b1 := F_deadline_b1.ext E5
  have F_position_b1 := F_position_b1.ext E5
  have E_b4 := E_b4.ext E5
  have F_key_b4 := F_key_b4.ext E5
  have F_value_b4 := F_value_b4.ext E5
  have F_hash_b4 := F_hash_b4.ext E5
  have F_deadline_b4 := F_deadline_b4.ext E5
  have F_position_b4 := F_position_b4.ext E5
  have g_b5 : n0 ≤ b5 := Nat.le_trans Zn (Nat.le_of_eq g5.symm)
  have Zn := Nat.le_trans Zn E5.1
  have sz_b5 : h0.size ≤ b5 := Nat.le_trans Kp.1 (Nat.le_of_eq g5.symm)
  have Kp := Kp.ext E5
  have V_b5 : Arv Z h5 b5 k5 .byte (0 : Int32) [] (.int (0 : Int32)) := (Arv.new A5 (by decide)).pad (pad_rep [] (.int (0 : Int32)) 0)
  refine Run.st (S' := T5.setTop (mkF m 29 #[.val (.long q0), .second, .val (.long q1), .second, .val (.long q2), .second, .val (.int p3), .val (.int p4), .val (.int cnt), .val (.ref b1), .unset, .unset, .unset, .unset, .unset, .unset, .unset, .unset, .unset] [(.long q1), .null, (.ref b5), (.ref b4), (.ref b4)])) (fun _ k => st5 _ (XS.aconstNull X5.here hx rfl (hb hby at_27) (XS.lloadN X5.here hx rfl (hb hby at_28) rfl k))) ?_
  obtain ⟨_, _, ⟨T6, L6, k6, n6⟩, -, X6, ⟨Lc6, hQ6, l6, y6, z6⟩, st6⟩ := X5.specialBack hx (y := (⟨"com/example/keys_to_structures/keystostructures/store/TimedEntry", "<init>", "([BLjava/lang/Object;J)V"⟩ : MethodName)) rfl hown (mvT hZ (hw _ (List.mem_of_getElem? (i := 4) rfl))) (mvT hZ (hw _ (List.mem_of_getElem? (i := 5) rfl))) (mvT hZ (hw _ (List.mem_of_getElem? (i := 6) rfl))) (by decide) (backOf (W := 1) (rmTIni l Z aV hw [] b4 b5 q1 k5 h5 n0 Zn g_b4 E_b4 F_deadline_b4 F_position_b4 F_key_b4 F_value_b4 F_hash_b4 V_b5 ne_b4_b5) hZ (hw _ (List.mem_of_getElem? (i := 6) rfl)) (hw _ (List.mem_of_getElem? (i := 2) rfl)) (by decide) (by decide)) (g := (mkF m 29 #[.val (.long q0), .second, .val (.long q1), .second, .val (.long q2), .second, .val (.int p3), .val (.int p4), .val (.int cnt), .val (.ref b1), .unset, .unset, .unset, .unset, .unset, .unset, .unset, .unset, .unset] [(.long q1), .null, (.ref b5), (.ref b4), (.ref b4)])) rfl (by rw [hml]; rfl) (Steps.refl _) (a := b4) (argsL := [(.ref b5), .null, (.long q1)]) (rest := [(.ref b4)]) (lenOf pd_6 rfl) rfl (by show 2 * 0 + _ ≤ _; exact Nat.le_of_eq rfl) (hb hby at_29) (fun _ _ => ⟨rfl, e5, (by decide : 4 + 0 ≤ _), (by decide : 12 + 0 ≤ _)⟩)
  dsimp only [Pt.U, Pt.locs, Pt.cells, Pt.slots] at X6 l6 y6 z6 st6 hQ6
  subst l6 y6 z6
  obtain ⟨rfl, N6q, K6, q6_0, q6_1, q6_2, q6_3, q6_4, q6_5⟩ := hQ6
  have E_b1 := E_b1.keep K6
  have F_deadline_b1 := F_deadline_b1.keep K6 (ninS ne_b1_b4 nin0)
  have F_position_b1 := F_position_b1.keep K6 (ninS ne_b1_b4 nin0)
  have V_b5 := V_b5.keep K6 (ninS (Ne.symm ne_b4_b5) nin0)
  have E_b4 := q6_0
  have F_deadline_b4 := q6_1
  have F_position_b4 := q6_2
  have F_key_b4 := q6_3
  have F_value_b4 := q6_4
  have F_hash_b4 := q6_5
  have Kp := Kp.trans K6 (allS (Or.inr sz_b4) all0)
  have Zn := Nat.le_trans Zn K6.1
  have N6 := Fr.app N3 N6q
  refine Run.st (S' := T6.setTop (mkF m 34 #[.val (.long q0), .second, .val (.long q1), .second, .val (.long q2), .second, .val (.int p3), .val (.int p4), .val (.int cnt), .val (.ref b1), .val (.ref b4), .unset, .unset, .unset, .unset, .unset, .unset, .unset, .unset] [])) (fun _ k => st6.trans (XS.astore X6.here hx rfl (hb hby at_32) rfl rfl (l' := #[.val (.long q0), .second, .val (.long q1), .second, .val (.long q2), .second, .val (.int p3), .val (.int p4), .val (.int cnt), .val (.ref b1), .val (.ref b4), .unset, .unset, .unset, .unset, .unset, .unset, .unset, .unset]) rfl k)) ?_
  obtain ⟨T7, h7, X7, e7, E7, A7, D7, -, st7⟩ := newO X6 hx hZ hown (hw _ (List.mem_of_getElem? (i := 0) rfl)) (hw _ (List.mem_of_getElem? (i := 1) rfl)) (hw _ (List.mem_of_getElem? (i := 2) rfl)) rfl (g := (mkF m 34 #[.val (.long q0), .second, .val (.long q1), .second, .val (.long q2), .second, .val (.int p3), .val (.int p4), .val (.int cnt), .val (.ref b1), .val (.ref b4), .unset, .unset, .unset, .unset, .unset, .unset, .unset, .unset] [])) rfl (hb hby at_34) (by decide) (by decide)
  obtain ⟨b7, g7⟩ : ∃ z, z = T6.heap.size := ⟨_, rfl⟩
  rw [← g7] at A7 D7 st7
  have ne_b1_b7 : b1 ≠ b7 := Nat.ne_of_lt (Nat.lt_of_lt_of_le E_b1.lt (Nat.le_of_eq g7.symm))
  have ne_b4_b7 : b4 ≠ b7 := Nat.ne_of_lt (Nat.lt_of_lt_of_le E_b4.lt (Nat.le_of_eq g7.symm))
  have E_b1 := E_b1.ext E7
  have F_deadline_b1 := F_deadline_b1.ext E7
  have F_position_b1 := F_position_b1.ext E7
  have E_b4 := E_b4.ext E7
  have F_deadline_b4 := F_deadline_b4.ext E7
  have F_position_b4 := F_position_b4.ext E7
  have g_b7 : n0 ≤ b7 := Nat.le_trans Zn (Nat.le_of_eq g7.symm)
  have Zn := Nat.le_trans Zn E7.1
  have sz_b7 : h0.size ≤ b7 := Nat.le_trans Kp.1 (Nat.le_of_eq g7.symm)
  have Kp := Kp.ext E7
  have E_b7 := A7
  have F_key_b7 : Fld Z h7 b7 "com/example/keys_to_structures/keystostructures/store/Entry" "key" "[B" .null := D7 (Or.inr (hw _ (List.mem_of_getElem? (i := 16) rfl))) (ty := (.array .byte)) (by decide)
  have F_value_b7 : Fld Z h7 b7 "com/example/keys_to_structures/keystostructures/store/Entry" "value" "Ljava/lang/Object;" .null := D7 (Or.inl (hw _ (List.mem_of_getElem? (i := 18) rfl))) (ty := (.object "java/lang/Object")) (by decide)
  have F_hash_b7 : Fld Z h7 b7 "com/example/keys_to_structures/keystostructures/store/Entry" "hash" "I" (.int (0 : Int32)) := D7 (Or.inr (hw _ (List.mem_of_getElem? (i := 27) rfl))) (ty := .int) (by decide)
  have F_deadline_b7 : Fld Z h7 b7 "com/example/keys_to_structures/keystostructures/store/TimedEntry" "deadline" "J" (.long (0 : Int64)) := D7 (Or.inl (hw _ (List.mem_of_getElem? (i := 29) rfl))) (ty := .long) (by decide)
  have F_position_b7 : Fld Z h7 b7 "com/example/keys_to_structures/keystostructures/store/TimedEntry" "position" "I" (.int (0 : Int32)) := D7 (Or.inl (hw _ (List.mem_of_getElem? (i := 63) rfl))) (ty := .int) (by decide)
  refine Run.st (S' := T7.setTop (mkF m 39 #[.val (.long q0), .second, .val (.long q1), .second, .val (.long q2), .second, .val (.int p3), .val (.int p4), .val (.int cnt), .val (.ref b1), .val (.ref b4), .unset, .unset, .unset, .unset, .unset, .unset, .unset, .unset] [(.int (0 : Int32)), (.ref b7), (.ref b7)])) (fun _ k => st7 _ (XS.dup X7.here hx rfl (hb hby at_37) rfl rfl (XS.iconst X7.here hx rfl (hb hby at_38) k))) ?_
  obtain ⟨T8, h8, k8, X8, e8, E8, A8, st8⟩ := newP X7 hx hZ (hw _ (List.mem_of_getElem? (i := 3) rfl)) e7 (g := (mkF m 39 #[.val (.long q0), .second, .val (.long q1), .second, .val (.long q2), .second, .val (.int p3), .val (.int p4), .val (.int cnt), .val (.ref b1), .val (.ref b4), .unset, .unset, .unset, .unset, .unset, .unset, .unset, .unset] [(.int (0 : Int32)), (.ref b7), (.ref b7)])) rfl (hb hby at_39) rfl (by decide) (cap := 0) (by decide) (by decide) (by decide) (by decide)
  obtain ⟨b8, g8⟩ : ∃ z, z = h7.size := ⟨_, rfl⟩
  rw [← g8] at A8 st8
  have ne_b1_b8 : b1 ≠ b8 := Nat.ne_of_lt (Nat.lt_of_lt_of_le E_b1.lt (Nat.le_of_eq g8.symm))
  have ne_b4_b8 : b4 ≠ b8 := Nat.ne_of_lt (Nat.lt_of_lt_of_le E_b4.lt (Nat.le_of_eq g8.symm))
  have ne_b7_b8 : b7 ≠ b8 := Nat.ne_of_lt (Nat.lt_of_lt_of_le E_b7.lt (Nat.le_of_eq g8.symm))
  have E_b1 := E_b1.ext E8
  have F_deadline_b1 := F_deadline_b1.ext E8
  have F_position_b1 := F_position_b1.ext E8
  have E_b4 := E_b4.ext E8
  have F_deadline_b4 := F_deadline_b4.ext E8
  have F_position_b4 := F_position_b4.ext E8
  have E_b7 := E_b7.ext E8
  have F_key_b7 := F_key_b7.ext E8
  have F_value_b7 := F_value_b7.ext E8
  have F_hash_b7 := F_hash_b7.ext E8
  have F_deadline_b7 := F_deadline_b7.ext E8
  have F_position_b7 := F_position_b7.ext E8
  have g_b8 : n0 ≤ b8 := Nat.le_trans Zn (Nat.le_of_eq g8.symm)
  have Zn := Nat.le_trans Zn E8.1
  have sz_b8 : h0.size ≤ b8 := Nat.le_trans Kp.1 (Nat.le_of_eq g8.symm)
  have Kp := Kp.ext E8
  have V_b8 : Arv Z h8 b8 k8 .byte (0 : Int32) [] (.int (0 : Int32)) := (Arv.new A8 (by decide)).pad (pad_rep [] (.int (0 : Int32)) 0)
  refine Run.st (S' := T8.setTop (mkF m 44 #[.val (.long q0), .second, .val (.long q1), .second, .val (.long q2), .second, .val (.int p3), .val (.int p4), .val (.int cnt), .val (.ref b1), .val (.ref b4), .unset, .unset, .unset, .unset, .unset, .unset, .unset, .unset] [(.long q2), .null, (.ref b8), (.ref b7), (.ref b7)])) (fun _ k => st8 _ (XS.aconstNull X8.here hx rfl (hb hby at_41) (XS.lload X8.here hx rfl (hb hby at_42) rfl k))) ?_
  obtain ⟨_, _, ⟨T9, L9, k9, n9⟩, -, X9, ⟨Lc9, hQ9, l9, y9, z9⟩, st9⟩ := X8.specialBack hx (y := (⟨"com/example/keys_to_structures/keystostructures/store/TimedEntry", "<init>", "([BLjava/lang/Object;J)V"⟩ : MethodName)) rfl hown (mvT hZ (hw _ (List.mem_of_getElem? (i := 4) rfl))) (mvT hZ (hw _ (List.mem_of_getElem? (i := 5) rfl))) (mvT hZ (hw _ (List.mem_of_getElem? (i := 6) rfl))) (by decide) (backOf (W := 1) (rmTIni l Z aV hw [] b7 b8 q2 k8 h8 n0 Zn g_b7 E_b7 F_deadline_b7 F_position_b7 F_key_b7 F_value_b7 F_hash_b7 V_b8 ne_b7_b8) hZ (hw _ (List.mem_of_getElem? (i := 6) rfl)) (hw _ (List.mem_of_getElem? (i := 2) rfl)) (by decide) (by decide)) (g := (mkF m 44 #[.val (.long q0), .second, .val (.long q1), .second, .val (.long q2), .second, .val (.int p3), .val (.int p4), .val (.int cnt), .val (.ref b1), .val (.ref b4), .unset, .unset, .unset, .unset, .unset, .unset, .unset, .unset] [(.long q2), .null, (.ref b8), (.ref b7), (.ref b7)])) rfl (by rw [hml]; rfl) (Steps.refl _) (a := b7) (argsL := [(.ref b8), .null, (.long q2)]) (rest := [(.ref b7)]) (lenOf pd_6 rfl) rfl (by show 2 * 0 + _ ≤ _; exact Nat.le_of_eq rfl) (hb hby at_44) (fun _ _ => ⟨rfl, e8, (by decide : 6 + 0 ≤ _), (by decide : 18 + 0 ≤ _)⟩)
  dsimp only [Pt.U, Pt.locs, Pt.cells, Pt.slots] at X9 l9 y9 z9 st9 hQ9
  subst l9 y9 z9
  obtain ⟨rfl, N9q, K9, q9_0, q9_1, q9_2, q9_3, q9_4, q9_5⟩ := hQ9
  have E_b1 := E_b1.keep K9
  have F_deadline_b1 := F_deadline_b1.keep K9 (ninS ne_b1_b7 nin0)
  have F_position_b1 := F_position_b1.keep K9 (ninS ne_b1_b7 nin0)
  have E_b4 := E_b4.keep K9
  have F_deadline_b4 := F_deadline_b4.keep K9 (ninS ne_b4_b7 nin0)
  have F_position_b4 := F_position_b4.keep K9 (ninS ne_b4_b7 nin0)
  have V_b8 := V_b8.keep K9 (ninS (Ne.symm ne_b7_b8) nin0)
  have E_b7 := q9_0
  have F_deadline_b7 := q9_1
  have F_position_b7 := q9_2
  have F_key_b7 := q9_3
  have F_value_b7 := q9_4
  have F_hash_b7 := q9_5
  have Kp := Kp.trans K9 (allS (Or.inr sz_b7) all0)
  have Zn := Nat.le_trans Zn K9.1
  have N9 := Fr.app N6 N9q
  refine Run.st (S' := T9.setTop (mkF m 49 #[.val (.long q0), .second, .val (.long q1), .second, .val (.long q2), .second, .val (.int p3), .val (.int p4), .val (.int cnt), .val (.ref b1), .val (.ref b4), .val (.ref b7), .unset, .unset, .unset, .unset, .unset, .unset, .unset] [])) (fun _ k => st9.trans (XS.astore X9.here hx rfl (hb hby at_47) rfl rfl (l' := #[.val (.long q0), .second, .val (.long q1), .second, .val (.long q2), .second, .val (.int p3), .val (.int p4), .val (.int cnt), .val (.ref b1), .val (.ref b4), .val (.ref b7), .unset, .unset, .unset, .unset, .unset, .unset, .unset]) rfl k)) ?_
  obtain ⟨T10, h10, X10, e10, E10, A10, D10, -, st10⟩ := newO X9 hx hZ hown (hw _ (List.mem_of_getElem? (i := 30) rfl)) (hw _ (List.mem_of_getElem? (i := 31) rfl)) (hw _ (List.mem_of_getElem? (i := 32) rfl)) rfl (g := (mkF m 49 #[.val (.long q0), .second, .val (.long q1), .second, .val (.long q2), .second, .val (.int p3), .val (.int p4), .val (.int cnt), .val (.ref b1), .val (.ref b4), .val (.ref b7), .unset, .unset, .unset, .unset, .unset, .unset, .unset] [])) rfl (hb hby at_49) (by decide) (by decide)
  obtain ⟨b10, g10⟩ : ∃ z, z = T9.heap.size := ⟨_, rfl⟩
  rw [← g10] at A10 D10 st10
  have ne_b1_b10 : b1 ≠ b10 := Nat.ne_of_lt (Nat.lt_of_lt_of_le E_b1.lt (Nat.le_of_eq g10.symm))
  have ne_b4_b10 : b4 ≠ b10 := Nat.ne_of_lt (Nat.lt_of_lt_of_le E_b4.lt (Nat.le_of_eq g10.symm))
  have ne_b7_b10 : b7 ≠ b10 := Nat.ne_of_lt (Nat.lt_of_lt_of_le E_b7.lt (Nat.le_of_eq g10.symm))
  have E_b1 := E_b1.ext E10
  have F_deadline_b1 := F_deadline_b1.ext E10
  have F_position_b1 := F_position_b1.ext E10
  have E_b4 := E_b4.ext E10
  have F_deadline_b4 := F_deadline_b4.ext E10
  have F_position_b4 := F_position_b4.ext E10
  have E_b7 := E_b7.ext E10
  have F_deadline_b7 := F_deadline_b7.ext E10
  have F_position_b7 := F_position_b7.ext E10
  have g_b10 : n0 ≤ b10 := Nat.le_trans Zn (Nat.le_of_eq g10.symm)
  have Zn := Nat.le_trans Zn E10.1
  have sz_b10 : h0.size ≤ b10 := Nat.le_trans Kp.1 (Nat.le_of_eq g10.symm)
  have Kp := Kp.ext E10
  have E_b10 := A10
  have F_heap_b10 : Fld Z h10 b10 "com/example/keys_to_structures/keystostructures/store/ExpiryQueue" "heap" "[Lcom/example/keys_to_structures/keystostructures/store/TimedEntry;" .null := D10 (Or.inl (hw _ (List.mem_of_getElem? (i := 40) rfl))) (ty := (.array (.object "com/example/keys_to_structures/keystostructures/store/TimedEntry"))) (by decide)
  have F_size_b10 : Fld Z h10 b10 "com/example/keys_to_structures/keystostructures/store/ExpiryQueue" "size" "I" (.int (0 : Int32)) := D10 (Or.inl (hw _ (List.mem_of_getElem? (i := 47) rfl))) (ty := .int) (by decide)
  refine Run.st (S' := T10.setTop (mkF m 53 #[.val (.long q0), .second, .val (.long q1), .second, .val (.long q2), .second, .val (.int p3), .val (.int p4), .val (.int cnt), .val (.ref b1), .val (.ref b4), .val (.ref b7), .unset, .unset, .unset, .unset, .unset, .unset, .unset] [(.ref b10), (.ref b10)])) (fun _ k => st10 _ (XS.dup X10.here hx rfl (hb hby at_52) rfl rfl k)) ?_
  obtain ⟨_, _, ⟨T11, L11, k11, n11⟩, -, X11, ⟨Lc11, hQ11, l11, y11, z11⟩, st11⟩ := X10.specialBack hx (y := (⟨"com/example/keys_to_structures/keystostructures/store/ExpiryQueue", "<init>", "()V"⟩ : MethodName)) rfl hown (mvT hZ (hw _ (List.mem_of_getElem? (i := 33) rfl))) (mvT hZ (hw _ (List.mem_of_getElem? (i := 34) rfl))) (mvT hZ (hw _ (List.mem_of_getElem? (i := 35) rfl))) (by decide) (backOf (W := 1) (rmQIni l Z aV hw [] b10 h10 n0 Zn g_b10 E_b10 F_heap_b10 F_size_b10) hZ (hw _ (List.mem_of_getElem? (i := 35) rfl)) (hw _ (List.mem_of_getElem? (i := 32) rfl)) (by decide) (by decide)) (g := (mkF m 53 #[.val (.long q0), .second, .val (.long q1), .second, .val (.long q2), .second, .val (.int p3), .val (.int p4), .val (.int cnt), .val (.ref b1), .val (.ref b4), .val (.ref b7), .unset, .unset, .unset, .unset, .unset, .unset, .unset] [(.ref b10), (.ref b10)])) rfl (by rw [hml]; rfl) (Steps.refl _) (a := b10) (argsL := []) (rest := [(.ref b10)]) (lenOf pd_7 rfl) rfl (by show 2 * 0 + _ ≤ _; exact Nat.le_of_eq rfl) (hb hby at_53) (fun _ _ => ⟨rfl, e10, (by decide : 7 + 1 ≤ _), (by decide : 20 + 16 ≤ _)⟩)
  dsimp only [Pt.U, Pt.locs, Pt.cells, Pt.slots] at X11 l11 y11 z11 st11 hQ11
  subst l11 y11 z11
  obtain ⟨b11, kb11, rfl, N11q, K11, g_b11, z_b11, O_kb11, q11_0, q11_1, q11_2, q11_3⟩ := hQ11
  have ne_b1_b11 : b1 ≠ b11 := Nat.ne_of_lt (Nat.lt_of_lt_of_le E_b1.lt z_b11)
  have ne_b4_b11 : b4 ≠ b11 := Nat.ne_of_lt (Nat.lt_of_lt_of_le E_b4.lt z_b11)
  have ne_b7_b11 : b7 ≠ b11 := Nat.ne_of_lt (Nat.lt_of_lt_of_le E_b7.lt z_b11)
  have ne_b10_b11 : b10 ≠ b11 := Nat.ne_of_lt (Nat.lt_of_lt_of_le E_b10.lt z_b11)
  have sz_b11 : h0.size ≤ b11 := Nat.le_trans Kp.1 z_b11
  have E_b1 := E_b1.keep K11
  have F_deadline_b1 := F_deadline_b1.keep K11 (ninS ne_b1_b10 nin0)
  have F_position_b1 := F_position_b1.keep K11 (ninS ne_b1_b10 nin0)
  have E_b4 := E_b4.keep K11
  have F_deadline_b4 := F_deadline_b4.keep K11 (ninS ne_b4_b10 nin0)
  have F_position_b4 := F_position_b4.keep K11 (ninS ne_b4_b10 nin0)
  have E_b7 := E_b7.keep K11
  have F_deadline_b7 := F_deadline_b7.keep K11 (ninS ne_b7_b10 nin0)
  have F_position_b7 := F_position_b7.keep K11 (ninS ne_b7_b10 nin0)
  have E_b10 := q11_0
  have F_heap_b10 := q11_1
  have F_size_b10 := q11_2
  have V_b11 := q11_3
  have Kp := Kp.trans K11 (allS (Or.inr sz_b10) all0)
  have Zn := Nat.le_trans Zn K11.1
  have N11 := Fr.app N9 N11q
  refine Run.st (S' := T11.setTop (mkF m 58 #[.val (.long q0), .second, .val (.long q1), .second, .val (.long q2), .second, .val (.int p3), .val (.int p4), .val (.int cnt), .val (.ref b1), .val (.ref b4), .val (.ref b7), .val (.ref b10), .unset, .unset, .unset, .unset, .unset, .unset] [])) (fun _ k => st11.trans (XS.astore X11.here hx rfl (hb hby at_56) rfl rfl (l' := #[.val (.long q0), .second, .val (.long q1), .second, .val (.long q2), .second, .val (.int p3), .val (.int p4), .val (.int cnt), .val (.ref b1), .val (.ref b4), .val (.ref b7), .val (.ref b10), .unset, .unset, .unset, .unset, .unset, .unset]) rfl k)) ?_
  rcases own_c4 hcnt with rfl | rfl | rfl | rfl
  · refine Run.st (S' := T11.setTop (mkF m 96 #[.val (.long q0), .second, .val (.long q1), .second, .val (.long q2), .second, .val (.int p3), .val (.int p4), .val (.int (0 : Int32)), .val (.ref b1), .val (.ref b4), .val (.ref b7), .val (.ref b10), .unset, .unset, .unset, .unset, .unset, .unset] [])) (fun _ k => XS.iload X11.here hx rfl (hb hby at_58) rfl (XS.ifYes X11.here hx rfl (pc0 := 60) (pc' := 70) rfl (hb hby at_60) rfl ((if0 _ _).trans (flt (show ¬ ((0 : Int32) < (0 : Int32)) from (by decide))).2.2.2) (by decide) (by decide) (XS.iload X11.here hx rfl (hb hby at_70) rfl (XS.iconst X11.here hx rfl (hb hby at_72) (XS.icmpYes X11.here hx rfl (pc0 := 73) (pc' := 83) rfl (hb hby at_73) rfl (flt (show ¬ ((1 : Int32) < (0 : Int32)) from (by decide))).2.2.2 (by decide) (by decide) (XS.iload X11.here hx rfl (hb hby at_83) rfl (XS.iconst X11.here hx rfl (hb hby at_85) (XS.icmpYes X11.here hx rfl (pc0 := 86) (pc' := 96) rfl (hb hby at_86) rfl (flt (show ¬ ((2 : Int32) < (0 : Int32)) from (by decide))).2.2.2 (by decide) (by decide) k)))))))) ?_
    refine Run.st (S' := T11.setTop (mkF m 98 #[.val (.long q0), .second, .val (.long q1), .second, .val (.long q2), .second, .val (.int p3), .val (.int p4), .val (.int (0 : Int32)), .val (.ref b1), .val (.ref b4), .val (.ref b7), .val (.ref b10), .unset, .unset, .unset, .unset, .unset, .unset] [(.ref b10)])) (fun _ k => XS.aload X11.here hx rfl (hb hby at_96) rfl rfl k) ?_
    obtain ⟨cq12, kq12, q12a, q12b, q12c⟩ := isOf hZ rfl E_b10
    obtain ⟨_, _, ⟨T12, L12, k12, n12⟩, -, X12, ⟨Lc12, hQ12, l12, y12, z12⟩, st12⟩ := X11.virtualBack hx (y := (⟨"com/example/keys_to_structures/keystostructures/store/ExpiryQueue", "first", "()Lcom/example/keys_to_structures/keystostructures/store/TimedEntry;"⟩ : MethodName)) (z := (⟨"com/example/keys_to_structures/keystostructures/store/ExpiryQueue", "first", "()Lcom/example/keys_to_structures/keystostructures/store/TimedEntry;"⟩ : MethodName)) hown (mvT hZ (hw _ (List.mem_of_getElem? (i := 69) rfl))) (mvT hZ (hw _ (List.mem_of_getElem? (i := 70) rfl))) (notFace_of_selects (args := #[]) (mvT hZ (hw _ (List.mem_of_getElem? (i := 72) rfl)))) (mvT hZ (hw _ (List.mem_of_getElem? (i := 72) rfl))) (mvT hZ (hw _ (List.mem_of_getElem? (i := 71) rfl))) (by decide) (backOf (W := 0) (rmFi0 l Z aV hw [] b10 b11 kb11 .null .null .null T11.heap n0 Zn F_heap_b10 F_size_b10 V_b11) hZ (hw _ (List.mem_of_getElem? (i := 73) rfl)) (hw _ (List.mem_of_getElem? (i := 32) rfl)) (by decide) (by decide)) q12a q12c (g := (mkF m 98 #[.val (.long q0), .second, .val (.long q1), .second, .val (.long q2), .second, .val (.int p3), .val (.int p4), .val (.int (0 : Int32)), .val (.ref b1), .val (.ref b4), .val (.ref b7), .val (.ref b10), .unset, .unset, .unset, .unset, .unset, .unset] [(.ref b10)])) rfl (by rw [hml]; rfl) (Steps.refl _) (argsL := []) (rest := []) (lenOf pd_8 rfl) rfl (by show 2 * 0 + _ ≤ _; exact Nat.le_of_eq rfl) (hb hby at_98) (fun _ _ => ⟨rfl, rfl, (by decide : 8 + 0 ≤ _), (by decide : 36 + 0 ≤ _)⟩)
    dsimp only [Pt.U, Pt.locs, Pt.cells, Pt.slots] at X12 l12 y12 z12 st12 hQ12
    subst l12 y12 z12
    obtain ⟨rfl, N12q, e12⟩ := hQ12
    have N12 := Fr.app N11 N12q
    refine Run.st (S' := T12.setTop (mkF m 120 #[.val (.long q0), .second, .val (.long q1), .second, .val (.long q2), .second, .val (.int p3), .val (.int p4), .val (.int (0 : Int32)), .val (.ref b1), .val (.ref b4), .val (.ref b7), .val (.ref b10), .val .null, .unset, .unset, .unset, .unset, .unset] [(.ref b7), (.ref b4), (.ref b1), .null])) (fun _ k => st12.trans (XS.astore X12.here hx rfl (hb hby at_101) rfl rfl (l' := #[.val (.long q0), .second, .val (.long q1), .second, .val (.long q2), .second, .val (.int p3), .val (.int p4), .val (.int (0 : Int32)), .val (.ref b1), .val (.ref b4), .val (.ref b7), .val (.ref b10), .val .null, .unset, .unset, .unset, .unset, .unset]) rfl (XS.aload X12.here hx rfl (hb hby at_103) rfl rfl (XS.aload X12.here hx rfl (hb hby at_105) rfl rfl (XS.aload X12.here hx rfl (hb hby at_107) rfl rfl (XS.aload X12.here hx rfl (hb hby at_109) rfl rfl (XS.iload X12.here hx rfl (hb hby at_111) rfl (XS.ifYes X12.here hx rfl (pc0 := 113) (pc' := 120) rfl (hb hby at_113) rfl ((if0 _ _).trans (flt (show ¬ ((0 : Int32) < (0 : Int32)) from (by decide))).2.2.2) (by decide) (by decide) k)))))))) ?_
    refine Run.st (S' := T12.setTop (mkF m 142 #[.val (.long q0), .second, .val (.long q1), .second, .val (.long q2), .second, .val (.int p3), .val (.int p4), .val (.int (0 : Int32)), .val (.ref b1), .val (.ref b4), .val (.ref b7), .val (.ref b10), .val .null, .unset, .unset, .unset, .unset, .unset] [(.int (0 : Int32)), (.int (0 : Int32)), (.ref b7), (.ref b4), (.ref b1), .null])) (fun _ k => XS.iconst X12.here hx rfl (hb hby at_120) (XS.iload X12.here hx rfl (hb hby at_121) rfl (XS.iconst X12.here hx rfl (hb hby at_123) (XS.icmpYes X12.here hx rfl (pc0 := 124) (pc' := 131) rfl (hb hby at_124) rfl (flt (show ¬ ((1 : Int32) < (0 : Int32)) from (by decide))).2.2.2 (by decide) (by decide) (XS.iconst X12.here hx rfl (hb hby at_131) (XS.iload X12.here hx rfl (hb hby at_132) rfl (XS.iconst X12.here hx rfl (hb hby at_134) (XS.icmpYes X12.here hx rfl (pc0 := 135) (pc' := 142) rfl (hb hby at_135) rfl (flt (show ¬ ((2 : Int32) < (0 : Int32)) from (by decide))).2.2.2 (by decide) (by decide) k)))))))) ?_
    refine Run.st (S' := T12.setTop (mkF m 147 #[.val (.long q0), .second, .val (.long q1), .second, .val (.long q2), .second, .val (.int p3), .val (.int p4), .val (.int (0 : Int32)), .val (.ref b1), .val (.ref b4), .val (.ref b7), .val (.ref b10), .val .null, .unset, .unset, .unset, .unset, .unset] [(.long q2), (.long q1), (.long q0), (.int (0 : Int32)), (.int (0 : Int32)), (.int (0 : Int32)), (.ref b7), (.ref b4), (.ref b1), .null])) (fun _ k => XS.iconst X12.here hx rfl (hb hby at_142) (XS.lloadN X12.here hx rfl (hb hby at_143) rfl (XS.lloadN X12.here hx rfl (hb hby at_144) rfl (XS.lload X12.here hx rfl (hb hby at_145) rfl k)))) ?_
    obtain ⟨_, _, ⟨T13, L13, k13, n13⟩, -, X13, ⟨Lc13, hQ13, l13, y13, z13⟩, st13⟩ := Jvm.LawKit.callS X12 hx (y := (⟨"com/example/keys_to_structures/keystostructures/store/ExpiryQueueFirstPinLaw", "isFirst", "(Lcom/example/keys_to_structures/keystostructures/store/TimedEntry;Lcom/example/keys_to_structures/keystostructures/store/TimedEntry;Lcom/example/keys_to_structures/keystostructures/store/TimedEntry;Lcom/example/keys_to_structures/keystostructures/store/TimedEntry;ZZZJJJ)Z"⟩ : MethodName)) hown (mvT hZ (hw _ (List.mem_of_getElem? (i := 74) rfl))) (mvT hZ (hw _ (List.mem_of_getElem? (i := 75) rfl))) (mvT hZ (hw _ (List.mem_of_getElem? (i := 76) rfl))) (mvT hZ (hw _ (List.mem_of_getElem? (i := 77) rfl))) (by decide) (backOf (W := 0) (rmIsN l Z aV hw [] b1 b4 b7 q0 q1 q2 T11.heap n0 Zn ) hZ (hw _ (List.mem_of_getElem? (i := 77) rfl)) (hw _ (List.mem_of_getElem? (i := 76) rfl)) (by decide) (by decide)) (g := (mkF m 147 #[.val (.long q0), .second, .val (.long q1), .second, .val (.long q2), .second, .val (.int p3), .val (.int p4), .val (.int (0 : Int32)), .val (.ref b1), .val (.ref b4), .val (.ref b7), .val (.ref b10), .val .null, .unset, .unset, .unset, .unset, .unset] [(.long q2), (.long q1), (.long q0), (.int (0 : Int32)), (.int (0 : Int32)), (.int (0 : Int32)), (.ref b7), (.ref b4), (.ref b1), .null])) rfl (by rw [hml]; rfl) (argsL := [.null, (.ref b1), (.ref b4), (.ref b7), (.int (0 : Int32)), (.int (0 : Int32)), (.int (0 : Int32)), (.long q0), (.long q1), (.long q2)]) (rest := []) (lenOf pd_9 rfl) rfl (by show 2 * 0 + _ ≤ _; exact Nat.le_of_eq rfl) (hb hby at_147) (fun _ _ => ⟨rfl, e12, (by decide : 8 + 0 ≤ _), (by decide : 36 + 0 ≤ _)⟩)
    dsimp only [Pt.U, Pt.locs, Pt.cells, Pt.slots] at X13 l13 y13 z13 st13 hQ13
    subst l13 y13 z13
    obtain ⟨rfl, N13q, e13⟩ := hQ13
    have N13 := Fr.app N12 N13q
    refine Run.st (S' := T13.setTop (mkF m 156 #[.val (.long q0), .second, .val (.long q1), .second, .val (.long q2), .second, .val (.int p3), .val (.int p4), .val (.int (0 : Int32)), .val (.ref b1), .val (.ref b4), .val (.ref b7), .val (.ref b10), .val .null, .val (.int (1 : Int32)), .unset, .unset, .unset, .unset] [(.int (p4 &&& (4 : Int32)))])) (fun _ k => st13 _ (XS.istore X13.here hx rfl (hb hby at_150) rfl (l' := #[.val (.long q0), .second, .val (.long q1), .second, .val (.long q2), .second, .val (.int p3), .val (.int p4), .val (.int (0 : Int32)), .val (.ref b1), .val (.ref b4), .val (.ref b7), .val (.ref b10), .val .null, .val (.int (1 : Int32)), .unset, .unset, .unset, .unset]) rfl (XS.iload X13.here hx rfl (hb hby at_152) rfl (XS.iconst X13.here hx rfl (hb hby at_154) (XS.iand X13.here hx rfl (hb hby at_155) rfl k))))) ?_
    by_cases hc156_14 : (p4 &&& (4 : Int32)) = (0 : Int32)
    · refine Run.st (S' := T13.setTop (mkF m 231 #[.val (.long q0), .second, .val (.long q1), .second, .val (.long q2), .second, .val (.int p3), .val (.int p4), .val (.int (0 : Int32)), .val (.ref b1), .val (.ref b4), .val (.ref b7), .val (.ref b10), .val .null, .val (.int (1 : Int32)), .val (.int (0 : Int32)), .val (.int (-1 : Int32)), .unset, .unset] [(.ref b10)])) (fun _ k => XS.ifYes X13.here hx rfl (pc0 := 156) (pc' := 168) rfl (hb hby at_156) rfl ((if0 _ _).trans (teq hc156_14).1) (by decide) (by decide) (XS.iconst X13.here hx rfl (hb hby at_168) (XS.istore X13.here hx rfl (hb hby at_169) rfl (l' := #[.val (.long q0), .second, .val (.long q1), .second, .val (.long q2), .second, .val (.int p3), .val (.int p4), .val (.int (0 : Int32)), .val (.ref b1), .val (.ref b4), .val (.ref b7), .val (.ref b10), .val .null, .val (.int (1 : Int32)), .val (.int (0 : Int32)), .unset, .unset, .unset]) rfl (XS.iconst X13.here hx rfl (hb hby at_171) (XS.istore X13.here hx rfl (hb hby at_172) rfl (l' := #[.val (.long q0), .second, .val (.long q1), .second, .val (.long q2), .second, .val (.int p3), .val (.int p4), .val (.int (0 : Int32)), .val (.ref b1), .val (.ref b4), .val (.ref b7), .val (.ref b10), .val .null, .val (.int (1 : Int32)), .val (.int (0 : Int32)), .val (.int (-1 : Int32)), .unset, .unset]) rfl (XS.iload X13.here hx rfl (hb hby at_174) rfl (XS.ifYes X13.here hx rfl (pc0 := 176) (pc' := 229) rfl (hb hby at_176) rfl ((if0 _ _).trans (teq (show (0 : Int32) = (0 : Int32) from (by decide))).1) (by decide) (by decide) (XS.aload X13.here hx rfl (hb hby at_229) rfl rfl k)))))))) ?_
      obtain ⟨cq15, kq15, q15a, q15b, q15c⟩ := isOf hZ e13 E_b10
      obtain ⟨_, _, ⟨T15, L15, k15, n15⟩, -, X15, ⟨Lc15, hQ15, l15, y15, z15⟩, st15⟩ := X13.virtualBack hx (y := (⟨"com/example/keys_to_structures/keystostructures/store/ExpiryQueue", "first", "()Lcom/example/keys_to_structures/keystostructures/store/TimedEntry;"⟩ : MethodName)) (z := (⟨"com/example/keys_to_structures/keystostructures/store/ExpiryQueue", "first", "()Lcom/example/keys_to_structures/keystostructures/store/TimedEntry;"⟩ : MethodName)) hown (mvT hZ (hw _ (List.mem_of_getElem? (i := 69) rfl))) (mvT hZ (hw _ (List.mem_of_getElem? (i := 70) rfl))) (notFace_of_selects (args := #[]) (mvT hZ (hw _ (List.mem_of_getElem? (i := 72) rfl)))) (mvT hZ (hw _ (List.mem_of_getElem? (i := 72) rfl))) (mvT hZ (hw _ (List.mem_of_getElem? (i := 71) rfl))) (by decide) (backOf (W := 0) (rmFi0 l Z aV hw [] b10 b11 kb11 .null .null .null T11.heap n0 Zn F_heap_b10 F_size_b10 V_b11) hZ (hw _ (List.mem_of_getElem? (i := 73) rfl)) (hw _ (List.mem_of_getElem? (i := 32) rfl)) (by decide) (by decide)) q15a q15c (g := (mkF m 231 #[.val (.long q0), .second, .val (.long q1), .second, .val (.long q2), .second, .val (.int p3), .val (.int p4), .val (.int (0 : Int32)), .val (.ref b1), .val (.ref b4), .val (.ref b7), .val (.ref b10), .val .null, .val (.int (1 : Int32)), .val (.int (0 : Int32)), .val (.int (-1 : Int32)), .unset, .unset] [(.ref b10)])) rfl (by rw [hml]; rfl) (Steps.refl _) (argsL := []) (rest := []) (lenOf pd_8 rfl) rfl (by show 2 * 0 + _ ≤ _; exact Nat.le_of_eq rfl) (hb hby at_231) (fun _ _ => ⟨rfl, e13, (by decide : 8 + 0 ≤ _), (by decide : 36 + 0 ≤ _)⟩)
      dsimp only [Pt.U, Pt.locs, Pt.cells, Pt.slots] at X15 l15 y15 z15 st15 hQ15
      subst l15 y15 z15
      obtain ⟨rfl, N15q, e15⟩ := hQ15
      have N15 := Fr.app N13 N15q
      refine Run.st (S' := T15.setTop (mkF m 258 #[.val (.long q0), .second, .val (.long q1), .second, .val (.long q2), .second, .val (.int p3), .val (.int p4), .val (.int (0 : Int32)), .val (.ref b1), .val (.ref b4), .val (.ref b7), .val (.ref b10), .val .null, .val (.int (1 : Int32)), .val (.int (0 : Int32)), .val (.int (-1 : Int32)), .val .null, .unset] [(.ref b7), (.ref b4), (.ref b1), .null])) (fun _ k => st15.trans (XS.astore X15.here hx rfl (hb hby at_234) rfl rfl (l' := #[.val (.long q0), .second, .val (.long q1), .second, .val (.long q2), .second, .val (.int p3), .val (.int p4), .val (.int (0 : Int32)), .val (.ref b1), .val (.ref b4), .val (.ref b7), .val (.ref b10), .val .null, .val (.int (1 : Int32)), .val (.int (0 : Int32)), .val (.int (-1 : Int32)), .val .null, .unset]) rfl (XS.aload X15.here hx rfl (hb hby at_236) rfl rfl (XS.aload X15.here hx rfl (hb hby at_238) rfl rfl (XS.aload X15.here hx rfl (hb hby at_240) rfl rfl (XS.aload X15.here hx rfl (hb hby at_242) rfl rfl (XS.iload X15.here hx rfl (hb hby at_244) rfl (XS.ifYes X15.here hx rfl (pc0 := 246) (pc' := 258) rfl (hb hby at_246) rfl ((if0 _ _).trans (flt (show ¬ ((0 : Int32) < (0 : Int32)) from (by decide))).2.2.2) (by decide) (by decide) k)))))))) ?_
      refine Run.st (S' := T15.setTop (mkF m 292 #[.val (.long q0), .second, .val (.long q1), .second, .val (.long q2), .second, .val (.int p3), .val (.int p4), .val (.int (0 : Int32)), .val (.ref b1), .val (.ref b4), .val (.ref b7), .val (.ref b10), .val .null, .val (.int (1 : Int32)), .val (.int (0 : Int32)), .val (.int (-1 : Int32)), .val .null, .unset] [(.int (0 : Int32)), (.int (0 : Int32)), (.ref b7), (.ref b4), (.ref b1), .null])) (fun _ k => XS.iconst X15.here hx rfl (hb hby at_258) (XS.iload X15.here hx rfl (hb hby at_259) rfl (XS.iconst X15.here hx rfl (hb hby at_261) (XS.icmpYes X15.here hx rfl (pc0 := 262) (pc' := 275) rfl (hb hby at_262) rfl (flt (show ¬ ((1 : Int32) < (0 : Int32)) from (by decide))).2.2.2 (by decide) (by decide) (XS.iconst X15.here hx rfl (hb hby at_275) (XS.iload X15.here hx rfl (hb hby at_276) rfl (XS.iconst X15.here hx rfl (hb hby at_278) (XS.icmpYes X15.here hx rfl (pc0 := 279) (pc' := 292) rfl (hb hby at_279) rfl (flt (show ¬ ((2 : Int32) < (0 : Int32)) from (by decide))).2.2.2 (by decide) (by decide) k)))))))) ?_
      refine Run.st (S' := T15.setTop (mkF m 297 #[.val (.long q0), .second, .val (.long q1), .second, .val (.long q2), .second, .val (.int p3), .val (.int p4), .val (.int (0 : Int32)), .val (.ref b1), .val (.ref b4), .val (.ref b7), .val (.ref b10), .val .null, .val (.int (1 : Int32)), .val (.int (0 : Int32)), .val (.int (-1 : Int32)), .val .null, .unset] [(.long q2), (.long q1), (.long q0), (.int (0 : Int32)), (.int (0 : Int32)), (.int (0 : Int32)), (.ref b7), (.ref b4), (.ref b1), .null])) (fun _ k => XS.iconst X15.here hx rfl (hb hby at_292) (XS.lloadN X15.here hx rfl (hb hby at_293) rfl (XS.lloadN X15.here hx rfl (hb hby at_294) rfl (XS.lload X15.here hx rfl (hb hby at_295) rfl k)))) ?_
      obtain ⟨_, _, ⟨T16, L16, k16, n16⟩, -, X16, ⟨Lc16, hQ16, l16, y16, z16⟩, st16⟩ := Jvm.LawKit.callS X15 hx (y := (⟨"com/example/keys_to_structures/keystostructures/store/ExpiryQueueFirstPinLaw", "isFirst", "(Lcom/example/keys_to_structures/keystostructures/store/TimedEntry;Lcom/example/keys_to_structures/keystostructures/store/TimedEntry;Lcom/example/keys_to_structures/keystostructures/store/TimedEntry;Lcom/example/keys_to_structures/keystostructures/store/TimedEntry;ZZZJJJ)Z"⟩ : MethodName)) hown (mvT hZ (hw _ (List.mem_of_getElem? (i := 74) rfl))) (mvT hZ (hw _ (List.mem_of_getElem? (i := 75) rfl))) (mvT hZ (hw _ (List.mem_of_getElem? (i := 76) rfl))) (mvT hZ (hw _ (List.mem_of_getElem? (i := 77) rfl))) (by decide) (backOf (W := 0) (rmIsN l Z aV hw [] b1 b4 b7 q0 q1 q2 T11.heap n0 Zn ) hZ (hw _ (List.mem_of_getElem? (i := 77) rfl)) (hw _ (List.mem_of_getElem? (i := 76) rfl)) (by decide) (by decide)) (g := (mkF m 297 #[.val (.long q0), .second, .val (.long q1), .second, .val (.long q2), .second, .val (.int p3), .val (.int p4), .val (.int (0 : Int32)), .val (.ref b1), .val (.ref b4), .val (.ref b7), .val (.ref b10), .val .null, .val (.int (1 : Int32)), .val (.int (0 : Int32)), .val (.int (-1 : Int32)), .val .null, .unset] [(.long q2), (.long q1), (.long q0), (.int (0 : Int32)), (.int (0 : Int32)), (.int (0 : Int32)), (.ref b7), (.ref b4), (.ref b1), .null])) rfl (by rw [hml]; rfl) (argsL := [.null, (.ref b1), (.ref b4), (.ref b7), (.int (0 : Int32)), (.int (0 : Int32)), (.int (0 : Int32)), (.long q0), (.long q1), (.long q2)]) (rest := []) (lenOf pd_9 rfl) rfl (by show 2 * 0 + _ ≤ _; exact Nat.le_of_eq rfl) (hb hby at_297) (fun _ _ => ⟨rfl, e15, (by decide : 8 + 0 ≤ _), (by decide : 36 + 0 ≤ _)⟩)
      dsimp only [Pt.U, Pt.locs, Pt.cells, Pt.slots] at X16 l16 y16 z16 st16 hQ16
      subst l16 y16 z16
      obtain ⟨rfl, N16q, e16⟩ := hQ16
      have N16 := Fr.app N15 N16q
      refine Run.st (S' := T16.setTop (mkF m 317 #[.val (.long q0), .second, .val (.long q1), .second, .val (.long q2), .second, .val (.int p3), .val (.int p4), .val (.int (0 : Int32)), .val (.ref b1), .val (.ref b4), .val (.ref b7), .val (.ref b10), .val .null, .val (.int (1 : Int32)), .val (.int (0 : Int32)), .val (.int (-1 : Int32)), .val .null, .val (.int (1 : Int32))] [(.int (1 : Int32))])) (fun _ k => st16 _ (XS.istore X16.here hx rfl (hb hby at_300) rfl (l' := #[.val (.long q0), .second, .val (.long q1), .second, .val (.long q2), .second, .val (.int p3), .val (.int p4), .val (.int (0 : Int32)), .val (.ref b1), .val (.ref b4), .val (.ref b7), .val (.ref b10), .val .null, .val (.int (1 : Int32)), .val (.int (0 : Int32)), .val (.int (-1 : Int32)), .val .null, .val (.int (1 : Int32))]) rfl (XS.iload X16.here hx rfl (hb hby at_302) rfl (XS.ifNo X16.here hx rfl (hb hby at_304) rfl ((if0 _ _).trans (feq (show ¬ ((1 : Int32) = (0 : Int32)) from (by decide))).1) (XS.iload X16.here hx rfl (hb hby at_307) rfl (XS.ifNo X16.here hx rfl (hb hby at_309) rfl ((if0 _ _).trans (feq (show ¬ ((1 : Int32) = (0 : Int32)) from (by decide))).1) (XS.iconst X16.here hx rfl (hb hby at_312) (XS.goto X16.here hx rfl (pc0 := 313) (pc' := 317) rfl (hb hby at_313) (by decide) (by decide) k)))))))) ?_
      refine Run.out X16 hx Bd.notSynchronized Bd.returns rfl (Or.inl ⟨rfl, by simp, _, rfl⟩) (hb hby at_317) (by decide) (by decide) ?_
      rw [e16]
      exact ⟨rfl, N16⟩
    · refine Run.st (S' := T13.setTop (mkF m 176 #[.val (.long q0), .second, .val (.long q1), .second, .val (.long q2), .second, .val (.int p3), .val (.int p4), .val (.int (0 : Int32)), .val (.ref b1), .val (.ref b4), .val (.ref b7), .val (.ref b10), .val .null, .val (.int (1 : Int32)), .val (.int (0 : Int32)), .val (.int (-1 : Int32)), .unset, .unset] [(.int (0 : Int32))])) (fun _ k => XS.ifNo X13.here hx rfl (hb hby at_156) rfl ((if0 _ _).trans (feq hc156_14).1) (XS.iload X13.here hx rfl (hb hby at_159) rfl (XS.ifYes X13.here hx rfl (pc0 := 161) (pc' := 168) rfl (hb hby at_161) rfl ((if0 _ _).trans (flt (show ¬ ((0 : Int32) < (0 : Int32)) from (by decide))).2.2.2) (by decide) (by decide) (XS.iconst X13.here hx rfl (hb hby at_168) (XS.istore X13.here hx rfl (hb hby at_169) rfl (l' := #[.val (.long q0), .second, .val (.long q1), .second, .val (.long q2), .second, .val (.int p3), .val (.int p4), .val (.int (0 : Int32)), .val (.ref b1), .val (.ref b4), .val (.ref b7), .val (.ref b10), .val .null, .val (.int (1 : Int32)), .val (.int (0 : Int32)), .unset, .unset, .unset]) rfl (XS.iconst X13.here hx rfl (hb hby at_171) (XS.istore X13.here hx rfl (hb hby at_172) rfl (l' := #[.val (.long q0), .second, .val (.long q1), .second, .val (.long q2), .second, .val (.int p3), .val (.int p4), .val (.int (0 : Int32)), .val (.ref b1), .val (.ref b4), .val (.ref b7), .val (.ref b10), .val .null, .val (.int (1 : Int32)), .val (.int (0 : Int32)), .val (.int (-1 : Int32)), .unset, .unset]) rfl (XS.iload X13.here hx rfl (hb hby at_174) rfl k)))))))) ?_
      refine Run.st (S' := T13.setTop (mkF m 231 #[.val (.long q0), .second, .val (.long q1), .second, .val (.long q2), .second, .val (.int p3), .val (.int p4), .val (.int (0 : Int32)), .val (.ref b1), .val (.ref b4), .val (.ref b7), .val (.ref b10), .val .null, .val (.int (1 : Int32)), .val (.int (0 : Int32)), .val (.int (-1 : Int32)), .unset, .unset] [(.ref b10)])) (fun _ k => XS.ifYes X13.here hx rfl (pc0 := 176) (pc' := 229) rfl (hb hby at_176) rfl ((if0 _ _).trans (teq (show (0 : Int32) = (0 : Int32) from (by decide))).1) (by decide) (by decide) (XS.aload X13.here hx rfl (hb hby at_229) rfl rfl k)) ?_
      obtain ⟨cq17, kq17, q17a, q17b, q17c⟩ := isOf hZ e13 E_b10
      obtain ⟨_, _, ⟨T17, L17, k17, n17⟩, -, X17, ⟨Lc17, hQ17, l17, y17, z17⟩, st17⟩ := X13.virtualBack hx (y := (⟨"com/example/keys_to_structures/keystostructures/store/ExpiryQueue", "first", "()Lcom/example/keys_to_structures/keystostructures/store/TimedEntry;"⟩ : MethodName)) (z := (⟨"com/example/keys_to_structures/keystostructures/store/ExpiryQueue", "first", "()Lcom/example/keys_to_structures/keystostructures/store/TimedEntry;"⟩ : MethodName)) hown (mvT hZ (hw _ (List.mem_of_getElem? (i := 69) rfl))) (mvT hZ (hw _ (List.mem_of_getElem? (i := 70) rfl))) (notFace_of_selects (args := #[]) (mvT hZ (hw _ (List.mem_of_getElem? (i := 72) rfl)))) (mvT hZ (hw _ (List.mem_of_getElem? (i := 72) rfl))) (mvT hZ (hw _ (List.mem_of_getElem? (i := 71) rfl))) (by decide) (backOf (W := 0) (rmFi0 l Z aV hw [] b10 b11 kb11 .null .null .null T11.heap n0 Zn F_heap_b10 F_size_b10 V_b11) hZ (hw _ (List.mem_of_getElem? (i := 73) rfl)) (hw _ (List.mem_of_getElem? (i := 32) rfl)) (by decide) (by decide)) q17a q17c (g := (mkF m 231 #[.val (.long q0), .second, .val (.long q1), .second, .val (.long q2), .second, .val (.int p3), .val (.int p4), .val (.int (0 : Int32)), .val (.ref b1), .val (.ref b4), .val (.ref b7), .val (.ref b10), .val .null, .val (.int (1 : Int32)), .val (.int (0 : Int32)), .val (.int (-1 : Int32)), .unset, .unset] [(.ref b10)])) rfl (by rw [hml]; rfl) (Steps.refl _) (argsL := []) (rest := []) (lenOf pd_8 rfl) rfl (by show 2 * 0 + _ ≤ _; exact Nat.le_of_eq rfl) (hb hby at_231) (fun _ _ => ⟨rfl, e13, (by decide : 8 + 0 ≤ _), (by decide : 36 + 0 ≤ _)⟩)
      dsimp only [Pt.U, Pt.locs, Pt.cells, Pt.slots] at X17 l17 y17 z17 st17 hQ17
      subst l17 y17 z17
      obtain ⟨rfl, N17q, e17⟩ := hQ17
      have N17 := Fr.app N13 N17q
      refine Run.st (S' := T17.setTop (mkF m 258 #[.val (.long q0), .second, .val (.long q1), .second, .val (.long q2), .second, .val (.int p3), .val (.int p4), .val (.int (0 : Int32)), .val (.ref b1), .val (.ref b4), .val (.ref b7), .val (.ref b10), .val .null, .val (.int (1 : Int32)), .val (.int (0 : Int32)), .val (.int (-1 : Int32)), .val .null, .unset] [(.ref b7), (.ref b4), (.ref b1), .null])) (fun _ k => st17.trans (XS.astore X17.here hx rfl (hb hby at_234) rfl rfl (l' := #[.val (.long q0), .second, .val (.long q1), .second, .val (.long q2), .second, .val (.int p3), .val (.int p4), .val (.int (0 : Int32)), .val (.ref b1), .val (.ref b4), .val (.ref b7), .val (.ref b10), .val .null, .val (.int (1 : Int32)), .val (.int (0 : Int32)), .val (.int (-1 : Int32)), .val .null, .unset]) rfl (XS.aload X17.here hx rfl (hb hby at_236) rfl rfl (XS.aload X17.here hx rfl (hb hby at_238) rfl rfl (XS.aload X17.here hx rfl (hb hby at_240) rfl rfl (XS.aload X17.here hx rfl (hb hby at_242) rfl rfl (XS.iload X17.here hx rfl (hb hby at_244) rfl (XS.ifYes X17.here hx rfl (pc0 := 246) (pc' := 258) rfl (hb hby at_246) rfl ((if0 _ _).trans (flt (show ¬ ((0 : Int32) < (0 : Int32)) from (by decide))).2.2.2) (by decide) (by decide) k)))))))) ?_
      refine Run.st (S' := T17.setTop (mkF m 292 #[.val (.long q0), .second, .val (.long q1), .second, .val (.long q2), .second, .val (.int p3), .val (.int p4), .val (.int (0 : Int32)), .val (.ref b1), .val (.ref b4), .val (.ref b7), .val (.ref b10), .val .null, .val (.int (1 : Int32)), .val (.int (0 : Int32)), .val (.int (-1 : Int32)), .val .null, .unset] [(.int (0 : Int32)), (.int (0 : Int32)), (.ref b7), (.ref b4), (.ref b1), .null])) (fun _ k => XS.iconst X17.here hx rfl (hb hby at_258) (XS.iload X17.here hx rfl (hb hby at_259) rfl (XS.iconst X17.here hx rfl (hb hby at_261) (XS.icmpYes X17.here hx rfl (pc0 := 262) (pc' := 275) rfl (hb hby at_262) rfl (flt (show ¬ ((1 : Int32) < (0 : Int32)) from (by decide))).2.2.2 (by decide) (by decide) (XS.iconst X17.here hx rfl (hb hby at_275) (XS.iload X17.here hx rfl (hb hby at_276) rfl (XS.iconst X17.here hx rfl (hb hby at_278) (XS.icmpYes X17.here hx rfl (pc0 := 279) (pc' := 292) rfl (hb hby at_279) rfl (flt (show ¬ ((2 : Int32) < (0 : Int32)) from (by decide))).2.2.2 (by decide) (by decide) k)))))))) ?_
      refine Run.st (S' := T17.setTop (mkF m 297 #[.val (.long q0), .second, .val (.long q1), .second, .val (.long q2), .second, .val (.int p3), .val (.int p4), .val (.int (0 : Int32)), .val (.ref b1), .val (.ref b4), .val (.ref b7), .val (.ref b10), .val .null, .val (.int (1 : Int32)), .val (.int (0 : Int32)), .val (.int (-1 : Int32)), .val .null, .unset] [(.long q2), (.long q1), (.long q0), (.int (0 : Int32)), (.int (0 : Int32)), (.int (0 : Int32)), (.ref b7), (.ref b4), (.ref b1), .null])) (fun _ k => XS.iconst X17.here hx rfl (hb hby at_292) (XS.lloadN X17.here hx rfl (hb hby at_293) rfl (XS.lloadN X17.here hx rfl (hb hby at_294) rfl (XS.lload X17.here hx rfl (hb hby at_295) rfl k)))) ?_
      obtain ⟨_, _, ⟨T18, L18, k18, n18⟩, -, X18, ⟨Lc18, hQ18, l18, y18, z18⟩, st18⟩ := Jvm.LawKit.callS X17 hx (y := (⟨"com/example/keys_to_structures/keystostructures/store/ExpiryQueueFirstPinLaw", "isFirst", "(Lcom/example/keys_to_structures/keystostructures/store/TimedEntry;Lcom/example/keys_to_structures/keystostructures/store/TimedEntry;Lcom/example/keys_to_structures/keystostructures/store/TimedEntry;Lcom/example/keys_to_structures/keystostructures/store/TimedEntry;ZZZJJJ)Z"⟩ : MethodName)) hown (mvT hZ (hw _ (List.mem_of_getElem? (i := 74) rfl))) (mvT hZ (hw _ (List.mem_of_getElem? (i := 75) rfl))) (mvT hZ (hw _ (List.mem_of_getElem? (i := 76) rfl))) (mvT hZ (hw _ (List.mem_of_getElem? (i := 77) rfl))) (by decide) (backOf (W := 0) (rmIsN l Z aV hw [] b1 b4 b7 q0 q1 q2 T11.heap n0 Zn ) hZ (hw _ (List.mem_of_getElem? (i := 77) rfl)) (hw _ (List.mem_of_getElem? (i := 76) rfl)) (by decide) (by decide)) (g := (mkF m 297 #[.val (.long q0), .second, .val (.long q1), .second, .val (.long q2), .second, .val (.int p3), .val (.int p4), .val (.int (0 : Int32)), .val (.ref b1), .val (.ref b4), .val (.ref b7), .val (.ref b10), .val .null, .val (.int (1 : Int32)), .val (.int (0 : Int32)), .val (.int (-1 : Int32)), .val .null, .unset] [(.long q2), (.long q1), (.long q0), (.int (0 : Int32)), (.int (0 : Int32)), (.int (0 : Int32)), (.ref b7), (.ref b4), (.ref b1), .null])) rfl (by rw [hml]; rfl) (argsL := [.null, (.ref b1), (.ref b4), (.ref b7), (.int (0 : Int32)), (.int (0 : Int32)), (.int (0 : Int32)), (.long q0), (.long q1), (.long q2)]) (rest := []) (lenOf pd_9 rfl) rfl (by show 2 * 0 + _ ≤ _; exact Nat.le_of_eq rfl) (hb hby at_297) (fun _ _ => ⟨rfl, e17, (by decide : 8 + 0 ≤ _), (by decide : 36 + 0 ≤ _)⟩)
      dsimp only [Pt.U, Pt.locs, Pt.cells, Pt.slots] at X18 l18 y18 z18 st18 hQ18
      subst l18 y18 z18
      obtain ⟨rfl, N18q, e18⟩ := hQ18
      have N18 := Fr.app N17 N18q
      refine Run.st (S' := T18.setTop (mkF m 317 #[.val (.long q0), .second, .val (.long q1), .second, .val (.long q2), .second, .val (.int p3), .val (.int p4), .val (.int (0 : Int32)), .val (.ref b1), .val (.ref b4), .val (.ref b7), .val (.ref b10), .val .null, .val (.int (1 : Int32)), .val (.int (0 : Int32)), .val (.int (-1 : Int32)), .val .null, .val (.int (1 : Int32))] [(.int (1 : Int32))])) (fun _ k => st18 _ (XS.istore X18.here hx rfl (hb hby at_300) rfl (l' := #[.val (.long q0), .second, .val (.long q1), .second, .val (.long q2), .second, .val (.int p3), .val (.int p4), .val (.int (0 : Int32)), .val (.ref b1), .val (.ref b4), .val (.ref b7), .val (.ref b10), .val .null, .val (.int (1 : Int32)), .val (.int (0 : Int32)), .val (.int (-1 : Int32)), .val .null, .val (.int (1 : Int32))]) rfl (XS.iload X18.here hx rfl (hb hby at_302) rfl (XS.ifNo X18.here hx rfl (hb hby at_304) rfl ((if0 _ _).trans (feq (show ¬ ((1 : Int32) = (0 : Int32)) from (by decide))).1) (XS.iload X18.here hx rfl (hb hby at_307) rfl (XS.ifNo X18.here hx rfl (hb hby at_309) rfl ((if0 _ _).trans (feq (show ¬ ((1 : Int32) = (0 : Int32)) from (by decide))).1) (XS.iconst X18.here hx rfl (hb hby at_312) (XS.goto X18.here hx rfl (pc0 := 313) (pc' := 317) rfl (hb hby at_313) (by decide) (by decide) k)))))))) ?_
      refine Run.out X18 hx Bd.notSynchronized Bd.returns rfl (Or.inl ⟨rfl, by simp, _, rfl⟩) (hb hby at_317) (by decide) (by decide) ?_
      rw [e18]
      exact ⟨rfl, N18⟩
  · refine Run.st (S' := T11.setTop (mkF m 67 #[.val (.long q0), .second, .val (.long q1), .second, .val (.long q2), .second, .val (.int p3), .val (.int p4), .val (.int (1 : Int32)), .val (.ref b1), .val (.ref b4), .val (.ref b7), .val (.ref b10), .unset, .unset, .unset, .unset, .unset, .unset] [(.ref b1), (.ref b10)])) (fun _ k => XS.iload X11.here hx rfl (hb hby at_58) rfl (XS.ifNo X11.here hx rfl (hb hby at_60) rfl ((if0 _ _).trans (tlt (show (0 : Int32) < (1 : Int32) from (by decide))).2.2.2) (XS.aload X11.here hx rfl (hb hby at_63) rfl rfl (XS.aload X11.here hx rfl (hb hby at_65) rfl rfl k)))) ?_
    obtain ⟨cq19, kq19, q19a, q19b, q19c⟩ := isOf hZ rfl E_b10
    obtain ⟨_, _, ⟨T19, L19, k19, n19⟩, -, X19, ⟨Lc19, hQ19, l19, y19, z19⟩, st19⟩ := X11.virtualBack hx (y := (⟨"com/example/keys_to_structures/keystostructures/store/ExpiryQueue", "add", "(Lcom/example/keys_to_structures/keystostructures/store/TimedEntry;)V"⟩ : MethodName)) (z := (⟨"com/example/keys_to_structures/keystostructures/store/ExpiryQueue", "add", "(Lcom/example/keys_to_structures/keystostructures/store/TimedEntry;)V"⟩ : MethodName)) hown (mvT hZ (hw _ (List.mem_of_getElem? (i := 41) rfl))) (mvT hZ (hw _ (List.mem_of_getElem? (i := 42) rfl))) (notFace_of_selects (args := #[]) (mvT hZ (hw _ (List.mem_of_getElem? (i := 44) rfl)))) (mvT hZ (hw _ (List.mem_of_getElem? (i := 44) rfl))) (mvT hZ (hw _ (List.mem_of_getElem? (i := 43) rfl))) (by decide) (backOf (W := 0) (rmAd0 l Z aV hw [] b10 b1 b11 kb11 .null .null .null q0 (0 : Int32) T11.heap n0 Zn g_b10 g_b11 O_kb11 g_b1 E_b10 F_heap_b10 F_size_b10 V_b11 E_b1 F_deadline_b1 F_position_b1 ne_b10_b11 (Ne.symm ne_b1_b10) (Ne.symm ne_b1_b11)) hZ (hw _ (List.mem_of_getElem? (i := 45) rfl)) (hw _ (List.mem_of_getElem? (i := 32) rfl)) (by decide) (by decide)) q19a q19c (g := (mkF m 67 #[.val (.long q0), .second, .val (.long q1), .second, .val (.long q2), .second, .val (.int p3), .val (.int p4), .val (.int (1 : Int32)), .val (.ref b1), .val (.ref b4), .val (.ref b7), .val (.ref b10), .unset, .unset, .unset, .unset, .unset, .unset] [(.ref b1), (.ref b10)])) rfl (by rw [hml]; rfl) (Steps.refl _) (argsL := [(.ref b1)]) (rest := []) (lenOf pd_10 rfl) rfl (by show 2 * 0 + _ ≤ _; exact Nat.le_of_eq rfl) (hb hby at_67) (fun _ _ => ⟨rfl, rfl, (by decide : 8 + 0 ≤ _), (by decide : 36 + 0 ≤ _)⟩)
    dsimp only [Pt.U, Pt.locs, Pt.cells, Pt.slots] at X19 l19 y19 z19 st19 hQ19
    subst l19 y19 z19
    obtain ⟨rfl, N19q, K19, q19_0, q19_1, q19_2, q19_3, q19_4, q19_5, q19_6⟩ := hQ19
    have E_b4 := E_b4.keep K19
    have F_deadline_b4 := F_deadline_b4.keep K19 (ninS ne_b4_b10 (ninS ne_b4_b11 (ninS (Ne.symm ne_b1_b4) nin0)))
    have F_position_b4 := F_position_b4.keep K19 (ninS ne_b4_b10 (ninS ne_b4_b11 (ninS (Ne.symm ne_b1_b4) nin0)))
    have E_b7 := E_b7.keep K19
    have F_deadline_b7 := F_deadline_b7.keep K19 (ninS ne_b7_b10 (ninS ne_b7_b11 (ninS (Ne.symm ne_b1_b7) nin0)))
    have F_position_b7 := F_position_b7.keep K19 (ninS ne_b7_b10 (ninS ne_b7_b11 (ninS (Ne.symm ne_b1_b7) nin0)))
    have E_b10 := q19_0
    have F_heap_b10 := q19_1
    have F_size_b10 := q19_2
    have V_b11 := q19_3
    have E_b1 := q19_4
    have F_deadline_b1 := q19_5
    have F_position_b1 := q19_6
    have Kp := Kp.trans K19 (allS (Or.inr sz_b10) (allS (Or.inr sz_b11) (allS (Or.inr sz_b1) all0)))
    have Zn := Nat.le_trans Zn K19.1
    have N19 := Fr.app N11 N19q
    refine Run.st (S' := T19.setTop (mkF m 98 #[.val (.long q0), .second, .val (.long q1), .second, .val (.long q2), .second, .val (.int p3), .val (.int p4), .val (.int (1 : Int32)), .val (.ref b1), .val (.ref b4), .val (.ref b7), .val (.ref b10), .unset, .unset, .unset, .unset, .unset, .unset] [(.ref b10)])) (fun _ k => st19.trans (XS.iload X19.here hx rfl (hb hby at_70) rfl (XS.iconst X19.here hx rfl (hb hby at_72) (XS.icmpYes X19.here hx rfl (pc0 := 73) (pc' := 83) rfl (hb hby at_73) rfl (flt (show ¬ ((1 : Int32) < (1 : Int32)) from (by decide))).2.2.2 (by decide) (by decide) (XS.iload X19.here hx rfl (hb hby at_83) rfl (XS.iconst X19.here hx rfl (hb hby at_85) (XS.icmpYes X19.here hx rfl (pc0 := 86) (pc' := 96) rfl (hb hby at_86) rfl (flt (show ¬ ((2 : Int32) < (1 : Int32)) from (by decide))).2.2.2 (by decide) (by decide) (XS.aload X19.here hx rfl (hb hby at_96) rfl rfl k)))))))) ?_
    obtain ⟨cq20, kq20, q20a, q20b, q20c⟩ := isOf hZ rfl E_b10
    obtain ⟨_, _, ⟨T20, L20, k20, n20⟩, -, X20, ⟨Lc20, hQ20, l20, y20, z20⟩, st20⟩ := X19.virtualBack hx (y := (⟨"com/example/keys_to_structures/keystostructures/store/ExpiryQueue", "first", "()Lcom/example/keys_to_structures/keystostructures/store/TimedEntry;"⟩ : MethodName)) (z := (⟨"com/example/keys_to_structures/keystostructures/store/ExpiryQueue", "first", "()Lcom/example/keys_to_structures/keystostructures/store/TimedEntry;"⟩ : MethodName)) hown (mvT hZ (hw _ (List.mem_of_getElem? (i := 69) rfl))) (mvT hZ (hw _ (List.mem_of_getElem? (i := 70) rfl))) (notFace_of_selects (args := #[]) (mvT hZ (hw _ (List.mem_of_getElem? (i := 72) rfl)))) (mvT hZ (hw _ (List.mem_of_getElem? (i := 72) rfl))) (mvT hZ (hw _ (List.mem_of_getElem? (i := 71) rfl))) (by decide) (backOf (W := 0) (rmFi1 l Z aV hw [] b10 b11 kb11 b1 .null .null T19.heap n0 Zn F_heap_b10 F_size_b10 V_b11) hZ (hw _ (List.mem_of_getElem? (i := 73) rfl)) (hw _ (List.mem_of_getElem? (i := 32) rfl)) (by decide) (by decide)) q20a q20c (g := (mkF m 98 #[.val (.long q0), .second, .val (.long q1), .second, .val (.long q2), .second, .val (.int p3), .val (.int p4), .val (.int (1 : Int32)), .val (.ref b1), .val (.ref b4), .val (.ref b7), .val (.ref b10), .unset, .unset, .unset, .unset, .unset, .unset] [(.ref b10)])) rfl (by rw [hml]; rfl) (Steps.refl _) (argsL := []) (rest := []) (lenOf pd_8 rfl) rfl (by show 2 * 0 + _ ≤ _; exact Nat.le_of_eq rfl) (hb hby at_98) (fun _ _ => ⟨rfl, rfl, (by decide : 8 + 0 ≤ _), (by decide : 36 + 0 ≤ _)⟩)
    dsimp only [Pt.U, Pt.locs, Pt.cells, Pt.slots] at X20 l20 y20 z20 st20 hQ20
    subst l20 y20 z20
    obtain ⟨rfl, N20q, e20⟩ := hQ20
    have N20 := Fr.app N19 N20q
    refine Run.st (S' := T20.setTop (mkF m 116 #[.val (.long q0), .second, .val (.long q1), .second, .val (.long q2), .second, .val (.int p3), .val (.int p4), .val (.int (1 : Int32)), .val (.ref b1), .val (.ref b4), .val (.ref b7), .val (.ref b10), .val (.ref b1), .unset, .unset, .unset, .unset, .unset] [(.ref b7), (.ref b4), (.ref b1), (.ref b1)])) (fun _ k => st20.trans (XS.astore X20.here hx rfl (hb hby at_101) rfl rfl (l' := #[.val (.long q0), .second, .val (.long q1), .second, .val (.long q2), .second, .val (.int p3), .val (.int p4), .val (.int (1 : Int32)), .val (.ref b1), .val (.ref b4), .val (.ref b7), .val (.ref b10), .val (.ref b1), .unset, .unset, .unset, .unset, .unset]) rfl (XS.aload X20.here hx rfl (hb hby at_103) rfl rfl (XS.aload X20.here hx rfl (hb hby at_105) rfl rfl (XS.aload X20.here hx rfl (hb hby at_107) rfl rfl (XS.aload X20.here hx rfl (hb hby at_109) rfl rfl (XS.iload X20.here hx rfl (hb hby at_111) rfl (XS.ifNo X20.here hx rfl (hb hby at_113) rfl ((if0 _ _).trans (tlt (show (0 : Int32) < (1 : Int32) from (by decide))).2.2.2) k)))))))) ?_
    refine Run.st (S' := T20.setTop (mkF m 135 #[.val (.long q0), .second, .val (.long q1), .second, .val (.long q2), .second, .val (.int p3), .val (.int p4), .val (.int (1 : Int32)), .val (.ref b1), .val (.ref b4), .val (.ref b7), .val (.ref b10), .val (.ref b1), .unset, .unset, .unset, .unset, .unset] [(.int (2 : Int32)), (.int (1 : Int32)), (.int (0 : Int32)), (.int (1 : Int32)), (.ref b7), (.ref b4), (.ref b1), (.ref b1)])) (fun _ k => XS.iconst X20.here hx rfl (hb hby at_116) (XS.goto X20.here hx rfl (pc0 := 117) (pc' := 121) rfl (hb hby at_117) (by decide) (by decide) (XS.iload X20.here hx rfl (hb hby at_121) rfl (XS.iconst X20.here hx rfl (hb hby at_123) (XS.icmpYes X20.here hx rfl (pc0 := 124) (pc' := 131) rfl (hb hby at_124) rfl (flt (show ¬ ((1 : Int32) < (1 : Int32)) from (by decide))).2.2.2 (by decide) (by decide) (XS.iconst X20.here hx rfl (hb hby at_131) (XS.iload X20.here hx rfl (hb hby at_132) rfl (XS.iconst X20.here hx rfl (hb hby at_134) k)))))))) ?_
    refine Run.st (S' := T20.setTop (mkF m 147 #[.val (.long q0), .second, .val (.long q1), .second, .val (.long q2), .second, .val (.int p3), .val (.int p4), .val (.int (1 : Int32)), .val (.ref b1), .val (.ref b4), .val (.ref b7), .val (.ref b10), .val (.ref b1), .unset, .unset, .unset, .unset, .unset] [(.long q2), (.long q1), (.long q0), (.int (0 : Int32)), (.int (0 : Int32)), (.int (1 : Int32)), (.ref b7), (.ref b4), (.ref b1), (.ref b1)])) (fun _ k => XS.icmpYes X20.here hx rfl (pc0 := 135) (pc' := 142) rfl (hb hby at_135) rfl (flt (show ¬ ((2 : Int32) < (1 : Int32)) from (by decide))).2.2.2 (by decide) (by decide) (XS.iconst X20.here hx rfl (hb hby at_142) (XS.lloadN X20.here hx rfl (hb hby at_143) rfl (XS.lloadN X20.here hx rfl (hb hby at_144) rfl (XS.lload X20.here hx rfl (hb hby at_145) rfl k))))) ?_
    obtain ⟨_, _, ⟨T21, L21, k21, n21⟩, -, X21, ⟨Lc21, hQ21, l21, y21, z21⟩, st21⟩ := Jvm.LawKit.callS X20 hx (y := (⟨"com/example/keys_to_structures/keystostructures/store/ExpiryQueueFirstPinLaw", "isFirst", "(Lcom/example/keys_to_structures/keystostructures/store/TimedEntry;Lcom/example/keys_to_structures/keystostructures/store/TimedEntry;Lcom/example/keys_to_structures/keystostructures/store/TimedEntry;Lcom/example/keys_to_structures/keystostructures/store/TimedEntry;ZZZJJJ)Z"⟩ : MethodName)) hown (mvT hZ (hw _ (List.mem_of_getElem? (i := 74) rfl))) (mvT hZ (hw _ (List.mem_of_getElem? (i := 75) rfl))) (mvT hZ (hw _ (List.mem_of_getElem? (i := 76) rfl))) (mvT hZ (hw _ (List.mem_of_getElem? (i := 77) rfl))) (by decide) (backOf (W := 0) (rmIsF l Z aV hw [] b1 b1 b4 b7 (1 : Int32) (0 : Int32) (0 : Int32) q0 q1 q2 T19.heap n0 Zn (by decide)) hZ (hw _ (List.mem_of_getElem? (i := 77) rfl)) (hw _ (List.mem_of_getElem? (i := 76) rfl)) (by decide) (by decide)) (g := (mkF m 147 #[.val (.long q0), .second, .val (.long q1), .second, .val (.long q2), .second, .val (.int p3), .val (.int p4), .val (.int (1 : Int32)), .val (.ref b1), .val (.ref b4), .val (.ref b7), .val (.ref b10), .val (.ref b1), .unset, .unset, .unset, .unset, .unset] [(.long q2), (.long q1), (.long q0), (.int (0 : Int32)), (.int (0 : Int32)), (.int (1 : Int32)), (.ref b7), (.ref b4), (.ref b1), (.ref b1)])) rfl (by rw [hml]; rfl) (argsL := [(.ref b1), (.ref b1), (.ref b4), (.ref b7), (.int (1 : Int32)), (.int (0 : Int32)), (.int (0 : Int32)), (.long q0), (.long q1), (.long q2)]) (rest := []) (lenOf pd_9 rfl) rfl (by show 2 * 0 + _ ≤ _; exact Nat.le_of_eq rfl) (hb hby at_147) (fun _ _ => ⟨rfl, e20, (by decide : 8 + 0 ≤ _), (by decide : 36 + 0 ≤ _)⟩)
    dsimp only [Pt.U, Pt.locs, Pt.cells, Pt.slots] at X21 l21 y21 z21 st21 hQ21
    subst l21 y21 z21
    obtain ⟨rfl, N21q, e21⟩ := hQ21
    have N21 := Fr.app N20 N21q
    have hv21 : (own_isF b1 b1 b4 b7 (1 : Int32) (0 : Int32) (0 : Int32) q0 q1 q2) = (1 : Int32) := own_L1 _ _ _ _ _ _
    refine Run.st (S' := T21.setTop (mkF m 156 #[.val (.long q0), .second, .val (.long q1), .second, .val (.long q2), .second, .val (.int p3), .val (.int p4), .val (.int (1 : Int32)), .val (.ref b1), .val (.ref b4), .val (.ref b7), .val (.ref b10), .val (.ref b1), .val (.int (own_isF b1 b1 b4 b7 (1 : Int32) (0 : Int32) (0 : Int32) q0 q1 q2)), .unset, .unset, .unset, .unset] [(.int (p4 &&& (4 : Int32)))])) (fun _ k => st21 _ (XS.istore X21.here hx rfl (hb hby at_150) rfl (l' := #[.val (.long q0), .second, .val (.long q1), .second, .val (.long q2), .second, .val (.int p3), .val (.int p4), .val (.int (1 : Int32)), .val (.ref b1), .val (.ref b4), .val (.ref b7), .val (.ref b10), .val (.ref b1), .val (.int (own_isF b1 b1 b4 b7 (1 : Int32) (0 : Int32) (0 : Int32) q0 q1 q2)), .unset, .unset, .unset, .unset]) rfl (XS.iload X21.here hx rfl (hb hby at_152) rfl (XS.iconst X21.here hx rfl (hb hby at_154) (XS.iand X21.here hx rfl (hb hby at_155) rfl k))))) ?_
    by_cases hc156_22 : (p4 &&& (4 : Int32)) = (0 : Int32)
    · refine Run.st (S' := T21.setTop (mkF m 231 #[.val (.long q0), .second, .val (.long q1), .second, .val (.long q2), .second, .val (.int p3), .val (.int p4), .val (.int (1 : Int32)), .val (.ref b1), .val (.ref b4), .val (.ref b7), .val (.ref b10), .val (.ref b1), .val (.int (own_isF b1 b1 b4 b7 (1 : Int32) (0 : Int32) (0 : Int32) q0 q1 q2)), .val (.int (0 : Int32)), .val (.int (-1 : Int32)), .unset, .unset] [(.ref b10)])) (fun _ k => XS.ifYes X21.here hx rfl (pc0 := 156) (pc' := 168) rfl (hb hby at_156) rfl ((if0 _ _).trans (teq hc156_22).1) (by decide) (by decide) (XS.iconst X21.here hx rfl (hb hby at_168) (XS.istore X21.here hx rfl (hb hby at_169) rfl (l' := #[.val (.long q0), .second, .val (.long q1), .second, .val (.long q2), .second, .val (.int p3), .val (.int p4), .val (.int (1 : Int32)), .val (.ref b1), .val (.ref b4), .val (.ref b7), .val (.ref b10), .val (.ref b1), .val (.int (own_isF b1 b1 b4 b7 (1 : Int32) (0 : Int32) (0 : Int32) q0 q1 q2)), .val (.int (0 : Int32)), .unset, .unset, .unset]) rfl (XS.iconst X21.here hx rfl (hb hby at_171) (XS.istore X21.here hx rfl (hb hby at_172) rfl (l' := #[.val (.long q0), .second, .val (.long q1), .second, .val (.long q2), .second, .val (.int p3), .val (.int p4), .val (.int (1 : Int32)), .val (.ref b1), .val (.ref b4), .val (.ref b7), .val (.ref b10), .val (.ref b1), .val (.int (own_isF b1 b1 b4 b7 (1 : Int32) (0 : Int32) (0 : Int32) q0 q1 q2)), .val (.int (0 : Int32)), .val (.int (-1 : Int32)), .unset, .unset]) rfl (XS.iload X21.here hx rfl (hb hby at_174) rfl (XS.ifYes X21.here hx rfl (pc0 := 176) (pc' := 229) rfl (hb hby at_176) rfl ((if0 _ _).trans (teq (show (0 : Int32) = (0 : Int32) from (by decide))).1) (by decide) (by decide) (XS.aload X21.here hx rfl (hb hby at_229) rfl rfl k)))))))) ?_
      obtain ⟨cq23, kq23, q23a, q23b, q23c⟩ := isOf hZ e21 E_b10
      obtain ⟨_, _, ⟨T23, L23, k23, n23⟩, -, X23, ⟨Lc23, hQ23, l23, y23, z23⟩, st23⟩ := X21.virtualBack hx (y := (⟨"com/example/keys_to_structures/keystostructures/store/ExpiryQueue", "first", "()Lcom/example/keys_to_structures/keystostructures/store/TimedEntry;"⟩ : MethodName)) (z := (⟨"com/example/keys_to_structures/keystostructures/store/ExpiryQueue", "first", "()Lcom/example/keys_to_structures/keystostructures/store/TimedEntry;"⟩ : MethodName)) hown (mvT hZ (hw _ (List.mem_of_getElem? (i := 69) rfl))) (mvT hZ (hw _ (List.mem_of_getElem? (i := 70) rfl))) (notFace_of_selects (args := #[]) (mvT hZ (hw _ (List.mem_of_getElem? (i := 72) rfl)))) (mvT hZ (hw _ (List.mem_of_getElem? (i := 72) rfl))) (mvT hZ (hw _ (List.mem_of_getElem? (i := 71) rfl))) (by decide) (backOf (W := 0) (rmFi1 l Z aV hw [] b10 b11 kb11 b1 .null .null T19.heap n0 Zn F_heap_b10 F_size_b10 V_b11) hZ (hw _ (List.mem_of_getElem? (i := 73) rfl)) (hw _ (List.mem_of_getElem? (i := 32) rfl)) (by decide) (by decide)) q23a q23c (g := (mkF m 231 #[.val (.long q0), .second, .val (.long q1), .second, .val (.long q2), .second, .val (.int p3), .val (.int p4), .val (.int (1 : Int32)), .val (.ref b1), .val (.ref b4), .val (.ref b7), .val (.ref b10), .val (.ref b1), .val (.int (own_isF b1 b1 b4 b7 (1 : Int32) (0 : Int32) (0 : Int32) q0 q1 q2)), .val (.int (0 : Int32)), .val (.int (-1 : Int32)), .unset, .unset] [(.ref b10)])) rfl (by rw [hml]; rfl) (Steps.refl _) (argsL := []) (rest := []) (lenOf pd_8 rfl) rfl (by show 2 * 0 + _ ≤ _; exact Nat.le_of_eq rfl) (hb hby at_231) (fun _ _ => ⟨rfl, e21, (by decide : 8 + 0 ≤ _), (by decide : 36 + 0 ≤ _)⟩)
      dsimp only [Pt.U, Pt.locs, Pt.cells, Pt.slots] at X23 l23 y23 z23 st23 hQ23
      subst l23 y23 z23
      obtain ⟨rfl, N23q, e23⟩ := hQ23
      have N23 := Fr.app N21 N23q
      refine Run.st (S' := T23.setTop (mkF m 249 #[.val (.long q0), .second, .val (.long q1), .second, .val (.long q2), .second, .val (.int p3), .val (.int p4), .val (.int (1 : Int32)), .val (.ref b1), .val (.ref b4), .val (.ref b7), .val (.ref b10), .val (.ref b1), .val (.int (own_isF b1 b1 b4 b7 (1 : Int32) (0 : Int32) (0 : Int32) q0 q1 q2)), .val (.int (0 : Int32)), .val (.int (-1 : Int32)), .val (.ref b1), .unset] [(.ref b7), (.ref b4), (.ref b1), (.ref b1)])) (fun _ k => st23.trans (XS.astore X23.here hx rfl (hb hby at_234) rfl rfl (l' := #[.val (.long q0), .second, .val (.long q1), .second, .val (.long q2), .second, .val (.int p3), .val (.int p4), .val (.int (1 : Int32)), .val (.ref b1), .val (.ref b4), .val (.ref b7), .val (.ref b10), .val (.ref b1), .val (.int (own_isF b1 b1 b4 b7 (1 : Int32) (0 : Int32) (0 : Int32) q0 q1 q2)), .val (.int (0 : Int32)), .val (.int (-1 : Int32)), .val (.ref b1), .unset]) rfl (XS.aload X23.here hx rfl (hb hby at_236) rfl rfl (XS.aload X23.here hx rfl (hb hby at_238) rfl rfl (XS.aload X23.here hx rfl (hb hby at_240) rfl rfl (XS.aload X23.here hx rfl (hb hby at_242) rfl rfl (XS.iload X23.here hx rfl (hb hby at_244) rfl (XS.ifNo X23.here hx rfl (hb hby at_246) rfl ((if0 _ _).trans (tlt (show (0 : Int32) < (1 : Int32) from (by decide))).2.2.2) k)))))))) ?_
      refine Run.st (S' := T23.setTop (mkF m 276 #[.val (.long q0), .second, .val (.long q1), .second, .val (.long q2), .second, .val (.int p3), .val (.int p4), .val (.int (1 : Int32)), .val (.ref b1), .val (.ref b4), .val (.ref b7), .val (.ref b10), .val (.ref b1), .val (.int (own_isF b1 b1 b4 b7 (1 : Int32) (0 : Int32) (0 : Int32) q0 q1 q2)), .val (.int (0 : Int32)), .val (.int (-1 : Int32)), .val (.ref b1), .unset] [(.int (0 : Int32)), (.int (1 : Int32)), (.ref b7), (.ref b4), (.ref b1), (.ref b1)])) (fun _ k => XS.iload X23.here hx rfl (hb hby at_249) rfl (XS.ifNo X23.here hx rfl (hb hby at_251) rfl ((if0 _ _).trans (feq (show ¬ ((-1 : Int32) = (0 : Int32)) from (by decide))).1) (XS.iconst X23.here hx rfl (hb hby at_254) (XS.goto X23.here hx rfl (pc0 := 255) (pc' := 259) rfl (hb hby at_255) (by decide) (by decide) (XS.iload X23.here hx rfl (hb hby at_259) rfl (XS.iconst X23.here hx rfl (hb hby at_261) (XS.icmpYes X23.here hx rfl (pc0 := 262) (pc' := 275) rfl (hb hby at_262) rfl (flt (show ¬ ((1 : Int32) < (1 : Int32)) from (by decide))).2.2.2 (by decide) (by decide) (XS.iconst X23.here hx rfl (hb hby at_275) k)))))))) ?_
      refine Run.st (S' := T23.setTop (mkF m 297 #[.val (.long q0), .second, .val (.long q1), .second, .val (.long q2), .second, .val (.int p3), .val (.int p4), .val (.int (1 : Int32)), .val (.ref b1), .val (.ref b4), .val (.ref b7), .val (.ref b10), .val (.ref b1), .val (.int (own_isF b1 b1 b4 b7 (1 : Int32) (0 : Int32) (0 : Int32) q0 q1 q2)), .val (.int (0 : Int32)), .val (.int (-1 : Int32)), .val (.ref b1), .unset] [(.long q2), (.long q1), (.long q0), (.int (0 : Int32)), (.int (0 : Int32)), (.int (1 : Int32)), (.ref b7), (.ref b4), (.ref b1), (.ref b1)])) (fun _ k => XS.iload X23.here hx rfl (hb hby at_276) rfl (XS.iconst X23.here hx rfl (hb hby at_278) (XS.icmpYes X23.here hx rfl (pc0 := 279) (pc' := 292) rfl (hb hby at_279) rfl (flt (show ¬ ((2 : Int32) < (1 : Int32)) from (by decide))).2.2.2 (by decide) (by decide) (XS.iconst X23.here hx rfl (hb hby at_292) (XS.lloadN X23.here hx rfl (hb hby at_293) rfl (XS.lloadN X23.here hx rfl (hb hby at_294) rfl (XS.lload X23.here hx rfl (hb hby at_295) rfl k))))))) ?_
      obtain ⟨_, _, ⟨T24, L24, k24, n24⟩, -, X24, ⟨Lc24, hQ24, l24, y24, z24⟩, st24⟩ := Jvm.LawKit.callS X23 hx (y := (⟨"com/example/keys_to_structures/keystostructures/store/ExpiryQueueFirstPinLaw", "isFirst", "(Lcom/example/keys_to_structures/keystostructures/store/TimedEntry;Lcom/example/keys_to_structures/keystostructures/store/TimedEntry;Lcom/example/keys_to_structures/keystostructures/store/TimedEntry;Lcom/example/keys_to_structures/keystostructures/store/TimedEntry;ZZZJJJ)Z"⟩ : MethodName)) hown (mvT hZ (hw _ (List.mem_of_getElem? (i := 74) rfl))) (mvT hZ (hw _ (List.mem_of_getElem? (i := 75) rfl))) (mvT hZ (hw _ (List.mem_of_getElem? (i := 76) rfl))) (mvT hZ (hw _ (List.mem_of_getElem? (i := 77) rfl))) (by decide) (backOf (W := 0) (rmIsF l Z aV hw [] b1 b1 b4 b7 (1 : Int32) (0 : Int32) (0 : Int32) q0 q1 q2 T19.heap n0 Zn (by decide)) hZ (hw _ (List.mem_of_getElem? (i := 77) rfl)) (hw _ (List.mem_of_getElem? (i := 76) rfl)) (by decide) (by decide)) (g := (mkF m 297 #[.val (.long q0), .second, .val (.long q1), .second, .val (.long q2), .second, .val (.int p3), .val (.int p4), .val (.int (1 : Int32)), .val (.ref b1), .val (.ref b4), .val (.ref b7), .val (.ref b10), .val (.ref b1), .val (.int (own_isF b1 b1 b4 b7 (1 : Int32) (0 : Int32) (0 : Int32) q0 q1 q2)), .val (.int (0 : Int32)), .val (.int (-1 : Int32)), .val (.ref b1), .unset] [(.long q2), (.long q1), (.long q0), (.int (0 : Int32)), (.int (0 : Int32)), (.int (1 : Int32)), (.ref b7), (.ref b4), (.ref b1), (.ref b1)])) rfl (by rw [hml]; rfl) (argsL := [(.ref b1), (.ref b1), (.ref b4), (.ref b7), (.int (1 : Int32)), (.int (0 : Int32)), (.int (0 : Int32)), (.long q0), (.long q1), (.long q2)]) (rest := []) (lenOf pd_9 rfl) rfl (by show 2 * 0 + _ ≤ _; exact Nat.le_of_eq rfl) (hb hby at_297) (fun _ _ => ⟨rfl, e23, (by decide : 8 + 0 ≤ _), (by decide : 36 + 0 ≤ _)⟩)
      dsimp only [Pt.U, Pt.locs, Pt.cells, Pt.slots] at X24 l24 y24 z24 st24 hQ24
      subst l24 y24 z24
      obtain ⟨rfl, N24q, e24⟩ := hQ24
      have N24 := Fr.app N23 N24q
      refine Run.st (S' := T24.setTop (mkF m 317 #[.val (.long q0), .second, .val (.long q1), .second, .val (.long q2), .second, .val (.int p3), .val (.int p4), .val (.int (1 : Int32)), .val (.ref b1), .val (.ref b4), .val (.ref b7), .val (.ref b10), .val (.ref b1), .val (.int (own_isF b1 b1 b4 b7 (1 : Int32) (0 : Int32) (0 : Int32) q0 q1 q2)), .val (.int (0 : Int32)), .val (.int (-1 : Int32)), .val (.ref b1), .val (.int (own_isF b1 b1 b4 b7 (1 : Int32) (0 : Int32) (0 : Int32) q0 q1 q2))] [(.int (1 : Int32))])) (fun _ k => st24 _ (XS.istore X24.here hx rfl (hb hby at_300) rfl (l' := #[.val (.long q0), .second, .val (.long q1), .second, .val (.long q2), .second, .val (.int p3), .val (.int p4), .val (.int (1 : Int32)), .val (.ref b1), .val (.ref b4), .val (.ref b7), .val (.ref b10), .val (.ref b1), .val (.int (own_isF b1 b1 b4 b7 (1 : Int32) (0 : Int32) (0 : Int32) q0 q1 q2)), .val (.int (0 : Int32)), .val (.int (-1 : Int32)), .val (.ref b1), .val (.int (own_isF b1 b1 b4 b7 (1 : Int32) (0 : Int32) (0 : Int32) q0 q1 q2))]) rfl (XS.iload X24.here hx rfl (hb hby at_302) rfl (XS.ifNo X24.here hx rfl (hb hby at_304) rfl ((if0 _ _).trans (feq (show ¬ ((own_isF b1 b1 b4 b7 (1 : Int32) (0 : Int32) (0 : Int32) q0 q1 q2) = (0 : Int32)) from (by rw [hv21]; decide))).1) (XS.iload X24.here hx rfl (hb hby at_307) rfl (XS.ifNo X24.here hx rfl (hb hby at_309) rfl ((if0 _ _).trans (feq (show ¬ ((own_isF b1 b1 b4 b7 (1 : Int32) (0 : Int32) (0 : Int32) q0 q1 q2) = (0 : Int32)) from (by rw [hv21]; decide))).1) (XS.iconst X24.here hx rfl (hb hby at_312) (XS.goto X24.here hx rfl (pc0 := 313) (pc' := 317) rfl (hb hby at_313) (by decide) (by decide) k)))))))) ?_
      refine Run.out X24 hx Bd.notSynchronized Bd.returns rfl (Or.inl ⟨rfl, by simp, _, rfl⟩) (hb hby at_317) (by decide) (by decide) ?_
      rw [e24]
      exact ⟨rfl, N24⟩
    · refine Run.st (S' := T21.setTop (mkF m 174 #[.val (.long q0), .second, .val (.long q1), .second, .val (.long q2), .second, .val (.int p3), .val (.int p4), .val (.int (1 : Int32)), .val (.ref b1), .val (.ref b4), .val (.ref b7), .val (.ref b10), .val (.ref b1), .val (.int (own_isF b1 b1 b4 b7 (1 : Int32) (0 : Int32) (0 : Int32) q0 q1 q2)), .val (.int (1 : Int32)), .val (.int (-1 : Int32)), .unset, .unset] [])) (fun _ k => XS.ifNo X21.here hx rfl (hb hby at_156) rfl ((if0 _ _).trans (feq hc156_22).1) (XS.iload X21.here hx rfl (hb hby at_159) rfl (XS.ifNo X21.here hx rfl (hb hby at_161) rfl ((if0 _ _).trans (tlt (show (0 : Int32) < (1 : Int32) from (by decide))).2.2.2) (XS.iconst X21.here hx rfl (hb hby at_164) (XS.goto X21.here hx rfl (pc0 := 165) (pc' := 169) rfl (hb hby at_165) (by decide) (by decide) (XS.istore X21.here hx rfl (hb hby at_169) rfl (l' := #[.val (.long q0), .second, .val (.long q1), .second, .val (.long q2), .second, .val (.int p3), .val (.int p4), .val (.int (1 : Int32)), .val (.ref b1), .val (.ref b4), .val (.ref b7), .val (.ref b10), .val (.ref b1), .val (.int (own_isF b1 b1 b4 b7 (1 : Int32) (0 : Int32) (0 : Int32) q0 q1 q2)), .val (.int (1 : Int32)), .unset, .unset, .unset]) rfl (XS.iconst X21.here hx rfl (hb hby at_171) (XS.istore X21.here hx rfl (hb hby at_172) rfl (l' := #[.val (.long q0), .second, .val (.long q1), .second, .val (.long q2), .second, .val (.int p3), .val (.int p4), .val (.int (1 : Int32)), .val (.ref b1), .val (.ref b4), .val (.ref b7), .val (.ref b10), .val (.ref b1), .val (.int (own_isF b1 b1 b4 b7 (1 : Int32) (0 : Int32) (0 : Int32) q0 q1 q2)), .val (.int (1 : Int32)), .val (.int (-1 : Int32)), .unset, .unset]) rfl k)))))))) ?_
      refine Run.st (S' := T21.setTop (mkF m 188 #[.val (.long q0), .second, .val (.long q1), .second, .val (.long q2), .second, .val (.int p3), .val (.int p4), .val (.int (1 : Int32)), .val (.ref b1), .val (.ref b4), .val (.ref b7), .val (.ref b10), .val (.ref b1), .val (.int (own_isF b1 b1 b4 b7 (1 : Int32) (0 : Int32) (0 : Int32) q0 q1 q2)), .val (.int (1 : Int32)), .val (.int (-1 : Int32)), .unset, .unset] [(.int (1 : Int32)), (.int (((p4.toUInt32 >>> ((3 : Int32) &&& 31).toUInt32).toInt32) &&& (2147483647 : Int32)))])) (fun _ k => XS.iload X21.here hx rfl (hb hby at_174) rfl (XS.ifNo X21.here hx rfl (hb hby at_176) rfl ((if0 _ _).trans (feq (show ¬ ((1 : Int32) = (0 : Int32)) from (by decide))).1) (XS.iload X21.here hx rfl (hb hby at_179) rfl (XS.iconst X21.here hx rfl (hb hby at_181) (XS.iushr X21.here hx rfl (hb hby at_182) rfl (X21.ldcInt hx hown (mvT hZ (hw _ (List.mem_of_getElem? (i := 79) rfl))) (g := (mkF m 183 #[.val (.long q0), .second, .val (.long q1), .second, .val (.long q2), .second, .val (.int p3), .val (.int p4), .val (.int (1 : Int32)), .val (.ref b1), .val (.ref b4), .val (.ref b7), .val (.ref b10), .val (.ref b1), .val (.int (own_isF b1 b1 b4 b7 (1 : Int32) (0 : Int32) (0 : Int32) q0 q1 q2)), .val (.int (1 : Int32)), .val (.int (-1 : Int32)), .unset, .unset] [(.int ((p4.toUInt32 >>> ((3 : Int32) &&& 31).toUInt32).toInt32))])) rfl (hb hby at_183) _ (XS.iand X21.here hx rfl (hb hby at_185) rfl (XS.iload X21.here hx rfl (hb hby at_186) rfl k)))))))) ?_
      refine Run.st (S' := T21.setTop (mkF m 191 #[.val (.long q0), .second, .val (.long q1), .second, .val (.long q2), .second, .val (.int p3), .val (.int p4), .val (.int (1 : Int32)), .val (.ref b1), .val (.ref b4), .val (.ref b7), .val (.ref b10), .val (.ref b1), .val (.int (own_isF b1 b1 b4 b7 (1 : Int32) (0 : Int32) (0 : Int32) q0 q1 q2)), .val (.int (1 : Int32)), .val (.int ((((p4.toUInt32 >>> ((3 : Int32) &&& 31).toUInt32).toInt32) &&& (2147483647 : Int32)) % (1 : Int32))), .unset, .unset] [])) (fun _ k => iremM X21 hx rfl (hb hby at_188) rfl (by decide) (XS.istore X21.here hx rfl (hb hby at_189) rfl (l' := #[.val (.long q0), .second, .val (.long q1), .second, .val (.long q2), .second, .val (.int p3), .val (.int p4), .val (.int (1 : Int32)), .val (.ref b1), .val (.ref b4), .val (.ref b7), .val (.ref b10), .val (.ref b1), .val (.int (own_isF b1 b1 b4 b7 (1 : Int32) (0 : Int32) (0 : Int32) q0 q1 q2)), .val (.int (1 : Int32)), .val (.int ((((p4.toUInt32 >>> ((3 : Int32) &&& 31).toUInt32).toInt32) &&& (2147483647 : Int32)) % (1 : Int32))), .unset, .unset]) rfl k)) ?_
      have hkk : 0 ≤ (((((p4.toUInt32 >>> ((3 : Int32) &&& 31).toUInt32).toInt32) &&& (2147483647 : Int32)) % (1 : Int32))).toInt ∧ (((((p4.toUInt32 >>> ((3 : Int32) &&& 31).toUInt32).toInt32) &&& (2147483647 : Int32)) % (1 : Int32))).toInt < 1 := (by have := rng32 ((((p4.toUInt32 >>> ((3 : Int32) &&& 31).toUInt32).toInt32) &&& (2147483647 : Int32)) % (1 : Int32)); have := c_irem (((p4.toUInt32 >>> ((3 : Int32) &&& 31).toUInt32).toInt32) &&& (2147483647 : Int32)) (1 : Int32) 1 (by decide); have := rng32 (((p4.toUInt32 >>> ((3 : Int32) &&& 31).toUInt32).toInt32) &&& (2147483647 : Int32)); have := c_mask ((p4.toUInt32 >>> ((3 : Int32) &&& 31).toUInt32).toInt32) (2147483647 : Int32) 31 (by decide) (by decide); have := rng32 ((p4.toUInt32 >>> ((3 : Int32) &&& 31).toUInt32).toInt32); have := c_iushr p4 (3 : Int32) 3 (by decide) (by decide); have := rng32 p4; (try simp only [Int32.lt_iff_toInt_lt, Int64.lt_iff_toInt_lt, Int32.le_iff_toInt_le, Int64.le_iff_toInt_le, ← Int32.toInt_inj, ← Int64.toInt_inj] at  ⊢); omega)
      generalize ekk : ((((p4.toUInt32 >>> ((3 : Int32) &&& 31).toUInt32).toInt32) &&& (2147483647 : Int32)) % (1 : Int32)) = kk at hkk ⊢
      rcases own_c1 hkk with rfl
      · refine Run.st (S' := T21.setTop (mkF m 200 #[.val (.long q0), .second, .val (.long q1), .second, .val (.long q2), .second, .val (.int p3), .val (.int p4), .val (.int (1 : Int32)), .val (.ref b1), .val (.ref b4), .val (.ref b7), .val (.ref b10), .val (.ref b1), .val (.int (own_isF b1 b1 b4 b7 (1 : Int32) (0 : Int32) (0 : Int32) q0 q1 q2)), .val (.int (1 : Int32)), .val (.int (0 : Int32)), .unset, .unset] [(.ref b1), (.ref b10)])) (fun _ k => XS.iload X21.here hx rfl (hb hby at_191) rfl (XS.ifNo X21.here hx rfl (hb hby at_193) rfl ((if0 _ _).trans (teq (show (0 : Int32) = (0 : Int32) from (by decide))).2) (XS.aload X21.here hx rfl (hb hby at_196) rfl rfl (XS.aload X21.here hx rfl (hb hby at_198) rfl rfl k)))) ?_
        obtain ⟨cq25, kq25, q25a, q25b, q25c⟩ := isOf hZ e21 E_b10
        obtain ⟨_, _, ⟨T25, L25, k25, n25⟩, -, X25, ⟨Lc25, hQ25, l25, y25, z25⟩, st25⟩ := X21.virtualBack hx (y := (⟨"com/example/keys_to_structures/keystostructures/store/ExpiryQueue", "remove", "(Lcom/example/keys_to_structures/keystostructures/store/TimedEntry;)V"⟩ : MethodName)) (z := (⟨"com/example/keys_to_structures/keystostructures/store/ExpiryQueue", "remove", "(Lcom/example/keys_to_structures/keystostructures/store/TimedEntry;)V"⟩ : MethodName)) hown (mvT hZ (hw _ (List.mem_of_getElem? (i := 80) rfl))) (mvT hZ (hw _ (List.mem_of_getElem? (i := 81) rfl))) (notFace_of_selects (args := #[]) (mvT hZ (hw _ (List.mem_of_getElem? (i := 83) rfl)))) (mvT hZ (hw _ (List.mem_of_getElem? (i := 83) rfl))) (mvT hZ (hw _ (List.mem_of_getElem? (i := 82) rfl))) (by decide) (backOf (W := 0) (rmRm1 l Z aV hw [] b10 b11 kb11 .null .null b1 q0 T19.heap n0 Zn g_b10 g_b11 O_kb11 g_b1 E_b10 F_heap_b10 F_size_b10 V_b11 E_b1 F_deadline_b1 F_position_b1 ne_b10_b11 (Ne.symm ne_b1_b10) (Ne.symm ne_b1_b11)) hZ (hw _ (List.mem_of_getElem? (i := 84) rfl)) (hw _ (List.mem_of_getElem? (i := 32) rfl)) (by decide) (by decide)) q25a q25c (g := (mkF m 200 #[.val (.long q0), .second, .val (.long q1), .second, .val (.long q2), .second, .val (.int p3), .val (.int p4), .val (.int (1 : Int32)), .val (.ref b1), .val (.ref b4), .val (.ref b7), .val (.ref b10), .val (.ref b1), .val (.int (own_isF b1 b1 b4 b7 (1 : Int32) (0 : Int32) (0 : Int32) q0 q1 q2)), .val (.int (1 : Int32)), .val (.int (0 : Int32)), .unset, .unset] [(.ref b1), (.ref b10)])) rfl (by rw [hml]; rfl) (Steps.refl _) (argsL := [(.ref b1)]) (rest := []) (lenOf pd_10 rfl) rfl (by show 2 * 0 + _ ≤ _; exact Nat.le_of_eq rfl) (hb hby at_200) (fun _ _ => ⟨rfl, e21, (by decide : 8 + 0 ≤ _), (by decide : 36 + 0 ≤ _)⟩)
        dsimp only [Pt.U, Pt.locs, Pt.cells, Pt.slots] at X25 l25 y25 z25 st25 hQ25
        subst l25 y25 z25
        obtain ⟨rfl, N25q, K25, q25_0, q25_1, q25_2, q25_3, q25_4, q25_5, q25_6⟩ := hQ25
        have E_b4 := E_b4.keep K25
        have F_deadline_b4 := F_deadline_b4.keep K25 (ninS ne_b4_b10 (ninS ne_b4_b11 (ninS (Ne.symm ne_b1_b4) nin0)))
        have F_position_b4 := F_position_b4.keep K25 (ninS ne_b4_b10 (ninS ne_b4_b11 (ninS (Ne.symm ne_b1_b4) nin0)))
        have E_b7 := E_b7.keep K25
        have F_deadline_b7 := F_deadline_b7.keep K25 (ninS ne_b7_b10 (ninS ne_b7_b11 (ninS (Ne.symm ne_b1_b7) nin0)))
        have F_position_b7 := F_position_b7.keep K25 (ninS ne_b7_b10 (ninS ne_b7_b11 (ninS (Ne.symm ne_b1_b7) nin0)))
        have E_b10 := q25_0
        have F_heap_b10 := q25_1
        have F_size_b10 := q25_2
        have V_b11 := q25_3
        have E_b1 := q25_4
        have F_deadline_b1 := q25_5
        have F_position_b1 := q25_6
        have Kp := Kp.trans K25 (allS (Or.inr sz_b10) (allS (Or.inr sz_b11) (allS (Or.inr sz_b1) all0)))
        have Zn := Nat.le_trans Zn K25.1
        have N25 := Fr.app N21 N25q
        refine Run.st (S' := T25.setTop (mkF m 231 #[.val (.long q0), .second, .val (.long q1), .second, .val (.long q2), .second, .val (.int p3), .val (.int p4), .val (.int (1 : Int32)), .val (.ref b1), .val (.ref b4), .val (.ref b7), .val (.ref b10), .val (.ref b1), .val (.int (own_isF b1 b1 b4 b7 (1 : Int32) (0 : Int32) (0 : Int32) q0 q1 q2)), .val (.int (1 : Int32)), .val (.int (0 : Int32)), .unset, .unset] [(.ref b10)])) (fun _ k => st25.trans (XS.goto X25.here hx rfl (pc0 := 203) (pc' := 229) rfl (hb hby at_203) (by decide) (by decide) (XS.aload X25.here hx rfl (hb hby at_229) rfl rfl k))) ?_
        obtain ⟨cq26, kq26, q26a, q26b, q26c⟩ := isOf hZ rfl E_b10
        obtain ⟨_, _, ⟨T26, L26, k26, n26⟩, -, X26, ⟨Lc26, hQ26, l26, y26, z26⟩, st26⟩ := X25.virtualBack hx (y := (⟨"com/example/keys_to_structures/keystostructures/store/ExpiryQueue", "first", "()Lcom/example/keys_to_structures/keystostructures/store/TimedEntry;"⟩ : MethodName)) (z := (⟨"com/example/keys_to_structures/keystostructures/store/ExpiryQueue", "first", "()Lcom/example/keys_to_structures/keystostructures/store/TimedEntry;"⟩ : MethodName)) hown (mvT hZ (hw _ (List.mem_of_getElem? (i := 69) rfl))) (mvT hZ (hw _ (List.mem_of_getElem? (i := 70) rfl))) (notFace_of_selects (args := #[]) (mvT hZ (hw _ (List.mem_of_getElem? (i := 72) rfl)))) (mvT hZ (hw _ (List.mem_of_getElem? (i := 72) rfl))) (mvT hZ (hw _ (List.mem_of_getElem? (i := 71) rfl))) (by decide) (backOf (W := 0) (rmFi0 l Z aV hw [] b10 b11 kb11 .null .null .null T25.heap n0 Zn F_heap_b10 F_size_b10 V_b11) hZ (hw _ (List.mem_of_getElem? (i := 73) rfl)) (hw _ (List.mem_of_getElem? (i := 32) rfl)) (by decide) (by decide)) q26a q26c (g := (mkF m 231 #[.val (.long q0), .second, .val (.long q1), .second, .val (.long q2), .second, .val (.int p3), .val (.int p4), .val (.int (1 : Int32)), .val (.ref b1), .val (.ref b4), .val (.ref b7), .val (.ref b10), .val (.ref b1), .val (.int (own_isF b1 b1 b4 b7 (1 : Int32) (0 : Int32) (0 : Int32) q0 q1 q2)), .val (.int (1 : Int32)), .val (.int (0 : Int32)), .unset, .unset] [(.ref b10)])) rfl (by rw [hml]; rfl) (Steps.refl _) (argsL := []) (rest := []) (lenOf pd_8 rfl) rfl (by show 2 * 0 + _ ≤ _; exact Nat.le_of_eq rfl) (hb hby at_231) (fun _ _ => ⟨rfl, rfl, (by decide : 8 + 0 ≤ _), (by decide : 36 + 0 ≤ _)⟩)
        dsimp only [Pt.U, Pt.locs, Pt.cells, Pt.slots] at X26 l26 y26 z26 st26 hQ26
        subst l26 y26 z26
        obtain ⟨rfl, N26q, e26⟩ := hQ26
        have N26 := Fr.app N25 N26q
        refine Run.st (S' := T26.setTop (mkF m 249 #[.val (.long q0), .second, .val (.long q1), .second, .val (.long q2), .second, .val (.int p3), .val (.int p4), .val (.int (1 : Int32)), .val (.ref b1), .val (.ref b4), .val (.ref b7), .val (.ref b10), .val (.ref b1), .val (.int (own_isF b1 b1 b4 b7 (1 : Int32) (0 : Int32) (0 : Int32) q0 q1 q2)), .val (.int (1 : Int32)), .val (.int (0 : Int32)), .val .null, .unset] [(.ref b7), (.ref b4), (.ref b1), .null])) (fun _ k => st26.trans (XS.astore X26.here hx rfl (hb hby at_234) rfl rfl (l' := #[.val (.long q0), .second, .val (.long q1), .second, .val (.long q2), .second, .val (.int p3), .val (.int p4), .val (.int (1 : Int32)), .val (.ref b1), .val (.ref b4), .val (.ref b7), .val (.ref b10), .val (.ref b1), .val (.int (own_isF b1 b1 b4 b7 (1 : Int32) (0 : Int32) (0 : Int32) q0 q1 q2)), .val (.int (1 : Int32)), .val (.int (0 : Int32)), .val .null, .unset]) rfl (XS.aload X26.here hx rfl (hb hby at_236) rfl rfl (XS.aload X26.here hx rfl (hb hby at_238) rfl rfl (XS.aload X26.here hx rfl (hb hby at_240) rfl rfl (XS.aload X26.here hx rfl (hb hby at_242) rfl rfl (XS.iload X26.here hx rfl (hb hby at_244) rfl (XS.ifNo X26.here hx rfl (hb hby at_246) rfl ((if0 _ _).trans (tlt (show (0 : Int32) < (1 : Int32) from (by decide))).2.2.2) k)))))))) ?_
        refine Run.st (S' := T26.setTop (mkF m 278 #[.val (.long q0), .second, .val (.long q1), .second, .val (.long q2), .second, .val (.int p3), .val (.int p4), .val (.int (1 : Int32)), .val (.ref b1), .val (.ref b4), .val (.ref b7), .val (.ref b10), .val (.ref b1), .val (.int (own_isF b1 b1 b4 b7 (1 : Int32) (0 : Int32) (0 : Int32) q0 q1 q2)), .val (.int (1 : Int32)), .val (.int (0 : Int32)), .val .null, .unset] [(.int (1 : Int32)), (.int (0 : Int32)), (.int (0 : Int32)), (.ref b7), (.ref b4), (.ref b1), .null])) (fun _ k => XS.iload X26.here hx rfl (hb hby at_249) rfl (XS.ifYes X26.here hx rfl (pc0 := 251) (pc' := 258) rfl (hb hby at_251) rfl ((if0 _ _).trans (teq (show (0 : Int32) = (0 : Int32) from (by decide))).1) (by decide) (by decide) (XS.iconst X26.here hx rfl (hb hby at_258) (XS.iload X26.here hx rfl (hb hby at_259) rfl (XS.iconst X26.here hx rfl (hb hby at_261) (XS.icmpYes X26.here hx rfl (pc0 := 262) (pc' := 275) rfl (hb hby at_262) rfl (flt (show ¬ ((1 : Int32) < (1 : Int32)) from (by decide))).2.2.2 (by decide) (by decide) (XS.iconst X26.here hx rfl (hb hby at_275) (XS.iload X26.here hx rfl (hb hby at_276) rfl k)))))))) ?_
        refine Run.st (S' := T26.setTop (mkF m 297 #[.val (.long q0), .second, .val (.long q1), .second, .val (.long q2), .second, .val (.int p3), .val (.int p4), .val (.int (1 : Int32)), .val (.ref b1), .val (.ref b4), .val (.ref b7), .val (.ref b10), .val (.ref b1), .val (.int (own_isF b1 b1 b4 b7 (1 : Int32) (0 : Int32) (0 : Int32) q0 q1 q2)), .val (.int (1 : Int32)), .val (.int (0 : Int32)), .val .null, .unset] [(.long q2), (.long q1), (.long q0), (.int (0 : Int32)), (.int (0 : Int32)), (.int (0 : Int32)), (.ref b7), (.ref b4), (.ref b1), .null])) (fun _ k => XS.iconst X26.here hx rfl (hb hby at_278) (XS.icmpYes X26.here hx rfl (pc0 := 279) (pc' := 292) rfl (hb hby at_279) rfl (flt (show ¬ ((2 : Int32) < (1 : Int32)) from (by decide))).2.2.2 (by decide) (by decide) (XS.iconst X26.here hx rfl (hb hby at_292) (XS.lloadN X26.here hx rfl (hb hby at_293) rfl (XS.lloadN X26.here hx rfl (hb hby at_294) rfl (XS.lload X26.here hx rfl (hb hby at_295) rfl k)))))) ?_
        obtain ⟨_, _, ⟨T27, L27, k27, n27⟩, -, X27, ⟨Lc27, hQ27, l27, y27, z27⟩, st27⟩ := Jvm.LawKit.callS X26 hx (y := (⟨"com/example/keys_to_structures/keystostructures/store/ExpiryQueueFirstPinLaw", "isFirst", "(Lcom/example/keys_to_structures/keystostructures/store/TimedEntry;Lcom/example/keys_to_structures/keystostructures/store/TimedEntry;Lcom/example/keys_to_structures/keystostructures/store/TimedEntry;Lcom/example/keys_to_structures/keystostructures/store/TimedEntry;ZZZJJJ)Z"⟩ : MethodName)) hown (mvT hZ (hw _ (List.mem_of_getElem? (i := 74) rfl))) (mvT hZ (hw _ (List.mem_of_getElem? (i := 75) rfl))) (mvT hZ (hw _ (List.mem_of_getElem? (i := 76) rfl))) (mvT hZ (hw _ (List.mem_of_getElem? (i := 77) rfl))) (by decide) (backOf (W := 0) (rmIsN l Z aV hw [] b1 b4 b7 q0 q1 q2 T25.heap n0 Zn ) hZ (hw _ (List.mem_of_getElem? (i := 77) rfl)) (hw _ (List.mem_of_getElem? (i := 76) rfl)) (by decide) (by decide)) (g := (mkF m 297 #[.val (.long q0), .second, .val (.long q1), .second, .val (.long q2), .second, .val (.int p3), .val (.int p4), .val (.int (1 : Int32)), .val (.ref b1), .val (.ref b4), .val (.ref b7), .val (.ref b10), .val (.ref b1), .val (.int (own_isF b1 b1 b4 b7 (1 : Int32) (0 : Int32) (0 : Int32) q0 q1 q2)), .val (.int (1 : Int32)), .val (.int (0 : Int32)), .val .null, .unset] [(.long q2), (.long q1), (.long q0), (.int (0 : Int32)), (.int (0 : Int32)), (.int (0 : Int32)), (.ref b7), (.ref b4), (.ref b1), .null])) rfl (by rw [hml]; rfl) (argsL := [.null, (.ref b1), (.ref b4), (.ref b7), (.int (0 : Int32)), (.int (0 : Int32)), (.int (0 : Int32)), (.long q0), (.long q1), (.long q2)]) (rest := []) (lenOf pd_9 rfl) rfl (by show 2 * 0 + _ ≤ _; exact Nat.le_of_eq rfl) (hb hby at_297) (fun _ _ => ⟨rfl, e26, (by decide : 8 + 0 ≤ _), (by decide : 36 + 0 ≤ _)⟩)
        dsimp only [Pt.U, Pt.locs, Pt.cells, Pt.slots] at X27 l27 y27 z27 st27 hQ27
        subst l27 y27 z27
        obtain ⟨rfl, N27q, e27⟩ := hQ27
        have N27 := Fr.app N26 N27q
        refine Run.st (S' := T27.setTop (mkF m 317 #[.val (.long q0), .second, .val (.long q1), .second, .val (.long q2), .second, .val (.int p3), .val (.int p4), .val (.int (1 : Int32)), .val (.ref b1), .val (.ref b4), .val (.ref b7), .val (.ref b10), .val (.ref b1), .val (.int (own_isF b1 b1 b4 b7 (1 : Int32) (0 : Int32) (0 : Int32) q0 q1 q2)), .val (.int (1 : Int32)), .val (.int (0 : Int32)), .val .null, .val (.int (1 : Int32))] [(.int (1 : Int32))])) (fun _ k => st27 _ (XS.istore X27.here hx rfl (hb hby at_300) rfl (l' := #[.val (.long q0), .second, .val (.long q1), .second, .val (.long q2), .second, .val (.int p3), .val (.int p4), .val (.int (1 : Int32)), .val (.ref b1), .val (.ref b4), .val (.ref b7), .val (.ref b10), .val (.ref b1), .val (.int (own_isF b1 b1 b4 b7 (1 : Int32) (0 : Int32) (0 : Int32) q0 q1 q2)), .val (.int (1 : Int32)), .val (.int (0 : Int32)), .val .null, .val (.int (1 : Int32))]) rfl (XS.iload X27.here hx rfl (hb hby at_302) rfl (XS.ifNo X27.here hx rfl (hb hby at_304) rfl ((if0 _ _).trans (feq (show ¬ ((own_isF b1 b1 b4 b7 (1 : Int32) (0 : Int32) (0 : Int32) q0 q1 q2) = (0 : Int32)) from (by rw [hv21]; decide))).1) (XS.iload X27.here hx rfl (hb hby at_307) rfl (XS.ifNo X27.here hx rfl (hb hby at_309) rfl ((if0 _ _).trans (feq (show ¬ ((1 : Int32) = (0 : Int32)) from (by decide))).1) (XS.iconst X27.here hx rfl (hb hby at_312) (XS.goto X27.here hx rfl (pc0 := 313) (pc' := 317) rfl (hb hby at_313) (by decide) (by decide) k)))))))) ?_
        refine Run.out X27 hx Bd.notSynchronized Bd.returns rfl (Or.inl ⟨rfl, by simp, _, rfl⟩) (hb hby at_317) (by decide) (by decide) ?_
        rw [e27]
        exact ⟨rfl, N27⟩
  · refine Run.st (S' := T11.setTop (mkF m 67 #[.val (.long q0), .second, .val (.long q1), .second, .val (.long q2), .second, .val (.int p3), .val (.int p4), .val (.int (2 : Int32)), .val (.ref b1), .val (.ref b4), .val (.ref b7), .val (.ref b10), .unset, .unset, .unset, .unset, .unset, .unset] [(.ref b1), (.ref b10)])) (fun _ k => XS.iload X11.here hx rfl (hb hby at_58) rfl (XS.ifNo X11.here hx rfl (hb hby at_60) rfl ((if0 _ _).trans (tlt (show (0 : Int32) < (2 : Int32) from (by decide))).2.2.2) (XS.aload X11.here hx rfl (hb hby at_63) rfl rfl (XS.aload X11.here hx rfl (hb hby at_65) rfl rfl k)))) ?_
    obtain ⟨cq28, kq28, q28a, q28b, q28c⟩ := isOf hZ rfl E_b10
    obtain ⟨_, _, ⟨T28, L28, k28, n28⟩, -, X28, ⟨Lc28, hQ28, l28, y28, z28⟩, st28⟩ := X11.virtualBack hx (y := (⟨"com/example/keys_to_structures/keystostructures/store/ExpiryQueue", "add", "(Lcom/example/keys_to_structures/keystostructures/store/TimedEntry;)V"⟩ : MethodName)) (z := (⟨"com/example/keys_to_structures/keystostructures/store/ExpiryQueue", "add", "(Lcom/example/keys_to_structures/keystostructures/store/TimedEntry;)V"⟩ : MethodName)) hown (mvT hZ (hw _ (List.mem_of_getElem? (i := 41) rfl))) (mvT hZ (hw _ (List.mem_of_getElem? (i := 42) rfl))) (notFace_of_selects (args := #[]) (mvT hZ (hw _ (List.mem_of_getElem? (i := 44) rfl)))) (mvT hZ (hw _ (List.mem_of_getElem? (i := 44) rfl))) (mvT hZ (hw _ (List.mem_of_getElem? (i := 43) rfl))) (by decide) (backOf (W := 0) (rmAd0 l Z aV hw [] b10 b1 b11 kb11 .null .null .null q0 (0 : Int32) T11.heap n0 Zn g_b10 g_b11 O_kb11 g_b1 E_b10 F_heap_b10 F_size_b10 V_b11 E_b1 F_deadline_b1 F_position_b1 ne_b10_b11 (Ne.symm ne_b1_b10) (Ne.symm ne_b1_b11)) hZ (hw _ (List.mem_of_getElem? (i := 45) rfl)) (hw _ (List.mem_of_getElem? (i := 32) rfl)) (by decide) (by decide)) q28a q28c (g := (mkF m 67 #[.val (.long q0), .second, .val (.long q1), .second, .val (.long q2), .second, .val (.int p3), .val (.int p4), .val (.int (2 : Int32)), .val (.ref b1), .val (.ref b4), .val (.ref b7), .val (.ref b10), .unset, .unset, .unset, .unset, .unset, .unset] [(.ref b1), (.ref b10)])) rfl (by rw [hml]; rfl) (Steps.refl _) (argsL := [(.ref b1)]) (rest := []) (lenOf pd_10 rfl) rfl (by show 2 * 0 + _ ≤ _; exact Nat.le_of_eq rfl) (hb hby at_67) (fun _ _ => ⟨rfl, rfl, (by decide : 8 + 0 ≤ _), (by decide : 36 + 0 ≤ _)⟩)
    dsimp only [Pt.U, Pt.locs, Pt.cells, Pt.slots] at X28 l28 y28 z28 st28 hQ28
    subst l28 y28 z28
    obtain ⟨rfl, N28q, K28, q28_0, q28_1, q28_2, q28_3, q28_4, q28_5, q28_6⟩ := hQ28
    have E_b4 := E_b4.keep K28
    have F_deadline_b4 := F_deadline_b4.keep K28 (ninS ne_b4_b10 (ninS ne_b4_b11 (ninS (Ne.symm ne_b1_b4) nin0)))
    have F_position_b4 := F_position_b4.keep K28 (ninS ne_b4_b10 (ninS ne_b4_b11 (ninS (Ne.symm ne_b1_b4) nin0)))
    have E_b7 := E_b7.keep K28
    have F_deadline_b7 := F_deadline_b7.keep K28 (ninS ne_b7_b10 (ninS ne_b7_b11 (ninS (Ne.symm ne_b1_b7) nin0)))
    have F_position_b7 := F_position_b7.keep K28 (ninS ne_b7_b10 (ninS ne_b7_b11 (ninS (Ne.symm ne_b1_b7) nin0)))
    have E_b10 := q28_0
    have F_heap_b10 := q28_1
    have F_size_b10 := q28_2
    have V_b11 := q28_3
    have E_b1 := q28_4
    have F_deadline_b1 := q28_5
    have F_position_b1 := q28_6
    have Kp := Kp.trans K28 (allS (Or.inr sz_b10) (allS (Or.inr sz_b11) (allS (Or.inr sz_b1) all0)))
    have Zn := Nat.le_trans Zn K28.1
    have N28 := Fr.app N11 N28q
    refine Run.st (S' := T28.setTop (mkF m 80 #[.val (.long q0), .second, .val (.long q1), .second, .val (.long q2), .second, .val (.int p3), .val (.int p4), .val (.int (2 : Int32)), .val (.ref b1), .val (.ref b4), .val (.ref b7), .val (.ref b10), .unset, .unset, .unset, .unset, .unset, .unset] [(.ref b4), (.ref b10)])) (fun _ k => st28.trans (XS.iload X28.here hx rfl (hb hby at_70) rfl (XS.iconst X28.here hx rfl (hb hby at_72) (XS.icmpNo X28.here hx rfl (hb hby at_73) rfl (tlt (show (1 : Int32) < (2 : Int32) from (by decide))).2.2.2 (XS.aload X28.here hx rfl (hb hby at_76) rfl rfl (XS.aload X28.here hx rfl (hb hby at_78) rfl rfl k)))))) ?_
    obtain ⟨cq29, kq29, q29a, q29b, q29c⟩ := isOf hZ rfl E_b10
    obtain ⟨_, _, ⟨T29, L29, k29, n29⟩, -, X29, ⟨Lc29, hQ29, l29, y29, z29⟩, st29⟩ := X28.virtualBack hx (y := (⟨"com/example/keys_to_structures/keystostructures/store/ExpiryQueue", "add", "(Lcom/example/keys_to_structures/keystostructures/store/TimedEntry;)V"⟩ : MethodName)) (z := (⟨"com/example/keys_to_structures/keystostructures/store/ExpiryQueue", "add", "(Lcom/example/keys_to_structures/keystostructures/store/TimedEntry;)V"⟩ : MethodName)) hown (mvT hZ (hw _ (List.mem_of_getElem? (i := 41) rfl))) (mvT hZ (hw _ (List.mem_of_getElem? (i := 42) rfl))) (notFace_of_selects (args := #[]) (mvT hZ (hw _ (List.mem_of_getElem? (i := 44) rfl)))) (mvT hZ (hw _ (List.mem_of_getElem? (i := 44) rfl))) (mvT hZ (hw _ (List.mem_of_getElem? (i := 43) rfl))) (by decide) (backOf (W := 0) (rmAd1c l Z aV hw [] b10 b4 b11 kb11 .null .null q1 (0 : Int32) b1 q0 T28.heap n0 Zn g_b10 g_b11 O_kb11 g_b4 g_b1 E_b10 F_heap_b10 F_size_b10 V_b11 E_b4 F_deadline_b4 F_position_b4 E_b1 F_deadline_b1 F_position_b1 ne_b10_b11 (Ne.symm ne_b4_b10) (Ne.symm ne_b1_b10) (Ne.symm ne_b4_b11) (Ne.symm ne_b1_b11) (Ne.symm ne_b1_b4)) hZ (hw _ (List.mem_of_getElem? (i := 45) rfl)) (hw _ (List.mem_of_getElem? (i := 32) rfl)) (by decide) (by decide)) q29a q29c (g := (mkF m 80 #[.val (.long q0), .second, .val (.long q1), .second, .val (.long q2), .second, .val (.int p3), .val (.int p4), .val (.int (2 : Int32)), .val (.ref b1), .val (.ref b4), .val (.ref b7), .val (.ref b10), .unset, .unset, .unset, .unset, .unset, .unset] [(.ref b4), (.ref b10)])) rfl (by rw [hml]; rfl) (Steps.refl _) (argsL := [(.ref b4)]) (rest := []) (lenOf pd_10 rfl) rfl (by show 2 * 0 + _ ≤ _; exact Nat.le_of_eq rfl) (hb hby at_80) (fun _ _ => ⟨rfl, rfl, (by decide : 8 + 0 ≤ _), (by decide : 36 + 0 ≤ _)⟩)
    dsimp only [Pt.U, Pt.locs, Pt.cells, Pt.slots] at X29 l29 y29 z29 st29 hQ29
    subst l29 y29 z29
    obtain ⟨y29_0, y29_1, dy29_0, dy29_1, rfl, N29q, K29, hp29, hl29_1, q29_0, q29_1, q29_2, q29_3, q29_4, q29_5, q29_6, q29_7, q29_8, q29_9⟩ := hQ29
    have ne_y29_0_b7 : y29_0 ≠ b7 := hp29.elim (fun q => by rw [q.1]; exact ne_b1_b7) (fun q => by rw [q.1]; exact ne_b4_b7)
    have ne_y29_0_b10 : y29_0 ≠ b10 := hp29.elim (fun q => by rw [q.1]; exact ne_b1_b10) (fun q => by rw [q.1]; exact ne_b4_b10)
    have ne_y29_0_b11 : y29_0 ≠ b11 := hp29.elim (fun q => by rw [q.1]; exact ne_b1_b11) (fun q => by rw [q.1]; exact ne_b4_b11)
    have g_y29_0 : n0 ≤ y29_0 := hp29.elim (fun q => by rw [q.1]; exact g_b1) (fun q => by rw [q.1]; exact g_b4)
    have sz_y29_0 : h0.size ≤ y29_0 := hp29.elim (fun q => by rw [q.1]; exact sz_b1) (fun q => by rw [q.1]; exact sz_b4)
    have ne_y29_1_b7 : y29_1 ≠ b7 := hp29.elim (fun q => by rw [q.2.1]; exact ne_b4_b7) (fun q => by rw [q.2.1]; exact ne_b1_b7)
    have ne_y29_1_b10 : y29_1 ≠ b10 := hp29.elim (fun q => by rw [q.2.1]; exact ne_b4_b10) (fun q => by rw [q.2.1]; exact ne_b1_b10)
    have ne_y29_1_b11 : y29_1 ≠ b11 := hp29.elim (fun q => by rw [q.2.1]; exact ne_b4_b11) (fun q => by rw [q.2.1]; exact ne_b1_b11)
    have ne_y29_0_y29_1 : y29_0 ≠ y29_1 := hp29.elim (fun q => by rw [q.1, q.2.1]; exact ne_b1_b4) (fun q => by rw [q.1, q.2.1]; exact (Ne.symm ne_b1_b4))
    have g_y29_1 : n0 ≤ y29_1 := hp29.elim (fun q => by rw [q.2.1]; exact g_b4) (fun q => by rw [q.2.1]; exact g_b1)
    have sz_y29_1 : h0.size ≤ y29_1 := hp29.elim (fun q => by rw [q.2.1]; exact sz_b4) (fun q => by rw [q.2.1]; exact sz_b1)
    have E_b7 := E_b7.keep K29
    have F_deadline_b7 := F_deadline_b7.keep K29 (ninS ne_b7_b10 (ninS ne_b7_b11 (ninS (Ne.symm ne_b4_b7) (ninS (Ne.symm ne_b1_b7) nin0))))
    have F_position_b7 := F_position_b7.keep K29 (ninS ne_b7_b10 (ninS ne_b7_b11 (ninS (Ne.symm ne_b4_b7) (ninS (Ne.symm ne_b1_b7) nin0))))
    have E_b10 := q29_0
    have F_heap_b10 := q29_1
    have F_size_b10 := q29_2
    have V_b11 := q29_3
    have E_y29_0 := q29_4
    have F_d_y29_0 := q29_5
    have F_p_y29_0 := q29_6
    have E_y29_1 := q29_7
    have F_d_y29_1 := q29_8
    have F_p_y29_1 := q29_9
    have Kp := Kp.trans K29 (allS (Or.inr sz_b10) (allS (Or.inr sz_b11) (allS (Or.inr sz_b4) (allS (Or.inr sz_b1) all0))))
    have Zn := Nat.le_trans Zn K29.1
    have N29 := Fr.app N28 N29q
    refine Run.st (S' := T29.setTop (mkF m 98 #[.val (.long q0), .second, .val (.long q1), .second, .val (.long q2), .second, .val (.int p3), .val (.int p4), .val (.int (2 : Int32)), .val (.ref b1), .val (.ref b4), .val (.ref b7), .val (.ref b10), .unset, .unset, .unset, .unset, .unset, .unset] [(.ref b10)])) (fun _ k => st29.trans (XS.iload X29.here hx rfl (hb hby at_83) rfl (XS.iconst X29.here hx rfl (hb hby at_85) (XS.icmpYes X29.here hx rfl (pc0 := 86) (pc' := 96) rfl (hb hby at_86) rfl (flt (show ¬ ((2 : Int32) < (2 : Int32)) from (by decide))).2.2.2 (by decide) (by decide) (XS.aload X29.here hx rfl (hb hby at_96) rfl rfl k))))) ?_
    obtain ⟨cq30, kq30, q30a, q30b, q30c⟩ := isOf hZ rfl E_b10
    obtain ⟨_, _, ⟨T30, L30, k30, n30⟩, -, X30, ⟨Lc30, hQ30, l30, y30, z30⟩, st30⟩ := X29.virtualBack hx (y := (⟨"com/example/keys_to_structures/keystostructures/store/ExpiryQueue", "first", "()Lcom/example/keys_to_structures/keystostructures/store/TimedEntry;"⟩ : MethodName)) (z := (⟨"com/example/keys_to_structures/keystostructures/store/ExpiryQueue", "first", "()Lcom/example/keys_to_structures/keystostructures/store/TimedEntry;"⟩ : MethodName)) hown (mvT hZ (hw _ (List.mem_of_getElem? (i := 69) rfl))) (mvT hZ (hw _ (List.mem_of_getElem? (i := 70) rfl))) (notFace_of_selects (args := #[]) (mvT hZ (hw _ (List.mem_of_getElem? (i := 72) rfl)))) (mvT hZ (hw _ (List.mem_of_getElem? (i := 72) rfl))) (mvT hZ (hw _ (List.mem_of_getElem? (i := 71) rfl))) (by decide) (backOf (W := 0) (rmFi2 l Z aV hw [] b10 b11 kb11 y29_0 (.ref y29_1) .null T29.heap n0 Zn F_heap_b10 F_size_b10 V_b11) hZ (hw _ (List.mem_of_getElem? (i := 73) rfl)) (hw _ (List.mem_of_getElem? (i := 32) rfl)) (by decide) (by decide)) q30a q30c (g := (mkF m 98 #[.val (.long q0), .second, .val (.long q1), .second, .val (.long q2), .second, .val (.int p3), .val (.int p4), .val (.int (2 : Int32)), .val (.ref b1), .val (.ref b4), .val (.ref b7), .val (.ref b10), .unset, .unset, .unset, .unset, .unset, .unset] [(.ref b10)])) rfl (by rw [hml]; rfl) (Steps.refl _) (argsL := []) (rest := []) (lenOf pd_8 rfl) rfl (by show 2 * 0 + _ ≤ _; exact Nat.le_of_eq rfl) (hb hby at_98) (fun _ _ => ⟨rfl, rfl, (by decide : 8 + 0 ≤ _), (by decide : 36 + 0 ≤ _)⟩)
    dsimp only [Pt.U, Pt.locs, Pt.cells, Pt.slots] at X30 l30 y30 z30 st30 hQ30
    subst l30 y30 z30
    obtain ⟨rfl, N30q, e30⟩ := hQ30
    have N30 := Fr.app N29 N30q
    refine Run.st (S' := T30.setTop (mkF m 116 #[.val (.long q0), .second, .val (.long q1), .second, .val (.long q2), .second, .val (.int p3), .val (.int p4), .val (.int (2 : Int32)), .val (.ref b1), .val (.ref b4), .val (.ref b7), .val (.ref b10), .val (.ref y29_0), .unset, .unset, .unset, .unset, .unset] [(.ref b7), (.ref b4), (.ref b1), (.ref y29_0)])) (fun _ k => st30.trans (XS.astore X30.here hx rfl (hb hby at_101) rfl rfl (l' := #[.val (.long q0), .second, .val (.long q1), .second, .val (.long q2), .second, .val (.int p3), .val (.int p4), .val (.int (2 : Int32)), .val (.ref b1), .val (.ref b4), .val (.ref b7), .val (.ref b10), .val (.ref y29_0), .unset, .unset, .unset, .unset, .unset]) rfl (XS.aload X30.here hx rfl (hb hby at_103) rfl rfl (XS.aload X30.here hx rfl (hb hby at_105) rfl rfl (XS.aload X30.here hx rfl (hb hby at_107) rfl rfl (XS.aload X30.here hx rfl (hb hby at_109) rfl rfl (XS.iload X30.here hx rfl (hb hby at_111) rfl (XS.ifNo X30.here hx rfl (hb hby at_113) rfl ((if0 _ _).trans (tlt (show (0 : Int32) < (2 : Int32) from (by decide))).2.2.2) k)))))))) ?_
    refine Run.st (S' := T30.setTop (mkF m 134 #[.val (.long q0), .second, .val (.long q1), .second, .val (.long q2), .second, .val (.int p3), .val (.int p4), .val (.int (2 : Int32)), .val (.ref b1), .val (.ref b4), .val (.ref b7), .val (.ref b10), .val (.ref y29_0), .unset, .unset, .unset, .unset, .unset] [(.int (2 : Int32)), (.int (1 : Int32)), (.int (1 : Int32)), (.ref b7), (.ref b4), (.ref b1), (.ref y29_0)])) (fun _ k => XS.iconst X30.here hx rfl (hb hby at_116) (XS.goto X30.here hx rfl (pc0 := 117) (pc' := 121) rfl (hb hby at_117) (by decide) (by decide) (XS.iload X30.here hx rfl (hb hby at_121) rfl (XS.iconst X30.here hx rfl (hb hby at_123) (XS.icmpNo X30.here hx rfl (hb hby at_124) rfl (tlt (show (1 : Int32) < (2 : Int32) from (by decide))).2.2.2 (XS.iconst X30.here hx rfl (hb hby at_127) (XS.goto X30.here hx rfl (pc0 := 128) (pc' := 132) rfl (hb hby at_128) (by decide) (by decide) (XS.iload X30.here hx rfl (hb hby at_132) rfl k)))))))) ?_
    refine Run.st (S' := T30.setTop (mkF m 147 #[.val (.long q0), .second, .val (.long q1), .second, .val (.long q2), .second, .val (.int p3), .val (.int p4), .val (.int (2 : Int32)), .val (.ref b1), .val (.ref b4), .val (.ref b7), .val (.ref b10), .val (.ref y29_0), .unset, .unset, .unset, .unset, .unset] [(.long q2), (.long q1), (.long q0), (.int (0 : Int32)), (.int (1 : Int32)), (.int (1 : Int32)), (.ref b7), (.ref b4), (.ref b1), (.ref y29_0)])) (fun _ k => XS.iconst X30.here hx rfl (hb hby at_134) (XS.icmpYes X30.here hx rfl (pc0 := 135) (pc' := 142) rfl (hb hby at_135) rfl (flt (show ¬ ((2 : Int32) < (2 : Int32)) from (by decide))).2.2.2 (by decide) (by decide) (XS.iconst X30.here hx rfl (hb hby at_142) (XS.lloadN X30.here hx rfl (hb hby at_143) rfl (XS.lloadN X30.here hx rfl (hb hby at_144) rfl (XS.lload X30.here hx rfl (hb hby at_145) rfl k)))))) ?_
    obtain ⟨_, _, ⟨T31, L31, k31, n31⟩, -, X31, ⟨Lc31, hQ31, l31, y31, z31⟩, st31⟩ := Jvm.LawKit.callS X30 hx (y := (⟨"com/example/keys_to_structures/keystostructures/store/ExpiryQueueFirstPinLaw", "isFirst", "(Lcom/example/keys_to_structures/keystostructures/store/TimedEntry;Lcom/example/keys_to_structures/keystostructures/store/TimedEntry;Lcom/example/keys_to_structures/keystostructures/store/TimedEntry;Lcom/example/keys_to_structures/keystostructures/store/TimedEntry;ZZZJJJ)Z"⟩ : MethodName)) hown (mvT hZ (hw _ (List.mem_of_getElem? (i := 74) rfl))) (mvT hZ (hw _ (List.mem_of_getElem? (i := 75) rfl))) (mvT hZ (hw _ (List.mem_of_getElem? (i := 76) rfl))) (mvT hZ (hw _ (List.mem_of_getElem? (i := 77) rfl))) (by decide) (backOf (W := 0) (rmIsF l Z aV hw [] y29_0 b1 b4 b7 (1 : Int32) (1 : Int32) (0 : Int32) q0 q1 q2 T29.heap n0 Zn (by decide)) hZ (hw _ (List.mem_of_getElem? (i := 77) rfl)) (hw _ (List.mem_of_getElem? (i := 76) rfl)) (by decide) (by decide)) (g := (mkF m 147 #[.val (.long q0), .second, .val (.long q1), .second, .val (.long q2), .second, .val (.int p3), .val (.int p4), .val (.int (2 : Int32)), .val (.ref b1), .val (.ref b4), .val (.ref b7), .val (.ref b10), .val (.ref y29_0), .unset, .unset, .unset, .unset, .unset] [(.long q2), (.long q1), (.long q0), (.int (0 : Int32)), (.int (1 : Int32)), (.int (1 : Int32)), (.ref b7), (.ref b4), (.ref b1), (.ref y29_0)])) rfl (by rw [hml]; rfl) (argsL := [(.ref y29_0), (.ref b1), (.ref b4), (.ref b7), (.int (1 : Int32)), (.int (1 : Int32)), (.int (0 : Int32)), (.long q0), (.long q1), (.long q2)]) (rest := []) (lenOf pd_9 rfl) rfl (by show 2 * 0 + _ ≤ _; exact Nat.le_of_eq rfl) (hb hby at_147) (fun _ _ => ⟨rfl, e30, (by decide : 8 + 0 ≤ _), (by decide : 36 + 0 ≤ _)⟩)
    dsimp only [Pt.U, Pt.locs, Pt.cells, Pt.slots] at X31 l31 y31 z31 st31 hQ31
    subst l31 y31 z31
    obtain ⟨rfl, N31q, e31⟩ := hQ31
    have N31 := Fr.app N30 N31q
    have hv31 : (own_isF y29_0 b1 b4 b7 (1 : Int32) (1 : Int32) (0 : Int32) q0 q1 q2) = (1 : Int32) := own_L2 _ _ _ _ _ _ _ _ _ _ hp29 hl29_1
    refine Run.st (S' := T31.setTop (mkF m 156 #[.val (.long q0), .second, .val (.long q1), .second, .val (.long q2), .second, .val (.int p3), .val (.int p4), .val (.int (2 : Int32)), .val (.ref b1), .val (.ref b4), .val (.ref b7), .val (.ref b10), .val (.ref y29_0), .val (.int (own_isF y29_0 b1 b4 b7 (1 : Int32) (1 : Int32) (0 : Int32) q0 q1 q2)), .unset, .unset, .unset, .unset] [(.int (p4 &&& (4 : Int32)))])) (fun _ k => st31 _ (XS.istore X31.here hx rfl (hb hby at_150) rfl (l' := #[.val (.long q0), .second, .val (.long q1), .second, .val (.long q2), .second, .val (.int p3), .val (.int p4), .val (.int (2 : Int32)), .val (.ref b1), .val (.ref b4), .val (.ref b7), .val (.ref b10), .val (.ref y29_0), .val (.int (own_isF y29_0 b1 b4 b7 (1 : Int32) (1 : Int32) (0 : Int32) q0 q1 q2)), .unset, .unset, .unset, .unset]) rfl (XS.iload X31.here hx rfl (hb hby at_152) rfl (XS.iconst X31.here hx rfl (hb hby at_154) (XS.iand X31.here hx rfl (hb hby at_155) rfl k))))) ?_
    by_cases hc156_32 : (p4 &&& (4 : Int32)) = (0 : Int32)
    · refine Run.st (S' := T31.setTop (mkF m 231 #[.val (.long q0), .second, .val (.long q1), .second, .val (.long q2), .second, .val (.int p3), .val (.int p4), .val (.int (2 : Int32)), .val (.ref b1), .val (.ref b4), .val (.ref b7), .val (.ref b10), .val (.ref y29_0), .val (.int (own_isF y29_0 b1 b4 b7 (1 : Int32) (1 : Int32) (0 : Int32) q0 q1 q2)), .val (.int (0 : Int32)), .val (.int (-1 : Int32)), .unset, .unset] [(.ref b10)])) (fun _ k => XS.ifYes X31.here hx rfl (pc0 := 156) (pc' := 168) rfl (hb hby at_156) rfl ((if0 _ _).trans (teq hc156_32).1) (by decide) (by decide) (XS.iconst X31.here hx rfl (hb hby at_168) (XS.istore X31.here hx rfl (hb hby at_169) rfl (l' := #[.val (.long q0), .second, .val (.long q1), .second, .val (.long q2), .second, .val (.int p3), .val (.int p4), .val (.int (2 : Int32)), .val (.ref b1), .val (.ref b4), .val (.ref b7), .val (.ref b10), .val (.ref y29_0), .val (.int (own_isF y29_0 b1 b4 b7 (1 : Int32) (1 : Int32) (0 : Int32) q0 q1 q2)), .val (.int (0 : Int32)), .unset, .unset, .unset]) rfl (XS.iconst X31.here hx rfl (hb hby at_171) (XS.istore X31.here hx rfl (hb hby at_172) rfl (l' := #[.val (.long q0), .second, .val (.long q1), .second, .val (.long q2), .second, .val (.int p3), .val (.int p4), .val (.int (2 : Int32)), .val (.ref b1), .val (.ref b4), .val (.ref b7), .val (.ref b10), .val (.ref y29_0), .val (.int (own_isF y29_0 b1 b4 b7 (1 : Int32) (1 : Int32) (0 : Int32) q0 q1 q2)), .val (.int (0 : Int32)), .val (.int (-1 : Int32)), .unset, .unset]) rfl (XS.iload X31.here hx rfl (hb hby at_174) rfl (XS.ifYes X31.here hx rfl (pc0 := 176) (pc' := 229) rfl (hb hby at_176) rfl ((if0 _ _).trans (teq (show (0 : Int32) = (0 : Int32) from (by decide))).1) (by decide) (by decide) (XS.aload X31.here hx rfl (hb hby at_229) rfl rfl k)))))))) ?_
      obtain ⟨cq33, kq33, q33a, q33b, q33c⟩ := isOf hZ e31 E_b10
      obtain ⟨_, _, ⟨T33, L33, k33, n33⟩, -, X33, ⟨Lc33, hQ33, l33, y33, z33⟩, st33⟩ := X31.virtualBack hx (y := (⟨"com/example/keys_to_structures/keystostructures/store/ExpiryQueue", "first", "()Lcom/example/keys_to_structures/keystostructures/store/TimedEntry;"⟩ : MethodName)) (z := (⟨"com/example/keys_to_structures/keystostructures/store/ExpiryQueue", "first", "()Lcom/example/keys_to_structures/keystostructures/store/TimedEntry;"⟩ : MethodName)) hown (mvT hZ (hw _ (List.mem_of_getElem? (i := 69) rfl))) (mvT hZ (hw _ (List.mem_of_getElem? (i := 70) rfl))) (notFace_of_selects (args := #[]) (mvT hZ (hw _ (List.mem_of_getElem? (i := 72) rfl)))) (mvT hZ (hw _ (List.mem_of_getElem? (i := 72) rfl))) (mvT hZ (hw _ (List.mem_of_getElem? (i := 71) rfl))) (by decide) (backOf (W := 0) (rmFi2 l Z aV hw [] b10 b11 kb11 y29_0 (.ref y29_1) .null T29.heap n0 Zn F_heap_b10 F_size_b10 V_b11) hZ (hw _ (List.mem_of_getElem? (i := 73) rfl)) (hw _ (List.mem_of_getElem? (i := 32) rfl)) (by decide) (by decide)) q33a q33c (g := (mkF m 231 #[.val (.long q0), .second, .val (.long q1), .second, .val (.long q2), .second, .val (.int p3), .val (.int p4), .val (.int (2 : Int32)), .val (.ref b1), .val (.ref b4), .val (.ref b7), .val (.ref b10), .val (.ref y29_0), .val (.int (own_isF y29_0 b1 b4 b7 (1 : Int32) (1 : Int32) (0 : Int32) q0 q1 q2)), .val (.int (0 : Int32)), .val (.int (-1 : Int32)), .unset, .unset] [(.ref b10)])) rfl (by rw [hml]; rfl) (Steps.refl _) (argsL := []) (rest := []) (lenOf pd_8 rfl) rfl (by show 2 * 0 + _ ≤ _; exact Nat.le_of_eq rfl) (hb hby at_231) (fun _ _ => ⟨rfl, e31, (by decide : 8 + 0 ≤ _), (by decide : 36 + 0 ≤ _)⟩)
      dsimp only [Pt.U, Pt.locs, Pt.cells, Pt.slots] at X33 l33 y33 z33 st33 hQ33
      subst l33 y33 z33
      obtain ⟨rfl, N33q, e33⟩ := hQ33
      have N33 := Fr.app N31 N33q
      refine Run.st (S' := T33.setTop (mkF m 249 #[.val (.long q0), .second, .val (.long q1), .second, .val (.long q2), .second, .val (.int p3), .val (.int p4), .val (.int (2 : Int32)), .val (.ref b1), .val (.ref b4), .val (.ref b7), .val (.ref b10), .val (.ref y29_0), .val (.int (own_isF y29_0 b1 b4 b7 (1 : Int32) (1 : Int32) (0 : Int32) q0 q1 q2)), .val (.int (0 : Int32)), .val (.int (-1 : Int32)), .val (.ref y29_0), .unset] [(.ref b7), (.ref b4), (.ref b1), (.ref y29_0)])) (fun _ k => st33.trans (XS.astore X33.here hx rfl (hb hby at_234) rfl rfl (l' := #[.val (.long q0), .second, .val (.long q1), .second, .val (.long q2), .second, .val (.int p3), .val (.int p4), .val (.int (2 : Int32)), .val (.ref b1), .val (.ref b4), .val (.ref b7), .val (.ref b10), .val (.ref y29_0), .val (.int (own_isF y29_0 b1 b4 b7 (1 : Int32) (1 : Int32) (0 : Int32) q0 q1 q2)), .val (.int (0 : Int32)), .val (.int (-1 : Int32)), .val (.ref y29_0), .unset]) rfl (XS.aload X33.here hx rfl (hb hby at_236) rfl rfl (XS.aload X33.here hx rfl (hb hby at_238) rfl rfl (XS.aload X33.here hx rfl (hb hby at_240) rfl rfl (XS.aload X33.here hx rfl (hb hby at_242) rfl rfl (XS.iload X33.here hx rfl (hb hby at_244) rfl (XS.ifNo X33.here hx rfl (hb hby at_246) rfl ((if0 _ _).trans (tlt (show (0 : Int32) < (2 : Int32) from (by decide))).2.2.2) k)))))))) ?_
      refine Run.st (S' := T33.setTop (mkF m 267 #[.val (.long q0), .second, .val (.long q1), .second, .val (.long q2), .second, .val (.int p3), .val (.int p4), .val (.int (2 : Int32)), .val (.ref b1), .val (.ref b4), .val (.ref b7), .val (.ref b10), .val (.ref y29_0), .val (.int (own_isF y29_0 b1 b4 b7 (1 : Int32) (1 : Int32) (0 : Int32) q0 q1 q2)), .val (.int (0 : Int32)), .val (.int (-1 : Int32)), .val (.ref y29_0), .unset] [(.int (-1 : Int32)), (.int (1 : Int32)), (.ref b7), (.ref b4), (.ref b1), (.ref y29_0)])) (fun _ k => XS.iload X33.here hx rfl (hb hby at_249) rfl (XS.ifNo X33.here hx rfl (hb hby at_251) rfl ((if0 _ _).trans (feq (show ¬ ((-1 : Int32) = (0 : Int32)) from (by decide))).1) (XS.iconst X33.here hx rfl (hb hby at_254) (XS.goto X33.here hx rfl (pc0 := 255) (pc' := 259) rfl (hb hby at_255) (by decide) (by decide) (XS.iload X33.here hx rfl (hb hby at_259) rfl (XS.iconst X33.here hx rfl (hb hby at_261) (XS.icmpNo X33.here hx rfl (hb hby at_262) rfl (tlt (show (1 : Int32) < (2 : Int32) from (by decide))).2.2.2 (XS.iload X33.here hx rfl (hb hby at_265) rfl k)))))))) ?_
      refine Run.st (S' := T33.setTop (mkF m 293 #[.val (.long q0), .second, .val (.long q1), .second, .val (.long q2), .second, .val (.int p3), .val (.int p4), .val (.int (2 : Int32)), .val (.ref b1), .val (.ref b4), .val (.ref b7), .val (.ref b10), .val (.ref y29_0), .val (.int (own_isF y29_0 b1 b4 b7 (1 : Int32) (1 : Int32) (0 : Int32) q0 q1 q2)), .val (.int (0 : Int32)), .val (.int (-1 : Int32)), .val (.ref y29_0), .unset] [(.int (0 : Int32)), (.int (1 : Int32)), (.int (1 : Int32)), (.ref b7), (.ref b4), (.ref b1), (.ref y29_0)])) (fun _ k => XS.iconst X33.here hx rfl (hb hby at_267) (XS.icmpNo X33.here hx rfl (hb hby at_268) rfl (feq (show ¬ ((-1 : Int32) = (1 : Int32)) from (by decide))).1 (XS.iconst X33.here hx rfl (hb hby at_271) (XS.goto X33.here hx rfl (pc0 := 272) (pc' := 276) rfl (hb hby at_272) (by decide) (by decide) (XS.iload X33.here hx rfl (hb hby at_276) rfl (XS.iconst X33.here hx rfl (hb hby at_278) (XS.icmpYes X33.here hx rfl (pc0 := 279) (pc' := 292) rfl (hb hby at_279) rfl (flt (show ¬ ((2 : Int32) < (2 : Int32)) from (by decide))).2.2.2 (by decide) (by decide) (XS.iconst X33.here hx rfl (hb hby at_292) k)))))))) ?_
      refine Run.st (S' := T33.setTop (mkF m 297 #[.val (.long q0), .second, .val (.long q1), .second, .val (.long q2), .second, .val (.int p3), .val (.int p4), .val (.int (2 : Int32)), .val (.ref b1), .val (.ref b4), .val (.ref b7), .val (.ref b10), .val (.ref y29_0), .val (.int (own_isF y29_0 b1 b4 b7 (1 : Int32) (1 : Int32) (0 : Int32) q0 q1 q2)), .val (.int (0 : Int32)), .val (.int (-1 : Int32)), .val (.ref y29_0), .unset] [(.long q2), (.long q1), (.long q0), (.int (0 : Int32)), (.int (1 : Int32)), (.int (1 : Int32)), (.ref b7), (.ref b4), (.ref b1), (.ref y29_0)])) (fun _ k => XS.lloadN X33.here hx rfl (hb hby at_293) rfl (XS.lloadN X33.here hx rfl (hb hby at_294) rfl (XS.lload X33.here hx rfl (hb hby at_295) rfl k))) ?_
      obtain ⟨_, _, ⟨T34, L34, k34, n34⟩, -, X34, ⟨Lc34, hQ34, l34, y34, z34⟩, st34⟩ := Jvm.LawKit.callS X33 hx (y := (⟨"com/example/keys_to_structures/keystostructures/store/ExpiryQueueFirstPinLaw", "isFirst", "(Lcom/example/keys_to_structures/keystostructures/store/TimedEntry;Lcom/example/keys_to_structures/keystostructures/store/TimedEntry;Lcom/example/keys_to_structures/keystostructures/store/TimedEntry;Lcom/example/keys_to_structures/keystostructures/store/TimedEntry;ZZZJJJ)Z"⟩ : MethodName)) hown (mvT hZ (hw _ (List.mem_of_getElem? (i := 74) rfl))) (mvT hZ (hw _ (List.mem_of_getElem? (i := 75) rfl))) (mvT hZ (hw _ (List.mem_of_getElem? (i := 76) rfl))) (mvT hZ (hw _ (List.mem_of_getElem? (i := 77) rfl))) (by decide) (backOf (W := 0) (rmIsF l Z aV hw [] y29_0 b1 b4 b7 (1 : Int32) (1 : Int32) (0 : Int32) q0 q1 q2 T29.heap n0 Zn (by decide)) hZ (hw _ (List.mem_of_getElem? (i := 77) rfl)) (hw _ (List.mem_of_getElem? (i := 76) rfl)) (by decide) (by decide)) (g := (mkF m 297 #[.val (.long q0), .second, .val (.long q1), .second, .val (.long q2), .second, .val (.int p3), .val (.int p4), .val (.int (2 : Int32)), .val (.ref b1), .val (.ref b4), .val (.ref b7), .val (.ref b10), .val (.ref y29_0), .val (.int (own_isF y29_0 b1 b4 b7 (1 : Int32) (1 : Int32) (0 : Int32) q0 q1 q2)), .val (.int (0 : Int32)), .val (.int (-1 : Int32)), .val (.ref y29_0), .unset] [(.long q2), (.long q1), (.long q0), (.int (0 : Int32)), (.int (1 : Int32)), (.int (1 : Int32)), (.ref b7), (.ref b4), (.ref b1), (.ref y29_0)])) rfl (by rw [hml]; rfl) (argsL := [(.ref y29_0), (.ref b1), (.ref b4), (.ref b7), (.int (1 : Int32)), (.int (1 : Int32)), (.int (0 : Int32)), (.long q0), (.long q1), (.long q2)]) (rest := []) (lenOf pd_9 rfl) rfl (by show 2 * 0 + _ ≤ _; exact Nat.le_of_eq rfl) (hb hby at_297) (fun _ _ => ⟨rfl, e33, (by decide : 8 + 0 ≤ _), (by decide : 36 + 0 ≤ _)⟩)
      dsimp only [Pt.U, Pt.locs, Pt.cells, Pt.slots] at X34 l34 y34 z34 st34 hQ34
      subst l34 y34 z34
      obtain ⟨rfl, N34q, e34⟩ := hQ34
      have N34 := Fr.app N33 N34q
      refine Run.st (S' := T34.setTop (mkF m 317 #[.val (.long q0), .second, .val (.long q1), .second, .val (.long q2), .second, .val (.int p3), .val (.int p4), .val (.int (2 : Int32)), .val (.ref b1), .val (.ref b4), .val (.ref b7), .val (.ref b10), .val (.ref y29_0), .val (.int (own_isF y29_0 b1 b4 b7 (1 : Int32) (1 : Int32) (0 : Int32) q0 q1 q2)), .val (.int (0 : Int32)), .val (.int (-1 : Int32)), .val (.ref y29_0), .val (.int (own_isF y29_0 b1 b4 b7 (1 : Int32) (1 : Int32) (0 : Int32) q0 q1 q2))] [(.int (1 : Int32))])) (fun _ k => st34 _ (XS.istore X34.here hx rfl (hb hby at_300) rfl (l' := #[.val (.long q0), .second, .val (.long q1), .second, .val (.long q2), .second, .val (.int p3), .val (.int p4), .val (.int (2 : Int32)), .val (.ref b1), .val (.ref b4), .val (.ref b7), .val (.ref b10), .val (.ref y29_0), .val (.int (own_isF y29_0 b1 b4 b7 (1 : Int32) (1 : Int32) (0 : Int32) q0 q1 q2)), .val (.int (0 : Int32)), .val (.int (-1 : Int32)), .val (.ref y29_0), .val (.int (own_isF y29_0 b1 b4 b7 (1 : Int32) (1 : Int32) (0 : Int32) q0 q1 q2))]) rfl (XS.iload X34.here hx rfl (hb hby at_302) rfl (XS.ifNo X34.here hx rfl (hb hby at_304) rfl ((if0 _ _).trans (feq (show ¬ ((own_isF y29_0 b1 b4 b7 (1 : Int32) (1 : Int32) (0 : Int32) q0 q1 q2) = (0 : Int32)) from (by rw [hv31]; decide))).1) (XS.iload X34.here hx rfl (hb hby at_307) rfl (XS.ifNo X34.here hx rfl (hb hby at_309) rfl ((if0 _ _).trans (feq (show ¬ ((own_isF y29_0 b1 b4 b7 (1 : Int32) (1 : Int32) (0 : Int32) q0 q1 q2) = (0 : Int32)) from (by rw [hv31]; decide))).1) (XS.iconst X34.here hx rfl (hb hby at_312) (XS.goto X34.here hx rfl (pc0 := 313) (pc' := 317) rfl (hb hby at_313) (by decide) (by decide) k)))))))) ?_
      refine Run.out X34 hx Bd.notSynchronized Bd.returns rfl (Or.inl ⟨rfl, by simp, _, rfl⟩) (hb hby at_317) (by decide) (by decide) ?_
      rw [e34]
      exact ⟨rfl, N34⟩
    · refine Run.st (S' := T31.setTop (mkF m 174 #[.val (.long q0), .second, .val (.long q1), .second, .val (.long q2), .second, .val (.int p3), .val (.int p4), .val (.int (2 : Int32)), .val (.ref b1), .val (.ref b4), .val (.ref b7), .val (.ref b10), .val (.ref y29_0), .val (.int (own_isF y29_0 b1 b4 b7 (1 : Int32) (1 : Int32) (0 : Int32) q0 q1 q2)), .val (.int (1 : Int32)), .val (.int (-1 : Int32)), .unset, .unset] [])) (fun _ k => XS.ifNo X31.here hx rfl (hb hby at_156) rfl ((if0 _ _).trans (feq hc156_32).1) (XS.iload X31.here hx rfl (hb hby at_159) rfl (XS.ifNo X31.here hx rfl (hb hby at_161) rfl ((if0 _ _).trans (tlt (show (0 : Int32) < (2 : Int32) from (by decide))).2.2.2) (XS.iconst X31.here hx rfl (hb hby at_164) (XS.goto X31.here hx rfl (pc0 := 165) (pc' := 169) rfl (hb hby at_165) (by decide) (by decide) (XS.istore X31.here hx rfl (hb hby at_169) rfl (l' := #[.val (.long q0), .second, .val (.long q1), .second, .val (.long q2), .second, .val (.int p3), .val (.int p4), .val (.int (2 : Int32)), .val (.ref b1), .val (.ref b4), .val (.ref b7), .val (.ref b10), .val (.ref y29_0), .val (.int (own_isF y29_0 b1 b4 b7 (1 : Int32) (1 : Int32) (0 : Int32) q0 q1 q2)), .val (.int (1 : Int32)), .unset, .unset, .unset]) rfl (XS.iconst X31.here hx rfl (hb hby at_171) (XS.istore X31.here hx rfl (hb hby at_172) rfl (l' := #[.val (.long q0), .second, .val (.long q1), .second, .val (.long q2), .second, .val (.int p3), .val (.int p4), .val (.int (2 : Int32)), .val (.ref b1), .val (.ref b4), .val (.ref b7), .val (.ref b10), .val (.ref y29_0), .val (.int (own_isF y29_0 b1 b4 b7 (1 : Int32) (1 : Int32) (0 : Int32) q0 q1 q2)), .val (.int (1 : Int32)), .val (.int (-1 : Int32)), .unset, .unset]) rfl k)))))))) ?_
      refine Run.st (S' := T31.setTop (mkF m 188 #[.val (.long q0), .second, .val (.long q1), .second, .val (.long q2), .second, .val (.int p3), .val (.int p4), .val (.int (2 : Int32)), .val (.ref b1), .val (.ref b4), .val (.ref b7), .val (.ref b10), .val (.ref y29_0), .val (.int (own_isF y29_0 b1 b4 b7 (1 : Int32) (1 : Int32) (0 : Int32) q0 q1 q2)), .val (.int (1 : Int32)), .val (.int (-1 : Int32)), .unset, .unset] [(.int (2 : Int32)), (.int (((p4.toUInt32 >>> ((3 : Int32) &&& 31).toUInt32).toInt32) &&& (2147483647 : Int32)))])) (fun _ k => XS.iload X31.here hx rfl (hb hby at_174) rfl (XS.ifNo X31.here hx rfl (hb hby at_176) rfl ((if0 _ _).trans (feq (show ¬ ((1 : Int32) = (0 : Int32)) from (by decide))).1) (XS.iload X31.here hx rfl (hb hby at_179) rfl (XS.iconst X31.here hx rfl (hb hby at_181) (XS.iushr X31.here hx rfl (hb hby at_182) rfl (X31.ldcInt hx hown (mvT hZ (hw _ (List.mem_of_getElem? (i := 79) rfl))) (g := (mkF m 183 #[.val (.long q0), .second, .val (.long q1), .second, .val (.long q2), .second, .val (.int p3), .val (.int p4), .val (.int (2 : Int32)), .val (.ref b1), .val (.ref b4), .val (.ref b7), .val (.ref b10), .val (.ref y29_0), .val (.int (own_isF y29_0 b1 b4 b7 (1 : Int32) (1 : Int32) (0 : Int32) q0 q1 q2)), .val (.int (1 : Int32)), .val (.int (-1 : Int32)), .unset, .unset] [(.int ((p4.toUInt32 >>> ((3 : Int32) &&& 31).toUInt32).toInt32))])) rfl (hb hby at_183) _ (XS.iand X31.here hx rfl (hb hby at_185) rfl (XS.iload X31.here hx rfl (hb hby at_186) rfl k)))))))) ?_
      refine Run.st (S' := T31.setTop (mkF m 191 #[.val (.long q0), .second, .val (.long q1), .second, .val (.long q2), .second, .val (.int p3), .val (.int p4), .val (.int (2 : Int32)), .val (.ref b1), .val (.ref b4), .val (.ref b7), .val (.ref b10), .val (.ref y29_0), .val (.int (own_isF y29_0 b1 b4 b7 (1 : Int32) (1 : Int32) (0 : Int32) q0 q1 q2)), .val (.int (1 : Int32)), .val (.int ((((p4.toUInt32 >>> ((3 : Int32) &&& 31).toUInt32).toInt32) &&& (2147483647 : Int32)) % (2 : Int32))), .unset, .unset] [])) (fun _ k => iremM X31 hx rfl (hb hby at_188) rfl (by decide) (XS.istore X31.here hx rfl (hb hby at_189) rfl (l' := #[.val (.long q0), .second, .val (.long q1), .second, .val (.long q2), .second, .val (.int p3), .val (.int p4), .val (.int (2 : Int32)), .val (.ref b1), .val (.ref b4), .val (.ref b7), .val (.ref b10), .val (.ref y29_0), .val (.int (own_isF y29_0 b1 b4 b7 (1 : Int32) (1 : Int32) (0 : Int32) q0 q1 q2)), .val (.int (1 : Int32)), .val (.int ((((p4.toUInt32 >>> ((3 : Int32) &&& 31).toUInt32).toInt32) &&& (2147483647 : Int32)) % (2 : Int32))), .unset, .unset]) rfl k)) ?_
      have hkk : 0 ≤ (((((p4.toUInt32 >>> ((3 : Int32) &&& 31).toUInt32).toInt32) &&& (2147483647 : Int32)) % (2 : Int32))).toInt ∧ (((((p4.toUInt32 >>> ((3 : Int32) &&& 31).toUInt32).toInt32) &&& (2147483647 : Int32)) % (2 : Int32))).toInt < 2 := (by have := rng32 ((((p4.toUInt32 >>> ((3 : Int32) &&& 31).toUInt32).toInt32) &&& (2147483647 : Int32)) % (2 : Int32)); have := c_irem (((p4.toUInt32 >>> ((3 : Int32) &&& 31).toUInt32).toInt32) &&& (2147483647 : Int32)) (2 : Int32) 2 (by decide); have := rng32 (((p4.toUInt32 >>> ((3 : Int32) &&& 31).toUInt32).toInt32) &&& (2147483647 : Int32)); have := c_mask ((p4.toUInt32 >>> ((3 : Int32) &&& 31).toUInt32).toInt32) (2147483647 : Int32) 31 (by decide) (by decide); have := rng32 ((p4.toUInt32 >>> ((3 : Int32) &&& 31).toUInt32).toInt32); have := c_iushr p4 (3 : Int32) 3 (by decide) (by decide); have := rng32 p4; (try simp only [Int32.lt_iff_toInt_lt, Int64.lt_iff_toInt_lt, Int32.le_iff_toInt_le, Int64.le_iff_toInt_le, ← Int32.toInt_inj, ← Int64.toInt_inj] at  ⊢); omega)
      generalize ekk : ((((p4.toUInt32 >>> ((3 : Int32) &&& 31).toUInt32).toInt32) &&& (2147483647 : Int32)) % (2 : Int32)) = kk at hkk ⊢
      rcases own_c2 hkk with rfl | rfl
      · refine Run.st (S' := T31.setTop (mkF m 200 #[.val (.long q0), .second, .val (.long q1), .second, .val (.long q2), .second, .val (.int p3), .val (.int p4), .val (.int (2 : Int32)), .val (.ref b1), .val (.ref b4), .val (.ref b7), .val (.ref b10), .val (.ref y29_0), .val (.int (own_isF y29_0 b1 b4 b7 (1 : Int32) (1 : Int32) (0 : Int32) q0 q1 q2)), .val (.int (1 : Int32)), .val (.int (0 : Int32)), .unset, .unset] [(.ref b1), (.ref b10)])) (fun _ k => XS.iload X31.here hx rfl (hb hby at_191) rfl (XS.ifNo X31.here hx rfl (hb hby at_193) rfl ((if0 _ _).trans (teq (show (0 : Int32) = (0 : Int32) from (by decide))).2) (XS.aload X31.here hx rfl (hb hby at_196) rfl rfl (XS.aload X31.here hx rfl (hb hby at_198) rfl rfl k)))) ?_
        obtain ⟨cq35, kq35, q35a, q35b, q35c⟩ := isOf hZ e31 E_b10
        obtain ⟨_, _, ⟨T35, L35, k35, n35⟩, -, X35, ⟨Lc35, hQ35, l35, y35, z35⟩, st35⟩ := X31.virtualBack hx (y := (⟨"com/example/keys_to_structures/keystostructures/store/ExpiryQueue", "remove", "(Lcom/example/keys_to_structures/keystostructures/store/TimedEntry;)V"⟩ : MethodName)) (z := (⟨"com/example/keys_to_structures/keystostructures/store/ExpiryQueue", "remove", "(Lcom/example/keys_to_structures/keystostructures/store/TimedEntry;)V"⟩ : MethodName)) hown (mvT hZ (hw _ (List.mem_of_getElem? (i := 80) rfl))) (mvT hZ (hw _ (List.mem_of_getElem? (i := 81) rfl))) (notFace_of_selects (args := #[]) (mvT hZ (hw _ (List.mem_of_getElem? (i := 83) rfl)))) (mvT hZ (hw _ (List.mem_of_getElem? (i := 83) rfl))) (mvT hZ (hw _ (List.mem_of_getElem? (i := 82) rfl))) (by decide) (backOf (W := 0) (rmRm2c l Z aV hw [] b10 b1 b11 kb11 .null y29_0 dy29_0 y29_1 dy29_1 T29.heap n0 Zn g_b10 g_b11 O_kb11 g_y29_0 g_y29_1 E_b10 F_heap_b10 F_size_b10 V_b11 E_y29_0 F_d_y29_0 F_p_y29_0 E_y29_1 F_d_y29_1 F_p_y29_1 ne_b10_b11 (Ne.symm ne_y29_0_b10) (Ne.symm ne_y29_1_b10) (Ne.symm ne_y29_0_b11) (Ne.symm ne_y29_1_b11) ne_y29_0_y29_1 (own_mem2 _ _ _ _ _ _ _ _ hp29).1) hZ (hw _ (List.mem_of_getElem? (i := 84) rfl)) (hw _ (List.mem_of_getElem? (i := 32) rfl)) (by decide) (by decide)) q35a q35c (g := (mkF m 200 #[.val (.long q0), .second, .val (.long q1), .second, .val (.long q2), .second, .val (.int p3), .val (.int p4), .val (.int (2 : Int32)), .val (.ref b1), .val (.ref b4), .val (.ref b7), .val (.ref b10), .val (.ref y29_0), .val (.int (own_isF y29_0 b1 b4 b7 (1 : Int32) (1 : Int32) (0 : Int32) q0 q1 q2)), .val (.int (1 : Int32)), .val (.int (0 : Int32)), .unset, .unset] [(.ref b1), (.ref b10)])) rfl (by rw [hml]; rfl) (Steps.refl _) (argsL := [(.ref b1)]) (rest := []) (lenOf pd_10 rfl) rfl (by show 2 * 0 + _ ≤ _; exact Nat.le_of_eq rfl) (hb hby at_200) (fun _ _ => ⟨rfl, e31, (by decide : 8 + 0 ≤ _), (by decide : 36 + 0 ≤ _)⟩)
        dsimp only [Pt.U, Pt.locs, Pt.cells, Pt.slots] at X35 l35 y35 z35 st35 hQ35
        subst l35 y35 z35
        obtain ⟨z35, dz35, rfl, N35q, K35, hr35, q35_0, q35_1, q35_2, q35_3⟩ := hQ35
        have E_b10 := q35_0
        have F_heap_b10 := q35_1
        have F_size_b10 := q35_2
        have V_b11 := q35_3
        have Kp := Kp.trans K35 (allS (Or.inr sz_b10) (allS (Or.inr sz_b11) (allS (Or.inr sz_y29_0) (allS (Or.inr sz_y29_1) all0))))
        have Zn := Nat.le_trans Zn K35.1
        have N35 := Fr.app N31 N35q
        refine Run.st (S' := T35.setTop (mkF m 231 #[.val (.long q0), .second, .val (.long q1), .second, .val (.long q2), .second, .val (.int p3), .val (.int p4), .val (.int (2 : Int32)), .val (.ref b1), .val (.ref b4), .val (.ref b7), .val (.ref b10), .val (.ref y29_0), .val (.int (own_isF y29_0 b1 b4 b7 (1 : Int32) (1 : Int32) (0 : Int32) q0 q1 q2)), .val (.int (1 : Int32)), .val (.int (0 : Int32)), .unset, .unset] [(.ref b10)])) (fun _ k => st35.trans (XS.goto X35.here hx rfl (pc0 := 203) (pc' := 229) rfl (hb hby at_203) (by decide) (by decide) (XS.aload X35.here hx rfl (hb hby at_229) rfl rfl k))) ?_
        obtain ⟨cq36, kq36, q36a, q36b, q36c⟩ := isOf hZ rfl E_b10
        obtain ⟨_, _, ⟨T36, L36, k36, n36⟩, -, X36, ⟨Lc36, hQ36, l36, y36, z36⟩, st36⟩ := X35.virtualBack hx (y := (⟨"com/example/keys_to_structures/keystostructures/store/ExpiryQueue", "first", "()Lcom/example/keys_to_structures/keystostructures/store/TimedEntry;"⟩ : MethodName)) (z := (⟨"com/example/keys_to_structures/keystostructures/store/ExpiryQueue", "first", "()Lcom/example/keys_to_structures/keystostructures/store/TimedEntry;"⟩ : MethodName)) hown (mvT hZ (hw _ (List.mem_of_getElem? (i := 69) rfl))) (mvT hZ (hw _ (List.mem_of_getElem? (i := 70) rfl))) (notFace_of_selects (args := #[]) (mvT hZ (hw _ (List.mem_of_getElem? (i := 72) rfl)))) (mvT hZ (hw _ (List.mem_of_getElem? (i := 72) rfl))) (mvT hZ (hw _ (List.mem_of_getElem? (i := 71) rfl))) (by decide) (backOf (W := 0) (rmFi1 l Z aV hw [] b10 b11 kb11 z35 .null .null T35.heap n0 Zn F_heap_b10 F_size_b10 V_b11) hZ (hw _ (List.mem_of_getElem? (i := 73) rfl)) (hw _ (List.mem_of_getElem? (i := 32) rfl)) (by decide) (by decide)) q36a q36c (g := (mkF m 231 #[.val (.long q0), .second, .val (.long q1), .second, .val (.long q2), .second, .val (.int p3), .val (.int p4), .val (.int (2 : Int32)), .val (.ref b1), .val (.ref b4), .val (.ref b7), .val (.ref b10), .val (.ref y29_0), .val (.int (own_isF y29_0 b1 b4 b7 (1 : Int32) (1 : Int32) (0 : Int32) q0 q1 q2)), .val (.int (1 : Int32)), .val (.int (0 : Int32)), .unset, .unset] [(.ref b10)])) rfl (by rw [hml]; rfl) (Steps.refl _) (argsL := []) (rest := []) (lenOf pd_8 rfl) rfl (by show 2 * 0 + _ ≤ _; exact Nat.le_of_eq rfl) (hb hby at_231) (fun _ _ => ⟨rfl, rfl, (by decide : 8 + 0 ≤ _), (by decide : 36 + 0 ≤ _)⟩)
        dsimp only [Pt.U, Pt.locs, Pt.cells, Pt.slots] at X36 l36 y36 z36 st36 hQ36
        subst l36 y36 z36
        obtain ⟨rfl, N36q, e36⟩ := hQ36
        have N36 := Fr.app N35 N36q
        refine Run.st (S' := T36.setTop (mkF m 249 #[.val (.long q0), .second, .val (.long q1), .second, .val (.long q2), .second, .val (.int p3), .val (.int p4), .val (.int (2 : Int32)), .val (.ref b1), .val (.ref b4), .val (.ref b7), .val (.ref b10), .val (.ref y29_0), .val (.int (own_isF y29_0 b1 b4 b7 (1 : Int32) (1 : Int32) (0 : Int32) q0 q1 q2)), .val (.int (1 : Int32)), .val (.int (0 : Int32)), .val (.ref z35), .unset] [(.ref b7), (.ref b4), (.ref b1), (.ref z35)])) (fun _ k => st36.trans (XS.astore X36.here hx rfl (hb hby at_234) rfl rfl (l' := #[.val (.long q0), .second, .val (.long q1), .second, .val (.long q2), .second, .val (.int p3), .val (.int p4), .val (.int (2 : Int32)), .val (.ref b1), .val (.ref b4), .val (.ref b7), .val (.ref b10), .val (.ref y29_0), .val (.int (own_isF y29_0 b1 b4 b7 (1 : Int32) (1 : Int32) (0 : Int32) q0 q1 q2)), .val (.int (1 : Int32)), .val (.int (0 : Int32)), .val (.ref z35), .unset]) rfl (XS.aload X36.here hx rfl (hb hby at_236) rfl rfl (XS.aload X36.here hx rfl (hb hby at_238) rfl rfl (XS.aload X36.here hx rfl (hb hby at_240) rfl rfl (XS.aload X36.here hx rfl (hb hby at_242) rfl rfl (XS.iload X36.here hx rfl (hb hby at_244) rfl (XS.ifNo X36.here hx rfl (hb hby at_246) rfl ((if0 _ _).trans (tlt (show (0 : Int32) < (2 : Int32) from (by decide))).2.2.2) k)))))))) ?_
        refine Run.st (S' := T36.setTop (mkF m 268 #[.val (.long q0), .second, .val (.long q1), .second, .val (.long q2), .second, .val (.int p3), .val (.int p4), .val (.int (2 : Int32)), .val (.ref b1), .val (.ref b4), .val (.ref b7), .val (.ref b10), .val (.ref y29_0), .val (.int (own_isF y29_0 b1 b4 b7 (1 : Int32) (1 : Int32) (0 : Int32) q0 q1 q2)), .val (.int (1 : Int32)), .val (.int (0 : Int32)), .val (.ref z35), .unset] [(.int (1 : Int32)), (.int (0 : Int32)), (.int (0 : Int32)), (.ref b7), (.ref b4), (.ref b1), (.ref z35)])) (fun _ k => XS.iload X36.here hx rfl (hb hby at_249) rfl (XS.ifYes X36.here hx rfl (pc0 := 251) (pc' := 258) rfl (hb hby at_251) rfl ((if0 _ _).trans (teq (show (0 : Int32) = (0 : Int32) from (by decide))).1) (by decide) (by decide) (XS.iconst X36.here hx rfl (hb hby at_258) (XS.iload X36.here hx rfl (hb hby at_259) rfl (XS.iconst X36.here hx rfl (hb hby at_261) (XS.icmpNo X36.here hx rfl (hb hby at_262) rfl (tlt (show (1 : Int32) < (2 : Int32) from (by decide))).2.2.2 (XS.iload X36.here hx rfl (hb hby at_265) rfl (XS.iconst X36.here hx rfl (hb hby at_267) k)))))))) ?_
        refine Run.st (S' := T36.setTop (mkF m 294 #[.val (.long q0), .second, .val (.long q1), .second, .val (.long q2), .second, .val (.int p3), .val (.int p4), .val (.int (2 : Int32)), .val (.ref b1), .val (.ref b4), .val (.ref b7), .val (.ref b10), .val (.ref y29_0), .val (.int (own_isF y29_0 b1 b4 b7 (1 : Int32) (1 : Int32) (0 : Int32) q0 q1 q2)), .val (.int (1 : Int32)), .val (.int (0 : Int32)), .val (.ref z35), .unset] [(.long q0), (.int (0 : Int32)), (.int (1 : Int32)), (.int (0 : Int32)), (.ref b7), (.ref b4), (.ref b1), (.ref z35)])) (fun _ k => XS.icmpNo X36.here hx rfl (hb hby at_268) rfl (feq (show ¬ ((0 : Int32) = (1 : Int32)) from (by decide))).1 (XS.iconst X36.here hx rfl (hb hby at_271) (XS.goto X36.here hx rfl (pc0 := 272) (pc' := 276) rfl (hb hby at_272) (by decide) (by decide) (XS.iload X36.here hx rfl (hb hby at_276) rfl (XS.iconst X36.here hx rfl (hb hby at_278) (XS.icmpYes X36.here hx rfl (pc0 := 279) (pc' := 292) rfl (hb hby at_279) rfl (flt (show ¬ ((2 : Int32) < (2 : Int32)) from (by decide))).2.2.2 (by decide) (by decide) (XS.iconst X36.here hx rfl (hb hby at_292) (XS.lloadN X36.here hx rfl (hb hby at_293) rfl k)))))))) ?_
        refine Run.st (S' := T36.setTop (mkF m 297 #[.val (.long q0), .second, .val (.long q1), .second, .val (.long q2), .second, .val (.int p3), .val (.int p4), .val (.int (2 : Int32)), .val (.ref b1), .val (.ref b4), .val (.ref b7), .val (.ref b10), .val (.ref y29_0), .val (.int (own_isF y29_0 b1 b4 b7 (1 : Int32) (1 : Int32) (0 : Int32) q0 q1 q2)), .val (.int (1 : Int32)), .val (.int (0 : Int32)), .val (.ref z35), .unset] [(.long q2), (.long q1), (.long q0), (.int (0 : Int32)), (.int (1 : Int32)), (.int (0 : Int32)), (.ref b7), (.ref b4), (.ref b1), (.ref z35)])) (fun _ k => XS.lloadN X36.here hx rfl (hb hby at_294) rfl (XS.lload X36.here hx rfl (hb hby at_295) rfl k)) ?_
        obtain ⟨_, _, ⟨T37, L37, k37, n37⟩, -, X37, ⟨Lc37, hQ37, l37, y37, z37⟩, st37⟩ := Jvm.LawKit.callS X36 hx (y := (⟨"com/example/keys_to_structures/keystostructures/store/ExpiryQueueFirstPinLaw", "isFirst", "(Lcom/example/keys_to_structures/keystostructures/store/TimedEntry;Lcom/example/keys_to_structures/keystostructures/store/TimedEntry;Lcom/example/keys_to_structures/keystostructures/store/TimedEntry;Lcom/example/keys_to_structures/keystostructures/store/TimedEntry;ZZZJJJ)Z"⟩ : MethodName)) hown (mvT hZ (hw _ (List.mem_of_getElem? (i := 74) rfl))) (mvT hZ (hw _ (List.mem_of_getElem? (i := 75) rfl))) (mvT hZ (hw _ (List.mem_of_getElem? (i := 76) rfl))) (mvT hZ (hw _ (List.mem_of_getElem? (i := 77) rfl))) (by decide) (backOf (W := 0) (rmIsF l Z aV hw [] z35 b1 b4 b7 (0 : Int32) (1 : Int32) (0 : Int32) q0 q1 q2 T35.heap n0 Zn (by decide)) hZ (hw _ (List.mem_of_getElem? (i := 77) rfl)) (hw _ (List.mem_of_getElem? (i := 76) rfl)) (by decide) (by decide)) (g := (mkF m 297 #[.val (.long q0), .second, .val (.long q1), .second, .val (.long q2), .second, .val (.int p3), .val (.int p4), .val (.int (2 : Int32)), .val (.ref b1), .val (.ref b4), .val (.ref b7), .val (.ref b10), .val (.ref y29_0), .val (.int (own_isF y29_0 b1 b4 b7 (1 : Int32) (1 : Int32) (0 : Int32) q0 q1 q2)), .val (.int (1 : Int32)), .val (.int (0 : Int32)), .val (.ref z35), .unset] [(.long q2), (.long q1), (.long q0), (.int (0 : Int32)), (.int (1 : Int32)), (.int (0 : Int32)), (.ref b7), (.ref b4), (.ref b1), (.ref z35)])) rfl (by rw [hml]; rfl) (argsL := [(.ref z35), (.ref b1), (.ref b4), (.ref b7), (.int (0 : Int32)), (.int (1 : Int32)), (.int (0 : Int32)), (.long q0), (.long q1), (.long q2)]) (rest := []) (lenOf pd_9 rfl) rfl (by show 2 * 0 + _ ≤ _; exact Nat.le_of_eq rfl) (hb hby at_297) (fun _ _ => ⟨rfl, e36, (by decide : 8 + 0 ≤ _), (by decide : 36 + 0 ≤ _)⟩)
        dsimp only [Pt.U, Pt.locs, Pt.cells, Pt.slots] at X37 l37 y37 z37 st37 hQ37
        subst l37 y37 z37
        obtain ⟨rfl, N37q, e37⟩ := hQ37
        have N37 := Fr.app N36 N37q
        have hv37 : (own_isF z35 b1 b4 b7 (0 : Int32) (1 : Int32) (0 : Int32) q0 q1 q2) = (1 : Int32) := (own_R2 _ _ _ _ _ _ _ _ _ _ _ _ ne_b1_b4 hp29).1 hr35
        refine Run.st (S' := T37.setTop (mkF m 317 #[.val (.long q0), .second, .val (.long q1), .second, .val (.long q2), .second, .val (.int p3), .val (.int p4), .val (.int (2 : Int32)), .val (.ref b1), .val (.ref b4), .val (.ref b7), .val (.ref b10), .val (.ref y29_0), .val (.int (own_isF y29_0 b1 b4 b7 (1 : Int32) (1 : Int32) (0 : Int32) q0 q1 q2)), .val (.int (1 : Int32)), .val (.int (0 : Int32)), .val (.ref z35), .val (.int (own_isF z35 b1 b4 b7 (0 : Int32) (1 : Int32) (0 : Int32) q0 q1 q2))] [(.int (1 : Int32))])) (fun _ k => st37 _ (XS.istore X37.here hx rfl (hb hby at_300) rfl (l' := #[.val (.long q0), .second, .val (.long q1), .second, .val (.long q2), .second, .val (.int p3), .val (.int p4), .val (.int (2 : Int32)), .val (.ref b1), .val (.ref b4), .val (.ref b7), .val (.ref b10), .val (.ref y29_0), .val (.int (own_isF y29_0 b1 b4 b7 (1 : Int32) (1 : Int32) (0 : Int32) q0 q1 q2)), .val (.int (1 : Int32)), .val (.int (0 : Int32)), .val (.ref z35), .val (.int (own_isF z35 b1 b4 b7 (0 : Int32) (1 : Int32) (0 : Int32) q0 q1 q2))]) rfl (XS.iload X37.here hx rfl (hb hby at_302) rfl (XS.ifNo X37.here hx rfl (hb hby at_304) rfl ((if0 _ _).trans (feq (show ¬ ((own_isF y29_0 b1 b4 b7 (1 : Int32) (1 : Int32) (0 : Int32) q0 q1 q2) = (0 : Int32)) from (by rw [hv31]; decide))).1) (XS.iload X37.here hx rfl (hb hby at_307) rfl (XS.ifNo X37.here hx rfl (hb hby at_309) rfl ((if0 _ _).trans (feq (show ¬ ((own_isF z35 b1 b4 b7 (0 : Int32) (1 : Int32) (0 : Int32) q0 q1 q2) = (0 : Int32)) from (by rw [hv37]; decide))).1) (XS.iconst X37.here hx rfl (hb hby at_312) (XS.goto X37.here hx rfl (pc0 := 313) (pc' := 317) rfl (hb hby at_313) (by decide) (by decide) k)))))))) ?_
        refine Run.out X37 hx Bd.notSynchronized Bd.returns rfl (Or.inl ⟨rfl, by simp, _, rfl⟩) (hb hby at_317) (by decide) (by decide) ?_
        rw [e37]
        exact ⟨rfl, N37⟩
      · refine Run.st (S' := T31.setTop (mkF m 216 #[.val (.long q0), .second, .val (.long q1), .second, .val (.long q2), .second, .val (.int p3), .val (.int p4), .val (.int (2 : Int32)), .val (.ref b1), .val (.ref b4), .val (.ref b7), .val (.ref b10), .val (.ref y29_0), .val (.int (own_isF y29_0 b1 b4 b7 (1 : Int32) (1 : Int32) (0 : Int32) q0 q1 q2)), .val (.int (1 : Int32)), .val (.int (1 : Int32)), .unset, .unset] [(.ref b4), (.ref b10)])) (fun _ k => XS.iload X31.here hx rfl (hb hby at_191) rfl (XS.ifYes X31.here hx rfl (pc0 := 193) (pc' := 206) rfl (hb hby at_193) rfl ((if0 _ _).trans (feq (show ¬ ((1 : Int32) = (0 : Int32)) from (by decide))).2) (by decide) (by decide) (XS.iload X31.here hx rfl (hb hby at_206) rfl (XS.iconst X31.here hx rfl (hb hby at_208) (XS.icmpNo X31.here hx rfl (hb hby at_209) rfl (teq (show (1 : Int32) = (1 : Int32) from (by decide))).2 (XS.aload X31.here hx rfl (hb hby at_212) rfl rfl (XS.aload X31.here hx rfl (hb hby at_214) rfl rfl k))))))) ?_
        obtain ⟨cq38, kq38, q38a, q38b, q38c⟩ := isOf hZ e31 E_b10
        obtain ⟨_, _, ⟨T38, L38, k38, n38⟩, -, X38, ⟨Lc38, hQ38, l38, y38, z38⟩, st38⟩ := X31.virtualBack hx (y := (⟨"com/example/keys_to_structures/keystostructures/store/ExpiryQueue", "remove", "(Lcom/example/keys_to_structures/keystostructures/store/TimedEntry;)V"⟩ : MethodName)) (z := (⟨"com/example/keys_to_structures/keystostructures/store/ExpiryQueue", "remove", "(Lcom/example/keys_to_structures/keystostructures/store/TimedEntry;)V"⟩ : MethodName)) hown (mvT hZ (hw _ (List.mem_of_getElem? (i := 80) rfl))) (mvT hZ (hw _ (List.mem_of_getElem? (i := 81) rfl))) (notFace_of_selects (args := #[]) (mvT hZ (hw _ (List.mem_of_getElem? (i := 83) rfl)))) (mvT hZ (hw _ (List.mem_of_getElem? (i := 83) rfl))) (mvT hZ (hw _ (List.mem_of_getElem? (i := 82) rfl))) (by decide) (backOf (W := 0) (rmRm2c l Z aV hw [] b10 b4 b11 kb11 .null y29_0 dy29_0 y29_1 dy29_1 T29.heap n0 Zn g_b10 g_b11 O_kb11 g_y29_0 g_y29_1 E_b10 F_heap_b10 F_size_b10 V_b11 E_y29_0 F_d_y29_0 F_p_y29_0 E_y29_1 F_d_y29_1 F_p_y29_1 ne_b10_b11 (Ne.symm ne_y29_0_b10) (Ne.symm ne_y29_1_b10) (Ne.symm ne_y29_0_b11) (Ne.symm ne_y29_1_b11) ne_y29_0_y29_1 (own_mem2 _ _ _ _ _ _ _ _ hp29).2) hZ (hw _ (List.mem_of_getElem? (i := 84) rfl)) (hw _ (List.mem_of_getElem? (i := 32) rfl)) (by decide) (by decide)) q38a q38c (g := (mkF m 216 #[.val (.long q0), .second, .val (.long q1), .second, .val (.long q2), .second, .val (.int p3), .val (.int p4), .val (.int (2 : Int32)), .val (.ref b1), .val (.ref b4), .val (.ref b7), .val (.ref b10), .val (.ref y29_0), .val (.int (own_isF y29_0 b1 b4 b7 (1 : Int32) (1 : Int32) (0 : Int32) q0 q1 q2)), .val (.int (1 : Int32)), .val (.int (1 : Int32)), .unset, .unset] [(.ref b4), (.ref b10)])) rfl (by rw [hml]; rfl) (Steps.refl _) (argsL := [(.ref b4)]) (rest := []) (lenOf pd_10 rfl) rfl (by show 2 * 0 + _ ≤ _; exact Nat.le_of_eq rfl) (hb hby at_216) (fun _ _ => ⟨rfl, e31, (by decide : 8 + 0 ≤ _), (by decide : 36 + 0 ≤ _)⟩)
        dsimp only [Pt.U, Pt.locs, Pt.cells, Pt.slots] at X38 l38 y38 z38 st38 hQ38
        subst l38 y38 z38
        obtain ⟨z38, dz38, rfl, N38q, K38, hr38, q38_0, q38_1, q38_2, q38_3⟩ := hQ38
        have E_b10 := q38_0
        have F_heap_b10 := q38_1
        have F_size_b10 := q38_2
        have V_b11 := q38_3
        have Kp := Kp.trans K38 (allS (Or.inr sz_b10) (allS (Or.inr sz_b11) (allS (Or.inr sz_y29_0) (allS (Or.inr sz_y29_1) all0))))
        have Zn := Nat.le_trans Zn K38.1
        have N38 := Fr.app N31 N38q
        refine Run.st (S' := T38.setTop (mkF m 231 #[.val (.long q0), .second, .val (.long q1), .second, .val (.long q2), .second, .val (.int p3), .val (.int p4), .val (.int (2 : Int32)), .val (.ref b1), .val (.ref b4), .val (.ref b7), .val (.ref b10), .val (.ref y29_0), .val (.int (own_isF y29_0 b1 b4 b7 (1 : Int32) (1 : Int32) (0 : Int32) q0 q1 q2)), .val (.int (1 : Int32)), .val (.int (1 : Int32)), .unset, .unset] [(.ref b10)])) (fun _ k => st38.trans (XS.goto X38.here hx rfl (pc0 := 219) (pc' := 229) rfl (hb hby at_219) (by decide) (by decide) (XS.aload X38.here hx rfl (hb hby at_229) rfl rfl k))) ?_
        obtain ⟨cq39, kq39, q39a, q39b, q39c⟩ := isOf hZ rfl E_b10
        obtain ⟨_, _, ⟨T39, L39, k39, n39⟩, -, X39, ⟨Lc39, hQ39, l39, y39, z39⟩, st39⟩ := X38.virtualBack hx (y := (⟨"com/example/keys_to_structures/keystostructures/store/ExpiryQueue", "first", "()Lcom/example/keys_to_structures/keystostructures/store/TimedEntry;"⟩ : MethodName)) (z := (⟨"com/example/keys_to_structures/keystostructures/store/ExpiryQueue", "first", "()Lcom/example/keys_to_structures/keystostructures/store/TimedEntry;"⟩ : MethodName)) hown (mvT hZ (hw _ (List.mem_of_getElem? (i := 69) rfl))) (mvT hZ (hw _ (List.mem_of_getElem? (i := 70) rfl))) (notFace_of_selects (args := #[]) (mvT hZ (hw _ (List.mem_of_getElem? (i := 72) rfl)))) (mvT hZ (hw _ (List.mem_of_getElem? (i := 72) rfl))) (mvT hZ (hw _ (List.mem_of_getElem? (i := 71) rfl))) (by decide) (backOf (W := 0) (rmFi1 l Z aV hw [] b10 b11 kb11 z38 .null .null T38.heap n0 Zn F_heap_b10 F_size_b10 V_b11) hZ (hw _ (List.mem_of_getElem? (i := 73) rfl)) (hw _ (List.mem_of_getElem? (i := 32) rfl)) (by decide) (by decide)) q39a q39c (g := (mkF m 231 #[.val (.long q0), .second, .val (.long q1), .second, .val (.long q2), .second, .val (.int p3), .val (.int p4), .val (.int (2 : Int32)), .val (.ref b1), .val (.ref b4), .val (.ref b7), .val (.ref b10), .val (.ref y29_0), .val (.int (own_isF y29_0 b1 b4 b7 (1 : Int32) (1 : Int32) (0 : Int32) q0 q1 q2)), .val (.int (1 : Int32)), .val (.int (1 : Int32)), .unset, .unset] [(.ref b10)])) rfl (by rw [hml]; rfl) (Steps.refl _) (argsL := []) (rest := []) (lenOf pd_8 rfl) rfl (by show 2 * 0 + _ ≤ _; exact Nat.le_of_eq rfl) (hb hby at_231) (fun _ _ => ⟨rfl, rfl, (by decide : 8 + 0 ≤ _), (by decide : 36 + 0 ≤ _)⟩)
        dsimp only [Pt.U, Pt.locs, Pt.cells, Pt.slots] at X39 l39 y39 z39 st39 hQ39
        subst l39 y39 z39
        obtain ⟨rfl, N39q, e39⟩ := hQ39
        have N39 := Fr.app N38 N39q
        refine Run.st (S' := T39.setTop (mkF m 249 #[.val (.long q0), .second, .val (.long q1), .second, .val (.long q2), .second, .val (.int p3), .val (.int p4), .val (.int (2 : Int32)), .val (.ref b1), .val (.ref b4), .val (.ref b7), .val (.ref b10), .val (.ref y29_0), .val (.int (own_isF y29_0 b1 b4 b7 (1 : Int32) (1 : Int32) (0 : Int32) q0 q1 q2)), .val (.int (1 : Int32)), .val (.int (1 : Int32)), .val (.ref z38), .unset] [(.ref b7), (.ref b4), (.ref b1), (.ref z38)])) (fun _ k => st39.trans (XS.astore X39.here hx rfl (hb hby at_234) rfl rfl (l' := #[.val (.long q0), .second, .val (.long q1), .second, .val (.long q2), .second, .val (.int p3), .val (.int p4), .val (.int (2 : Int32)), .val (.ref b1), .val (.ref b4), .val (.ref b7), .val (.ref b10), .val (.ref y29_0), .val (.int (own_isF y29_0 b1 b4 b7 (1 : Int32) (1 : Int32) (0 : Int32) q0 q1 q2)), .val (.int (1 : Int32)), .val (.int (1 : Int32)), .val (.ref z38), .unset]) rfl (XS.aload X39.here hx rfl (hb hby at_236) rfl rfl (XS.aload X39.here hx rfl (hb hby at_238) rfl rfl (XS.aload X39.here hx rfl (hb hby at_240) rfl rfl (XS.aload X39.here hx rfl (hb hby at_242) rfl rfl (XS.iload X39.here hx rfl (hb hby at_244) rfl (XS.ifNo X39.here hx rfl (hb hby at_246) rfl ((if0 _ _).trans (tlt (show (0 : Int32) < (2 : Int32) from (by decide))).2.2.2) k)))))))) ?_
        refine Run.st (S' := T39.setTop (mkF m 267 #[.val (.long q0), .second, .val (.long q1), .second, .val (.long q2), .second, .val (.int p3), .val (.int p4), .val (.int (2 : Int32)), .val (.ref b1), .val (.ref b4), .val (.ref b7), .val (.ref b10), .val (.ref y29_0), .val (.int (own_isF y29_0 b1 b4 b7 (1 : Int32) (1 : Int32) (0 : Int32) q0 q1 q2)), .val (.int (1 : Int32)), .val (.int (1 : Int32)), .val (.ref z38), .unset] [(.int (1 : Int32)), (.int (1 : Int32)), (.ref b7), (.ref b4), (.ref b1), (.ref z38)])) (fun _ k => XS.iload X39.here hx rfl (hb hby at_249) rfl (XS.ifNo X39.here hx rfl (hb hby at_251) rfl ((if0 _ _).trans (feq (show ¬ ((1 : Int32) = (0 : Int32)) from (by decide))).1) (XS.iconst X39.here hx rfl (hb hby at_254) (XS.goto X39.here hx rfl (pc0 := 255) (pc' := 259) rfl (hb hby at_255) (by decide) (by decide) (XS.iload X39.here hx rfl (hb hby at_259) rfl (XS.iconst X39.here hx rfl (hb hby at_261) (XS.icmpNo X39.here hx rfl (hb hby at_262) rfl (tlt (show (1 : Int32) < (2 : Int32) from (by decide))).2.2.2 (XS.iload X39.here hx rfl (hb hby at_265) rfl k)))))))) ?_
        refine Run.st (S' := T39.setTop (mkF m 294 #[.val (.long q0), .second, .val (.long q1), .second, .val (.long q2), .second, .val (.int p3), .val (.int p4), .val (.int (2 : Int32)), .val (.ref b1), .val (.ref b4), .val (.ref b7), .val (.ref b10), .val (.ref y29_0), .val (.int (own_isF y29_0 b1 b4 b7 (1 : Int32) (1 : Int32) (0 : Int32) q0 q1 q2)), .val (.int (1 : Int32)), .val (.int (1 : Int32)), .val (.ref z38), .unset] [(.long q0), (.int (0 : Int32)), (.int (0 : Int32)), (.int (1 : Int32)), (.ref b7), (.ref b4), (.ref b1), (.ref z38)])) (fun _ k => XS.iconst X39.here hx rfl (hb hby at_267) (XS.icmpYes X39.here hx rfl (pc0 := 268) (pc' := 275) rfl (hb hby at_268) rfl (teq (show (1 : Int32) = (1 : Int32) from (by decide))).1 (by decide) (by decide) (XS.iconst X39.here hx rfl (hb hby at_275) (XS.iload X39.here hx rfl (hb hby at_276) rfl (XS.iconst X39.here hx rfl (hb hby at_278) (XS.icmpYes X39.here hx rfl (pc0 := 279) (pc' := 292) rfl (hb hby at_279) rfl (flt (show ¬ ((2 : Int32) < (2 : Int32)) from (by decide))).2.2.2 (by decide) (by decide) (XS.iconst X39.here hx rfl (hb hby at_292) (XS.lloadN X39.here hx rfl (hb hby at_293) rfl k)))))))) ?_
        refine Run.st (S' := T39.setTop (mkF m 297 #[.val (.long q0), .second, .val (.long q1), .second, .val (.long q2), .second, .val (.int p3), .val (.int p4), .val (.int (2 : Int32)), .val (.ref b1), .val (.ref b4), .val (.ref b7), .val (.ref b10), .val (.ref y29_0), .val (.int (own_isF y29_0 b1 b4 b7 (1 : Int32) (1 : Int32) (0 : Int32) q0 q1 q2)), .val (.int (1 : Int32)), .val (.int (1 : Int32)), .val (.ref z38), .unset] [(.long q2), (.long q1), (.long q0), (.int (0 : Int32)), (.int (0 : Int32)), (.int (1 : Int32)), (.ref b7), (.ref b4), (.ref b1), (.ref z38)])) (fun _ k => XS.lloadN X39.here hx rfl (hb hby at_294) rfl (XS.lload X39.here hx rfl (hb hby at_295) rfl k)) ?_
        obtain ⟨_, _, ⟨T40, L40, k40, n40⟩, -, X40, ⟨Lc40, hQ40, l40, y40, z40⟩, st40⟩ := Jvm.LawKit.callS X39 hx (y := (⟨"com/example/keys_to_structures/keystostructures/store/ExpiryQueueFirstPinLaw", "isFirst", "(Lcom/example/keys_to_structures/keystostructures/store/TimedEntry;Lcom/example/keys_to_structures/keystostructures/store/TimedEntry;Lcom/example/keys_to_structures/keystostructures/store/TimedEntry;Lcom/example/keys_to_structures/keystostructures/store/TimedEntry;ZZZJJJ)Z"⟩ : MethodName)) hown (mvT hZ (hw _ (List.mem_of_getElem? (i := 74) rfl))) (mvT hZ (hw _ (List.mem_of_getElem? (i := 75) rfl))) (mvT hZ (hw _ (List.mem_of_getElem? (i := 76) rfl))) (mvT hZ (hw _ (List.mem_of_getElem? (i := 77) rfl))) (by decide) (backOf (W := 0) (rmIsF l Z aV hw [] z38 b1 b4 b7 (1 : Int32) (0 : Int32) (0 : Int32) q0 q1 q2 T38.heap n0 Zn (by decide)) hZ (hw _ (List.mem_of_getElem? (i := 77) rfl)) (hw _ (List.mem_of_getElem? (i := 76) rfl)) (by decide) (by decide)) (g := (mkF m 297 #[.val (.long q0), .second, .val (.long q1), .second, .val (.long q2), .second, .val (.int p3), .val (.int p4), .val (.int (2 : Int32)), .val (.ref b1), .val (.ref b4), .val (.ref b7), .val (.ref b10), .val (.ref y29_0), .val (.int (own_isF y29_0 b1 b4 b7 (1 : Int32) (1 : Int32) (0 : Int32) q0 q1 q2)), .val (.int (1 : Int32)), .val (.int (1 : Int32)), .val (.ref z38), .unset] [(.long q2), (.long q1), (.long q0), (.int (0 : Int32)), (.int (0 : Int32)), (.int (1 : Int32)), (.ref b7), (.ref b4), (.ref b1), (.ref z38)])) rfl (by rw [hml]; rfl) (argsL := [(.ref z38), (.ref b1), (.ref b4), (.ref b7), (.int (1 : Int32)), (.int (0 : Int32)), (.int (0 : Int32)), (.long q0), (.long q1), (.long q2)]) (rest := []) (lenOf pd_9 rfl) rfl (by show 2 * 0 + _ ≤ _; exact Nat.le_of_eq rfl) (hb hby at_297) (fun _ _ => ⟨rfl, e39, (by decide : 8 + 0 ≤ _), (by decide : 36 + 0 ≤ _)⟩)
        dsimp only [Pt.U, Pt.locs, Pt.cells, Pt.slots] at X40 l40 y40 z40 st40 hQ40
        subst l40 y40 z40
        obtain ⟨rfl, N40q, e40⟩ := hQ40
        have N40 := Fr.app N39 N40q
        have hv40 : (own_isF z38 b1 b4 b7 (1 : Int32) (0 : Int32) (0 : Int32) q0 q1 q2) = (1 : Int32) := (own_R2 _ _ _ _ _ _ _ _ _ _ _ _ ne_b1_b4 hp29).2 hr38
        refine Run.st (S' := T40.setTop (mkF m 317 #[.val (.long q0), .second, .val (.long q1), .second, .val (.long q2), .second, .val (.int p3), .val (.int p4), .val (.int (2 : Int32)), .val (.ref b1), .val (.ref b4), .val (.ref b7), .val (.ref b10), .val (.ref y29_0), .val (.int (own_isF y29_0 b1 b4 b7 (1 : Int32) (1 : Int32) (0 : Int32) q0 q1 q2)), .val (.int (1 : Int32)), .val (.int (1 : Int32)), .val (.ref z38), .val (.int (own_isF z38 b1 b4 b7 (1 : Int32) (0 : Int32) (0 : Int32) q0 q1 q2))] [(.int (1 : Int32))])) (fun _ k => st40 _ (XS.istore X40.here hx rfl (hb hby at_300) rfl (l' := #[.val (.long q0), .second, .val (.long q1), .second, .val (.long q2), .second, .val (.int p3), .val (.int p4), .val (.int (2 : Int32)), .val (.ref b1), .val (.ref b4), .val (.ref b7), .val (.ref b10), .val (.ref y29_0), .val (.int (own_isF y29_0 b1 b4 b7 (1 : Int32) (1 : Int32) (0 : Int32) q0 q1 q2)), .val (.int (1 : Int32)), .val (.int (1 : Int32)), .val (.ref z38), .val (.int (own_isF z38 b1 b4 b7 (1 : Int32) (0 : Int32) (0 : Int32) q0 q1 q2))]) rfl (XS.iload X40.here hx rfl (hb hby at_302) rfl (XS.ifNo X40.here hx rfl (hb hby at_304) rfl ((if0 _ _).trans (feq (show ¬ ((own_isF y29_0 b1 b4 b7 (1 : Int32) (1 : Int32) (0 : Int32) q0 q1 q2) = (0 : Int32)) from (by rw [hv31]; decide))).1) (XS.iload X40.here hx rfl (hb hby at_307) rfl (XS.ifNo X40.here hx rfl (hb hby at_309) rfl ((if0 _ _).trans (feq (show ¬ ((own_isF z38 b1 b4 b7 (1 : Int32) (0 : Int32) (0 : Int32) q0 q1 q2) = (0 : Int32)) from (by rw [hv40]; decide))).1) (XS.iconst X40.here hx rfl (hb hby at_312) (XS.goto X40.here hx rfl (pc0 := 313) (pc' := 317) rfl (hb hby at_313) (by decide) (by decide) k)))))))) ?_
        refine Run.out X40 hx Bd.notSynchronized Bd.returns rfl (Or.inl ⟨rfl, by simp, _, rfl⟩) (hb hby at_317) (by decide) (by decide) ?_
        rw [e40]
        exact ⟨rfl, N40⟩
  · refine Run.st (S' := T11.setTop (mkF m 67 #[.val (.long q0), .second, .val (.long q1), .second, .val (.long q2), .second, .val (.int p3), .val (.int p4), .val (.int (3 : Int32)), .val (.ref b1), .val (.ref b4), .val (.ref b7), .val (.ref b10), .unset, .unset, .unset, .unset, .unset, .unset] [(.ref b1), (.ref b10)])) (fun _ k => XS.iload X11.here hx rfl (hb hby at_58) rfl (XS.ifNo X11.here hx rfl (hb hby at_60) rfl ((if0 _ _).trans (tlt (show (0 : Int32) < (3 : Int32) from (by decide))).2.2.2) (XS.aload X11.here hx rfl (hb hby at_63) rfl rfl (XS.aload X11.here hx rfl (hb hby at_65) rfl rfl k)))) ?_
    obtain ⟨cq41, kq41, q41a, q41b, q41c⟩ := isOf hZ rfl E_b10
    obtain ⟨_, _, ⟨T41, L41, k41, n41⟩, -, X41, ⟨Lc41, hQ41, l41, y41, z41⟩, st41⟩ := X11.virtualBack hx (y := (⟨"com/example/keys_to_structures/keystostructures/store/ExpiryQueue", "add", "(Lcom/example/keys_to_structures/keystostructures/store/TimedEntry;)V"⟩ : MethodName)) (z := (⟨"com/example/keys_to_structures/keystostructures/store/ExpiryQueue", "add", "(Lcom/example/keys_to_structures/keystostructures/store/TimedEntry;)V"⟩ : MethodName)) hown (mvT hZ (hw _ (List.mem_of_getElem? (i := 41) rfl))) (mvT hZ (hw _ (List.mem_of_getElem? (i := 42) rfl))) (notFace_of_selects (args := #[]) (mvT hZ (hw _ (List.mem_of_getElem? (i := 44) rfl)))) (mvT hZ (hw _ (List.mem_of_getElem? (i := 44) rfl))) (mvT hZ (hw _ (List.mem_of_getElem? (i := 43) rfl))) (by decide) (backOf (W := 0) (rmAd0 l Z aV hw [] b10 b1 b11 kb11 .null .null .null q0 (0 : Int32) T11.heap n0 Zn g_b10 g_b11 O_kb11 g_b1 E_b10 F_heap_b10 F_size_b10 V_b11 E_b1 F_deadline_b1 F_position_b1 ne_b10_b11 (Ne.symm ne_b1_b10) (Ne.symm ne_b1_b11)) hZ (hw _ (List.mem_of_getElem? (i := 45) rfl)) (hw _ (List.mem_of_getElem? (i := 32) rfl)) (by decide) (by decide)) q41a q41c (g := (mkF m 67 #[.val (.long q0), .second, .val (.long q1), .second, .val (.long q2), .second, .val (.int p3), .val (.int p4), .val (.int (3 : Int32)), .val (.ref b1), .val (.ref b4), .val (.ref b7), .val (.ref b10), .unset, .unset, .unset, .unset, .unset, .unset] [(.ref b1), (.ref b10)])) rfl (by rw [hml]; rfl) (Steps.refl _) (argsL := [(.ref b1)]) (rest := []) (lenOf pd_10 rfl) rfl (by show 2 * 0 + _ ≤ _; exact Nat.le_of_eq rfl) (hb hby at_67) (fun _ _ => ⟨rfl, rfl, (by decide : 8 + 0 ≤ _), (by decide : 36 + 0 ≤ _)⟩)
    dsimp only [Pt.U, Pt.locs, Pt.cells, Pt.slots] at X41 l41 y41 z41 st41 hQ41
    subst l41 y41 z41
    obtain ⟨rfl, N41q, K41, q41_0, q41_1, q41_2, q41_3, q41_4, q41_5, q41_6⟩ := hQ41
    have E_b4 := E_b4.keep K41
    have F_deadline_b4 := F_deadline_b4.keep K41 (ninS ne_b4_b10 (ninS ne_b4_b11 (ninS (Ne.symm ne_b1_b4) nin0)))
    have F_position_b4 := F_position_b4.keep K41 (ninS ne_b4_b10 (ninS ne_b4_b11 (ninS (Ne.symm ne_b1_b4) nin0)))
    have E_b7 := E_b7.keep K41
    have F_deadline_b7 := F_deadline_b7.keep K41 (ninS ne_b7_b10 (ninS ne_b7_b11 (ninS (Ne.symm ne_b1_b7) nin0)))
    have F_position_b7 := F_position_b7.keep K41 (ninS ne_b7_b10 (ninS ne_b7_b11 (ninS (Ne.symm ne_b1_b7) nin0)))
    have E_b10 := q41_0
    have F_heap_b10 := q41_1
    have F_size_b10 := q41_2
    have V_b11 := q41_3
    have E_b1 := q41_4
    have F_deadline_b1 := q41_5
    have F_position_b1 := q41_6
    have Kp := Kp.trans K41 (allS (Or.inr sz_b10) (allS (Or.inr sz_b11) (allS (Or.inr sz_b1) all0)))
    have Zn := Nat.le_trans Zn K41.1
    have N41 := Fr.app N11 N41q
    refine Run.st (S' := T41.setTop (mkF m 80 #[.val (.long q0), .second, .val (.long q1), .second, .val (.long q2), .second, .val (.int p3), .val (.int p4), .val (.int (3 : Int32)), .val (.ref b1), .val (.ref b4), .val (.ref b7), .val (.ref b10), .unset, .unset, .unset, .unset, .unset, .unset] [(.ref b4), (.ref b10)])) (fun _ k => st41.trans (XS.iload X41.here hx rfl (hb hby at_70) rfl (XS.iconst X41.here hx rfl (hb hby at_72) (XS.icmpNo X41.here hx rfl (hb hby at_73) rfl (tlt (show (1 : Int32) < (3 : Int32) from (by decide))).2.2.2 (XS.aload X41.here hx rfl (hb hby at_76) rfl rfl (XS.aload X41.here hx rfl (hb hby at_78) rfl rfl k)))))) ?_
    obtain ⟨cq42, kq42, q42a, q42b, q42c⟩ := isOf hZ rfl E_b10
    obtain ⟨_, _, ⟨T42, L42, k42, n42⟩, -, X42, ⟨Lc42, hQ42, l42, y42, z42⟩, st42⟩ := X41.virtualBack hx (y := (⟨"com/example/keys_to_structures/keystostructures/store/ExpiryQueue", "add", "(Lcom/example/keys_to_structures/keystostructures/store/TimedEntry;)V"⟩ : MethodName)) (z := (⟨"com/example/keys_to_structures/keystostructures/store/ExpiryQueue", "add", "(Lcom/example/keys_to_structures/keystostructures/store/TimedEntry;)V"⟩ : MethodName)) hown (mvT hZ (hw _ (List.mem_of_getElem? (i := 41) rfl))) (mvT hZ (hw _ (List.mem_of_getElem? (i := 42) rfl))) (notFace_of_selects (args := #[]) (mvT hZ (hw _ (List.mem_of_getElem? (i := 44) rfl)))) (mvT hZ (hw _ (List.mem_of_getElem? (i := 44) rfl))) (mvT hZ (hw _ (List.mem_of_getElem? (i := 43) rfl))) (by decide) (backOf (W := 0) (rmAd1c l Z aV hw [] b10 b4 b11 kb11 .null .null q1 (0 : Int32) b1 q0 T41.heap n0 Zn g_b10 g_b11 O_kb11 g_b4 g_b1 E_b10 F_heap_b10 F_size_b10 V_b11 E_b4 F_deadline_b4 F_position_b4 E_b1 F_deadline_b1 F_position_b1 ne_b10_b11 (Ne.symm ne_b4_b10) (Ne.symm ne_b1_b10) (Ne.symm ne_b4_b11) (Ne.symm ne_b1_b11) (Ne.symm ne_b1_b4)) hZ (hw _ (List.mem_of_getElem? (i := 45) rfl)) (hw _ (List.mem_of_getElem? (i := 32) rfl)) (by decide) (by decide)) q42a q42c (g := (mkF m 80 #[.val (.long q0), .second, .val (.long q1), .second, .val (.long q2), .second, .val (.int p3), .val (.int p4), .val (.int (3 : Int32)), .val (.ref b1), .val (.ref b4), .val (.ref b7), .val (.ref b10), .unset, .unset, .unset, .unset, .unset, .unset] [(.ref b4), (.ref b10)])) rfl (by rw [hml]; rfl) (Steps.refl _) (argsL := [(.ref b4)]) (rest := []) (lenOf pd_10 rfl) rfl (by show 2 * 0 + _ ≤ _; exact Nat.le_of_eq rfl) (hb hby at_80) (fun _ _ => ⟨rfl, rfl, (by decide : 8 + 0 ≤ _), (by decide : 36 + 0 ≤ _)⟩)
    dsimp only [Pt.U, Pt.locs, Pt.cells, Pt.slots] at X42 l42 y42 z42 st42 hQ42
    subst l42 y42 z42
    obtain ⟨y42_0, y42_1, dy42_0, dy42_1, rfl, N42q, K42, hp42, hl42_1, q42_0, q42_1, q42_2, q42_3, q42_4, q42_5, q42_6, q42_7, q42_8, q42_9⟩ := hQ42
    have ne_y42_0_b7 : y42_0 ≠ b7 := hp42.elim (fun q => by rw [q.1]; exact ne_b1_b7) (fun q => by rw [q.1]; exact ne_b4_b7)
    have ne_y42_0_b10 : y42_0 ≠ b10 := hp42.elim (fun q => by rw [q.1]; exact ne_b1_b10) (fun q => by rw [q.1]; exact ne_b4_b10)
    have ne_y42_0_b11 : y42_0 ≠ b11 := hp42.elim (fun q => by rw [q.1]; exact ne_b1_b11) (fun q => by rw [q.1]; exact ne_b4_b11)
    have g_y42_0 : n0 ≤ y42_0 := hp42.elim (fun q => by rw [q.1]; exact g_b1) (fun q => by rw [q.1]; exact g_b4)
    have sz_y42_0 : h0.size ≤ y42_0 := hp42.elim (fun q => by rw [q.1]; exact sz_b1) (fun q => by rw [q.1]; exact sz_b4)
    have ne_y42_1_b7 : y42_1 ≠ b7 := hp42.elim (fun q => by rw [q.2.1]; exact ne_b4_b7) (fun q => by rw [q.2.1]; exact ne_b1_b7)
    have ne_y42_1_b10 : y42_1 ≠ b10 := hp42.elim (fun q => by rw [q.2.1]; exact ne_b4_b10) (fun q => by rw [q.2.1]; exact ne_b1_b10)
    have ne_y42_1_b11 : y42_1 ≠ b11 := hp42.elim (fun q => by rw [q.2.1]; exact ne_b4_b11) (fun q => by rw [q.2.1]; exact ne_b1_b11)
    have ne_y42_0_y42_1 : y42_0 ≠ y42_1 := hp42.elim (fun q => by rw [q.1, q.2.1]; exact ne_b1_b4) (fun q => by rw [q.1, q.2.1]; exact (Ne.symm ne_b1_b4))
    have g_y42_1 : n0 ≤ y42_1 := hp42.elim (fun q => by rw [q.2.1]; exact g_b4) (fun q => by rw [q.2.1]; exact g_b1)
    have sz_y42_1 : h0.size ≤ y42_1 := hp42.elim (fun q => by rw [q.2.1]; exact sz_b4) (fun q => by rw [q.2.1]; exact sz_b1)
    have E_b7 := E_b7.keep K42
    have F_deadline_b7 := F_deadline_b7.keep K42 (ninS ne_b7_b10 (ninS ne_b7_b11 (ninS (Ne.symm ne_b4_b7) (ninS (Ne.symm ne_b1_b7) nin0))))
    have F_position_b7 := F_position_b7.keep K42 (ninS ne_b7_b10 (ninS ne_b7_b11 (ninS (Ne.symm ne_b4_b7) (ninS (Ne.symm ne_b1_b7) nin0))))
    have E_b10 := q42_0
    have F_heap_b10 := q42_1
    have F_size_b10 := q42_2
    have V_b11 := q42_3
    have E_y42_0 := q42_4
    have F_d_y42_0 := q42_5
    have F_p_y42_0 := q42_6
    have E_y42_1 := q42_7
    have F_d_y42_1 := q42_8
    have F_p_y42_1 := q42_9
    have Kp := Kp.trans K42 (allS (Or.inr sz_b10) (allS (Or.inr sz_b11) (allS (Or.inr sz_b4) (allS (Or.inr sz_b1) all0))))
    have Zn := Nat.le_trans Zn K42.1
    have N42 := Fr.app N41 N42q
    refine Run.st (S' := T42.setTop (mkF m 93 #[.val (.long q0), .second, .val (.long q1), .second, .val (.long q2), .second, .val (.int p3), .val (.int p4), .val (.int (3 : Int32)), .val (.ref b1), .val (.ref b4), .val (.ref b7), .val (.ref b10), .unset, .unset, .unset, .unset, .unset, .unset] [(.ref b7), (.ref b10)])) (fun _ k => st42.trans (XS.iload X42.here hx rfl (hb hby at_83) rfl (XS.iconst X42.here hx rfl (hb hby at_85) (XS.icmpNo X42.here hx rfl (hb hby at_86) rfl (tlt (show (2 : Int32) < (3 : Int32) from (by decide))).2.2.2 (XS.aload X42.here hx rfl (hb hby at_89) rfl rfl (XS.aload X42.here hx rfl (hb hby at_91) rfl rfl k)))))) ?_
    obtain ⟨cq43, kq43, q43a, q43b, q43c⟩ := isOf hZ rfl E_b10
    obtain ⟨_, _, ⟨T43, L43, k43, n43⟩, -, X43, ⟨Lc43, hQ43, l43, y43, z43⟩, st43⟩ := X42.virtualBack hx (y := (⟨"com/example/keys_to_structures/keystostructures/store/ExpiryQueue", "add", "(Lcom/example/keys_to_structures/keystostructures/store/TimedEntry;)V"⟩ : MethodName)) (z := (⟨"com/example/keys_to_structures/keystostructures/store/ExpiryQueue", "add", "(Lcom/example/keys_to_structures/keystostructures/store/TimedEntry;)V"⟩ : MethodName)) hown (mvT hZ (hw _ (List.mem_of_getElem? (i := 41) rfl))) (mvT hZ (hw _ (List.mem_of_getElem? (i := 42) rfl))) (notFace_of_selects (args := #[]) (mvT hZ (hw _ (List.mem_of_getElem? (i := 44) rfl)))) (mvT hZ (hw _ (List.mem_of_getElem? (i := 44) rfl))) (mvT hZ (hw _ (List.mem_of_getElem? (i := 43) rfl))) (by decide) (backOf (W := 0) (rmAd2c l Z aV hw [] b10 b7 b11 kb11 .null q2 (0 : Int32) y42_0 dy42_0 y42_1 dy42_1 T42.heap n0 Zn g_b10 g_b11 O_kb11 g_b7 g_y42_0 g_y42_1 E_b10 F_heap_b10 F_size_b10 V_b11 E_b7 F_deadline_b7 F_position_b7 E_y42_0 F_d_y42_0 F_p_y42_0 E_y42_1 F_d_y42_1 F_p_y42_1 ne_b10_b11 (Ne.symm ne_b7_b10) (Ne.symm ne_y42_0_b10) (Ne.symm ne_y42_1_b10) (Ne.symm ne_b7_b11) (Ne.symm ne_y42_0_b11) (Ne.symm ne_y42_1_b11) (Ne.symm ne_y42_0_b7) (Ne.symm ne_y42_1_b7) ne_y42_0_y42_1 hl42_1) hZ (hw _ (List.mem_of_getElem? (i := 45) rfl)) (hw _ (List.mem_of_getElem? (i := 32) rfl)) (by decide) (by decide)) q43a q43c (g := (mkF m 93 #[.val (.long q0), .second, .val (.long q1), .second, .val (.long q2), .second, .val (.int p3), .val (.int p4), .val (.int (3 : Int32)), .val (.ref b1), .val (.ref b4), .val (.ref b7), .val (.ref b10), .unset, .unset, .unset, .unset, .unset, .unset] [(.ref b7), (.ref b10)])) rfl (by rw [hml]; rfl) (Steps.refl _) (argsL := [(.ref b7)]) (rest := []) (lenOf pd_10 rfl) rfl (by show 2 * 0 + _ ≤ _; exact Nat.le_of_eq rfl) (hb hby at_93) (fun _ _ => ⟨rfl, rfl, (by decide : 8 + 0 ≤ _), (by decide : 36 + 0 ≤ _)⟩)
    dsimp only [Pt.U, Pt.locs, Pt.cells, Pt.slots] at X43 l43 y43 z43 st43 hQ43
    subst l43 y43 z43
    obtain ⟨y43_0, y43_1, y43_2, dy43_0, dy43_1, dy43_2, rfl, N43q, K43, hp43, hl43_1, hl43_2, q43_0, q43_1, q43_2, q43_3, q43_4, q43_5, q43_6, q43_7, q43_8, q43_9, q43_10, q43_11, q43_12⟩ := hQ43
    have ne_y43_0_b10 : y43_0 ≠ b10 := hp43.elim (fun q => by rw [q.1]; exact ne_y42_0_b10) (fun q => by rw [q.1]; exact ne_b7_b10)
    have ne_y43_0_b11 : y43_0 ≠ b11 := hp43.elim (fun q => by rw [q.1]; exact ne_y42_0_b11) (fun q => by rw [q.1]; exact ne_b7_b11)
    have g_y43_0 : n0 ≤ y43_0 := hp43.elim (fun q => by rw [q.1]; exact g_y42_0) (fun q => by rw [q.1]; exact g_b7)
    have sz_y43_0 : h0.size ≤ y43_0 := hp43.elim (fun q => by rw [q.1]; exact sz_y42_0) (fun q => by rw [q.1]; exact sz_b7)
    have ne_y43_1_b10 : y43_1 ≠ b10 := hp43.elim (fun q => by rw [q.2.1]; exact ne_y42_1_b10) (fun q => by rw [q.2.1]; exact ne_y42_1_b10)
    have ne_y43_1_b11 : y43_1 ≠ b11 := hp43.elim (fun q => by rw [q.2.1]; exact ne_y42_1_b11) (fun q => by rw [q.2.1]; exact ne_y42_1_b11)
    have ne_y43_0_y43_1 : y43_0 ≠ y43_1 := hp43.elim (fun q => by rw [q.1, q.2.1]; exact ne_y42_0_y42_1) (fun q => by rw [q.1, q.2.1]; exact (Ne.symm ne_y42_1_b7))
    have g_y43_1 : n0 ≤ y43_1 := hp43.elim (fun q => by rw [q.2.1]; exact g_y42_1) (fun q => by rw [q.2.1]; exact g_y42_1)
    have sz_y43_1 : h0.size ≤ y43_1 := hp43.elim (fun q => by rw [q.2.1]; exact sz_y42_1) (fun q => by rw [q.2.1]; exact sz_y42_1)
    have ne_y43_2_b10 : y43_2 ≠ b10 := hp43.elim (fun q => by rw [q.2.2.1]; exact ne_b7_b10) (fun q => by rw [q.2.2.1]; exact ne_y42_0_b10)
    have ne_y43_2_b11 : y43_2 ≠ b11 := hp43.elim (fun q => by rw [q.2.2.1]; exact ne_b7_b11) (fun q => by rw [q.2.2.1]; exact ne_y42_0_b11)
    have ne_y43_0_y43_2 : y43_0 ≠ y43_2 := hp43.elim (fun q => by rw [q.1, q.2.2.1]; exact ne_y42_0_b7) (fun q => by rw [q.1, q.2.2.1]; exact (Ne.symm ne_y42_0_b7))
    have ne_y43_1_y43_2 : y43_1 ≠ y43_2 := hp43.elim (fun q => by rw [q.2.1, q.2.2.1]; exact ne_y42_1_b7) (fun q => by rw [q.2.1, q.2.2.1]; exact (Ne.symm ne_y42_0_y42_1))
    have g_y43_2 : n0 ≤ y43_2 := hp43.elim (fun q => by rw [q.2.2.1]; exact g_b7) (fun q => by rw [q.2.2.1]; exact g_y42_0)
    have sz_y43_2 : h0.size ≤ y43_2 := hp43.elim (fun q => by rw [q.2.2.1]; exact sz_b7) (fun q => by rw [q.2.2.1]; exact sz_y42_0)
    have E_b10 := q43_0
    have F_heap_b10 := q43_1
    have F_size_b10 := q43_2
    have V_b11 := q43_3
    have E_y43_0 := q43_4
    have F_d_y43_0 := q43_5
    have F_p_y43_0 := q43_6
    have E_y43_1 := q43_7
    have F_d_y43_1 := q43_8
    have F_p_y43_1 := q43_9
    have E_y43_2 := q43_10
    have F_d_y43_2 := q43_11
    have F_p_y43_2 := q43_12
    have Kp := Kp.trans K43 (allS (Or.inr sz_b10) (allS (Or.inr sz_b11) (allS (Or.inr sz_b7) (allS (Or.inr sz_y42_0) (allS (Or.inr sz_y42_1) all0)))))
    have Zn := Nat.le_trans Zn K43.1
    have N43 := Fr.app N42 N43q
    refine Run.st (S' := T43.setTop (mkF m 98 #[.val (.long q0), .second, .val (.long q1), .second, .val (.long q2), .second, .val (.int p3), .val (.int p4), .val (.int (3 : Int32)), .val (.ref b1), .val (.ref b4), .val (.ref b7), .val (.ref b10), .unset, .unset, .unset, .unset, .unset, .unset] [(.ref b10)])) (fun _ k => st43.trans (XS.aload X43.here hx rfl (hb hby at_96) rfl rfl k)) ?_
    obtain ⟨cq44, kq44, q44a, q44b, q44c⟩ := isOf hZ rfl E_b10
    obtain ⟨_, _, ⟨T44, L44, k44, n44⟩, -, X44, ⟨Lc44, hQ44, l44, y44, z44⟩, st44⟩ := X43.virtualBack hx (y := (⟨"com/example/keys_to_structures/keystostructures/store/ExpiryQueue", "first", "()Lcom/example/keys_to_structures/keystostructures/store/TimedEntry;"⟩ : MethodName)) (z := (⟨"com/example/keys_to_structures/keystostructures/store/ExpiryQueue", "first", "()Lcom/example/keys_to_structures/keystostructures/store/TimedEntry;"⟩ : MethodName)) hown (mvT hZ (hw _ (List.mem_of_getElem? (i := 69) rfl))) (mvT hZ (hw _ (List.mem_of_getElem? (i := 70) rfl))) (notFace_of_selects (args := #[]) (mvT hZ (hw _ (List.mem_of_getElem? (i := 72) rfl)))) (mvT hZ (hw _ (List.mem_of_getElem? (i := 72) rfl))) (mvT hZ (hw _ (List.mem_of_getElem? (i := 71) rfl))) (by decide) (backOf (W := 0) (rmFi3 l Z aV hw [] b10 b11 kb11 y43_0 (.ref y43_1) (.ref y43_2) T43.heap n0 Zn F_heap_b10 F_size_b10 V_b11) hZ (hw _ (List.mem_of_getElem? (i := 73) rfl)) (hw _ (List.mem_of_getElem? (i := 32) rfl)) (by decide) (by decide)) q44a q44c (g := (mkF m 98 #[.val (.long q0), .second, .val (.long q1), .second, .val (.long q2), .second, .val (.int p3), .val (.int p4), .val (.int (3 : Int32)), .val (.ref b1), .val (.ref b4), .val (.ref b7), .val (.ref b10), .unset, .unset, .unset, .unset, .unset, .unset] [(.ref b10)])) rfl (by rw [hml]; rfl) (Steps.refl _) (argsL := []) (rest := []) (lenOf pd_8 rfl) rfl (by show 2 * 0 + _ ≤ _; exact Nat.le_of_eq rfl) (hb hby at_98) (fun _ _ => ⟨rfl, rfl, (by decide : 8 + 0 ≤ _), (by decide : 36 + 0 ≤ _)⟩)
    dsimp only [Pt.U, Pt.locs, Pt.cells, Pt.slots] at X44 l44 y44 z44 st44 hQ44
    subst l44 y44 z44
    obtain ⟨rfl, N44q, e44⟩ := hQ44
    have N44 := Fr.app N43 N44q
    refine Run.st (S' := T44.setTop (mkF m 116 #[.val (.long q0), .second, .val (.long q1), .second, .val (.long q2), .second, .val (.int p3), .val (.int p4), .val (.int (3 : Int32)), .val (.ref b1), .val (.ref b4), .val (.ref b7), .val (.ref b10), .val (.ref y43_0), .unset, .unset, .unset, .unset, .unset] [(.ref b7), (.ref b4), (.ref b1), (.ref y43_0)])) (fun _ k => st44.trans (XS.astore X44.here hx rfl (hb hby at_101) rfl rfl (l' := #[.val (.long q0), .second, .val (.long q1), .second, .val (.long q2), .second, .val (.int p3), .val (.int p4), .val (.int (3 : Int32)), .val (.ref b1), .val (.ref b4), .val (.ref b7), .val (.ref b10), .val (.ref y43_0), .unset, .unset, .unset, .unset, .unset]) rfl (XS.aload X44.here hx rfl (hb hby at_103) rfl rfl (XS.aload X44.here hx rfl (hb hby at_105) rfl rfl (XS.aload X44.here hx rfl (hb hby at_107) rfl rfl (XS.aload X44.here hx rfl (hb hby at_109) rfl rfl (XS.iload X44.here hx rfl (hb hby at_111) rfl (XS.ifNo X44.here hx rfl (hb hby at_113) rfl ((if0 _ _).trans (tlt (show (0 : Int32) < (3 : Int32) from (by decide))).2.2.2) k)))))))) ?_
    refine Run.st (S' := T44.setTop (mkF m 134 #[.val (.long q0), .second, .val (.long q1), .second, .val (.long q2), .second, .val (.int p3), .val (.int p4), .val (.int (3 : Int32)), .val (.ref b1), .val (.ref b4), .val (.ref b7), .val (.ref b10), .val (.ref y43_0), .unset, .unset, .unset, .unset, .unset] [(.int (3 : Int32)), (.int (1 : Int32)), (.int (1 : Int32)), (.ref b7), (.ref b4), (.ref b1), (.ref y43_0)])) (fun _ k => XS.iconst X44.here hx rfl (hb hby at_116) (XS.goto X44.here hx rfl (pc0 := 117) (pc' := 121) rfl (hb hby at_117) (by decide) (by decide) (XS.iload X44.here hx rfl (hb hby at_121) rfl (XS.iconst X44.here hx rfl (hb hby at_123) (XS.icmpNo X44.here hx rfl (hb hby at_124) rfl (tlt (show (1 : Int32) < (3 : Int32) from (by decide))).2.2.2 (XS.iconst X44.here hx rfl (hb hby at_127) (XS.goto X44.here hx rfl (pc0 := 128) (pc' := 132) rfl (hb hby at_128) (by decide) (by decide) (XS.iload X44.here hx rfl (hb hby at_132) rfl k)))))))) ?_
    refine Run.st (S' := T44.setTop (mkF m 147 #[.val (.long q0), .second, .val (.long q1), .second, .val (.long q2), .second, .val (.int p3), .val (.int p4), .val (.int (3 : Int32)), .val (.ref b1), .val (.ref b4), .val (.ref b7), .val (.ref b10), .val (.ref y43_0), .unset, .unset, .unset, .unset, .unset] [(.long q2), (.long q1), (.long q0), (.int (1 : Int32)), (.int (1 : Int32)), (.int (1 : Int32)), (.ref b7), (.ref b4), (.ref b1), (.ref y43_0)])) (fun _ k => XS.iconst X44.here hx rfl (hb hby at_134) (XS.icmpNo X44.here hx rfl (hb hby at_135) rfl (tlt (show (2 : Int32) < (3 : Int32) from (by decide))).2.2.2 (XS.iconst X44.here hx rfl (hb hby at_138) (XS.goto X44.here hx rfl (pc0 := 139) (pc' := 143) rfl (hb hby at_139) (by decide) (by decide) (XS.lloadN X44.here hx rfl (hb hby at_143) rfl (XS.lloadN X44.here hx rfl (hb hby at_144) rfl (XS.lload X44.here hx rfl (hb hby at_145) rfl k))))))) ?_
    obtain ⟨_, _, ⟨T45, L45, k45, n45⟩, -, X45, ⟨Lc45, hQ45, l45, y45, z45⟩, st45⟩ := Jvm.LawKit.callS X44 hx (y := (⟨"com/example/keys_to_structures/keystostructures/store/ExpiryQueueFirstPinLaw", "isFirst", "(Lcom/example/keys_to_structures/keystostructures/store/TimedEntry;Lcom/example/keys_to_structures/keystostructures/store/TimedEntry;Lcom/example/keys_to_structures/keystostructures/store/TimedEntry;Lcom/example/keys_to_structures/keystostructures/store/TimedEntry;ZZZJJJ)Z"⟩ : MethodName)) hown (mvT hZ (hw _ (List.mem_of_getElem? (i := 74) rfl))) (mvT hZ (hw _ (List.mem_of_getElem? (i := 75) rfl))) (mvT hZ (hw _ (List.mem_of_getElem? (i := 76) rfl))) (mvT hZ (hw _ (List.mem_of_getElem? (i := 77) rfl))) (by decide) (backOf (W := 0) (rmIsF l Z aV hw [] y43_0 b1 b4 b7 (1 : Int32) (1 : Int32) (1 : Int32) q0 q1 q2 T43.heap n0 Zn (by decide)) hZ (hw _ (List.mem_of_getElem? (i := 77) rfl)) (hw _ (List.mem_of_getElem? (i := 76) rfl)) (by decide) (by decide)) (g := (mkF m 147 #[.val (.long q0), .second, .val (.long q1), .second, .val (.long q2), .second, .val (.int p3), .val (.int p4), .val (.int (3 : Int32)), .val (.ref b1), .val (.ref b4), .val (.ref b7), .val (.ref b10), .val (.ref y43_0), .unset, .unset, .unset, .unset, .unset] [(.long q2), (.long q1), (.long q0), (.int (1 : Int32)), (.int (1 : Int32)), (.int (1 : Int32)), (.ref b7), (.ref b4), (.ref b1), (.ref y43_0)])) rfl (by rw [hml]; rfl) (argsL := [(.ref y43_0), (.ref b1), (.ref b4), (.ref b7), (.int (1 : Int32)), (.int (1 : Int32)), (.int (1 : Int32)), (.long q0), (.long q1), (.long q2)]) (rest := []) (lenOf pd_9 rfl) rfl (by show 2 * 0 + _ ≤ _; exact Nat.le_of_eq rfl) (hb hby at_147) (fun _ _ => ⟨rfl, e44, (by decide : 8 + 0 ≤ _), (by decide : 36 + 0 ≤ _)⟩)
    dsimp only [Pt.U, Pt.locs, Pt.cells, Pt.slots] at X45 l45 y45 z45 st45 hQ45
    subst l45 y45 z45
    obtain ⟨rfl, N45q, e45⟩ := hQ45
    have N45 := Fr.app N44 N45q
    have hv45 : (own_isF y43_0 b1 b4 b7 (1 : Int32) (1 : Int32) (1 : Int32) q0 q1 q2) = (1 : Int32) := own_L3 _ _ _ _ _ _ _ _ _ _ _ _ _ _ _ _ hp42 hp43 hl43_1 hl43_2
    refine Run.st (S' := T45.setTop (mkF m 156 #[.val (.long q0), .second, .val (.long q1), .second, .val (.long q2), .second, .val (.int p3), .val (.int p4), .val (.int (3 : Int32)), .val (.ref b1), .val (.ref b4), .val (.ref b7), .val (.ref b10), .val (.ref y43_0), .val (.int (own_isF y43_0 b1 b4 b7 (1 : Int32) (1 : Int32) (1 : Int32) q0 q1 q2)), .unset, .unset, .unset, .unset] [(.int (p4 &&& (4 : Int32)))])) (fun _ k => st45 _ (XS.istore X45.here hx rfl (hb hby at_150) rfl (l' := #[.val (.long q0), .second, .val (.long q1), .second, .val (.long q2), .second, .val (.int p3), .val (.int p4), .val (.int (3 : Int32)), .val (.ref b1), .val (.ref b4), .val (.ref b7), .val (.ref b10), .val (.ref y43_0), .val (.int (own_isF y43_0 b1 b4 b7 (1 : Int32) (1 : Int32) (1 : Int32) q0 q1 q2)), .unset, .unset, .unset, .unset]) rfl (XS.iload X45.here hx rfl (hb hby at_152) rfl (XS.iconst X45.here hx rfl (hb hby at_154) (XS.iand X45.here hx rfl (hb hby at_155) rfl k))))) ?_
    by_cases hc156_46 : (p4 &&& (4 : Int32)) = (0 : Int32)
    · refine Run.st (S' := T45.setTop (mkF m 231 #[.val (.long q0), .second, .val (.long q1), .second, .val (.long q2), .second, .val (.int p3), .val (.int p4), .val (.int (3 : Int32)), .val (.ref b1), .val (.ref b4), .val (.ref b7), .val (.ref b10), .val (.ref y43_0), .val (.int (own_isF y43_0 b1 b4 b7 (1 : Int32) (1 : Int32) (1 : Int32) q0 q1 q2)), .val (.int (0 : Int32)), .val (.int (-1 : Int32)), .unset, .unset] [(.ref b10)])) (fun _ k => XS.ifYes X45.here hx rfl (pc0 := 156) (pc' := 168) rfl (hb hby at_156) rfl ((if0 _ _).trans (teq hc156_46).1) (by decide) (by decide) (XS.iconst X45.here hx rfl (hb hby at_168) (XS.istore X45.here hx rfl (hb hby at_169) rfl (l' := #[.val (.long q0), .second, .val (.long q1), .second, .val (.long q2), .second, .val (.int p3), .val (.int p4), .val (.int (3 : Int32)), .val (.ref b1), .val (.ref b4), .val (.ref b7), .val (.ref b10), .val (.ref y43_0), .val (.int (own_isF y43_0 b1 b4 b7 (1 : Int32) (1 : Int32) (1 : Int32) q0 q1 q2)), .val (.int (0 : Int32)), .unset, .unset, .unset]) rfl (XS.iconst X45.here hx rfl (hb hby at_171) (XS.istore X45.here hx rfl (hb hby at_172) rfl (l' := #[.val (.long q0), .second, .val (.long q1), .second, .val (.long q2), .second, .val (.int p3), .val (.int p4), .val (.int (3 : Int32)), .val (.ref b1), .val (.ref b4), .val (.ref b7), .val (.ref b10), .val (.ref y43_0), .val (.int (own_isF y43_0 b1 b4 b7 (1 : Int32) (1 : Int32) (1 : Int32) q0 q1 q2)), .val (.int (0 : Int32)), .val (.int (-1 : Int32)), .unset, .unset]) rfl (XS.iload X45.here hx rfl (hb hby at_174) rfl (XS.ifYes X45.here hx rfl (pc0 := 176) (pc' := 229) rfl (hb hby at_176) rfl ((if0 _ _).trans (teq (show (0 : Int32) = (0 : Int32) from (by decide))).1) (by decide) (by decide) (XS.aload X45.here hx rfl (hb hby at_229) rfl rfl k)))))))) ?_
      obtain ⟨cq47, kq47, q47a, q47b, q47c⟩ := isOf hZ e45 E_b10
      obtain ⟨_, _, ⟨T47, L47, k47, n47⟩, -, X47, ⟨Lc47, hQ47, l47, y47, z47⟩, st47⟩ := X45.virtualBack hx (y := (⟨"com/example/keys_to_structures/keystostructures/store/ExpiryQueue", "first", "()Lcom/example/keys_to_structures/keystostructures/store/TimedEntry;"⟩ : MethodName)) (z := (⟨"com/example/keys_to_structures/keystostructures/store/ExpiryQueue", "first", "()Lcom/example/keys_to_structures/keystostructures/store/TimedEntry;"⟩ : MethodName)) hown (mvT hZ (hw _ (List.mem_of_getElem? (i := 69) rfl))) (mvT hZ (hw _ (List.mem_of_getElem? (i := 70) rfl))) (notFace_of_selects (args := #[]) (mvT hZ (hw _ (List.mem_of_getElem? (i := 72) rfl)))) (mvT hZ (hw _ (List.mem_of_getElem? (i := 72) rfl))) (mvT hZ (hw _ (List.mem_of_getElem? (i := 71) rfl))) (by decide) (backOf (W := 0) (rmFi3 l Z aV hw [] b10 b11 kb11 y43_0 (.ref y43_1) (.ref y43_2) T43.heap n0 Zn F_heap_b10 F_size_b10 V_b11) hZ (hw _ (List.mem_of_getElem? (i := 73) rfl)) (hw _ (List.mem_of_getElem? (i := 32) rfl)) (by decide) (by decide)) q47a q47c (g := (mkF m 231 #[.val (.long q0), .second, .val (.long q1), .second, .val (.long q2), .second, .val (.int p3), .val (.int p4), .val (.int (3 : Int32)), .val (.ref b1), .val (.ref b4), .val (.ref b7), .val (.ref b10), .val (.ref y43_0), .val (.int (own_isF y43_0 b1 b4 b7 (1 : Int32) (1 : Int32) (1 : Int32) q0 q1 q2)), .val (.int (0 : Int32)), .val (.int (-1 : Int32)), .unset, .unset] [(.ref b10)])) rfl (by rw [hml]; rfl) (Steps.refl _) (argsL := []) (rest := []) (lenOf pd_8 rfl) rfl (by show 2 * 0 + _ ≤ _; exact Nat.le_of_eq rfl) (hb hby at_231) (fun _ _ => ⟨rfl, e45, (by decide : 8 + 0 ≤ _), (by decide : 36 + 0 ≤ _)⟩)
      dsimp only [Pt.U, Pt.locs, Pt.cells, Pt.slots] at X47 l47 y47 z47 st47 hQ47
      subst l47 y47 z47
      obtain ⟨rfl, N47q, e47⟩ := hQ47
      have N47 := Fr.app N45 N47q
      refine Run.st (S' := T47.setTop (mkF m 249 #[.val (.long q0), .second, .val (.long q1), .second, .val (.long q2), .second, .val (.int p3), .val (.int p4), .val (.int (3 : Int32)), .val (.ref b1), .val (.ref b4), .val (.ref b7), .val (.ref b10), .val (.ref y43_0), .val (.int (own_isF y43_0 b1 b4 b7 (1 : Int32) (1 : Int32) (1 : Int32) q0 q1 q2)), .val (.int (0 : Int32)), .val (.int (-1 : Int32)), .val (.ref y43_0), .unset] [(.ref b7), (.ref b4), (.ref b1), (.ref y43_0)])) (fun _ k => st47.trans (XS.astore X47.here hx rfl (hb hby at_234) rfl rfl (l' := #[.val (.long q0), .second, .val (.long q1), .second, .val (.long q2), .second, .val (.int p3), .val (.int p4), .val (.int (3 : Int32)), .val (.ref b1), .val (.ref b4), .val (.ref b7), .val (.ref b10), .val (.ref y43_0), .val (.int (own_isF y43_0 b1 b4 b7 (1 : Int32) (1 : Int32) (1 : Int32) q0 q1 q2)), .val (.int (0 : Int32)), .val (.int (-1 : Int32)), .val (.ref y43_0), .unset]) rfl (XS.aload X47.here hx rfl (hb hby at_236) rfl rfl (XS.aload X47.here hx rfl (hb hby at_238) rfl rfl (XS.aload X47.here hx rfl (hb hby at_240) rfl rfl (XS.aload X47.here hx rfl (hb hby at_242) rfl rfl (XS.iload X47.here hx rfl (hb hby at_244) rfl (XS.ifNo X47.here hx rfl (hb hby at_246) rfl ((if0 _ _).trans (tlt (show (0 : Int32) < (3 : Int32) from (by decide))).2.2.2) k)))))))) ?_
      refine Run.st (S' := T47.setTop (mkF m 267 #[.val (.long q0), .second, .val (.long q1), .second, .val (.long q2), .second, .val (.int p3), .val (.int p4), .val (.int (3 : Int32)), .val (.ref b1), .val (.ref b4), .val (.ref b7), .val (.ref b10), .val (.ref y43_0), .val (.int (own_isF y43_0 b1 b4 b7 (1 : Int32) (1 : Int32) (1 : Int32) q0 q1 q2)), .val (.int (0 : Int32)), .val (.int (-1 : Int32)), .val (.ref y43_0), .unset] [(.int (-1 : Int32)), (.int (1 : Int32)), (.ref b7), (.ref b4), (.ref b1), (.ref y43_0)])) (fun _ k => XS.iload X47.here hx rfl (hb hby at_249) rfl (XS.ifNo X47.here hx rfl (hb hby at_251) rfl ((if0 _ _).trans (feq (show ¬ ((-1 : Int32) = (0 : Int32)) from (by decide))).1) (XS.iconst X47.here hx rfl (hb hby at_254) (XS.goto X47.here hx rfl (pc0 := 255) (pc' := 259) rfl (hb hby at_255) (by decide) (by decide) (XS.iload X47.here hx rfl (hb hby at_259) rfl (XS.iconst X47.here hx rfl (hb hby at_261) (XS.icmpNo X47.here hx rfl (hb hby at_262) rfl (tlt (show (1 : Int32) < (3 : Int32) from (by decide))).2.2.2 (XS.iload X47.here hx rfl (hb hby at_265) rfl k)))))))) ?_
      refine Run.st (S' := T47.setTop (mkF m 284 #[.val (.long q0), .second, .val (.long q1), .second, .val (.long q2), .second, .val (.int p3), .val (.int p4), .val (.int (3 : Int32)), .val (.ref b1), .val (.ref b4), .val (.ref b7), .val (.ref b10), .val (.ref y43_0), .val (.int (own_isF y43_0 b1 b4 b7 (1 : Int32) (1 : Int32) (1 : Int32) q0 q1 q2)), .val (.int (0 : Int32)), .val (.int (-1 : Int32)), .val (.ref y43_0), .unset] [(.int (-1 : Int32)), (.int (1 : Int32)), (.int (1 : Int32)), (.ref b7), (.ref b4), (.ref b1), (.ref y43_0)])) (fun _ k => XS.iconst X47.here hx rfl (hb hby at_267) (XS.icmpNo X47.here hx rfl (hb hby at_268) rfl (feq (show ¬ ((-1 : Int32) = (1 : Int32)) from (by decide))).1 (XS.iconst X47.here hx rfl (hb hby at_271) (XS.goto X47.here hx rfl (pc0 := 272) (pc' := 276) rfl (hb hby at_272) (by decide) (by decide) (XS.iload X47.here hx rfl (hb hby at_276) rfl (XS.iconst X47.here hx rfl (hb hby at_278) (XS.icmpNo X47.here hx rfl (hb hby at_279) rfl (tlt (show (2 : Int32) < (3 : Int32) from (by decide))).2.2.2 (XS.iload X47.here hx rfl (hb hby at_282) rfl k)))))))) ?_
      refine Run.st (S' := T47.setTop (mkF m 297 #[.val (.long q0), .second, .val (.long q1), .second, .val (.long q2), .second, .val (.int p3), .val (.int p4), .val (.int (3 : Int32)), .val (.ref b1), .val (.ref b4), .val (.ref b7), .val (.ref b10), .val (.ref y43_0), .val (.int (own_isF y43_0 b1 b4 b7 (1 : Int32) (1 : Int32) (1 : Int32) q0 q1 q2)), .val (.int (0 : Int32)), .val (.int (-1 : Int32)), .val (.ref y43_0), .unset] [(.long q2), (.long q1), (.long q0), (.int (1 : Int32)), (.int (1 : Int32)), (.int (1 : Int32)), (.ref b7), (.ref b4), (.ref b1), (.ref y43_0)])) (fun _ k => XS.iconst X47.here hx rfl (hb hby at_284) (XS.icmpNo X47.here hx rfl (hb hby at_285) rfl (feq (show ¬ ((-1 : Int32) = (2 : Int32)) from (by decide))).1 (XS.iconst X47.here hx rfl (hb hby at_288) (XS.goto X47.here hx rfl (pc0 := 289) (pc' := 293) rfl (hb hby at_289) (by decide) (by decide) (XS.lloadN X47.here hx rfl (hb hby at_293) rfl (XS.lloadN X47.here hx rfl (hb hby at_294) rfl (XS.lload X47.here hx rfl (hb hby at_295) rfl k))))))) ?_
      obtain ⟨_, _, ⟨T48, L48, k48, n48⟩, -, X48, ⟨Lc48, hQ48, l48, y48, z48⟩, st48⟩ := Jvm.LawKit.callS X47 hx (y := (⟨"com/example/keys_to_structures/keystostructures/store/ExpiryQueueFirstPinLaw", "isFirst", "(Lcom/example/keys_to_structures/keystostructures/store/TimedEntry;Lcom/example/keys_to_structures/keystostructures/store/TimedEntry;Lcom/example/keys_to_structures/keystostructures/store/TimedEntry;Lcom/example/keys_to_structures/keystostructures/store/TimedEntry;ZZZJJJ)Z"⟩ : MethodName)) hown (mvT hZ (hw _ (List.mem_of_getElem? (i := 74) rfl))) (mvT hZ (hw _ (List.mem_of_getElem? (i := 75) rfl))) (mvT hZ (hw _ (List.mem_of_getElem? (i := 76) rfl))) (mvT hZ (hw _ (List.mem_of_getElem? (i := 77) rfl))) (by decide) (backOf (W := 0) (rmIsF l Z aV hw [] y43_0 b1 b4 b7 (1 : Int32) (1 : Int32) (1 : Int32) q0 q1 q2 T43.heap n0 Zn (by decide)) hZ (hw _ (List.mem_of_getElem? (i := 77) rfl)) (hw _ (List.mem_of_getElem? (i := 76) rfl)) (by decide) (by decide)) (g := (mkF m 297 #[.val (.long q0), .second, .val (.long q1), .second, .val (.long q2), .second, .val (.int p3), .val (.int p4), .val (.int (3 : Int32)), .val (.ref b1), .val (.ref b4), .val (.ref b7), .val (.ref b10), .val (.ref y43_0), .val (.int (own_isF y43_0 b1 b4 b7 (1 : Int32) (1 : Int32) (1 : Int32) q0 q1 q2)), .val (.int (0 : Int32)), .val (.int (-1 : Int32)), .val (.ref y43_0), .unset] [(.long q2), (.long q1), (.long q0), (.int (1 : Int32)), (.int (1 : Int32)), (.int (1 : Int32)), (.ref b7), (.ref b4), (.ref b1), (.ref y43_0)])) rfl (by rw [hml]; rfl) (argsL := [(.ref y43_0), (.ref b1), (.ref b4), (.ref b7), (.int (1 : Int32)), (.int (1 : Int32)), (.int (1 : Int32)), (.long q0), (.long q1), (.long q2)]) (rest := []) (lenOf pd_9 rfl) rfl (by show 2 * 0 + _ ≤ _; exact Nat.le_of_eq rfl) (hb hby at_297) (fun _ _ => ⟨rfl, e47, (by decide : 8 + 0 ≤ _), (by decide : 36 + 0 ≤ _)⟩)
      dsimp only [Pt.U, Pt.locs, Pt.cells, Pt.slots] at X48 l48 y48 z48 st48 hQ48
      subst l48 y48 z48
      obtain ⟨rfl, N48q, e48⟩ := hQ48
      have N48 := Fr.app N47 N48q
      refine Run.st (S' := T48.setTop (mkF m 317 #[.val (.long q0), .second, .val (.long q1), .second, .val (.long q2), .second, .val (.int p3), .val (.int p4), .val (.int (3 : Int32)), .val (.ref b1), .val (.ref b4), .val (.ref b7), .val (.ref b10), .val (.ref y43_0), .val (.int (own_isF y43_0 b1 b4 b7 (1 : Int32) (1 : Int32) (1 : Int32) q0 q1 q2)), .val (.int (0 : Int32)), .val (.int (-1 : Int32)), .val (.ref y43_0), .val (.int (own_isF y43_0 b1 b4 b7 (1 : Int32) (1 : Int32) (1 : Int32) q0 q1 q2))] [(.int (1 : Int32))])) (fun _ k => st48 _ (XS.istore X48.here hx rfl (hb hby at_300) rfl (l' := #[.val (.long q0), .second, .val (.long q1), .second, .val (.long q2), .second, .val (.int p3), .val (.int p4), .val (.int (3 : Int32)), .val (.ref b1), .val (.ref b4), .val (.ref b7), .val (.ref b10), .val (.ref y43_0), .val (.int (own_isF y43_0 b1 b4 b7 (1 : Int32) (1 : Int32) (1 : Int32) q0 q1 q2)), .val (.int (0 : Int32)), .val (.int (-1 : Int32)), .val (.ref y43_0), .val (.int (own_isF y43_0 b1 b4 b7 (1 : Int32) (1 : Int32) (1 : Int32) q0 q1 q2))]) rfl (XS.iload X48.here hx rfl (hb hby at_302) rfl (XS.ifNo X48.here hx rfl (hb hby at_304) rfl ((if0 _ _).trans (feq (show ¬ ((own_isF y43_0 b1 b4 b7 (1 : Int32) (1 : Int32) (1 : Int32) q0 q1 q2) = (0 : Int32)) from (by rw [hv45]; decide))).1) (XS.iload X48.here hx rfl (hb hby at_307) rfl (XS.ifNo X48.here hx rfl (hb hby at_309) rfl ((if0 _ _).trans (feq (show ¬ ((own_isF y43_0 b1 b4 b7 (1 : Int32) (1 : Int32) (1 : Int32) q0 q1 q2) = (0 : Int32)) from (by rw [hv45]; decide))).1) (XS.iconst X48.here hx rfl (hb hby at_312) (XS.goto X48.here hx rfl (pc0 := 313) (pc' := 317) rfl (hb hby at_313) (by decide) (by decide) k)))))))) ?_
      refine Run.out X48 hx Bd.notSynchronized Bd.returns rfl (Or.inl ⟨rfl, by simp, _, rfl⟩) (hb hby at_317) (by decide) (by decide) ?_
      rw [e48]
      exact ⟨rfl, N48⟩
    · refine Run.st (S' := T45.setTop (mkF m 174 #[.val (.long q0), .second, .val (.long q1), .second, .val (.long q2), .second, .val (.int p3), .val (.int p4), .val (.int (3 : Int32)), .val (.ref b1), .val (.ref b4), .val (.ref b7), .val (.ref b10), .val (.ref y43_0), .val (.int (own_isF y43_0 b1 b4 b7 (1 : Int32) (1 : Int32) (1 : Int32) q0 q1 q2)), .val (.int (1 : Int32)), .val (.int (-1 : Int32)), .unset, .unset] [])) (fun _ k => XS.ifNo X45.here hx rfl (hb hby at_156) rfl ((if0 _ _).trans (feq hc156_46).1) (XS.iload X45.here hx rfl (hb hby at_159) rfl (XS.ifNo X45.here hx rfl (hb hby at_161) rfl ((if0 _ _).trans (tlt (show (0 : Int32) < (3 : Int32) from (by decide))).2.2.2) (XS.iconst X45.here hx rfl (hb hby at_164) (XS.goto X45.here hx rfl (pc0 := 165) (pc' := 169) rfl (hb hby at_165) (by decide) (by decide) (XS.istore X45.here hx rfl (hb hby at_169) rfl (l' := #[.val (.long q0), .second, .val (.long q1), .second, .val (.long q2), .second, .val (.int p3), .val (.int p4), .val (.int (3 : Int32)), .val (.ref b1), .val (.ref b4), .val (.ref b7), .val (.ref b10), .val (.ref y43_0), .val (.int (own_isF y43_0 b1 b4 b7 (1 : Int32) (1 : Int32) (1 : Int32) q0 q1 q2)), .val (.int (1 : Int32)), .unset, .unset, .unset]) rfl (XS.iconst X45.here hx rfl (hb hby at_171) (XS.istore X45.here hx rfl (hb hby at_172) rfl (l' := #[.val (.long q0), .second, .val (.long q1), .second, .val (.long q2), .second, .val (.int p3), .val (.int p4), .val (.int (3 : Int32)), .val (.ref b1), .val (.ref b4), .val (.ref b7), .val (.ref b10), .val (.ref y43_0), .val (.int (own_isF y43_0 b1 b4 b7 (1 : Int32) (1 : Int32) (1 : Int32) q0 q1 q2)), .val (.int (1 : Int32)), .val (.int (-1 : Int32)), .unset, .unset]) rfl k)))))))) ?_
      refine Run.st (S' := T45.setTop (mkF m 188 #[.val (.long q0), .second, .val (.long q1), .second, .val (.long q2), .second, .val (.int p3), .val (.int p4), .val (.int (3 : Int32)), .val (.ref b1), .val (.ref b4), .val (.ref b7), .val (.ref b10), .val (.ref y43_0), .val (.int (own_isF y43_0 b1 b4 b7 (1 : Int32) (1 : Int32) (1 : Int32) q0 q1 q2)), .val (.int (1 : Int32)), .val (.int (-1 : Int32)), .unset, .unset] [(.int (3 : Int32)), (.int (((p4.toUInt32 >>> ((3 : Int32) &&& 31).toUInt32).toInt32) &&& (2147483647 : Int32)))])) (fun _ k => XS.iload X45.here hx rfl (hb hby at_174) rfl (XS.ifNo X45.here hx rfl (hb hby at_176) rfl ((if0 _ _).trans (feq (show ¬ ((1 : Int32) = (0 : Int32)) from (by decide))).1) (XS.iload X45.here hx rfl (hb hby at_179) rfl (XS.iconst X45.here hx rfl (hb hby at_181) (XS.iushr X45.here hx rfl (hb hby at_182) rfl (X45.ldcInt hx hown (mvT hZ (hw _ (List.mem_of_getElem? (i := 79) rfl))) (g := (mkF m 183 #[.val (.long q0), .second, .val (.long q1), .second, .val (.long q2), .second, .val (.int p3), .val (.int p4), .val (.int (3 : Int32)), .val (.ref b1), .val (.ref b4), .val (.ref b7), .val (.ref b10), .val (.ref y43_0), .val (.int (own_isF y43_0 b1 b4 b7 (1 : Int32) (1 : Int32) (1 : Int32) q0 q1 q2)), .val (.int (1 : Int32)), .val (.int (-1 : Int32)), .unset, .unset] [(.int ((p4.toUInt32 >>> ((3 : Int32) &&& 31).toUInt32).toInt32))])) rfl (hb hby at_183) _ (XS.iand X45.here hx rfl (hb hby at_185) rfl (XS.iload X45.here hx rfl (hb hby at_186) rfl k)))))))) ?_
      refine Run.st (S' := T45.setTop (mkF m 191 #[.val (.long q0), .second, .val (.long q1), .second, .val (.long q2), .second, .val (.int p3), .val (.int p4), .val (.int (3 : Int32)), .val (.ref b1), .val (.ref b4), .val (.ref b7), .val (.ref b10), .val (.ref y43_0), .val (.int (own_isF y43_0 b1 b4 b7 (1 : Int32) (1 : Int32) (1 : Int32) q0 q1 q2)), .val (.int (1 : Int32)), .val (.int ((((p4.toUInt32 >>> ((3 : Int32) &&& 31).toUInt32).toInt32) &&& (2147483647 : Int32)) % (3 : Int32))), .unset, .unset] [])) (fun _ k => iremM X45 hx rfl (hb hby at_188) rfl (by decide) (XS.istore X45.here hx rfl (hb hby at_189) rfl (l' := #[.val (.long q0), .second, .val (.long q1), .second, .val (.long q2), .second, .val (.int p3), .val (.int p4), .val (.int (3 : Int32)), .val (.ref b1), .val (.ref b4), .val (.ref b7), .val (.ref b10), .val (.ref y43_0), .val (.int (own_isF y43_0 b1 b4 b7 (1 : Int32) (1 : Int32) (1 : Int32) q0 q1 q2)), .val (.int (1 : Int32)), .val (.int ((((p4.toUInt32 >>> ((3 : Int32) &&& 31).toUInt32).toInt32) &&& (2147483647 : Int32)) % (3 : Int32))), .unset, .unset]) rfl k)) ?_
      have hkk : 0 ≤ (((((p4.toUInt32 >>> ((3 : Int32) &&& 31).toUInt32).toInt32) &&& (2147483647 : Int32)) % (3 : Int32))).toInt ∧ (((((p4.toUInt32 >>> ((3 : Int32) &&& 31).toUInt32).toInt32) &&& (2147483647 : Int32)) % (3 : Int32))).toInt < 3 := (by have := rng32 ((((p4.toUInt32 >>> ((3 : Int32) &&& 31).toUInt32).toInt32) &&& (2147483647 : Int32)) % (3 : Int32)); have := c_irem (((p4.toUInt32 >>> ((3 : Int32) &&& 31).toUInt32).toInt32) &&& (2147483647 : Int32)) (3 : Int32) 3 (by decide); have := rng32 (((p4.toUInt32 >>> ((3 : Int32) &&& 31).toUInt32).toInt32) &&& (2147483647 : Int32)); have := c_mask ((p4.toUInt32 >>> ((3 : Int32) &&& 31).toUInt32).toInt32) (2147483647 : Int32) 31 (by decide) (by decide); have := rng32 ((p4.toUInt32 >>> ((3 : Int32) &&& 31).toUInt32).toInt32); have := c_iushr p4 (3 : Int32) 3 (by decide) (by decide); have := rng32 p4; (try simp only [Int32.lt_iff_toInt_lt, Int64.lt_iff_toInt_lt, Int32.le_iff_toInt_le, Int64.le_iff_toInt_le, ← Int32.toInt_inj, ← Int64.toInt_inj] at  ⊢); omega)
      generalize ekk : ((((p4.toUInt32 >>> ((3 : Int32) &&& 31).toUInt32).toInt32) &&& (2147483647 : Int32)) % (3 : Int32)) = kk at hkk ⊢
      rcases own_c3 hkk with rfl | rfl | rfl
      · refine Run.st (S' := T45.setTop (mkF m 200 #[.val (.long q0), .second, .val (.long q1), .second, .val (.long q2), .second, .val (.int p3), .val (.int p4), .val (.int (3 : Int32)), .val (.ref b1), .val (.ref b4), .val (.ref b7), .val (.ref b10), .val (.ref y43_0), .val (.int (own_isF y43_0 b1 b4 b7 (1 : Int32) (1 : Int32) (1 : Int32) q0 q1 q2)), .val (.int (1 : Int32)), .val (.int (0 : Int32)), .unset, .unset] [(.ref b1), (.ref b10)])) (fun _ k => XS.iload X45.here hx rfl (hb hby at_191) rfl (XS.ifNo X45.here hx rfl (hb hby at_193) rfl ((if0 _ _).trans (teq (show (0 : Int32) = (0 : Int32) from (by decide))).2) (XS.aload X45.here hx rfl (hb hby at_196) rfl rfl (XS.aload X45.here hx rfl (hb hby at_198) rfl rfl k)))) ?_
        obtain ⟨cq49, kq49, q49a, q49b, q49c⟩ := isOf hZ e45 E_b10
        obtain ⟨_, _, ⟨T49, L49, k49, n49⟩, -, X49, ⟨Lc49, hQ49, l49, y49, z49⟩, st49⟩ := X45.virtualBack hx (y := (⟨"com/example/keys_to_structures/keystostructures/store/ExpiryQueue", "remove", "(Lcom/example/keys_to_structures/keystostructures/store/TimedEntry;)V"⟩ : MethodName)) (z := (⟨"com/example/keys_to_structures/keystostructures/store/ExpiryQueue", "remove", "(Lcom/example/keys_to_structures/keystostructures/store/TimedEntry;)V"⟩ : MethodName)) hown (mvT hZ (hw _ (List.mem_of_getElem? (i := 80) rfl))) (mvT hZ (hw _ (List.mem_of_getElem? (i := 81) rfl))) (notFace_of_selects (args := #[]) (mvT hZ (hw _ (List.mem_of_getElem? (i := 83) rfl)))) (mvT hZ (hw _ (List.mem_of_getElem? (i := 83) rfl))) (mvT hZ (hw _ (List.mem_of_getElem? (i := 82) rfl))) (by decide) (backOf (W := 0) (rmRm3c l Z aV hw [] b10 b1 b11 kb11 y43_0 dy43_0 y43_1 dy43_1 y43_2 dy43_2 T43.heap n0 Zn g_b10 g_b11 O_kb11 g_y43_0 g_y43_1 g_y43_2 E_b10 F_heap_b10 F_size_b10 V_b11 E_y43_0 F_d_y43_0 F_p_y43_0 E_y43_1 F_d_y43_1 F_p_y43_1 E_y43_2 F_d_y43_2 F_p_y43_2 ne_b10_b11 (Ne.symm ne_y43_0_b10) (Ne.symm ne_y43_1_b10) (Ne.symm ne_y43_2_b10) (Ne.symm ne_y43_0_b11) (Ne.symm ne_y43_1_b11) (Ne.symm ne_y43_2_b11) ne_y43_0_y43_1 ne_y43_0_y43_2 ne_y43_1_y43_2 hl43_2 (own_mem3 _ _ _ _ _ _ _ _ _ _ _ _ _ _ _ _ hp42 hp43).1) hZ (hw _ (List.mem_of_getElem? (i := 84) rfl)) (hw _ (List.mem_of_getElem? (i := 32) rfl)) (by decide) (by decide)) q49a q49c (g := (mkF m 200 #[.val (.long q0), .second, .val (.long q1), .second, .val (.long q2), .second, .val (.int p3), .val (.int p4), .val (.int (3 : Int32)), .val (.ref b1), .val (.ref b4), .val (.ref b7), .val (.ref b10), .val (.ref y43_0), .val (.int (own_isF y43_0 b1 b4 b7 (1 : Int32) (1 : Int32) (1 : Int32) q0 q1 q2)), .val (.int (1 : Int32)), .val (.int (0 : Int32)), .unset, .unset] [(.ref b1), (.ref b10)])) rfl (by rw [hml]; rfl) (Steps.refl _) (argsL := [(.ref b1)]) (rest := []) (lenOf pd_10 rfl) rfl (by show 2 * 0 + _ ≤ _; exact Nat.le_of_eq rfl) (hb hby at_200) (fun _ _ => ⟨rfl, e45, (by decide : 8 + 0 ≤ _), (by decide : 36 + 0 ≤ _)⟩)
        dsimp only [Pt.U, Pt.locs, Pt.cells, Pt.slots] at X49 l49 y49 z49 st49 hQ49
        subst l49 y49 z49
        obtain ⟨z49, dz49, w49, rfl, N49q, K49, hr49, q49_0, q49_1, q49_2, q49_3⟩ := hQ49
        have E_b10 := q49_0
        have F_heap_b10 := q49_1
        have F_size_b10 := q49_2
        have V_b11 := q49_3
        have Kp := Kp.trans K49 (allS (Or.inr sz_b10) (allS (Or.inr sz_b11) (allS (Or.inr sz_y43_0) (allS (Or.inr sz_y43_1) (allS (Or.inr sz_y43_2) all0)))))
        have Zn := Nat.le_trans Zn K49.1
        have N49 := Fr.app N45 N49q
        refine Run.st (S' := T49.setTop (mkF m 231 #[.val (.long q0), .second, .val (.long q1), .second, .val (.long q2), .second, .val (.int p3), .val (.int p4), .val (.int (3 : Int32)), .val (.ref b1), .val (.ref b4), .val (.ref b7), .val (.ref b10), .val (.ref y43_0), .val (.int (own_isF y43_0 b1 b4 b7 (1 : Int32) (1 : Int32) (1 : Int32) q0 q1 q2)), .val (.int (1 : Int32)), .val (.int (0 : Int32)), .unset, .unset] [(.ref b10)])) (fun _ k => st49.trans (XS.goto X49.here hx rfl (pc0 := 203) (pc' := 229) rfl (hb hby at_203) (by decide) (by decide) (XS.aload X49.here hx rfl (hb hby at_229) rfl rfl k))) ?_
        obtain ⟨cq50, kq50, q50a, q50b, q50c⟩ := isOf hZ rfl E_b10
        obtain ⟨_, _, ⟨T50, L50, k50, n50⟩, -, X50, ⟨Lc50, hQ50, l50, y50, z50⟩, st50⟩ := X49.virtualBack hx (y := (⟨"com/example/keys_to_structures/keystostructures/store/ExpiryQueue", "first", "()Lcom/example/keys_to_structures/keystostructures/store/TimedEntry;"⟩ : MethodName)) (z := (⟨"com/example/keys_to_structures/keystostructures/store/ExpiryQueue", "first", "()Lcom/example/keys_to_structures/keystostructures/store/TimedEntry;"⟩ : MethodName)) hown (mvT hZ (hw _ (List.mem_of_getElem? (i := 69) rfl))) (mvT hZ (hw _ (List.mem_of_getElem? (i := 70) rfl))) (notFace_of_selects (args := #[]) (mvT hZ (hw _ (List.mem_of_getElem? (i := 72) rfl)))) (mvT hZ (hw _ (List.mem_of_getElem? (i := 72) rfl))) (mvT hZ (hw _ (List.mem_of_getElem? (i := 71) rfl))) (by decide) (backOf (W := 0) (rmFi2 l Z aV hw [] b10 b11 kb11 z49 w49 .null T49.heap n0 Zn F_heap_b10 F_size_b10 V_b11) hZ (hw _ (List.mem_of_getElem? (i := 73) rfl)) (hw _ (List.mem_of_getElem? (i := 32) rfl)) (by decide) (by decide)) q50a q50c (g := (mkF m 231 #[.val (.long q0), .second, .val (.long q1), .second, .val (.long q2), .second, .val (.int p3), .val (.int p4), .val (.int (3 : Int32)), .val (.ref b1), .val (.ref b4), .val (.ref b7), .val (.ref b10), .val (.ref y43_0), .val (.int (own_isF y43_0 b1 b4 b7 (1 : Int32) (1 : Int32) (1 : Int32) q0 q1 q2)), .val (.int (1 : Int32)), .val (.int (0 : Int32)), .unset, .unset] [(.ref b10)])) rfl (by rw [hml]; rfl) (Steps.refl _) (argsL := []) (rest := []) (lenOf pd_8 rfl) rfl (by show 2 * 0 + _ ≤ _; exact Nat.le_of_eq rfl) (hb hby at_231) (fun _ _ => ⟨rfl, rfl, (by decide : 8 + 0 ≤ _), (by decide : 36 + 0 ≤ _)⟩)
        dsimp only [Pt.U, Pt.locs, Pt.cells, Pt.slots] at X50 l50 y50 z50 st50 hQ50
        subst l50 y50 z50
        obtain ⟨rfl, N50q, e50⟩ := hQ50
        have N50 := Fr.app N49 N50q
        refine Run.st (S' := T50.setTop (mkF m 249 #[.val (.long q0), .second, .val (.long q1), .second, .val (.long q2), .second, .val (.int p3), .val (.int p4), .val (.int (3 : Int32)), .val (.ref b1), .val (.ref b4), .val (.ref b7), .val (.ref b10), .val (.ref y43_0), .val (.int (own_isF y43_0 b1 b4 b7 (1 : Int32) (1 : Int32) (1 : Int32) q0 q1 q2)), .val (.int (1 : Int32)), .val (.int (0 : Int32)), .val (.ref z49), .unset] [(.ref b7), (.ref b4), (.ref b1), (.ref z49)])) (fun _ k => st50.trans (XS.astore X50.here hx rfl (hb hby at_234) rfl rfl (l' := #[.val (.long q0), .second, .val (.long q1), .second, .val (.long q2), .second, .val (.int p3), .val (.int p4), .val (.int (3 : Int32)), .val (.ref b1), .val (.ref b4), .val (.ref b7), .val (.ref b10), .val (.ref y43_0), .val (.int (own_isF y43_0 b1 b4 b7 (1 : Int32) (1 : Int32) (1 : Int32) q0 q1 q2)), .val (.int (1 : Int32)), .val (.int (0 : Int32)), .val (.ref z49), .unset]) rfl (XS.aload X50.here hx rfl (hb hby at_236) rfl rfl (XS.aload X50.here hx rfl (hb hby at_238) rfl rfl (XS.aload X50.here hx rfl (hb hby at_240) rfl rfl (XS.aload X50.here hx rfl (hb hby at_242) rfl rfl (XS.iload X50.here hx rfl (hb hby at_244) rfl (XS.ifNo X50.here hx rfl (hb hby at_246) rfl ((if0 _ _).trans (tlt (show (0 : Int32) < (3 : Int32) from (by decide))).2.2.2) k)))))))) ?_
        refine Run.st (S' := T50.setTop (mkF m 268 #[.val (.long q0), .second, .val (.long q1), .second, .val (.long q2), .second, .val (.int p3), .val (.int p4), .val (.int (3 : Int32)), .val (.ref b1), .val (.ref b4), .val (.ref b7), .val (.ref b10), .val (.ref y43_0), .val (.int (own_isF y43_0 b1 b4 b7 (1 : Int32) (1 : Int32) (1 : Int32) q0 q1 q2)), .val (.int (1 : Int32)), .val (.int (0 : Int32)), .val (.ref z49), .unset] [(.int (1 : Int32)), (.int (0 : Int32)), (.int (0 : Int32)), (.ref b7), (.ref b4), (.ref b1), (.ref z49)])) (fun _ k => XS.iload X50.here hx rfl (hb hby at_249) rfl (XS.ifYes X50.here hx rfl (pc0 := 251) (pc' := 258) rfl (hb hby at_251) rfl ((if0 _ _).trans (teq (show (0 : Int32) = (0 : Int32) from (by decide))).1) (by decide) (by decide) (XS.iconst X50.here hx rfl (hb hby at_258) (XS.iload X50.here hx rfl (hb hby at_259) rfl (XS.iconst X50.here hx rfl (hb hby at_261) (XS.icmpNo X50.here hx rfl (hb hby at_262) rfl (tlt (show (1 : Int32) < (3 : Int32) from (by decide))).2.2.2 (XS.iload X50.here hx rfl (hb hby at_265) rfl (XS.iconst X50.here hx rfl (hb hby at_267) k)))))))) ?_
        refine Run.st (S' := T50.setTop (mkF m 285 #[.val (.long q0), .second, .val (.long q1), .second, .val (.long q2), .second, .val (.int p3), .val (.int p4), .val (.int (3 : Int32)), .val (.ref b1), .val (.ref b4), .val (.ref b7), .val (.ref b10), .val (.ref y43_0), .val (.int (own_isF y43_0 b1 b4 b7 (1 : Int32) (1 : Int32) (1 : Int32) q0 q1 q2)), .val (.int (1 : Int32)), .val (.int (0 : Int32)), .val (.ref z49), .unset] [(.int (2 : Int32)), (.int (0 : Int32)), (.int (1 : Int32)), (.int (0 : Int32)), (.ref b7), (.ref b4), (.ref b1), (.ref z49)])) (fun _ k => XS.icmpNo X50.here hx rfl (hb hby at_268) rfl (feq (show ¬ ((0 : Int32) = (1 : Int32)) from (by decide))).1 (XS.iconst X50.here hx rfl (hb hby at_271) (XS.goto X50.here hx rfl (pc0 := 272) (pc' := 276) rfl (hb hby at_272) (by decide) (by decide) (XS.iload X50.here hx rfl (hb hby at_276) rfl (XS.iconst X50.here hx rfl (hb hby at_278) (XS.icmpNo X50.here hx rfl (hb hby at_279) rfl (tlt (show (2 : Int32) < (3 : Int32) from (by decide))).2.2.2 (XS.iload X50.here hx rfl (hb hby at_282) rfl (XS.iconst X50.here hx rfl (hb hby at_284) k)))))))) ?_
        refine Run.st (S' := T50.setTop (mkF m 297 #[.val (.long q0), .second, .val (.long q1), .second, .val (.long q2), .second, .val (.int p3), .val (.int p4), .val (.int (3 : Int32)), .val (.ref b1), .val (.ref b4), .val (.ref b7), .val (.ref b10), .val (.ref y43_0), .val (.int (own_isF y43_0 b1 b4 b7 (1 : Int32) (1 : Int32) (1 : Int32) q0 q1 q2)), .val (.int (1 : Int32)), .val (.int (0 : Int32)), .val (.ref z49), .unset] [(.long q2), (.long q1), (.long q0), (.int (1 : Int32)), (.int (1 : Int32)), (.int (0 : Int32)), (.ref b7), (.ref b4), (.ref b1), (.ref z49)])) (fun _ k => XS.icmpNo X50.here hx rfl (hb hby at_285) rfl (feq (show ¬ ((0 : Int32) = (2 : Int32)) from (by decide))).1 (XS.iconst X50.here hx rfl (hb hby at_288) (XS.goto X50.here hx rfl (pc0 := 289) (pc' := 293) rfl (hb hby at_289) (by decide) (by decide) (XS.lloadN X50.here hx rfl (hb hby at_293) rfl (XS.lloadN X50.here hx rfl (hb hby at_294) rfl (XS.lload X50.here hx rfl (hb hby at_295) rfl k)))))) ?_
        obtain ⟨_, _, ⟨T51, L51, k51, n51⟩, -, X51, ⟨Lc51, hQ51, l51, y51, z51⟩, st51⟩ := Jvm.LawKit.callS X50 hx (y := (⟨"com/example/keys_to_structures/keystostructures/store/ExpiryQueueFirstPinLaw", "isFirst", "(Lcom/example/keys_to_structures/keystostructures/store/TimedEntry;Lcom/example/keys_to_structures/keystostructures/store/TimedEntry;Lcom/example/keys_to_structures/keystostructures/store/TimedEntry;Lcom/example/keys_to_structures/keystostructures/store/TimedEntry;ZZZJJJ)Z"⟩ : MethodName)) hown (mvT hZ (hw _ (List.mem_of_getElem? (i := 74) rfl))) (mvT hZ (hw _ (List.mem_of_getElem? (i := 75) rfl))) (mvT hZ (hw _ (List.mem_of_getElem? (i := 76) rfl))) (mvT hZ (hw _ (List.mem_of_getElem? (i := 77) rfl))) (by decide) (backOf (W := 0) (rmIsF l Z aV hw [] z49 b1 b4 b7 (0 : Int32) (1 : Int32) (1 : Int32) q0 q1 q2 T49.heap n0 Zn (by decide)) hZ (hw _ (List.mem_of_getElem? (i := 77) rfl)) (hw _ (List.mem_of_getElem? (i := 76) rfl)) (by decide) (by decide)) (g := (mkF m 297 #[.val (.long q0), .second, .val (.long q1), .second, .val (.long q2), .second, .val (.int p3), .val (.int p4), .val (.int (3 : Int32)), .val (.ref b1), .val (.ref b4), .val (.ref b7), .val (.ref b10), .val (.ref y43_0), .val (.int (own_isF y43_0 b1 b4 b7 (1 : Int32) (1 : Int32) (1 : Int32) q0 q1 q2)), .val (.int (1 : Int32)), .val (.int (0 : Int32)), .val (.ref z49), .unset] [(.long q2), (.long q1), (.long q0), (.int (1 : Int32)), (.int (1 : Int32)), (.int (0 : Int32)), (.ref b7), (.ref b4), (.ref b1), (.ref z49)])) rfl (by rw [hml]; rfl) (argsL := [(.ref z49), (.ref b1), (.ref b4), (.ref b7), (.int (0 : Int32)), (.int (1 : Int32)), (.int (1 : Int32)), (.long q0), (.long q1), (.long q2)]) (rest := []) (lenOf pd_9 rfl) rfl (by show 2 * 0 + _ ≤ _; exact Nat.le_of_eq rfl) (hb hby at_297) (fun _ _ => ⟨rfl, e50, (by decide : 8 + 0 ≤ _), (by decide : 36 + 0 ≤ _)⟩)
        dsimp only [Pt.U, Pt.locs, Pt.cells, Pt.slots] at X51 l51 y51 z51 st51 hQ51
        subst l51 y51 z51
        obtain ⟨rfl, N51q, e51⟩ := hQ51
        have N51 := Fr.app N50 N51q
        have hv51 : (own_isF z49 b1 b4 b7 (0 : Int32) (1 : Int32) (1 : Int32) q0 q1 q2) = (1 : Int32) := (own_R3 _ _ _ _ _ _ _ _ _ _ _ _ _ _ _ _ _ _ _ ne_b1_b4 ne_b1_b7 ne_b4_b7 hp42 hp43 hl43_1 hl43_2 hr49).1 rfl
        refine Run.st (S' := T51.setTop (mkF m 317 #[.val (.long q0), .second, .val (.long q1), .second, .val (.long q2), .second, .val (.int p3), .val (.int p4), .val (.int (3 : Int32)), .val (.ref b1), .val (.ref b4), .val (.ref b7), .val (.ref b10), .val (.ref y43_0), .val (.int (own_isF y43_0 b1 b4 b7 (1 : Int32) (1 : Int32) (1 : Int32) q0 q1 q2)), .val (.int (1 : Int32)), .val (.int (0 : Int32)), .val (.ref z49), .val (.int (own_isF z49 b1 b4 b7 (0 : Int32) (1 : Int32) (1 : Int32) q0 q1 q2))] [(.int (1 : Int32))])) (fun _ k => st51 _ (XS.istore X51.here hx rfl (hb hby at_300) rfl (l' := #[.val (.long q0), .second, .val (.long q1), .second, .val (.long q2), .second, .val (.int p3), .val (.int p4), .val (.int (3 : Int32)), .val (.ref b1), .val (.ref b4), .val (.ref b7), .val (.ref b10), .val (.ref y43_0), .val (.int (own_isF y43_0 b1 b4 b7 (1 : Int32) (1 : Int32) (1 : Int32) q0 q1 q2)), .val (.int (1 : Int32)), .val (.int (0 : Int32)), .val (.ref z49), .val (.int (own_isF z49 b1 b4 b7 (0 : Int32) (1 : Int32) (1 : Int32) q0 q1 q2))]) rfl (XS.iload X51.here hx rfl (hb hby at_302) rfl (XS.ifNo X51.here hx rfl (hb hby at_304) rfl ((if0 _ _).trans (feq (show ¬ ((own_isF y43_0 b1 b4 b7 (1 : Int32) (1 : Int32) (1 : Int32) q0 q1 q2) = (0 : Int32)) from (by rw [hv45]; decide))).1) (XS.iload X51.here hx rfl (hb hby at_307) rfl (XS.ifNo X51.here hx rfl (hb hby at_309) rfl ((if0 _ _).trans (feq (show ¬ ((own_isF z49 b1 b4 b7 (0 : Int32) (1 : Int32) (1 : Int32) q0 q1 q2) = (0 : Int32)) from (by rw [hv51]; decide))).1) (XS.iconst X51.here hx rfl (hb hby at_312) (XS.goto X51.here hx rfl (pc0 := 313) (pc' := 317) rfl (hb hby at_313) (by decide) (by decide) k)))))))) ?_
        refine Run.out X51 hx Bd.notSynchronized Bd.returns rfl (Or.inl ⟨rfl, by simp, _, rfl⟩) (hb hby at_317) (by decide) (by decide) ?_
        rw [e51]
        exact ⟨rfl, N51⟩
      · refine Run.st (S' := T45.setTop (mkF m 216 #[.val (.long q0), .second, .val (.long q1), .second, .val (.long q2), .second, .val (.int p3), .val (.int p4), .val (.int (3 : Int32)), .val (.ref b1), .val (.ref b4), .val (.ref b7), .val (.ref b10), .val (.ref y43_0), .val (.int (own_isF y43_0 b1 b4 b7 (1 : Int32) (1 : Int32) (1 : Int32) q0 q1 q2)), .val (.int (1 : Int32)), .val (.int (1 : Int32)), .unset, .unset] [(.ref b4), (.ref b10)])) (fun _ k => XS.iload X45.here hx rfl (hb hby at_191) rfl (XS.ifYes X45.here hx rfl (pc0 := 193) (pc' := 206) rfl (hb hby at_193) rfl ((if0 _ _).trans (feq (show ¬ ((1 : Int32) = (0 : Int32)) from (by decide))).2) (by decide) (by decide) (XS.iload X45.here hx rfl (hb hby at_206) rfl (XS.iconst X45.here hx rfl (hb hby at_208) (XS.icmpNo X45.here hx rfl (hb hby at_209) rfl (teq (show (1 : Int32) = (1 : Int32) from (by decide))).2 (XS.aload X45.here hx rfl (hb hby at_212) rfl rfl (XS.aload X45.here hx rfl (hb hby at_214) rfl rfl k))))))) ?_
        obtain ⟨cq52, kq52, q52a, q52b, q52c⟩ := isOf hZ e45 E_b10
        obtain ⟨_, _, ⟨T52, L52, k52, n52⟩, -, X52, ⟨Lc52, hQ52, l52, y52, z52⟩, st52⟩ := X45.virtualBack hx (y := (⟨"com/example/keys_to_structures/keystostructures/store/ExpiryQueue", "remove", "(Lcom/example/keys_to_structures/keystostructures/store/TimedEntry;)V"⟩ : MethodName)) (z := (⟨"com/example/keys_to_structures/keystostructures/store/ExpiryQueue", "remove", "(Lcom/example/keys_to_structures/keystostructures/store/TimedEntry;)V"⟩ : MethodName)) hown (mvT hZ (hw _ (List.mem_of_getElem? (i := 80) rfl))) (mvT hZ (hw _ (List.mem_of_getElem? (i := 81) rfl))) (notFace_of_selects (args := #[]) (mvT hZ (hw _ (List.mem_of_getElem? (i := 83) rfl)))) (mvT hZ (hw _ (List.mem_of_getElem? (i := 83) rfl))) (mvT hZ (hw _ (List.mem_of_getElem? (i := 82) rfl))) (by decide) (backOf (W := 0) (rmRm3c l Z aV hw [] b10 b4 b11 kb11 y43_0 dy43_0 y43_1 dy43_1 y43_2 dy43_2 T43.heap n0 Zn g_b10 g_b11 O_kb11 g_y43_0 g_y43_1 g_y43_2 E_b10 F_heap_b10 F_size_b10 V_b11 E_y43_0 F_d_y43_0 F_p_y43_0 E_y43_1 F_d_y43_1 F_p_y43_1 E_y43_2 F_d_y43_2 F_p_y43_2 ne_b10_b11 (Ne.symm ne_y43_0_b10) (Ne.symm ne_y43_1_b10) (Ne.symm ne_y43_2_b10) (Ne.symm ne_y43_0_b11) (Ne.symm ne_y43_1_b11) (Ne.symm ne_y43_2_b11) ne_y43_0_y43_1 ne_y43_0_y43_2 ne_y43_1_y43_2 hl43_2 (own_mem3 _ _ _ _ _ _ _ _ _ _ _ _ _ _ _ _ hp42 hp43).2.1) hZ (hw _ (List.mem_of_getElem? (i := 84) rfl)) (hw _ (List.mem_of_getElem? (i := 32) rfl)) (by decide) (by decide)) q52a q52c (g := (mkF m 216 #[.val (.long q0), .second, .val (.long q1), .second, .val (.long q2), .second, .val (.int p3), .val (.int p4), .val (.int (3 : Int32)), .val (.ref b1), .val (.ref b4), .val (.ref b7), .val (.ref b10), .val (.ref y43_0), .val (.int (own_isF y43_0 b1 b4 b7 (1 : Int32) (1 : Int32) (1 : Int32) q0 q1 q2)), .val (.int (1 : Int32)), .val (.int (1 : Int32)), .unset, .unset] [(.ref b4), (.ref b10)])) rfl (by rw [hml]; rfl) (Steps.refl _) (argsL := [(.ref b4)]) (rest := []) (lenOf pd_10 rfl) rfl (by show 2 * 0 + _ ≤ _; exact Nat.le_of_eq rfl) (hb hby at_216) (fun _ _ => ⟨rfl, e45, (by decide : 8 + 0 ≤ _), (by decide : 36 + 0 ≤ _)⟩)
        dsimp only [Pt.U, Pt.locs, Pt.cells, Pt.slots] at X52 l52 y52 z52 st52 hQ52
        subst l52 y52 z52
        obtain ⟨z52, dz52, w52, rfl, N52q, K52, hr52, q52_0, q52_1, q52_2, q52_3⟩ := hQ52
        have E_b10 := q52_0
        have F_heap_b10 := q52_1
        have F_size_b10 := q52_2
        have V_b11 := q52_3
        have Kp := Kp.trans K52 (allS (Or.inr sz_b10) (allS (Or.inr sz_b11) (allS (Or.inr sz_y43_0) (allS (Or.inr sz_y43_1) (allS (Or.inr sz_y43_2) all0)))))
        have Zn := Nat.le_trans Zn K52.1
        have N52 := Fr.app N45 N52q
        refine Run.st (S' := T52.setTop (mkF m 231 #[.val (.long q0), .second, .val (.long q1), .second, .val (.long q2), .second, .val (.int p3), .val (.int p4), .val (.int (3 : Int32)), .val (.ref b1), .val (.ref b4), .val (.ref b7), .val (.ref b10), .val (.ref y43_0), .val (.int (own_isF y43_0 b1 b4 b7 (1 : Int32) (1 : Int32) (1 : Int32) q0 q1 q2)), .val (.int (1 : Int32)), .val (.int (1 : Int32)), .unset, .unset] [(.ref b10)])) (fun _ k => st52.trans (XS.goto X52.here hx rfl (pc0 := 219) (pc' := 229) rfl (hb hby at_219) (by decide) (by decide) (XS.aload X52.here hx rfl (hb hby at_229) rfl rfl k))) ?_
        obtain ⟨cq53, kq53, q53a, q53b, q53c⟩ := isOf hZ rfl E_b10
        obtain ⟨_, _, ⟨T53, L53, k53, n53⟩, -, X53, ⟨Lc53, hQ53, l53, y53, z53⟩, st53⟩ := X52.virtualBack hx (y := (⟨"com/example/keys_to_structures/keystostructures/store/ExpiryQueue", "first", "()Lcom/example/keys_to_structures/keystostructures/store/TimedEntry;"⟩ : MethodName)) (z := (⟨"com/example/keys_to_structures/keystostructures/store/ExpiryQueue", "first", "()Lcom/example/keys_to_structures/keystostructures/store/TimedEntry;"⟩ : MethodName)) hown (mvT hZ (hw _ (List.mem_of_getElem? (i := 69) rfl))) (mvT hZ (hw _ (List.mem_of_getElem? (i := 70) rfl))) (notFace_of_selects (args := #[]) (mvT hZ (hw _ (List.mem_of_getElem? (i := 72) rfl)))) (mvT hZ (hw _ (List.mem_of_getElem? (i := 72) rfl))) (mvT hZ (hw _ (List.mem_of_getElem? (i := 71) rfl))) (by decide) (backOf (W := 0) (rmFi2 l Z aV hw [] b10 b11 kb11 z52 w52 .null T52.heap n0 Zn F_heap_b10 F_size_b10 V_b11) hZ (hw _ (List.mem_of_getElem? (i := 73) rfl)) (hw _ (List.mem_of_getElem? (i := 32) rfl)) (by decide) (by decide)) q53a q53c (g := (mkF m 231 #[.val (.long q0), .second, .val (.long q1), .second, .val (.long q2), .second, .val (.int p3), .val (.int p4), .val (.int (3 : Int32)), .val (.ref b1), .val (.ref b4), .val (.ref b7), .val (.ref b10), .val (.ref y43_0), .val (.int (own_isF y43_0 b1 b4 b7 (1 : Int32) (1 : Int32) (1 : Int32) q0 q1 q2)), .val (.int (1 : Int32)), .val (.int (1 : Int32)), .unset, .unset] [(.ref b10)])) rfl (by rw [hml]; rfl) (Steps.refl _) (argsL := []) (rest := []) (lenOf pd_8 rfl) rfl (by show 2 * 0 + _ ≤ _; exact Nat.le_of_eq rfl) (hb hby at_231) (fun _ _ => ⟨rfl, rfl, (by decide : 8 + 0 ≤ _), (by decide : 36 + 0 ≤ _)⟩)
        dsimp only [Pt.U, Pt.locs, Pt.cells, Pt.slots] at X53 l53 y53 z53 st53 hQ53
        subst l53 y53 z53
        obtain ⟨rfl, N53q, e53⟩ := hQ53
        have N53 := Fr.app N52 N53q
        refine Run.st (S' := T53.setTop (mkF m 249 #[.val (.long q0), .second, .val (.long q1), .second, .val (.long q2), .second, .val (.int p3), .val (.int p4), .val (.int (3 : Int32)), .val (.ref b1), .val (.ref b4), .val (.ref b7), .val (.ref b10), .val (.ref y43_0), .val (.int (own_isF y43_0 b1 b4 b7 (1 : Int32) (1 : Int32) (1 : Int32) q0 q1 q2)), .val (.int (1 : Int32)), .val (.int (1 : Int32)), .val (.ref z52), .unset] [(.ref b7), (.ref b4), (.ref b1), (.ref z52)])) (fun _ k => st53.trans (XS.astore X53.here hx rfl (hb hby at_234) rfl rfl (l' := #[.val (.long q0), .second, .val (.long q1), .second, .val (.long q2), .second, .val (.int p3), .val (.int p4), .val (.int (3 : Int32)), .val (.ref b1), .val (.ref b4), .val (.ref b7), .val (.ref b10), .val (.ref y43_0), .val (.int (own_isF y43_0 b1 b4 b7 (1 : Int32) (1 : Int32) (1 : Int32) q0 q1 q2)), .val (.int (1 : Int32)), .val (.int (1 : Int32)), .val (.ref z52), .unset]) rfl (XS.aload X53.here hx rfl (hb hby at_236) rfl rfl (XS.aload X53.here hx rfl (hb hby at_238) rfl rfl (XS.aload X53.here hx rfl (hb hby at_240) rfl rfl (XS.aload X53.here hx rfl (hb hby at_242) rfl rfl (XS.iload X53.here hx rfl (hb hby at_244) rfl (XS.ifNo X53.here hx rfl (hb hby at_246) rfl ((if0 _ _).trans (tlt (show (0 : Int32) < (3 : Int32) from (by decide))).2.2.2) k)))))))) ?_
        refine Run.st (S' := T53.setTop (mkF m 267 #[.val (.long q0), .second, .val (.long q1), .second, .val (.long q2), .second, .val (.int p3), .val (.int p4), .val (.int (3 : Int32)), .val (.ref b1), .val (.ref b4), .val (.ref b7), .val (.ref b10), .val (.ref y43_0), .val (.int (own_isF y43_0 b1 b4 b7 (1 : Int32) (1 : Int32) (1 : Int32) q0 q1 q2)), .val (.int (1 : Int32)), .val (.int (1 : Int32)), .val (.ref z52), .unset] [(.int (1 : Int32)), (.int (1 : Int32)), (.ref b7), (.ref b4), (.ref b1), (.ref z52)])) (fun _ k => XS.iload X53.here hx rfl (hb hby at_249) rfl (XS.ifNo X53.here hx rfl (hb hby at_251) rfl ((if0 _ _).trans (feq (show ¬ ((1 : Int32) = (0 : Int32)) from (by decide))).1) (XS.iconst X53.here hx rfl (hb hby at_254) (XS.goto X53.here hx rfl (pc0 := 255) (pc' := 259) rfl (hb hby at_255) (by decide) (by decide) (XS.iload X53.here hx rfl (hb hby at_259) rfl (XS.iconst X53.here hx rfl (hb hby at_261) (XS.icmpNo X53.here hx rfl (hb hby at_262) rfl (tlt (show (1 : Int32) < (3 : Int32) from (by decide))).2.2.2 (XS.iload X53.here hx rfl (hb hby at_265) rfl k)))))))) ?_
        refine Run.st (S' := T53.setTop (mkF m 285 #[.val (.long q0), .second, .val (.long q1), .second, .val (.long q2), .second, .val (.int p3), .val (.int p4), .val (.int (3 : Int32)), .val (.ref b1), .val (.ref b4), .val (.ref b7), .val (.ref b10), .val (.ref y43_0), .val (.int (own_isF y43_0 b1 b4 b7 (1 : Int32) (1 : Int32) (1 : Int32) q0 q1 q2)), .val (.int (1 : Int32)), .val (.int (1 : Int32)), .val (.ref z52), .unset] [(.int (2 : Int32)), (.int (1 : Int32)), (.int (0 : Int32)), (.int (1 : Int32)), (.ref b7), (.ref b4), (.ref b1), (.ref z52)])) (fun _ k => XS.iconst X53.here hx rfl (hb hby at_267) (XS.icmpYes X53.here hx rfl (pc0 := 268) (pc' := 275) rfl (hb hby at_268) rfl (teq (show (1 : Int32) = (1 : Int32) from (by decide))).1 (by decide) (by decide) (XS.iconst X53.here hx rfl (hb hby at_275) (XS.iload X53.here hx rfl (hb hby at_276) rfl (XS.iconst X53.here hx rfl (hb hby at_278) (XS.icmpNo X53.here hx rfl (hb hby at_279) rfl (tlt (show (2 : Int32) < (3 : Int32) from (by decide))).2.2.2 (XS.iload X53.here hx rfl (hb hby at_282) rfl (XS.iconst X53.here hx rfl (hb hby at_284) k)))))))) ?_
        refine Run.st (S' := T53.setTop (mkF m 297 #[.val (.long q0), .second, .val (.long q1), .second, .val (.long q2), .second, .val (.int p3), .val (.int p4), .val (.int (3 : Int32)), .val (.ref b1), .val (.ref b4), .val (.ref b7), .val (.ref b10), .val (.ref y43_0), .val (.int (own_isF y43_0 b1 b4 b7 (1 : Int32) (1 : Int32) (1 : Int32) q0 q1 q2)), .val (.int (1 : Int32)), .val (.int (1 : Int32)), .val (.ref z52), .unset] [(.long q2), (.long q1), (.long q0), (.int (1 : Int32)), (.int (0 : Int32)), (.int (1 : Int32)), (.ref b7), (.ref b4), (.ref b1), (.ref z52)])) (fun _ k => XS.icmpNo X53.here hx rfl (hb hby at_285) rfl (feq (show ¬ ((1 : Int32) = (2 : Int32)) from (by decide))).1 (XS.iconst X53.here hx rfl (hb hby at_288) (XS.goto X53.here hx rfl (pc0 := 289) (pc' := 293) rfl (hb hby at_289) (by decide) (by decide) (XS.lloadN X53.here hx rfl (hb hby at_293) rfl (XS.lloadN X53.here hx rfl (hb hby at_294) rfl (XS.lload X53.here hx rfl (hb hby at_295) rfl k)))))) ?_
        obtain ⟨_, _, ⟨T54, L54, k54, n54⟩, -, X54, ⟨Lc54, hQ54, l54, y54, z54⟩, st54⟩ := Jvm.LawKit.callS X53 hx (y := (⟨"com/example/keys_to_structures/keystostructures/store/ExpiryQueueFirstPinLaw", "isFirst", "(Lcom/example/keys_to_structures/keystostructures/store/TimedEntry;Lcom/example/keys_to_structures/keystostructures/store/TimedEntry;Lcom/example/keys_to_structures/keystostructures/store/TimedEntry;Lcom/example/keys_to_structures/keystostructures/store/TimedEntry;ZZZJJJ)Z"⟩ : MethodName)) hown (mvT hZ (hw _ (List.mem_of_getElem? (i := 74) rfl))) (mvT hZ (hw _ (List.mem_of_getElem? (i := 75) rfl))) (mvT hZ (hw _ (List.mem_of_getElem? (i := 76) rfl))) (mvT hZ (hw _ (List.mem_of_getElem? (i := 77) rfl))) (by decide) (backOf (W := 0) (rmIsF l Z aV hw [] z52 b1 b4 b7 (1 : Int32) (0 : Int32) (1 : Int32) q0 q1 q2 T52.heap n0 Zn (by decide)) hZ (hw _ (List.mem_of_getElem? (i := 77) rfl)) (hw _ (List.mem_of_getElem? (i := 76) rfl)) (by decide) (by decide)) (g := (mkF m 297 #[.val (.long q0), .second, .val (.long q1), .second, .val (.long q2), .second, .val (.int p3), .val (.int p4), .val (.int (3 : Int32)), .val (.ref b1), .val (.ref b4), .val (.ref b7), .val (.ref b10), .val (.ref y43_0), .val (.int (own_isF y43_0 b1 b4 b7 (1 : Int32) (1 : Int32) (1 : Int32) q0 q1 q2)), .val (.int (1 : Int32)), .val (.int (1 : Int32)), .val (.ref z52), .unset] [(.long q2), (.long q1), (.long q0), (.int (1 : Int32)), (.int (0 : Int32)), (.int (1 : Int32)), (.ref b7), (.ref b4), (.ref b1), (.ref z52)])) rfl (by rw [hml]; rfl) (argsL := [(.ref z52), (.ref b1), (.ref b4), (.ref b7), (.int (1 : Int32)), (.int (0 : Int32)), (.int (1 : Int32)), (.long q0), (.long q1), (.long q2)]) (rest := []) (lenOf pd_9 rfl) rfl (by show 2 * 0 + _ ≤ _; exact Nat.le_of_eq rfl) (hb hby at_297) (fun _ _ => ⟨rfl, e53, (by decide : 8 + 0 ≤ _), (by decide : 36 + 0 ≤ _)⟩)
        dsimp only [Pt.U, Pt.locs, Pt.cells, Pt.slots] at X54 l54 y54 z54 st54 hQ54
        subst l54 y54 z54
        obtain ⟨rfl, N54q, e54⟩ := hQ54
        have N54 := Fr.app N53 N54q
        have hv54 : (own_isF z52 b1 b4 b7 (1 : Int32) (0 : Int32) (1 : Int32) q0 q1 q2) = (1 : Int32) := (own_R3 _ _ _ _ _ _ _ _ _ _ _ _ _ _ _ _ _ _ _ ne_b1_b4 ne_b1_b7 ne_b4_b7 hp42 hp43 hl43_1 hl43_2 hr52).2.1 rfl
        refine Run.st (S' := T54.setTop (mkF m 317 #[.val (.long q0), .second, .val (.long q1), .second, .val (.long q2), .second, .val (.int p3), .val (.int p4), .val (.int (3 : Int32)), .val (.ref b1), .val (.ref b4), .val (.ref b7), .val (.ref b10), .val (.ref y43_0), .val (.int (own_isF y43_0 b1 b4 b7 (1 : Int32) (1 : Int32) (1 : Int32) q0 q1 q2)), .val (.int (1 : Int32)), .val (.int (1 : Int32)), .val (.ref z52), .val (.int (own_isF z52 b1 b4 b7 (1 : Int32) (0 : Int32) (1 : Int32) q0 q1 q2))] [(.int (1 : Int32))])) (fun _ k => st54 _ (XS.istore X54.here hx rfl (hb hby at_300) rfl (l' := #[.val (.long q0), .second, .val (.long q1), .second, .val (.long q2), .second, .val (.int p3), .val (.int p4), .val (.int (3 : Int32)), .val (.ref b1), .val (.ref b4), .val (.ref b7), .val (.ref b10), .val (.ref y43_0), .val (.int (own_isF y43_0 b1 b4 b7 (1 : Int32) (1 : Int32) (1 : Int32) q0 q1 q2)), .val (.int (1 : Int32)), .val (.int (1 : Int32)), .val (.ref z52), .val (.int (own_isF z52 b1 b4 b7 (1 : Int32) (0 : Int32) (1 : Int32) q0 q1 q2))]) rfl (XS.iload X54.here hx rfl (hb hby at_302) rfl (XS.ifNo X54.here hx rfl (hb hby at_304) rfl ((if0 _ _).trans (feq (show ¬ ((own_isF y43_0 b1 b4 b7 (1 : Int32) (1 : Int32) (1 : Int32) q0 q1 q2) = (0 : Int32)) from (by rw [hv45]; decide))).1) (XS.iload X54.here hx rfl (hb hby at_307) rfl (XS.ifNo X54.here hx rfl (hb hby at_309) rfl ((if0 _ _).trans (feq (show ¬ ((own_isF z52 b1 b4 b7 (1 : Int32) (0 : Int32) (1 : Int32) q0 q1 q2) = (0 : Int32)) from (by rw [hv54]; decide))).1) (XS.iconst X54.here hx rfl (hb hby at_312) (XS.goto X54.here hx rfl (pc0 := 313) (pc' := 317) rfl (hb hby at_313) (by decide) (by decide) k)))))))) ?_
        refine Run.out X54 hx Bd.notSynchronized Bd.returns rfl (Or.inl ⟨rfl, by simp, _, rfl⟩) (hb hby at_317) (by decide) (by decide) ?_
        rw [e54]
        exact ⟨rfl, N54⟩
      · refine Run.st (S' := T45.setTop (mkF m 226 #[.val (.long q0), .second, .val (.long q1), .second, .val (.long q2), .second, .val (.int p3), .val (.int p4), .val (.int (3 : Int32)), .val (.ref b1), .val (.ref b4), .val (.ref b7), .val (.ref b10), .val (.ref y43_0), .val (.int (own_isF y43_0 b1 b4 b7 (1 : Int32) (1 : Int32) (1 : Int32) q0 q1 q2)), .val (.int (1 : Int32)), .val (.int (2 : Int32)), .unset, .unset] [(.ref b7), (.ref b10)])) (fun _ k => XS.iload X45.here hx rfl (hb hby at_191) rfl (XS.ifYes X45.here hx rfl (pc0 := 193) (pc' := 206) rfl (hb hby at_193) rfl ((if0 _ _).trans (feq (show ¬ ((2 : Int32) = (0 : Int32)) from (by decide))).2) (by decide) (by decide) (XS.iload X45.here hx rfl (hb hby at_206) rfl (XS.iconst X45.here hx rfl (hb hby at_208) (XS.icmpYes X45.here hx rfl (pc0 := 209) (pc' := 222) rfl (hb hby at_209) rfl (feq (show ¬ ((2 : Int32) = (1 : Int32)) from (by decide))).2 (by decide) (by decide) (XS.aload X45.here hx rfl (hb hby at_222) rfl rfl (XS.aload X45.here hx rfl (hb hby at_224) rfl rfl k))))))) ?_
        obtain ⟨cq55, kq55, q55a, q55b, q55c⟩ := isOf hZ e45 E_b10
        obtain ⟨_, _, ⟨T55, L55, k55, n55⟩, -, X55, ⟨Lc55, hQ55, l55, y55, z55⟩, st55⟩ := X45.virtualBack hx (y := (⟨"com/example/keys_to_structures/keystostructures/store/ExpiryQueue", "remove", "(Lcom/example/keys_to_structures/keystostructures/store/TimedEntry;)V"⟩ : MethodName)) (z := (⟨"com/example/keys_to_structures/keystostructures/store/ExpiryQueue", "remove", "(Lcom/example/keys_to_structures/keystostructures/store/TimedEntry;)V"⟩ : MethodName)) hown (mvT hZ (hw _ (List.mem_of_getElem? (i := 80) rfl))) (mvT hZ (hw _ (List.mem_of_getElem? (i := 81) rfl))) (notFace_of_selects (args := #[]) (mvT hZ (hw _ (List.mem_of_getElem? (i := 83) rfl)))) (mvT hZ (hw _ (List.mem_of_getElem? (i := 83) rfl))) (mvT hZ (hw _ (List.mem_of_getElem? (i := 82) rfl))) (by decide) (backOf (W := 0) (rmRm3c l Z aV hw [] b10 b7 b11 kb11 y43_0 dy43_0 y43_1 dy43_1 y43_2 dy43_2 T43.heap n0 Zn g_b10 g_b11 O_kb11 g_y43_0 g_y43_1 g_y43_2 E_b10 F_heap_b10 F_size_b10 V_b11 E_y43_0 F_d_y43_0 F_p_y43_0 E_y43_1 F_d_y43_1 F_p_y43_1 E_y43_2 F_d_y43_2 F_p_y43_2 ne_b10_b11 (Ne.symm ne_y43_0_b10) (Ne.symm ne_y43_1_b10) (Ne.symm ne_y43_2_b10) (Ne.symm ne_y43_0_b11) (Ne.symm ne_y43_1_b11) (Ne.symm ne_y43_2_b11) ne_y43_0_y43_1 ne_y43_0_y43_2 ne_y43_1_y43_2 hl43_2 (own_mem3 _ _ _ _ _ _ _ _ _ _ _ _ _ _ _ _ hp42 hp43).2.2) hZ (hw _ (List.mem_of_getElem? (i := 84) rfl)) (hw _ (List.mem_of_getElem? (i := 32) rfl)) (by decide) (by decide)) q55a q55c (g := (mkF m 226 #[.val (.long q0), .second, .val (.long q1), .second, .val (.long q2), .second, .val (.int p3), .val (.int p4), .val (.int (3 : Int32)), .val (.ref b1), .val (.ref b4), .val (.ref b7), .val (.ref b10), .val (.ref y43_0), .val (.int (own_isF y43_0 b1 b4 b7 (1 : Int32) (1 : Int32) (1 : Int32) q0 q1 q2)), .val (.int (1 : Int32)), .val (.int (2 : Int32)), .unset, .unset] [(.ref b7), (.ref b10)])) rfl (by rw [hml]; rfl) (Steps.refl _) (argsL := [(.ref b7)]) (rest := []) (lenOf pd_10 rfl) rfl (by show 2 * 0 + _ ≤ _; exact Nat.le_of_eq rfl) (hb hby at_226) (fun _ _ => ⟨rfl, e45, (by decide : 8 + 0 ≤ _), (by decide : 36 + 0 ≤ _)⟩)
        dsimp only [Pt.U, Pt.locs, Pt.cells, Pt.slots] at X55 l55 y55 z55 st55 hQ55
        subst l55 y55 z55
        obtain ⟨z55, dz55, w55, rfl, N55q, K55, hr55, q55_0, q55_1, q55_2, q55_3⟩ := hQ55
        have E_b10 := q55_0
        have F_heap_b10 := q55_1
        have F_size_b10 := q55_2
        have V_b11 := q55_3
        have Kp := Kp.trans K55 (allS (Or.inr sz_b10) (allS (Or.inr sz_b11) (allS (Or.inr sz_y43_0) (allS (Or.inr sz_y43_1) (allS (Or.inr sz_y43_2) all0)))))
        have Zn := Nat.le_trans Zn K55.1
        have N55 := Fr.app N45 N55q
        refine Run.st (S' := T55.setTop (mkF m 231 #[.val (.long q0), .second, .val (.long q1), .second, .val (.long q2), .second, .val (.int p3), .val (.int p4), .val (.int (3 : Int32)), .val (.ref b1), .val (.ref b4), .val (.ref b7), .val (.ref b10), .val (.ref y43_0), .val (.int (own_isF y43_0 b1 b4 b7 (1 : Int32) (1 : Int32) (1 : Int32) q0 q1 q2)), .val (.int (1 : Int32)), .val (.int (2 : Int32)), .unset, .unset] [(.ref b10)])) (fun _ k => st55.trans (XS.aload X55.here hx rfl (hb hby at_229) rfl rfl k)) ?_
        obtain ⟨cq56, kq56, q56a, q56b, q56c⟩ := isOf hZ rfl E_b10
        obtain ⟨_, _, ⟨T56, L56, k56, n56⟩, -, X56, ⟨Lc56, hQ56, l56, y56, z56⟩, st56⟩ := X55.virtualBack hx (y := (⟨"com/example/keys_to_structures/keystostructures/store/ExpiryQueue", "first", "()Lcom/example/keys_to_structures/keystostructures/store/TimedEntry;"⟩ : MethodName)) (z := (⟨"com/example/keys_to_structures/keystostructures/store/ExpiryQueue", "first", "()Lcom/example/keys_to_structures/keystostructures/store/TimedEntry;"⟩ : MethodName)) hown (mvT hZ (hw _ (List.mem_of_getElem? (i := 69) rfl))) (mvT hZ (hw _ (List.mem_of_getElem? (i := 70) rfl))) (notFace_of_selects (args := #[]) (mvT hZ (hw _ (List.mem_of_getElem? (i := 72) rfl)))) (mvT hZ (hw _ (List.mem_of_getElem? (i := 72) rfl))) (mvT hZ (hw _ (List.mem_of_getElem? (i := 71) rfl))) (by decide) (backOf (W := 0) (rmFi2 l Z aV hw [] b10 b11 kb11 z55 w55 .null T55.heap n0 Zn F_heap_b10 F_size_b10 V_b11) hZ (hw _ (List.mem_of_getElem? (i := 73) rfl)) (hw _ (List.mem_of_getElem? (i := 32) rfl)) (by decide) (by decide)) q56a q56c (g := (mkF m 231 #[.val (.long q0), .second, .val (.long q1), .second, .val (.long q2), .second, .val (.int p3), .val (.int p4), .val (.int (3 : Int32)), .val (.ref b1), .val (.ref b4), .val (.ref b7), .val (.ref b10), .val (.ref y43_0), .val (.int (own_isF y43_0 b1 b4 b7 (1 : Int32) (1 : Int32) (1 : Int32) q0 q1 q2)), .val (.int (1 : Int32)), .val (.int (2 : Int32)), .unset, .unset] [(.ref b10)])) rfl (by rw [hml]; rfl) (Steps.refl _) (argsL := []) (rest := []) (lenOf pd_8 rfl) rfl (by show 2 * 0 + _ ≤ _; exact Nat.le_of_eq rfl) (hb hby at_231) (fun _ _ => ⟨rfl, rfl, (by decide : 8 + 0 ≤ _), (by decide : 36 + 0 ≤ _)⟩)
        dsimp only [Pt.U, Pt.locs, Pt.cells, Pt.slots] at X56 l56 y56 z56 st56 hQ56
        subst l56 y56 z56
        obtain ⟨rfl, N56q, e56⟩ := hQ56
        have N56 := Fr.app N55 N56q
        refine Run.st (S' := T56.setTop (mkF m 249 #[.val (.long q0), .second, .val (.long q1), .second, .val (.long q2), .second, .val (.int p3), .val (.int p4), .val (.int (3 : Int32)), .val (.ref b1), .val (.ref b4), .val (.ref b7), .val (.ref b10), .val (.ref y43_0), .val (.int (own_isF y43_0 b1 b4 b7 (1 : Int32) (1 : Int32) (1 : Int32) q0 q1 q2)), .val (.int (1 : Int32)), .val (.int (2 : Int32)), .val (.ref z55), .unset] [(.ref b7), (.ref b4), (.ref b1), (.ref z55)])) (fun _ k => st56.trans (XS.astore X56.here hx rfl (hb hby at_234) rfl rfl (l' := #[.val (.long q0), .second, .val (.long q1), .second, .val (.long q2), .second, .val (.int p3), .val (.int p4), .val (.int (3 : Int32)), .val (.ref b1), .val (.ref b4), .val (.ref b7), .val (.ref b10), .val (.ref y43_0), .val (.int (own_isF y43_0 b1 b4 b7 (1 : Int32) (1 : Int32) (1 : Int32) q0 q1 q2)), .val (.int (1 : Int32)), .val (.int (2 : Int32)), .val (.ref z55), .unset]) rfl (XS.aload X56.here hx rfl (hb hby at_236) rfl rfl (XS.aload X56.here hx rfl (hb hby at_238) rfl rfl (XS.aload X56.here hx rfl (hb hby at_240) rfl rfl (XS.aload X56.here hx rfl (hb hby at_242) rfl rfl (XS.iload X56.here hx rfl (hb hby at_244) rfl (XS.ifNo X56.here hx rfl (hb hby at_246) rfl ((if0 _ _).trans (tlt (show (0 : Int32) < (3 : Int32) from (by decide))).2.2.2) k)))))))) ?_
        refine Run.st (S' := T56.setTop (mkF m 267 #[.val (.long q0), .second, .val (.long q1), .second, .val (.long q2), .second, .val (.int p3), .val (.int p4), .val (.int (3 : Int32)), .val (.ref b1), .val (.ref b4), .val (.ref b7), .val (.ref b10), .val (.ref y43_0), .val (.int (own_isF y43_0 b1 b4 b7 (1 : Int32) (1 : Int32) (1 : Int32) q0 q1 q2)), .val (.int (1 : Int32)), .val (.int (2 : Int32)), .val (.ref z55), .unset] [(.int (2 : Int32)), (.int (1 : Int32)), (.ref b7), (.ref b4), (.ref b1), (.ref z55)])) (fun _ k => XS.iload X56.here hx rfl (hb hby at_249) rfl (XS.ifNo X56.here hx rfl (hb hby at_251) rfl ((if0 _ _).trans (feq (show ¬ ((2 : Int32) = (0 : Int32)) from (by decide))).1) (XS.iconst X56.here hx rfl (hb hby at_254) (XS.goto X56.here hx rfl (pc0 := 255) (pc' := 259) rfl (hb hby at_255) (by decide) (by decide) (XS.iload X56.here hx rfl (hb hby at_259) rfl (XS.iconst X56.here hx rfl (hb hby at_261) (XS.icmpNo X56.here hx rfl (hb hby at_262) rfl (tlt (show (1 : Int32) < (3 : Int32) from (by decide))).2.2.2 (XS.iload X56.here hx rfl (hb hby at_265) rfl k)))))))) ?_
        refine Run.st (S' := T56.setTop (mkF m 284 #[.val (.long q0), .second, .val (.long q1), .second, .val (.long q2), .second, .val (.int p3), .val (.int p4), .val (.int (3 : Int32)), .val (.ref b1), .val (.ref b4), .val (.ref b7), .val (.ref b10), .val (.ref y43_0), .val (.int (own_isF y43_0 b1 b4 b7 (1 : Int32) (1 : Int32) (1 : Int32) q0 q1 q2)), .val (.int (1 : Int32)), .val (.int (2 : Int32)), .val (.ref z55), .unset] [(.int (2 : Int32)), (.int (1 : Int32)), (.int (1 : Int32)), (.ref b7), (.ref b4), (.ref b1), (.ref z55)])) (fun _ k => XS.iconst X56.here hx rfl (hb hby at_267) (XS.icmpNo X56.here hx rfl (hb hby at_268) rfl (feq (show ¬ ((2 : Int32) = (1 : Int32)) from (by decide))).1 (XS.iconst X56.here hx rfl (hb hby at_271) (XS.goto X56.here hx rfl (pc0 := 272) (pc' := 276) rfl (hb hby at_272) (by decide) (by decide) (XS.iload X56.here hx rfl (hb hby at_276) rfl (XS.iconst X56.here hx rfl (hb hby at_278) (XS.icmpNo X56.here hx rfl (hb hby at_279) rfl (tlt (show (2 : Int32) < (3 : Int32) from (by decide))).2.2.2 (XS.iload X56.here hx rfl (hb hby at_282) rfl k)))))))) ?_
        refine Run.st (S' := T56.setTop (mkF m 297 #[.val (.long q0), .second, .val (.long q1), .second, .val (.long q2), .second, .val (.int p3), .val (.int p4), .val (.int (3 : Int32)), .val (.ref b1), .val (.ref b4), .val (.ref b7), .val (.ref b10), .val (.ref y43_0), .val (.int (own_isF y43_0 b1 b4 b7 (1 : Int32) (1 : Int32) (1 : Int32) q0 q1 q2)), .val (.int (1 : Int32)), .val (.int (2 : Int32)), .val (.ref z55), .unset] [(.long q2), (.long q1), (.long q0), (.int (0 : Int32)), (.int (1 : Int32)), (.int (1 : Int32)), (.ref b7), (.ref b4), (.ref b1), (.ref z55)])) (fun _ k => XS.iconst X56.here hx rfl (hb hby at_284) (XS.icmpYes X56.here hx rfl (pc0 := 285) (pc' := 292) rfl (hb hby at_285) rfl (teq (show (2 : Int32) = (2 : Int32) from (by decide))).1 (by decide) (by decide) (XS.iconst X56.here hx rfl (hb hby at_292) (XS.lloadN X56.here hx rfl (hb hby at_293) rfl (XS.lloadN X56.here hx rfl (hb hby at_294) rfl (XS.lload X56.here hx rfl (hb hby at_295) rfl k)))))) ?_
        obtain ⟨_, _, ⟨T57, L57, k57, n57⟩, -, X57, ⟨Lc57, hQ57, l57, y57, z57⟩, st57⟩ := Jvm.LawKit.callS X56 hx (y := (⟨"com/example/keys_to_structures/keystostructures/store/ExpiryQueueFirstPinLaw", "isFirst", "(Lcom/example/keys_to_structures/keystostructures/store/TimedEntry;Lcom/example/keys_to_structures/keystostructures/store/TimedEntry;Lcom/example/keys_to_structures/keystostructures/store/TimedEntry;Lcom/example/keys_to_structures/keystostructures/store/TimedEntry;ZZZJJJ)Z"⟩ : MethodName)) hown (mvT hZ (hw _ (List.mem_of_getElem? (i := 74) rfl))) (mvT hZ (hw _ (List.mem_of_getElem? (i := 75) rfl))) (mvT hZ (hw _ (List.mem_of_getElem? (i := 76) rfl))) (mvT hZ (hw _ (List.mem_of_getElem? (i := 77) rfl))) (by decide) (backOf (W := 0) (rmIsF l Z aV hw [] z55 b1 b4 b7 (1 : Int32) (1 : Int32) (0 : Int32) q0 q1 q2 T55.heap n0 Zn (by decide)) hZ (hw _ (List.mem_of_getElem? (i := 77) rfl)) (hw _ (List.mem_of_getElem? (i := 76) rfl)) (by decide) (by decide)) (g := (mkF m 297 #[.val (.long q0), .second, .val (.long q1), .second, .val (.long q2), .second, .val (.int p3), .val (.int p4), .val (.int (3 : Int32)), .val (.ref b1), .val (.ref b4), .val (.ref b7), .val (.ref b10), .val (.ref y43_0), .val (.int (own_isF y43_0 b1 b4 b7 (1 : Int32) (1 : Int32) (1 : Int32) q0 q1 q2)), .val (.int (1 : Int32)), .val (.int (2 : Int32)), .val (.ref z55), .unset] [(.long q2), (.long q1), (.long q0), (.int (0 : Int32)), (.int (1 : Int32)), (.int (1 : Int32)), (.ref b7), (.ref b4), (.ref b1), (.ref z55)])) rfl (by rw [hml]; rfl) (argsL := [(.ref z55), (.ref b1), (.ref b4), (.ref b7), (.int (1 : Int32)), (.int (1 : Int32)), (.int (0 : Int32)), (.long q0), (.long q1), (.long q2)]) (rest := []) (lenOf pd_9 rfl) rfl (by show 2 * 0 + _ ≤ _; exact Nat.le_of_eq rfl) (hb hby at_297) (fun _ _ => ⟨rfl, e56, (by decide : 8 + 0 ≤ _), (by decide : 36 + 0 ≤ _)⟩)
        dsimp only [Pt.U, Pt.locs, Pt.cells, Pt.slots] at X57 l57 y57 z57 st57 hQ57
        subst l57 y57 z57
        obtain ⟨rfl, N57q, e57⟩ := hQ57
        have N57 := Fr.app N56 N57q
        have hv57 : (own_isF z55 b1 b4 b7 (1 : Int32) (1 : Int32) (0 : Int32) q0 q1 q2) = (1 : Int32) := (own_R3 _ _ _ _ _ _ _ _ _ _ _ _ _ _ _ _ _ _ _ ne_b1_b4 ne_b1_b7 ne_b4_b7 hp42 hp43 hl43_1 hl43_2 hr55).2.2 rfl
        refine Run.st (S' := T57.setTop (mkF m 317 #[.val (.long q0), .second, .val (.long q1), .second, .val (.long q2), .second, .val (.int p3), .val (.int p4), .val (.int (3 : Int32)), .val (.ref b1), .val (.ref b4), .val (.ref b7), .val (.ref b10), .val (.ref y43_0), .val (.int (own_isF y43_0 b1 b4 b7 (1 : Int32) (1 : Int32) (1 : Int32) q0 q1 q2)), .val (.int (1 : Int32)), .val (.int (2 : Int32)), .val (.ref z55), .val (.int (own_isF z55 b1 b4 b7 (1 : Int32) (1 : Int32) (0 : Int32) q0 q1 q2))] [(.int (1 : Int32))])) (fun _ k => st57 _ (XS.istore X57.here hx rfl (hb hby at_300) rfl (l' := #[.val (.long q0), .second, .val (.long q1), .second, .val (.long q2), .second, .val (.int p3), .val (.int p4), .val (.int (3 : Int32)), .val (.ref b1), .val (.ref b4), .val (.ref b7), .val (.ref b10), .val (.ref y43_0), .val (.int (own_isF y43_0 b1 b4 b7 (1 : Int32) (1 : Int32) (1 : Int32) q0 q1 q2)), .val (.int (1 : Int32)), .val (.int (2 : Int32)), .val (.ref z55), .val (.int (own_isF z55 b1 b4 b7 (1 : Int32) (1 : Int32) (0 : Int32) q0 q1 q2))]) rfl (XS.iload X57.here hx rfl (hb hby at_302) rfl (XS.ifNo X57.here hx rfl (hb hby at_304) rfl ((if0 _ _).trans (feq (show ¬ ((own_isF y43_0 b1 b4 b7 (1 : Int32) (1 : Int32) (1 : Int32) q0 q1 q2) = (0 : Int32)) from (by rw [hv45]; decide))).1) (XS.iload X57.here hx rfl (hb hby at_307) rfl (XS.ifNo X57.here hx rfl (hb hby at_309) rfl ((if0 _ _).trans (feq (show ¬ ((own_isF z55 b1 b4 b7 (1 : Int32) (1 : Int32) (0 : Int32) q0 q1 q2) = (0 : Int32)) from (by rw [hv57]; decide))).1) (XS.iconst X57.here hx rfl (hb hby at_312) (XS.goto X57.here hx rfl (pc0 := 313) (pc' := 317) rfl (hb hby at_313) (by decide) (by decide) k)))))))) ?_
        refine Run.out X57 hx Bd.notSynchronized Bd.returns rfl (Or.inl ⟨rfl, by simp, _, rfl⟩) (hb hby at_317) (by decide) (by decide) ?_
        rw [e57]
        exact ⟨rfl, N57⟩
set_option maxRecDepth 65536 in
set_option maxHeartbeats 40000000 in
theorem comes_1 {Post : Tables → Env → Array Value → State → Outcome → State → Prop} (hpost : ∀ tb e args s v u, (limb_1_1.after args s (.returned v) u = true ∧ limb_1_2.after args s (.returned v) u = true ∧ True) → FrameEnd s (.returned v) u (Jvm.fieldLocs frame_1_writes args s ++ Jvm.arrayLocs frame_1_arrays args s ++ Jvm.staticLocs frame_1_statics s) 24 192 → Post tb e args s (.returned v) u) :
    ArmFor flags0 classFile x code maxLocals ret World_1 tables_1 room_1 Calls_1 rest_1 Pre_1 Post := by
  intro l hfl _ _ p e ha hc hk s m args below hf hA hF happ hP
  obtain ⟨hcalls, hrest, hpre⟩ := hP
  obtain ⟨-, -, -, hnamed, -, -, -, hat⟩ := (Spec.applies_iff hf).mp happ
  obtain ⟨hg, hn⟩ := and_e (Cond.before_iff.mp (show (Jvm.Cond.and given_1 narrow_1).before args s = true from hpre))
  obtain ⟨gv1, gv2⟩ := and_e hg
  obtain ⟨gv3, gv4⟩ := and_e gv2
  obtain ⟨gv5, gv6⟩ := and_e gv4
  obtain ⟨gv7, gv8⟩ := and_e gv6
  obtain ⟨gv9, gv10⟩ := and_e gv8
  obtain ⟨w0, w1, w2, w3, w4, rfl⟩ : ∃ w0 w1 w2 w3 w4 : Value, args = #[w0, w1, w2, w3, w4] := by
    have hs : args.size = 5 := by simpa [Cond.value, given_1] using gv1
    obtain ⟨L⟩ := args
    match L, hs with
    | [w0, w1, w2, w3, w4], _ => exact ⟨w0, w1, w2, w3, w4, rfl⟩
  have hw := fun d (hd : d ∈ tables_1) => atoms_spec (ws := Jvm.Cond.code x code maxLocals ret :: tables_1) hat d (List.mem_cons_of_mem _ hd)
  have hfit : Fit s := fun {y c} hc i hi => by
    obtain ⟨ha, rfl⟩ := Array.getElem?_eq_some_iff.mp hc
    have q := List.all_eq_true.mp ((Array.all_eq_true_iff_forall_mem.mp hF) _ (Array.getElem_mem ha)) i (List.mem_range.mpr hi)
    simpa [Array.getElem?_eq_getElem hi] using q
  obtain ⟨i0, ei0⟩ := isL_v gv3
  obtain rfl : w0 = (.long i0) := Option.some.inj ei0
  obtain ⟨i1, ei1⟩ := isL_v gv5
  obtain rfl : w1 = (.long i1) := Option.some.inj ei1
  obtain ⟨i2, ei2⟩ := isL_v gv7
  obtain rfl : w2 = (.long i2) := Option.some.inj ei2
  obtain ⟨i3, ei3⟩ := is_v gv9
  obtain rfl : w3 = (.int i3) := Option.some.inj ei3
  obtain ⟨i4, ei4⟩ := is_v gv10
  obtain rfl : w4 = (.int i4) := Option.some.inj ei4
  obtain ⟨n, o, h1, h2, h3, _, L, rfl, ⟨rfl, N⟩, hq⟩ := rm0 l s _ hw tables_1 i0 i1 i2 i3 i4 s.heap s.heap.size (Nat.le_refl _)  p e ha hc hk s m _ below hf ((Spec.applies_iff_loose hf).mp happ).1 ⟨rfl, State.Warmed39.refl s, rfl⟩ trivial
  refine ⟨n, _, h1, h2, h3, hpost _ _ _ _ _ _ ⟨Cond.after_iff.mpr rfl, Cond.after_iff.mpr (eq_i res_at (Term.int_eval (1)) rfl), trivial⟩ ⟨hq.1, hq.2.1, (hq.2.2.sift fun y hy => Or.inr (N y hy)).mono (by decide) (by decide)⟩⟩
theorem main_1_1 : Claimed_1_1 := comes_1 fun _ _ _ _ _ _ h hF => ⟨h.1, hF⟩
theorem main_1_2 : Claimed_1_2 := comes_1 fun _ _ _ _ _ _ h hF => ⟨h.2.1, hF⟩
end Jvm.Pilot.@@N@@
namespace Jvm.Pilot.@@N@@
open Jvm Jvm.ClassFile Sem Op Lib Jvm.Free Jvm.Stand Jvm.Pilot.@@N@@.Jvm.D
/-! MADE BY PROGRAM (witnessworld.py) out of the Statement's table words and the real class files: 13 classes; the members and pool entries that the words name. The judged class is class 1, her method 1. -/
namespace start1
open Jvm.ClassFile
def u (s : String) : CpInfo := .utf8 (stringToUtf16 s)
/-- a pool by its gaps: so many unusable entries, then the entry; so many at the end -/
def gap : Nat → List CpInfo → List CpInfo
  | 0, r => r
  | n + 1, r => .unusable :: gap n r
def poolList (es : List (Nat × CpInfo)) (last : Nat) : List CpInfo := es.foldr (fun e r => gap e.1 (e.2 :: r)) (gap last [])
def pool (es : List (Nat × CpInfo)) (last : Nat) : Array CpInfo := ⟨poolList es last⟩
def fileOf (pool : Array CpInfo) (this : Nat) (attrs : Array Attribute := #[]) (ms : Array MethodInfo := #[]) (fl : Nat := 33) (sup : Nat := 0) (ifs : Array Nat := #[]) (fds : Array FieldInfo := #[]) : ClassFile where
  minorVersion := 0
  majorVersion := 65
  constantPool := pool
  accessFlags := fl
  thisClass := this
  superClass := sup
  interfaces := ifs
  fields := fds
  methods := ms
  attributes := attrs
def plain (name : String) (sup : Option ClassId) : Class where
  name := name
  kind := .ordinary
  loader := none
  accessFlags := 33
  super := sup
  interfaces := #[]
  cf := none
  fields := #[]
  methods := #[]
  instanceTypes := #[]
  staticTypes := #[]
  resolved := #[]
  callSites := []
  init := .initialized
  statics := none
  mirror := none

def pool0 : Array CpInfo := pool [(5, u "<init>"), (0, u "()V"), (1, .class_ 10), (1, u "java/lang/Object")] 113

def k0c0 : Code := { maxStack := 0, maxLocals := 1, code := object_method_1_code, exceptionTable := #[], attributes := #[] }
def k0m0 : Method := { name := "<init>", desc := "()V", sig := { parameters := [], returnType := none }, accessFlags := 1, code := some k0c0 }
/-- java/lang/Object -/
def k0 : Class := { plain "java/lang/Object" none with
  accessFlags := 33
  interfaces := #[]
  cf := some (fileOf pool0 8 #[] #[{ accessFlags := 1, nameIndex := 5, descriptorIndex := 6, attributes := #[] }] 33 0 #[] #[])
  fields := #[]
  methods := #[k0m0]
  instanceTypes := #[]
  staticTypes := #[]
  resolved := Array.replicate 124 none
  statics := none }

def pool1 : Array CpInfo := pool [(2, .class_ 4), (0, .nameAndType 5 6), (0, u "java/lang/Object"), (0, u "<init>"), (0, u "()V"), (0, .class_ 8), (0, u "com/example/keys_to_structures/keystostructures/store/TimedEntry"), (0, .methodref 7 10), (0, .nameAndType 5 11), (0, u "([BLjava/lang/Object;J)V"), (0, .class_ 13), (0, u "com/example/keys_to_structures/keystostructures/store/ExpiryQueue"), (0, .methodref 12 3), (0, .methodref 12 16), (0, .nameAndType 17 18), (0, u "add"), (0, u "(Lcom/example/keys_to_structures/keystostructures/store/TimedEntry;)V"), (0, .methodref 12 20), (0, .nameAndType 21 22), (0, u "first"), (0, u "()Lcom/example/keys_to_structures/keystostructures/store/TimedEntry;"), (0, .methodref 24 25), (0, .class_ 26), (0, .nameAndType 27 28), (0, u "com/example/keys_to_structures/keystostructures/store/ExpiryQueueFirstPinLaw"), (0, u "isFirst"), (0, u "(Lcom/example/keys_to_structures/keystostructures/store/TimedEntry;Lcom/example/keys_to_structures/keystostructures/store/TimedEntry;Lcom/example/keys_to_structures/keystostructures/store/TimedEntry;Lcom/example/keys_to_structures/keystostructures/store/TimedEntry;ZZZJJJ)Z"), (0, .integer 2147483647), (0, .methodref 12 31), (0, .nameAndType 32 18), (0, u "remove"), (2, .long 9223372036854775807), (3, u "law"), (0, u "(JJJII)Z")] 3

def k1m0 : Method := { name := "<init>", desc := "()V", sig := { parameters := [], returnType := none }, accessFlags := 1, code := none }
def k1c1 : Code := { maxStack := 13, maxLocals := 19, code := code, exceptionTable := #[], attributes := #[] }
def k1m1 : Method := { name := "law", desc := "(JJJII)Z", sig := { parameters := [.long, .long, .long, .int, .int], returnType := some .boolean }, accessFlags := 9, code := some k1c1 }
def k1c2 : Code := { maxStack := 4, maxLocals := 15, code := method_3_code, exceptionTable := #[], attributes := #[] }
def k1m2 : Method := { name := "isFirst", desc := "(Lcom/example/keys_to_structures/keystostructures/store/TimedEntry;Lcom/example/keys_to_structures/keystostructures/store/TimedEntry;Lcom/example/keys_to_structures/keystostructures/store/TimedEntry;Lcom/example/keys_to_structures/keystostructures/store/TimedEntry;ZZZJJJ)Z", sig := { parameters := [(.object "com/example/keys_to_structures/keystostructures/store/TimedEntry"), (.object "com/example/keys_to_structures/keystostructures/store/TimedEntry"), (.object "com/example/keys_to_structures/keystostructures/store/TimedEntry"), (.object "com/example/keys_to_structures/keystostructures/store/TimedEntry"), .boolean, .boolean, .boolean, .long, .long, .long], returnType := some .boolean }, accessFlags := 10, code := some k1c2 }
/-- com/example/keys_to_structures/keystostructures/store/ExpiryQueueFirstPinLaw -/
def k1 : Class := { plain "com/example/keys_to_structures/keystostructures/store/ExpiryQueueFirstPinLaw" (some 0) with
  accessFlags := 49
  interfaces := #[]
  cf := some (fileOf pool1 24 #[] #[{ accessFlags := 1, nameIndex := 5, descriptorIndex := 6, attributes := #[] }, { accessFlags := 9, nameIndex := 39, descriptorIndex := 40, attributes := #[] }, { accessFlags := 10, nameIndex := 27, descriptorIndex := 28, attributes := #[] }] 49 2 #[] #[])
  fields := #[]
  methods := #[k1m0, k1m1, k1m2]
  instanceTypes := #[]
  staticTypes := #[]
  resolved := Array.replicate 44 none
  statics := none }

def pool2 : Array CpInfo := pool [(1, .methodref 2 3), (0, .class_ 4), (0, .nameAndType 5 6), (0, u "java/lang/Object"), (0, u "<init>"), (0, u "()V"), (0, .fieldref 8 9), (0, .class_ 10), (0, .nameAndType 11 12), (0, u "com/example/keys_to_structures/keystostructures/store/Entry"), (0, u "key"), (0, u "[B"), (0, .fieldref 8 14), (0, .nameAndType 15 16), (0, u "value"), (0, u "Ljava/lang/Object;"), (0, .methodref 8 18), (0, .nameAndType 19 20), (0, u "hash"), (0, u "([B)I"), (0, .fieldref 8 22), (0, .nameAndType 19 23), (0, u "I"), (0, .methodref 25 26), (0, .class_ 27), (0, .nameAndType 28 20), (0, u "java/util/Arrays"), (0, u "hashCode"), (2, u "next"), (0, u "Lcom/example/keys_to_structures/keystostructures/store/Entry;"), (0, u "([BLjava/lang/Object;)V")] 12

def k2c0 : Code := { maxStack := 2, maxLocals := 3, code := prog_42_method_1_code, exceptionTable := #[], attributes := #[] }
def k2m0 : Method := { name := "<init>", desc := "([BLjava/lang/Object;)V", sig := { parameters := [(.array .byte), (.object "java/lang/Object")], returnType := none }, accessFlags := 0, code := some k2c0 }
def k2c1 : Code := { maxStack := 3, maxLocals := 2, code := prog_42_method_2_code, exceptionTable := #[], attributes := #[] }
def k2m1 : Method := { name := "hash", desc := "([B)I", sig := { parameters := [(.array .byte)], returnType := some .int }, accessFlags := 8, code := some k2c1 }
/-- com/example/keys_to_structures/keystostructures/store/Entry -/
def k2 : Class := { plain "com/example/keys_to_structures/keystostructures/store/Entry" (some 0) with
  accessFlags := 32
  interfaces := #[]
  cf := some (fileOf pool2 8 #[] #[{ accessFlags := 0, nameIndex := 5, descriptorIndex := 33, attributes := #[] }, { accessFlags := 8, nameIndex := 19, descriptorIndex := 20, attributes := #[] }] 32 2 #[] #[{ accessFlags := 18, nameIndex := 11, descriptorIndex := 12, attributes := #[] }, { accessFlags := 18, nameIndex := 19, descriptorIndex := 23, attributes := #[] }, { accessFlags := 2, nameIndex := 15, descriptorIndex := 16, attributes := #[] }, { accessFlags := 2, nameIndex := 31, descriptorIndex := 32, attributes := #[] }])
  fields := #[{ name := "key", type := (.array .byte), accessFlags := 18, slot := 0, constantValue := 0 }, { name := "hash", type := .int, accessFlags := 18, slot := 1, constantValue := 0 }, { name := "value", type := (.object "java/lang/Object"), accessFlags := 2, slot := 2, constantValue := 0 }, { name := "next", type := (.object "com/example/keys_to_structures/keystostructures/store/Entry"), accessFlags := 2, slot := 3, constantValue := 0 }]
  methods := #[k2m0, k2m1]
  instanceTypes := #[(.array .byte), .int, (.object "java/lang/Object"), (.object "com/example/keys_to_structures/keystostructures/store/Entry")]
  staticTypes := #[]
  resolved := Array.replicate 46 none
  statics := none }

def pool3 : Array CpInfo := pool [(1, .methodref 2 3), (0, .class_ 4), (0, .nameAndType 5 6), (0, u "com/example/keys_to_structures/keystostructures/store/Entry"), (0, u "<init>"), (0, u "([BLjava/lang/Object;)V"), (0, .fieldref 8 9), (0, .class_ 10), (0, .nameAndType 11 12), (0, u "com/example/keys_to_structures/keystostructures/store/TimedEntry"), (0, u "deadline"), (0, u "J"), (0, .fieldref 8 14), (0, .nameAndType 15 16), (0, u "position"), (0, u "I"), (0, u "([BLjava/lang/Object;J)V"), (2, u "()J"), (2, u "()I"), (0, u "setPosition"), (0, u "(I)V")] 2

def k3c0 : Code := { maxStack := 3, maxLocals := 5, code := prog_51_method_1_code, exceptionTable := #[], attributes := #[] }
def k3m0 : Method := { name := "<init>", desc := "([BLjava/lang/Object;J)V", sig := { parameters := [(.array .byte), (.object "java/lang/Object"), .long], returnType := none }, accessFlags := 0, code := some k3c0 }
def k3c1 : Code := { maxStack := 2, maxLocals := 1, code := prog_51_method_2_code, exceptionTable := #[], attributes := #[] }
def k3m1 : Method := { name := "deadline", desc := "()J", sig := { parameters := [], returnType := some .long }, accessFlags := 0, code := some k3c1 }
def k3c2 : Code := { maxStack := 1, maxLocals := 1, code := prog_51_method_4_code, exceptionTable := #[], attributes := #[] }
def k3m2 : Method := { name := "position", desc := "()I", sig := { parameters := [], returnType := some .int }, accessFlags := 0, code := some k3c2 }
def k3c3 : Code := { maxStack := 2, maxLocals := 2, code := prog_51_method_5_code, exceptionTable := #[], attributes := #[] }
def k3m3 : Method := { name := "setPosition", desc := "(I)V", sig := { parameters := [.int], returnType := none }, accessFlags := 0, code := some k3c3 }
/-- com/example/keys_to_structures/keystostructures/store/TimedEntry -/
def k3 : Class := { plain "com/example/keys_to_structures/keystostructures/store/TimedEntry" (some 2) with
  accessFlags := 32
  interfaces := #[]
  cf := some (fileOf pool3 8 #[] #[{ accessFlags := 0, nameIndex := 5, descriptorIndex := 17, attributes := #[] }, { accessFlags := 0, nameIndex := 11, descriptorIndex := 20, attributes := #[] }, { accessFlags := 0, nameIndex := 15, descriptorIndex := 23, attributes := #[] }, { accessFlags := 0, nameIndex := 24, descriptorIndex := 25, attributes := #[] }] 32 2 #[] #[{ accessFlags := 2, nameIndex := 11, descriptorIndex := 12, attributes := #[] }, { accessFlags := 2, nameIndex := 15, descriptorIndex := 16, attributes := #[] }])
  fields := #[{ name := "deadline", type := .long, accessFlags := 2, slot := 4, constantValue := 0 }, { name := "position", type := .int, accessFlags := 2, slot := 5, constantValue := 0 }]
  methods := #[k3m0, k3m1, k3m2, k3m3]
  instanceTypes := #[(.array .byte), .int, (.object "java/lang/Object"), (.object "com/example/keys_to_structures/keystostructures/store/Entry"), .long, .int]
  staticTypes := #[]
  resolved := Array.replicate 28 none
  statics := none }

def pool4 : Array CpInfo := pool [(2, .class_ 4), (1, u "java/lang/Object"), (0, u "<init>"), (0, u "()V"), (7, .class_ 16), (1, u "java/util/Arrays"), (57, .class_ 76), (1, u "java/util/Arrays$NaturalOrder"), (36, .class_ 115), (1, u "java/util/Arrays$LegacyMergeSort"), (1, u "Z"), (257, .class_ 376), (0, u "java/util/Arrays$ArrayList"), (8, u "hashCode"), (16, u "([B)I"), (42, u "$assertionsDisabled"), (269, u "MIN_ARRAY_SORT_GRAN"), (0, u "I"), (2, u "INSERTIONSORT_THRESHOLD"), (255, .class_ 976), (0, u "java/util/Arrays$ArrayItr")] 52

def k4m0 : Method := { name := "<init>", desc := "()V", sig := { parameters := [], returnType := none }, accessFlags := 2, code := none }
def k4c1 : Code := { maxStack := 5, maxLocals := 1, code := jdk_65_method_153_code, exceptionTable := #[], attributes := #[] }
def k4m1 : Method := { name := "hashCode", desc := "([B)I", sig := { parameters := [(.array .byte)], returnType := some .int }, accessFlags := 9, code := some k4c1 }
/-- java/util/Arrays -/
def k4 : Class := { plain "java/util/Arrays" (some 0) with
  accessFlags := 49
  interfaces := #[]
  cf := some (fileOf pool4 14 #[.nestMembers #[975, 375, 113, 74]] #[{ accessFlags := 2, nameIndex := 5, descriptorIndex := 6, attributes := #[] }, { accessFlags := 9, nameIndex := 385, descriptorIndex := 402, attributes := #[] }] 49 2 #[] #[{ accessFlags := 26, nameIndex := 715, descriptorIndex := 716, attributes := #[] }, { accessFlags := 26, nameIndex := 719, descriptorIndex := 716, attributes := #[] }, { accessFlags := 4120, nameIndex := 445, descriptorIndex := 117, attributes := #[] }])
  fields := #[{ name := "MIN_ARRAY_SORT_GRAN", type := .int, accessFlags := 26, slot := 0, constantValue := 0 }, { name := "INSERTIONSORT_THRESHOLD", type := .int, accessFlags := 26, slot := 1, constantValue := 0 }, { name := "$assertionsDisabled", type := .boolean, accessFlags := 4120, slot := 2, constantValue := 0 }]
  methods := #[k4m0, k4m1]
  instanceTypes := #[]
  staticTypes := #[.int, .int, .boolean]
  resolved := Array.replicate 1029 none
  statics := none }

def pool5 : Array CpInfo := pool [(1, .methodref 2 3), (0, .class_ 4), (0, .nameAndType 5 6), (0, u "java/lang/Object"), (0, u "<init>"), (0, u "()V"), (0, .class_ 8), (0, u "com/example/keys_to_structures/keystostructures/store/ExpiryQueue"), (0, .class_ 10), (0, u "com/example/keys_to_structures/keystostructures/store/TimedEntry"), (0, .fieldref 7 12), (0, .nameAndType 13 14), (0, u "heap"), (0, u "[Lcom/example/keys_to_structures/keystostructures/store/TimedEntry;"), (0, .fieldref 7 16), (0, .nameAndType 17 18), (0, u "size"), (0, u "I"), (3, u "(I)V"), (0, .methodref 7 24), (0, .nameAndType 25 26), (0, u "moveUp"), (0, u "(Lcom/example/keys_to_structures/keystostructures/store/TimedEntry;I)V"), (0, .methodref 9 28), (0, .nameAndType 29 30), (0, u "position"), (0, u "()I"), (0, .methodref 7 32), (0, .nameAndType 33 26), (0, u "moveDown"), (0, .methodref 9 35), (0, .nameAndType 36 37), (0, u "deadline"), (0, u "()J"), (0, .methodref 7 39), (0, .nameAndType 40 26), (0, u "place"), (0, .methodref 9 42), (0, .nameAndType 43 22), (0, u "setPosition"), (6, u "MIN_CAPACITY"), (2, u "SHRINK_RATIO"), (3, u "first"), (0, u "()Lcom/example/keys_to_structures/keystostructures/store/TimedEntry;"), (1, u "add"), (0, u "(Lcom/example/keys_to_structures/keystostructures/store/TimedEntry;)V"), (0, u "remove")] 4

def k5c0 : Code := { maxStack := 2, maxLocals := 1, code := prog_43_method_1_code, exceptionTable := #[], attributes := #[] }
def k5m0 : Method := { name := "<init>", desc := "()V", sig := { parameters := [], returnType := none }, accessFlags := 0, code := some k5c0 }
def k5c1 : Code := { maxStack := 2, maxLocals := 1, code := prog_43_method_2_code, exceptionTable := #[], attributes := #[] }
def k5m1 : Method := { name := "first", desc := "()Lcom/example/keys_to_structures/keystostructures/store/TimedEntry;", sig := { parameters := [], returnType := some (.object "com/example/keys_to_structures/keystostructures/store/TimedEntry") }, accessFlags := 0, code := some k5c1 }
def k5c2 : Code := { maxStack := 4, maxLocals := 2, code := prog_43_method_3_code, exceptionTable := #[], attributes := #[] }
def k5m2 : Method := { name := "add", desc := "(Lcom/example/keys_to_structures/keystostructures/store/TimedEntry;)V", sig := { parameters := [(.object "com/example/keys_to_structures/keystostructures/store/TimedEntry")], returnType := none }, accessFlags := 0, code := some k5c2 }
def k5c3 : Code := { maxStack := 3, maxLocals := 4, code := prog_43_method_4_code, exceptionTable := #[], attributes := #[] }
def k5m3 : Method := { name := "remove", desc := "(Lcom/example/keys_to_structures/keystostructures/store/TimedEntry;)V", sig := { parameters := [(.object "com/example/keys_to_structures/keystostructures/store/TimedEntry")], returnType := none }, accessFlags := 0, code := some k5c3 }
def k5c4 : Code := { maxStack := 4, maxLocals := 5, code := prog_43_method_7_code, exceptionTable := #[], attributes := #[] }
def k5m4 : Method := { name := "moveUp", desc := "(Lcom/example/keys_to_structures/keystostructures/store/TimedEntry;I)V", sig := { parameters := [(.object "com/example/keys_to_structures/keystostructures/store/TimedEntry"), .int], returnType := none }, accessFlags := 2, code := some k5c4 }
def k5c5 : Code := { maxStack := 4, maxLocals := 5, code := prog_43_method_8_code, exceptionTable := #[], attributes := #[] }
def k5m5 : Method := { name := "moveDown", desc := "(Lcom/example/keys_to_structures/keystostructures/store/TimedEntry;I)V", sig := { parameters := [(.object "com/example/keys_to_structures/keystostructures/store/TimedEntry"), .int], returnType := none }, accessFlags := 2, code := some k5c5 }
def k5c6 : Code := { maxStack := 3, maxLocals := 3, code := prog_43_method_9_code, exceptionTable := #[], attributes := #[] }
def k5m6 : Method := { name := "place", desc := "(Lcom/example/keys_to_structures/keystostructures/store/TimedEntry;I)V", sig := { parameters := [(.object "com/example/keys_to_structures/keystostructures/store/TimedEntry"), .int], returnType := none }, accessFlags := 2, code := some k5c6 }
/-- com/example/keys_to_structures/keystostructures/store/ExpiryQueue -/
def k5 : Class := { plain "com/example/keys_to_structures/keystostructures/store/ExpiryQueue" (some 0) with
  accessFlags := 32
  interfaces := #[]
  cf := some (fileOf pool5 7 #[] #[{ accessFlags := 0, nameIndex := 5, descriptorIndex := 6, attributes := #[] }, { accessFlags := 0, nameIndex := 57, descriptorIndex := 58, attributes := #[] }, { accessFlags := 0, nameIndex := 60, descriptorIndex := 61, attributes := #[] }, { accessFlags := 0, nameIndex := 62, descriptorIndex := 61, attributes := #[] }, { accessFlags := 2, nameIndex := 25, descriptorIndex := 26, attributes := #[] }, { accessFlags := 2, nameIndex := 33, descriptorIndex := 26, attributes := #[] }, { accessFlags := 2, nameIndex := 40, descriptorIndex := 26, attributes := #[] }] 32 2 #[] #[{ accessFlags := 26, nameIndex := 50, descriptorIndex := 18, attributes := #[] }, { accessFlags := 26, nameIndex := 53, descriptorIndex := 18, attributes := #[] }, { accessFlags := 2, nameIndex := 13, descriptorIndex := 14, attributes := #[] }, { accessFlags := 2, nameIndex := 17, descriptorIndex := 18, attributes := #[] }])
  fields := #[{ name := "MIN_CAPACITY", type := .int, accessFlags := 26, slot := 0, constantValue := 0 }, { name := "SHRINK_RATIO", type := .int, accessFlags := 26, slot := 1, constantValue := 0 }, { name := "heap", type := (.array (.object "com/example/keys_to_structures/keystostructures/store/TimedEntry")), accessFlags := 2, slot := 0, constantValue := 0 }, { name := "size", type := .int, accessFlags := 2, slot := 1, constantValue := 0 }]
  methods := #[k5m0, k5m1, k5m2, k5m3, k5m4, k5m5, k5m6]
  instanceTypes := #[(.array (.object "com/example/keys_to_structures/keystostructures/store/TimedEntry")), .int]
  staticTypes := #[.int, .int]
  resolved := Array.replicate 67 none
  statics := none }

def pool6 : Array CpInfo := pool [(1, u "java/lang/Cloneable"), (0, .class_ 1), (0, u "java/lang/Object"), (0, .class_ 3)] 3

/-- java/lang/Cloneable -/
def k6 : Class := { plain "java/lang/Cloneable" (some 0) with
  accessFlags := 1537
  interfaces := #[]
  cf := some (fileOf pool6 2 #[] #[] 1537 4 #[] #[])
  fields := #[]
  methods := #[]
  instanceTypes := #[]
  staticTypes := #[]
  resolved := Array.replicate 8 none
  statics := none }

def pool7 : Array CpInfo := pool [(1, u "java/io/Serializable"), (0, .class_ 1), (0, u "java/lang/Object"), (0, .class_ 3)] 3

/-- java/io/Serializable -/
def k7 : Class := { plain "java/io/Serializable" (some 0) with
  accessFlags := 1537
  interfaces := #[]
  cf := some (fileOf pool7 2 #[] #[] 1537 4 #[] #[])
  fields := #[]
  methods := #[]
  instanceTypes := #[]
  staticTypes := #[]
  resolved := Array.replicate 8 none
  statics := none }

/-- the primitive byte -/
def k8 : Class := { plain "byte" none with kind := .primitive 'B', accessFlags := 0x411 }
/-- [B -/
def k9 : Class := { plain "[B" (some 0) with kind := .array 8 .byte, interfaces := #[6, 7], accessFlags := 1041 }

/-- the primitive int -/
def k10 : Class := { plain "int" none with kind := .primitive 'I', accessFlags := 0x411 }
/-- [I -/
def k11 : Class := { plain "[I" (some 0) with kind := .array 10 .int, interfaces := #[6, 7], accessFlags := 1041 }

/-- [Lcom/example/keys_to_structures/keystostructures/store/TimedEntry; -/
def k12 : Class := { plain "[Lcom/example/keys_to_structures/keystostructures/store/TimedEntry;" (some 0) with kind := .array 3 (.object "com/example/keys_to_structures/keystostructures/store/TimedEntry"), interfaces := #[6, 7], accessFlags := 1041 }

def heap : Heap := #[]
def classes : Array Class := #[k0, k1, k2, k3, k4, k5, k6, k7, k8, k9, k10, k11, k12]
def interned : List (Array UInt16 × Addr) := []
def slotsUsed : Nat := 0
def theMethod : MethodId := ⟨1, 1⟩
def args0 : Array Value := #[.long 5, .long 4, .long 2, .int 3, .int 4]
def aboutOver (below : List Frame) : State where
  vm := { classes := classes, interned := interned.toArray }
  heap := heap
  slotsUsed := slotsUsed
  threads := #[{ frames := .invoking theMethod args0 :: below }]
def below0 : List Frame := [.native { method := ⟨0, 0⟩, args := #[] }]
def about1 : State := aboutOver below0
def p0 : Program := .bare "" "" ""
def e0 : Env := launch0.env 0 0 0
theorem w_frames : about1.frames = Frame.invoking theMethod args0 :: below0 := rfl
set_option maxRecDepth 65536 in
theorem w_args : argsFit about1.vm theMethod args0 = true := by decide +kernel
set_option maxRecDepth 65536 in
theorem w_heap : heapFits about1 = true := by decide +kernel
set_option maxRecDepth 65536 in
theorem w_runnable : about1.curStatus? = some .runnable := by decide +kernel
set_option maxRecDepth 65536 in
theorem w_alone : about1.alone = true := by decide +kernel
set_option maxRecDepth 65536 in
theorem w_named : about1.methodNamed? x = some theMethod := by decide +kernel
set_option maxRecDepth 65536 in
theorem w_hears : about1.hears theMethod below0 = true := by decide +kernel
set_option maxRecDepth 65536 in
theorem w_ripe : about1.ripe theMethod args0 below0 = true := by decide +kernel
theorem w_running : about1.status = .running := rfl
set_option maxRecDepth 65536 in
theorem w_room : about1.hasRoom e0.platform room_1 = true :=
  launch0.hasRoom_least _ room_1 (by decide +kernel) (by decide +kernel) (by decide +kernel) (by decide +kernel) (by decide +kernel) (by decide +kernel)
theorem allAtoms_all (ts : List Jvm.Cond) (a : Array Jvm.Value) (st : Jvm.State) : (allAtoms ts).before a st = ts.all (fun c => c.before a st) := by
  induction ts with
  | nil => rfl
  | cons c t ih =>
    show (Jvm.Cond.and c (allAtoms t)).before a st = _
    rw [Jvm.Cond.before_and, ih, List.all_cons]
def words1 : List Jvm.Cond := Jvm.Cond.code x code maxLocals ret :: tables_1
/-- a 'code' word, met by the world's own term for the bytes: nothing is compared byte by byte -/
theorem code_word {y : MethodName} {bytes : ByteArray} {mx : Nat} {rt : Option FieldType} {a : Array Value} {s : State} {m : MethodId} {meth : Method} {c : Code} (h1 : s.methodNamed? y = some m) (h2 : s.vm.method? m = some meth) (h3 : meth.code = some c) (h4 : c.code = bytes)
    (h5 : (c.maxLocals == mx && c.exceptionTable.isEmpty && decide (c.maxStack ≤ mostOperands) && decide (meth.sig.returnType = rt) && !meth.locks && decide (parseMethodDescriptor y.desc = some meth.sig)) = true) : (Jvm.Cond.code y bytes mx rt).before a s = true := by
  simp only [Bool.and_eq_true, beq_iff_eq, Bool.not_eq_true', decide_eq_true_eq] at h5
  obtain ⟨⟨⟨⟨⟨g1, g2⟩, g3⟩, g4⟩, g5⟩, g6⟩ := h5
  simp [Cond.before, Cond.holds, Cond.value, h1, h2, h3, h4, g1, g2, g3, g4, g5, g6]
def isCode : Jvm.Cond → Bool
  | .code _ _ _ _ => true
  | _ => false
theorem all_split {L : List Jvm.Cond} {P : Jvm.Cond → Bool} (h1 : L.all (fun c => isCode c || P c) = true) (h2 : ∀ c ∈ L.filter isCode, P c = true) : L.all P = true := by
  refine List.all_eq_true.mpr fun c hc => ?_
  have h := List.all_eq_true.mp h1 c hc
  rcases Bool.eq_false_or_eq_true (isCode c) with hi | hi
  · exact h2 c (List.mem_filter.mpr ⟨hc, hi⟩)
  · simpa [hi] using h
set_option maxRecDepth 65536 in
theorem w_c0 : (Jvm.Cond.code x code maxLocals ret).before args0 about1 = true := code_word (m := ⟨1, 1⟩) (meth := k1m1) (c := k1c1) (by decide +kernel) rfl rfl rfl (by decide +kernel)
set_option maxRecDepth 65536 in
theorem w_c1 : (Jvm.Cond.code ({ cls := "com/example/keys_to_structures/keystostructures/store/TimedEntry", name := "<init>", desc := "([BLjava/lang/Object;J)V" } : Jvm.MethodName) prog_51_method_1_code (5 : Nat) (Option.none : Option Jvm.ClassFile.FieldType)).before args0 about1 = true := code_word (m := ⟨3, 0⟩) (meth := k3m0) (c := k3c0) (by decide +kernel) rfl rfl rfl (by decide +kernel)
set_option maxRecDepth 65536 in
theorem w_c2 : (Jvm.Cond.code ({ cls := "com/example/keys_to_structures/keystostructures/store/Entry", name := "<init>", desc := "([BLjava/lang/Object;)V" } : Jvm.MethodName) prog_42_method_1_code (3 : Nat) (Option.none : Option Jvm.ClassFile.FieldType)).before args0 about1 = true := code_word (m := ⟨2, 0⟩) (meth := k2m0) (c := k2c0) (by decide +kernel) rfl rfl rfl (by decide +kernel)
set_option maxRecDepth 65536 in
theorem w_c3 : (Jvm.Cond.code ({ cls := "java/lang/Object", name := "<init>", desc := "()V" } : Jvm.MethodName) object_method_1_code (1 : Nat) (Option.none : Option Jvm.ClassFile.FieldType)).before args0 about1 = true := code_word (m := ⟨0, 0⟩) (meth := k0m0) (c := k0c0) (by decide +kernel) rfl rfl rfl (by decide +kernel)
set_option maxRecDepth 65536 in
theorem w_c4 : (Jvm.Cond.code ({ cls := "com/example/keys_to_structures/keystostructures/store/Entry", name := "hash", desc := "([B)I" } : Jvm.MethodName) prog_42_method_2_code (2 : Nat) (Option.some Jvm.ClassFile.FieldType.int)).before args0 about1 = true := code_word (m := ⟨2, 1⟩) (meth := k2m1) (c := k2c1) (by decide +kernel) rfl rfl rfl (by decide +kernel)
set_option maxRecDepth 65536 in
theorem w_c5 : (Jvm.Cond.code ({ cls := "java/util/Arrays", name := "hashCode", desc := "([B)I" } : Jvm.MethodName) jdk_65_method_153_code (1 : Nat) (Option.some Jvm.ClassFile.FieldType.int)).before args0 about1 = true := code_word (m := ⟨4, 1⟩) (meth := k4m1) (c := k4c1) (by decide +kernel) rfl rfl rfl (by decide +kernel)
set_option maxRecDepth 65536 in
theorem w_c6 : (Jvm.Cond.code ({ cls := "com/example/keys_to_structures/keystostructures/store/ExpiryQueue", name := "<init>", desc := "()V" } : Jvm.MethodName) prog_43_method_1_code (1 : Nat) (Option.none : Option Jvm.ClassFile.FieldType)).before args0 about1 = true := code_word (m := ⟨5, 0⟩) (meth := k5m0) (c := k5c0) (by decide +kernel) rfl rfl rfl (by decide +kernel)
set_option maxRecDepth 65536 in
theorem w_c7 : (Jvm.Cond.code ({ cls := "com/example/keys_to_structures/keystostructures/store/ExpiryQueue", name := "add", desc := "(Lcom/example/keys_to_structures/keystostructures/store/TimedEntry;)V" } : Jvm.MethodName) prog_43_method_3_code (2 : Nat) (Option.none : Option Jvm.ClassFile.FieldType)).before args0 about1 = true := code_word (m := ⟨5, 2⟩) (meth := k5m2) (c := k5c2) (by decide +kernel) rfl rfl rfl (by decide +kernel)
set_option maxRecDepth 65536 in
theorem w_c8 : (Jvm.Cond.code ({ cls := "com/example/keys_to_structures/keystostructures/store/ExpiryQueue", name := "moveUp", desc := "(Lcom/example/keys_to_structures/keystostructures/store/TimedEntry;I)V" } : Jvm.MethodName) prog_43_method_7_code (5 : Nat) (Option.none : Option Jvm.ClassFile.FieldType)).before args0 about1 = true := code_word (m := ⟨5, 4⟩) (meth := k5m4) (c := k5c4) (by decide +kernel) rfl rfl rfl (by decide +kernel)
set_option maxRecDepth 65536 in
theorem w_c9 : (Jvm.Cond.code ({ cls := "com/example/keys_to_structures/keystostructures/store/ExpiryQueue", name := "place", desc := "(Lcom/example/keys_to_structures/keystostructures/store/TimedEntry;I)V" } : Jvm.MethodName) prog_43_method_9_code (3 : Nat) (Option.none : Option Jvm.ClassFile.FieldType)).before args0 about1 = true := code_word (m := ⟨5, 6⟩) (meth := k5m6) (c := k5c6) (by decide +kernel) rfl rfl rfl (by decide +kernel)
set_option maxRecDepth 65536 in
theorem w_c10 : (Jvm.Cond.code ({ cls := "com/example/keys_to_structures/keystostructures/store/TimedEntry", name := "setPosition", desc := "(I)V" } : Jvm.MethodName) prog_51_method_5_code (2 : Nat) (Option.none : Option Jvm.ClassFile.FieldType)).before args0 about1 = true := code_word (m := ⟨3, 3⟩) (meth := k3m3) (c := k3c3) (by decide +kernel) rfl rfl rfl (by decide +kernel)
set_option maxRecDepth 65536 in
theorem w_c11 : (Jvm.Cond.code ({ cls := "com/example/keys_to_structures/keystostructures/store/TimedEntry", name := "deadline", desc := "()J" } : Jvm.MethodName) prog_51_method_2_code (1 : Nat) (Option.some Jvm.ClassFile.FieldType.long)).before args0 about1 = true := code_word (m := ⟨3, 1⟩) (meth := k3m1) (c := k3c1) (by decide +kernel) rfl rfl rfl (by decide +kernel)
set_option maxRecDepth 65536 in
theorem w_c12 : (Jvm.Cond.code ({ cls := "com/example/keys_to_structures/keystostructures/store/ExpiryQueue", name := "first", desc := "()Lcom/example/keys_to_structures/keystostructures/store/TimedEntry;" } : Jvm.MethodName) prog_43_method_2_code (1 : Nat) (Option.some (Jvm.ClassFile.FieldType.object "com/example/keys_to_structures/keystostructures/store/TimedEntry"))).before args0 about1 = true := code_word (m := ⟨5, 1⟩) (meth := k5m1) (c := k5c1) (by decide +kernel) rfl rfl rfl (by decide +kernel)
set_option maxRecDepth 65536 in
theorem w_c13 : (Jvm.Cond.code ({ cls := "com/example/keys_to_structures/keystostructures/store/ExpiryQueueFirstPinLaw", name := "isFirst", desc := "(Lcom/example/keys_to_structures/keystostructures/store/TimedEntry;Lcom/example/keys_to_structures/keystostructures/store/TimedEntry;Lcom/example/keys_to_structures/keystostructures/store/TimedEntry;Lcom/example/keys_to_structures/keystostructures/store/TimedEntry;ZZZJJJ)Z" } : Jvm.MethodName) method_3_code (15 : Nat) (Option.some Jvm.ClassFile.FieldType.boolean)).before args0 about1 = true := code_word (m := ⟨1, 2⟩) (meth := k1m2) (c := k1c2) (by decide +kernel) rfl rfl rfl (by decide +kernel)
set_option maxRecDepth 65536 in
theorem w_c14 : (Jvm.Cond.code ({ cls := "com/example/keys_to_structures/keystostructures/store/ExpiryQueue", name := "remove", desc := "(Lcom/example/keys_to_structures/keystostructures/store/TimedEntry;)V" } : Jvm.MethodName) prog_43_method_4_code (4 : Nat) (Option.none : Option Jvm.ClassFile.FieldType)).before args0 about1 = true := code_word (m := ⟨5, 3⟩) (meth := k5m3) (c := k5c3) (by decide +kernel) rfl rfl rfl (by decide +kernel)
set_option maxRecDepth 65536 in
theorem w_c15 : (Jvm.Cond.code ({ cls := "com/example/keys_to_structures/keystostructures/store/TimedEntry", name := "position", desc := "()I" } : Jvm.MethodName) prog_51_method_4_code (1 : Nat) (Option.some Jvm.ClassFile.FieldType.int)).before args0 about1 = true := code_word (m := ⟨3, 2⟩) (meth := k3m2) (c := k3c2) (by decide +kernel) rfl rfl rfl (by decide +kernel)
set_option maxRecDepth 65536 in
theorem w_c16 : (Jvm.Cond.code ({ cls := "com/example/keys_to_structures/keystostructures/store/ExpiryQueue", name := "moveDown", desc := "(Lcom/example/keys_to_structures/keystostructures/store/TimedEntry;I)V" } : Jvm.MethodName) prog_43_method_8_code (5 : Nat) (Option.none : Option Jvm.ClassFile.FieldType)).before args0 about1 = true := code_word (m := ⟨5, 5⟩) (meth := k5m5) (c := k5c5) (by decide +kernel) rfl rfl rfl (by decide +kernel)
def codes1 : List Jvm.Cond := [Jvm.Cond.code x code maxLocals ret, Jvm.Cond.code ({ cls := "com/example/keys_to_structures/keystostructures/store/TimedEntry", name := "<init>", desc := "([BLjava/lang/Object;J)V" } : Jvm.MethodName) prog_51_method_1_code (5 : Nat) (Option.none : Option Jvm.ClassFile.FieldType), Jvm.Cond.code ({ cls := "com/example/keys_to_structures/keystostructures/store/Entry", name := "<init>", desc := "([BLjava/lang/Object;)V" } : Jvm.MethodName) prog_42_method_1_code (3 : Nat) (Option.none : Option Jvm.ClassFile.FieldType), Jvm.Cond.code ({ cls := "java/lang/Object", name := "<init>", desc := "()V" } : Jvm.MethodName) object_method_1_code (1 : Nat) (Option.none : Option Jvm.ClassFile.FieldType), Jvm.Cond.code ({ cls := "com/example/keys_to_structures/keystostructures/store/Entry", name := "hash", desc := "([B)I" } : Jvm.MethodName) prog_42_method_2_code (2 : Nat) (Option.some Jvm.ClassFile.FieldType.int), Jvm.Cond.code ({ cls := "java/util/Arrays", name := "hashCode", desc := "([B)I" } : Jvm.MethodName) jdk_65_method_153_code (1 : Nat) (Option.some Jvm.ClassFile.FieldType.int), Jvm.Cond.code ({ cls := "com/example/keys_to_structures/keystostructures/store/ExpiryQueue", name := "<init>", desc := "()V" } : Jvm.MethodName) prog_43_method_1_code (1 : Nat) (Option.none : Option Jvm.ClassFile.FieldType), Jvm.Cond.code ({ cls := "com/example/keys_to_structures/keystostructures/store/ExpiryQueue", name := "add", desc := "(Lcom/example/keys_to_structures/keystostructures/store/TimedEntry;)V" } : Jvm.MethodName) prog_43_method_3_code (2 : Nat) (Option.none : Option Jvm.ClassFile.FieldType), Jvm.Cond.code ({ cls := "com/example/keys_to_structures/keystostructures/store/ExpiryQueue", name := "moveUp", desc := "(Lcom/example/keys_to_structures/keystostructures/store/TimedEntry;I)V" } : Jvm.MethodName) prog_43_method_7_code (5 : Nat) (Option.none : Option Jvm.ClassFile.FieldType), Jvm.Cond.code ({ cls := "com/example/keys_to_structures/keystostructures/store/ExpiryQueue", name := "place", desc := "(Lcom/example/keys_to_structures/keystostructures/store/TimedEntry;I)V" } : Jvm.MethodName) prog_43_method_9_code (3 : Nat) (Option.none : Option Jvm.ClassFile.FieldType), Jvm.Cond.code ({ cls := "com/example/keys_to_structures/keystostructures/store/TimedEntry", name := "setPosition", desc := "(I)V" } : Jvm.MethodName) prog_51_method_5_code (2 : Nat) (Option.none : Option Jvm.ClassFile.FieldType), Jvm.Cond.code ({ cls := "com/example/keys_to_structures/keystostructures/store/TimedEntry", name := "deadline", desc := "()J" } : Jvm.MethodName) prog_51_method_2_code (1 : Nat) (Option.some Jvm.ClassFile.FieldType.long), Jvm.Cond.code ({ cls := "com/example/keys_to_structures/keystostructures/store/ExpiryQueue", name := "first", desc := "()Lcom/example/keys_to_structures/keystostructures/store/TimedEntry;" } : Jvm.MethodName) prog_43_method_2_code (1 : Nat) (Option.some (Jvm.ClassFile.FieldType.object "com/example/keys_to_structures/keystostructures/store/TimedEntry")), Jvm.Cond.code ({ cls := "com/example/keys_to_structures/keystostructures/store/ExpiryQueueFirstPinLaw", name := "isFirst", desc := "(Lcom/example/keys_to_structures/keystostructures/store/TimedEntry;Lcom/example/keys_to_structures/keystostructures/store/TimedEntry;Lcom/example/keys_to_structures/keystostructures/store/TimedEntry;Lcom/example/keys_to_structures/keystostructures/store/TimedEntry;ZZZJJJ)Z" } : Jvm.MethodName) method_3_code (15 : Nat) (Option.some Jvm.ClassFile.FieldType.boolean), Jvm.Cond.code ({ cls := "com/example/keys_to_structures/keystostructures/store/ExpiryQueue", name := "remove", desc := "(Lcom/example/keys_to_structures/keystostructures/store/TimedEntry;)V" } : Jvm.MethodName) prog_43_method_4_code (4 : Nat) (Option.none : Option Jvm.ClassFile.FieldType), Jvm.Cond.code ({ cls := "com/example/keys_to_structures/keystostructures/store/TimedEntry", name := "position", desc := "()I" } : Jvm.MethodName) prog_51_method_4_code (1 : Nat) (Option.some Jvm.ClassFile.FieldType.int), Jvm.Cond.code ({ cls := "com/example/keys_to_structures/keystostructures/store/ExpiryQueue", name := "moveDown", desc := "(Lcom/example/keys_to_structures/keystostructures/store/TimedEntry;I)V" } : Jvm.MethodName) prog_43_method_8_code (5 : Nat) (Option.none : Option Jvm.ClassFile.FieldType)]
set_option maxRecDepth 65536 in
theorem codes_eq : words1.filter isCode = codes1 := rfl
theorem w_codes : ∀ c ∈ words1.filter isCode, c.before args0 about1 = true := by
  rw [codes_eq]
  intro c hc
  simp only [codes1, List.mem_cons, List.not_mem_nil, or_false] at hc
  rcases hc with rfl | rfl | rfl | rfl | rfl | rfl | rfl | rfl | rfl | rfl | rfl | rfl | rfl | rfl | rfl | rfl | rfl
  · exact w_c0
  · exact w_c1
  · exact w_c2
  · exact w_c3
  · exact w_c4
  · exact w_c5
  · exact w_c6
  · exact w_c7
  · exact w_c8
  · exact w_c9
  · exact w_c10
  · exact w_c11
  · exact w_c12
  · exact w_c13
  · exact w_c14
  · exact w_c15
  · exact w_c16
set_option maxRecDepth 65536 in
theorem w_t1 : (words1.take 24).all (fun c => isCode c || c.before args0 about1) = true := by decide +kernel
set_option maxRecDepth 65536 in
theorem w_t2 : ((words1.drop 24).take 24).all (fun c => isCode c || c.before args0 about1) = true := by decide +kernel
set_option maxRecDepth 65536 in
theorem w_t3 : (((words1.drop 24).drop 24).take 24).all (fun c => isCode c || c.before args0 about1) = true := by decide +kernel
set_option maxRecDepth 65536 in
theorem w_t4 : (((words1.drop 24).drop 24).drop 24).all (fun c => isCode c || c.before args0 about1) = true := by decide +kernel
theorem w_tables : (allAtoms (Jvm.Cond.code x code maxLocals ret :: tables_1)).before args0 about1 = true := by
  rw [allAtoms_all]
  show words1.all (fun c => c.before args0 about1) = true
  refine all_split ?_ w_codes
  rw [← List.take_append_drop 24 words1, List.all_append, w_t1, ← List.take_append_drop 24 (words1.drop 24), List.all_append, w_t2, ← List.take_append_drop 24 ((words1.drop 24).drop 24), List.all_append, w_t3, w_t4]
  rfl
set_option maxRecDepth 65536 in
theorem w_case : (Jvm.Cond.and given_1 narrow_1).before args0 about1 = true := by decide +kernel
theorem w_applies : (headSpec (Jvm.Cond.code x code maxLocals ret :: tables_1) room_1).applies x e0.platform about1 = true :=
  (Spec.applies_iff w_frames).mpr ⟨w_running, w_runnable, w_alone, w_named, w_hears, w_ripe, w_room, w_tables⟩
theorem atStart : AtStart classFile x code maxLocals ret World_1 tables_1 room_1 Calls_1 rest_1 Pre_1 launch0 p0 e0 about1 theMethod args0 below0 :=
  ⟨lists_1, trivial, launch0.admits_env _ _ _, launch0.least_env, fairChoices_fair.cas, fairChoices_fair.clock, w_frames, w_args, w_heap, w_applies, trivial, trivial, w_case⟩
end start1
theorem witness_1 : WitnessClaimed_1 := ⟨start1.p0, start1.e0, start1.about1, start1.theMethod, start1.args0, start1.below0, start1.atStart⟩
end Jvm.Pilot.@@N@@
