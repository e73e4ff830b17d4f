import JvmDerived
import JvmDerived.Pilot.@@N@@Statement
import JvmDerived.Pilot.@@N@@Code
set_option linter.unusedVariables false
set_option linter.unusedSimpArgs false
namespace Jvm.Pilot.@@N@@
open Jvm Jvm.ClassFile Sem Op Lib Jvm.Free Jvm.Stand Jvm.LawKit Jvm.RoadKit Bundle Jvm.Pilot.@@N@@.Jvm.D
section OwnRun
variable {p : Program} {l : Launch} {e : Env} {R : Room} {s : State} {m : MethodId} {args : Array Value} {below : List Frame} {meth : Method} {c : Code} {T : State} {locs : List Loc} {cells slots : Nat}
/-- from S the run comes to its end, and there Q holds -/
def Run (p : Program) (e : Env) (below : List Frame) (Q : State → Outcome → Prop) (S : State) : Prop := ∃ s₂ o, Steps p.tables e below S s₂ ∧ s₂.status = .running ∧ Ended s₂ below o ∧ Q s₂ o
def Ends (s : State) (Qb : Option Value → Heap → List Loc → Prop) (C S : Nat) : State → Outcome → Prop := fun s₂ o => ∃ v L, o = .returned v ∧ Qb v s₂.heap L ∧ FrameEnd s o s₂ L C S
theorem Run.st {Q : State → Outcome → Prop} {S S' : State} (h : ∀ t, Steps p.tables e below S' t → Steps p.tables e below S t) (r : Run p e below Q S') : Run p e below Q S := by
  obtain ⟨a, b, c, d⟩ := r
  exact ⟨a, b, h _ c, d⟩
theorem Run.out (X : Stand p l e R s m args below meth c T locs cells slots) (hx : p.tables.exec = Jvm.exec) {Qb : Option Value → Heap → List Loc → Prop} {C S : Nat} {pc : Nat} {Ls : Array Slot} {w : Value} {t : FieldType} {i : Instr} {rest : List Value} (hlocks : meth.locks = false) (hret : meth.sig.returnType = some t) (hn : narrow t w = w)
    (hi : (i = .ireturn ∧ (t = .int ∨ t = .boolean ∨ t = .byte ∨ t = .char ∨ t = .short) ∧ ∃ z, w = .int z) ∨ (i = .lreturn ∧ t = .long ∧ ∃ z, w = .long z) ∨ (i = .dreturn ∧ t = .double ∧ ∃ z, w = .double z) ∨ (i = .freturn ∧ t = .float ∧ ∃ z, w = .float z) ∨ (i = .areturn ∧ t.isReference = true ∧ w.isRef = true))
    (hd : decode c.code pc = .ok (i, 1)) (hC : cells ≤ C) (hS : slots ≤ S) (hq : Qb (some w) T.heap locs) : Run p e below (Ends s Qb C S) (T.setTop (mkF m pc Ls (w :: rest))) := by
  obtain ⟨fs, hr, hrun, hended, hW, hsame⟩ := X.leave (v := some w) (fun h => by rw [hret] at h; cases h) hlocks
  exact ⟨_, _, retOut X hx hret hn hi hd hr, hrun, hended, _, _, rfl, hq, ⟨_, rfl⟩, hW, hsame.mono hC hS⟩
theorem Run.outV (X : Stand p l e R s m args below meth c T locs cells slots) (hx : p.tables.exec = Jvm.exec) {Qb : Option Value → Heap → List Loc → Prop} {C S : Nat} {pc : Nat} {Ls : Array Slot} (hlocks : meth.locks = false) (hret : meth.sig.returnType = none)
    (hd : decode c.code pc = .ok (.return_, 1)) (hC : cells ≤ C) (hS : slots ≤ S) (hq : Qb none T.heap locs) : Run p e below (Ends s Qb C S) (T.setTop (mkF m pc Ls [])) := by
  obtain ⟨fs, hr, hrun, hended, hW, hsame⟩ := X.leave (v := none) (fun _ => rfl) hlocks
  exact ⟨_, _, X.returnOut hx hret hd hr, hrun, hended, _, _, rfl, hq, ⟨_, rfl⟩, hW, hsame.mono hC hS⟩
theorem lcYes {cd : ClassFile.Cond} {x y : Int64} {b : Bool} (h : ifCond.holds cd (Jvm.Free.XT.cmpL x y) = b) : ifCond.holds cd (lcmpW x y) = b := h
theorem nb01 {P : Prop} [Decidable P] : narrow .boolean (.int (if P then (1 : Int32) else (0 : Int32))) = .int (if P then (1 : Int32) else (0 : Int32)) := by split <;> rfl
theorem staK {Z : State} {h h' : Heap} {C n d : String} {v : Value} {ws : List Addr} (F : Sta Z h C n d v) (K : Keep h h' ws) (q : ∀ x ∈ ws, ∀ c : Cell, h[x]? = some c → c.vm.isStatics = false) : Sta Z h' C n d v := by
  obtain ⟨cf, i, k, f, st, cell, h1, h2, h3, h4, h5, h6, h7⟩ := F
  refine ⟨cf, i, k, f, st, cell, h1, h2, h3, h4, K.2.1 st cell h5 (fun m => ?_), h6, h7⟩
  have := q st m cell h5
  rw [h6] at this
  cases this
theorem exaP {Z : State} {h : Heap} {a : Addr} {C : String} (E : Exa Z h a C) : ∀ c : Cell, h[a]? = some c → c.vm.isStatics = false := fun c hc => by
  obtain ⟨cell, k, h1, -, -, h4, -⟩ := E
  cases h1.symm.trans hc
  exact h4
theorem arvP {Z : State} {h : Heap} {a : Addr} {k : ClassId} {ty : FieldType} {n : Int32} {vs : List Value} {d : Value} (E : Arv Z h a k ty n vs d) : ∀ c : Cell, h[a]? = some c → c.vm.isStatics = false := fun c hc => by
  obtain ⟨cell, A, -⟩ := E
  cases A.1.symm.trans hc
  exact A.plain
theorem selSelf {s : State} {args : Array Value} {y : MethodName} {n : Nat} (wi : (Jvm.Cond.instantiable y.cls n).before args s = true) (hp : s.PrivateAt y) (hi : (Jvm.Cond.instanceMethod y).before args s = true) (hy : y.cls ≠ "java/lang/invoke/MethodHandle" ∧ y.cls ≠ "java/lang/invoke/VarHandle") : (Jvm.Cond.selects y.cls y y).before args s = true := by
  obtain ⟨c, k, h1, h2, -, h4, -⟩ := Cond.instantiable_spec wi
  rw [Bool.or_eq_false_iff] at h4
  exact selects_self_of_private h1 h2 h4.1 hp hi hy
theorem own_lsw {tb : Tables} [Ours tb] {e : Env} {below : List Frame} {T target : State} {m : MethodId} {c : Code} {g : JFrame} (h : At T m c below) (hx : tb.exec = Jvm.exec) (hg : g.method = m) {dflt : Int} {ps : Array (Int × Int)} {len : Nat} {o : Int} {pc0 pc' : Nat} (hpc : g.pc = pc0) (hd : decode c.code g.pc = .ok (.lookupswitch dflt ps, len)) {i : Int32} {rest : List Value} (hs : g.stack = .int i :: rest)
    (hsort : ∀ q ∈ ps.toList.zip ps.toList.tail, q.1.1 < q.2.1) (hoff : lookupswitch.offset ps.toList dflt i.toInt = o) (ho : 0 ≤ (pc0 : Int) + o) (hp : ((pc0 : Int) + o).toNat = pc')
    (hr : Steps tb e below (T.setTop { g with pc := pc', stack := rest }) target) : Steps tb e below (T.setTop g) target := by
  subst hg hpc hp
  jvm_step h [h.top, hx, hd, hs, hoff, ho, lookupswitch.wp_chain]
  exact ⟨fun a b a1 b1 q => hsort _ q, hr⟩
theorem ord_v {args : Array Value} {s : State} {t : Term} {C n d : String} {k : Int32} {a : Addr} (ht : t.eval args s none [] s = some (.ref a)) (h : (Jvm.Cond.eq (.field t C n d) (.int k)).value args s none s [] = some true) : Fld s s.heap a C n d (.int k) := by
  refine Fld.start ?_
  rw [← fld_at (C := C) (n := n) (dd := d) ht]
  simp only [Cond.value] at h
  cases hv : (Term.field t C n d).eval args s none [] s with
  | none => simp [hv] at h
  | some v => cases v <;> simp_all [Term.eval]
theorem arr_len {args : Array Value} {s : State} {t : Term} {a : Addr} {cl : Cell} {ty : FieldType} {n : Int32} (ht : t.eval args s none [] s = some (.ref a)) (A : Arr s s.heap a cl ty) (h : (Jvm.Cond.eq (.length t) (.int n)).value args s none s [] = some true) : cl.slots.size < 2 ^ 31 ∧ cl.slots.size.toInt32 = n := by
  have ha := A.fin (Vm.Alike.refl s.vm)
  by_cases q : cl.slots.size < 2 ^ 31
  · refine ⟨q, ?_⟩
    have e := len_f ht ha q
    have e2 : (Term.int n).eval args s none [] s = some (.int n) := rfl
    simp only [Cond.value, e, e2] at h
    simpa using h
  · simp [Cond.value, Term.eval, ht, ha, q] at h
theorem arr_elR {args : Array Value} {s : State} {t u : Term} {a b : Addr} {cl : Cell} {ty : FieldType} {j : Int32} (ht : t.eval args s none [] s = some (.ref a)) (A : Arr s s.heap a cl ty) (h : (Jvm.Cond.eq (.elem t (.int j)) u).value args s none s [] = some true) (hu : u.eval args s none [] s = some (.ref b)) (hj : ¬ j < 0) : cl.slots[j.toNatClampNeg]? = some (.ref b) := by
  have ha := A.fin (Vm.Alike.refl s.vm)
  have e : (Term.elem t (.int j)).eval args s none [] s = cl.slots[j.toNatClampNeg]? := elem_f ht rfl ha hj
  simp only [Cond.value, hu, e] at h
  cases hv : cl.slots[j.toNatClampNeg]? with
  | none => simp [hv] at h
  | some v => cases v <;> simp_all
theorem arr_elI {args : Array Value} {s : State} {t : Term} {a : Addr} {cl : Cell} {ty : FieldType} {j k : Int32} (ht : t.eval args s none [] s = some (.ref a)) (A : Arr s s.heap a cl ty) (h : (Jvm.Cond.eq (.elem t (.int j)) (.int k)).value args s none s [] = some true) (hj : ¬ j < 0) : cl.slots[j.toNatClampNeg]? = some (.int k) := by
  have ha := A.fin (Vm.Alike.refl s.vm)
  have e : (Term.elem t (.int j)).eval args s none [] s = cl.slots[j.toNatClampNeg]? := elem_f ht rfl ha hj
  have e2 : (Term.int k).eval args s none [] s = some (.int k) := rfl
  simp only [Cond.value, e, e2] at h
  cases hv : cl.slots[j.toNatClampNeg]? with
  | none => simp [hv] at h
  | some v => cases v <;> simp_all
theorem inb32 {j z : Int32} {n : Int} (hz : z.toInt = n) (h0 : 0 ≤ j.toInt) (h1 : j.toInt < n) : ¬ j < 0 ∧ j < z := by
  rw [Int32.lt_iff_toInt_lt, Int32.lt_iff_toInt_lt, hz]
  have : (0 : Int32).toInt = 0 := by decide
  omega
theorem own_nn {n : Int32} (h : 0 ≤ n.toInt) : ¬ n < 0 := by
  rw [Int32.lt_iff_toInt_lt]
  have : (0 : Int32).toInt = 0 := by decide
  omega
theorem own_cap {n : Int32} {c : Nat} (h : n.toInt < (c : Int) + 1) : n.toNatClampNeg ≤ c := by
  simp only [Int32.toNatClampNeg]
  omega
theorem own_fin (x : Int32) (n : Nat) (hn : n < 2147483648) (h0 : 0 ≤ x.toInt) (h1 : x.toInt < n) : ∃ i : Fin n, x = Int32.ofNat i.1 := by
  refine ⟨⟨x.toInt.toNat, by omega⟩, Int32.toInt_inj.mp ?_⟩
  show x.toInt = (Int32.ofNat x.toInt.toNat).toInt
  rw [Int32.toInt_ofNat_small (by omega)]
  omega
end OwnRun
def own_shr (z : Int64) (k : Int32) : Int64 := ((z.toUInt64 >>> (k &&& 0x3f).toInt64.toUInt64).toInt64)
def own_x (k : Int32) (z : Int64) : Int64 := (z ^^^ own_shr z k)
def own_y (j k : Int32) (z : Int64) : Int64 := ((z ^^^ own_shr z j) ^^^ own_shr z k)
def own_step (c x : Int64) : Int64 := (x * ((2 : Int64) - (c * x)))
def own_inv (c : Int64) : Int64 := own_step c (own_step c (own_step c (own_step c (own_step c c))))
def own_state (s i : Int64) : Int64 := (s + ((i + (1 : Int64)) * (-7046029254386353131 : Int64)))
def own_s1 (s i : Int64) : Int64 := (own_x 30 (own_state s i) * (-4658895280553007687 : Int64))
def own_s2 (s i : Int64) : Int64 := (own_x 27 (own_s1 s i) * (-7723592293110705685 : Int64))
def own_seed (s i : Int64) : Int64 := own_x 31 (own_s2 s i)
def own_u1 (o : Int64) : Int64 := (own_y 31 62 o * own_inv (-7723592293110705685 : Int64))
def own_u2 (o : Int64) : Int64 := (own_y 27 54 (own_u1 o) * own_inv (-4658895280553007687 : Int64))
def own_unmix (o : Int64) : Int64 := own_y 30 60 (own_u2 o)
theorem own_shr_bv (z : Int64) (k : Int32) (n : Nat) (h : (k &&& 0x3f).toInt64.toUInt64.toBitVec % 64 = BitVec.ofNat 64 n) (hn : n < 64) : (own_shr z k).toBitVec = z.toBitVec >>> n := by
  show ((z.toUInt64 >>> (k &&& 0x3f).toInt64.toUInt64)).toBitVec = _
  rw [UInt64.toBitVec_shiftRight, h]
  show z.toBitVec >>> (BitVec.ofNat 64 n) = _
  rw [BitVec.ushiftRight_eq', BitVec.toNat_ofNat, Nat.mod_eq_of_lt (by omega)]
theorem own_yx (z : Int64) (j k : Int32) (n : Nat) (h1 : (j &&& 0x3f).toInt64.toUInt64.toBitVec % 64 = BitVec.ofNat 64 n) (h2 : (k &&& 0x3f).toInt64.toUInt64.toBitVec % 64 = BitVec.ofNat 64 (n + n)) (hn : n + n < 64) (h3 : 64 ≤ n + (n + n)) : own_y j k (own_x j z) = z := by
  apply Int64.toBitVec_inj.mp
  have e1 : (own_x j z).toBitVec = z.toBitVec ^^^ (z.toBitVec >>> n) := by
    show z.toBitVec ^^^ (own_shr z j).toBitVec = _
    rw [own_shr_bv z j n h1 (by omega)]
  show ((own_x j z).toBitVec ^^^ (own_shr (own_x j z) j).toBitVec) ^^^ (own_shr (own_x j z) k).toBitVec = _
  rw [own_shr_bv _ j n h1 (by omega), own_shr_bv _ k (n + n) h2 hn, e1]
  apply BitVec.eq_of_getLsbD_eq
  intro i hi
  simp only [BitVec.getLsbD_xor, BitVec.getLsbD_ushiftRight]
  have e2 : z.toBitVec.getLsbD (n + (n + n + i)) = false := BitVec.getLsbD_of_ge _ _ (by omega)
  have e3 : n + (n + i) = n + n + i := by omega
  rw [e3, e2]
  cases z.toBitVec.getLsbD i <;> cases z.toBitVec.getLsbD (n + i) <;> cases z.toBitVec.getLsbD (n + n + i) <;> rfl
theorem own_i1 : own_inv (-4658895280553007687 : Int64) * (-4658895280553007687 : Int64) = (1 : Int64) := by decide +kernel
theorem own_i2 : own_inv (-7723592293110705685 : Int64) * (-7723592293110705685 : Int64) = (1 : Int64) := by decide +kernel
theorem own_all (s i : Int64) : own_unmix (own_seed s i) = own_state s i := by
  have a1 : own_u1 (own_seed s i) = own_x 27 (own_s1 s i) := by
    unfold own_u1 own_seed
    rw [own_yx _ 31 62 31 (by decide +kernel) (by decide +kernel) (by decide) (by decide)]
    unfold own_s2
    rw [Int64.mul_assoc, Int64.mul_comm (-7723592293110705685 : Int64), own_i2, Int64.mul_one]
  have a2 : own_u2 (own_seed s i) = own_x 30 (own_state s i) := by
    unfold own_u2
    rw [a1, own_yx _ 27 54 27 (by decide +kernel) (by decide +kernel) (by decide) (by decide)]
    unfold own_s1
    rw [Int64.mul_assoc, Int64.mul_comm (-4658895280553007687 : Int64), own_i1, Int64.mul_one]
  unfold own_unmix
  rw [a2, own_yx _ 30 60 30 (by decide +kernel) (by decide +kernel) (by decide) (by decide)]
theorem d1_0 : decode prog_68_method_3_code 0 = .ok (.lload_n 0, 1) := by decide +kernel
theorem d1_1 : decode prog_68_method_3_code 1 = .ok (.lload_n 2, 1) := by decide +kernel
theorem d1_2 : decode prog_68_method_3_code 2 = .ok (.lconst 1, 1) := by decide +kernel
theorem d1_3 : decode prog_68_method_3_code 3 = .ok (.ladd, 1) := by decide +kernel
theorem d1_4 : decode prog_68_method_3_code 4 = .ok (.ldc2_w 18, 3) := by decide +kernel
theorem d1_7 : decode prog_68_method_3_code 7 = .ok (.lmul, 1) := by decide +kernel
theorem d1_8 : decode prog_68_method_3_code 8 = .ok (.ladd, 1) := by decide +kernel
theorem d1_9 : decode prog_68_method_3_code 9 = .ok (.lstore 4, 2) := by decide +kernel
theorem d1_11 : decode prog_68_method_3_code 11 = .ok (.lload 4, 2) := by decide +kernel
theorem d1_13 : decode prog_68_method_3_code 13 = .ok (.lload 4, 2) := by decide +kernel
theorem d1_15 : decode prog_68_method_3_code 15 = .ok (.bipush 30, 2) := by decide +kernel
theorem d1_17 : decode prog_68_method_3_code 17 = .ok (.lushr, 1) := by decide +kernel
theorem d1_18 : decode prog_68_method_3_code 18 = .ok (.lxor, 1) := by decide +kernel
theorem d1_19 : decode prog_68_method_3_code 19 = .ok (.ldc2_w 20, 3) := by decide +kernel
theorem d1_22 : decode prog_68_method_3_code 22 = .ok (.lmul, 1) := by decide +kernel
theorem d1_23 : decode prog_68_method_3_code 23 = .ok (.lstore 4, 2) := by decide +kernel
theorem d1_25 : decode prog_68_method_3_code 25 = .ok (.lload 4, 2) := by decide +kernel
theorem d1_27 : decode prog_68_method_3_code 27 = .ok (.lload 4, 2) := by decide +kernel
theorem d1_29 : decode prog_68_method_3_code 29 = .ok (.bipush 27, 2) := by decide +kernel
theorem d1_31 : decode prog_68_method_3_code 31 = .ok (.lushr, 1) := by decide +kernel
theorem d1_32 : decode prog_68_method_3_code 32 = .ok (.lxor, 1) := by decide +kernel
theorem d1_33 : decode prog_68_method_3_code 33 = .ok (.ldc2_w 22, 3) := by decide +kernel
theorem d1_36 : decode prog_68_method_3_code 36 = .ok (.lmul, 1) := by decide +kernel
theorem d1_37 : decode prog_68_method_3_code 37 = .ok (.lstore 4, 2) := by decide +kernel
theorem d1_39 : decode prog_68_method_3_code 39 = .ok (.lload 4, 2) := by decide +kernel
theorem d1_41 : decode prog_68_method_3_code 41 = .ok (.lload 4, 2) := by decide +kernel
theorem d1_43 : decode prog_68_method_3_code 43 = .ok (.bipush 31, 2) := by decide +kernel
theorem d1_45 : decode prog_68_method_3_code 45 = .ok (.lushr, 1) := by decide +kernel
theorem d1_46 : decode prog_68_method_3_code 46 = .ok (.lxor, 1) := by decide +kernel
theorem d1_47 : decode prog_68_method_3_code 47 = .ok (.lreturn, 1) := by decide +kernel
theorem pn_0 : plainName "com/example/quorum_tree/quorumtree/search/RandomStreams" = true := by first | (simp [plainName, overriddenIn]; done) | decide +kernel
theorem ef_Seed (m : MethodId) (q0 : Int64) (q1 : Int64) : entryFrame m #[(.long q0), (.long q1)] 6 = mkF m 0 #[.val (.long q0), .second, .val (.long q1), .second, .unset, .unset] [] := by first | (simp [entryFrame, mkF, argsToLocals, Value.category]; done) | rfl
def QSeed (Z : State) (q0 : Int64) (q1 : Int64) (h0 : Heap) (n0 : Nat) (v : Option Value) (h : Heap) (L : List Loc) : Prop := v = some (.long (own_seed q0 q1)) ∧ Fr n0 L ∧ h = h0
set_option maxRecDepth 65536 in
set_option maxHeartbeats 40000000 in
theorem rmSeed (l : Launch) (Z : State) (aV : Array Value) (hw : ∀ d ∈ tables_1, d.before aV Z = true) (ws : List Jvm.Cond) (q0 : Int64) (q1 : Int64) (h0 : Heap) (n0 : Nat) (Zn : n0 ≤ h0.size) :
    MetFree l (⟨"com/example/quorum_tree/quorumtree/search/RandomStreams", "seedOf", "(JJ)J"⟩ : MethodName) (head1 (Jvm.Cond.code (⟨"com/example/quorum_tree/quorumtree/search/RandomStreams", "seedOf", "(JJ)J"⟩ : MethodName) prog_68_method_3_code 6 (some .long) :: ws) ({ frames := 0, cells := 0, slots := 0, locals := 0 } : Room)) (fun a U => a = #[(.long q0), (.long q1)] ∧ Z.Warmed39 U.vm ∧ U.heap = h0) (fun _ _ _ _ _ => True) (fun _ U o U' => ∃ v L, o = .returned v ∧ QSeed Z q0 q1 h0 n0 v U'.heap L ∧ FrameEnd U o U' L ({ frames := 0, cells := 0, slots := 0, locals := 0 } : Room).cells ({ frames := 0, cells := 0, slots := 0, locals := 0 } : Room).slots) := by
  refine MetFree.of_bodySF (plainFor_of_name pn_0) hisR ?_
  intro p e s m args below meth c s₁ Bd hml0 hP hK
  obtain ⟨rfl, hZ, hh⟩ := hP
  have hx := Bd.exec
  have hby := Bd.bytes
  have hml : c.maxLocals = 6 := hml0
  have hown : s.vm.findClass "com/example/quorum_tree/quorumtree/search/RandomStreams" = some m.cls := findClass_of_methodNamed Bd.named
  have hnm := (name_of_methodNamed Bd.named Bd.method).1
  have X0 : Stand p l e ({ frames := 0, cells := 0, slots := 0, locals := 0 } : Room) s m #[(.long q0), (.long q1)] below meth c s₁ [] 0 0 := Stand.of_body Bd
  have e0 : s₁.heap = h0 := by rw [← hh, Bd.state]; rfl
  have N0 := Fr.nil n0
  have Kp := Keep.refl h0 []
  show Run p e below (Ends s (QSeed Z q0 q1 h0 n0) ({ frames := 0, cells := 0, slots := 0, locals := 0 } : Room).cells ({ frames := 0, cells := 0, slots := 0, locals := 0 } : Room).slots) _
  refine Run.st (S' := s₁.setTop (mkF m 0 #[.val (.long q0), .second, .val (.long q1), .second, .unset, .unset] [])) (fun t k => castTop (ef_Seed m q0 q1) k) ?_
  refine Run.st (S' := s₁.setTop (mkF m 11 #[.val (.long q0), .second, .val (.long q1), .second, .val (.long (q0 + ((q1 + (1 : Int64)) * (-7046029254386353131 : Int64)))), .second] [])) (fun _ k => XS.lloadN X0.here hx rfl (hb hby d1_0) rfl (XS.lloadN X0.here hx rfl (hb hby d1_1) rfl (XS.lconst X0.here hx rfl (hb hby d1_2) (XS.ladd X0.here hx rfl (hb hby d1_3) rfl (X0.ldc2Long hx hown (mvT hZ (hw _ (List.mem_of_getElem? (i := 5) rfl))) (g := (mkF m 4 #[.val (.long q0), .second, .val (.long q1), .second, .unset, .unset] [(.long (q1 + (1 : Int64))), (.long q0)])) rfl (hb hby d1_4) _ (XS.lmul X0.here hx rfl (hb hby d1_7) rfl (XS.ladd X0.here hx rfl (hb hby d1_8) rfl (XS.lstore X0.here hx rfl (hb hby d1_9) rfl (l' := #[.val (.long q0), .second, .val (.long q1), .second, .val (.long (q0 + ((q1 + (1 : Int64)) * (-7046029254386353131 : Int64)))), .second]) rfl k)))))))) ?_
  show Run p e below _ (s₁.setTop (mkF m 11 #[.val (.long q0), .second, .val (.long q1), .second, .val (.long (own_state q0 q1)), .second] []))
  refine Run.st (S' := s₁.setTop (mkF m 25 #[.val (.long q0), .second, .val (.long q1), .second, .val (.long (((own_state q0 q1) ^^^ (((own_state q0 q1).toUInt64 >>> ((30 : Int32) &&& 0x3f).toInt64.toUInt64).toInt64)) * (-4658895280553007687 : Int64))), .second] [])) (fun _ k => XS.lload X0.here hx rfl (hb hby d1_11) rfl (XS.lload X0.here hx rfl (hb hby d1_13) rfl (XS.bipush X0.here hx rfl (hb hby d1_15) (XS.lushr X0.here hx rfl (hb hby d1_17) rfl (XS.lxor X0.here hx rfl (hb hby d1_18) rfl (X0.ldc2Long hx hown (mvT hZ (hw _ (List.mem_of_getElem? (i := 6) rfl))) (g := (mkF m 19 #[.val (.long q0), .second, .val (.long q1), .second, .val (.long (own_state q0 q1)), .second] [(.long ((own_state q0 q1) ^^^ (((own_state q0 q1).toUInt64 >>> ((30 : Int32) &&& 0x3f).toInt64.toUInt64).toInt64)))])) rfl (hb hby d1_19) _ (XS.lmul X0.here hx rfl (hb hby d1_22) rfl (XS.lstore X0.here hx rfl (hb hby d1_23) rfl (l' := #[.val (.long q0), .second, .val (.long q1), .second, .val (.long (((own_state q0 q1) ^^^ (((own_state q0 q1).toUInt64 >>> ((30 : Int32) &&& 0x3f).toInt64.toUInt64).toInt64)) * (-4658895280553007687 : Int64))), .second]) rfl k)))))))) ?_
  show Run p e below _ (s₁.setTop (mkF m 25 #[.val (.long q0), .second, .val (.long q1), .second, .val (.long (own_s1 q0 q1)), .second] []))
  refine Run.st (S' := s₁.setTop (mkF m 39 #[.val (.long q0), .second, .val (.long q1), .second, .val (.long (((own_s1 q0 q1) ^^^ (((own_s1 q0 q1).toUInt64 >>> ((27 : Int32) &&& 0x3f).toInt64.toUInt64).toInt64)) * (-7723592293110705685 : Int64))), .second] [])) (fun _ k => XS.lload X0.here hx rfl (hb hby d1_25) rfl (XS.lload X0.here hx rfl (hb hby d1_27) rfl (XS.bipush X0.here hx rfl (hb hby d1_29) (XS.lushr X0.here hx rfl (hb hby d1_31) rfl (XS.lxor X0.here hx rfl (hb hby d1_32) rfl (X0.ldc2Long hx hown (mvT hZ (hw _ (List.mem_of_getElem? (i := 7) rfl))) (g := (mkF m 33 #[.val (.long q0), .second, .val (.long q1), .second, .val (.long (own_s1 q0 q1)), .second] [(.long ((own_s1 q0 q1) ^^^ (((own_s1 q0 q1).toUInt64 >>> ((27 : Int32) &&& 0x3f).toInt64.toUInt64).toInt64)))])) rfl (hb hby d1_33) _ (XS.lmul X0.here hx rfl (hb hby d1_36) rfl (XS.lstore X0.here hx rfl (hb hby d1_37) rfl (l' := #[.val (.long q0), .second, .val (.long q1), .second, .val (.long (((own_s1 q0 q1) ^^^ (((own_s1 q0 q1).toUInt64 >>> ((27 : Int32) &&& 0x3f).toInt64.toUInt64).toInt64)) * (-7723592293110705685 : Int64))), .second]) rfl k)))))))) ?_
  show Run p e below _ (s₁.setTop (mkF m 39 #[.val (.long q0), .second, .val (.long q1), .second, .val (.long (own_s2 q0 q1)), .second] []))
  refine Run.st (S' := s₁.setTop (mkF m 47 #[.val (.long q0), .second, .val (.long q1), .second, .val (.long (own_s2 q0 q1)), .second] [(.long ((own_s2 q0 q1) ^^^ (((own_s2 q0 q1).toUInt64 >>> ((31 : Int32) &&& 0x3f).toInt64.toUInt64).toInt64)))])) (fun _ k => XS.lload X0.here hx rfl (hb hby d1_39) rfl (XS.lload X0.here hx rfl (hb hby d1_41) rfl (XS.bipush X0.here hx rfl (hb hby d1_43) (XS.lushr X0.here hx rfl (hb hby d1_45) rfl (XS.lxor X0.here hx rfl (hb hby d1_46) rfl k))))) ?_
  refine Run.out X0 hx Bd.notSynchronized Bd.returns rfl (Or.inr (Or.inl ⟨rfl, rfl, _, rfl⟩)) (hb hby d1_47) (by decide) (by decide) ?_
  rw [e0]
  exact ⟨rfl, N0, rfl⟩
theorem d2_0 : decode method_2_code 0 = .ok (.lload_n 0, 1) := by decide +kernel
theorem d2_1 : decode method_2_code 1 = .ok (.lstore_n 2, 1) := by decide +kernel
theorem d2_2 : decode method_2_code 2 = .ok (.lload_n 2, 1) := by decide +kernel
theorem d2_3 : decode method_2_code 3 = .ok (.ldc2_w 7, 3) := by decide +kernel
theorem d2_6 : decode method_2_code 6 = .ok (.lload_n 0, 1) := by decide +kernel
theorem d2_7 : decode method_2_code 7 = .ok (.lload_n 2, 1) := by decide +kernel
theorem d2_8 : decode method_2_code 8 = .ok (.lmul, 1) := by decide +kernel
theorem d2_9 : decode method_2_code 9 = .ok (.lsub, 1) := by decide +kernel
theorem d2_10 : decode method_2_code 10 = .ok (.lmul, 1) := by decide +kernel
theorem d2_11 : decode method_2_code 11 = .ok (.lstore_n 2, 1) := by decide +kernel
theorem d2_12 : decode method_2_code 12 = .ok (.lload_n 2, 1) := by decide +kernel
theorem d2_13 : decode method_2_code 13 = .ok (.ldc2_w 7, 3) := by decide +kernel
theorem d2_16 : decode method_2_code 16 = .ok (.lload_n 0, 1) := by decide +kernel
theorem d2_17 : decode method_2_code 17 = .ok (.lload_n 2, 1) := by decide +kernel
theorem d2_18 : decode method_2_code 18 = .ok (.lmul, 1) := by decide +kernel
theorem d2_19 : decode method_2_code 19 = .ok (.lsub, 1) := by decide +kernel
theorem d2_20 : decode method_2_code 20 = .ok (.lmul, 1) := by decide +kernel
theorem d2_21 : decode method_2_code 21 = .ok (.lstore_n 2, 1) := by decide +kernel
theorem d2_22 : decode method_2_code 22 = .ok (.lload_n 2, 1) := by decide +kernel
theorem d2_23 : decode method_2_code 23 = .ok (.ldc2_w 7, 3) := by decide +kernel
theorem d2_26 : decode method_2_code 26 = .ok (.lload_n 0, 1) := by decide +kernel
theorem d2_27 : decode method_2_code 27 = .ok (.lload_n 2, 1) := by decide +kernel
theorem d2_28 : decode method_2_code 28 = .ok (.lmul, 1) := by decide +kernel
theorem d2_29 : decode method_2_code 29 = .ok (.lsub, 1) := by decide +kernel
theorem d2_30 : decode method_2_code 30 = .ok (.lmul, 1) := by decide +kernel
theorem d2_31 : decode method_2_code 31 = .ok (.lstore_n 2, 1) := by decide +kernel
theorem d2_32 : decode method_2_code 32 = .ok (.lload_n 2, 1) := by decide +kernel
theorem d2_33 : decode method_2_code 33 = .ok (.ldc2_w 7, 3) := by decide +kernel
theorem d2_36 : decode method_2_code 36 = .ok (.lload_n 0, 1) := by decide +kernel
theorem d2_37 : decode method_2_code 37 = .ok (.lload_n 2, 1) := by decide +kernel
theorem d2_38 : decode method_2_code 38 = .ok (.lmul, 1) := by decide +kernel
theorem d2_39 : decode method_2_code 39 = .ok (.lsub, 1) := by decide +kernel
theorem d2_40 : decode method_2_code 40 = .ok (.lmul, 1) := by decide +kernel
theorem d2_41 : decode method_2_code 41 = .ok (.lstore_n 2, 1) := by decide +kernel
theorem d2_42 : decode method_2_code 42 = .ok (.lload_n 2, 1) := by decide +kernel
theorem d2_43 : decode method_2_code 43 = .ok (.ldc2_w 7, 3) := by decide +kernel
theorem d2_46 : decode method_2_code 46 = .ok (.lload_n 0, 1) := by decide +kernel
theorem d2_47 : decode method_2_code 47 = .ok (.lload_n 2, 1) := by decide +kernel
theorem d2_48 : decode method_2_code 48 = .ok (.lmul, 1) := by decide +kernel
theorem d2_49 : decode method_2_code 49 = .ok (.lsub, 1) := by decide +kernel
theorem d2_50 : decode method_2_code 50 = .ok (.lmul, 1) := by decide +kernel
theorem d2_51 : decode method_2_code 51 = .ok (.lstore_n 2, 1) := by decide +kernel
theorem d2_52 : decode method_2_code 52 = .ok (.lload_n 2, 1) := by decide +kernel
theorem d2_53 : decode method_2_code 53 = .ok (.lreturn, 1) := by decide +kernel
theorem pn_1 : plainName "com/example/quorum_tree/quorumtree/search/RandomStreamsSeedOfPinLaw" = true := by first | (simp [plainName, overriddenIn]; done) | decide +kernel
theorem ef_Inv (m : MethodId) (q0 : Int64) : entryFrame m #[(.long q0)] 4 = mkF m 0 #[.val (.long q0), .second, .unset, .unset] [] := by first | (simp [entryFrame, mkF, argsToLocals, Value.category]; done) | rfl
def QInv (Z : State) (q0 : Int64) (h0 : Heap) (n0 : Nat) (v : Option Value) (h : Heap) (L : List Loc) : Prop := v = some (.long (own_inv q0)) ∧ Fr n0 L ∧ h = h0
set_option maxRecDepth 65536 in
set_option maxHeartbeats 40000000 in
theorem rmInv (l : Launch) (Z : State) (aV : Array Value) (hw : ∀ d ∈ tables_1, d.before aV Z = true) (ws : List Jvm.Cond) (q0 : Int64) (h0 : Heap) (n0 : Nat) (Zn : n0 ≤ h0.size) :
    MetFree l (⟨"com/example/quorum_tree/quorumtree/search/RandomStreamsSeedOfPinLaw", "inverse", "(J)J"⟩ : MethodName) (head1 (Jvm.Cond.code (⟨"com/example/quorum_tree/quorumtree/search/RandomStreamsSeedOfPinLaw", "inverse", "(J)J"⟩ : MethodName) method_2_code 4 (some .long) :: ws) ({ frames := 0, cells := 0, slots := 0, locals := 0 } : Room)) (fun a U => a = #[(.long q0)] ∧ Z.Warmed39 U.vm ∧ U.heap = h0) (fun _ _ _ _ _ => True) (fun _ U o U' => ∃ v L, o = .returned v ∧ QInv Z q0 h0 n0 v U'.heap L ∧ FrameEnd U o U' L ({ frames := 0, cells := 0, slots := 0, locals := 0 } : Room).cells ({ frames := 0, cells := 0, slots := 0, locals := 0 } : Room).slots) := by
  refine MetFree.of_bodySF (plainFor_of_name pn_1) hisR ?_
  intro p e s m args below meth c s₁ Bd hml0 hP hK
  obtain ⟨rfl, hZ, hh⟩ := hP
  have hx := Bd.exec
  have hby := Bd.bytes
  have hml : c.maxLocals = 4 := hml0
  have hown : s.vm.findClass "com/example/quorum_tree/quorumtree/search/RandomStreamsSeedOfPinLaw" = some m.cls := findClass_of_methodNamed Bd.named
  have hnm := (name_of_methodNamed Bd.named Bd.method).1
  have X0 : Stand p l e ({ frames := 0, cells := 0, slots := 0, locals := 0 } : Room) s m #[(.long q0)] below meth c s₁ [] 0 0 := Stand.of_body Bd
  have e0 : s₁.heap = h0 := by rw [← hh, Bd.state]; rfl
  have N0 := Fr.nil n0
  have Kp := Keep.refl h0 []
  show Run p e below (Ends s (QInv Z q0 h0 n0) ({ frames := 0, cells := 0, slots := 0, locals := 0 } : Room).cells ({ frames := 0, cells := 0, slots := 0, locals := 0 } : Room).slots) _
  refine Run.st (S' := s₁.setTop (mkF m 0 #[.val (.long q0), .second, .unset, .unset] [])) (fun t k => castTop (ef_Inv m q0) k) ?_
  refine Run.st (S' := s₁.setTop (mkF m 10 #[.val (.long q0), .second, .val (.long q0), .second] [(.long ((2 : Int64) - (q0 * q0))), (.long q0)])) (fun _ k => XS.lloadN X0.here hx rfl (hb hby d2_0) rfl (XS.lstoreN X0.here hx rfl (hb hby d2_1) rfl (l' := #[.val (.long q0), .second, .val (.long q0), .second]) rfl (XS.lloadN X0.here hx rfl (hb hby d2_2) rfl (X0.ldc2Long hx hown (mvT hZ (hw _ (List.mem_of_getElem? (i := 13) rfl))) (g := (mkF m 3 #[.val (.long q0), .second, .val (.long q0), .second] [(.long q0)])) rfl (hb hby d2_3) _ (XS.lloadN X0.here hx rfl (hb hby d2_6) rfl (XS.lloadN X0.here hx rfl (hb hby d2_7) rfl (XS.lmul X0.here hx rfl (hb hby d2_8) rfl (XS.lsub X0.here hx rfl (hb hby d2_9) rfl k)))))))) ?_
  refine Run.st (S' := s₁.setTop (mkF m 12 #[.val (.long q0), .second, .val (.long (q0 * ((2 : Int64) - (q0 * q0)))), .second] [])) (fun _ k => XS.lmul X0.here hx rfl (hb hby d2_10) rfl (XS.lstoreN X0.here hx rfl (hb hby d2_11) rfl (l' := #[.val (.long q0), .second, .val (.long (q0 * ((2 : Int64) - (q0 * q0)))), .second]) rfl k)) ?_
  show Run p e below _ (s₁.setTop (mkF m 12 #[.val (.long q0), .second, .val (.long (own_step q0 q0)), .second] []))
  refine Run.st (S' := s₁.setTop (mkF m 22 #[.val (.long q0), .second, .val (.long ((own_step q0 q0) * ((2 : Int64) - (q0 * (own_step q0 q0))))), .second] [])) (fun _ k => XS.lloadN X0.here hx rfl (hb hby d2_12) rfl (X0.ldc2Long hx hown (mvT hZ (hw _ (List.mem_of_getElem? (i := 13) rfl))) (g := (mkF m 13 #[.val (.long q0), .second, .val (.long (own_step q0 q0)), .second] [(.long (own_step q0 q0))])) rfl (hb hby d2_13) _ (XS.lloadN X0.here hx rfl (hb hby d2_16) rfl (XS.lloadN X0.here hx rfl (hb hby d2_17) rfl (XS.lmul X0.here hx rfl (hb hby d2_18) rfl (XS.lsub X0.here hx rfl (hb hby d2_19) rfl (XS.lmul X0.here hx rfl (hb hby d2_20) rfl (XS.lstoreN X0.here hx rfl (hb hby d2_21) rfl (l' := #[.val (.long q0), .second, .val (.long ((own_step q0 q0) * ((2 : Int64) - (q0 * (own_step q0 q0))))), .second]) rfl k)))))))) ?_
  show Run p e below _ (s₁.setTop (mkF m 22 #[.val (.long q0), .second, .val (.long (own_step q0 (own_step q0 q0))), .second] []))
  refine Run.st (S' := s₁.setTop (mkF m 32 #[.val (.long q0), .second, .val (.long ((own_step q0 (own_step q0 q0)) * ((2 : Int64) - (q0 * (own_step q0 (own_step q0 q0)))))), .second] [])) (fun _ k => XS.lloadN X0.here hx rfl (hb hby d2_22) rfl (X0.ldc2Long hx hown (mvT hZ (hw _ (List.mem_of_getElem? (i := 13) rfl))) (g := (mkF m 23 #[.val (.long q0), .second, .val (.long (own_step q0 (own_step q0 q0))), .second] [(.long (own_step q0 (own_step q0 q0)))])) rfl (hb hby d2_23) _ (XS.lloadN X0.here hx rfl (hb hby d2_26) rfl (XS.lloadN X0.here hx rfl (hb hby d2_27) rfl (XS.lmul X0.here hx rfl (hb hby d2_28) rfl (XS.lsub X0.here hx rfl (hb hby d2_29) rfl (XS.lmul X0.here hx rfl (hb hby d2_30) rfl (XS.lstoreN X0.here hx rfl (hb hby d2_31) rfl (l' := #[.val (.long q0), .second, .val (.long ((own_step q0 (own_step q0 q0)) * ((2 : Int64) - (q0 * (own_step q0 (own_step q0 q0)))))), .second]) rfl k)))))))) ?_
  show Run p e below _ (s₁.setTop (mkF m 32 #[.val (.long q0), .second, .val (.long (own_step q0 (own_step q0 (own_step q0 q0)))), .second] []))
  refine Run.st (S' := s₁.setTop (mkF m 42 #[.val (.long q0), .second, .val (.long ((own_step q0 (own_step q0 (own_step q0 q0))) * ((2 : Int64) - (q0 * (own_step q0 (own_step q0 (own_step q0 q0))))))), .second] [])) (fun _ k => XS.lloadN X0.here hx rfl (hb hby d2_32) rfl (X0.ldc2Long hx hown (mvT hZ (hw _ (List.mem_of_getElem? (i := 13) rfl))) (g := (mkF m 33 #[.val (.long q0), .second, .val (.long (own_step q0 (own_step q0 (own_step q0 q0)))), .second] [(.long (own_step q0 (own_step q0 (own_step q0 q0))))])) rfl (hb hby d2_33) _ (XS.lloadN X0.here hx rfl (hb hby d2_36) rfl (XS.lloadN X0.here hx rfl (hb hby d2_37) rfl (XS.lmul X0.here hx rfl (hb hby d2_38) rfl (XS.lsub X0.here hx rfl (hb hby d2_39) rfl (XS.lmul X0.here hx rfl (hb hby d2_40) rfl (XS.lstoreN X0.here hx rfl (hb hby d2_41) rfl (l' := #[.val (.long q0), .second, .val (.long ((own_step q0 (own_step q0 (own_step q0 q0))) * ((2 : Int64) - (q0 * (own_step q0 (own_step q0 (own_step q0 q0))))))), .second]) rfl k)))))))) ?_
  show Run p e below _ (s₁.setTop (mkF m 42 #[.val (.long q0), .second, .val (.long (own_step q0 (own_step q0 (own_step q0 (own_step q0 q0))))), .second] []))
  refine Run.st (S' := s₁.setTop (mkF m 52 #[.val (.long q0), .second, .val (.long ((own_step q0 (own_step q0 (own_step q0 (own_step q0 q0)))) * ((2 : Int64) - (q0 * (own_step q0 (own_step q0 (own_step q0 (own_step q0 q0)))))))), .second] [])) (fun _ k => XS.lloadN X0.here hx rfl (hb hby d2_42) rfl (X0.ldc2Long hx hown (mvT hZ (hw _ (List.mem_of_getElem? (i := 13) rfl))) (g := (mkF m 43 #[.val (.long q0), .second, .val (.long (own_step q0 (own_step q0 (own_step q0 (own_step q0 q0))))), .second] [(.long (own_step q0 (own_step q0 (own_step q0 (own_step q0 q0)))))])) rfl (hb hby d2_43) _ (XS.lloadN X0.here hx rfl (hb hby d2_46) rfl (XS.lloadN X0.here hx rfl (hb hby d2_47) rfl (XS.lmul X0.here hx rfl (hb hby d2_48) rfl (XS.lsub X0.here hx rfl (hb hby d2_49) rfl (XS.lmul X0.here hx rfl (hb hby d2_50) rfl (XS.lstoreN X0.here hx rfl (hb hby d2_51) rfl (l' := #[.val (.long q0), .second, .val (.long ((own_step q0 (own_step q0 (own_step q0 (own_step q0 q0)))) * ((2 : Int64) - (q0 * (own_step q0 (own_step q0 (own_step q0 (own_step q0 q0)))))))), .second]) rfl k)))))))) ?_
  show Run p e below _ (s₁.setTop (mkF m 52 #[.val (.long q0), .second, .val (.long (own_step q0 (own_step q0 (own_step q0 (own_step q0 (own_step q0 q0)))))), .second] []))
  refine Run.st (S' := s₁.setTop (mkF m 53 #[.val (.long q0), .second, .val (.long (own_step q0 (own_step q0 (own_step q0 (own_step q0 (own_step q0 q0)))))), .second] [(.long (own_step q0 (own_step q0 (own_step q0 (own_step q0 (own_step q0 q0))))))])) (fun _ k => XS.lloadN X0.here hx rfl (hb hby d2_52) rfl k) ?_
  refine Run.out X0 hx Bd.notSynchronized Bd.returns rfl (Or.inr (Or.inl ⟨rfl, rfl, _, rfl⟩)) (hb hby d2_53) (by decide) (by decide) ?_
  rw [e0]
  exact ⟨rfl, N0, rfl⟩
theorem pd_0 : parseMethodDescriptor "(J)J" = some ⟨[.long], some .long⟩ := by decide +kernel
theorem d3_0 : decode method_3_code 0 = .ok (.ldc2_w 9, 3) := by decide +kernel
theorem d3_3 : decode method_3_code 3 = .ok (.lstore_n 2, 1) := by decide +kernel
theorem d3_4 : decode method_3_code 4 = .ok (.ldc2_w 11, 3) := by decide +kernel
theorem d3_7 : decode method_3_code 7 = .ok (.lstore 4, 2) := by decide +kernel
theorem d3_9 : decode method_3_code 9 = .ok (.lload_n 0, 1) := by decide +kernel
theorem d3_10 : decode method_3_code 10 = .ok (.lload_n 0, 1) := by decide +kernel
theorem d3_11 : decode method_3_code 11 = .ok (.bipush 31, 2) := by decide +kernel
theorem d3_13 : decode method_3_code 13 = .ok (.lushr, 1) := by decide +kernel
theorem d3_14 : decode method_3_code 14 = .ok (.lxor, 1) := by decide +kernel
theorem d3_15 : decode method_3_code 15 = .ok (.lload_n 0, 1) := by decide +kernel
theorem d3_16 : decode method_3_code 16 = .ok (.bipush 62, 2) := by decide +kernel
theorem d3_18 : decode method_3_code 18 = .ok (.lushr, 1) := by decide +kernel
theorem d3_19 : decode method_3_code 19 = .ok (.lxor, 1) := by decide +kernel
theorem d3_20 : decode method_3_code 20 = .ok (.lstore 6, 2) := by decide +kernel
theorem d3_22 : decode method_3_code 22 = .ok (.lload 6, 2) := by decide +kernel
theorem d3_24 : decode method_3_code 24 = .ok (.lload 4, 2) := by decide +kernel
theorem d3_26 : decode method_3_code 26 = .ok (.invokestatic 13, 3) := by decide +kernel
theorem d3_29 : decode method_3_code 29 = .ok (.lmul, 1) := by decide +kernel
theorem d3_30 : decode method_3_code 30 = .ok (.lstore 8, 2) := by decide +kernel
theorem d3_32 : decode method_3_code 32 = .ok (.lload 8, 2) := by decide +kernel
theorem d3_34 : decode method_3_code 34 = .ok (.lload 8, 2) := by decide +kernel
theorem d3_36 : decode method_3_code 36 = .ok (.bipush 27, 2) := by decide +kernel
theorem d3_38 : decode method_3_code 38 = .ok (.lushr, 1) := by decide +kernel
theorem d3_39 : decode method_3_code 39 = .ok (.lxor, 1) := by decide +kernel
theorem d3_40 : decode method_3_code 40 = .ok (.lload 8, 2) := by decide +kernel
theorem d3_42 : decode method_3_code 42 = .ok (.bipush 54, 2) := by decide +kernel
theorem d3_44 : decode method_3_code 44 = .ok (.lushr, 1) := by decide +kernel
theorem d3_45 : decode method_3_code 45 = .ok (.lxor, 1) := by decide +kernel
theorem d3_46 : decode method_3_code 46 = .ok (.lstore 10, 2) := by decide +kernel
theorem d3_48 : decode method_3_code 48 = .ok (.lload 10, 2) := by decide +kernel
theorem d3_50 : decode method_3_code 50 = .ok (.lload_n 2, 1) := by decide +kernel
theorem d3_51 : decode method_3_code 51 = .ok (.invokestatic 13, 3) := by decide +kernel
theorem d3_54 : decode method_3_code 54 = .ok (.lmul, 1) := by decide +kernel
theorem d3_55 : decode method_3_code 55 = .ok (.lstore 12, 2) := by decide +kernel
theorem d3_57 : decode method_3_code 57 = .ok (.lload 12, 2) := by decide +kernel
theorem d3_59 : decode method_3_code 59 = .ok (.lload 12, 2) := by decide +kernel
theorem d3_61 : decode method_3_code 61 = .ok (.bipush 30, 2) := by decide +kernel
theorem d3_63 : decode method_3_code 63 = .ok (.lushr, 1) := by decide +kernel
theorem d3_64 : decode method_3_code 64 = .ok (.lxor, 1) := by decide +kernel
theorem d3_65 : decode method_3_code 65 = .ok (.lload 12, 2) := by decide +kernel
theorem d3_67 : decode method_3_code 67 = .ok (.bipush 60, 2) := by decide +kernel
theorem d3_69 : decode method_3_code 69 = .ok (.lushr, 1) := by decide +kernel
theorem d3_70 : decode method_3_code 70 = .ok (.lxor, 1) := by decide +kernel
theorem d3_71 : decode method_3_code 71 = .ok (.lreturn, 1) := by decide +kernel
theorem ef_Unm (m : MethodId) (q0 : Int64) : entryFrame m #[(.long q0)] 14 = mkF m 0 #[.val (.long q0), .second, .unset, .unset, .unset, .unset, .unset, .unset, .unset, .unset, .unset, .unset, .unset, .unset] [] := by first | (simp [entryFrame, mkF, argsToLocals, Value.category]; done) | rfl
def QUnm (Z : State) (q0 : Int64) (h0 : Heap) (n0 : Nat) (v : Option Value) (h : Heap) (L : List Loc) : Prop := v = some (.long (own_unmix q0)) ∧ Fr n0 L ∧ h = h0
set_option maxRecDepth 65536 in
set_option maxHeartbeats 40000000 in
theorem rmUnm (l : Launch) (Z : State) (aV : Array Value) (hw : ∀ d ∈ tables_1, d.before aV Z = true) (ws : List Jvm.Cond) (q0 : Int64) (h0 : Heap) (n0 : Nat) (Zn : n0 ≤ h0.size) :
    MetFree l (⟨"com/example/quorum_tree/quorumtree/search/RandomStreamsSeedOfPinLaw", "unmix", "(J)J"⟩ : MethodName) (head1 (Jvm.Cond.code (⟨"com/example/quorum_tree/quorumtree/search/RandomStreamsSeedOfPinLaw", "unmix", "(J)J"⟩ : MethodName) method_3_code 14 (some .long) :: ws) ({ frames := 1, cells := 0, slots := 0, locals := 17 } : Room)) (fun a U => a = #[(.long q0)] ∧ Z.Warmed39 U.vm ∧ U.heap = h0) (fun _ _ _ _ _ => True) (fun _ U o U' => ∃ v L, o = .returned v ∧ QUnm Z q0 h0 n0 v U'.heap L ∧ FrameEnd U o U' L ({ frames := 1, cells := 0, slots := 0, locals := 17 } : Room).cells ({ frames := 1, cells := 0, slots := 0, locals := 17 } : Room).slots) := by
  refine MetFree.of_bodySF (plainFor_of_name pn_1) hisR ?_
  intro p e s m args below meth c s₁ Bd hml0 hP hK
  obtain ⟨rfl, hZ, hh⟩ := hP
  have hx := Bd.exec
  have hby := Bd.bytes
  have hml : c.maxLocals = 14 := hml0
  have hown : s.vm.findClass "com/example/quorum_tree/quorumtree/search/RandomStreamsSeedOfPinLaw" = some m.cls := findClass_of_methodNamed Bd.named
  have hnm := (name_of_methodNamed Bd.named Bd.method).1
  have X0 : Stand p l e ({ frames := 1, cells := 0, slots := 0, locals := 17 } : Room) s m #[(.long q0)] below meth c s₁ [] 0 0 := Stand.of_body Bd
  have e0 : s₁.heap = h0 := by rw [← hh, Bd.state]; rfl
  have N0 := Fr.nil n0
  have Kp := Keep.refl h0 []
  show Run p e below (Ends s (QUnm Z q0 h0 n0) ({ frames := 1, cells := 0, slots := 0, locals := 17 } : Room).cells ({ frames := 1, cells := 0, slots := 0, locals := 17 } : Room).slots) _
  refine Run.st (S' := s₁.setTop (mkF m 0 #[.val (.long q0), .second, .unset, .unset, .unset, .unset, .unset, .unset, .unset, .unset, .unset, .unset, .unset, .unset] [])) (fun t k => castTop (ef_Unm m q0) k) ?_
  refine Run.st (S' := s₁.setTop (mkF m 14 #[.val (.long q0), .second, .val (.long (-4658895280553007687 : Int64)), .second, .val (.long (-7723592293110705685 : Int64)), .second, .unset, .unset, .unset, .unset, .unset, .unset, .unset, .unset] [(.long ((q0.toUInt64 >>> ((31 : Int32) &&& 0x3f).toInt64.toUInt64).toInt64)), (.long q0)])) (fun _ k => X0.ldc2Long hx hown (mvT hZ (hw _ (List.mem_of_getElem? (i := 8) rfl))) (g := (mkF m 0 #[.val (.long q0), .second, .unset, .unset, .unset, .unset, .unset, .unset, .unset, .unset, .unset, .unset, .unset, .unset] [])) rfl (hb hby d3_0) _ (XS.lstoreN X0.here hx rfl (hb hby d3_3) rfl (l' := #[.val (.long q0), .second, .val (.long (-4658895280553007687 : Int64)), .second, .unset, .unset, .unset, .unset, .unset, .unset, .unset, .unset, .unset, .unset]) rfl (X0.ldc2Long hx hown (mvT hZ (hw _ (List.mem_of_getElem? (i := 14) rfl))) (g := (mkF m 4 #[.val (.long q0), .second, .val (.long (-4658895280553007687 : Int64)), .second, .unset, .unset, .unset, .unset, .unset, .unset, .unset, .unset, .unset, .unset] [])) rfl (hb hby d3_4) _ (XS.lstore X0.here hx rfl (hb hby d3_7) rfl (l' := #[.val (.long q0), .second, .val (.long (-4658895280553007687 : Int64)), .second, .val (.long (-7723592293110705685 : Int64)), .second, .unset, .unset, .unset, .unset, .unset, .unset, .unset, .unset]) rfl (XS.lloadN X0.here hx rfl (hb hby d3_9) rfl (XS.lloadN X0.here hx rfl (hb hby d3_10) rfl (XS.bipush X0.here hx rfl (hb hby d3_11) (XS.lushr X0.here hx rfl (hb hby d3_13) rfl k)))))))) ?_
  refine Run.st (S' := s₁.setTop (mkF m 22 #[.val (.long q0), .second, .val (.long (-4658895280553007687 : Int64)), .second, .val (.long (-7723592293110705685 : Int64)), .second, .val (.long ((q0 ^^^ ((q0.toUInt64 >>> ((31 : Int32) &&& 0x3f).toInt64.toUInt64).toInt64)) ^^^ ((q0.toUInt64 >>> ((62 : Int32) &&& 0x3f).toInt64.toUInt64).toInt64))), .second, .unset, .unset, .unset, .unset, .unset, .unset] [])) (fun _ k => XS.lxor X0.here hx rfl (hb hby d3_14) rfl (XS.lloadN X0.here hx rfl (hb hby d3_15) rfl (XS.bipush X0.here hx rfl (hb hby d3_16) (XS.lushr X0.here hx rfl (hb hby d3_18) rfl (XS.lxor X0.here hx rfl (hb hby d3_19) rfl (XS.lstore X0.here hx rfl (hb hby d3_20) rfl (l' := #[.val (.long q0), .second, .val (.long (-4658895280553007687 : Int64)), .second, .val (.long (-7723592293110705685 : Int64)), .second, .val (.long ((q0 ^^^ ((q0.toUInt64 >>> ((31 : Int32) &&& 0x3f).toInt64.toUInt64).toInt64)) ^^^ ((q0.toUInt64 >>> ((62 : Int32) &&& 0x3f).toInt64.toUInt64).toInt64))), .second, .unset, .unset, .unset, .unset, .unset, .unset]) rfl k)))))) ?_
  show Run p e below _ (s₁.setTop (mkF m 22 #[.val (.long q0), .second, .val (.long (-4658895280553007687 : Int64)), .second, .val (.long (-7723592293110705685 : Int64)), .second, .val (.long (own_y 31 62 q0)), .second, .unset, .unset, .unset, .unset, .unset, .unset] []))
  refine Run.st (S' := s₁.setTop (mkF m 26 #[.val (.long q0), .second, .val (.long (-4658895280553007687 : Int64)), .second, .val (.long (-7723592293110705685 : Int64)), .second, .val (.long (own_y 31 62 q0)), .second, .unset, .unset, .unset, .unset, .unset, .unset] [(.long (-7723592293110705685 : Int64)), (.long (own_y 31 62 q0))])) (fun _ k => XS.lload X0.here hx rfl (hb hby d3_22) rfl (XS.lload X0.here hx rfl (hb hby d3_24) rfl k)) ?_
  obtain ⟨_, _, ⟨T1, L1, k1, n1⟩, -, X1, ⟨Lc1, hQ1, l1, y1, z1⟩, st1⟩ := Jvm.LawKit.callS X0 hx (y := (⟨"com/example/quorum_tree/quorumtree/search/RandomStreamsSeedOfPinLaw", "inverse", "(J)J"⟩ : MethodName)) hown (mvT hZ (hw _ (List.mem_of_getElem? (i := 9) rfl))) (mvT hZ (hw _ (List.mem_of_getElem? (i := 10) rfl))) (mvT hZ (hw _ (List.mem_of_getElem? (i := 11) rfl))) (mvT hZ (hw _ (List.mem_of_getElem? (i := 12) rfl))) (by decide) (backOf (W := 2) (rmInv l Z aV hw [] (-7723592293110705685 : Int64) h0 n0 Zn ) hZ (hw _ (List.mem_of_getElem? (i := 12) rfl)) (hw _ (List.mem_of_getElem? (i := 11) rfl)) (by decide) (by decide)) (g := (mkF m 26 #[.val (.long q0), .second, .val (.long (-4658895280553007687 : Int64)), .second, .val (.long (-7723592293110705685 : Int64)), .second, .val (.long (own_y 31 62 q0)), .second, .unset, .unset, .unset, .unset, .unset, .unset] [(.long (-7723592293110705685 : Int64)), (.long (own_y 31 62 q0))])) rfl (by rw [hml]; rfl) (argsL := [(.long (-7723592293110705685 : Int64))]) (rest := [(.long (own_y 31 62 q0))]) (lenOf pd_0 rfl) rfl (by show 2 * 0 + _ ≤ _; exact Nat.le_of_eq rfl) (hb hby d3_26) (fun _ _ => ⟨rfl, e0, (by decide : 0 + 0 ≤ _), (by decide : 0 + 0 ≤ _)⟩)
  dsimp only [Pt.U, Pt.locs, Pt.cells, Pt.slots] at X1 l1 y1 z1 st1 hQ1
  subst l1 y1 z1
  obtain ⟨rfl, N1q, e1⟩ := hQ1
  have N1 := Fr.app N0 N1q
  refine Run.st (S' := T1.setTop (mkF m 32 #[.val (.long q0), .second, .val (.long (-4658895280553007687 : Int64)), .second, .val (.long (-7723592293110705685 : Int64)), .second, .val (.long (own_y 31 62 q0)), .second, .val (.long ((own_y 31 62 q0) * (own_inv (-7723592293110705685 : Int64)))), .second, .unset, .unset, .unset, .unset] [])) (fun _ k => st1 _ (XS.lmul X1.here hx rfl (hb hby d3_29) rfl (XS.lstore X1.here hx rfl (hb hby d3_30) rfl (l' := #[.val (.long q0), .second, .val (.long (-4658895280553007687 : Int64)), .second, .val (.long (-7723592293110705685 : Int64)), .second, .val (.long (own_y 31 62 q0)), .second, .val (.long ((own_y 31 62 q0) * (own_inv (-7723592293110705685 : Int64)))), .second, .unset, .unset, .unset, .unset]) rfl k))) ?_
  show Run p e below _ (T1.setTop (mkF m 32 #[.val (.long q0), .second, .val (.long (-4658895280553007687 : Int64)), .second, .val (.long (-7723592293110705685 : Int64)), .second, .val (.long (own_y 31 62 q0)), .second, .val (.long (own_u1 q0)), .second, .unset, .unset, .unset, .unset] []))
  refine Run.st (S' := T1.setTop (mkF m 45 #[.val (.long q0), .second, .val (.long (-4658895280553007687 : Int64)), .second, .val (.long (-7723592293110705685 : Int64)), .second, .val (.long (own_y 31 62 q0)), .second, .val (.long (own_u1 q0)), .second, .unset, .unset, .unset, .unset] [(.long (((own_u1 q0).toUInt64 >>> ((54 : Int32) &&& 0x3f).toInt64.toUInt64).toInt64)), (.long ((own_u1 q0) ^^^ (((own_u1 q0).toUInt64 >>> ((27 : Int32) &&& 0x3f).toInt64.toUInt64).toInt64)))])) (fun _ k => XS.lload X1.here hx rfl (hb hby d3_32) rfl (XS.lload X1.here hx rfl (hb hby d3_34) rfl (XS.bipush X1.here hx rfl (hb hby d3_36) (XS.lushr X1.here hx rfl (hb hby d3_38) rfl (XS.lxor X1.here hx rfl (hb hby d3_39) rfl (XS.lload X1.here hx rfl (hb hby d3_40) rfl (XS.bipush X1.here hx rfl (hb hby d3_42) (XS.lushr X1.here hx rfl (hb hby d3_44) rfl k)))))))) ?_
  refine Run.st (S' := T1.setTop (mkF m 48 #[.val (.long q0), .second, .val (.long (-4658895280553007687 : Int64)), .second, .val (.long (-7723592293110705685 : Int64)), .second, .val (.long (own_y 31 62 q0)), .second, .val (.long (own_u1 q0)), .second, .val (.long (((own_u1 q0) ^^^ (((own_u1 q0).toUInt64 >>> ((27 : Int32) &&& 0x3f).toInt64.toUInt64).toInt64)) ^^^ (((own_u1 q0).toUInt64 >>> ((54 : Int32) &&& 0x3f).toInt64.toUInt64).toInt64))), .second, .unset, .unset] [])) (fun _ k => XS.lxor X1.here hx rfl (hb hby d3_45) rfl (XS.lstore X1.here hx rfl (hb hby d3_46) rfl (l' := #[.val (.long q0), .second, .val (.long (-4658895280553007687 : Int64)), .second, .val (.long (-7723592293110705685 : Int64)), .second, .val (.long (own_y 31 62 q0)), .second, .val (.long (own_u1 q0)), .second, .val (.long (((own_u1 q0) ^^^ (((own_u1 q0).toUInt64 >>> ((27 : Int32) &&& 0x3f).toInt64.toUInt64).toInt64)) ^^^ (((own_u1 q0).toUInt64 >>> ((54 : Int32) &&& 0x3f).toInt64.toUInt64).toInt64))), .second, .unset, .unset]) rfl k)) ?_
  show Run p e below _ (T1.setTop (mkF m 48 #[.val (.long q0), .second, .val (.long (-4658895280553007687 : Int64)), .second, .val (.long (-7723592293110705685 : Int64)), .second, .val (.long (own_y 31 62 q0)), .second, .val (.long (own_u1 q0)), .second, .val (.long (own_y 27 54 (own_u1 q0))), .second, .unset, .unset] []))
  refine Run.st (S' := T1.setTop (mkF m 51 #[.val (.long q0), .second, .val (.long (-4658895280553007687 : Int64)), .second, .val (.long (-7723592293110705685 : Int64)), .second, .val (.long (own_y 31 62 q0)), .second, .val (.long (own_u1 q0)), .second, .val (.long (own_y 27 54 (own_u1 q0))), .second, .unset, .unset] [(.long (-4658895280553007687 : Int64)), (.long (own_y 27 54 (own_u1 q0)))])) (fun _ k => XS.lload X1.here hx rfl (hb hby d3_48) rfl (XS.lloadN X1.here hx rfl (hb hby d3_50) rfl k)) ?_
  obtain ⟨_, _, ⟨T2, L2, k2, n2⟩, -, X2, ⟨Lc2, hQ2, l2, y2, z2⟩, st2⟩ := Jvm.LawKit.callS X1 hx (y := (⟨"com/example/quorum_tree/quorumtree/search/RandomStreamsSeedOfPinLaw", "inverse", "(J)J"⟩ : MethodName)) hown (mvT hZ (hw _ (List.mem_of_getElem? (i := 9) rfl))) (mvT hZ (hw _ (List.mem_of_getElem? (i := 10) rfl))) (mvT hZ (hw _ (List.mem_of_getElem? (i := 11) rfl))) (mvT hZ (hw _ (List.mem_of_getElem? (i := 12) rfl))) (by decide) (backOf (W := 2) (rmInv l Z aV hw [] (-4658895280553007687 : Int64) h0 n0 Zn ) hZ (hw _ (List.mem_of_getElem? (i := 12) rfl)) (hw _ (List.mem_of_getElem? (i := 11) rfl)) (by decide) (by decide)) (g := (mkF m 51 #[.val (.long q0), .second, .val (.long (-4658895280553007687 : Int64)), .second, .val (.long (-7723592293110705685 : Int64)), .second, .val (.long (own_y 31 62 q0)), .second, .val (.long (own_u1 q0)), .second, .val (.long (own_y 27 54 (own_u1 q0))), .second, .unset, .unset] [(.long (-4658895280553007687 : Int64)), (.long (own_y 27 54 (own_u1 q0)))])) rfl (by rw [hml]; rfl) (argsL := [(.long (-4658895280553007687 : Int64))]) (rest := [(.long (own_y 27 54 (own_u1 q0)))]) (lenOf pd_0 rfl) rfl (by show 2 * 0 + _ ≤ _; exact Nat.le_of_eq rfl) (hb hby d3_51) (fun _ _ => ⟨rfl, e1, (by decide : 0 + 0 ≤ _), (by decide : 0 + 0 ≤ _)⟩)
  dsimp only [Pt.U, Pt.locs, Pt.cells, Pt.slots] at X2 l2 y2 z2 st2 hQ2
  subst l2 y2 z2
  obtain ⟨rfl, N2q, e2⟩ := hQ2
  have N2 := Fr.app N1 N2q
  refine Run.st (S' := T2.setTop (mkF m 57 #[.val (.long q0), .second, .val (.long (-4658895280553007687 : Int64)), .second, .val (.long (-7723592293110705685 : Int64)), .second, .val (.long (own_y 31 62 q0)), .second, .val (.long (own_u1 q0)), .second, .val (.long (own_y 27 54 (own_u1 q0))), .second, .val (.long ((own_y 27 54 (own_u1 q0)) * (own_inv (-4658895280553007687 : Int64)))), .second] [])) (fun _ k => st2 _ (XS.lmul X2.here hx rfl (hb hby d3_54) rfl (XS.lstore X2.here hx rfl (hb hby d3_55) rfl (l' := #[.val (.long q0), .second, .val (.long (-4658895280553007687 : Int64)), .second, .val (.long (-7723592293110705685 : Int64)), .second, .val (.long (own_y 31 62 q0)), .second, .val (.long (own_u1 q0)), .second, .val (.long (own_y 27 54 (own_u1 q0))), .second, .val (.long ((own_y 27 54 (own_u1 q0)) * (own_inv (-4658895280553007687 : Int64)))), .second]) rfl k))) ?_
  show Run p e below _ (T2.setTop (mkF m 57 #[.val (.long q0), .second, .val (.long (-4658895280553007687 : Int64)), .second, .val (.long (-7723592293110705685 : Int64)), .second, .val (.long (own_y 31 62 q0)), .second, .val (.long (own_u1 q0)), .second, .val (.long (own_y 27 54 (own_u1 q0))), .second, .val (.long (own_u2 q0)), .second] []))
  refine Run.st (S' := T2.setTop (mkF m 70 #[.val (.long q0), .second, .val (.long (-4658895280553007687 : Int64)), .second, .val (.long (-7723592293110705685 : Int64)), .second, .val (.long (own_y 31 62 q0)), .second, .val (.long (own_u1 q0)), .second, .val (.long (own_y 27 54 (own_u1 q0))), .second, .val (.long (own_u2 q0)), .second] [(.long (((own_u2 q0).toUInt64 >>> ((60 : Int32) &&& 0x3f).toInt64.toUInt64).toInt64)), (.long ((own_u2 q0) ^^^ (((own_u2 q0).toUInt64 >>> ((30 : Int32) &&& 0x3f).toInt64.toUInt64).toInt64)))])) (fun _ k => XS.lload X2.here hx rfl (hb hby d3_57) rfl (XS.lload X2.here hx rfl (hb hby d3_59) rfl (XS.bipush X2.here hx rfl (hb hby d3_61) (XS.lushr X2.here hx rfl (hb hby d3_63) rfl (XS.lxor X2.here hx rfl (hb hby d3_64) rfl (XS.lload X2.here hx rfl (hb hby d3_65) rfl (XS.bipush X2.here hx rfl (hb hby d3_67) (XS.lushr X2.here hx rfl (hb hby d3_69) rfl k)))))))) ?_
  refine Run.st (S' := T2.setTop (mkF m 71 #[.val (.long q0), .second, .val (.long (-4658895280553007687 : Int64)), .second, .val (.long (-7723592293110705685 : Int64)), .second, .val (.long (own_y 31 62 q0)), .second, .val (.long (own_u1 q0)), .second, .val (.long (own_y 27 54 (own_u1 q0))), .second, .val (.long (own_u2 q0)), .second] [(.long (((own_u2 q0) ^^^ (((own_u2 q0).toUInt64 >>> ((30 : Int32) &&& 0x3f).toInt64.toUInt64).toInt64)) ^^^ (((own_u2 q0).toUInt64 >>> ((60 : Int32) &&& 0x3f).toInt64.toUInt64).toInt64)))])) (fun _ k => XS.lxor X2.here hx rfl (hb hby d3_70) rfl k) ?_
  refine Run.out X2 hx Bd.notSynchronized Bd.returns rfl (Or.inr (Or.inl ⟨rfl, rfl, _, rfl⟩)) (hb hby d3_71) (by decide) (by decide) ?_
  rw [e2]
  exact ⟨rfl, N2, rfl⟩
theorem pd_1 : parseMethodDescriptor "(JJ)J" = some ⟨[.long, .long], some .long⟩ := by decide +kernel
theorem ef_0 (m : MethodId) (q0 : Int64) (q1 : Int64) : entryFrame m #[(.long q0), (.long q1)] maxLocals = mkF m 0 #[.val (.long q0), .second, .val (.long q1), .second, .unset, .unset, .unset, .unset, .unset, .unset, .unset] [] := by first | (simp [entryFrame, mkF, argsToLocals, Value.category, maxLocals]; done) | rfl
def Q0 (Z : State) (q0 : Int64) (q1 : Int64) (h0 : Heap) (n0 : Nat) (v : Option Value) (h : Heap) (L : List Loc) : Prop := v = some (.int 1) ∧ Fr n0 L
set_option maxRecDepth 65536 in
set_option maxHeartbeats 40000000 in
theorem rm0 (l : Launch) (Z : State) (aV : Array Value) (hw : ∀ d ∈ tables_1, d.before aV Z = true) (ws : List Jvm.Cond) (q0 : Int64) (q1 : Int64) (h0 : Heap) (n0 : Nat) (Zn : n0 ≤ h0.size) :
    MetFree l x (head1 (Jvm.Cond.code x code maxLocals ret :: ws) room_1) (fun a U => a = #[(.long q0), (.long q1)] ∧ Z.Warmed39 U.vm ∧ U.heap = h0) (fun _ _ _ _ _ => True) (fun _ U o U' => ∃ v L, o = .returned v ∧ Q0 Z q0 q1 h0 n0 v U'.heap L ∧ FrameEnd U o U' L room_1.cells room_1.slots) := by
  refine MetFree.of_bodySF (plainFor_of_name pn_1) hisR ?_
  intro p e s m args below meth c s₁ Bd hml0 hP hK
  obtain ⟨rfl, hZ, hh⟩ := hP
  have hx := Bd.exec
  have hby := Bd.bytes
  have hml : c.maxLocals = 11 := hml0
  have hown : s.vm.findClass "com/example/quorum_tree/quorumtree/search/RandomStreamsSeedOfPinLaw" = some m.cls := findClass_of_methodNamed Bd.named
  have hnm := (name_of_methodNamed Bd.named Bd.method).1
  have X0 : Stand p l e room_1 s m #[(.long q0), (.long q1)] below meth c s₁ [] 0 0 := Stand.of_body Bd
  have e0 : s₁.heap = h0 := by rw [← hh, Bd.state]; rfl
  have N0 := Fr.nil n0
  have Kp := Keep.refl h0 []
  show Run p e below (Ends s (Q0 Z q0 q1 h0 n0) room_1.cells room_1.slots) _
  refine Run.st (S' := s₁.setTop (mkF m 0 #[.val (.long q0), .second, .val (.long q1), .second, .unset, .unset, .unset, .unset, .unset, .unset, .unset] [])) (fun t k => castTop (ef_0 m q0 q1) k) ?_
  refine Run.st (S' := s₁.setTop (mkF m 7 #[.val (.long q0), .second, .val (.long q1), .second, .val (.long (-7046029254386353131 : Int64)), .second, .unset, .unset, .unset, .unset, .unset] [(.long q1), (.long q0)])) (fun _ k => X0.ldc2Long hx hown (mvT hZ (hw _ (List.mem_of_getElem? (i := 0) rfl))) (g := (mkF m 0 #[.val (.long q0), .second, .val (.long q1), .second, .unset, .unset, .unset, .unset, .unset, .unset, .unset] [])) rfl (hb hby at_0) _ (XS.lstore X0.here hx rfl (hb hby at_3) rfl (l' := #[.val (.long q0), .second, .val (.long q1), .second, .val (.long (-7046029254386353131 : Int64)), .second, .unset, .unset, .unset, .unset, .unset]) rfl (XS.lloadN X0.here hx rfl (hb hby at_5) rfl (XS.lloadN X0.here hx rfl (hb hby at_6) rfl k)))) ?_
  obtain ⟨_, _, ⟨T1, L1, k1, n1⟩, -, X1, ⟨Lc1, hQ1, l1, y1, z1⟩, st1⟩ := Jvm.LawKit.callS X0 hx (y := (⟨"com/example/quorum_tree/quorumtree/search/RandomStreams", "seedOf", "(JJ)J"⟩ : MethodName)) hown (mvT hZ (hw _ (List.mem_of_getElem? (i := 1) rfl))) (mvT hZ (hw _ (List.mem_of_getElem? (i := 2) rfl))) (mvT hZ (hw _ (List.mem_of_getElem? (i := 3) rfl))) (mvT hZ (hw _ (List.mem_of_getElem? (i := 4) rfl))) (by decide) (backOf (W := 0) (rmSeed l Z aV hw [] q0 q1 h0 n0 Zn ) hZ (hw _ (List.mem_of_getElem? (i := 4) rfl)) (hw _ (List.mem_of_getElem? (i := 3) rfl)) (by decide) (by decide)) (g := (mkF m 7 #[.val (.long q0), .second, .val (.long q1), .second, .val (.long (-7046029254386353131 : Int64)), .second, .unset, .unset, .unset, .unset, .unset] [(.long q1), (.long q0)])) rfl (by rw [hml]; rfl) (argsL := [(.long q0), (.long q1)]) (rest := []) (lenOf pd_1 rfl) rfl (by show 2 * 0 + _ ≤ _; exact Nat.le_of_eq rfl) (hb hby at_7) (fun _ _ => ⟨rfl, e0, (by decide : 0 + 0 ≤ _), (by decide : 0 + 0 ≤ _)⟩)
  dsimp only [Pt.U, Pt.locs, Pt.cells, Pt.slots] at X1 l1 y1 z1 st1 hQ1
  subst l1 y1 z1
  obtain ⟨rfl, N1q, e1⟩ := hQ1
  have N1 := Fr.app N0 N1q
  refine Run.st (S' := T1.setTop (mkF m 19 #[.val (.long q0), .second, .val (.long q1), .second, .val (.long (-7046029254386353131 : Int64)), .second, .val (.long (own_seed q0 q1)), .second, .unset, .unset, .unset] [(.long ((q1 + (1 : Int64)) * (-7046029254386353131 : Int64))), (.long q0)])) (fun _ k => st1 _ (XS.lstore X1.here hx rfl (hb hby at_10) rfl (l' := #[.val (.long q0), .second, .val (.long q1), .second, .val (.long (-7046029254386353131 : Int64)), .second, .val (.long (own_seed q0 q1)), .second, .unset, .unset, .unset]) rfl (XS.lloadN X1.here hx rfl (hb hby at_12) rfl (XS.lloadN X1.here hx rfl (hb hby at_13) rfl (XS.lconst X1.here hx rfl (hb hby at_14) (XS.ladd X1.here hx rfl (hb hby at_15) rfl (XS.lload X1.here hx rfl (hb hby at_16) rfl (XS.lmul X1.here hx rfl (hb hby at_18) rfl k)))))))) ?_
  refine Run.st (S' := T1.setTop (mkF m 25 #[.val (.long q0), .second, .val (.long q1), .second, .val (.long (-7046029254386353131 : Int64)), .second, .val (.long (own_seed q0 q1)), .second, .val (.long (q0 + ((q1 + (1 : Int64)) * (-7046029254386353131 : Int64)))), .second, .unset] [(.long (-4658895280553007687 : Int64))])) (fun _ k => XS.ladd X1.here hx rfl (hb hby at_19) rfl (XS.lstore X1.here hx rfl (hb hby at_20) rfl (l' := #[.val (.long q0), .second, .val (.long q1), .second, .val (.long (-7046029254386353131 : Int64)), .second, .val (.long (own_seed q0 q1)), .second, .val (.long (q0 + ((q1 + (1 : Int64)) * (-7046029254386353131 : Int64)))), .second, .unset]) rfl (X1.ldc2Long hx hown (mvT hZ (hw _ (List.mem_of_getElem? (i := 8) rfl))) (g := (mkF m 22 #[.val (.long q0), .second, .val (.long q1), .second, .val (.long (-7046029254386353131 : Int64)), .second, .val (.long (own_seed q0 q1)), .second, .val (.long (q0 + ((q1 + (1 : Int64)) * (-7046029254386353131 : Int64)))), .second, .unset] [])) rfl (hb hby at_22) _ k))) ?_
  obtain ⟨_, _, ⟨T2, L2, k2, n2⟩, -, X2, ⟨Lc2, hQ2, l2, y2, z2⟩, st2⟩ := Jvm.LawKit.callS X1 hx (y := (⟨"com/example/quorum_tree/quorumtree/search/RandomStreamsSeedOfPinLaw", "inverse", "(J)J"⟩ : MethodName)) hown (mvT hZ (hw _ (List.mem_of_getElem? (i := 9) rfl))) (mvT hZ (hw _ (List.mem_of_getElem? (i := 10) rfl))) (mvT hZ (hw _ (List.mem_of_getElem? (i := 11) rfl))) (mvT hZ (hw _ (List.mem_of_getElem? (i := 12) rfl))) (by decide) (backOf (W := 0) (rmInv l Z aV hw [] (-4658895280553007687 : Int64) h0 n0 Zn ) hZ (hw _ (List.mem_of_getElem? (i := 12) rfl)) (hw _ (List.mem_of_getElem? (i := 11) rfl)) (by decide) (by decide)) (g := (mkF m 25 #[.val (.long q0), .second, .val (.long q1), .second, .val (.long (-7046029254386353131 : Int64)), .second, .val (.long (own_seed q0 q1)), .second, .val (.long (q0 + ((q1 + (1 : Int64)) * (-7046029254386353131 : Int64)))), .second, .unset] [(.long (-4658895280553007687 : Int64))])) rfl (by rw [hml]; rfl) (argsL := [(.long (-4658895280553007687 : Int64))]) (rest := []) (lenOf pd_0 rfl) rfl (by show 2 * 0 + _ ≤ _; exact Nat.le_of_eq rfl) (hb hby at_25) (fun _ _ => ⟨rfl, e1, (by decide : 0 + 0 ≤ _), (by decide : 0 + 0 ≤ _)⟩)
  dsimp only [Pt.U, Pt.locs, Pt.cells, Pt.slots] at X2 l2 y2 z2 st2 hQ2
  subst l2 y2 z2
  obtain ⟨rfl, N2q, e2⟩ := hQ2
  have N2 := Fr.app N1 N2q
  refine Run.st (S' := T2.setTop (mkF m 40 #[.val (.long q0), .second, .val (.long q1), .second, .val (.long (-7046029254386353131 : Int64)), .second, .val (.long (own_seed q0 q1)), .second, .val (.long (q0 + ((q1 + (1 : Int64)) * (-7046029254386353131 : Int64)))), .second, .unset] [(.long (-7723592293110705685 : Int64))])) (fun _ k => st2 _ (X2.ldc2Long hx hown (mvT hZ (hw _ (List.mem_of_getElem? (i := 8) rfl))) (g := (mkF m 28 #[.val (.long q0), .second, .val (.long q1), .second, .val (.long (-7046029254386353131 : Int64)), .second, .val (.long (own_seed q0 q1)), .second, .val (.long (q0 + ((q1 + (1 : Int64)) * (-7046029254386353131 : Int64)))), .second, .unset] [(.long (own_inv (-4658895280553007687 : Int64)))])) rfl (hb hby at_28) _ (XS.lmul X2.here hx rfl (hb hby at_31) rfl (XS.lconst X2.here hx rfl (hb hby at_32) (XS.lcmp X2.here hx rfl (hb hby at_33) rfl (XS.ifNo X2.here hx rfl (hb hby at_34) rfl (lcYes (Jvm.Free.XT.ll_ne_f (show ((own_inv (-4658895280553007687 : Int64)) * (-4658895280553007687 : Int64)) = (1 : Int64) from own_i1))) (X2.ldc2Long hx hown (mvT hZ (hw _ (List.mem_of_getElem? (i := 14) rfl))) (g := (mkF m 37 #[.val (.long q0), .second, .val (.long q1), .second, .val (.long (-7046029254386353131 : Int64)), .second, .val (.long (own_seed q0 q1)), .second, .val (.long (q0 + ((q1 + (1 : Int64)) * (-7046029254386353131 : Int64)))), .second, .unset] [])) rfl (hb hby at_37) _ k))))))) ?_
  obtain ⟨_, _, ⟨T3, L3, k3, n3⟩, -, X3, ⟨Lc3, hQ3, l3, y3, z3⟩, st3⟩ := Jvm.LawKit.callS X2 hx (y := (⟨"com/example/quorum_tree/quorumtree/search/RandomStreamsSeedOfPinLaw", "inverse", "(J)J"⟩ : MethodName)) hown (mvT hZ (hw _ (List.mem_of_getElem? (i := 9) rfl))) (mvT hZ (hw _ (List.mem_of_getElem? (i := 10) rfl))) (mvT hZ (hw _ (List.mem_of_getElem? (i := 11) rfl))) (mvT hZ (hw _ (List.mem_of_getElem? (i := 12) rfl))) (by decide) (backOf (W := 0) (rmInv l Z aV hw [] (-7723592293110705685 : Int64) h0 n0 Zn ) hZ (hw _ (List.mem_of_getElem? (i := 12) rfl)) (hw _ (List.mem_of_getElem? (i := 11) rfl)) (by decide) (by decide)) (g := (mkF m 40 #[.val (.long q0), .second, .val (.long q1), .second, .val (.long (-7046029254386353131 : Int64)), .second, .val (.long (own_seed q0 q1)), .second, .val (.long (q0 + ((q1 + (1 : Int64)) * (-7046029254386353131 : Int64)))), .second, .unset] [(.long (-7723592293110705685 : Int64))])) rfl (by rw [hml]; rfl) (argsL := [(.long (-7723592293110705685 : Int64))]) (rest := []) (lenOf pd_0 rfl) rfl (by show 2 * 0 + _ ≤ _; exact Nat.le_of_eq rfl) (hb hby at_40) (fun _ _ => ⟨rfl, e2, (by decide : 0 + 0 ≤ _), (by decide : 0 + 0 ≤ _)⟩)
  dsimp only [Pt.U, Pt.locs, Pt.cells, Pt.slots] at X3 l3 y3 z3 st3 hQ3
  subst l3 y3 z3
  obtain ⟨rfl, N3q, e3⟩ := hQ3
  have N3 := Fr.app N2 N3q
  refine Run.st (S' := T3.setTop (mkF m 57 #[.val (.long q0), .second, .val (.long q1), .second, .val (.long (-7046029254386353131 : Int64)), .second, .val (.long (own_seed q0 q1)), .second, .val (.long (q0 + ((q1 + (1 : Int64)) * (-7046029254386353131 : Int64)))), .second, .unset] [(.int (1 : Int32))])) (fun _ k => st3 _ (X3.ldc2Long hx hown (mvT hZ (hw _ (List.mem_of_getElem? (i := 14) rfl))) (g := (mkF m 43 #[.val (.long q0), .second, .val (.long q1), .second, .val (.long (-7046029254386353131 : Int64)), .second, .val (.long (own_seed q0 q1)), .second, .val (.long (q0 + ((q1 + (1 : Int64)) * (-7046029254386353131 : Int64)))), .second, .unset] [(.long (own_inv (-7723592293110705685 : Int64)))])) rfl (hb hby at_43) _ (XS.lmul X3.here hx rfl (hb hby at_46) rfl (XS.lconst X3.here hx rfl (hb hby at_47) (XS.lcmp X3.here hx rfl (hb hby at_48) rfl (XS.ifNo X3.here hx rfl (hb hby at_49) rfl (lcYes (Jvm.Free.XT.ll_ne_f (show ((own_inv (-7723592293110705685 : Int64)) * (-7723592293110705685 : Int64)) = (1 : Int64) from own_i2))) (XS.iconst X3.here hx rfl (hb hby at_52) (XS.goto X3.here hx rfl (pc0 := 53) (pc' := 57) rfl (hb hby at_53) (by decide) (by decide) k)))))))) ?_
  refine Run.st (S' := T3.setTop (mkF m 66 #[.val (.long q0), .second, .val (.long q1), .second, .val (.long (-7046029254386353131 : Int64)), .second, .val (.long (own_seed q0 q1)), .second, .val (.long (q0 + ((q1 + (1 : Int64)) * (-7046029254386353131 : Int64)))), .second, .val (.int (1 : Int32))] [(.long (own_seed q0 q1))])) (fun _ k => XS.istore X3.here hx rfl (hb hby at_57) rfl (l' := #[.val (.long q0), .second, .val (.long q1), .second, .val (.long (-7046029254386353131 : Int64)), .second, .val (.long (own_seed q0 q1)), .second, .val (.long (q0 + ((q1 + (1 : Int64)) * (-7046029254386353131 : Int64)))), .second, .val (.int (1 : Int32))]) rfl (XS.iload X3.here hx rfl (hb hby at_59) rfl (XS.ifNo X3.here hx rfl (hb hby at_61) rfl ((if0 _ _).trans (feq (show ¬ ((1 : Int32) = (0 : Int32)) from (by decide))).1) (XS.lload X3.here hx rfl (hb hby at_64) rfl k)))) ?_
  obtain ⟨_, _, ⟨T4, L4, k4, n4⟩, -, X4, ⟨Lc4, hQ4, l4, y4, z4⟩, st4⟩ := Jvm.LawKit.callS X3 hx (y := (⟨"com/example/quorum_tree/quorumtree/search/RandomStreamsSeedOfPinLaw", "unmix", "(J)J"⟩ : MethodName)) hown (mvT hZ (hw _ (List.mem_of_getElem? (i := 15) rfl))) (mvT hZ (hw _ (List.mem_of_getElem? (i := 16) rfl))) (mvT hZ (hw _ (List.mem_of_getElem? (i := 11) rfl))) (mvT hZ (hw _ (List.mem_of_getElem? (i := 17) rfl))) (by decide) (backOf (W := 0) (rmUnm l Z aV hw [] (own_seed q0 q1) h0 n0 Zn ) hZ (hw _ (List.mem_of_getElem? (i := 17) rfl)) (hw _ (List.mem_of_getElem? (i := 11) rfl)) (by decide) (by decide)) (g := (mkF m 66 #[.val (.long q0), .second, .val (.long q1), .second, .val (.long (-7046029254386353131 : Int64)), .second, .val (.long (own_seed q0 q1)), .second, .val (.long (q0 + ((q1 + (1 : Int64)) * (-7046029254386353131 : Int64)))), .second, .val (.int (1 : Int32))] [(.long (own_seed q0 q1))])) rfl (by rw [hml]; rfl) (argsL := [(.long (own_seed q0 q1))]) (rest := []) (lenOf pd_0 rfl) rfl (by show 2 * 0 + _ ≤ _; exact Nat.le_of_eq rfl) (hb hby at_66) (fun _ _ => ⟨rfl, e3, (by decide : 0 + 0 ≤ _), (by decide : 0 + 0 ≤ _)⟩)
  dsimp only [Pt.U, Pt.locs, Pt.cells, Pt.slots] at X4 l4 y4 z4 st4 hQ4
  subst l4 y4 z4
  obtain ⟨rfl, N4q, e4⟩ := hQ4
  have N4 := Fr.app N3 N4q
  refine Run.st (S' := T4.setTop (mkF m 80 #[.val (.long q0), .second, .val (.long q1), .second, .val (.long (-7046029254386353131 : Int64)), .second, .val (.long (own_seed q0 q1)), .second, .val (.long (q0 + ((q1 + (1 : Int64)) * (-7046029254386353131 : Int64)))), .second, .val (.int (1 : Int32))] [(.int (1 : Int32))])) (fun _ k => st4 _ (XS.lload X4.here hx rfl (hb hby at_69) rfl (XS.lcmp X4.here hx rfl (hb hby at_71) rfl (XS.ifNo X4.here hx rfl (hb hby at_72) rfl (lcYes (Jvm.Free.XT.ll_ne_f (show (own_unmix (own_seed q0 q1)) = (q0 + ((q1 + (1 : Int64)) * (-7046029254386353131 : Int64))) from (own_all _ _)))) (XS.iconst X4.here hx rfl (hb hby at_75) (XS.goto X4.here hx rfl (pc0 := 76) (pc' := 80) rfl (hb hby at_76) (by decide) (by decide) k)))))) ?_
  refine Run.out X4 hx Bd.notSynchronized Bd.returns rfl (Or.inl ⟨rfl, by simp, _, rfl⟩) (hb hby at_80) (by decide) (by decide) ?_
  rw [e4]
  exact ⟨rfl, N4⟩
set_option maxRecDepth 65536 in
set_option maxHeartbeats 40000000 in
theorem comes_1 {Post : Tables → Env → Array Value → State → Outcome → State → Prop} (hpost : ∀ tb e args s v u, (limb_1_1.after args s (.returned v) u = true ∧ limb_1_2.after args s (.returned v) u = true ∧ True) → FrameEnd s (.returned v) u (Jvm.fieldLocs frame_1_writes args s ++ Jvm.arrayLocs frame_1_arrays args s ++ Jvm.staticLocs frame_1_statics s) 0 0 → Post tb e args s (.returned v) u) :
    ArmFor flags0 classFile x code maxLocals ret World_1 tables_1 room_1 Calls_1 rest_1 Pre_1 Post := by
  intro l hfl _ _ p e ha hc hk s m args below hf hA hF happ hP
  obtain ⟨hcalls, hrest, hpre⟩ := hP
  obtain ⟨-, -, -, hnamed, -, -, -, hat⟩ := (Spec.applies_iff hf).mp happ
  obtain ⟨hg, hn⟩ := and_e (Cond.before_iff.mp (show (Jvm.Cond.and given_1 narrow_1).before args s = true from hpre))
  obtain ⟨gv1, gv2⟩ := and_e hg
  obtain ⟨gv3, gv4⟩ := and_e gv2
  obtain ⟨w0, w1, rfl⟩ : ∃ w0 w1 : Value, args = #[w0, w1] := by
    have hs : args.size = 2 := by simpa [Cond.value, given_1] using gv1
    obtain ⟨L⟩ := args
    match L, hs with
    | [w0, w1], _ => exact ⟨w0, w1, rfl⟩
  have hw := fun d (hd : d ∈ tables_1) => atoms_spec (ws := Jvm.Cond.code x code maxLocals ret :: tables_1) hat d (List.mem_cons_of_mem _ hd)
  have hfit : Fit s := fun {y c} hc i hi => by
    obtain ⟨ha, rfl⟩ := Array.getElem?_eq_some_iff.mp hc
    have q := List.all_eq_true.mp ((Array.all_eq_true_iff_forall_mem.mp hF) _ (Array.getElem_mem ha)) i (List.mem_range.mpr hi)
    simpa [Array.getElem?_eq_getElem hi] using q
  obtain ⟨i0, ei0⟩ := isL_v gv3
  obtain rfl : w0 = (.long i0) := Option.some.inj ei0
  obtain ⟨i1, ei1⟩ := isL_v gv4
  obtain rfl : w1 = (.long i1) := Option.some.inj ei1
  obtain ⟨n, o, h1, h2, h3, _, L, rfl, ⟨rfl, N⟩, hq⟩ := rm0 l s _ hw tables_1 i0 i1 s.heap s.heap.size (Nat.le_refl _)  p e ha hc hk s m _ below hf ((Spec.applies_iff_loose hf).mp happ).1 ⟨rfl, State.Warmed39.refl s, rfl⟩ trivial
  refine ⟨n, _, h1, h2, h3, hpost _ _ _ _ _ _ ⟨Cond.after_iff.mpr rfl, Cond.after_iff.mpr (eq_i res_at (Term.int_eval (1)) rfl), trivial⟩ ⟨hq.1, hq.2.1, (hq.2.2.sift fun y hy => Or.inr (N y hy)).mono (by decide) (by decide)⟩⟩
theorem main_1_1 : Claimed_1_1 := comes_1 fun _ _ _ _ _ _ h hF => ⟨h.1, hF⟩
theorem main_1_2 : Claimed_1_2 := comes_1 fun _ _ _ _ _ _ h hF => ⟨h.2.1, hF⟩
end Jvm.Pilot.@@N@@
namespace Jvm.Pilot.@@N@@
open Jvm Jvm.ClassFile Sem Op Lib Jvm.Free Jvm.Stand Jvm.Pilot.@@N@@.Jvm.D
/-! MADE BY PROGRAM (witnessworld.py) out of the Statement's table words and the real class files: 9 classes; the members and pool entries that the words name. The judged class is class 1, her method 3. -/
namespace start1
open Jvm.ClassFile
def u (s : String) : CpInfo := .utf8 (stringToUtf16 s)
/-- a pool by its gaps: so many unusable entries, then the entry; so many at the end -/
def gap : Nat → List CpInfo → List CpInfo
  | 0, r => r
  | n + 1, r => .unusable :: gap n r
def poolList (es : List (Nat × CpInfo)) (last : Nat) : List CpInfo := es.foldr (fun e r => gap e.1 (e.2 :: r)) (gap last [])
def pool (es : List (Nat × CpInfo)) (last : Nat) : Array CpInfo := ⟨poolList es last⟩
def fileOf (pool : Array CpInfo) (this : Nat) (attrs : Array Attribute := #[]) (ms : Array MethodInfo := #[]) (fl : Nat := 33) (sup : Nat := 0) (ifs : Array Nat := #[]) (fds : Array FieldInfo := #[]) : ClassFile where
  minorVersion := 0
  majorVersion := 65
  constantPool := pool
  accessFlags := fl
  thisClass := this
  superClass := sup
  interfaces := ifs
  fields := fds
  methods := ms
  attributes := attrs
def plain (name : String) (sup : Option ClassId) : Class where
  name := name
  kind := .ordinary
  loader := none
  accessFlags := 33
  super := sup
  interfaces := #[]
  cf := none
  fields := #[]
  methods := #[]
  instanceTypes := #[]
  staticTypes := #[]
  resolved := #[]
  callSites := []
  init := .initialized
  statics := none
  mirror := none

def pool0 : Array CpInfo := pool [(5, u "<init>"), (0, u "()V"), (1, .class_ 10), (1, u "java/lang/Object")] 113

def k0m0 : Method := { name := "<init>", desc := "()V", sig := { parameters := [], returnType := none }, accessFlags := 1, code := none }
/-- java/lang/Object -/
def k0 : Class := { plain "java/lang/Object" none with
  accessFlags := 33
  interfaces := #[]
  cf := some (fileOf pool0 8 #[] #[{ accessFlags := 1, nameIndex := 5, descriptorIndex := 6, attributes := #[] }] 33 0 #[] #[])
  fields := #[]
  methods := #[k0m0]
  instanceTypes := #[]
  staticTypes := #[]
  resolved := Array.replicate 124 none
  statics := none }

def pool1 : Array CpInfo := pool [(2, .class_ 4), (1, u "java/lang/Object"), (0, u "<init>"), (0, u "()V"), (0, .long 2), (1, .long 13787848793156543929), (1, .long 10723151780598845931), (1, .methodref 14 15), (0, .class_ 16), (0, .nameAndType 17 18), (0, u "com/example/quorum_tree/quorumtree/search/RandomStreamsSeedOfPinLaw"), (0, u "inverse"), (0, u "(J)J"), (0, .long 11400714819323198485), (1, .methodref 22 23), (0, .class_ 24), (0, .nameAndType 25 26), (0, u "com/example/quorum_tree/quorumtree/search/RandomStreams"), (0, u "seedOf"), (0, u "(JJ)J"), (0, .methodref 14 28), (0, .nameAndType 29 18), (0, u "unmix"), (2, u "law"), (0, u "(JJ)Z")] 3

def k1m0 : Method := { name := "<init>", desc := "()V", sig := { parameters := [], returnType := none }, accessFlags := 2, code := none }
def k1c1 : Code := { maxStack := 8, maxLocals := 4, code := method_2_code, exceptionTable := #[], attributes := #[] }
def k1m1 : Method := { name := "inverse", desc := "(J)J", sig := { parameters := [.long], returnType := some .long }, accessFlags := 10, code := some k1c1 }
def k1c2 : Code := { maxStack := 5, maxLocals := 14, code := method_3_code, exceptionTable := #[], attributes := #[] }
def k1m2 : Method := { name := "unmix", desc := "(J)J", sig := { parameters := [.long], returnType := some .long }, accessFlags := 10, code := some k1c2 }
def k1c3 : Code := { maxStack := 6, maxLocals := 11, code := code, exceptionTable := #[], attributes := #[] }
def k1m3 : Method := { name := "law", desc := "(JJ)Z", sig := { parameters := [.long, .long], returnType := some .boolean }, accessFlags := 9, code := some k1c3 }
/-- com/example/quorum_tree/quorumtree/search/RandomStreamsSeedOfPinLaw -/
def k1 : Class := { plain "com/example/quorum_tree/quorumtree/search/RandomStreamsSeedOfPinLaw" (some 0) with
  accessFlags := 49
  interfaces := #[]
  cf := some (fileOf pool1 14 #[] #[{ accessFlags := 2, nameIndex := 5, descriptorIndex := 6, attributes := #[] }, { accessFlags := 10, nameIndex := 17, descriptorIndex := 18, attributes := #[] }, { accessFlags := 10, nameIndex := 29, descriptorIndex := 18, attributes := #[] }, { accessFlags := 9, nameIndex := 32, descriptorIndex := 33, attributes := #[] }] 49 2 #[] #[])
  fields := #[]
  methods := #[k1m0, k1m1, k1m2, k1m3]
  instanceTypes := #[]
  staticTypes := #[]
  resolved := Array.replicate 37 none
  statics := none }

def pool2 : Array CpInfo := pool [(2, .class_ 4), (1, u "java/lang/Object"), (0, u "<init>"), (0, u "()V"), (3, .class_ 12), (1, u "com/example/quorum_tree/quorumtree/search/RandomStreams"), (0, u "seedOf"), (0, u "(JJ)J"), (3, .long 11400714819323198485), (1, .long 13787848793156543929), (1, .long 10723151780598845931)] 7

def k2m0 : Method := { name := "<init>", desc := "()V", sig := { parameters := [], returnType := none }, accessFlags := 2, code := none }
def k2c1 : Code := { maxStack := 6, maxLocals := 6, code := prog_68_method_3_code, exceptionTable := #[], attributes := #[] }
def k2m1 : Method := { name := "seedOf", desc := "(JJ)J", sig := { parameters := [.long, .long], returnType := some .long }, accessFlags := 9, code := some k2c1 }
/-- com/example/quorum_tree/quorumtree/search/RandomStreams -/
def k2 : Class := { plain "com/example/quorum_tree/quorumtree/search/RandomStreams" (some 0) with
  accessFlags := 49
  interfaces := #[]
  cf := some (fileOf pool2 10 #[] #[{ accessFlags := 2, nameIndex := 5, descriptorIndex := 6, attributes := #[] }, { accessFlags := 9, nameIndex := 13, descriptorIndex := 14, attributes := #[] }] 49 2 #[] #[])
  fields := #[]
  methods := #[k2m0, k2m1]
  instanceTypes := #[]
  staticTypes := #[]
  resolved := Array.replicate 30 none
  statics := none }

def pool3 : Array CpInfo := pool [(1, u "java/lang/Cloneable"), (0, .class_ 1), (0, u "java/lang/Object"), (0, .class_ 3)] 3

/-- java/lang/Cloneable -/
def k3 : Class := { plain "java/lang/Cloneable" (some 0) with
  accessFlags := 1537
  interfaces := #[]
  cf := some (fileOf pool3 2 #[] #[] 1537 4 #[] #[])
  fields := #[]
  methods := #[]
  instanceTypes := #[]
  staticTypes := #[]
  resolved := Array.replicate 8 none
  statics := none }

def pool4 : Array CpInfo := pool [(1, u "java/io/Serializable"), (0, .class_ 1), (0, u "java/lang/Object"), (0, .class_ 3)] 3

/-- java/io/Serializable -/
def k4 : Class := { plain "java/io/Serializable" (some 0) with
  accessFlags := 1537
  interfaces := #[]
  cf := some (fileOf pool4 2 #[] #[] 1537 4 #[] #[])
  fields := #[]
  methods := #[]
  instanceTypes := #[]
  staticTypes := #[]
  resolved := Array.replicate 8 none
  statics := none }

/-- the primitive byte -/
def k5 : Class := { plain "byte" none with kind := .primitive 'B', accessFlags := 0x411 }
/-- [B -/
def k6 : Class := { plain "[B" (some 0) with kind := .array 5 .byte, interfaces := #[3, 4], accessFlags := 1041 }

/-- the primitive int -/
def k7 : Class := { plain "int" none with kind := .primitive 'I', accessFlags := 0x411 }
/-- [I -/
def k8 : Class := { plain "[I" (some 0) with kind := .array 7 .int, interfaces := #[3, 4], accessFlags := 1041 }

def heap : Heap := #[]
def classes : Array Class := #[k0, k1, k2, k3, k4, k5, k6, k7, k8]
def interned : List (Array UInt16 × Addr) := []
def slotsUsed : Nat := 0
def theMethod : MethodId := ⟨1, 3⟩
def args0 : Array Value := #[.long 3, .long 1]
def aboutOver (below : List Frame) : State where
  vm := { classes := classes, interned := interned.toArray }
  heap := heap
  slotsUsed := slotsUsed
  threads := #[{ frames := .invoking theMethod args0 :: below }]
def below0 : List Frame := [.native { method := ⟨0, 0⟩, args := #[] }]
def about1 : State := aboutOver below0
def p0 : Program := .bare "" "" ""
def e0 : Env := launch0.env 0 0 0
theorem w_frames : about1.frames = Frame.invoking theMethod args0 :: below0 := rfl
set_option maxRecDepth 65536 in
theorem w_args : argsFit about1.vm theMethod args0 = true := by decide +kernel
set_option maxRecDepth 65536 in
theorem w_heap : heapFits about1 = true := by decide +kernel
set_option maxRecDepth 65536 in
theorem w_runnable : about1.curStatus? = some .runnable := by decide +kernel
set_option maxRecDepth 65536 in
theorem w_alone : about1.alone = true := by decide +kernel
set_option maxRecDepth 65536 in
theorem w_named : about1.methodNamed? x = some theMethod := by decide +kernel
set_option maxRecDepth 65536 in
theorem w_hears : about1.hears theMethod below0 = true := by decide +kernel
set_option maxRecDepth 65536 in
theorem w_ripe : about1.ripe theMethod args0 below0 = true := by decide +kernel
theorem w_running : about1.status = .running := rfl
set_option maxRecDepth 65536 in
theorem w_room : about1.hasRoom e0.platform room_1 = true :=
  launch0.hasRoom_least _ room_1 (by decide +kernel) (by decide +kernel) (by decide +kernel) (by decide +kernel) (by decide +kernel) (by decide +kernel)
theorem allAtoms_all (ts : List Jvm.Cond) (a : Array Jvm.Value) (st : Jvm.State) : (allAtoms ts).before a st = ts.all (fun c => c.before a st) := by
  induction ts with
  | nil => rfl
  | cons c t ih =>
    show (Jvm.Cond.and c (allAtoms t)).before a st = _
    rw [Jvm.Cond.before_and, ih, List.all_cons]
def words1 : List Jvm.Cond := Jvm.Cond.code x code maxLocals ret :: tables_1
/-- a 'code' word, met by the world's own term for the bytes: nothing is compared byte by byte -/
theorem code_word {y : MethodName} {bytes : ByteArray} {mx : Nat} {rt : Option FieldType} {a : Array Value} {s : State} {m : MethodId} {meth : Method} {c : Code} (h1 : s.methodNamed? y = some m) (h2 : s.vm.method? m = some meth) (h3 : meth.code = some c) (h4 : c.code = bytes)
    (h5 : (c.maxLocals == mx && c.exceptionTable.isEmpty && decide (c.maxStack ≤ mostOperands) && decide (meth.sig.returnType = rt) && !meth.locks && decide (parseMethodDescriptor y.desc = some meth.sig)) = true) : (Jvm.Cond.code y bytes mx rt).before a s = true := by
  simp only [Bool.and_eq_true, beq_iff_eq, Bool.not_eq_true', decide_eq_true_eq] at h5
  obtain ⟨⟨⟨⟨⟨g1, g2⟩, g3⟩, g4⟩, g5⟩, g6⟩ := h5
  simp [Cond.before, Cond.holds, Cond.value, h1, h2, h3, h4, g1, g2, g3, g4, g5, g6]
def isCode : Jvm.Cond → Bool
  | .code _ _ _ _ => true
  | _ => false
theorem all_split {L : List Jvm.Cond} {P : Jvm.Cond → Bool} (h1 : L.all (fun c => isCode c || P c) = true) (h2 : ∀ c ∈ L.filter isCode, P c = true) : L.all P = true := by
  refine List.all_eq_true.mpr fun c hc => ?_
  have h := List.all_eq_true.mp h1 c hc
  rcases Bool.eq_false_or_eq_true (isCode c) with hi | hi
  · exact h2 c (List.mem_filter.mpr ⟨hc, hi⟩)
  · simpa [hi] using h
set_option maxRecDepth 65536 in
theorem w_c0 : (Jvm.Cond.code x code maxLocals ret).before args0 about1 = true := code_word (m := ⟨1, 3⟩) (meth := k1m3) (c := k1c3) (by decide +kernel) rfl rfl rfl (by decide +kernel)
set_option maxRecDepth 65536 in
theorem w_c1 : (Jvm.Cond.code ({ cls := "com/example/quorum_tree/quorumtree/search/RandomStreams", name := "seedOf", desc := "(JJ)J" } : Jvm.MethodName) prog_68_method_3_code (6 : Nat) (Option.some Jvm.ClassFile.FieldType.long)).before args0 about1 = true := code_word (m := ⟨2, 1⟩) (meth := k2m1) (c := k2c1) (by decide +kernel) rfl rfl rfl (by decide +kernel)
set_option maxRecDepth 65536 in
theorem w_c2 : (Jvm.Cond.code ({ cls := "com/example/quorum_tree/quorumtree/search/RandomStreamsSeedOfPinLaw", name := "inverse", desc := "(J)J" } : Jvm.MethodName) method_2_code (4 : Nat) (Option.some Jvm.ClassFile.FieldType.long)).before args0 about1 = true := code_word (m := ⟨1, 1⟩) (meth := k1m1) (c := k1c1) (by decide +kernel) rfl rfl rfl (by decide +kernel)
set_option maxRecDepth 65536 in
theorem w_c3 : (Jvm.Cond.code ({ cls := "com/example/quorum_tree/quorumtree/search/RandomStreamsSeedOfPinLaw", name := "unmix", desc := "(J)J" } : Jvm.MethodName) method_3_code (14 : Nat) (Option.some Jvm.ClassFile.FieldType.long)).before args0 about1 = true := code_word (m := ⟨1, 2⟩) (meth := k1m2) (c := k1c2) (by decide +kernel) rfl rfl rfl (by decide +kernel)
def codes1 : List Jvm.Cond := [Jvm.Cond.code x code maxLocals ret, Jvm.Cond.code ({ cls := "com/example/quorum_tree/quorumtree/search/RandomStreams", name := "seedOf", desc := "(JJ)J" } : Jvm.MethodName) prog_68_method_3_code (6 : Nat) (Option.some Jvm.ClassFile.FieldType.long), Jvm.Cond.code ({ cls := "com/example/quorum_tree/quorumtree/search/RandomStreamsSeedOfPinLaw", name := "inverse", desc := "(J)J" } : Jvm.MethodName) method_2_code (4 : Nat) (Option.some Jvm.ClassFile.FieldType.long), Jvm.Cond.code ({ cls := "com/example/quorum_tree/quorumtree/search/RandomStreamsSeedOfPinLaw", name := "unmix", desc := "(J)J" } : Jvm.MethodName) method_3_code (14 : Nat) (Option.some Jvm.ClassFile.FieldType.long)]
set_option maxRecDepth 65536 in
theorem codes_eq : words1.filter isCode = codes1 := rfl
theorem w_codes : ∀ c ∈ words1.filter isCode, c.before args0 about1 = true := by
  rw [codes_eq]
  intro c hc
  simp only [codes1, List.mem_cons, List.not_mem_nil, or_false] at hc
  rcases hc with rfl | rfl | rfl | rfl
  · exact w_c0
  · exact w_c1
  · exact w_c2
  · exact w_c3
set_option maxRecDepth 65536 in
theorem w_t1 : words1.all (fun c => isCode c || c.before args0 about1) = true := by decide +kernel
theorem w_tables : (allAtoms (Jvm.Cond.code x code maxLocals ret :: tables_1)).before args0 about1 = true := by
  rw [allAtoms_all]
  show words1.all (fun c => c.before args0 about1) = true
  refine all_split ?_ w_codes
  rw [w_t1]
set_option maxRecDepth 65536 in
theorem w_case : (Jvm.Cond.and given_1 narrow_1).before args0 about1 = true := by decide +kernel
theorem w_applies : (headSpec (Jvm.Cond.code x code maxLocals ret :: tables_1) room_1).applies x e0.platform about1 = true :=
  (Spec.applies_iff w_frames).mpr ⟨w_running, w_runnable, w_alone, w_named, w_hears, w_ripe, w_room, w_tables⟩
theorem atStart : AtStart classFile x code maxLocals ret World_1 tables_1 room_1 Calls_1 rest_1 Pre_1 launch0 p0 e0 about1 theMethod args0 below0 :=
  ⟨lists_1, trivial, launch0.admits_env _ _ _, launch0.least_env, fairChoices_fair.cas, fairChoices_fair.clock, w_frames, w_args, w_heap, w_applies, trivial, trivial, w_case⟩
end start1
theorem witness_1 : WitnessClaimed_1 := ⟨start1.p0, start1.e0, start1.about1, start1.theMethod, start1.args0, start1.below0, start1.atStart⟩
end Jvm.Pilot.@@N@@
