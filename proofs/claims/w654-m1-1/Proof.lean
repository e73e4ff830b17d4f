import JvmDerived
import JvmDerived.Pilot.@@N@@Statement
import JvmDerived.Pilot.@@N@@Code
set_option linter.unusedVariables false
set_option linter.unusedSimpArgs false
namespace Jvm.Pilot.@@N@@
open Jvm Jvm.ClassFile Sem Op Lib Jvm.Free Jvm.Stand Jvm.LawKit Jvm.RoadKit Bundle Jvm.Pilot.@@N@@.Jvm.D
section OwnRun
variable {p : Program} {l : Launch} {e : Env} {R : Room} {s : State} {m : MethodId} {args : Array Value} {below : List Frame} {meth : Method} {c : Code} {T : State} {locs : List Loc} {cells slots : Nat}
/-- from S the run comes to its end, and there Q holds -/
def Run (p : Program) (e : Env) (below : List Frame) (Q : State → Outcome → Prop) (S : State) : Prop := ∃ s₂ o, Steps p.tables e below S s₂ ∧ s₂.status = .running ∧ Ended s₂ below o ∧ Q s₂ o
def Ends (s : State) (Qb : Option Value → Heap → List Loc → Prop) (C S : Nat) : State → Outcome → Prop := fun s₂ o => ∃ v L, o = .returned v ∧ Qb v s₂.heap L ∧ FrameEnd s o s₂ L C S
theorem Run.st {Q : State → Outcome → Prop} {S S' : State} (h : ∀ t, Steps p.tables e below S' t → Steps p.tables e below S t) (r : Run p e below Q S') : Run p e below Q S := by
  obtain ⟨a, b, c, d⟩ := r
  exact ⟨a, b, h _ c, d⟩
theorem Run.out (X : Stand p l e R s m args below meth c T locs cells slots) (hx : p.tables.exec = Jvm.exec) {Qb : Option Value → Heap → List Loc → Prop} {C S : Nat} {pc : Nat} {Ls : Array Slot} {w : Value} {t : FieldType} {i : Instr} {rest : List Value} (hlocks : meth.locks = false) (hret : meth.sig.returnType = some t) (hn : narrow t w = w)
    (hi : (i = .ireturn ∧ (t = .int ∨ t = .boolean ∨ t = .byte ∨ t = .char ∨ t = .short) ∧ ∃ z, w = .int z) ∨ (i = .lreturn ∧ t = .long ∧ ∃ z, w = .long z) ∨ (i = .dreturn ∧ t = .double ∧ ∃ z, w = .double z) ∨ (i = .freturn ∧ t = .float ∧ ∃ z, w = .float z) ∨ (i = .areturn ∧ t.isReference = true ∧ w.isRef = true))
    (hd : decode c.code pc = .ok (i, 1)) (hC : cells ≤ C) (hS : slots ≤ S) (hq : Qb (some w) T.heap locs) : Run p e below (Ends s Qb C S) (T.setTop (mkF m pc Ls (w :: rest))) := by
  obtain ⟨fs, hr, hrun, hended, hW, hsame⟩ := X.leave (v := some w) (fun h => by rw [hret] at h; cases h) hlocks
  exact ⟨_, _, retOut X hx hret hn hi hd hr, hrun, hended, _, _, rfl, hq, ⟨_, rfl⟩, hW, hsame.mono hC hS⟩
theorem Run.outV (X : Stand p l e R s m args below meth c T locs cells slots) (hx : p.tables.exec = Jvm.exec) {Qb : Option Value → Heap → List Loc → Prop} {C S : Nat} {pc : Nat} {Ls : Array Slot} (hlocks : meth.locks = false) (hret : meth.sig.returnType = none)
    (hd : decode c.code pc = .ok (.return_, 1)) (hC : cells ≤ C) (hS : slots ≤ S) (hq : Qb none T.heap locs) : Run p e below (Ends s Qb C S) (T.setTop (mkF m pc Ls [])) := by
  obtain ⟨fs, hr, hrun, hended, hW, hsame⟩ := X.leave (v := none) (fun _ => rfl) hlocks
  exact ⟨_, _, X.returnOut hx hret hd hr, hrun, hended, _, _, rfl, hq, ⟨_, rfl⟩, hW, hsame.mono hC hS⟩
theorem lcYes {cd : ClassFile.Cond} {x y : Int64} {b : Bool} (h : ifCond.holds cd (Jvm.Free.XT.cmpL x y) = b) : ifCond.holds cd (lcmpW x y) = b := h
theorem nb01 {P : Prop} [Decidable P] : narrow .boolean (.int (if P then (1 : Int32) else (0 : Int32))) = .int (if P then (1 : Int32) else (0 : Int32)) := by split <;> rfl
theorem staK {Z : State} {h h' : Heap} {C n d : String} {v : Value} {ws : List Addr} (F : Sta Z h C n d v) (K : Keep h h' ws) (q : ∀ x ∈ ws, ∀ c : Cell, h[x]? = some c → c.vm.isStatics = false) : Sta Z h' C n d v := by
  obtain ⟨cf, i, k, f, st, cell, h1, h2, h3, h4, h5, h6, h7⟩ := F
  refine ⟨cf, i, k, f, st, cell, h1, h2, h3, h4, K.2.1 st cell h5 (fun m => ?_), h6, h7⟩
  have := q st m cell h5
  rw [h6] at this
  cases this
theorem exaP {Z : State} {h : Heap} {a : Addr} {C : String} (E : Exa Z h a C) : ∀ c : Cell, h[a]? = some c → c.vm.isStatics = false := fun c hc => by
  obtain ⟨cell, k, h1, -, -, h4, -⟩ := E
  cases h1.symm.trans hc
  exact h4
theorem arvP {Z : State} {h : Heap} {a : Addr} {k : ClassId} {ty : FieldType} {n : Int32} {vs : List Value} {d : Value} (E : Arv Z h a k ty n vs d) : ∀ c : Cell, h[a]? = some c → c.vm.isStatics = false := fun c hc => by
  obtain ⟨cell, A, -⟩ := E
  cases A.1.symm.trans hc
  exact A.plain
theorem selSelf {s : State} {args : Array Value} {y : MethodName} {n : Nat} (wi : (Jvm.Cond.instantiable y.cls n).before args s = true) (hp : s.PrivateAt y) (hi : (Jvm.Cond.instanceMethod y).before args s = true) (hy : y.cls ≠ "java/lang/invoke/MethodHandle" ∧ y.cls ≠ "java/lang/invoke/VarHandle") : (Jvm.Cond.selects y.cls y y).before args s = true := by
  obtain ⟨c, k, h1, h2, -, h4, -⟩ := Cond.instantiable_spec wi
  rw [Bool.or_eq_false_iff] at h4
  exact selects_self_of_private h1 h2 h4.1 hp hi hy
theorem own_lsw {tb : Tables} [Ours tb] {e : Env} {below : List Frame} {T target : State} {m : MethodId} {c : Code} {g : JFrame} (h : At T m c below) (hx : tb.exec = Jvm.exec) (hg : g.method = m) {dflt : Int} {ps : Array (Int × Int)} {len : Nat} {o : Int} {pc0 pc' : Nat} (hpc : g.pc = pc0) (hd : decode c.code g.pc = .ok (.lookupswitch dflt ps, len)) {i : Int32} {rest : List Value} (hs : g.stack = .int i :: rest)
    (hsort : ∀ q ∈ ps.toList.zip ps.toList.tail, q.1.1 < q.2.1) (hoff : lookupswitch.offset ps.toList dflt i.toInt = o) (ho : 0 ≤ (pc0 : Int) + o) (hp : ((pc0 : Int) + o).toNat = pc')
    (hr : Steps tb e below (T.setTop { g with pc := pc', stack := rest }) target) : Steps tb e below (T.setTop g) target := by
  subst hg hpc hp
  jvm_step h [h.top, hx, hd, hs, hoff, ho, lookupswitch.wp_chain]
  exact ⟨fun a b a1 b1 q => hsort _ q, hr⟩
theorem ord_v {args : Array Value} {s : State} {t : Term} {C n d : String} {k : Int32} {a : Addr} (ht : t.eval args s none [] s = some (.ref a)) (h : (Jvm.Cond.eq (.field t C n d) (.int k)).value args s none s [] = some true) : Fld s s.heap a C n d (.int k) := by
  refine Fld.start ?_
  rw [← fld_at (C := C) (n := n) (dd := d) ht]
  simp only [Cond.value] at h
  cases hv : (Term.field t C n d).eval args s none [] s with
  | none => simp [hv] at h
  | some v => cases v <;> simp_all [Term.eval]
theorem arr_len {args : Array Value} {s : State} {t : Term} {a : Addr} {cl : Cell} {ty : FieldType} {n : Int32} (ht : t.eval args s none [] s = some (.ref a)) (A : Arr s s.heap a cl ty) (h : (Jvm.Cond.eq (.length t) (.int n)).value args s none s [] = some true) : cl.slots.size < 2 ^ 31 ∧ cl.slots.size.toInt32 = n := by
  have ha := A.fin (Vm.Alike.refl s.vm)
  by_cases q : cl.slots.size < 2 ^ 31
  · refine ⟨q, ?_⟩
    have e := len_f ht ha q
    have e2 : (Term.int n).eval args s none [] s = some (.int n) := rfl
    simp only [Cond.value, e, e2] at h
    simpa using h
  · simp [Cond.value, Term.eval, ht, ha, q] at h
theorem arr_elR {args : Array Value} {s : State} {t u : Term} {a b : Addr} {cl : Cell} {ty : FieldType} {j : Int32} (ht : t.eval args s none [] s = some (.ref a)) (A : Arr s s.heap a cl ty) (h : (Jvm.Cond.eq (.elem t (.int j)) u).value args s none s [] = some true) (hu : u.eval args s none [] s = some (.ref b)) (hj : ¬ j < 0) : cl.slots[j.toNatClampNeg]? = some (.ref b) := by
  have ha := A.fin (Vm.Alike.refl s.vm)
  have e : (Term.elem t (.int j)).eval args s none [] s = cl.slots[j.toNatClampNeg]? := elem_f ht rfl ha hj
  simp only [Cond.value, hu, e] at h
  cases hv : cl.slots[j.toNatClampNeg]? with
  | none => simp [hv] at h
  | some v => cases v <;> simp_all
theorem arr_elI {args : Array Value} {s : State} {t : Term} {a : Addr} {cl : Cell} {ty : FieldType} {j k : Int32} (ht : t.eval args s none [] s = some (.ref a)) (A : Arr s s.heap a cl ty) (h : (Jvm.Cond.eq (.elem t (.int j)) (.int k)).value args s none s [] = some true) (hj : ¬ j < 0) : cl.slots[j.toNatClampNeg]? = some (.int k) := by
  have ha := A.fin (Vm.Alike.refl s.vm)
  have e : (Term.elem t (.int j)).eval args s none [] s = cl.slots[j.toNatClampNeg]? := elem_f ht rfl ha hj
  have e2 : (Term.int k).eval args s none [] s = some (.int k) := rfl
  simp only [Cond.value, e, e2] at h
  cases hv : cl.slots[j.toNatClampNeg]? with
  | none => simp [hv] at h
  | some v => cases v <;> simp_all
theorem inb32 {j z : Int32} {n : Int} (hz : z.toInt = n) (h0 : 0 ≤ j.toInt) (h1 : j.toInt < n) : ¬ j < 0 ∧ j < z := by
  rw [Int32.lt_iff_toInt_lt, Int32.lt_iff_toInt_lt, hz]
  have : (0 : Int32).toInt = 0 := by decide
  omega
theorem own_nn {n : Int32} (h : 0 ≤ n.toInt) : ¬ n < 0 := by
  rw [Int32.lt_iff_toInt_lt]
  have : (0 : Int32).toInt = 0 := by decide
  omega
theorem own_cap {n : Int32} {c : Nat} (h : n.toInt < (c : Int) + 1) : n.toNatClampNeg ≤ c := by
  simp only [Int32.toNatClampNeg]
  omega
theorem own_fin (x : Int32) (n : Nat) (hn : n < 2147483648) (h0 : 0 ≤ x.toInt) (h1 : x.toInt < n) : ∃ i : Fin n, x = Int32.ofNat i.1 := by
  refine ⟨⟨x.toInt.toNat, by omega⟩, Int32.toInt_inj.mp ?_⟩
  show x.toInt = (Int32.ofNat x.toInt.toNat).toInt
  rw [Int32.toInt_ofNat_small (by omega)]
  omega
end OwnRun
theorem d1_0 : decode method_2_code 0 = .ok (.iload_n 0, 1) := by decide +kernel
theorem d1_1 : decode method_2_code 1 = .ok (.i2l, 1) := by decide +kernel
theorem d1_2 : decode method_2_code 2 = .ok (.bipush 32, 2) := by decide +kernel
theorem d1_4 : decode method_2_code 4 = .ok (.lshl, 1) := by decide +kernel
theorem d1_5 : decode method_2_code 5 = .ok (.iload_n 1, 1) := by decide +kernel
theorem d1_6 : decode method_2_code 6 = .ok (.i2l, 1) := by decide +kernel
theorem d1_7 : decode method_2_code 7 = .ok (.lor, 1) := by decide +kernel
theorem d1_8 : decode method_2_code 8 = .ok (.lreturn, 1) := by decide +kernel
theorem pn_0 : plainName "org/succession/PlacesRunEndPinLaw" = true := by first | (simp [plainName, overriddenIn]; done) | decide +kernel
theorem ef_Pack (m : MethodId) (p0 : Int32) (p1 : Int32) : entryFrame m #[(.int p0), (.int p1)] 2 = mkF m 0 #[.val (.int p0), .val (.int p1)] [] := by first | (simp [entryFrame, mkF, argsToLocals, Value.category]; done) | rfl
def FPack (p0 : Int32) (p1 : Int32) : Int64 := (((p0.toInt64) <<< ((32 : Int32) &&& 0x3f).toInt64) ||| (p1.toInt64))
def QPack (Z : State) (p0 : Int32) (p1 : Int32) (h0 : Heap) (n0 : Nat) (v : Option Value) (h : Heap) (L : List Loc) : Prop := v = some (.long (FPack p0 p1)) ∧ Fr n0 L ∧ h = h0
set_option maxRecDepth 65536 in
set_option maxHeartbeats 40000000 in
theorem rmPack (l : Launch) (Z : State) (aV : Array Value) (hw : ∀ d ∈ tables_1, d.before aV Z = true) (ws : List Jvm.Cond) (p0 : Int32) (p1 : Int32) (h0 : Heap) (n0 : Nat) (Zn : n0 ≤ h0.size) :
    MetFree l (⟨"org/succession/PlacesRunEndPinLaw", "pack", "(II)J"⟩ : MethodName) (head1 (Jvm.Cond.code (⟨"org/succession/PlacesRunEndPinLaw", "pack", "(II)J"⟩ : MethodName) method_2_code 2 (some .long) :: ws) ({ frames := 0, cells := 0, slots := 0, locals := 0 } : Room)) (fun a U => a = #[(.int p0), (.int p1)] ∧ Z.Warmed39 U.vm ∧ U.heap = h0) (fun _ _ _ _ _ => True) (fun _ U o U' => ∃ v L, o = .returned v ∧ QPack Z p0 p1 h0 n0 v U'.heap L ∧ FrameEnd U o U' L ({ frames := 0, cells := 0, slots := 0, locals := 0 } : Room).cells ({ frames := 0, cells := 0, slots := 0, locals := 0 } : Room).slots) := by
  refine MetFree.of_bodySF (plainFor_of_name pn_0) hisR ?_
  intro p e s m args below meth c s₁ Bd hml0 hP hK
  obtain ⟨rfl, hZ, hh⟩ := hP
  have hx := Bd.exec
  have hby := Bd.bytes
  have hml : c.maxLocals = 2 := hml0
  have hown : s.vm.findClass "org/succession/PlacesRunEndPinLaw" = some m.cls := findClass_of_methodNamed Bd.named
  have hnm := (name_of_methodNamed Bd.named Bd.method).1
  have X0 : Stand p l e ({ frames := 0, cells := 0, slots := 0, locals := 0 } : Room) s m #[(.int p0), (.int p1)] below meth c s₁ [] 0 0 := Stand.of_body Bd
  have e0 : s₁.heap = h0 := by rw [← hh, Bd.state]; rfl
  have N0 := Fr.nil n0
  have Kp := Keep.refl h0 []
  show Run p e below (Ends s (QPack Z p0 p1 h0 n0) ({ frames := 0, cells := 0, slots := 0, locals := 0 } : Room).cells ({ frames := 0, cells := 0, slots := 0, locals := 0 } : Room).slots) _
  refine Run.st (S' := s₁.setTop (mkF m 0 #[.val (.int p0), .val (.int p1)] [])) (fun t k => castTop (ef_Pack m p0 p1) k) ?_
  refine Run.st (S' := s₁.setTop (mkF m 8 #[.val (.int p0), .val (.int p1)] [(.long (((p0.toInt64) <<< ((32 : Int32) &&& 0x3f).toInt64) ||| (p1.toInt64)))])) (fun _ k => XS.iloadN X0.here hx rfl (hb hby d1_0) rfl (XS.i2l X0.here hx rfl (hb hby d1_1) rfl (XS.bipush X0.here hx rfl (hb hby d1_2) (XS.lshl X0.here hx rfl (hb hby d1_4) rfl (XS.iloadN X0.here hx rfl (hb hby d1_5) rfl (XS.i2l X0.here hx rfl (hb hby d1_6) rfl (XS.lor X0.here hx rfl (hb hby d1_7) rfl k))))))) ?_
  refine Run.out X0 hx Bd.notSynchronized Bd.returns rfl (Or.inr (Or.inl ⟨rfl, rfl, _, rfl⟩)) (hb hby d1_8) (by decide) (by decide) ?_
  rw [e0]
  exact ⟨rfl, N0, rfl⟩
theorem d3_0 : decode prog_18_method_3_code 0 = .ok (.lload_n 0, 1) := by decide +kernel
theorem d3_1 : decode prog_18_method_3_code 1 = .ok (.bipush 32, 2) := by decide +kernel
theorem d3_3 : decode prog_18_method_3_code 3 = .ok (.lushr, 1) := by decide +kernel
theorem d3_4 : decode prog_18_method_3_code 4 = .ok (.l2i, 1) := by decide +kernel
theorem d3_5 : decode prog_18_method_3_code 5 = .ok (.ireturn, 1) := by decide +kernel
theorem pn_1 : plainName "org/succession/Places" = true := by first | (simp [plainName, overriddenIn]; done) | decide +kernel
theorem ef_Key (m : MethodId) (q0 : Int64) : entryFrame m #[(.long q0)] 2 = mkF m 0 #[.val (.long q0), .second] [] := by first | (simp [entryFrame, mkF, argsToLocals, Value.category]; done) | rfl
def FKey (q0 : Int64) : Int32 := (((q0.toUInt64 >>> ((32 : Int32) &&& 0x3f).toInt64.toUInt64).toInt64).toInt32)
def QKey (Z : State) (q0 : Int64) (h0 : Heap) (n0 : Nat) (v : Option Value) (h : Heap) (L : List Loc) : Prop := v = some (.int (FKey q0)) ∧ Fr n0 L ∧ h = h0
set_option maxRecDepth 65536 in
set_option maxHeartbeats 40000000 in
theorem rmKey (l : Launch) (Z : State) (aV : Array Value) (hw : ∀ d ∈ tables_1, d.before aV Z = true) (ws : List Jvm.Cond) (q0 : Int64) (h0 : Heap) (n0 : Nat) (Zn : n0 ≤ h0.size) :
    MetFree l (⟨"org/succession/Places", "key", "(J)I"⟩ : MethodName) (head1 (Jvm.Cond.code (⟨"org/succession/Places", "key", "(J)I"⟩ : MethodName) prog_18_method_3_code 2 (some .int) :: ws) ({ frames := 0, cells := 0, slots := 0, locals := 0 } : Room)) (fun a U => a = #[(.long q0)] ∧ Z.Warmed39 U.vm ∧ U.heap = h0) (fun _ _ _ _ _ => True) (fun _ U o U' => ∃ v L, o = .returned v ∧ QKey Z q0 h0 n0 v U'.heap L ∧ FrameEnd U o U' L ({ frames := 0, cells := 0, slots := 0, locals := 0 } : Room).cells ({ frames := 0, cells := 0, slots := 0, locals := 0 } : Room).slots) := by
  refine MetFree.of_bodySF (plainFor_of_name pn_1) hisR ?_
  intro p e s m args below meth c s₁ Bd hml0 hP hK
  obtain ⟨rfl, hZ, hh⟩ := hP
  have hx := Bd.exec
  have hby := Bd.bytes
  have hml : c.maxLocals = 2 := hml0
  have hown : s.vm.findClass "org/succession/Places" = some m.cls := findClass_of_methodNamed Bd.named
  have hnm := (name_of_methodNamed Bd.named Bd.method).1
  have X0 : Stand p l e ({ frames := 0, cells := 0, slots := 0, locals := 0 } : Room) s m #[(.long q0)] below meth c s₁ [] 0 0 := Stand.of_body Bd
  have e0 : s₁.heap = h0 := by rw [← hh, Bd.state]; rfl
  have N0 := Fr.nil n0
  have Kp := Keep.refl h0 []
  show Run p e below (Ends s (QKey Z q0 h0 n0) ({ frames := 0, cells := 0, slots := 0, locals := 0 } : Room).cells ({ frames := 0, cells := 0, slots := 0, locals := 0 } : Room).slots) _
  refine Run.st (S' := s₁.setTop (mkF m 0 #[.val (.long q0), .second] [])) (fun t k => castTop (ef_Key m q0) k) ?_
  refine Run.st (S' := s₁.setTop (mkF m 5 #[.val (.long q0), .second] [(.int (((q0.toUInt64 >>> ((32 : Int32) &&& 0x3f).toInt64.toUInt64).toInt64).toInt32))])) (fun _ k => XS.lloadN X0.here hx rfl (hb hby d3_0) rfl (XS.bipush X0.here hx rfl (hb hby d3_1) (XS.lushr X0.here hx rfl (hb hby d3_3) rfl (XS.l2i X0.here hx rfl (hb hby d3_4) rfl k)))) ?_
  refine Run.out X0 hx Bd.notSynchronized Bd.returns rfl (Or.inl ⟨rfl, by simp, _, rfl⟩) (hb hby d3_5) (by decide) (by decide) ?_
  rw [e0]
  exact ⟨rfl, N0, rfl⟩
theorem own_c5 {x : Int32} (h : 0 ≤ x.toInt ∧ x.toInt < 5) : x = (0 : Int32) ∨ x = (1 : Int32) ∨ x = (2 : Int32) ∨ x = (3 : Int32) ∨ x = (4 : Int32) := by
  simp only [← Int32.toInt_inj]
  have e0 : (0 : Int32).toInt = 0 := by decide
  have e1 : (1 : Int32).toInt = 1 := by decide
  have e2 : (2 : Int32).toInt = 2 := by decide
  have e3 : (3 : Int32).toInt = 3 := by decide
  have e4 : (4 : Int32).toInt = 4 := by decide
  omega
def own_s4 (k k4 en : Int32) : Int32 := if (4 : Int32) < en then (if k4 = k then (5 : Int32) else (4 : Int32)) else (4 : Int32)
def own_s3 (k k3 k4 en : Int32) : Int32 := if (3 : Int32) < en then (if k3 = k then own_s4 k k4 en else (3 : Int32)) else (3 : Int32)
def own_s2 (k k2 k3 k4 en : Int32) : Int32 := if (2 : Int32) < en then (if k2 = k then own_s3 k k3 k4 en else (2 : Int32)) else (2 : Int32)
def own_s1 (k k1 k2 k3 k4 en : Int32) : Int32 := if (1 : Int32) < en then (if k1 = k then own_s2 k k2 k3 k4 en else (1 : Int32)) else (1 : Int32)
def own_run (k0 k1 k2 k3 k4 st en : Int32) : Int32 := if st = (0 : Int32) then own_s1 k0 k1 k2 k3 k4 en else if st = (1 : Int32) then own_s2 k1 k2 k3 k4 en else if st = (2 : Int32) then own_s3 k2 k3 k4 en else if st = (3 : Int32) then own_s4 k3 k4 en else (5 : Int32)
def own_pick (c0 c1 c2 c3 c4 st : Int32) : Int32 := if st = (0 : Int32) then c0 else if st = (1 : Int32) then c1 else if st = (2 : Int32) then c2 else if st = (3 : Int32) then c3 else c4
def own_e (k c cs st en prev : Int32) : Int32 := if st < k then (if k < en then (if c = cs then prev else k) else prev) else prev
theorem own_le5 {en : Int32} (h : en.toInt ≤ 5) : ¬ (5 : Int32) < en := by
  rw [Int32.lt_iff_toInt_lt]
  have : (5 : Int32).toInt = 5 := by decide
  omega
theorem own_atJ (v0 v1 v2 v3 v4 : Int64) (st : Int32) (h : 0 ≤ st.toInt ∧ st.toInt < 5) : [(Value.int (0 : Int32))].length = 1 := rfl
theorem own_atI (c0 c1 c2 c3 c4 st : Int32) (h : 0 ≤ st.toInt ∧ st.toInt < 5) : [(Value.int c0), (.int c1), (.int c2), (.int c3), (.int c4)].getD st.toNatClampNeg (.int (0 : Int32)) = .int (own_pick c0 c1 c2 c3 c4 st) := by
  rcases own_c5 h with rfl | rfl | rfl | rfl | rfl <;> rfl
theorem pd_0 : parseMethodDescriptor "(J)I" = some ⟨[.long], some .int⟩ := by decide +kernel
theorem d2_0 : decode prog_18_method_5_code 0 = .ok (.aload_n 0, 1) := by decide +kernel
theorem d2_1 : decode prog_18_method_5_code 1 = .ok (.iload_n 1, 1) := by decide +kernel
theorem d2_2 : decode prog_18_method_5_code 2 = .ok (.laload, 1) := by decide +kernel
theorem d2_3 : decode prog_18_method_5_code 3 = .ok (.invokestatic 9, 3) := by decide +kernel
theorem d2_6 : decode prog_18_method_5_code 6 = .ok (.istore_n 3, 1) := by decide +kernel
theorem d2_7 : decode prog_18_method_5_code 7 = .ok (.iload_n 1, 1) := by decide +kernel
theorem d2_8 : decode prog_18_method_5_code 8 = .ok (.iconst 1, 1) := by decide +kernel
theorem d2_9 : decode prog_18_method_5_code 9 = .ok (.iadd, 1) := by decide +kernel
theorem d2_10 : decode prog_18_method_5_code 10 = .ok (.istore 4, 2) := by decide +kernel
theorem d2_12 : decode prog_18_method_5_code 12 = .ok (.iload 4, 2) := by decide +kernel
theorem d2_14 : decode prog_18_method_5_code 14 = .ok (.iload_n 2, 1) := by decide +kernel
theorem d2_15 : decode prog_18_method_5_code 15 = .ok (.if_icmp .ge 20, 3) := by decide +kernel
theorem d2_18 : decode prog_18_method_5_code 18 = .ok (.aload_n 0, 1) := by decide +kernel
theorem d2_19 : decode prog_18_method_5_code 19 = .ok (.iload 4, 2) := by decide +kernel
theorem d2_21 : decode prog_18_method_5_code 21 = .ok (.laload, 1) := by decide +kernel
theorem d2_22 : decode prog_18_method_5_code 22 = .ok (.invokestatic 9, 3) := by decide +kernel
theorem d2_25 : decode prog_18_method_5_code 25 = .ok (.iload_n 3, 1) := by decide +kernel
theorem d2_26 : decode prog_18_method_5_code 26 = .ok (.if_icmp .ne 9, 3) := by decide +kernel
theorem d2_29 : decode prog_18_method_5_code 29 = .ok (.iinc 4 1, 3) := by decide +kernel
theorem d2_32 : decode prog_18_method_5_code 32 = .ok (.goto (-20), 3) := by decide +kernel
theorem d2_35 : decode prog_18_method_5_code 35 = .ok (.iload 4, 2) := by decide +kernel
theorem d2_37 : decode prog_18_method_5_code 37 = .ok (.ireturn, 1) := by decide +kernel
theorem ef_Run (m : MethodId) (a0 : Addr) (p1 : Int32) (p2 : Int32) : entryFrame m #[(.ref a0), (.int p1), (.int p2)] 5 = mkF m 0 #[.val (.ref a0), .val (.int p1), .val (.int p2), .unset, .unset] [] := by first | (simp [entryFrame, mkF, argsToLocals, Value.category]; done) | rfl
def QRun (Z : State) (a0 : Addr) (p1 : Int32) (p2 : Int32) (kA : ClassId) (v0 : Int64) (v1 : Int64) (v2 : Int64) (v3 : Int64) (v4 : Int64) (h0 : Heap) (n0 : Nat) (v : Option Value) (h : Heap) (L : List Loc) : Prop := v = some (.int (own_run (FKey v0) (FKey v1) (FKey v2) (FKey v3) (FKey v4) p1 p2)) ∧ Fr n0 L ∧ h = h0
set_option maxRecDepth 65536 in
set_option maxHeartbeats 40000000 in
theorem rmRun (l : Launch) (Z : State) (aV : Array Value) (hw : ∀ d ∈ tables_1, d.before aV Z = true) (ws : List Jvm.Cond) (a0 : Addr) (p1 : Int32) (p2 : Int32) (kA : ClassId) (v0 : Int64) (v1 : Int64) (v2 : Int64) (v3 : Int64) (v4 : Int64) (h0 : Heap) (n0 : Nat) (Zn : n0 ≤ h0.size) (hst : 0 ≤ p1.toInt ∧ p1.toInt < 5) (hen : p2.toInt ≤ 5) (V_a0 : Arv Z h0 a0 kA .long (5 : Int32) [(.long v0), (.long v1), (.long v2), (.long v3), (.long v4)] (.long (0 : Int64))) :
    MetFree l (⟨"org/succession/Places", "runEnd", "([JII)I"⟩ : MethodName) (head1 (Jvm.Cond.code (⟨"org/succession/Places", "runEnd", "([JII)I"⟩ : MethodName) prog_18_method_5_code 5 (some .int) :: ws) ({ frames := 1, cells := 0, slots := 0, locals := 13 } : Room)) (fun a U => a = #[(.ref a0), (.int p1), (.int p2)] ∧ Z.Warmed39 U.vm ∧ U.heap = h0) (fun _ _ _ _ _ => True) (fun _ U o U' => ∃ v L, o = .returned v ∧ QRun Z a0 p1 p2 kA v0 v1 v2 v3 v4 h0 n0 v U'.heap L ∧ FrameEnd U o U' L ({ frames := 1, cells := 0, slots := 0, locals := 13 } : Room).cells ({ frames := 1, cells := 0, slots := 0, locals := 13 } : Room).slots) := by
  refine MetFree.of_bodySF (plainFor_of_name pn_1) hisR ?_
  intro p e s m args below meth c s₁ Bd hml0 hP hK
  obtain ⟨rfl, hZ, hh⟩ := hP
  have hx := Bd.exec
  have hby := Bd.bytes
  have hml : c.maxLocals = 5 := hml0
  have hown : s.vm.findClass "org/succession/Places" = some m.cls := findClass_of_methodNamed Bd.named
  have hnm := (name_of_methodNamed Bd.named Bd.method).1
  have X0 : Stand p l e ({ frames := 1, cells := 0, slots := 0, locals := 13 } : Room) s m #[(.ref a0), (.int p1), (.int p2)] below meth c s₁ [] 0 0 := Stand.of_body Bd
  have e0 : s₁.heap = h0 := by rw [← hh, Bd.state]; rfl
  have N0 := Fr.nil n0
  have Kp := Keep.refl h0 []
  show Run p e below (Ends s (QRun Z a0 p1 p2 kA v0 v1 v2 v3 v4 h0 n0) ({ frames := 1, cells := 0, slots := 0, locals := 13 } : Room).cells ({ frames := 1, cells := 0, slots := 0, locals := 13 } : Room).slots) _
  refine Run.st (S' := s₁.setTop (mkF m 0 #[.val (.ref a0), .val (.int p1), .val (.int p2), .unset, .unset] [])) (fun t k => castTop (ef_Run m a0 p1 p2) k) ?_
  rcases own_c5 hst with rfl | rfl | rfl | rfl | rfl
  · refine Run.st (S' := s₁.setTop (mkF m 2 #[.val (.ref a0), .val (.int (0 : Int32)), .val (.int p2), .unset, .unset] [(.int (0 : Int32)), (.ref a0)])) (fun _ k => XS.aloadN X0.here hx rfl (hb hby d2_0) rfl rfl (XS.iloadN X0.here hx rfl (hb hby d2_1) rfl k)) ?_
    obtain ⟨cl1, Ar1, qa1, Sa1, Na1, Ha1, Ga1⟩ := id V_a0
    have hin1 : ¬ ((0 : Int32) < 0 ∨ cl1.slots.size ≤ ((0 : Int32)).toNatClampNeg) := inb_of Sa1 ⟨by decide, by decide⟩
    have hat1 : cl1.slots[((0 : Int32)).toNatClampNeg]? = some (.long v0) := Has.at Ha1 hin1 rfl
    refine Run.st (S' := s₁.setTop (mkF m 3 #[.val (.ref a0), .val (.int (0 : Int32)), .val (.int p2), .unset, .unset] [(.long v0)])) (fun _ k => X0.laload hx (j := (0 : Int32)) (v := (.long v0)) (by rw [e0]; exact Ar1.1) (State.isArrayOf_alike hZ.alike Ar1.2.1) Ar1.2.2 hin1 hat1 (g := (mkF m 2 #[.val (.ref a0), .val (.int (0 : Int32)), .val (.int p2), .unset, .unset] [(.int (0 : Int32)), (.ref a0)])) rfl rfl (hb hby d2_2) _ k) ?_
    obtain ⟨_, _, ⟨T2, L2, k2, n2⟩, -, X2, ⟨Lc2, hQ2, l2, y2, z2⟩, st2⟩ := Jvm.LawKit.callS X0 hx (y := (⟨"org/succession/Places", "key", "(J)I"⟩ : MethodName)) hown (mvT hZ (hw _ (List.mem_of_getElem? (i := 12) rfl))) (mvT hZ (hw _ (List.mem_of_getElem? (i := 13) rfl))) (mvT hZ (hw _ (List.mem_of_getElem? (i := 10) rfl))) (mvT hZ (hw _ (List.mem_of_getElem? (i := 14) rfl))) (by decide) (backOf (W := 0) (rmKey l Z aV hw [] v0 h0 n0 Zn ) hZ (hw _ (List.mem_of_getElem? (i := 14) rfl)) (hw _ (List.mem_of_getElem? (i := 10) rfl)) (by decide) (by decide)) (g := (mkF m 3 #[.val (.ref a0), .val (.int (0 : Int32)), .val (.int p2), .unset, .unset] [(.long v0)])) rfl (by rw [hml]; rfl) (argsL := [(.long v0)]) (rest := []) (lenOf pd_0 rfl) rfl (by show 2 * 0 + _ ≤ _; exact Nat.le_of_eq rfl) (hb hby d2_3) (fun _ _ => ⟨rfl, e0, (by decide : 0 + 0 ≤ _), (by decide : 0 + 0 ≤ _)⟩)
    dsimp only [Pt.U, Pt.locs, Pt.cells, Pt.slots] at X2 l2 y2 z2 st2 hQ2
    subst l2 y2 z2
    obtain ⟨rfl, N2q, e2⟩ := hQ2
    have N2 := Fr.app N0 N2q
    refine Run.st (S' := T2.setTop (mkF m 15 #[.val (.ref a0), .val (.int (0 : Int32)), .val (.int p2), .val (.int (FKey v0)), .val (.int (1 : Int32))] [(.int p2), (.int (1 : Int32))])) (fun _ k => st2 _ (XS.istoreN X2.here hx rfl (hb hby d2_6) rfl (l' := #[.val (.ref a0), .val (.int (0 : Int32)), .val (.int p2), .val (.int (FKey v0)), .unset]) rfl (XS.iloadN X2.here hx rfl (hb hby d2_7) rfl (XS.iconst X2.here hx rfl (hb hby d2_8) (XS.iadd X2.here hx rfl (hb hby d2_9) rfl (XS.istore X2.here hx rfl (hb hby d2_10) rfl (l' := #[.val (.ref a0), .val (.int (0 : Int32)), .val (.int p2), .val (.int (FKey v0)), .val (.int (1 : Int32))]) rfl (XS.iload X2.here hx rfl (hb hby d2_12) rfl (XS.iloadN X2.here hx rfl (hb hby d2_14) rfl k)))))))) ?_
    by_cases hc15_3 : (1 : Int32) < p2
    · refine Run.st (S' := T2.setTop (mkF m 21 #[.val (.ref a0), .val (.int (0 : Int32)), .val (.int p2), .val (.int (FKey v0)), .val (.int (1 : Int32))] [(.int (1 : Int32)), (.ref a0)])) (fun _ k => XS.icmpNo X2.here hx rfl (hb hby d2_15) rfl (tlt hc15_3).2.1 (XS.aloadN X2.here hx rfl (hb hby d2_18) rfl rfl (XS.iload X2.here hx rfl (hb hby d2_19) rfl k))) ?_
      obtain ⟨cl4, Ar4, qa4, Sa4, Na4, Ha4, Ga4⟩ := id V_a0
      have hin4 : ¬ ((1 : Int32) < 0 ∨ cl4.slots.size ≤ ((1 : Int32)).toNatClampNeg) := inb_of Sa4 ⟨by decide, by decide⟩
      have hat4 : cl4.slots[((1 : Int32)).toNatClampNeg]? = some (.long v1) := Has.at Ha4 hin4 rfl
      refine Run.st (S' := T2.setTop (mkF m 22 #[.val (.ref a0), .val (.int (0 : Int32)), .val (.int p2), .val (.int (FKey v0)), .val (.int (1 : Int32))] [(.long v1)])) (fun _ k => X2.laload hx (j := (1 : Int32)) (v := (.long v1)) (by rw [e2]; exact Ar4.1) (State.isArrayOf_alike hZ.alike Ar4.2.1) Ar4.2.2 hin4 hat4 (g := (mkF m 21 #[.val (.ref a0), .val (.int (0 : Int32)), .val (.int p2), .val (.int (FKey v0)), .val (.int (1 : Int32))] [(.int (1 : Int32)), (.ref a0)])) rfl rfl (hb hby d2_21) _ k) ?_
      obtain ⟨_, _, ⟨T5, L5, k5, n5⟩, -, X5, ⟨Lc5, hQ5, l5, y5, z5⟩, st5⟩ := Jvm.LawKit.callS X2 hx (y := (⟨"org/succession/Places", "key", "(J)I"⟩ : MethodName)) hown (mvT hZ (hw _ (List.mem_of_getElem? (i := 12) rfl))) (mvT hZ (hw _ (List.mem_of_getElem? (i := 13) rfl))) (mvT hZ (hw _ (List.mem_of_getElem? (i := 10) rfl))) (mvT hZ (hw _ (List.mem_of_getElem? (i := 14) rfl))) (by decide) (backOf (W := 0) (rmKey l Z aV hw [] v1 h0 n0 Zn ) hZ (hw _ (List.mem_of_getElem? (i := 14) rfl)) (hw _ (List.mem_of_getElem? (i := 10) rfl)) (by decide) (by decide)) (g := (mkF m 22 #[.val (.ref a0), .val (.int (0 : Int32)), .val (.int p2), .val (.int (FKey v0)), .val (.int (1 : Int32))] [(.long v1)])) rfl (by rw [hml]; rfl) (argsL := [(.long v1)]) (rest := []) (lenOf pd_0 rfl) rfl (by show 2 * 0 + _ ≤ _; exact Nat.le_of_eq rfl) (hb hby d2_22) (fun _ _ => ⟨rfl, e2, (by decide : 0 + 0 ≤ _), (by decide : 0 + 0 ≤ _)⟩)
      dsimp only [Pt.U, Pt.locs, Pt.cells, Pt.slots] at X5 l5 y5 z5 st5 hQ5
      subst l5 y5 z5
      obtain ⟨rfl, N5q, e5⟩ := hQ5
      have N5 := Fr.app N2 N5q
      refine Run.st (S' := T5.setTop (mkF m 26 #[.val (.ref a0), .val (.int (0 : Int32)), .val (.int p2), .val (.int (FKey v0)), .val (.int (1 : Int32))] [(.int (FKey v0)), (.int (FKey v1))])) (fun _ k => st5 _ (XS.iloadN X5.here hx rfl (hb hby d2_25) rfl k)) ?_
      by_cases hc26_6 : (FKey v1) = (FKey v0)
      · refine Run.st (S' := T5.setTop (mkF m 15 #[.val (.ref a0), .val (.int (0 : Int32)), .val (.int p2), .val (.int (FKey v0)), .val (.int (2 : Int32))] [(.int p2), (.int (2 : Int32))])) (fun _ k => XS.icmpNo X5.here hx rfl (hb hby d2_26) rfl (teq hc26_6).2 (XS.iinc X5.here hx rfl (hb hby d2_29) rfl (l' := #[.val (.ref a0), .val (.int (0 : Int32)), .val (.int p2), .val (.int (FKey v0)), .val (.int (2 : Int32))]) rfl (XS.goto X5.here hx rfl (pc0 := 32) (pc' := 12) rfl (hb hby d2_32) (by decide) (by decide) (XS.iload X5.here hx rfl (hb hby d2_12) rfl (XS.iloadN X5.here hx rfl (hb hby d2_14) rfl k))))) ?_
        by_cases hc15_7 : (2 : Int32) < p2
        · refine Run.st (S' := T5.setTop (mkF m 21 #[.val (.ref a0), .val (.int (0 : Int32)), .val (.int p2), .val (.int (FKey v0)), .val (.int (2 : Int32))] [(.int (2 : Int32)), (.ref a0)])) (fun _ k => XS.icmpNo X5.here hx rfl (hb hby d2_15) rfl (tlt hc15_7).2.1 (XS.aloadN X5.here hx rfl (hb hby d2_18) rfl rfl (XS.iload X5.here hx rfl (hb hby d2_19) rfl k))) ?_
          obtain ⟨cl8, Ar8, qa8, Sa8, Na8, Ha8, Ga8⟩ := id V_a0
          have hin8 : ¬ ((2 : Int32) < 0 ∨ cl8.slots.size ≤ ((2 : Int32)).toNatClampNeg) := inb_of Sa8 ⟨by decide, by decide⟩
          have hat8 : cl8.slots[((2 : Int32)).toNatClampNeg]? = some (.long v2) := Has.at Ha8 hin8 rfl
          refine Run.st (S' := T5.setTop (mkF m 22 #[.val (.ref a0), .val (.int (0 : Int32)), .val (.int p2), .val (.int (FKey v0)), .val (.int (2 : Int32))] [(.long v2)])) (fun _ k => X5.laload hx (j := (2 : Int32)) (v := (.long v2)) (by rw [e5]; exact Ar8.1) (State.isArrayOf_alike hZ.alike Ar8.2.1) Ar8.2.2 hin8 hat8 (g := (mkF m 21 #[.val (.ref a0), .val (.int (0 : Int32)), .val (.int p2), .val (.int (FKey v0)), .val (.int (2 : Int32))] [(.int (2 : Int32)), (.ref a0)])) rfl rfl (hb hby d2_21) _ k) ?_
          obtain ⟨_, _, ⟨T9, L9, k9, n9⟩, -, X9, ⟨Lc9, hQ9, l9, y9, z9⟩, st9⟩ := Jvm.LawKit.callS X5 hx (y := (⟨"org/succession/Places", "key", "(J)I"⟩ : MethodName)) hown (mvT hZ (hw _ (List.mem_of_getElem? (i := 12) rfl))) (mvT hZ (hw _ (List.mem_of_getElem? (i := 13) rfl))) (mvT hZ (hw _ (List.mem_of_getElem? (i := 10) rfl))) (mvT hZ (hw _ (List.mem_of_getElem? (i := 14) rfl))) (by decide) (backOf (W := 0) (rmKey l Z aV hw [] v2 h0 n0 Zn ) hZ (hw _ (List.mem_of_getElem? (i := 14) rfl)) (hw _ (List.mem_of_getElem? (i := 10) rfl)) (by decide) (by decide)) (g := (mkF m 22 #[.val (.ref a0), .val (.int (0 : Int32)), .val (.int p2), .val (.int (FKey v0)), .val (.int (2 : Int32))] [(.long v2)])) rfl (by rw [hml]; rfl) (argsL := [(.long v2)]) (rest := []) (lenOf pd_0 rfl) rfl (by show 2 * 0 + _ ≤ _; exact Nat.le_of_eq rfl) (hb hby d2_22) (fun _ _ => ⟨rfl, e5, (by decide : 0 + 0 ≤ _), (by decide : 0 + 0 ≤ _)⟩)
          dsimp only [Pt.U, Pt.locs, Pt.cells, Pt.slots] at X9 l9 y9 z9 st9 hQ9
          subst l9 y9 z9
          obtain ⟨rfl, N9q, e9⟩ := hQ9
          have N9 := Fr.app N5 N9q
          refine Run.st (S' := T9.setTop (mkF m 26 #[.val (.ref a0), .val (.int (0 : Int32)), .val (.int p2), .val (.int (FKey v0)), .val (.int (2 : Int32))] [(.int (FKey v0)), (.int (FKey v2))])) (fun _ k => st9 _ (XS.iloadN X9.here hx rfl (hb hby d2_25) rfl k)) ?_
          by_cases hc26_10 : (FKey v2) = (FKey v0)
          · refine Run.st (S' := T9.setTop (mkF m 15 #[.val (.ref a0), .val (.int (0 : Int32)), .val (.int p2), .val (.int (FKey v0)), .val (.int (3 : Int32))] [(.int p2), (.int (3 : Int32))])) (fun _ k => XS.icmpNo X9.here hx rfl (hb hby d2_26) rfl (teq hc26_10).2 (XS.iinc X9.here hx rfl (hb hby d2_29) rfl (l' := #[.val (.ref a0), .val (.int (0 : Int32)), .val (.int p2), .val (.int (FKey v0)), .val (.int (3 : Int32))]) rfl (XS.goto X9.here hx rfl (pc0 := 32) (pc' := 12) rfl (hb hby d2_32) (by decide) (by decide) (XS.iload X9.here hx rfl (hb hby d2_12) rfl (XS.iloadN X9.here hx rfl (hb hby d2_14) rfl k))))) ?_
            by_cases hc15_11 : (3 : Int32) < p2
            · refine Run.st (S' := T9.setTop (mkF m 21 #[.val (.ref a0), .val (.int (0 : Int32)), .val (.int p2), .val (.int (FKey v0)), .val (.int (3 : Int32))] [(.int (3 : Int32)), (.ref a0)])) (fun _ k => XS.icmpNo X9.here hx rfl (hb hby d2_15) rfl (tlt hc15_11).2.1 (XS.aloadN X9.here hx rfl (hb hby d2_18) rfl rfl (XS.iload X9.here hx rfl (hb hby d2_19) rfl k))) ?_
              obtain ⟨cl12, Ar12, qa12, Sa12, Na12, Ha12, Ga12⟩ := id V_a0
              have hin12 : ¬ ((3 : Int32) < 0 ∨ cl12.slots.size ≤ ((3 : Int32)).toNatClampNeg) := inb_of Sa12 ⟨by decide, by decide⟩
              have hat12 : cl12.slots[((3 : Int32)).toNatClampNeg]? = some (.long v3) := Has.at Ha12 hin12 rfl
              refine Run.st (S' := T9.setTop (mkF m 22 #[.val (.ref a0), .val (.int (0 : Int32)), .val (.int p2), .val (.int (FKey v0)), .val (.int (3 : Int32))] [(.long v3)])) (fun _ k => X9.laload hx (j := (3 : Int32)) (v := (.long v3)) (by rw [e9]; exact Ar12.1) (State.isArrayOf_alike hZ.alike Ar12.2.1) Ar12.2.2 hin12 hat12 (g := (mkF m 21 #[.val (.ref a0), .val (.int (0 : Int32)), .val (.int p2), .val (.int (FKey v0)), .val (.int (3 : Int32))] [(.int (3 : Int32)), (.ref a0)])) rfl rfl (hb hby d2_21) _ k) ?_
              obtain ⟨_, _, ⟨T13, L13, k13, n13⟩, -, X13, ⟨Lc13, hQ13, l13, y13, z13⟩, st13⟩ := Jvm.LawKit.callS X9 hx (y := (⟨"org/succession/Places", "key", "(J)I"⟩ : MethodName)) hown (mvT hZ (hw _ (List.mem_of_getElem? (i := 12) rfl))) (mvT hZ (hw _ (List.mem_of_getElem? (i := 13) rfl))) (mvT hZ (hw _ (List.mem_of_getElem? (i := 10) rfl))) (mvT hZ (hw _ (List.mem_of_getElem? (i := 14) rfl))) (by decide) (backOf (W := 0) (rmKey l Z aV hw [] v3 h0 n0 Zn ) hZ (hw _ (List.mem_of_getElem? (i := 14) rfl)) (hw _ (List.mem_of_getElem? (i := 10) rfl)) (by decide) (by decide)) (g := (mkF m 22 #[.val (.ref a0), .val (.int (0 : Int32)), .val (.int p2), .val (.int (FKey v0)), .val (.int (3 : Int32))] [(.long v3)])) rfl (by rw [hml]; rfl) (argsL := [(.long v3)]) (rest := []) (lenOf pd_0 rfl) rfl (by show 2 * 0 + _ ≤ _; exact Nat.le_of_eq rfl) (hb hby d2_22) (fun _ _ => ⟨rfl, e9, (by decide : 0 + 0 ≤ _), (by decide : 0 + 0 ≤ _)⟩)
              dsimp only [Pt.U, Pt.locs, Pt.cells, Pt.slots] at X13 l13 y13 z13 st13 hQ13
              subst l13 y13 z13
              obtain ⟨rfl, N13q, e13⟩ := hQ13
              have N13 := Fr.app N9 N13q
              refine Run.st (S' := T13.setTop (mkF m 26 #[.val (.ref a0), .val (.int (0 : Int32)), .val (.int p2), .val (.int (FKey v0)), .val (.int (3 : Int32))] [(.int (FKey v0)), (.int (FKey v3))])) (fun _ k => st13 _ (XS.iloadN X13.here hx rfl (hb hby d2_25) rfl k)) ?_
              by_cases hc26_14 : (FKey v3) = (FKey v0)
              · refine Run.st (S' := T13.setTop (mkF m 15 #[.val (.ref a0), .val (.int (0 : Int32)), .val (.int p2), .val (.int (FKey v0)), .val (.int (4 : Int32))] [(.int p2), (.int (4 : Int32))])) (fun _ k => XS.icmpNo X13.here hx rfl (hb hby d2_26) rfl (teq hc26_14).2 (XS.iinc X13.here hx rfl (hb hby d2_29) rfl (l' := #[.val (.ref a0), .val (.int (0 : Int32)), .val (.int p2), .val (.int (FKey v0)), .val (.int (4 : Int32))]) rfl (XS.goto X13.here hx rfl (pc0 := 32) (pc' := 12) rfl (hb hby d2_32) (by decide) (by decide) (XS.iload X13.here hx rfl (hb hby d2_12) rfl (XS.iloadN X13.here hx rfl (hb hby d2_14) rfl k))))) ?_
                by_cases hc15_15 : (4 : Int32) < p2
                · refine Run.st (S' := T13.setTop (mkF m 21 #[.val (.ref a0), .val (.int (0 : Int32)), .val (.int p2), .val (.int (FKey v0)), .val (.int (4 : Int32))] [(.int (4 : Int32)), (.ref a0)])) (fun _ k => XS.icmpNo X13.here hx rfl (hb hby d2_15) rfl (tlt hc15_15).2.1 (XS.aloadN X13.here hx rfl (hb hby d2_18) rfl rfl (XS.iload X13.here hx rfl (hb hby d2_19) rfl k))) ?_
                  obtain ⟨cl16, Ar16, qa16, Sa16, Na16, Ha16, Ga16⟩ := id V_a0
                  have hin16 : ¬ ((4 : Int32) < 0 ∨ cl16.slots.size ≤ ((4 : Int32)).toNatClampNeg) := inb_of Sa16 ⟨by decide, by decide⟩
                  have hat16 : cl16.slots[((4 : Int32)).toNatClampNeg]? = some (.long v4) := Has.at Ha16 hin16 rfl
                  refine Run.st (S' := T13.setTop (mkF m 22 #[.val (.ref a0), .val (.int (0 : Int32)), .val (.int p2), .val (.int (FKey v0)), .val (.int (4 : Int32))] [(.long v4)])) (fun _ k => X13.laload hx (j := (4 : Int32)) (v := (.long v4)) (by rw [e13]; exact Ar16.1) (State.isArrayOf_alike hZ.alike Ar16.2.1) Ar16.2.2 hin16 hat16 (g := (mkF m 21 #[.val (.ref a0), .val (.int (0 : Int32)), .val (.int p2), .val (.int (FKey v0)), .val (.int (4 : Int32))] [(.int (4 : Int32)), (.ref a0)])) rfl rfl (hb hby d2_21) _ k) ?_
                  obtain ⟨_, _, ⟨T17, L17, k17, n17⟩, -, X17, ⟨Lc17, hQ17, l17, y17, z17⟩, st17⟩ := Jvm.LawKit.callS X13 hx (y := (⟨"org/succession/Places", "key", "(J)I"⟩ : MethodName)) hown (mvT hZ (hw _ (List.mem_of_getElem? (i := 12) rfl))) (mvT hZ (hw _ (List.mem_of_getElem? (i := 13) rfl))) (mvT hZ (hw _ (List.mem_of_getElem? (i := 10) rfl))) (mvT hZ (hw _ (List.mem_of_getElem? (i := 14) rfl))) (by decide) (backOf (W := 0) (rmKey l Z aV hw [] v4 h0 n0 Zn ) hZ (hw _ (List.mem_of_getElem? (i := 14) rfl)) (hw _ (List.mem_of_getElem? (i := 10) rfl)) (by decide) (by decide)) (g := (mkF m 22 #[.val (.ref a0), .val (.int (0 : Int32)), .val (.int p2), .val (.int (FKey v0)), .val (.int (4 : Int32))] [(.long v4)])) rfl (by rw [hml]; rfl) (argsL := [(.long v4)]) (rest := []) (lenOf pd_0 rfl) rfl (by show 2 * 0 + _ ≤ _; exact Nat.le_of_eq rfl) (hb hby d2_22) (fun _ _ => ⟨rfl, e13, (by decide : 0 + 0 ≤ _), (by decide : 0 + 0 ≤ _)⟩)
                  dsimp only [Pt.U, Pt.locs, Pt.cells, Pt.slots] at X17 l17 y17 z17 st17 hQ17
                  subst l17 y17 z17
                  obtain ⟨rfl, N17q, e17⟩ := hQ17
                  have N17 := Fr.app N13 N17q
                  refine Run.st (S' := T17.setTop (mkF m 26 #[.val (.ref a0), .val (.int (0 : Int32)), .val (.int p2), .val (.int (FKey v0)), .val (.int (4 : Int32))] [(.int (FKey v0)), (.int (FKey v4))])) (fun _ k => st17 _ (XS.iloadN X17.here hx rfl (hb hby d2_25) rfl k)) ?_
                  by_cases hc26_18 : (FKey v4) = (FKey v0)
                  · refine Run.st (S' := T17.setTop (mkF m 37 #[.val (.ref a0), .val (.int (0 : Int32)), .val (.int p2), .val (.int (FKey v0)), .val (.int (5 : Int32))] [(.int (5 : Int32))])) (fun _ k => XS.icmpNo X17.here hx rfl (hb hby d2_26) rfl (teq hc26_18).2 (XS.iinc X17.here hx rfl (hb hby d2_29) rfl (l' := #[.val (.ref a0), .val (.int (0 : Int32)), .val (.int p2), .val (.int (FKey v0)), .val (.int (5 : Int32))]) rfl (XS.goto X17.here hx rfl (pc0 := 32) (pc' := 12) rfl (hb hby d2_32) (by decide) (by decide) (XS.iload X17.here hx rfl (hb hby d2_12) rfl (XS.iloadN X17.here hx rfl (hb hby d2_14) rfl (XS.icmpYes X17.here hx rfl (pc0 := 15) (pc' := 35) rfl (hb hby d2_15) rfl (flt (show ¬ ((5 : Int32) < p2) from (own_le5 hen))).2.1 (by decide) (by decide) (XS.iload X17.here hx rfl (hb hby d2_35) rfl k))))))) ?_
                    refine Run.out X17 hx Bd.notSynchronized Bd.returns rfl (Or.inl ⟨rfl, by simp, _, rfl⟩) (hb hby d2_37) (by decide) (by decide) ?_
                    rw [e17]
                    exact ⟨by simp [own_run, own_s1, own_s2, own_s3, own_s4, hc15_3, hc26_6, hc15_7, hc26_10, hc15_11, hc26_14, hc15_15, hc26_18], N17, rfl⟩
                  · refine Run.st (S' := T17.setTop (mkF m 37 #[.val (.ref a0), .val (.int (0 : Int32)), .val (.int p2), .val (.int (FKey v0)), .val (.int (4 : Int32))] [(.int (4 : Int32))])) (fun _ k => XS.icmpYes X17.here hx rfl (pc0 := 26) (pc' := 35) rfl (hb hby d2_26) rfl (feq hc26_18).2 (by decide) (by decide) (XS.iload X17.here hx rfl (hb hby d2_35) rfl k)) ?_
                    refine Run.out X17 hx Bd.notSynchronized Bd.returns rfl (Or.inl ⟨rfl, by simp, _, rfl⟩) (hb hby d2_37) (by decide) (by decide) ?_
                    rw [e17]
                    exact ⟨by simp [own_run, own_s1, own_s2, own_s3, own_s4, hc15_3, hc26_6, hc15_7, hc26_10, hc15_11, hc26_14, hc15_15, hc26_18], N17, rfl⟩
                · refine Run.st (S' := T13.setTop (mkF m 37 #[.val (.ref a0), .val (.int (0 : Int32)), .val (.int p2), .val (.int (FKey v0)), .val (.int (4 : Int32))] [(.int (4 : Int32))])) (fun _ k => XS.icmpYes X13.here hx rfl (pc0 := 15) (pc' := 35) rfl (hb hby d2_15) rfl (flt hc15_15).2.1 (by decide) (by decide) (XS.iload X13.here hx rfl (hb hby d2_35) rfl k)) ?_
                  refine Run.out X13 hx Bd.notSynchronized Bd.returns rfl (Or.inl ⟨rfl, by simp, _, rfl⟩) (hb hby d2_37) (by decide) (by decide) ?_
                  rw [e13]
                  exact ⟨by simp [own_run, own_s1, own_s2, own_s3, own_s4, hc15_3, hc26_6, hc15_7, hc26_10, hc15_11, hc26_14, hc15_15], N13, rfl⟩
              · refine Run.st (S' := T13.setTop (mkF m 37 #[.val (.ref a0), .val (.int (0 : Int32)), .val (.int p2), .val (.int (FKey v0)), .val (.int (3 : Int32))] [(.int (3 : Int32))])) (fun _ k => XS.icmpYes X13.here hx rfl (pc0 := 26) (pc' := 35) rfl (hb hby d2_26) rfl (feq hc26_14).2 (by decide) (by decide) (XS.iload X13.here hx rfl (hb hby d2_35) rfl k)) ?_
                refine Run.out X13 hx Bd.notSynchronized Bd.returns rfl (Or.inl ⟨rfl, by simp, _, rfl⟩) (hb hby d2_37) (by decide) (by decide) ?_
                rw [e13]
                exact ⟨by simp [own_run, own_s1, own_s2, own_s3, own_s4, hc15_3, hc26_6, hc15_7, hc26_10, hc15_11, hc26_14], N13, rfl⟩
            · refine Run.st (S' := T9.setTop (mkF m 37 #[.val (.ref a0), .val (.int (0 : Int32)), .val (.int p2), .val (.int (FKey v0)), .val (.int (3 : Int32))] [(.int (3 : Int32))])) (fun _ k => XS.icmpYes X9.here hx rfl (pc0 := 15) (pc' := 35) rfl (hb hby d2_15) rfl (flt hc15_11).2.1 (by decide) (by decide) (XS.iload X9.here hx rfl (hb hby d2_35) rfl k)) ?_
              refine Run.out X9 hx Bd.notSynchronized Bd.returns rfl (Or.inl ⟨rfl, by simp, _, rfl⟩) (hb hby d2_37) (by decide) (by decide) ?_
              rw [e9]
              exact ⟨by simp [own_run, own_s1, own_s2, own_s3, own_s4, hc15_3, hc26_6, hc15_7, hc26_10, hc15_11], N9, rfl⟩
          · refine Run.st (S' := T9.setTop (mkF m 37 #[.val (.ref a0), .val (.int (0 : Int32)), .val (.int p2), .val (.int (FKey v0)), .val (.int (2 : Int32))] [(.int (2 : Int32))])) (fun _ k => XS.icmpYes X9.here hx rfl (pc0 := 26) (pc' := 35) rfl (hb hby d2_26) rfl (feq hc26_10).2 (by decide) (by decide) (XS.iload X9.here hx rfl (hb hby d2_35) rfl k)) ?_
            refine Run.out X9 hx Bd.notSynchronized Bd.returns rfl (Or.inl ⟨rfl, by simp, _, rfl⟩) (hb hby d2_37) (by decide) (by decide) ?_
            rw [e9]
            exact ⟨by simp [own_run, own_s1, own_s2, own_s3, own_s4, hc15_3, hc26_6, hc15_7, hc26_10], N9, rfl⟩
        · refine Run.st (S' := T5.setTop (mkF m 37 #[.val (.ref a0), .val (.int (0 : Int32)), .val (.int p2), .val (.int (FKey v0)), .val (.int (2 : Int32))] [(.int (2 : Int32))])) (fun _ k => XS.icmpYes X5.here hx rfl (pc0 := 15) (pc' := 35) rfl (hb hby d2_15) rfl (flt hc15_7).2.1 (by decide) (by decide) (XS.iload X5.here hx rfl (hb hby d2_35) rfl k)) ?_
          refine Run.out X5 hx Bd.notSynchronized Bd.returns rfl (Or.inl ⟨rfl, by simp, _, rfl⟩) (hb hby d2_37) (by decide) (by decide) ?_
          rw [e5]
          exact ⟨by simp [own_run, own_s1, own_s2, own_s3, own_s4, hc15_3, hc26_6, hc15_7], N5, rfl⟩
      · refine Run.st (S' := T5.setTop (mkF m 37 #[.val (.ref a0), .val (.int (0 : Int32)), .val (.int p2), .val (.int (FKey v0)), .val (.int (1 : Int32))] [(.int (1 : Int32))])) (fun _ k => XS.icmpYes X5.here hx rfl (pc0 := 26) (pc' := 35) rfl (hb hby d2_26) rfl (feq hc26_6).2 (by decide) (by decide) (XS.iload X5.here hx rfl (hb hby d2_35) rfl k)) ?_
        refine Run.out X5 hx Bd.notSynchronized Bd.returns rfl (Or.inl ⟨rfl, by simp, _, rfl⟩) (hb hby d2_37) (by decide) (by decide) ?_
        rw [e5]
        exact ⟨by simp [own_run, own_s1, own_s2, own_s3, own_s4, hc15_3, hc26_6], N5, rfl⟩
    · refine Run.st (S' := T2.setTop (mkF m 37 #[.val (.ref a0), .val (.int (0 : Int32)), .val (.int p2), .val (.int (FKey v0)), .val (.int (1 : Int32))] [(.int (1 : Int32))])) (fun _ k => XS.icmpYes X2.here hx rfl (pc0 := 15) (pc' := 35) rfl (hb hby d2_15) rfl (flt hc15_3).2.1 (by decide) (by decide) (XS.iload X2.here hx rfl (hb hby d2_35) rfl k)) ?_
      refine Run.out X2 hx Bd.notSynchronized Bd.returns rfl (Or.inl ⟨rfl, by simp, _, rfl⟩) (hb hby d2_37) (by decide) (by decide) ?_
      rw [e2]
      exact ⟨by simp [own_run, own_s1, own_s2, own_s3, own_s4, hc15_3], N2, rfl⟩
  · refine Run.st (S' := s₁.setTop (mkF m 2 #[.val (.ref a0), .val (.int (1 : Int32)), .val (.int p2), .unset, .unset] [(.int (1 : Int32)), (.ref a0)])) (fun _ k => XS.aloadN X0.here hx rfl (hb hby d2_0) rfl rfl (XS.iloadN X0.here hx rfl (hb hby d2_1) rfl k)) ?_
    obtain ⟨cl19, Ar19, qa19, Sa19, Na19, Ha19, Ga19⟩ := id V_a0
    have hin19 : ¬ ((1 : Int32) < 0 ∨ cl19.slots.size ≤ ((1 : Int32)).toNatClampNeg) := inb_of Sa19 ⟨by decide, by decide⟩
    have hat19 : cl19.slots[((1 : Int32)).toNatClampNeg]? = some (.long v1) := Has.at Ha19 hin19 rfl
    refine Run.st (S' := s₁.setTop (mkF m 3 #[.val (.ref a0), .val (.int (1 : Int32)), .val (.int p2), .unset, .unset] [(.long v1)])) (fun _ k => X0.laload hx (j := (1 : Int32)) (v := (.long v1)) (by rw [e0]; exact Ar19.1) (State.isArrayOf_alike hZ.alike Ar19.2.1) Ar19.2.2 hin19 hat19 (g := (mkF m 2 #[.val (.ref a0), .val (.int (1 : Int32)), .val (.int p2), .unset, .unset] [(.int (1 : Int32)), (.ref a0)])) rfl rfl (hb hby d2_2) _ k) ?_
    obtain ⟨_, _, ⟨T20, L20, k20, n20⟩, -, X20, ⟨Lc20, hQ20, l20, y20, z20⟩, st20⟩ := Jvm.LawKit.callS X0 hx (y := (⟨"org/succession/Places", "key", "(J)I"⟩ : MethodName)) hown (mvT hZ (hw _ (List.mem_of_getElem? (i := 12) rfl))) (mvT hZ (hw _ (List.mem_of_getElem? (i := 13) rfl))) (mvT hZ (hw _ (List.mem_of_getElem? (i := 10) rfl))) (mvT hZ (hw _ (List.mem_of_getElem? (i := 14) rfl))) (by decide) (backOf (W := 0) (rmKey l Z aV hw [] v1 h0 n0 Zn ) hZ (hw _ (List.mem_of_getElem? (i := 14) rfl)) (hw _ (List.mem_of_getElem? (i := 10) rfl)) (by decide) (by decide)) (g := (mkF m 3 #[.val (.ref a0), .val (.int (1 : Int32)), .val (.int p2), .unset, .unset] [(.long v1)])) rfl (by rw [hml]; rfl) (argsL := [(.long v1)]) (rest := []) (lenOf pd_0 rfl) rfl (by show 2 * 0 + _ ≤ _; exact Nat.le_of_eq rfl) (hb hby d2_3) (fun _ _ => ⟨rfl, e0, (by decide : 0 + 0 ≤ _), (by decide : 0 + 0 ≤ _)⟩)
    dsimp only [Pt.U, Pt.locs, Pt.cells, Pt.slots] at X20 l20 y20 z20 st20 hQ20
    subst l20 y20 z20
    obtain ⟨rfl, N20q, e20⟩ := hQ20
    have N20 := Fr.app N0 N20q
    refine Run.st (S' := T20.setTop (mkF m 15 #[.val (.ref a0), .val (.int (1 : Int32)), .val (.int p2), .val (.int (FKey v1)), .val (.int (2 : Int32))] [(.int p2), (.int (2 : Int32))])) (fun _ k => st20 _ (XS.istoreN X20.here hx rfl (hb hby d2_6) rfl (l' := #[.val (.ref a0), .val (.int (1 : Int32)), .val (.int p2), .val (.int (FKey v1)), .unset]) rfl (XS.iloadN X20.here hx rfl (hb hby d2_7) rfl (XS.iconst X20.here hx rfl (hb hby d2_8) (XS.iadd X20.here hx rfl (hb hby d2_9) rfl (XS.istore X20.here hx rfl (hb hby d2_10) rfl (l' := #[.val (.ref a0), .val (.int (1 : Int32)), .val (.int p2), .val (.int (FKey v1)), .val (.int (2 : Int32))]) rfl (XS.iload X20.here hx rfl (hb hby d2_12) rfl (XS.iloadN X20.here hx rfl (hb hby d2_14) rfl k)))))))) ?_
    by_cases hc15_21 : (2 : Int32) < p2
    · refine Run.st (S' := T20.setTop (mkF m 21 #[.val (.ref a0), .val (.int (1 : Int32)), .val (.int p2), .val (.int (FKey v1)), .val (.int (2 : Int32))] [(.int (2 : Int32)), (.ref a0)])) (fun _ k => XS.icmpNo X20.here hx rfl (hb hby d2_15) rfl (tlt hc15_21).2.1 (XS.aloadN X20.here hx rfl (hb hby d2_18) rfl rfl (XS.iload X20.here hx rfl (hb hby d2_19) rfl k))) ?_
      obtain ⟨cl22, Ar22, qa22, Sa22, Na22, Ha22, Ga22⟩ := id V_a0
      have hin22 : ¬ ((2 : Int32) < 0 ∨ cl22.slots.size ≤ ((2 : Int32)).toNatClampNeg) := inb_of Sa22 ⟨by decide, by decide⟩
      have hat22 : cl22.slots[((2 : Int32)).toNatClampNeg]? = some (.long v2) := Has.at Ha22 hin22 rfl
      refine Run.st (S' := T20.setTop (mkF m 22 #[.val (.ref a0), .val (.int (1 : Int32)), .val (.int p2), .val (.int (FKey v1)), .val (.int (2 : Int32))] [(.long v2)])) (fun _ k => X20.laload hx (j := (2 : Int32)) (v := (.long v2)) (by rw [e20]; exact Ar22.1) (State.isArrayOf_alike hZ.alike Ar22.2.1) Ar22.2.2 hin22 hat22 (g := (mkF m 21 #[.val (.ref a0), .val (.int (1 : Int32)), .val (.int p2), .val (.int (FKey v1)), .val (.int (2 : Int32))] [(.int (2 : Int32)), (.ref a0)])) rfl rfl (hb hby d2_21) _ k) ?_
      obtain ⟨_, _, ⟨T23, L23, k23, n23⟩, -, X23, ⟨Lc23, hQ23, l23, y23, z23⟩, st23⟩ := Jvm.LawKit.callS X20 hx (y := (⟨"org/succession/Places", "key", "(J)I"⟩ : MethodName)) hown (mvT hZ (hw _ (List.mem_of_getElem? (i := 12) rfl))) (mvT hZ (hw _ (List.mem_of_getElem? (i := 13) rfl))) (mvT hZ (hw _ (List.mem_of_getElem? (i := 10) rfl))) (mvT hZ (hw _ (List.mem_of_getElem? (i := 14) rfl))) (by decide) (backOf (W := 0) (rmKey l Z aV hw [] v2 h0 n0 Zn ) hZ (hw _ (List.mem_of_getElem? (i := 14) rfl)) (hw _ (List.mem_of_getElem? (i := 10) rfl)) (by decide) (by decide)) (g := (mkF m 22 #[.val (.ref a0), .val (.int (1 : Int32)), .val (.int p2), .val (.int (FKey v1)), .val (.int (2 : Int32))] [(.long v2)])) rfl (by rw [hml]; rfl) (argsL := [(.long v2)]) (rest := []) (lenOf pd_0 rfl) rfl (by show 2 * 0 + _ ≤ _; exact Nat.le_of_eq rfl) (hb hby d2_22) (fun _ _ => ⟨rfl, e20, (by decide : 0 + 0 ≤ _), (by decide : 0 + 0 ≤ _)⟩)
      dsimp only [Pt.U, Pt.locs, Pt.cells, Pt.slots] at X23 l23 y23 z23 st23 hQ23
      subst l23 y23 z23
      obtain ⟨rfl, N23q, e23⟩ := hQ23
      have N23 := Fr.app N20 N23q
      refine Run.st (S' := T23.setTop (mkF m 26 #[.val (.ref a0), .val (.int (1 : Int32)), .val (.int p2), .val (.int (FKey v1)), .val (.int (2 : Int32))] [(.int (FKey v1)), (.int (FKey v2))])) (fun _ k => st23 _ (XS.iloadN X23.here hx rfl (hb hby d2_25) rfl k)) ?_
      by_cases hc26_24 : (FKey v2) = (FKey v1)
      · refine Run.st (S' := T23.setTop (mkF m 15 #[.val (.ref a0), .val (.int (1 : Int32)), .val (.int p2), .val (.int (FKey v1)), .val (.int (3 : Int32))] [(.int p2), (.int (3 : Int32))])) (fun _ k => XS.icmpNo X23.here hx rfl (hb hby d2_26) rfl (teq hc26_24).2 (XS.iinc X23.here hx rfl (hb hby d2_29) rfl (l' := #[.val (.ref a0), .val (.int (1 : Int32)), .val (.int p2), .val (.int (FKey v1)), .val (.int (3 : Int32))]) rfl (XS.goto X23.here hx rfl (pc0 := 32) (pc' := 12) rfl (hb hby d2_32) (by decide) (by decide) (XS.iload X23.here hx rfl (hb hby d2_12) rfl (XS.iloadN X23.here hx rfl (hb hby d2_14) rfl k))))) ?_
        by_cases hc15_25 : (3 : Int32) < p2
        · refine Run.st (S' := T23.setTop (mkF m 21 #[.val (.ref a0), .val (.int (1 : Int32)), .val (.int p2), .val (.int (FKey v1)), .val (.int (3 : Int32))] [(.int (3 : Int32)), (.ref a0)])) (fun _ k => XS.icmpNo X23.here hx rfl (hb hby d2_15) rfl (tlt hc15_25).2.1 (XS.aloadN X23.here hx rfl (hb hby d2_18) rfl rfl (XS.iload X23.here hx rfl (hb hby d2_19) rfl k))) ?_
          obtain ⟨cl26, Ar26, qa26, Sa26, Na26, Ha26, Ga26⟩ := id V_a0
          have hin26 : ¬ ((3 : Int32) < 0 ∨ cl26.slots.size ≤ ((3 : Int32)).toNatClampNeg) := inb_of Sa26 ⟨by decide, by decide⟩
          have hat26 : cl26.slots[((3 : Int32)).toNatClampNeg]? = some (.long v3) := Has.at Ha26 hin26 rfl
          refine Run.st (S' := T23.setTop (mkF m 22 #[.val (.ref a0), .val (.int (1 : Int32)), .val (.int p2), .val (.int (FKey v1)), .val (.int (3 : Int32))] [(.long v3)])) (fun _ k => X23.laload hx (j := (3 : Int32)) (v := (.long v3)) (by rw [e23]; exact Ar26.1) (State.isArrayOf_alike hZ.alike Ar26.2.1) Ar26.2.2 hin26 hat26 (g := (mkF m 21 #[.val (.ref a0), .val (.int (1 : Int32)), .val (.int p2), .val (.int (FKey v1)), .val (.int (3 : Int32))] [(.int (3 : Int32)), (.ref a0)])) rfl rfl (hb hby d2_21) _ k) ?_
          obtain ⟨_, _, ⟨T27, L27, k27, n27⟩, -, X27, ⟨Lc27, hQ27, l27, y27, z27⟩, st27⟩ := Jvm.LawKit.callS X23 hx (y := (⟨"org/succession/Places", "key", "(J)I"⟩ : MethodName)) hown (mvT hZ (hw _ (List.mem_of_getElem? (i := 12) rfl))) (mvT hZ (hw _ (List.mem_of_getElem? (i := 13) rfl))) (mvT hZ (hw _ (List.mem_of_getElem? (i := 10) rfl))) (mvT hZ (hw _ (List.mem_of_getElem? (i := 14) rfl))) (by decide) (backOf (W := 0) (rmKey l Z aV hw [] v3 h0 n0 Zn ) hZ (hw _ (List.mem_of_getElem? (i := 14) rfl)) (hw _ (List.mem_of_getElem? (i := 10) rfl)) (by decide) (by decide)) (g := (mkF m 22 #[.val (.ref a0), .val (.int (1 : Int32)), .val (.int p2), .val (.int (FKey v1)), .val (.int (3 : Int32))] [(.long v3)])) rfl (by rw [hml]; rfl) (argsL := [(.long v3)]) (rest := []) (lenOf pd_0 rfl) rfl (by show 2 * 0 + _ ≤ _; exact Nat.le_of_eq rfl) (hb hby d2_22) (fun _ _ => ⟨rfl, e23, (by decide : 0 + 0 ≤ _), (by decide : 0 + 0 ≤ _)⟩)
          dsimp only [Pt.U, Pt.locs, Pt.cells, Pt.slots] at X27 l27 y27 z27 st27 hQ27
          subst l27 y27 z27
          obtain ⟨rfl, N27q, e27⟩ := hQ27
          have N27 := Fr.app N23 N27q
          refine Run.st (S' := T27.setTop (mkF m 26 #[.val (.ref a0), .val (.int (1 : Int32)), .val (.int p2), .val (.int (FKey v1)), .val (.int (3 : Int32))] [(.int (FKey v1)), (.int (FKey v3))])) (fun _ k => st27 _ (XS.iloadN X27.here hx rfl (hb hby d2_25) rfl k)) ?_
          by_cases hc26_28 : (FKey v3) = (FKey v1)
          · refine Run.st (S' := T27.setTop (mkF m 15 #[.val (.ref a0), .val (.int (1 : Int32)), .val (.int p2), .val (.int (FKey v1)), .val (.int (4 : Int32))] [(.int p2), (.int (4 : Int32))])) (fun _ k => XS.icmpNo X27.here hx rfl (hb hby d2_26) rfl (teq hc26_28).2 (XS.iinc X27.here hx rfl (hb hby d2_29) rfl (l' := #[.val (.ref a0), .val (.int (1 : Int32)), .val (.int p2), .val (.int (FKey v1)), .val (.int (4 : Int32))]) rfl (XS.goto X27.here hx rfl (pc0 := 32) (pc' := 12) rfl (hb hby d2_32) (by decide) (by decide) (XS.iload X27.here hx rfl (hb hby d2_12) rfl (XS.iloadN X27.here hx rfl (hb hby d2_14) rfl k))))) ?_
            by_cases hc15_29 : (4 : Int32) < p2
            · refine Run.st (S' := T27.setTop (mkF m 21 #[.val (.ref a0), .val (.int (1 : Int32)), .val (.int p2), .val (.int (FKey v1)), .val (.int (4 : Int32))] [(.int (4 : Int32)), (.ref a0)])) (fun _ k => XS.icmpNo X27.here hx rfl (hb hby d2_15) rfl (tlt hc15_29).2.1 (XS.aloadN X27.here hx rfl (hb hby d2_18) rfl rfl (XS.iload X27.here hx rfl (hb hby d2_19) rfl k))) ?_
              obtain ⟨cl30, Ar30, qa30, Sa30, Na30, Ha30, Ga30⟩ := id V_a0
              have hin30 : ¬ ((4 : Int32) < 0 ∨ cl30.slots.size ≤ ((4 : Int32)).toNatClampNeg) := inb_of Sa30 ⟨by decide, by decide⟩
              have hat30 : cl30.slots[((4 : Int32)).toNatClampNeg]? = some (.long v4) := Has.at Ha30 hin30 rfl
              refine Run.st (S' := T27.setTop (mkF m 22 #[.val (.ref a0), .val (.int (1 : Int32)), .val (.int p2), .val (.int (FKey v1)), .val (.int (4 : Int32))] [(.long v4)])) (fun _ k => X27.laload hx (j := (4 : Int32)) (v := (.long v4)) (by rw [e27]; exact Ar30.1) (State.isArrayOf_alike hZ.alike Ar30.2.1) Ar30.2.2 hin30 hat30 (g := (mkF m 21 #[.val (.ref a0), .val (.int (1 : Int32)), .val (.int p2), .val (.int (FKey v1)), .val (.int (4 : Int32))] [(.int (4 : Int32)), (.ref a0)])) rfl rfl (hb hby d2_21) _ k) ?_
              obtain ⟨_, _, ⟨T31, L31, k31, n31⟩, -, X31, ⟨Lc31, hQ31, l31, y31, z31⟩, st31⟩ := Jvm.LawKit.callS X27 hx (y := (⟨"org/succession/Places", "key", "(J)I"⟩ : MethodName)) hown (mvT hZ (hw _ (List.mem_of_getElem? (i := 12) rfl))) (mvT hZ (hw _ (List.mem_of_getElem? (i := 13) rfl))) (mvT hZ (hw _ (List.mem_of_getElem? (i := 10) rfl))) (mvT hZ (hw _ (List.mem_of_getElem? (i := 14) rfl))) (by decide) (backOf (W := 0) (rmKey l Z aV hw [] v4 h0 n0 Zn ) hZ (hw _ (List.mem_of_getElem? (i := 14) rfl)) (hw _ (List.mem_of_getElem? (i := 10) rfl)) (by decide) (by decide)) (g := (mkF m 22 #[.val (.ref a0), .val (.int (1 : Int32)), .val (.int p2), .val (.int (FKey v1)), .val (.int (4 : Int32))] [(.long v4)])) rfl (by rw [hml]; rfl) (argsL := [(.long v4)]) (rest := []) (lenOf pd_0 rfl) rfl (by show 2 * 0 + _ ≤ _; exact Nat.le_of_eq rfl) (hb hby d2_22) (fun _ _ => ⟨rfl, e27, (by decide : 0 + 0 ≤ _), (by decide : 0 + 0 ≤ _)⟩)
              dsimp only [Pt.U, Pt.locs, Pt.cells, Pt.slots] at X31 l31 y31 z31 st31 hQ31
              subst l31 y31 z31
              obtain ⟨rfl, N31q, e31⟩ := hQ31
              have N31 := Fr.app N27 N31q
              refine Run.st (S' := T31.setTop (mkF m 26 #[.val (.ref a0), .val (.int (1 : Int32)), .val (.int p2), .val (.int (FKey v1)), .val (.int (4 : Int32))] [(.int (FKey v1)), (.int (FKey v4))])) (fun _ k => st31 _ (XS.iloadN X31.here hx rfl (hb hby d2_25) rfl k)) ?_
              by_cases hc26_32 : (FKey v4) = (FKey v1)
              · refine Run.st (S' := T31.setTop (mkF m 37 #[.val (.ref a0), .val (.int (1 : Int32)), .val (.int p2), .val (.int (FKey v1)), .val (.int (5 : Int32))] [(.int (5 : Int32))])) (fun _ k => XS.icmpNo X31.here hx rfl (hb hby d2_26) rfl (teq hc26_32).2 (XS.iinc X31.here hx rfl (hb hby d2_29) rfl (l' := #[.val (.ref a0), .val (.int (1 : Int32)), .val (.int p2), .val (.int (FKey v1)), .val (.int (5 : Int32))]) rfl (XS.goto X31.here hx rfl (pc0 := 32) (pc' := 12) rfl (hb hby d2_32) (by decide) (by decide) (XS.iload X31.here hx rfl (hb hby d2_12) rfl (XS.iloadN X31.here hx rfl (hb hby d2_14) rfl (XS.icmpYes X31.here hx rfl (pc0 := 15) (pc' := 35) rfl (hb hby d2_15) rfl (flt (show ¬ ((5 : Int32) < p2) from (own_le5 hen))).2.1 (by decide) (by decide) (XS.iload X31.here hx rfl (hb hby d2_35) rfl k))))))) ?_
                refine Run.out X31 hx Bd.notSynchronized Bd.returns rfl (Or.inl ⟨rfl, by simp, _, rfl⟩) (hb hby d2_37) (by decide) (by decide) ?_
                rw [e31]
                exact ⟨by simp [own_run, own_s1, own_s2, own_s3, own_s4, hc15_21, hc26_24, hc15_25, hc26_28, hc15_29, hc26_32], N31, rfl⟩
              · refine Run.st (S' := T31.setTop (mkF m 37 #[.val (.ref a0), .val (.int (1 : Int32)), .val (.int p2), .val (.int (FKey v1)), .val (.int (4 : Int32))] [(.int (4 : Int32))])) (fun _ k => XS.icmpYes X31.here hx rfl (pc0 := 26) (pc' := 35) rfl (hb hby d2_26) rfl (feq hc26_32).2 (by decide) (by decide) (XS.iload X31.here hx rfl (hb hby d2_35) rfl k)) ?_
                refine Run.out X31 hx Bd.notSynchronized Bd.returns rfl (Or.inl ⟨rfl, by simp, _, rfl⟩) (hb hby d2_37) (by decide) (by decide) ?_
                rw [e31]
                exact ⟨by simp [own_run, own_s1, own_s2, own_s3, own_s4, hc15_21, hc26_24, hc15_25, hc26_28, hc15_29, hc26_32], N31, rfl⟩
            · refine Run.st (S' := T27.setTop (mkF m 37 #[.val (.ref a0), .val (.int (1 : Int32)), .val (.int p2), .val (.int (FKey v1)), .val (.int (4 : Int32))] [(.int (4 : Int32))])) (fun _ k => XS.icmpYes X27.here hx rfl (pc0 := 15) (pc' := 35) rfl (hb hby d2_15) rfl (flt hc15_29).2.1 (by decide) (by decide) (XS.iload X27.here hx rfl (hb hby d2_35) rfl k)) ?_
              refine Run.out X27 hx Bd.notSynchronized Bd.returns rfl (Or.inl ⟨rfl, by simp, _, rfl⟩) (hb hby d2_37) (by decide) (by decide) ?_
              rw [e27]
              exact ⟨by simp [own_run, own_s1, own_s2, own_s3, own_s4, hc15_21, hc26_24, hc15_25, hc26_28, hc15_29], N27, rfl⟩
          · refine Run.st (S' := T27.setTop (mkF m 37 #[.val (.ref a0), .val (.int (1 : Int32)), .val (.int p2), .val (.int (FKey v1)), .val (.int (3 : Int32))] [(.int (3 : Int32))])) (fun _ k => XS.icmpYes X27.here hx rfl (pc0 := 26) (pc' := 35) rfl (hb hby d2_26) rfl (feq hc26_28).2 (by decide) (by decide) (XS.iload X27.here hx rfl (hb hby d2_35) rfl k)) ?_
            refine Run.out X27 hx Bd.notSynchronized Bd.returns rfl (Or.inl ⟨rfl, by simp, _, rfl⟩) (hb hby d2_37) (by decide) (by decide) ?_
            rw [e27]
            exact ⟨by simp [own_run, own_s1, own_s2, own_s3, own_s4, hc15_21, hc26_24, hc15_25, hc26_28], N27, rfl⟩
        · refine Run.st (S' := T23.setTop (mkF m 37 #[.val (.ref a0), .val (.int (1 : Int32)), .val (.int p2), .val (.int (FKey v1)), .val (.int (3 : Int32))] [(.int (3 : Int32))])) (fun _ k => XS.icmpYes X23.here hx rfl (pc0 := 15) (pc' := 35) rfl (hb hby d2_15) rfl (flt hc15_25).2.1 (by decide) (by decide) (XS.iload X23.here hx rfl (hb hby d2_35) rfl k)) ?_
          refine Run.out X23 hx Bd.notSynchronized Bd.returns rfl (Or.inl ⟨rfl, by simp, _, rfl⟩) (hb hby d2_37) (by decide) (by decide) ?_
          rw [e23]
          exact ⟨by simp [own_run, own_s1, own_s2, own_s3, own_s4, hc15_21, hc26_24, hc15_25], N23, rfl⟩
      · refine Run.st (S' := T23.setTop (mkF m 37 #[.val (.ref a0), .val (.int (1 : Int32)), .val (.int p2), .val (.int (FKey v1)), .val (.int (2 : Int32))] [(.int (2 : Int32))])) (fun _ k => XS.icmpYes X23.here hx rfl (pc0 := 26) (pc' := 35) rfl (hb hby d2_26) rfl (feq hc26_24).2 (by decide) (by decide) (XS.iload X23.here hx rfl (hb hby d2_35) rfl k)) ?_
        refine Run.out X23 hx Bd.notSynchronized Bd.returns rfl (Or.inl ⟨rfl, by simp, _, rfl⟩) (hb hby d2_37) (by decide) (by decide) ?_
        rw [e23]
        exact ⟨by simp [own_run, own_s1, own_s2, own_s3, own_s4, hc15_21, hc26_24], N23, rfl⟩
    · refine Run.st (S' := T20.setTop (mkF m 37 #[.val (.ref a0), .val (.int (1 : Int32)), .val (.int p2), .val (.int (FKey v1)), .val (.int (2 : Int32))] [(.int (2 : Int32))])) (fun _ k => XS.icmpYes X20.here hx rfl (pc0 := 15) (pc' := 35) rfl (hb hby d2_15) rfl (flt hc15_21).2.1 (by decide) (by decide) (XS.iload X20.here hx rfl (hb hby d2_35) rfl k)) ?_
      refine Run.out X20 hx Bd.notSynchronized Bd.returns rfl (Or.inl ⟨rfl, by simp, _, rfl⟩) (hb hby d2_37) (by decide) (by decide) ?_
      rw [e20]
      exact ⟨by simp [own_run, own_s1, own_s2, own_s3, own_s4, hc15_21], N20, rfl⟩
  · refine Run.st (S' := s₁.setTop (mkF m 2 #[.val (.ref a0), .val (.int (2 : Int32)), .val (.int p2), .unset, .unset] [(.int (2 : Int32)), (.ref a0)])) (fun _ k => XS.aloadN X0.here hx rfl (hb hby d2_0) rfl rfl (XS.iloadN X0.here hx rfl (hb hby d2_1) rfl k)) ?_
    obtain ⟨cl33, Ar33, qa33, Sa33, Na33, Ha33, Ga33⟩ := id V_a0
    have hin33 : ¬ ((2 : Int32) < 0 ∨ cl33.slots.size ≤ ((2 : Int32)).toNatClampNeg) := inb_of Sa33 ⟨by decide, by decide⟩
    have hat33 : cl33.slots[((2 : Int32)).toNatClampNeg]? = some (.long v2) := Has.at Ha33 hin33 rfl
    refine Run.st (S' := s₁.setTop (mkF m 3 #[.val (.ref a0), .val (.int (2 : Int32)), .val (.int p2), .unset, .unset] [(.long v2)])) (fun _ k => X0.laload hx (j := (2 : Int32)) (v := (.long v2)) (by rw [e0]; exact Ar33.1) (State.isArrayOf_alike hZ.alike Ar33.2.1) Ar33.2.2 hin33 hat33 (g := (mkF m 2 #[.val (.ref a0), .val (.int (2 : Int32)), .val (.int p2), .unset, .unset] [(.int (2 : Int32)), (.ref a0)])) rfl rfl (hb hby d2_2) _ k) ?_
    obtain ⟨_, _, ⟨T34, L34, k34, n34⟩, -, X34, ⟨Lc34, hQ34, l34, y34, z34⟩, st34⟩ := Jvm.LawKit.callS X0 hx (y := (⟨"org/succession/Places", "key", "(J)I"⟩ : MethodName)) hown (mvT hZ (hw _ (List.mem_of_getElem? (i := 12) rfl))) (mvT hZ (hw _ (List.mem_of_getElem? (i := 13) rfl))) (mvT hZ (hw _ (List.mem_of_getElem? (i := 10) rfl))) (mvT hZ (hw _ (List.mem_of_getElem? (i := 14) rfl))) (by decide) (backOf (W := 0) (rmKey l Z aV hw [] v2 h0 n0 Zn ) hZ (hw _ (List.mem_of_getElem? (i := 14) rfl)) (hw _ (List.mem_of_getElem? (i := 10) rfl)) (by decide) (by decide)) (g := (mkF m 3 #[.val (.ref a0), .val (.int (2 : Int32)), .val (.int p2), .unset, .unset] [(.long v2)])) rfl (by rw [hml]; rfl) (argsL := [(.long v2)]) (rest := []) (lenOf pd_0 rfl) rfl (by show 2 * 0 + _ ≤ _; exact Nat.le_of_eq rfl) (hb hby d2_3) (fun _ _ => ⟨rfl, e0, (by decide : 0 + 0 ≤ _), (by decide : 0 + 0 ≤ _)⟩)
    dsimp only [Pt.U, Pt.locs, Pt.cells, Pt.slots] at X34 l34 y34 z34 st34 hQ34
    subst l34 y34 z34
    obtain ⟨rfl, N34q, e34⟩ := hQ34
    have N34 := Fr.app N0 N34q
    refine Run.st (S' := T34.setTop (mkF m 15 #[.val (.ref a0), .val (.int (2 : Int32)), .val (.int p2), .val (.int (FKey v2)), .val (.int (3 : Int32))] [(.int p2), (.int (3 : Int32))])) (fun _ k => st34 _ (XS.istoreN X34.here hx rfl (hb hby d2_6) rfl (l' := #[.val (.ref a0), .val (.int (2 : Int32)), .val (.int p2), .val (.int (FKey v2)), .unset]) rfl (XS.iloadN X34.here hx rfl (hb hby d2_7) rfl (XS.iconst X34.here hx rfl (hb hby d2_8) (XS.iadd X34.here hx rfl (hb hby d2_9) rfl (XS.istore X34.here hx rfl (hb hby d2_10) rfl (l' := #[.val (.ref a0), .val (.int (2 : Int32)), .val (.int p2), .val (.int (FKey v2)), .val (.int (3 : Int32))]) rfl (XS.iload X34.here hx rfl (hb hby d2_12) rfl (XS.iloadN X34.here hx rfl (hb hby d2_14) rfl k)))))))) ?_
    by_cases hc15_35 : (3 : Int32) < p2
    · refine Run.st (S' := T34.setTop (mkF m 21 #[.val (.ref a0), .val (.int (2 : Int32)), .val (.int p2), .val (.int (FKey v2)), .val (.int (3 : Int32))] [(.int (3 : Int32)), (.ref a0)])) (fun _ k => XS.icmpNo X34.here hx rfl (hb hby d2_15) rfl (tlt hc15_35).2.1 (XS.aloadN X34.here hx rfl (hb hby d2_18) rfl rfl (XS.iload X34.here hx rfl (hb hby d2_19) rfl k))) ?_
      obtain ⟨cl36, Ar36, qa36, Sa36, Na36, Ha36, Ga36⟩ := id V_a0
      have hin36 : ¬ ((3 : Int32) < 0 ∨ cl36.slots.size ≤ ((3 : Int32)).toNatClampNeg) := inb_of Sa36 ⟨by decide, by decide⟩
      have hat36 : cl36.slots[((3 : Int32)).toNatClampNeg]? = some (.long v3) := Has.at Ha36 hin36 rfl
      refine Run.st (S' := T34.setTop (mkF m 22 #[.val (.ref a0), .val (.int (2 : Int32)), .val (.int p2), .val (.int (FKey v2)), .val (.int (3 : Int32))] [(.long v3)])) (fun _ k => X34.laload hx (j := (3 : Int32)) (v := (.long v3)) (by rw [e34]; exact Ar36.1) (State.isArrayOf_alike hZ.alike Ar36.2.1) Ar36.2.2 hin36 hat36 (g := (mkF m 21 #[.val (.ref a0), .val (.int (2 : Int32)), .val (.int p2), .val (.int (FKey v2)), .val (.int (3 : Int32))] [(.int (3 : Int32)), (.ref a0)])) rfl rfl (hb hby d2_21) _ k) ?_
      obtain ⟨_, _, ⟨T37, L37, k37, n37⟩, -, X37, ⟨Lc37, hQ37, l37, y37, z37⟩, st37⟩ := Jvm.LawKit.callS X34 hx (y := (⟨"org/succession/Places", "key", "(J)I"⟩ : MethodName)) hown (mvT hZ (hw _ (List.mem_of_getElem? (i := 12) rfl))) (mvT hZ (hw _ (List.mem_of_getElem? (i := 13) rfl))) (mvT hZ (hw _ (List.mem_of_getElem? (i := 10) rfl))) (mvT hZ (hw _ (List.mem_of_getElem? (i := 14) rfl))) (by decide) (backOf (W := 0) (rmKey l Z aV hw [] v3 h0 n0 Zn ) hZ (hw _ (List.mem_of_getElem? (i := 14) rfl)) (hw _ (List.mem_of_getElem? (i := 10) rfl)) (by decide) (by decide)) (g := (mkF m 22 #[.val (.ref a0), .val (.int (2 : Int32)), .val (.int p2), .val (.int (FKey v2)), .val (.int (3 : Int32))] [(.long v3)])) rfl (by rw [hml]; rfl) (argsL := [(.long v3)]) (rest := []) (lenOf pd_0 rfl) rfl (by show 2 * 0 + _ ≤ _; exact Nat.le_of_eq rfl) (hb hby d2_22) (fun _ _ => ⟨rfl, e34, (by decide : 0 + 0 ≤ _), (by decide : 0 + 0 ≤ _)⟩)
      dsimp only [Pt.U, Pt.locs, Pt.cells, Pt.slots] at X37 l37 y37 z37 st37 hQ37
      subst l37 y37 z37
      obtain ⟨rfl, N37q, e37⟩ := hQ37
      have N37 := Fr.app N34 N37q
      refine Run.st (S' := T37.setTop (mkF m 26 #[.val (.ref a0), .val (.int (2 : Int32)), .val (.int p2), .val (.int (FKey v2)), .val (.int (3 : Int32))] [(.int (FKey v2)), (.int (FKey v3))])) (fun _ k => st37 _ (XS.iloadN X37.here hx rfl (hb hby d2_25) rfl k)) ?_
      by_cases hc26_38 : (FKey v3) = (FKey v2)
      · refine Run.st (S' := T37.setTop (mkF m 15 #[.val (.ref a0), .val (.int (2 : Int32)), .val (.int p2), .val (.int (FKey v2)), .val (.int (4 : Int32))] [(.int p2), (.int (4 : Int32))])) (fun _ k => XS.icmpNo X37.here hx rfl (hb hby d2_26) rfl (teq hc26_38).2 (XS.iinc X37.here hx rfl (hb hby d2_29) rfl (l' := #[.val (.ref a0), .val (.int (2 : Int32)), .val (.int p2), .val (.int (FKey v2)), .val (.int (4 : Int32))]) rfl (XS.goto X37.here hx rfl (pc0 := 32) (pc' := 12) rfl (hb hby d2_32) (by decide) (by decide) (XS.iload X37.here hx rfl (hb hby d2_12) rfl (XS.iloadN X37.here hx rfl (hb hby d2_14) rfl k))))) ?_
        by_cases hc15_39 : (4 : Int32) < p2
        · refine Run.st (S' := T37.setTop (mkF m 21 #[.val (.ref a0), .val (.int (2 : Int32)), .val (.int p2), .val (.int (FKey v2)), .val (.int (4 : Int32))] [(.int (4 : Int32)), (.ref a0)])) (fun _ k => XS.icmpNo X37.here hx rfl (hb hby d2_15) rfl (tlt hc15_39).2.1 (XS.aloadN X37.here hx rfl (hb hby d2_18) rfl rfl (XS.iload X37.here hx rfl (hb hby d2_19) rfl k))) ?_
          obtain ⟨cl40, Ar40, qa40, Sa40, Na40, Ha40, Ga40⟩ := id V_a0
          have hin40 : ¬ ((4 : Int32) < 0 ∨ cl40.slots.size ≤ ((4 : Int32)).toNatClampNeg) := inb_of Sa40 ⟨by decide, by decide⟩
          have hat40 : cl40.slots[((4 : Int32)).toNatClampNeg]? = some (.long v4) := Has.at Ha40 hin40 rfl
          refine Run.st (S' := T37.setTop (mkF m 22 #[.val (.ref a0), .val (.int (2 : Int32)), .val (.int p2), .val (.int (FKey v2)), .val (.int (4 : Int32))] [(.long v4)])) (fun _ k => X37.laload hx (j := (4 : Int32)) (v := (.long v4)) (by rw [e37]; exact Ar40.1) (State.isArrayOf_alike hZ.alike Ar40.2.1) Ar40.2.2 hin40 hat40 (g := (mkF m 21 #[.val (.ref a0), .val (.int (2 : Int32)), .val (.int p2), .val (.int (FKey v2)), .val (.int (4 : Int32))] [(.int (4 : Int32)), (.ref a0)])) rfl rfl (hb hby d2_21) _ k) ?_
          obtain ⟨_, _, ⟨T41, L41, k41, n41⟩, -, X41, ⟨Lc41, hQ41, l41, y41, z41⟩, st41⟩ := Jvm.LawKit.callS X37 hx (y := (⟨"org/succession/Places", "key", "(J)I"⟩ : MethodName)) hown (mvT hZ (hw _ (List.mem_of_getElem? (i := 12) rfl))) (mvT hZ (hw _ (List.mem_of_getElem? (i := 13) rfl))) (mvT hZ (hw _ (List.mem_of_getElem? (i := 10) rfl))) (mvT hZ (hw _ (List.mem_of_getElem? (i := 14) rfl))) (by decide) (backOf (W := 0) (rmKey l Z aV hw [] v4 h0 n0 Zn ) hZ (hw _ (List.mem_of_getElem? (i := 14) rfl)) (hw _ (List.mem_of_getElem? (i := 10) rfl)) (by decide) (by decide)) (g := (mkF m 22 #[.val (.ref a0), .val (.int (2 : Int32)), .val (.int p2), .val (.int (FKey v2)), .val (.int (4 : Int32))] [(.long v4)])) rfl (by rw [hml]; rfl) (argsL := [(.long v4)]) (rest := []) (lenOf pd_0 rfl) rfl (by show 2 * 0 + _ ≤ _; exact Nat.le_of_eq rfl) (hb hby d2_22) (fun _ _ => ⟨rfl, e37, (by decide : 0 + 0 ≤ _), (by decide : 0 + 0 ≤ _)⟩)
          dsimp only [Pt.U, Pt.locs, Pt.cells, Pt.slots] at X41 l41 y41 z41 st41 hQ41
          subst l41 y41 z41
          obtain ⟨rfl, N41q, e41⟩ := hQ41
          have N41 := Fr.app N37 N41q
          refine Run.st (S' := T41.setTop (mkF m 26 #[.val (.ref a0), .val (.int (2 : Int32)), .val (.int p2), .val (.int (FKey v2)), .val (.int (4 : Int32))] [(.int (FKey v2)), (.int (FKey v4))])) (fun _ k => st41 _ (XS.iloadN X41.here hx rfl (hb hby d2_25) rfl k)) ?_
          by_cases hc26_42 : (FKey v4) = (FKey v2)
          · refine Run.st (S' := T41.setTop (mkF m 37 #[.val (.ref a0), .val (.int (2 : Int32)), .val (.int p2), .val (.int (FKey v2)), .val (.int (5 : Int32))] [(.int (5 : Int32))])) (fun _ k => XS.icmpNo X41.here hx rfl (hb hby d2_26) rfl (teq hc26_42).2 (XS.iinc X41.here hx rfl (hb hby d2_29) rfl (l' := #[.val (.ref a0), .val (.int (2 : Int32)), .val (.int p2), .val (.int (FKey v2)), .val (.int (5 : Int32))]) rfl (XS.goto X41.here hx rfl (pc0 := 32) (pc' := 12) rfl (hb hby d2_32) (by decide) (by decide) (XS.iload X41.here hx rfl (hb hby d2_12) rfl (XS.iloadN X41.here hx rfl (hb hby d2_14) rfl (XS.icmpYes X41.here hx rfl (pc0 := 15) (pc' := 35) rfl (hb hby d2_15) rfl (flt (show ¬ ((5 : Int32) < p2) from (own_le5 hen))).2.1 (by decide) (by decide) (XS.iload X41.here hx rfl (hb hby d2_35) rfl k))))))) ?_
            refine Run.out X41 hx Bd.notSynchronized Bd.returns rfl (Or.inl ⟨rfl, by simp, _, rfl⟩) (hb hby d2_37) (by decide) (by decide) ?_
            rw [e41]
            exact ⟨by simp [own_run, own_s1, own_s2, own_s3, own_s4, hc15_35, hc26_38, hc15_39, hc26_42], N41, rfl⟩
          · refine Run.st (S' := T41.setTop (mkF m 37 #[.val (.ref a0), .val (.int (2 : Int32)), .val (.int p2), .val (.int (FKey v2)), .val (.int (4 : Int32))] [(.int (4 : Int32))])) (fun _ k => XS.icmpYes X41.here hx rfl (pc0 := 26) (pc' := 35) rfl (hb hby d2_26) rfl (feq hc26_42).2 (by decide) (by decide) (XS.iload X41.here hx rfl (hb hby d2_35) rfl k)) ?_
            refine Run.out X41 hx Bd.notSynchronized Bd.returns rfl (Or.inl ⟨rfl, by simp, _, rfl⟩) (hb hby d2_37) (by decide) (by decide) ?_
            rw [e41]
            exact ⟨by simp [own_run, own_s1, own_s2, own_s3, own_s4, hc15_35, hc26_38, hc15_39, hc26_42], N41, rfl⟩
        · refine Run.st (S' := T37.setTop (mkF m 37 #[.val (.ref a0), .val (.int (2 : Int32)), .val (.int p2), .val (.int (FKey v2)), .val (.int (4 : Int32))] [(.int (4 : Int32))])) (fun _ k => XS.icmpYes X37.here hx rfl (pc0 := 15) (pc' := 35) rfl (hb hby d2_15) rfl (flt hc15_39).2.1 (by decide) (by decide) (XS.iload X37.here hx rfl (hb hby d2_35) rfl k)) ?_
          refine Run.out X37 hx Bd.notSynchronized Bd.returns rfl (Or.inl ⟨rfl, by simp, _, rfl⟩) (hb hby d2_37) (by decide) (by decide) ?_
          rw [e37]
          exact ⟨by simp [own_run, own_s1, own_s2, own_s3, own_s4, hc15_35, hc26_38, hc15_39], N37, rfl⟩
      · refine Run.st (S' := T37.setTop (mkF m 37 #[.val (.ref a0), .val (.int (2 : Int32)), .val (.int p2), .val (.int (FKey v2)), .val (.int (3 : Int32))] [(.int (3 : Int32))])) (fun _ k => XS.icmpYes X37.here hx rfl (pc0 := 26) (pc' := 35) rfl (hb hby d2_26) rfl (feq hc26_38).2 (by decide) (by decide) (XS.iload X37.here hx rfl (hb hby d2_35) rfl k)) ?_
        refine Run.out X37 hx Bd.notSynchronized Bd.returns rfl (Or.inl ⟨rfl, by simp, _, rfl⟩) (hb hby d2_37) (by decide) (by decide) ?_
        rw [e37]
        exact ⟨by simp [own_run, own_s1, own_s2, own_s3, own_s4, hc15_35, hc26_38], N37, rfl⟩
    · refine Run.st (S' := T34.setTop (mkF m 37 #[.val (.ref a0), .val (.int (2 : Int32)), .val (.int p2), .val (.int (FKey v2)), .val (.int (3 : Int32))] [(.int (3 : Int32))])) (fun _ k => XS.icmpYes X34.here hx rfl (pc0 := 15) (pc' := 35) rfl (hb hby d2_15) rfl (flt hc15_35).2.1 (by decide) (by decide) (XS.iload X34.here hx rfl (hb hby d2_35) rfl k)) ?_
      refine Run.out X34 hx Bd.notSynchronized Bd.returns rfl (Or.inl ⟨rfl, by simp, _, rfl⟩) (hb hby d2_37) (by decide) (by decide) ?_
      rw [e34]
      exact ⟨by simp [own_run, own_s1, own_s2, own_s3, own_s4, hc15_35], N34, rfl⟩
  · refine Run.st (S' := s₁.setTop (mkF m 2 #[.val (.ref a0), .val (.int (3 : Int32)), .val (.int p2), .unset, .unset] [(.int (3 : Int32)), (.ref a0)])) (fun _ k => XS.aloadN X0.here hx rfl (hb hby d2_0) rfl rfl (XS.iloadN X0.here hx rfl (hb hby d2_1) rfl k)) ?_
    obtain ⟨cl43, Ar43, qa43, Sa43, Na43, Ha43, Ga43⟩ := id V_a0
    have hin43 : ¬ ((3 : Int32) < 0 ∨ cl43.slots.size ≤ ((3 : Int32)).toNatClampNeg) := inb_of Sa43 ⟨by decide, by decide⟩
    have hat43 : cl43.slots[((3 : Int32)).toNatClampNeg]? = some (.long v3) := Has.at Ha43 hin43 rfl
    refine Run.st (S' := s₁.setTop (mkF m 3 #[.val (.ref a0), .val (.int (3 : Int32)), .val (.int p2), .unset, .unset] [(.long v3)])) (fun _ k => X0.laload hx (j := (3 : Int32)) (v := (.long v3)) (by rw [e0]; exact Ar43.1) (State.isArrayOf_alike hZ.alike Ar43.2.1) Ar43.2.2 hin43 hat43 (g := (mkF m 2 #[.val (.ref a0), .val (.int (3 : Int32)), .val (.int p2), .unset, .unset] [(.int (3 : Int32)), (.ref a0)])) rfl rfl (hb hby d2_2) _ k) ?_
    obtain ⟨_, _, ⟨T44, L44, k44, n44⟩, -, X44, ⟨Lc44, hQ44, l44, y44, z44⟩, st44⟩ := Jvm.LawKit.callS X0 hx (y := (⟨"org/succession/Places", "key", "(J)I"⟩ : MethodName)) hown (mvT hZ (hw _ (List.mem_of_getElem? (i := 12) rfl))) (mvT hZ (hw _ (List.mem_of_getElem? (i := 13) rfl))) (mvT hZ (hw _ (List.mem_of_getElem? (i := 10) rfl))) (mvT hZ (hw _ (List.mem_of_getElem? (i := 14) rfl))) (by decide) (backOf (W := 0) (rmKey l Z aV hw [] v3 h0 n0 Zn ) hZ (hw _ (List.mem_of_getElem? (i := 14) rfl)) (hw _ (List.mem_of_getElem? (i := 10) rfl)) (by decide) (by decide)) (g := (mkF m 3 #[.val (.ref a0), .val (.int (3 : Int32)), .val (.int p2), .unset, .unset] [(.long v3)])) rfl (by rw [hml]; rfl) (argsL := [(.long v3)]) (rest := []) (lenOf pd_0 rfl) rfl (by show 2 * 0 + _ ≤ _; exact Nat.le_of_eq rfl) (hb hby d2_3) (fun _ _ => ⟨rfl, e0, (by decide : 0 + 0 ≤ _), (by decide : 0 + 0 ≤ _)⟩)
    dsimp only [Pt.U, Pt.locs, Pt.cells, Pt.slots] at X44 l44 y44 z44 st44 hQ44
    subst l44 y44 z44
    obtain ⟨rfl, N44q, e44⟩ := hQ44
    have N44 := Fr.app N0 N44q
    refine Run.st (S' := T44.setTop (mkF m 15 #[.val (.ref a0), .val (.int (3 : Int32)), .val (.int p2), .val (.int (FKey v3)), .val (.int (4 : Int32))] [(.int p2), (.int (4 : Int32))])) (fun _ k => st44 _ (XS.istoreN X44.here hx rfl (hb hby d2_6) rfl (l' := #[.val (.ref a0), .val (.int (3 : Int32)), .val (.int p2), .val (.int (FKey v3)), .unset]) rfl (XS.iloadN X44.here hx rfl (hb hby d2_7) rfl (XS.iconst X44.here hx rfl (hb hby d2_8) (XS.iadd X44.here hx rfl (hb hby d2_9) rfl (XS.istore X44.here hx rfl (hb hby d2_10) rfl (l' := #[.val (.ref a0), .val (.int (3 : Int32)), .val (.int p2), .val (.int (FKey v3)), .val (.int (4 : Int32))]) rfl (XS.iload X44.here hx rfl (hb hby d2_12) rfl (XS.iloadN X44.here hx rfl (hb hby d2_14) rfl k)))))))) ?_
    by_cases hc15_45 : (4 : Int32) < p2
    · refine Run.st (S' := T44.setTop (mkF m 21 #[.val (.ref a0), .val (.int (3 : Int32)), .val (.int p2), .val (.int (FKey v3)), .val (.int (4 : Int32))] [(.int (4 : Int32)), (.ref a0)])) (fun _ k => XS.icmpNo X44.here hx rfl (hb hby d2_15) rfl (tlt hc15_45).2.1 (XS.aloadN X44.here hx rfl (hb hby d2_18) rfl rfl (XS.iload X44.here hx rfl (hb hby d2_19) rfl k))) ?_
      obtain ⟨cl46, Ar46, qa46, Sa46, Na46, Ha46, Ga46⟩ := id V_a0
      have hin46 : ¬ ((4 : Int32) < 0 ∨ cl46.slots.size ≤ ((4 : Int32)).toNatClampNeg) := inb_of Sa46 ⟨by decide, by decide⟩
      have hat46 : cl46.slots[((4 : Int32)).toNatClampNeg]? = some (.long v4) := Has.at Ha46 hin46 rfl
      refine Run.st (S' := T44.setTop (mkF m 22 #[.val (.ref a0), .val (.int (3 : Int32)), .val (.int p2), .val (.int (FKey v3)), .val (.int (4 : Int32))] [(.long v4)])) (fun _ k => X44.laload hx (j := (4 : Int32)) (v := (.long v4)) (by rw [e44]; exact Ar46.1) (State.isArrayOf_alike hZ.alike Ar46.2.1) Ar46.2.2 hin46 hat46 (g := (mkF m 21 #[.val (.ref a0), .val (.int (3 : Int32)), .val (.int p2), .val (.int (FKey v3)), .val (.int (4 : Int32))] [(.int (4 : Int32)), (.ref a0)])) rfl rfl (hb hby d2_21) _ k) ?_
      obtain ⟨_, _, ⟨T47, L47, k47, n47⟩, -, X47, ⟨Lc47, hQ47, l47, y47, z47⟩, st47⟩ := Jvm.LawKit.callS X44 hx (y := (⟨"org/succession/Places", "key", "(J)I"⟩ : MethodName)) hown (mvT hZ (hw _ (List.mem_of_getElem? (i := 12) rfl))) (mvT hZ (hw _ (List.mem_of_getElem? (i := 13) rfl))) (mvT hZ (hw _ (List.mem_of_getElem? (i := 10) rfl))) (mvT hZ (hw _ (List.mem_of_getElem? (i := 14) rfl))) (by decide) (backOf (W := 0) (rmKey l Z aV hw [] v4 h0 n0 Zn ) hZ (hw _ (List.mem_of_getElem? (i := 14) rfl)) (hw _ (List.mem_of_getElem? (i := 10) rfl)) (by decide) (by decide)) (g := (mkF m 22 #[.val (.ref a0), .val (.int (3 : Int32)), .val (.int p2), .val (.int (FKey v3)), .val (.int (4 : Int32))] [(.long v4)])) rfl (by rw [hml]; rfl) (argsL := [(.long v4)]) (rest := []) (lenOf pd_0 rfl) rfl (by show 2 * 0 + _ ≤ _; exact Nat.le_of_eq rfl) (hb hby d2_22) (fun _ _ => ⟨rfl, e44, (by decide : 0 + 0 ≤ _), (by decide : 0 + 0 ≤ _)⟩)
      dsimp only [Pt.U, Pt.locs, Pt.cells, Pt.slots] at X47 l47 y47 z47 st47 hQ47
      subst l47 y47 z47
      obtain ⟨rfl, N47q, e47⟩ := hQ47
      have N47 := Fr.app N44 N47q
      refine Run.st (S' := T47.setTop (mkF m 26 #[.val (.ref a0), .val (.int (3 : Int32)), .val (.int p2), .val (.int (FKey v3)), .val (.int (4 : Int32))] [(.int (FKey v3)), (.int (FKey v4))])) (fun _ k => st47 _ (XS.iloadN X47.here hx rfl (hb hby d2_25) rfl k)) ?_
      by_cases hc26_48 : (FKey v4) = (FKey v3)
      · refine Run.st (S' := T47.setTop (mkF m 37 #[.val (.ref a0), .val (.int (3 : Int32)), .val (.int p2), .val (.int (FKey v3)), .val (.int (5 : Int32))] [(.int (5 : Int32))])) (fun _ k => XS.icmpNo X47.here hx rfl (hb hby d2_26) rfl (teq hc26_48).2 (XS.iinc X47.here hx rfl (hb hby d2_29) rfl (l' := #[.val (.ref a0), .val (.int (3 : Int32)), .val (.int p2), .val (.int (FKey v3)), .val (.int (5 : Int32))]) rfl (XS.goto X47.here hx rfl (pc0 := 32) (pc' := 12) rfl (hb hby d2_32) (by decide) (by decide) (XS.iload X47.here hx rfl (hb hby d2_12) rfl (XS.iloadN X47.here hx rfl (hb hby d2_14) rfl (XS.icmpYes X47.here hx rfl (pc0 := 15) (pc' := 35) rfl (hb hby d2_15) rfl (flt (show ¬ ((5 : Int32) < p2) from (own_le5 hen))).2.1 (by decide) (by decide) (XS.iload X47.here hx rfl (hb hby d2_35) rfl k))))))) ?_
        refine Run.out X47 hx Bd.notSynchronized Bd.returns rfl (Or.inl ⟨rfl, by simp, _, rfl⟩) (hb hby d2_37) (by decide) (by decide) ?_
        rw [e47]
        exact ⟨by simp [own_run, own_s1, own_s2, own_s3, own_s4, hc15_45, hc26_48], N47, rfl⟩
      · refine Run.st (S' := T47.setTop (mkF m 37 #[.val (.ref a0), .val (.int (3 : Int32)), .val (.int p2), .val (.int (FKey v3)), .val (.int (4 : Int32))] [(.int (4 : Int32))])) (fun _ k => XS.icmpYes X47.here hx rfl (pc0 := 26) (pc' := 35) rfl (hb hby d2_26) rfl (feq hc26_48).2 (by decide) (by decide) (XS.iload X47.here hx rfl (hb hby d2_35) rfl k)) ?_
        refine Run.out X47 hx Bd.notSynchronized Bd.returns rfl (Or.inl ⟨rfl, by simp, _, rfl⟩) (hb hby d2_37) (by decide) (by decide) ?_
        rw [e47]
        exact ⟨by simp [own_run, own_s1, own_s2, own_s3, own_s4, hc15_45, hc26_48], N47, rfl⟩
    · refine Run.st (S' := T44.setTop (mkF m 37 #[.val (.ref a0), .val (.int (3 : Int32)), .val (.int p2), .val (.int (FKey v3)), .val (.int (4 : Int32))] [(.int (4 : Int32))])) (fun _ k => XS.icmpYes X44.here hx rfl (pc0 := 15) (pc' := 35) rfl (hb hby d2_15) rfl (flt hc15_45).2.1 (by decide) (by decide) (XS.iload X44.here hx rfl (hb hby d2_35) rfl k)) ?_
      refine Run.out X44 hx Bd.notSynchronized Bd.returns rfl (Or.inl ⟨rfl, by simp, _, rfl⟩) (hb hby d2_37) (by decide) (by decide) ?_
      rw [e44]
      exact ⟨by simp [own_run, own_s1, own_s2, own_s3, own_s4, hc15_45], N44, rfl⟩
  · refine Run.st (S' := s₁.setTop (mkF m 2 #[.val (.ref a0), .val (.int (4 : Int32)), .val (.int p2), .unset, .unset] [(.int (4 : Int32)), (.ref a0)])) (fun _ k => XS.aloadN X0.here hx rfl (hb hby d2_0) rfl rfl (XS.iloadN X0.here hx rfl (hb hby d2_1) rfl k)) ?_
    obtain ⟨cl49, Ar49, qa49, Sa49, Na49, Ha49, Ga49⟩ := id V_a0
    have hin49 : ¬ ((4 : Int32) < 0 ∨ cl49.slots.size ≤ ((4 : Int32)).toNatClampNeg) := inb_of Sa49 ⟨by decide, by decide⟩
    have hat49 : cl49.slots[((4 : Int32)).toNatClampNeg]? = some (.long v4) := Has.at Ha49 hin49 rfl
    refine Run.st (S' := s₁.setTop (mkF m 3 #[.val (.ref a0), .val (.int (4 : Int32)), .val (.int p2), .unset, .unset] [(.long v4)])) (fun _ k => X0.laload hx (j := (4 : Int32)) (v := (.long v4)) (by rw [e0]; exact Ar49.1) (State.isArrayOf_alike hZ.alike Ar49.2.1) Ar49.2.2 hin49 hat49 (g := (mkF m 2 #[.val (.ref a0), .val (.int (4 : Int32)), .val (.int p2), .unset, .unset] [(.int (4 : Int32)), (.ref a0)])) rfl rfl (hb hby d2_2) _ k) ?_
    obtain ⟨_, _, ⟨T50, L50, k50, n50⟩, -, X50, ⟨Lc50, hQ50, l50, y50, z50⟩, st50⟩ := Jvm.LawKit.callS X0 hx (y := (⟨"org/succession/Places", "key", "(J)I"⟩ : MethodName)) hown (mvT hZ (hw _ (List.mem_of_getElem? (i := 12) rfl))) (mvT hZ (hw _ (List.mem_of_getElem? (i := 13) rfl))) (mvT hZ (hw _ (List.mem_of_getElem? (i := 10) rfl))) (mvT hZ (hw _ (List.mem_of_getElem? (i := 14) rfl))) (by decide) (backOf (W := 0) (rmKey l Z aV hw [] v4 h0 n0 Zn ) hZ (hw _ (List.mem_of_getElem? (i := 14) rfl)) (hw _ (List.mem_of_getElem? (i := 10) rfl)) (by decide) (by decide)) (g := (mkF m 3 #[.val (.ref a0), .val (.int (4 : Int32)), .val (.int p2), .unset, .unset] [(.long v4)])) rfl (by rw [hml]; rfl) (argsL := [(.long v4)]) (rest := []) (lenOf pd_0 rfl) rfl (by show 2 * 0 + _ ≤ _; exact Nat.le_of_eq rfl) (hb hby d2_3) (fun _ _ => ⟨rfl, e0, (by decide : 0 + 0 ≤ _), (by decide : 0 + 0 ≤ _)⟩)
    dsimp only [Pt.U, Pt.locs, Pt.cells, Pt.slots] at X50 l50 y50 z50 st50 hQ50
    subst l50 y50 z50
    obtain ⟨rfl, N50q, e50⟩ := hQ50
    have N50 := Fr.app N0 N50q
    refine Run.st (S' := T50.setTop (mkF m 15 #[.val (.ref a0), .val (.int (4 : Int32)), .val (.int p2), .val (.int (FKey v4)), .val (.int (5 : Int32))] [(.int p2), (.int (5 : Int32))])) (fun _ k => st50 _ (XS.istoreN X50.here hx rfl (hb hby d2_6) rfl (l' := #[.val (.ref a0), .val (.int (4 : Int32)), .val (.int p2), .val (.int (FKey v4)), .unset]) rfl (XS.iloadN X50.here hx rfl (hb hby d2_7) rfl (XS.iconst X50.here hx rfl (hb hby d2_8) (XS.iadd X50.here hx rfl (hb hby d2_9) rfl (XS.istore X50.here hx rfl (hb hby d2_10) rfl (l' := #[.val (.ref a0), .val (.int (4 : Int32)), .val (.int p2), .val (.int (FKey v4)), .val (.int (5 : Int32))]) rfl (XS.iload X50.here hx rfl (hb hby d2_12) rfl (XS.iloadN X50.here hx rfl (hb hby d2_14) rfl k)))))))) ?_
    refine Run.st (S' := T50.setTop (mkF m 37 #[.val (.ref a0), .val (.int (4 : Int32)), .val (.int p2), .val (.int (FKey v4)), .val (.int (5 : Int32))] [(.int (5 : Int32))])) (fun _ k => XS.icmpYes X50.here hx rfl (pc0 := 15) (pc' := 35) rfl (hb hby d2_15) rfl (flt (show ¬ ((5 : Int32) < p2) from (own_le5 hen))).2.1 (by decide) (by decide) (XS.iload X50.here hx rfl (hb hby d2_35) rfl k)) ?_
    refine Run.out X50 hx Bd.notSynchronized Bd.returns rfl (Or.inl ⟨rfl, by simp, _, rfl⟩) (hb hby d2_37) (by decide) (by decide) ?_
    rw [e50]
    exact ⟨by simp [own_run, own_s1, own_s2, own_s3, own_s4], N50, rfl⟩
theorem own_key (k m : Int32) : FKey (FPack k (m &&& (2147483647 : Int32))) = k := by
  unfold FKey FPack
  have e0 := c_mask m (2147483647 : Int32) 31 (by decide) (by decide)
  have r0 := rng32 k
  have r1 := rng32 m
  have e1 := c_i2l k
  have e2 := c_i2l (m &&& (2147483647 : Int32))
  have e3 := c_lshl k.toInt64 (32 : Int32) 32 (by decide)
  have r3 := rng64 (k.toInt64 <<< ((32 : Int32) &&& 0x3f).toInt64)
  have e4 := c_orL (k.toInt64 <<< ((32 : Int32) &&& 0x3f).toInt64) (m &&& (2147483647 : Int32)).toInt64 32 (by decide) 4294967296 (by decide) (by omega) (by omega) (by omega)
  have r4 := rng64 ((k.toInt64 <<< ((32 : Int32) &&& 0x3f).toInt64) ||| (m &&& (2147483647 : Int32)).toInt64)
  have e5 := c_lushr ((k.toInt64 <<< ((32 : Int32) &&& 0x3f).toInt64) ||| (m &&& (2147483647 : Int32)).toInt64) (32 : Int32) 32 (by decide) (by decide)
  have e6 := c_l2i (((((k.toInt64 <<< ((32 : Int32) &&& 0x3f).toInt64) ||| (m &&& (2147483647 : Int32)).toInt64).toUInt64 >>> ((32 : Int32) &&& 0x3f).toInt64.toUInt64).toInt64))
  have r6 := rng32 ((((((k.toInt64 <<< ((32 : Int32) &&& 0x3f).toInt64) ||| (m &&& (2147483647 : Int32)).toInt64).toUInt64 >>> ((32 : Int32) &&& 0x3f).toInt64.toUInt64).toInt64)).toInt32)
  apply Int32.toInt_inj.mp
  omega
theorem own_fin5 (b c1 c2 c3 c4 st en : Int32) (h : 0 ≤ st.toInt ∧ st.toInt < 5) (hen : st.toInt + 1 ≤ en.toInt ∧ en.toInt ≤ 5) : own_run (b + (0 : Int32)) (b + c1) (b + c2) (b + c3) (b + c4) st en = own_e (1 : Int32) c1 (own_pick (0 : Int32) c1 c2 c3 c4 st) st en (own_e (2 : Int32) c2 (own_pick (0 : Int32) c1 c2 c3 c4 st) st en (own_e (3 : Int32) c3 (own_pick (0 : Int32) c1 c2 c3 c4 st) st en (own_e (4 : Int32) c4 (own_pick (0 : Int32) c1 c2 c3 c4 st) st en en))) := by
  have h6 : en = (1 : Int32) ∨ en = (2 : Int32) ∨ en = (3 : Int32) ∨ en = (4 : Int32) ∨ en = (5 : Int32) := by
    simp only [← Int32.toInt_inj]
    have e1 : (1 : Int32).toInt = 1 := by decide
    have e2 : (2 : Int32).toInt = 2 := by decide
    have e3 : (3 : Int32).toInt = 3 := by decide
    have e4 : (4 : Int32).toInt = 4 := by decide
    have e5 : (5 : Int32).toInt = 5 := by decide
    omega
  have hc : ∀ x y : Int32, (b + x = b + y) = (x = y) := fun x y => by simp
  rcases own_c5 h with rfl | rfl | rfl | rfl | rfl <;> rcases h6 with rfl | rfl | rfl | rfl | rfl <;> first
    | (exfalso; revert hen; decide)
    | (simp only [own_run, own_pick, own_s1, own_s2, own_s3, own_s4, own_e, hc]; simp <;> (repeat' split) <;> simp_all)
theorem pd_1 : parseMethodDescriptor "(II)J" = some ⟨[.int, .int], some .long⟩ := by decide +kernel
theorem pd_2 : parseMethodDescriptor "([JII)I" = some ⟨[(.array .long), .int, .int], some .int⟩ := by decide +kernel
theorem ef_0 (m : MethodId) (p0 : Int32) (p1 : Int32) (p2 : Int32) (p3 : Int32) : entryFrame m #[(.int p0), (.int p1), (.int p2), (.int p3)] maxLocals = mkF m 0 #[.val (.int p0), .val (.int p1), .val (.int p2), .val (.int p3), .unset, .unset, .unset, .unset, .unset, .unset, .unset, .unset] [] := by first | (simp [entryFrame, mkF, argsToLocals, Value.category, maxLocals]; done) | rfl
def Q0 (Z : State) (p0 : Int32) (p1 : Int32) (p2 : Int32) (p3 : Int32) (h0 : Heap) (n0 : Nat) (v : Option Value) (h : Heap) (L : List Loc) : Prop := v = some (.int 1) ∧ Fr n0 L
set_option maxRecDepth 65536 in
set_option maxHeartbeats 40000000 in
theorem rm0 (l : Launch) (Z : State) (aV : Array Value) (hw : ∀ d ∈ tables_1, d.before aV Z = true) (ws : List Jvm.Cond) (p0 : Int32) (p1 : Int32) (p2 : Int32) (p3 : Int32) (h0 : Heap) (n0 : Nat) (Zn : n0 ≤ h0.size) :
    MetFree l x (head1 (Jvm.Cond.code x code maxLocals ret :: ws) room_1) (fun a U => a = #[(.int p0), (.int p1), (.int p2), (.int p3)] ∧ Z.Warmed39 U.vm ∧ U.heap = h0) (fun _ _ _ _ _ => True) (fun _ U o U' => ∃ v L, o = .returned v ∧ Q0 Z p0 p1 p2 p3 h0 n0 v U'.heap L ∧ FrameEnd U o U' L room_1.cells room_1.slots) := by
  refine MetFree.of_bodySF (plainFor_of_name pn_0) hisR ?_
  intro p e s m args below meth c s₁ Bd hml0 hP hK
  obtain ⟨rfl, hZ, hh⟩ := hP
  have hx := Bd.exec
  have hby := Bd.bytes
  have hml : c.maxLocals = 12 := hml0
  have hown : s.vm.findClass "org/succession/PlacesRunEndPinLaw" = some m.cls := findClass_of_methodNamed Bd.named
  have hnm := (name_of_methodNamed Bd.named Bd.method).1
  have X0 : Stand p l e room_1 s m #[(.int p0), (.int p1), (.int p2), (.int p3)] below meth c s₁ [] 0 0 := Stand.of_body Bd
  have e0 : s₁.heap = h0 := by rw [← hh, Bd.state]; rfl
  have N0 := Fr.nil n0
  have Kp := Keep.refl h0 []
  show Run p e below (Ends s (Q0 Z p0 p1 p2 p3 h0 n0) room_1.cells room_1.slots) _
  refine Run.st (S' := s₁.setTop (mkF m 0 #[.val (.int p0), .val (.int p1), .val (.int p2), .val (.int p3), .unset, .unset, .unset, .unset, .unset, .unset, .unset, .unset] [])) (fun t k => castTop (ef_0 m p0 p1 p2 p3) k) ?_
  refine Run.st (S' := s₁.setTop (mkF m 3 #[.val (.int p0), .val (.int p1), .val (.int p2), .val (.int p3), .val (.int p0), .unset, .unset, .unset, .unset, .unset, .unset, .unset] [])) (fun _ k => XS.iloadN X0.here hx rfl (hb hby at_0) rfl (XS.istore X0.here hx rfl (hb hby at_1) rfl (l' := #[.val (.int p0), .val (.int p1), .val (.int p2), .val (.int p3), .val (.int p0), .unset, .unset, .unset, .unset, .unset, .unset, .unset]) rfl k)) ?_
  have J16_1 : ∀ (b : Int32), True → Run p e below (Ends s (Q0 Z p0 p1 p2 p3 h0 n0) room_1.cells room_1.slots) (s₁.setTop (mkF m 16 #[.val (.int p0), .val (.int p1), .val (.int p2), .val (.int p3), .val (.int b), .unset, .unset, .unset, .unset, .unset, .unset, .unset] [])) := by
    intro b h_b
    refine Run.st (S' := s₁.setTop (mkF m 17 #[.val (.int p0), .val (.int p1), .val (.int p2), .val (.int p3), .val (.int b), .unset, .unset, .unset, .unset, .unset, .unset, .unset] [(.int (5 : Int32))])) (fun _ k => XS.iconst X0.here hx rfl (hb hby at_16) k) ?_
    obtain ⟨T2, h2, k2, X2, e2, E2, A2, st2⟩ := newP X0 hx hZ (hw _ (List.mem_of_getElem? (i := 1) rfl)) e0 (g := (mkF m 17 #[.val (.int p0), .val (.int p1), .val (.int p2), .val (.int p3), .val (.int b), .unset, .unset, .unset, .unset, .unset, .unset, .unset] [(.int (5 : Int32))])) rfl (hb hby at_17) rfl (by decide) (cap := 5) (by decide) (by decide) (by decide) (by decide)
    obtain ⟨b2, g2⟩ : ∃ z, z = h0.size := ⟨_, rfl⟩
    rw [← g2] at A2 st2
    have g_b2 : n0 ≤ b2 := Nat.le_trans Zn (Nat.le_of_eq g2.symm)
    have Zn := Nat.le_trans Zn E2.1
    have sz_b2 : h0.size ≤ b2 := Nat.le_trans Kp.1 (Nat.le_of_eq g2.symm)
    have Kp := Kp.ext E2
    have V_b2 : Arv Z h2 b2 k2 .int (5 : Int32) [(.int (0 : Int32)), (.int (0 : Int32)), (.int (0 : Int32)), (.int (0 : Int32)), (.int (0 : Int32))] (.int (0 : Int32)) := (Arv.new A2 (by decide)).pad (pad_rep [] (.int (0 : Int32)) 5)
    refine Run.st (S' := T2.setTop (mkF m 25 #[.val (.int p0), .val (.int p1), .val (.int p2), .val (.int p3), .val (.int b), .val (.ref b2), .unset, .unset, .unset, .unset, .unset, .unset] [(.int (0 : Int32)), (.int (0 : Int32)), (.ref b2)])) (fun _ k => st2 _ (XS.astore X2.here hx rfl (hb hby at_19) rfl rfl (l' := #[.val (.int p0), .val (.int p1), .val (.int p2), .val (.int p3), .val (.int b), .val (.ref b2), .unset, .unset, .unset, .unset, .unset, .unset]) rfl (XS.aload X2.here hx rfl (hb hby at_21) rfl rfl (XS.iconst X2.here hx rfl (hb hby at_23) (XS.iconst X2.here hx rfl (hb hby at_24) k))))) ?_
    obtain ⟨cl3, Ar3, qa3, Sa3, Na3, Ha3, Ga3⟩ := V_b2
    have hin3 : ¬ ((0 : Int32) < 0 ∨ cl3.slots.size ≤ ((0 : Int32)).toNatClampNeg) := inb_of Sa3 ⟨by decide, by decide⟩
    obtain ⟨T3, h3, X3, e3, W3, st3⟩ := stI X2 hx hZ e2 Ar3 (j := (0 : Int32)) hin3 (g := (mkF m 25 #[.val (.int p0), .val (.int p1), .val (.int p2), .val (.int p3), .val (.int b), .val (.ref b2), .unset, .unset, .unset, .unset, .unset, .unset] [(.int (0 : Int32)), (.int (0 : Int32)), (.ref b2)])) rfl rfl (hb hby at_25)
    have V_b2 := Arv.set Ar3 qa3 Sa3 Na3 Ha3 Ga3 rfl W3 0 rfl (Nat.le_of_ble_eq_true rfl)
    have V_b2 : Arv Z h3 b2 k2 .int (5 : Int32) [(.int (0 : Int32)), (.int (0 : Int32)), (.int (0 : Int32)), (.int (0 : Int32)), (.int (0 : Int32))] (.int (0 : Int32)) := V_b2
    have N3 := Fr.snoc X3 N0 g_b2
    have Kp := Kp.wr W3 (Or.inr sz_b2)
    have Zn := Nat.le_trans Zn (Nat.le_of_eq W3.size.symm)
    refine Run.st (S' := T3.setTop (mkF m 32 #[.val (.int p0), .val (.int p1), .val (.int p2), .val (.int p3), .val (.int b), .val (.ref b2), .unset, .unset, .unset, .unset, .unset, .unset] [(.int (0 : Int32)), (.ref b2), (.int (1 : Int32)), (.ref b2)])) (fun _ k => st3 _ (XS.aload X3.here hx rfl (hb hby at_26) rfl rfl (XS.iconst X3.here hx rfl (hb hby at_28) (XS.aload X3.here hx rfl (hb hby at_29) rfl rfl (XS.iconst X3.here hx rfl (hb hby at_31) k))))) ?_
    obtain ⟨cl4, Ar4, qa4, Sa4, Na4, Ha4, Ga4⟩ := id V_b2
    have hin4 : ¬ ((0 : Int32) < 0 ∨ cl4.slots.size ≤ ((0 : Int32)).toNatClampNeg) := inb_of Sa4 ⟨by decide, by decide⟩
    have hat4 : cl4.slots[((0 : Int32)).toNatClampNeg]? = some (.int (0 : Int32)) := Has.at Ha4 hin4 rfl
    refine Run.st (S' := T3.setTop (mkF m 37 #[.val (.int p0), .val (.int p1), .val (.int p2), .val (.int p3), .val (.int b), .val (.ref b2), .unset, .unset, .unset, .unset, .unset, .unset] [(.int ((0 : Int32) + (p1 &&& (1 : Int32)))), (.int (1 : Int32)), (.ref b2)])) (fun _ k => X3.iaload hx (j := (0 : Int32)) (v := (.int (0 : Int32))) (by rw [e3]; exact Ar4.1) (State.isArrayOf_alike hZ.alike Ar4.2.1) Ar4.2.2 hin4 hat4 (g := (mkF m 32 #[.val (.int p0), .val (.int p1), .val (.int p2), .val (.int p3), .val (.int b), .val (.ref b2), .unset, .unset, .unset, .unset, .unset, .unset] [(.int (0 : Int32)), (.ref b2), (.int (1 : Int32)), (.ref b2)])) rfl rfl (hb hby at_32) _ (XS.iloadN X3.here hx rfl (hb hby at_33) rfl (XS.iconst X3.here hx rfl (hb hby at_34) (XS.iand X3.here hx rfl (hb hby at_35) rfl (XS.iadd X3.here hx rfl (hb hby at_36) rfl k))))) ?_
    obtain ⟨cl5, Ar5, qa5, Sa5, Na5, Ha5, Ga5⟩ := V_b2
    have hin5 : ¬ ((1 : Int32) < 0 ∨ cl5.slots.size ≤ ((1 : Int32)).toNatClampNeg) := inb_of Sa5 ⟨by decide, by decide⟩
    obtain ⟨T5, h5, X5, e5, W5, st5⟩ := stI X3 hx hZ e3 Ar5 (j := (1 : Int32)) hin5 (g := (mkF m 37 #[.val (.int p0), .val (.int p1), .val (.int p2), .val (.int p3), .val (.int b), .val (.ref b2), .unset, .unset, .unset, .unset, .unset, .unset] [(.int ((0 : Int32) + (p1 &&& (1 : Int32)))), (.int (1 : Int32)), (.ref b2)])) rfl rfl (hb hby at_37)
    have V_b2 := Arv.set Ar5 qa5 Sa5 Na5 Ha5 Ga5 rfl W5 1 rfl (Nat.le_of_ble_eq_true rfl)
    have V_b2 : Arv Z h5 b2 k2 .int (5 : Int32) [(.int (0 : Int32)), (.int ((0 : Int32) + (p1 &&& (1 : Int32)))), (.int (0 : Int32)), (.int (0 : Int32)), (.int (0 : Int32))] (.int (0 : Int32)) := V_b2
    have N5 := Fr.snoc X5 N3 g_b2
    have Kp := Kp.wr W5 (Or.inr sz_b2)
    have Zn := Nat.le_trans Zn (Nat.le_of_eq W5.size.symm)
    refine Run.st (S' := T5.setTop (mkF m 38 #[.val (.int p0), .val (.int p1), .val (.int p2), .val (.int p3), .val (.int b), .val (.ref b2), .unset, .unset, .unset, .unset, .unset, .unset] [])) (fun _ k => st5 _ k) ?_
    obtain ⟨c1, ec1⟩ : ∃ z, z = ((0 : Int32) + (p1 &&& (1 : Int32))) := ⟨_, rfl⟩
    rw [← ec1] at V_b2
    refine Run.st (S' := T5.setTop (mkF m 44 #[.val (.int p0), .val (.int p1), .val (.int p2), .val (.int p3), .val (.int b), .val (.ref b2), .unset, .unset, .unset, .unset, .unset, .unset] [(.int (1 : Int32)), (.ref b2), (.int (2 : Int32)), (.ref b2)])) (fun _ k => XS.aload X5.here hx rfl (hb hby at_38) rfl rfl (XS.iconst X5.here hx rfl (hb hby at_40) (XS.aload X5.here hx rfl (hb hby at_41) rfl rfl (XS.iconst X5.here hx rfl (hb hby at_43) k)))) ?_
    obtain ⟨cl6, Ar6, qa6, Sa6, Na6, Ha6, Ga6⟩ := id V_b2
    have hin6 : ¬ ((1 : Int32) < 0 ∨ cl6.slots.size ≤ ((1 : Int32)).toNatClampNeg) := inb_of Sa6 ⟨by decide, by decide⟩
    have hat6 : cl6.slots[((1 : Int32)).toNatClampNeg]? = some (.int c1) := Has.at Ha6 hin6 rfl
    refine Run.st (S' := T5.setTop (mkF m 51 #[.val (.int p0), .val (.int p1), .val (.int p2), .val (.int p3), .val (.int b), .val (.ref b2), .unset, .unset, .unset, .unset, .unset, .unset] [(.int (c1 + ((p1 >>> ((1 : Int32) &&& 31)) &&& (1 : Int32)))), (.int (2 : Int32)), (.ref b2)])) (fun _ k => X5.iaload hx (j := (1 : Int32)) (v := (.int c1)) (by rw [e5]; exact Ar6.1) (State.isArrayOf_alike hZ.alike Ar6.2.1) Ar6.2.2 hin6 hat6 (g := (mkF m 44 #[.val (.int p0), .val (.int p1), .val (.int p2), .val (.int p3), .val (.int b), .val (.ref b2), .unset, .unset, .unset, .unset, .unset, .unset] [(.int (1 : Int32)), (.ref b2), (.int (2 : Int32)), (.ref b2)])) rfl rfl (hb hby at_44) _ (XS.iloadN X5.here hx rfl (hb hby at_45) rfl (XS.iconst X5.here hx rfl (hb hby at_46) (XS.ishr X5.here hx rfl (hb hby at_47) rfl (XS.iconst X5.here hx rfl (hb hby at_48) (XS.iand X5.here hx rfl (hb hby at_49) rfl (XS.iadd X5.here hx rfl (hb hby at_50) rfl k))))))) ?_
    obtain ⟨cl7, Ar7, qa7, Sa7, Na7, Ha7, Ga7⟩ := V_b2
    have hin7 : ¬ ((2 : Int32) < 0 ∨ cl7.slots.size ≤ ((2 : Int32)).toNatClampNeg) := inb_of Sa7 ⟨by decide, by decide⟩
    obtain ⟨T7, h7, X7, e7, W7, st7⟩ := stI X5 hx hZ e5 Ar7 (j := (2 : Int32)) hin7 (g := (mkF m 51 #[.val (.int p0), .val (.int p1), .val (.int p2), .val (.int p3), .val (.int b), .val (.ref b2), .unset, .unset, .unset, .unset, .unset, .unset] [(.int (c1 + ((p1 >>> ((1 : Int32) &&& 31)) &&& (1 : Int32)))), (.int (2 : Int32)), (.ref b2)])) rfl rfl (hb hby at_51)
    have V_b2 := Arv.set Ar7 qa7 Sa7 Na7 Ha7 Ga7 rfl W7 2 rfl (Nat.le_of_ble_eq_true rfl)
    have V_b2 : Arv Z h7 b2 k2 .int (5 : Int32) [(.int (0 : Int32)), (.int c1), (.int (c1 + ((p1 >>> ((1 : Int32) &&& 31)) &&& (1 : Int32)))), (.int (0 : Int32)), (.int (0 : Int32))] (.int (0 : Int32)) := V_b2
    have N7 := Fr.snoc X7 N5 g_b2
    have Kp := Kp.wr W7 (Or.inr sz_b2)
    have Zn := Nat.le_trans Zn (Nat.le_of_eq W7.size.symm)
    refine Run.st (S' := T7.setTop (mkF m 52 #[.val (.int p0), .val (.int p1), .val (.int p2), .val (.int p3), .val (.int b), .val (.ref b2), .unset, .unset, .unset, .unset, .unset, .unset] [])) (fun _ k => st7 _ k) ?_
    obtain ⟨c2, ec2⟩ : ∃ z, z = (c1 + ((p1 >>> ((1 : Int32) &&& 31)) &&& (1 : Int32))) := ⟨_, rfl⟩
    rw [← ec2] at V_b2
    refine Run.st (S' := T7.setTop (mkF m 58 #[.val (.int p0), .val (.int p1), .val (.int p2), .val (.int p3), .val (.int b), .val (.ref b2), .unset, .unset, .unset, .unset, .unset, .unset] [(.int (2 : Int32)), (.ref b2), (.int (3 : Int32)), (.ref b2)])) (fun _ k => XS.aload X7.here hx rfl (hb hby at_52) rfl rfl (XS.iconst X7.here hx rfl (hb hby at_54) (XS.aload X7.here hx rfl (hb hby at_55) rfl rfl (XS.iconst X7.here hx rfl (hb hby at_57) k)))) ?_
    obtain ⟨cl8, Ar8, qa8, Sa8, Na8, Ha8, Ga8⟩ := id V_b2
    have hin8 : ¬ ((2 : Int32) < 0 ∨ cl8.slots.size ≤ ((2 : Int32)).toNatClampNeg) := inb_of Sa8 ⟨by decide, by decide⟩
    have hat8 : cl8.slots[((2 : Int32)).toNatClampNeg]? = some (.int c2) := Has.at Ha8 hin8 rfl
    refine Run.st (S' := T7.setTop (mkF m 65 #[.val (.int p0), .val (.int p1), .val (.int p2), .val (.int p3), .val (.int b), .val (.ref b2), .unset, .unset, .unset, .unset, .unset, .unset] [(.int (c2 + ((p1 >>> ((2 : Int32) &&& 31)) &&& (1 : Int32)))), (.int (3 : Int32)), (.ref b2)])) (fun _ k => X7.iaload hx (j := (2 : Int32)) (v := (.int c2)) (by rw [e7]; exact Ar8.1) (State.isArrayOf_alike hZ.alike Ar8.2.1) Ar8.2.2 hin8 hat8 (g := (mkF m 58 #[.val (.int p0), .val (.int p1), .val (.int p2), .val (.int p3), .val (.int b), .val (.ref b2), .unset, .unset, .unset, .unset, .unset, .unset] [(.int (2 : Int32)), (.ref b2), (.int (3 : Int32)), (.ref b2)])) rfl rfl (hb hby at_58) _ (XS.iloadN X7.here hx rfl (hb hby at_59) rfl (XS.iconst X7.here hx rfl (hb hby at_60) (XS.ishr X7.here hx rfl (hb hby at_61) rfl (XS.iconst X7.here hx rfl (hb hby at_62) (XS.iand X7.here hx rfl (hb hby at_63) rfl (XS.iadd X7.here hx rfl (hb hby at_64) rfl k))))))) ?_
    obtain ⟨cl9, Ar9, qa9, Sa9, Na9, Ha9, Ga9⟩ := V_b2
    have hin9 : ¬ ((3 : Int32) < 0 ∨ cl9.slots.size ≤ ((3 : Int32)).toNatClampNeg) := inb_of Sa9 ⟨by decide, by decide⟩
    obtain ⟨T9, h9, X9, e9, W9, st9⟩ := stI X7 hx hZ e7 Ar9 (j := (3 : Int32)) hin9 (g := (mkF m 65 #[.val (.int p0), .val (.int p1), .val (.int p2), .val (.int p3), .val (.int b), .val (.ref b2), .unset, .unset, .unset, .unset, .unset, .unset] [(.int (c2 + ((p1 >>> ((2 : Int32) &&& 31)) &&& (1 : Int32)))), (.int (3 : Int32)), (.ref b2)])) rfl rfl (hb hby at_65)
    have V_b2 := Arv.set Ar9 qa9 Sa9 Na9 Ha9 Ga9 rfl W9 3 rfl (Nat.le_of_ble_eq_true rfl)
    have V_b2 : Arv Z h9 b2 k2 .int (5 : Int32) [(.int (0 : Int32)), (.int c1), (.int c2), (.int (c2 + ((p1 >>> ((2 : Int32) &&& 31)) &&& (1 : Int32)))), (.int (0 : Int32))] (.int (0 : Int32)) := V_b2
    have N9 := Fr.snoc X9 N7 g_b2
    have Kp := Kp.wr W9 (Or.inr sz_b2)
    have Zn := Nat.le_trans Zn (Nat.le_of_eq W9.size.symm)
    refine Run.st (S' := T9.setTop (mkF m 66 #[.val (.int p0), .val (.int p1), .val (.int p2), .val (.int p3), .val (.int b), .val (.ref b2), .unset, .unset, .unset, .unset, .unset, .unset] [])) (fun _ k => st9 _ k) ?_
    obtain ⟨c3, ec3⟩ : ∃ z, z = (c2 + ((p1 >>> ((2 : Int32) &&& 31)) &&& (1 : Int32))) := ⟨_, rfl⟩
    rw [← ec3] at V_b2
    refine Run.st (S' := T9.setTop (mkF m 72 #[.val (.int p0), .val (.int p1), .val (.int p2), .val (.int p3), .val (.int b), .val (.ref b2), .unset, .unset, .unset, .unset, .unset, .unset] [(.int (3 : Int32)), (.ref b2), (.int (4 : Int32)), (.ref b2)])) (fun _ k => XS.aload X9.here hx rfl (hb hby at_66) rfl rfl (XS.iconst X9.here hx rfl (hb hby at_68) (XS.aload X9.here hx rfl (hb hby at_69) rfl rfl (XS.iconst X9.here hx rfl (hb hby at_71) k)))) ?_
    obtain ⟨cl10, Ar10, qa10, Sa10, Na10, Ha10, Ga10⟩ := id V_b2
    have hin10 : ¬ ((3 : Int32) < 0 ∨ cl10.slots.size ≤ ((3 : Int32)).toNatClampNeg) := inb_of Sa10 ⟨by decide, by decide⟩
    have hat10 : cl10.slots[((3 : Int32)).toNatClampNeg]? = some (.int c3) := Has.at Ha10 hin10 rfl
    refine Run.st (S' := T9.setTop (mkF m 79 #[.val (.int p0), .val (.int p1), .val (.int p2), .val (.int p3), .val (.int b), .val (.ref b2), .unset, .unset, .unset, .unset, .unset, .unset] [(.int (c3 + ((p1 >>> ((3 : Int32) &&& 31)) &&& (1 : Int32)))), (.int (4 : Int32)), (.ref b2)])) (fun _ k => X9.iaload hx (j := (3 : Int32)) (v := (.int c3)) (by rw [e9]; exact Ar10.1) (State.isArrayOf_alike hZ.alike Ar10.2.1) Ar10.2.2 hin10 hat10 (g := (mkF m 72 #[.val (.int p0), .val (.int p1), .val (.int p2), .val (.int p3), .val (.int b), .val (.ref b2), .unset, .unset, .unset, .unset, .unset, .unset] [(.int (3 : Int32)), (.ref b2), (.int (4 : Int32)), (.ref b2)])) rfl rfl (hb hby at_72) _ (XS.iloadN X9.here hx rfl (hb hby at_73) rfl (XS.iconst X9.here hx rfl (hb hby at_74) (XS.ishr X9.here hx rfl (hb hby at_75) rfl (XS.iconst X9.here hx rfl (hb hby at_76) (XS.iand X9.here hx rfl (hb hby at_77) rfl (XS.iadd X9.here hx rfl (hb hby at_78) rfl k))))))) ?_
    obtain ⟨cl11, Ar11, qa11, Sa11, Na11, Ha11, Ga11⟩ := V_b2
    have hin11 : ¬ ((4 : Int32) < 0 ∨ cl11.slots.size ≤ ((4 : Int32)).toNatClampNeg) := inb_of Sa11 ⟨by decide, by decide⟩
    obtain ⟨T11, h11, X11, e11, W11, st11⟩ := stI X9 hx hZ e9 Ar11 (j := (4 : Int32)) hin11 (g := (mkF m 79 #[.val (.int p0), .val (.int p1), .val (.int p2), .val (.int p3), .val (.int b), .val (.ref b2), .unset, .unset, .unset, .unset, .unset, .unset] [(.int (c3 + ((p1 >>> ((3 : Int32) &&& 31)) &&& (1 : Int32)))), (.int (4 : Int32)), (.ref b2)])) rfl rfl (hb hby at_79)
    have V_b2 := Arv.set Ar11 qa11 Sa11 Na11 Ha11 Ga11 rfl W11 4 rfl (Nat.le_of_ble_eq_true rfl)
    have V_b2 : Arv Z h11 b2 k2 .int (5 : Int32) [(.int (0 : Int32)), (.int c1), (.int c2), (.int c3), (.int (c3 + ((p1 >>> ((3 : Int32) &&& 31)) &&& (1 : Int32))))] (.int (0 : Int32)) := V_b2
    have N11 := Fr.snoc X11 N9 g_b2
    have Kp := Kp.wr W11 (Or.inr sz_b2)
    have Zn := Nat.le_trans Zn (Nat.le_of_eq W11.size.symm)
    refine Run.st (S' := T11.setTop (mkF m 80 #[.val (.int p0), .val (.int p1), .val (.int p2), .val (.int p3), .val (.int b), .val (.ref b2), .unset, .unset, .unset, .unset, .unset, .unset] [])) (fun _ k => st11 _ k) ?_
    obtain ⟨c4, ec4⟩ : ∃ z, z = (c3 + ((p1 >>> ((3 : Int32) &&& 31)) &&& (1 : Int32))) := ⟨_, rfl⟩
    rw [← ec4] at V_b2
    refine Run.st (S' := T11.setTop (mkF m 81 #[.val (.int p0), .val (.int p1), .val (.int p2), .val (.int p3), .val (.int b), .val (.ref b2), .unset, .unset, .unset, .unset, .unset, .unset] [(.int (5 : Int32))])) (fun _ k => XS.iconst X11.here hx rfl (hb hby at_80) k) ?_
    obtain ⟨T12, h12, k12, X12, e12, E12, A12, st12⟩ := newP X11 hx hZ (hw _ (List.mem_of_getElem? (i := 2) rfl)) e11 (g := (mkF m 81 #[.val (.int p0), .val (.int p1), .val (.int p2), .val (.int p3), .val (.int b), .val (.ref b2), .unset, .unset, .unset, .unset, .unset, .unset] [(.int (5 : Int32))])) rfl (hb hby at_81) rfl (by decide) (cap := 5) (by decide) (by decide) (by decide) (by decide)
    obtain ⟨b12, g12⟩ : ∃ z, z = h11.size := ⟨_, rfl⟩
    rw [← g12] at A12 st12
    have ne_b2_b12 : b2 ≠ b12 := Nat.ne_of_lt (Nat.lt_of_lt_of_le V_b2.lt (Nat.le_of_eq g12.symm))
    have V_b2 := V_b2.ext E12
    have g_b12 : n0 ≤ b12 := Nat.le_trans Zn (Nat.le_of_eq g12.symm)
    have Zn := Nat.le_trans Zn E12.1
    have sz_b12 : h0.size ≤ b12 := Nat.le_trans Kp.1 (Nat.le_of_eq g12.symm)
    have Kp := Kp.ext E12
    have V_b12 : Arv Z h12 b12 k12 .long (5 : Int32) [(.long (0 : Int64)), (.long (0 : Int64)), (.long (0 : Int64)), (.long (0 : Int64)), (.long (0 : Int64))] (.long (0 : Int64)) := (Arv.new A12 (by decide)).pad (pad_rep [] (.long (0 : Int64)) 5)
    refine Run.st (S' := T12.setTop (mkF m 93 #[.val (.int p0), .val (.int p1), .val (.int p2), .val (.int p3), .val (.int b), .val (.ref b2), .val (.ref b12), .unset, .unset, .unset, .unset, .unset] [(.int (0 : Int32)), (.ref b2), (.int b), (.int (0 : Int32)), (.ref b12)])) (fun _ k => st12 _ (XS.astore X12.here hx rfl (hb hby at_83) rfl rfl (l' := #[.val (.int p0), .val (.int p1), .val (.int p2), .val (.int p3), .val (.int b), .val (.ref b2), .val (.ref b12), .unset, .unset, .unset, .unset, .unset]) rfl (XS.aload X12.here hx rfl (hb hby at_85) rfl rfl (XS.iconst X12.here hx rfl (hb hby at_87) (XS.iload X12.here hx rfl (hb hby at_88) rfl (XS.aload X12.here hx rfl (hb hby at_90) rfl rfl (XS.iconst X12.here hx rfl (hb hby at_92) k))))))) ?_
    obtain ⟨cl13, Ar13, qa13, Sa13, Na13, Ha13, Ga13⟩ := id V_b2
    have hin13 : ¬ ((0 : Int32) < 0 ∨ cl13.slots.size ≤ ((0 : Int32)).toNatClampNeg) := inb_of Sa13 ⟨by decide, by decide⟩
    have hat13 : cl13.slots[((0 : Int32)).toNatClampNeg]? = some (.int (0 : Int32)) := Has.at Ha13 hin13 rfl
    refine Run.st (S' := T12.setTop (mkF m 99 #[.val (.int p0), .val (.int p1), .val (.int p2), .val (.int p3), .val (.int b), .val (.ref b2), .val (.ref b12), .unset, .unset, .unset, .unset, .unset] [(.int (p2 &&& (2147483647 : Int32))), (.int (b + (0 : Int32))), (.int (0 : Int32)), (.ref b12)])) (fun _ k => X12.iaload hx (j := (0 : Int32)) (v := (.int (0 : Int32))) (by rw [e12]; exact Ar13.1) (State.isArrayOf_alike hZ.alike Ar13.2.1) Ar13.2.2 hin13 hat13 (g := (mkF m 93 #[.val (.int p0), .val (.int p1), .val (.int p2), .val (.int p3), .val (.int b), .val (.ref b2), .val (.ref b12), .unset, .unset, .unset, .unset, .unset] [(.int (0 : Int32)), (.ref b2), (.int b), (.int (0 : Int32)), (.ref b12)])) rfl rfl (hb hby at_93) _ (XS.iadd X12.here hx rfl (hb hby at_94) rfl (XS.iloadN X12.here hx rfl (hb hby at_95) rfl (X12.ldcInt hx hown (mvT hZ (hw _ (List.mem_of_getElem? (i := 3) rfl))) (g := (mkF m 96 #[.val (.int p0), .val (.int p1), .val (.int p2), .val (.int p3), .val (.int b), .val (.ref b2), .val (.ref b12), .unset, .unset, .unset, .unset, .unset] [(.int p2), (.int (b + (0 : Int32))), (.int (0 : Int32)), (.ref b12)])) rfl (hb hby at_96) _ (XS.iand X12.here hx rfl (hb hby at_98) rfl k))))) ?_
    obtain ⟨_, _, ⟨T14, L14, k14, n14⟩, -, X14, ⟨Lc14, hQ14, l14, y14, z14⟩, st14⟩ := Jvm.LawKit.callS X12 hx (y := (⟨"org/succession/PlacesRunEndPinLaw", "pack", "(II)J"⟩ : MethodName)) hown (mvT hZ (hw _ (List.mem_of_getElem? (i := 4) rfl))) (mvT hZ (hw _ (List.mem_of_getElem? (i := 5) rfl))) (mvT hZ (hw _ (List.mem_of_getElem? (i := 6) rfl))) (mvT hZ (hw _ (List.mem_of_getElem? (i := 7) rfl))) (by decide) (backOf (W := 2) (rmPack l Z aV hw [] (b + (0 : Int32)) (p2 &&& (2147483647 : Int32)) h12 n0 Zn ) hZ (hw _ (List.mem_of_getElem? (i := 7) rfl)) (hw _ (List.mem_of_getElem? (i := 6) rfl)) (by decide) (by decide)) (g := (mkF m 99 #[.val (.int p0), .val (.int p1), .val (.int p2), .val (.int p3), .val (.int b), .val (.ref b2), .val (.ref b12), .unset, .unset, .unset, .unset, .unset] [(.int (p2 &&& (2147483647 : Int32))), (.int (b + (0 : Int32))), (.int (0 : Int32)), (.ref b12)])) rfl (by rw [hml]; rfl) (argsL := [(.int (b + (0 : Int32))), (.int (p2 &&& (2147483647 : Int32)))]) (rest := [(.int (0 : Int32)), (.ref b12)]) (lenOf pd_1 rfl) rfl (by show 2 * 0 + _ ≤ _; exact Nat.le_of_eq rfl) (hb hby at_99) (fun _ _ => ⟨rfl, e12, (by decide : 2 + 0 ≤ _), (by decide : 10 + 0 ≤ _)⟩)
    dsimp only [Pt.U, Pt.locs, Pt.cells, Pt.slots] at X14 l14 y14 z14 st14 hQ14
    subst l14 y14 z14
    obtain ⟨rfl, N14q, e14⟩ := hQ14
    have N14 := Fr.app N11 N14q
    refine Run.st (S' := T14.setTop (mkF m 102 #[.val (.int p0), .val (.int p1), .val (.int p2), .val (.int p3), .val (.int b), .val (.ref b2), .val (.ref b12), .unset, .unset, .unset, .unset, .unset] [(.long (FPack (b + (0 : Int32)) (p2 &&& (2147483647 : Int32)))), (.int (0 : Int32)), (.ref b12)])) (fun _ k => st14 _ k) ?_
    obtain ⟨cl15, Ar15, qa15, Sa15, Na15, Ha15, Ga15⟩ := V_b12
    have hin15 : ¬ ((0 : Int32) < 0 ∨ cl15.slots.size ≤ ((0 : Int32)).toNatClampNeg) := inb_of Sa15 ⟨by decide, by decide⟩
    obtain ⟨T15, h15, X15, e15, W15, st15⟩ := stJ X14 hx hZ e14 Ar15 (j := (0 : Int32)) hin15 (g := (mkF m 102 #[.val (.int p0), .val (.int p1), .val (.int p2), .val (.int p3), .val (.int b), .val (.ref b2), .val (.ref b12), .unset, .unset, .unset, .unset, .unset] [(.long (FPack (b + (0 : Int32)) (p2 &&& (2147483647 : Int32)))), (.int (0 : Int32)), (.ref b12)])) rfl rfl (hb hby at_102)
    have V_b12 := Arv.set Ar15 qa15 Sa15 Na15 Ha15 Ga15 rfl W15 0 rfl (Nat.le_of_ble_eq_true rfl)
    have V_b12 : Arv Z h15 b12 k12 .long (5 : Int32) [(.long (FPack (b + (0 : Int32)) (p2 &&& (2147483647 : Int32)))), (.long (0 : Int64)), (.long (0 : Int64)), (.long (0 : Int64)), (.long (0 : Int64))] (.long (0 : Int64)) := V_b12
    have V_b2 := V_b2.other W15 ne_b2_b12
    have N15 := Fr.snoc X15 N14 g_b12
    have Kp := Kp.wr W15 (Or.inr sz_b12)
    have Zn := Nat.le_trans Zn (Nat.le_of_eq W15.size.symm)
    refine Run.st (S' := T15.setTop (mkF m 111 #[.val (.int p0), .val (.int p1), .val (.int p2), .val (.int p3), .val (.int b), .val (.ref b2), .val (.ref b12), .unset, .unset, .unset, .unset, .unset] [(.int (1 : Int32)), (.ref b2), (.int b), (.int (1 : Int32)), (.ref b12)])) (fun _ k => st15 _ (XS.aload X15.here hx rfl (hb hby at_103) rfl rfl (XS.iconst X15.here hx rfl (hb hby at_105) (XS.iload X15.here hx rfl (hb hby at_106) rfl (XS.aload X15.here hx rfl (hb hby at_108) rfl rfl (XS.iconst X15.here hx rfl (hb hby at_110) k)))))) ?_
    obtain ⟨cl16, Ar16, qa16, Sa16, Na16, Ha16, Ga16⟩ := id V_b2
    have hin16 : ¬ ((1 : Int32) < 0 ∨ cl16.slots.size ≤ ((1 : Int32)).toNatClampNeg) := inb_of Sa16 ⟨by decide, by decide⟩
    have hat16 : cl16.slots[((1 : Int32)).toNatClampNeg]? = some (.int c1) := Has.at Ha16 hin16 rfl
    refine Run.st (S' := T15.setTop (mkF m 119 #[.val (.int p0), .val (.int p1), .val (.int p2), .val (.int p3), .val (.int b), .val (.ref b2), .val (.ref b12), .unset, .unset, .unset, .unset, .unset] [(.int ((p2 + p3) &&& (2147483647 : Int32))), (.int (b + c1)), (.int (1 : Int32)), (.ref b12)])) (fun _ k => X15.iaload hx (j := (1 : Int32)) (v := (.int c1)) (by rw [e15]; exact Ar16.1) (State.isArrayOf_alike hZ.alike Ar16.2.1) Ar16.2.2 hin16 hat16 (g := (mkF m 111 #[.val (.int p0), .val (.int p1), .val (.int p2), .val (.int p3), .val (.int b), .val (.ref b2), .val (.ref b12), .unset, .unset, .unset, .unset, .unset] [(.int (1 : Int32)), (.ref b2), (.int b), (.int (1 : Int32)), (.ref b12)])) rfl rfl (hb hby at_111) _ (XS.iadd X15.here hx rfl (hb hby at_112) rfl (XS.iloadN X15.here hx rfl (hb hby at_113) rfl (XS.iloadN X15.here hx rfl (hb hby at_114) rfl (XS.iadd X15.here hx rfl (hb hby at_115) rfl (X15.ldcInt hx hown (mvT hZ (hw _ (List.mem_of_getElem? (i := 3) rfl))) (g := (mkF m 116 #[.val (.int p0), .val (.int p1), .val (.int p2), .val (.int p3), .val (.int b), .val (.ref b2), .val (.ref b12), .unset, .unset, .unset, .unset, .unset] [(.int (p2 + p3)), (.int (b + c1)), (.int (1 : Int32)), (.ref b12)])) rfl (hb hby at_116) _ (XS.iand X15.here hx rfl (hb hby at_118) rfl k))))))) ?_
    obtain ⟨_, _, ⟨T17, L17, k17, n17⟩, -, X17, ⟨Lc17, hQ17, l17, y17, z17⟩, st17⟩ := Jvm.LawKit.callS X15 hx (y := (⟨"org/succession/PlacesRunEndPinLaw", "pack", "(II)J"⟩ : MethodName)) hown (mvT hZ (hw _ (List.mem_of_getElem? (i := 4) rfl))) (mvT hZ (hw _ (List.mem_of_getElem? (i := 5) rfl))) (mvT hZ (hw _ (List.mem_of_getElem? (i := 6) rfl))) (mvT hZ (hw _ (List.mem_of_getElem? (i := 7) rfl))) (by decide) (backOf (W := 2) (rmPack l Z aV hw [] (b + c1) ((p2 + p3) &&& (2147483647 : Int32)) h15 n0 Zn ) hZ (hw _ (List.mem_of_getElem? (i := 7) rfl)) (hw _ (List.mem_of_getElem? (i := 6) rfl)) (by decide) (by decide)) (g := (mkF m 119 #[.val (.int p0), .val (.int p1), .val (.int p2), .val (.int p3), .val (.int b), .val (.ref b2), .val (.ref b12), .unset, .unset, .unset, .unset, .unset] [(.int ((p2 + p3) &&& (2147483647 : Int32))), (.int (b + c1)), (.int (1 : Int32)), (.ref b12)])) rfl (by rw [hml]; rfl) (argsL := [(.int (b + c1)), (.int ((p2 + p3) &&& (2147483647 : Int32)))]) (rest := [(.int (1 : Int32)), (.ref b12)]) (lenOf pd_1 rfl) rfl (by show 2 * 0 + _ ≤ _; exact Nat.le_of_eq rfl) (hb hby at_119) (fun _ _ => ⟨rfl, e15, (by decide : 2 + 0 ≤ _), (by decide : 10 + 0 ≤ _)⟩)
    dsimp only [Pt.U, Pt.locs, Pt.cells, Pt.slots] at X17 l17 y17 z17 st17 hQ17
    subst l17 y17 z17
    obtain ⟨rfl, N17q, e17⟩ := hQ17
    have N17 := Fr.app N15 N17q
    refine Run.st (S' := T17.setTop (mkF m 122 #[.val (.int p0), .val (.int p1), .val (.int p2), .val (.int p3), .val (.int b), .val (.ref b2), .val (.ref b12), .unset, .unset, .unset, .unset, .unset] [(.long (FPack (b + c1) ((p2 + p3) &&& (2147483647 : Int32)))), (.int (1 : Int32)), (.ref b12)])) (fun _ k => st17 _ k) ?_
    obtain ⟨cl18, Ar18, qa18, Sa18, Na18, Ha18, Ga18⟩ := V_b12
    have hin18 : ¬ ((1 : Int32) < 0 ∨ cl18.slots.size ≤ ((1 : Int32)).toNatClampNeg) := inb_of Sa18 ⟨by decide, by decide⟩
    obtain ⟨T18, h18, X18, e18, W18, st18⟩ := stJ X17 hx hZ e17 Ar18 (j := (1 : Int32)) hin18 (g := (mkF m 122 #[.val (.int p0), .val (.int p1), .val (.int p2), .val (.int p3), .val (.int b), .val (.ref b2), .val (.ref b12), .unset, .unset, .unset, .unset, .unset] [(.long (FPack (b + c1) ((p2 + p3) &&& (2147483647 : Int32)))), (.int (1 : Int32)), (.ref b12)])) rfl rfl (hb hby at_122)
    have V_b12 := Arv.set Ar18 qa18 Sa18 Na18 Ha18 Ga18 rfl W18 1 rfl (Nat.le_of_ble_eq_true rfl)
    have V_b12 : Arv Z h18 b12 k12 .long (5 : Int32) [(.long (FPack (b + (0 : Int32)) (p2 &&& (2147483647 : Int32)))), (.long (FPack (b + c1) ((p2 + p3) &&& (2147483647 : Int32)))), (.long (0 : Int64)), (.long (0 : Int64)), (.long (0 : Int64))] (.long (0 : Int64)) := V_b12
    have V_b2 := V_b2.other W18 ne_b2_b12
    have N18 := Fr.snoc X18 N17 g_b12
    have Kp := Kp.wr W18 (Or.inr sz_b12)
    have Zn := Nat.le_trans Zn (Nat.le_of_eq W18.size.symm)
    refine Run.st (S' := T18.setTop (mkF m 131 #[.val (.int p0), .val (.int p1), .val (.int p2), .val (.int p3), .val (.int b), .val (.ref b2), .val (.ref b12), .unset, .unset, .unset, .unset, .unset] [(.int (2 : Int32)), (.ref b2), (.int b), (.int (2 : Int32)), (.ref b12)])) (fun _ k => st18 _ (XS.aload X18.here hx rfl (hb hby at_123) rfl rfl (XS.iconst X18.here hx rfl (hb hby at_125) (XS.iload X18.here hx rfl (hb hby at_126) rfl (XS.aload X18.here hx rfl (hb hby at_128) rfl rfl (XS.iconst X18.here hx rfl (hb hby at_130) k)))))) ?_
    obtain ⟨cl19, Ar19, qa19, Sa19, Na19, Ha19, Ga19⟩ := id V_b2
    have hin19 : ¬ ((2 : Int32) < 0 ∨ cl19.slots.size ≤ ((2 : Int32)).toNatClampNeg) := inb_of Sa19 ⟨by decide, by decide⟩
    have hat19 : cl19.slots[((2 : Int32)).toNatClampNeg]? = some (.int c2) := Has.at Ha19 hin19 rfl
    refine Run.st (S' := T18.setTop (mkF m 140 #[.val (.int p0), .val (.int p1), .val (.int p2), .val (.int p3), .val (.int b), .val (.ref b2), .val (.ref b12), .unset, .unset, .unset, .unset, .unset] [(.int (2147483647 : Int32)), (.int (p2 + ((2 : Int32) * p3))), (.int (b + c2)), (.int (2 : Int32)), (.ref b12)])) (fun _ k => X18.iaload hx (j := (2 : Int32)) (v := (.int c2)) (by rw [e18]; exact Ar19.1) (State.isArrayOf_alike hZ.alike Ar19.2.1) Ar19.2.2 hin19 hat19 (g := (mkF m 131 #[.val (.int p0), .val (.int p1), .val (.int p2), .val (.int p3), .val (.int b), .val (.ref b2), .val (.ref b12), .unset, .unset, .unset, .unset, .unset] [(.int (2 : Int32)), (.ref b2), (.int b), (.int (2 : Int32)), (.ref b12)])) rfl rfl (hb hby at_131) _ (XS.iadd X18.here hx rfl (hb hby at_132) rfl (XS.iloadN X18.here hx rfl (hb hby at_133) rfl (XS.iconst X18.here hx rfl (hb hby at_134) (XS.iloadN X18.here hx rfl (hb hby at_135) rfl (XS.imul X18.here hx rfl (hb hby at_136) rfl (XS.iadd X18.here hx rfl (hb hby at_137) rfl (X18.ldcInt hx hown (mvT hZ (hw _ (List.mem_of_getElem? (i := 3) rfl))) (g := (mkF m 138 #[.val (.int p0), .val (.int p1), .val (.int p2), .val (.int p3), .val (.int b), .val (.ref b2), .val (.ref b12), .unset, .unset, .unset, .unset, .unset] [(.int (p2 + ((2 : Int32) * p3))), (.int (b + c2)), (.int (2 : Int32)), (.ref b12)])) rfl (hb hby at_138) _ k)))))))) ?_
    refine Run.st (S' := T18.setTop (mkF m 141 #[.val (.int p0), .val (.int p1), .val (.int p2), .val (.int p3), .val (.int b), .val (.ref b2), .val (.ref b12), .unset, .unset, .unset, .unset, .unset] [(.int ((p2 + ((2 : Int32) * p3)) &&& (2147483647 : Int32))), (.int (b + c2)), (.int (2 : Int32)), (.ref b12)])) (fun _ k => XS.iand X18.here hx rfl (hb hby at_140) rfl k) ?_
    obtain ⟨_, _, ⟨T20, L20, k20, n20⟩, -, X20, ⟨Lc20, hQ20, l20, y20, z20⟩, st20⟩ := Jvm.LawKit.callS X18 hx (y := (⟨"org/succession/PlacesRunEndPinLaw", "pack", "(II)J"⟩ : MethodName)) hown (mvT hZ (hw _ (List.mem_of_getElem? (i := 4) rfl))) (mvT hZ (hw _ (List.mem_of_getElem? (i := 5) rfl))) (mvT hZ (hw _ (List.mem_of_getElem? (i := 6) rfl))) (mvT hZ (hw _ (List.mem_of_getElem? (i := 7) rfl))) (by decide) (backOf (W := 2) (rmPack l Z aV hw [] (b + c2) ((p2 + ((2 : Int32) * p3)) &&& (2147483647 : Int32)) h18 n0 Zn ) hZ (hw _ (List.mem_of_getElem? (i := 7) rfl)) (hw _ (List.mem_of_getElem? (i := 6) rfl)) (by decide) (by decide)) (g := (mkF m 141 #[.val (.int p0), .val (.int p1), .val (.int p2), .val (.int p3), .val (.int b), .val (.ref b2), .val (.ref b12), .unset, .unset, .unset, .unset, .unset] [(.int ((p2 + ((2 : Int32) * p3)) &&& (2147483647 : Int32))), (.int (b + c2)), (.int (2 : Int32)), (.ref b12)])) rfl (by rw [hml]; rfl) (argsL := [(.int (b + c2)), (.int ((p2 + ((2 : Int32) * p3)) &&& (2147483647 : Int32)))]) (rest := [(.int (2 : Int32)), (.ref b12)]) (lenOf pd_1 rfl) rfl (by show 2 * 0 + _ ≤ _; exact Nat.le_of_eq rfl) (hb hby at_141) (fun _ _ => ⟨rfl, e18, (by decide : 2 + 0 ≤ _), (by decide : 10 + 0 ≤ _)⟩)
    dsimp only [Pt.U, Pt.locs, Pt.cells, Pt.slots] at X20 l20 y20 z20 st20 hQ20
    subst l20 y20 z20
    obtain ⟨rfl, N20q, e20⟩ := hQ20
    have N20 := Fr.app N18 N20q
    refine Run.st (S' := T20.setTop (mkF m 144 #[.val (.int p0), .val (.int p1), .val (.int p2), .val (.int p3), .val (.int b), .val (.ref b2), .val (.ref b12), .unset, .unset, .unset, .unset, .unset] [(.long (FPack (b + c2) ((p2 + ((2 : Int32) * p3)) &&& (2147483647 : Int32)))), (.int (2 : Int32)), (.ref b12)])) (fun _ k => st20 _ k) ?_
    obtain ⟨cl21, Ar21, qa21, Sa21, Na21, Ha21, Ga21⟩ := V_b12
    have hin21 : ¬ ((2 : Int32) < 0 ∨ cl21.slots.size ≤ ((2 : Int32)).toNatClampNeg) := inb_of Sa21 ⟨by decide, by decide⟩
    obtain ⟨T21, h21, X21, e21, W21, st21⟩ := stJ X20 hx hZ e20 Ar21 (j := (2 : Int32)) hin21 (g := (mkF m 144 #[.val (.int p0), .val (.int p1), .val (.int p2), .val (.int p3), .val (.int b), .val (.ref b2), .val (.ref b12), .unset, .unset, .unset, .unset, .unset] [(.long (FPack (b + c2) ((p2 + ((2 : Int32) * p3)) &&& (2147483647 : Int32)))), (.int (2 : Int32)), (.ref b12)])) rfl rfl (hb hby at_144)
    have V_b12 := Arv.set Ar21 qa21 Sa21 Na21 Ha21 Ga21 rfl W21 2 rfl (Nat.le_of_ble_eq_true rfl)
    have V_b12 : Arv Z h21 b12 k12 .long (5 : Int32) [(.long (FPack (b + (0 : Int32)) (p2 &&& (2147483647 : Int32)))), (.long (FPack (b + c1) ((p2 + p3) &&& (2147483647 : Int32)))), (.long (FPack (b + c2) ((p2 + ((2 : Int32) * p3)) &&& (2147483647 : Int32)))), (.long (0 : Int64)), (.long (0 : Int64))] (.long (0 : Int64)) := V_b12
    have V_b2 := V_b2.other W21 ne_b2_b12
    have N21 := Fr.snoc X21 N20 g_b12
    have Kp := Kp.wr W21 (Or.inr sz_b12)
    have Zn := Nat.le_trans Zn (Nat.le_of_eq W21.size.symm)
    refine Run.st (S' := T21.setTop (mkF m 153 #[.val (.int p0), .val (.int p1), .val (.int p2), .val (.int p3), .val (.int b), .val (.ref b2), .val (.ref b12), .unset, .unset, .unset, .unset, .unset] [(.int (3 : Int32)), (.ref b2), (.int b), (.int (3 : Int32)), (.ref b12)])) (fun _ k => st21 _ (XS.aload X21.here hx rfl (hb hby at_145) rfl rfl (XS.iconst X21.here hx rfl (hb hby at_147) (XS.iload X21.here hx rfl (hb hby at_148) rfl (XS.aload X21.here hx rfl (hb hby at_150) rfl rfl (XS.iconst X21.here hx rfl (hb hby at_152) k)))))) ?_
    obtain ⟨cl22, Ar22, qa22, Sa22, Na22, Ha22, Ga22⟩ := id V_b2
    have hin22 : ¬ ((3 : Int32) < 0 ∨ cl22.slots.size ≤ ((3 : Int32)).toNatClampNeg) := inb_of Sa22 ⟨by decide, by decide⟩
    have hat22 : cl22.slots[((3 : Int32)).toNatClampNeg]? = some (.int c3) := Has.at Ha22 hin22 rfl
    refine Run.st (S' := T21.setTop (mkF m 162 #[.val (.int p0), .val (.int p1), .val (.int p2), .val (.int p3), .val (.int b), .val (.ref b2), .val (.ref b12), .unset, .unset, .unset, .unset, .unset] [(.int (2147483647 : Int32)), (.int (p2 + ((3 : Int32) * p3))), (.int (b + c3)), (.int (3 : Int32)), (.ref b12)])) (fun _ k => X21.iaload hx (j := (3 : Int32)) (v := (.int c3)) (by rw [e21]; exact Ar22.1) (State.isArrayOf_alike hZ.alike Ar22.2.1) Ar22.2.2 hin22 hat22 (g := (mkF m 153 #[.val (.int p0), .val (.int p1), .val (.int p2), .val (.int p3), .val (.int b), .val (.ref b2), .val (.ref b12), .unset, .unset, .unset, .unset, .unset] [(.int (3 : Int32)), (.ref b2), (.int b), (.int (3 : Int32)), (.ref b12)])) rfl rfl (hb hby at_153) _ (XS.iadd X21.here hx rfl (hb hby at_154) rfl (XS.iloadN X21.here hx rfl (hb hby at_155) rfl (XS.iconst X21.here hx rfl (hb hby at_156) (XS.iloadN X21.here hx rfl (hb hby at_157) rfl (XS.imul X21.here hx rfl (hb hby at_158) rfl (XS.iadd X21.here hx rfl (hb hby at_159) rfl (X21.ldcInt hx hown (mvT hZ (hw _ (List.mem_of_getElem? (i := 3) rfl))) (g := (mkF m 160 #[.val (.int p0), .val (.int p1), .val (.int p2), .val (.int p3), .val (.int b), .val (.ref b2), .val (.ref b12), .unset, .unset, .unset, .unset, .unset] [(.int (p2 + ((3 : Int32) * p3))), (.int (b + c3)), (.int (3 : Int32)), (.ref b12)])) rfl (hb hby at_160) _ k)))))))) ?_
    refine Run.st (S' := T21.setTop (mkF m 163 #[.val (.int p0), .val (.int p1), .val (.int p2), .val (.int p3), .val (.int b), .val (.ref b2), .val (.ref b12), .unset, .unset, .unset, .unset, .unset] [(.int ((p2 + ((3 : Int32) * p3)) &&& (2147483647 : Int32))), (.int (b + c3)), (.int (3 : Int32)), (.ref b12)])) (fun _ k => XS.iand X21.here hx rfl (hb hby at_162) rfl k) ?_
    obtain ⟨_, _, ⟨T23, L23, k23, n23⟩, -, X23, ⟨Lc23, hQ23, l23, y23, z23⟩, st23⟩ := Jvm.LawKit.callS X21 hx (y := (⟨"org/succession/PlacesRunEndPinLaw", "pack", "(II)J"⟩ : MethodName)) hown (mvT hZ (hw _ (List.mem_of_getElem? (i := 4) rfl))) (mvT hZ (hw _ (List.mem_of_getElem? (i := 5) rfl))) (mvT hZ (hw _ (List.mem_of_getElem? (i := 6) rfl))) (mvT hZ (hw _ (List.mem_of_getElem? (i := 7) rfl))) (by decide) (backOf (W := 2) (rmPack l Z aV hw [] (b + c3) ((p2 + ((3 : Int32) * p3)) &&& (2147483647 : Int32)) h21 n0 Zn ) hZ (hw _ (List.mem_of_getElem? (i := 7) rfl)) (hw _ (List.mem_of_getElem? (i := 6) rfl)) (by decide) (by decide)) (g := (mkF m 163 #[.val (.int p0), .val (.int p1), .val (.int p2), .val (.int p3), .val (.int b), .val (.ref b2), .val (.ref b12), .unset, .unset, .unset, .unset, .unset] [(.int ((p2 + ((3 : Int32) * p3)) &&& (2147483647 : Int32))), (.int (b + c3)), (.int (3 : Int32)), (.ref b12)])) rfl (by rw [hml]; rfl) (argsL := [(.int (b + c3)), (.int ((p2 + ((3 : Int32) * p3)) &&& (2147483647 : Int32)))]) (rest := [(.int (3 : Int32)), (.ref b12)]) (lenOf pd_1 rfl) rfl (by show 2 * 0 + _ ≤ _; exact Nat.le_of_eq rfl) (hb hby at_163) (fun _ _ => ⟨rfl, e21, (by decide : 2 + 0 ≤ _), (by decide : 10 + 0 ≤ _)⟩)
    dsimp only [Pt.U, Pt.locs, Pt.cells, Pt.slots] at X23 l23 y23 z23 st23 hQ23
    subst l23 y23 z23
    obtain ⟨rfl, N23q, e23⟩ := hQ23
    have N23 := Fr.app N21 N23q
    refine Run.st (S' := T23.setTop (mkF m 166 #[.val (.int p0), .val (.int p1), .val (.int p2), .val (.int p3), .val (.int b), .val (.ref b2), .val (.ref b12), .unset, .unset, .unset, .unset, .unset] [(.long (FPack (b + c3) ((p2 + ((3 : Int32) * p3)) &&& (2147483647 : Int32)))), (.int (3 : Int32)), (.ref b12)])) (fun _ k => st23 _ k) ?_
    obtain ⟨cl24, Ar24, qa24, Sa24, Na24, Ha24, Ga24⟩ := V_b12
    have hin24 : ¬ ((3 : Int32) < 0 ∨ cl24.slots.size ≤ ((3 : Int32)).toNatClampNeg) := inb_of Sa24 ⟨by decide, by decide⟩
    obtain ⟨T24, h24, X24, e24, W24, st24⟩ := stJ X23 hx hZ e23 Ar24 (j := (3 : Int32)) hin24 (g := (mkF m 166 #[.val (.int p0), .val (.int p1), .val (.int p2), .val (.int p3), .val (.int b), .val (.ref b2), .val (.ref b12), .unset, .unset, .unset, .unset, .unset] [(.long (FPack (b + c3) ((p2 + ((3 : Int32) * p3)) &&& (2147483647 : Int32)))), (.int (3 : Int32)), (.ref b12)])) rfl rfl (hb hby at_166)
    have V_b12 := Arv.set Ar24 qa24 Sa24 Na24 Ha24 Ga24 rfl W24 3 rfl (Nat.le_of_ble_eq_true rfl)
    have V_b12 : Arv Z h24 b12 k12 .long (5 : Int32) [(.long (FPack (b + (0 : Int32)) (p2 &&& (2147483647 : Int32)))), (.long (FPack (b + c1) ((p2 + p3) &&& (2147483647 : Int32)))), (.long (FPack (b + c2) ((p2 + ((2 : Int32) * p3)) &&& (2147483647 : Int32)))), (.long (FPack (b + c3) ((p2 + ((3 : Int32) * p3)) &&& (2147483647 : Int32)))), (.long (0 : Int64))] (.long (0 : Int64)) := V_b12
    have V_b2 := V_b2.other W24 ne_b2_b12
    have N24 := Fr.snoc X24 N23 g_b12
    have Kp := Kp.wr W24 (Or.inr sz_b12)
    have Zn := Nat.le_trans Zn (Nat.le_of_eq W24.size.symm)
    refine Run.st (S' := T24.setTop (mkF m 175 #[.val (.int p0), .val (.int p1), .val (.int p2), .val (.int p3), .val (.int b), .val (.ref b2), .val (.ref b12), .unset, .unset, .unset, .unset, .unset] [(.int (4 : Int32)), (.ref b2), (.int b), (.int (4 : Int32)), (.ref b12)])) (fun _ k => st24 _ (XS.aload X24.here hx rfl (hb hby at_167) rfl rfl (XS.iconst X24.here hx rfl (hb hby at_169) (XS.iload X24.here hx rfl (hb hby at_170) rfl (XS.aload X24.here hx rfl (hb hby at_172) rfl rfl (XS.iconst X24.here hx rfl (hb hby at_174) k)))))) ?_
    obtain ⟨cl25, Ar25, qa25, Sa25, Na25, Ha25, Ga25⟩ := id V_b2
    have hin25 : ¬ ((4 : Int32) < 0 ∨ cl25.slots.size ≤ ((4 : Int32)).toNatClampNeg) := inb_of Sa25 ⟨by decide, by decide⟩
    have hat25 : cl25.slots[((4 : Int32)).toNatClampNeg]? = some (.int c4) := Has.at Ha25 hin25 rfl
    refine Run.st (S' := T24.setTop (mkF m 184 #[.val (.int p0), .val (.int p1), .val (.int p2), .val (.int p3), .val (.int b), .val (.ref b2), .val (.ref b12), .unset, .unset, .unset, .unset, .unset] [(.int (2147483647 : Int32)), (.int (p2 + ((4 : Int32) * p3))), (.int (b + c4)), (.int (4 : Int32)), (.ref b12)])) (fun _ k => X24.iaload hx (j := (4 : Int32)) (v := (.int c4)) (by rw [e24]; exact Ar25.1) (State.isArrayOf_alike hZ.alike Ar25.2.1) Ar25.2.2 hin25 hat25 (g := (mkF m 175 #[.val (.int p0), .val (.int p1), .val (.int p2), .val (.int p3), .val (.int b), .val (.ref b2), .val (.ref b12), .unset, .unset, .unset, .unset, .unset] [(.int (4 : Int32)), (.ref b2), (.int b), (.int (4 : Int32)), (.ref b12)])) rfl rfl (hb hby at_175) _ (XS.iadd X24.here hx rfl (hb hby at_176) rfl (XS.iloadN X24.here hx rfl (hb hby at_177) rfl (XS.iconst X24.here hx rfl (hb hby at_178) (XS.iloadN X24.here hx rfl (hb hby at_179) rfl (XS.imul X24.here hx rfl (hb hby at_180) rfl (XS.iadd X24.here hx rfl (hb hby at_181) rfl (X24.ldcInt hx hown (mvT hZ (hw _ (List.mem_of_getElem? (i := 3) rfl))) (g := (mkF m 182 #[.val (.int p0), .val (.int p1), .val (.int p2), .val (.int p3), .val (.int b), .val (.ref b2), .val (.ref b12), .unset, .unset, .unset, .unset, .unset] [(.int (p2 + ((4 : Int32) * p3))), (.int (b + c4)), (.int (4 : Int32)), (.ref b12)])) rfl (hb hby at_182) _ k)))))))) ?_
    refine Run.st (S' := T24.setTop (mkF m 185 #[.val (.int p0), .val (.int p1), .val (.int p2), .val (.int p3), .val (.int b), .val (.ref b2), .val (.ref b12), .unset, .unset, .unset, .unset, .unset] [(.int ((p2 + ((4 : Int32) * p3)) &&& (2147483647 : Int32))), (.int (b + c4)), (.int (4 : Int32)), (.ref b12)])) (fun _ k => XS.iand X24.here hx rfl (hb hby at_184) rfl k) ?_
    obtain ⟨_, _, ⟨T26, L26, k26, n26⟩, -, X26, ⟨Lc26, hQ26, l26, y26, z26⟩, st26⟩ := Jvm.LawKit.callS X24 hx (y := (⟨"org/succession/PlacesRunEndPinLaw", "pack", "(II)J"⟩ : MethodName)) hown (mvT hZ (hw _ (List.mem_of_getElem? (i := 4) rfl))) (mvT hZ (hw _ (List.mem_of_getElem? (i := 5) rfl))) (mvT hZ (hw _ (List.mem_of_getElem? (i := 6) rfl))) (mvT hZ (hw _ (List.mem_of_getElem? (i := 7) rfl))) (by decide) (backOf (W := 2) (rmPack l Z aV hw [] (b + c4) ((p2 + ((4 : Int32) * p3)) &&& (2147483647 : Int32)) h24 n0 Zn ) hZ (hw _ (List.mem_of_getElem? (i := 7) rfl)) (hw _ (List.mem_of_getElem? (i := 6) rfl)) (by decide) (by decide)) (g := (mkF m 185 #[.val (.int p0), .val (.int p1), .val (.int p2), .val (.int p3), .val (.int b), .val (.ref b2), .val (.ref b12), .unset, .unset, .unset, .unset, .unset] [(.int ((p2 + ((4 : Int32) * p3)) &&& (2147483647 : Int32))), (.int (b + c4)), (.int (4 : Int32)), (.ref b12)])) rfl (by rw [hml]; rfl) (argsL := [(.int (b + c4)), (.int ((p2 + ((4 : Int32) * p3)) &&& (2147483647 : Int32)))]) (rest := [(.int (4 : Int32)), (.ref b12)]) (lenOf pd_1 rfl) rfl (by show 2 * 0 + _ ≤ _; exact Nat.le_of_eq rfl) (hb hby at_185) (fun _ _ => ⟨rfl, e24, (by decide : 2 + 0 ≤ _), (by decide : 10 + 0 ≤ _)⟩)
    dsimp only [Pt.U, Pt.locs, Pt.cells, Pt.slots] at X26 l26 y26 z26 st26 hQ26
    subst l26 y26 z26
    obtain ⟨rfl, N26q, e26⟩ := hQ26
    have N26 := Fr.app N24 N26q
    refine Run.st (S' := T26.setTop (mkF m 188 #[.val (.int p0), .val (.int p1), .val (.int p2), .val (.int p3), .val (.int b), .val (.ref b2), .val (.ref b12), .unset, .unset, .unset, .unset, .unset] [(.long (FPack (b + c4) ((p2 + ((4 : Int32) * p3)) &&& (2147483647 : Int32)))), (.int (4 : Int32)), (.ref b12)])) (fun _ k => st26 _ k) ?_
    obtain ⟨cl27, Ar27, qa27, Sa27, Na27, Ha27, Ga27⟩ := V_b12
    have hin27 : ¬ ((4 : Int32) < 0 ∨ cl27.slots.size ≤ ((4 : Int32)).toNatClampNeg) := inb_of Sa27 ⟨by decide, by decide⟩
    obtain ⟨T27, h27, X27, e27, W27, st27⟩ := stJ X26 hx hZ e26 Ar27 (j := (4 : Int32)) hin27 (g := (mkF m 188 #[.val (.int p0), .val (.int p1), .val (.int p2), .val (.int p3), .val (.int b), .val (.ref b2), .val (.ref b12), .unset, .unset, .unset, .unset, .unset] [(.long (FPack (b + c4) ((p2 + ((4 : Int32) * p3)) &&& (2147483647 : Int32)))), (.int (4 : Int32)), (.ref b12)])) rfl rfl (hb hby at_188)
    have V_b12 := Arv.set Ar27 qa27 Sa27 Na27 Ha27 Ga27 rfl W27 4 rfl (Nat.le_of_ble_eq_true rfl)
    have V_b12 : Arv Z h27 b12 k12 .long (5 : Int32) [(.long (FPack (b + (0 : Int32)) (p2 &&& (2147483647 : Int32)))), (.long (FPack (b + c1) ((p2 + p3) &&& (2147483647 : Int32)))), (.long (FPack (b + c2) ((p2 + ((2 : Int32) * p3)) &&& (2147483647 : Int32)))), (.long (FPack (b + c3) ((p2 + ((3 : Int32) * p3)) &&& (2147483647 : Int32)))), (.long (FPack (b + c4) ((p2 + ((4 : Int32) * p3)) &&& (2147483647 : Int32))))] (.long (0 : Int64)) := V_b12
    have V_b2 := V_b2.other W27 ne_b2_b12
    have N27 := Fr.snoc X27 N26 g_b12
    have Kp := Kp.wr W27 (Or.inr sz_b12)
    have Zn := Nat.le_trans Zn (Nat.le_of_eq W27.size.symm)
    refine Run.st (S' := T27.setTop (mkF m 196 #[.val (.int p0), .val (.int p1), .val (.int p2), .val (.int p3), .val (.int b), .val (.ref b2), .val (.ref b12), .val (.int (((p1.toUInt32 >>> ((4 : Int32) &&& 31).toUInt32).toInt32) % (5 : Int32))), .unset, .unset, .unset, .unset] [])) (fun _ k => st27 _ (XS.iloadN X27.here hx rfl (hb hby at_189) rfl (XS.iconst X27.here hx rfl (hb hby at_190) (XS.iushr X27.here hx rfl (hb hby at_191) rfl (XS.iconst X27.here hx rfl (hb hby at_192) (iremM X27 hx rfl (hb hby at_193) rfl (by decide) (XS.istore X27.here hx rfl (hb hby at_194) rfl (l' := #[.val (.int p0), .val (.int p1), .val (.int p2), .val (.int p3), .val (.int b), .val (.ref b2), .val (.ref b12), .val (.int (((p1.toUInt32 >>> ((4 : Int32) &&& 31).toUInt32).toInt32) % (5 : Int32))), .unset, .unset, .unset, .unset]) rfl k))))))) ?_
    have hst : 0 ≤ ((((p1.toUInt32 >>> ((4 : Int32) &&& 31).toUInt32).toInt32) % (5 : Int32))).toInt ∧ ((((p1.toUInt32 >>> ((4 : Int32) &&& 31).toUInt32).toInt32) % (5 : Int32))).toInt < 5 := (by have := rng32 (((p1.toUInt32 >>> ((4 : Int32) &&& 31).toUInt32).toInt32) % (5 : Int32)); have := c_irem ((p1.toUInt32 >>> ((4 : Int32) &&& 31).toUInt32).toInt32) (5 : Int32) 5 (by decide); have := rng32 ((p1.toUInt32 >>> ((4 : Int32) &&& 31).toUInt32).toInt32); have := c_iushr p1 (4 : Int32) 4 (by decide) (by decide); have := rng32 p1; (try simp only [Int32.lt_iff_toInt_lt, Int64.lt_iff_toInt_lt, Int32.le_iff_toInt_le, Int64.le_iff_toInt_le, ← Int32.toInt_inj, ← Int64.toInt_inj] at  ⊢); omega)
    generalize est : (((p1.toUInt32 >>> ((4 : Int32) &&& 31).toUInt32).toInt32) % (5 : Int32)) = st at hst ⊢
    have hst := hst
    refine Run.st (S' := T27.setTop (mkF m 207 #[.val (.int p0), .val (.int p1), .val (.int p2), .val (.int p3), .val (.int b), .val (.ref b2), .val (.ref b12), .val (.int st), .unset, .unset, .unset, .unset] [(.int st), (.int (5 : Int32)), (.int ((p1.toUInt32 >>> ((8 : Int32) &&& 31).toUInt32).toInt32)), (.int (st + (1 : Int32)))])) (fun _ k => XS.iload X27.here hx rfl (hb hby at_196) rfl (XS.iconst X27.here hx rfl (hb hby at_198) (XS.iadd X27.here hx rfl (hb hby at_199) rfl (XS.iloadN X27.here hx rfl (hb hby at_200) rfl (XS.bipush X27.here hx rfl (hb hby at_201) (XS.iushr X27.here hx rfl (hb hby at_203) rfl (XS.iconst X27.here hx rfl (hb hby at_204) (XS.iload X27.here hx rfl (hb hby at_205) rfl k)))))))) ?_
    refine Run.st (S' := T27.setTop (mkF m 212 #[.val (.int p0), .val (.int p1), .val (.int p2), .val (.int p3), .val (.int b), .val (.ref b2), .val (.ref b12), .val (.int st), .val (.int ((st + (1 : Int32)) + (((p1.toUInt32 >>> ((8 : Int32) &&& 31).toUInt32).toInt32) % ((5 : Int32) - st)))), .unset, .unset, .unset] [])) (fun _ k => XS.isub X27.here hx rfl (hb hby at_207) rfl (iremM X27 hx rfl (hb hby at_208) rfl (fun q => by have := congrArg Int32.toInt q; have := hst; have := rng32 ((5 : Int32) - st); have := c_isub (5 : Int32) st; have := (by decide : ((5 : Int32)).toInt = 5); have := rng32 st; have := (by decide : ((0 : Int32)).toInt = 0); omega) (XS.iadd X27.here hx rfl (hb hby at_209) rfl (XS.istore X27.here hx rfl (hb hby at_210) rfl (l' := #[.val (.int p0), .val (.int p1), .val (.int p2), .val (.int p3), .val (.int b), .val (.ref b2), .val (.ref b12), .val (.int st), .val (.int ((st + (1 : Int32)) + (((p1.toUInt32 >>> ((8 : Int32) &&& 31).toUInt32).toInt32) % ((5 : Int32) - st)))), .unset, .unset, .unset]) rfl k)))) ?_
    have hen : st.toInt + 1 ≤ (((st + (1 : Int32)) + (((p1.toUInt32 >>> ((8 : Int32) &&& 31).toUInt32).toInt32) % ((5 : Int32) - st)))).toInt ∧ (((st + (1 : Int32)) + (((p1.toUInt32 >>> ((8 : Int32) &&& 31).toUInt32).toInt32) % ((5 : Int32) - st)))).toInt ≤ 5 := (by have := hst; have := rng32 ((st + (1 : Int32)) + (((p1.toUInt32 >>> ((8 : Int32) &&& 31).toUInt32).toInt32) % ((5 : Int32) - st))); have := c_iadd (st + (1 : Int32)) (((p1.toUInt32 >>> ((8 : Int32) &&& 31).toUInt32).toInt32) % ((5 : Int32) - st)); have := rng32 (st + (1 : Int32)); have := c_iadd st (1 : Int32); have := rng32 st; have := (by decide : ((1 : Int32)).toInt = 1); have := rng32 (((p1.toUInt32 >>> ((8 : Int32) &&& 31).toUInt32).toInt32) % ((5 : Int32) - st)); have := c_iremV ((p1.toUInt32 >>> ((8 : Int32) &&& 31).toUInt32).toInt32) ((5 : Int32) - st); have := rng32 ((p1.toUInt32 >>> ((8 : Int32) &&& 31).toUInt32).toInt32); have := c_iushr p1 (8 : Int32) 8 (by decide) (by decide); have := rng32 p1; have := rng32 ((5 : Int32) - st); have := c_isub (5 : Int32) st; have := (by decide : ((5 : Int32)).toInt = 5); omega)
    generalize een : ((st + (1 : Int32)) + (((p1.toUInt32 >>> ((8 : Int32) &&& 31).toUInt32).toInt32) % ((5 : Int32) - st))) = en at hen ⊢
    refine Run.st (S' := T27.setTop (mkF m 216 #[.val (.int p0), .val (.int p1), .val (.int p2), .val (.int p3), .val (.int b), .val (.ref b2), .val (.ref b12), .val (.int st), .val (.int en), .unset, .unset, .unset] [(.int st), (.ref b2)])) (fun _ k => XS.aload X27.here hx rfl (hb hby at_212) rfl rfl (XS.iload X27.here hx rfl (hb hby at_214) rfl k)) ?_
    obtain ⟨cl28, Ar28, qa28, Sa28, Na28, Ha28, Ga28⟩ := id V_b2
    have hin28 : ¬ (st < 0 ∨ cl28.slots.size ≤ (st).toNatClampNeg) := inb_of Sa28 (inb32 (n := 5) (by decide) hst.1 hst.2)
    have hat28 : cl28.slots[(st).toNatClampNeg]? = some (.int (own_pick (0 : Int32) c1 c2 c3 c4 st)) := Has.at Ha28 hin28 (own_atI (0 : Int32) c1 c2 c3 c4 st hst)
    refine Run.st (S' := T27.setTop (mkF m 219 #[.val (.int p0), .val (.int p1), .val (.int p2), .val (.int p3), .val (.int b), .val (.ref b2), .val (.ref b12), .val (.int st), .val (.int en), .val (.int (own_pick (0 : Int32) c1 c2 c3 c4 st)), .unset, .unset] [])) (fun _ k => X27.iaload hx (j := st) (v := (.int (own_pick (0 : Int32) c1 c2 c3 c4 st))) (by rw [e27]; exact Ar28.1) (State.isArrayOf_alike hZ.alike Ar28.2.1) Ar28.2.2 hin28 hat28 (g := (mkF m 216 #[.val (.int p0), .val (.int p1), .val (.int p2), .val (.int p3), .val (.int b), .val (.ref b2), .val (.ref b12), .val (.int st), .val (.int en), .unset, .unset, .unset] [(.int st), (.ref b2)])) rfl rfl (hb hby at_216) _ (XS.istore X27.here hx rfl (hb hby at_217) rfl (l' := #[.val (.int p0), .val (.int p1), .val (.int p2), .val (.int p3), .val (.int b), .val (.ref b2), .val (.ref b12), .val (.int st), .val (.int en), .val (.int (own_pick (0 : Int32) c1 c2 c3 c4 st)), .unset, .unset]) rfl k)) ?_
    generalize ecs : own_pick (0 : Int32) c1 c2 c3 c4 st = cs
    refine Run.st (S' := T27.setTop (mkF m 223 #[.val (.int p0), .val (.int p1), .val (.int p2), .val (.int p3), .val (.int b), .val (.ref b2), .val (.ref b12), .val (.int st), .val (.int en), .val (.int cs), .val (.int en), .unset] [])) (fun _ k => XS.iload X27.here hx rfl (hb hby at_219) rfl (XS.istore X27.here hx rfl (hb hby at_221) rfl (l' := #[.val (.int p0), .val (.int p1), .val (.int p2), .val (.int p3), .val (.int b), .val (.ref b2), .val (.ref b12), .val (.int st), .val (.int en), .val (.int cs), .val (.int en), .unset]) rfl k)) ?_
    have J247_29 : ∀ (x4 : Int32), x4 = (own_e (4 : Int32) c4 cs st en en) → Run p e below (Ends s (Q0 Z p0 p1 p2 p3 h0 n0) room_1.cells room_1.slots) (T27.setTop (mkF m 247 #[.val (.int p0), .val (.int p1), .val (.int p2), .val (.int p3), .val (.int b), .val (.ref b2), .val (.ref b12), .val (.int st), .val (.int en), .val (.int cs), .val (.int x4), .unset] [])) := by
      intro x4 h_x4
      have J271_30 : ∀ (x3 : Int32), x3 = (own_e (3 : Int32) c3 cs st en (own_e (4 : Int32) c4 cs st en en)) → Run p e below (Ends s (Q0 Z p0 p1 p2 p3 h0 n0) room_1.cells room_1.slots) (T27.setTop (mkF m 271 #[.val (.int p0), .val (.int p1), .val (.int p2), .val (.int p3), .val (.int b), .val (.ref b2), .val (.ref b12), .val (.int st), .val (.int en), .val (.int cs), .val (.int x3), .unset] [])) := by
        intro x3 h_x3
        have J295_31 : ∀ (x2 : Int32), x2 = (own_e (2 : Int32) c2 cs st en (own_e (3 : Int32) c3 cs st en (own_e (4 : Int32) c4 cs st en en))) → Run p e below (Ends s (Q0 Z p0 p1 p2 p3 h0 n0) room_1.cells room_1.slots) (T27.setTop (mkF m 295 #[.val (.int p0), .val (.int p1), .val (.int p2), .val (.int p3), .val (.int b), .val (.ref b2), .val (.ref b12), .val (.int st), .val (.int en), .val (.int cs), .val (.int x2), .unset] [])) := by
          intro x2 h_x2
          have J319_32 : ∀ (x1 : Int32), x1 = (own_e (1 : Int32) c1 cs st en (own_e (2 : Int32) c2 cs st en (own_e (3 : Int32) c3 cs st en (own_e (4 : Int32) c4 cs st en en)))) → Run p e below (Ends s (Q0 Z p0 p1 p2 p3 h0 n0) room_1.cells room_1.slots) (T27.setTop (mkF m 319 #[.val (.int p0), .val (.int p1), .val (.int p2), .val (.int p3), .val (.int b), .val (.ref b2), .val (.ref b12), .val (.int st), .val (.int en), .val (.int cs), .val (.int x1), .unset] [])) := by
            intro x1 h_x1
            refine Run.st (S' := T27.setTop (mkF m 325 #[.val (.int p0), .val (.int p1), .val (.int p2), .val (.int p3), .val (.int b), .val (.ref b2), .val (.ref b12), .val (.int st), .val (.int en), .val (.int cs), .val (.int x1), .unset] [(.int en), (.int st), (.ref b12)])) (fun _ k => XS.aload X27.here hx rfl (hb hby at_319) rfl rfl (XS.iload X27.here hx rfl (hb hby at_321) rfl (XS.iload X27.here hx rfl (hb hby at_323) rfl k))) ?_
            obtain ⟨_, _, ⟨T33, L33, k33, n33⟩, -, X33, ⟨Lc33, hQ33, l33, y33, z33⟩, st33⟩ := Jvm.LawKit.callS X27 hx (y := (⟨"org/succession/Places", "runEnd", "([JII)I"⟩ : MethodName)) hown (mvT hZ (hw _ (List.mem_of_getElem? (i := 8) rfl))) (mvT hZ (hw _ (List.mem_of_getElem? (i := 9) rfl))) (mvT hZ (hw _ (List.mem_of_getElem? (i := 10) rfl))) (mvT hZ (hw _ (List.mem_of_getElem? (i := 11) rfl))) (by decide) (backOf (W := 0) (rmRun l Z aV hw [] b12 st en k12 (FPack (b + (0 : Int32)) (p2 &&& (2147483647 : Int32))) (FPack (b + c1) ((p2 + p3) &&& (2147483647 : Int32))) (FPack (b + c2) ((p2 + ((2 : Int32) * p3)) &&& (2147483647 : Int32))) (FPack (b + c3) ((p2 + ((3 : Int32) * p3)) &&& (2147483647 : Int32))) (FPack (b + c4) ((p2 + ((4 : Int32) * p3)) &&& (2147483647 : Int32))) h27 n0 Zn hst hen.2 V_b12) hZ (hw _ (List.mem_of_getElem? (i := 11) rfl)) (hw _ (List.mem_of_getElem? (i := 10) rfl)) (by decide) (by decide)) (g := (mkF m 325 #[.val (.int p0), .val (.int p1), .val (.int p2), .val (.int p3), .val (.int b), .val (.ref b2), .val (.ref b12), .val (.int st), .val (.int en), .val (.int cs), .val (.int x1), .unset] [(.int en), (.int st), (.ref b12)])) rfl (by rw [hml]; rfl) (argsL := [(.ref b12), (.int st), (.int en)]) (rest := []) (lenOf pd_2 rfl) rfl (by show 2 * 0 + _ ≤ _; exact Nat.le_of_eq rfl) (hb hby at_325) (fun _ _ => ⟨rfl, e27, (by decide : 2 + 0 ≤ _), (by decide : 10 + 0 ≤ _)⟩)
            dsimp only [Pt.U, Pt.locs, Pt.cells, Pt.slots] at X33 l33 y33 z33 st33 hQ33
            subst l33 y33 z33
            obtain ⟨rfl, N33q, e33⟩ := hQ33
            have N33 := Fr.app N27 N33q
            refine Run.st (S' := T33.setTop (mkF m 342 #[.val (.int p0), .val (.int p1), .val (.int p2), .val (.int p3), .val (.int b), .val (.ref b2), .val (.ref b12), .val (.int st), .val (.int en), .val (.int cs), .val (.int x1), .val (.int (own_run (FKey (FPack (b + (0 : Int32)) (p2 &&& (2147483647 : Int32)))) (FKey (FPack (b + c1) ((p2 + p3) &&& (2147483647 : Int32)))) (FKey (FPack (b + c2) ((p2 + ((2 : Int32) * p3)) &&& (2147483647 : Int32)))) (FKey (FPack (b + c3) ((p2 + ((3 : Int32) * p3)) &&& (2147483647 : Int32)))) (FKey (FPack (b + c4) ((p2 + ((4 : Int32) * p3)) &&& (2147483647 : Int32)))) st en))] [(.int (1 : Int32))])) (fun _ k => st33 _ (XS.istore X33.here hx rfl (hb hby at_328) rfl (l' := #[.val (.int p0), .val (.int p1), .val (.int p2), .val (.int p3), .val (.int b), .val (.ref b2), .val (.ref b12), .val (.int st), .val (.int en), .val (.int cs), .val (.int x1), .val (.int (own_run (FKey (FPack (b + (0 : Int32)) (p2 &&& (2147483647 : Int32)))) (FKey (FPack (b + c1) ((p2 + p3) &&& (2147483647 : Int32)))) (FKey (FPack (b + c2) ((p2 + ((2 : Int32) * p3)) &&& (2147483647 : Int32)))) (FKey (FPack (b + c3) ((p2 + ((3 : Int32) * p3)) &&& (2147483647 : Int32)))) (FKey (FPack (b + c4) ((p2 + ((4 : Int32) * p3)) &&& (2147483647 : Int32)))) st en))]) rfl (XS.iload X33.here hx rfl (hb hby at_330) rfl (XS.iload X33.here hx rfl (hb hby at_332) rfl (XS.icmpNo X33.here hx rfl (hb hby at_334) rfl (teq (show (own_run (FKey (FPack (b + (0 : Int32)) (p2 &&& (2147483647 : Int32)))) (FKey (FPack (b + c1) ((p2 + p3) &&& (2147483647 : Int32)))) (FKey (FPack (b + c2) ((p2 + ((2 : Int32) * p3)) &&& (2147483647 : Int32)))) (FKey (FPack (b + c3) ((p2 + ((3 : Int32) * p3)) &&& (2147483647 : Int32)))) (FKey (FPack (b + c4) ((p2 + ((4 : Int32) * p3)) &&& (2147483647 : Int32)))) st en) = x1 from (by rw [h_x1, own_key, own_key, own_key, own_key, own_key, ← ecs]; exact own_fin5 b c1 c2 c3 c4 st en hst hen))).2 (XS.iconst X33.here hx rfl (hb hby at_337) (XS.goto X33.here hx rfl (pc0 := 338) (pc' := 342) rfl (hb hby at_338) (by decide) (by decide) k))))))) ?_
            refine Run.out X33 hx Bd.notSynchronized Bd.returns rfl (Or.inl ⟨rfl, by simp, _, rfl⟩) (hb hby at_342) (by decide) (by decide) ?_
            rw [e33]
            exact ⟨rfl, N33⟩
          refine Run.st (S' := T27.setTop (mkF m 298 #[.val (.int p0), .val (.int p1), .val (.int p2), .val (.int p3), .val (.int b), .val (.ref b2), .val (.ref b12), .val (.int st), .val (.int en), .val (.int cs), .val (.int x2), .unset] [(.int st), (.int (1 : Int32))])) (fun _ k => XS.iconst X27.here hx rfl (hb hby at_295) (XS.iload X27.here hx rfl (hb hby at_296) rfl k)) ?_
          by_cases hc298_34 : st < (1 : Int32)
          · refine Run.st (S' := T27.setTop (mkF m 304 #[.val (.int p0), .val (.int p1), .val (.int p2), .val (.int p3), .val (.int b), .val (.ref b2), .val (.ref b12), .val (.int st), .val (.int en), .val (.int cs), .val (.int x2), .unset] [(.int en), (.int (1 : Int32))])) (fun _ k => XS.icmpNo X27.here hx rfl (hb hby at_298) rfl (tlt hc298_34).2.2.2 (XS.iconst X27.here hx rfl (hb hby at_301) (XS.iload X27.here hx rfl (hb hby at_302) rfl k))) ?_
            by_cases hc304_35 : (1 : Int32) < en
            · refine Run.st (S' := T27.setTop (mkF m 310 #[.val (.int p0), .val (.int p1), .val (.int p2), .val (.int p3), .val (.int b), .val (.ref b2), .val (.ref b12), .val (.int st), .val (.int en), .val (.int cs), .val (.int x2), .unset] [(.int (1 : Int32)), (.ref b2)])) (fun _ k => XS.icmpNo X27.here hx rfl (hb hby at_304) rfl (tlt hc304_35).2.1 (XS.aload X27.here hx rfl (hb hby at_307) rfl rfl (XS.iconst X27.here hx rfl (hb hby at_309) k))) ?_
              obtain ⟨cl36, Ar36, qa36, Sa36, Na36, Ha36, Ga36⟩ := id V_b2
              have hin36 : ¬ ((1 : Int32) < 0 ∨ cl36.slots.size ≤ ((1 : Int32)).toNatClampNeg) := inb_of Sa36 ⟨by decide, by decide⟩
              have hat36 : cl36.slots[((1 : Int32)).toNatClampNeg]? = some (.int c1) := Has.at Ha36 hin36 rfl
              refine Run.st (S' := T27.setTop (mkF m 313 #[.val (.int p0), .val (.int p1), .val (.int p2), .val (.int p3), .val (.int b), .val (.ref b2), .val (.ref b12), .val (.int st), .val (.int en), .val (.int cs), .val (.int x2), .unset] [(.int cs), (.int c1)])) (fun _ k => X27.iaload hx (j := (1 : Int32)) (v := (.int c1)) (by rw [e27]; exact Ar36.1) (State.isArrayOf_alike hZ.alike Ar36.2.1) Ar36.2.2 hin36 hat36 (g := (mkF m 310 #[.val (.int p0), .val (.int p1), .val (.int p2), .val (.int p3), .val (.int b), .val (.ref b2), .val (.ref b12), .val (.int st), .val (.int en), .val (.int cs), .val (.int x2), .unset] [(.int (1 : Int32)), (.ref b2)])) rfl rfl (hb hby at_310) _ (XS.iload X27.here hx rfl (hb hby at_311) rfl k)) ?_
              by_cases hc313_37 : c1 = cs
              · refine Run.st (S' := T27.setTop (mkF m 319 #[.val (.int p0), .val (.int p1), .val (.int p2), .val (.int p3), .val (.int b), .val (.ref b2), .val (.ref b12), .val (.int st), .val (.int en), .val (.int cs), .val (.int x2), .unset] [])) (fun _ k => XS.icmpYes X27.here hx rfl (pc0 := 313) (pc' := 319) rfl (hb hby at_313) rfl (teq hc313_37).1 (by decide) (by decide) k) ?_
                exact J319_32 x2 (by rw [h_x2]; unfold own_e; rw [if_pos hc298_34, if_pos hc304_35, if_pos hc313_37])
              · refine Run.st (S' := T27.setTop (mkF m 319 #[.val (.int p0), .val (.int p1), .val (.int p2), .val (.int p3), .val (.int b), .val (.ref b2), .val (.ref b12), .val (.int st), .val (.int en), .val (.int cs), .val (.int (1 : Int32)), .unset] [])) (fun _ k => XS.icmpNo X27.here hx rfl (hb hby at_313) rfl (feq hc313_37).1 (XS.iconst X27.here hx rfl (hb hby at_316) (XS.istore X27.here hx rfl (hb hby at_317) rfl (l' := #[.val (.int p0), .val (.int p1), .val (.int p2), .val (.int p3), .val (.int b), .val (.ref b2), .val (.ref b12), .val (.int st), .val (.int en), .val (.int cs), .val (.int (1 : Int32)), .unset]) rfl k))) ?_
                exact J319_32 (1 : Int32) (by unfold own_e; rw [if_pos hc298_34, if_pos hc304_35, if_neg hc313_37])
            · refine Run.st (S' := T27.setTop (mkF m 319 #[.val (.int p0), .val (.int p1), .val (.int p2), .val (.int p3), .val (.int b), .val (.ref b2), .val (.ref b12), .val (.int st), .val (.int en), .val (.int cs), .val (.int x2), .unset] [])) (fun _ k => XS.icmpYes X27.here hx rfl (pc0 := 304) (pc' := 319) rfl (hb hby at_304) rfl (flt hc304_35).2.1 (by decide) (by decide) k) ?_
              exact J319_32 x2 (by rw [h_x2]; unfold own_e; rw [if_pos hc298_34, if_neg hc304_35])
          · refine Run.st (S' := T27.setTop (mkF m 319 #[.val (.int p0), .val (.int p1), .val (.int p2), .val (.int p3), .val (.int b), .val (.ref b2), .val (.ref b12), .val (.int st), .val (.int en), .val (.int cs), .val (.int x2), .unset] [])) (fun _ k => XS.icmpYes X27.here hx rfl (pc0 := 298) (pc' := 319) rfl (hb hby at_298) rfl (flt hc298_34).2.2.2 (by decide) (by decide) k) ?_
            exact J319_32 x2 (by rw [h_x2]; unfold own_e; rw [if_neg hc298_34])
        refine Run.st (S' := T27.setTop (mkF m 274 #[.val (.int p0), .val (.int p1), .val (.int p2), .val (.int p3), .val (.int b), .val (.ref b2), .val (.ref b12), .val (.int st), .val (.int en), .val (.int cs), .val (.int x3), .unset] [(.int st), (.int (2 : Int32))])) (fun _ k => XS.iconst X27.here hx rfl (hb hby at_271) (XS.iload X27.here hx rfl (hb hby at_272) rfl k)) ?_
        by_cases hc274_38 : st < (2 : Int32)
        · refine Run.st (S' := T27.setTop (mkF m 280 #[.val (.int p0), .val (.int p1), .val (.int p2), .val (.int p3), .val (.int b), .val (.ref b2), .val (.ref b12), .val (.int st), .val (.int en), .val (.int cs), .val (.int x3), .unset] [(.int en), (.int (2 : Int32))])) (fun _ k => XS.icmpNo X27.here hx rfl (hb hby at_274) rfl (tlt hc274_38).2.2.2 (XS.iconst X27.here hx rfl (hb hby at_277) (XS.iload X27.here hx rfl (hb hby at_278) rfl k))) ?_
          by_cases hc280_39 : (2 : Int32) < en
          · refine Run.st (S' := T27.setTop (mkF m 286 #[.val (.int p0), .val (.int p1), .val (.int p2), .val (.int p3), .val (.int b), .val (.ref b2), .val (.ref b12), .val (.int st), .val (.int en), .val (.int cs), .val (.int x3), .unset] [(.int (2 : Int32)), (.ref b2)])) (fun _ k => XS.icmpNo X27.here hx rfl (hb hby at_280) rfl (tlt hc280_39).2.1 (XS.aload X27.here hx rfl (hb hby at_283) rfl rfl (XS.iconst X27.here hx rfl (hb hby at_285) k))) ?_
            obtain ⟨cl40, Ar40, qa40, Sa40, Na40, Ha40, Ga40⟩ := id V_b2
            have hin40 : ¬ ((2 : Int32) < 0 ∨ cl40.slots.size ≤ ((2 : Int32)).toNatClampNeg) := inb_of Sa40 ⟨by decide, by decide⟩
            have hat40 : cl40.slots[((2 : Int32)).toNatClampNeg]? = some (.int c2) := Has.at Ha40 hin40 rfl
            refine Run.st (S' := T27.setTop (mkF m 289 #[.val (.int p0), .val (.int p1), .val (.int p2), .val (.int p3), .val (.int b), .val (.ref b2), .val (.ref b12), .val (.int st), .val (.int en), .val (.int cs), .val (.int x3), .unset] [(.int cs), (.int c2)])) (fun _ k => X27.iaload hx (j := (2 : Int32)) (v := (.int c2)) (by rw [e27]; exact Ar40.1) (State.isArrayOf_alike hZ.alike Ar40.2.1) Ar40.2.2 hin40 hat40 (g := (mkF m 286 #[.val (.int p0), .val (.int p1), .val (.int p2), .val (.int p3), .val (.int b), .val (.ref b2), .val (.ref b12), .val (.int st), .val (.int en), .val (.int cs), .val (.int x3), .unset] [(.int (2 : Int32)), (.ref b2)])) rfl rfl (hb hby at_286) _ (XS.iload X27.here hx rfl (hb hby at_287) rfl k)) ?_
            by_cases hc289_41 : c2 = cs
            · refine Run.st (S' := T27.setTop (mkF m 295 #[.val (.int p0), .val (.int p1), .val (.int p2), .val (.int p3), .val (.int b), .val (.ref b2), .val (.ref b12), .val (.int st), .val (.int en), .val (.int cs), .val (.int x3), .unset] [])) (fun _ k => XS.icmpYes X27.here hx rfl (pc0 := 289) (pc' := 295) rfl (hb hby at_289) rfl (teq hc289_41).1 (by decide) (by decide) k) ?_
              exact J295_31 x3 (by rw [h_x3]; unfold own_e; rw [if_pos hc274_38, if_pos hc280_39, if_pos hc289_41])
            · refine Run.st (S' := T27.setTop (mkF m 295 #[.val (.int p0), .val (.int p1), .val (.int p2), .val (.int p3), .val (.int b), .val (.ref b2), .val (.ref b12), .val (.int st), .val (.int en), .val (.int cs), .val (.int (2 : Int32)), .unset] [])) (fun _ k => XS.icmpNo X27.here hx rfl (hb hby at_289) rfl (feq hc289_41).1 (XS.iconst X27.here hx rfl (hb hby at_292) (XS.istore X27.here hx rfl (hb hby at_293) rfl (l' := #[.val (.int p0), .val (.int p1), .val (.int p2), .val (.int p3), .val (.int b), .val (.ref b2), .val (.ref b12), .val (.int st), .val (.int en), .val (.int cs), .val (.int (2 : Int32)), .unset]) rfl k))) ?_
              exact J295_31 (2 : Int32) (by unfold own_e; rw [if_pos hc274_38, if_pos hc280_39, if_neg hc289_41])
          · refine Run.st (S' := T27.setTop (mkF m 295 #[.val (.int p0), .val (.int p1), .val (.int p2), .val (.int p3), .val (.int b), .val (.ref b2), .val (.ref b12), .val (.int st), .val (.int en), .val (.int cs), .val (.int x3), .unset] [])) (fun _ k => XS.icmpYes X27.here hx rfl (pc0 := 280) (pc' := 295) rfl (hb hby at_280) rfl (flt hc280_39).2.1 (by decide) (by decide) k) ?_
            exact J295_31 x3 (by rw [h_x3]; unfold own_e; rw [if_pos hc274_38, if_neg hc280_39])
        · refine Run.st (S' := T27.setTop (mkF m 295 #[.val (.int p0), .val (.int p1), .val (.int p2), .val (.int p3), .val (.int b), .val (.ref b2), .val (.ref b12), .val (.int st), .val (.int en), .val (.int cs), .val (.int x3), .unset] [])) (fun _ k => XS.icmpYes X27.here hx rfl (pc0 := 274) (pc' := 295) rfl (hb hby at_274) rfl (flt hc274_38).2.2.2 (by decide) (by decide) k) ?_
          exact J295_31 x3 (by rw [h_x3]; unfold own_e; rw [if_neg hc274_38])
      refine Run.st (S' := T27.setTop (mkF m 250 #[.val (.int p0), .val (.int p1), .val (.int p2), .val (.int p3), .val (.int b), .val (.ref b2), .val (.ref b12), .val (.int st), .val (.int en), .val (.int cs), .val (.int x4), .unset] [(.int st), (.int (3 : Int32))])) (fun _ k => XS.iconst X27.here hx rfl (hb hby at_247) (XS.iload X27.here hx rfl (hb hby at_248) rfl k)) ?_
      by_cases hc250_42 : st < (3 : Int32)
      · refine Run.st (S' := T27.setTop (mkF m 256 #[.val (.int p0), .val (.int p1), .val (.int p2), .val (.int p3), .val (.int b), .val (.ref b2), .val (.ref b12), .val (.int st), .val (.int en), .val (.int cs), .val (.int x4), .unset] [(.int en), (.int (3 : Int32))])) (fun _ k => XS.icmpNo X27.here hx rfl (hb hby at_250) rfl (tlt hc250_42).2.2.2 (XS.iconst X27.here hx rfl (hb hby at_253) (XS.iload X27.here hx rfl (hb hby at_254) rfl k))) ?_
        by_cases hc256_43 : (3 : Int32) < en
        · refine Run.st (S' := T27.setTop (mkF m 262 #[.val (.int p0), .val (.int p1), .val (.int p2), .val (.int p3), .val (.int b), .val (.ref b2), .val (.ref b12), .val (.int st), .val (.int en), .val (.int cs), .val (.int x4), .unset] [(.int (3 : Int32)), (.ref b2)])) (fun _ k => XS.icmpNo X27.here hx rfl (hb hby at_256) rfl (tlt hc256_43).2.1 (XS.aload X27.here hx rfl (hb hby at_259) rfl rfl (XS.iconst X27.here hx rfl (hb hby at_261) k))) ?_
          obtain ⟨cl44, Ar44, qa44, Sa44, Na44, Ha44, Ga44⟩ := id V_b2
          have hin44 : ¬ ((3 : Int32) < 0 ∨ cl44.slots.size ≤ ((3 : Int32)).toNatClampNeg) := inb_of Sa44 ⟨by decide, by decide⟩
          have hat44 : cl44.slots[((3 : Int32)).toNatClampNeg]? = some (.int c3) := Has.at Ha44 hin44 rfl
          refine Run.st (S' := T27.setTop (mkF m 265 #[.val (.int p0), .val (.int p1), .val (.int p2), .val (.int p3), .val (.int b), .val (.ref b2), .val (.ref b12), .val (.int st), .val (.int en), .val (.int cs), .val (.int x4), .unset] [(.int cs), (.int c3)])) (fun _ k => X27.iaload hx (j := (3 : Int32)) (v := (.int c3)) (by rw [e27]; exact Ar44.1) (State.isArrayOf_alike hZ.alike Ar44.2.1) Ar44.2.2 hin44 hat44 (g := (mkF m 262 #[.val (.int p0), .val (.int p1), .val (.int p2), .val (.int p3), .val (.int b), .val (.ref b2), .val (.ref b12), .val (.int st), .val (.int en), .val (.int cs), .val (.int x4), .unset] [(.int (3 : Int32)), (.ref b2)])) rfl rfl (hb hby at_262) _ (XS.iload X27.here hx rfl (hb hby at_263) rfl k)) ?_
          by_cases hc265_45 : c3 = cs
          · refine Run.st (S' := T27.setTop (mkF m 271 #[.val (.int p0), .val (.int p1), .val (.int p2), .val (.int p3), .val (.int b), .val (.ref b2), .val (.ref b12), .val (.int st), .val (.int en), .val (.int cs), .val (.int x4), .unset] [])) (fun _ k => XS.icmpYes X27.here hx rfl (pc0 := 265) (pc' := 271) rfl (hb hby at_265) rfl (teq hc265_45).1 (by decide) (by decide) k) ?_
            exact J271_30 x4 (by rw [h_x4]; unfold own_e; rw [if_pos hc250_42, if_pos hc256_43, if_pos hc265_45])
          · refine Run.st (S' := T27.setTop (mkF m 271 #[.val (.int p0), .val (.int p1), .val (.int p2), .val (.int p3), .val (.int b), .val (.ref b2), .val (.ref b12), .val (.int st), .val (.int en), .val (.int cs), .val (.int (3 : Int32)), .unset] [])) (fun _ k => XS.icmpNo X27.here hx rfl (hb hby at_265) rfl (feq hc265_45).1 (XS.iconst X27.here hx rfl (hb hby at_268) (XS.istore X27.here hx rfl (hb hby at_269) rfl (l' := #[.val (.int p0), .val (.int p1), .val (.int p2), .val (.int p3), .val (.int b), .val (.ref b2), .val (.ref b12), .val (.int st), .val (.int en), .val (.int cs), .val (.int (3 : Int32)), .unset]) rfl k))) ?_
            exact J271_30 (3 : Int32) (by unfold own_e; rw [if_pos hc250_42, if_pos hc256_43, if_neg hc265_45])
        · refine Run.st (S' := T27.setTop (mkF m 271 #[.val (.int p0), .val (.int p1), .val (.int p2), .val (.int p3), .val (.int b), .val (.ref b2), .val (.ref b12), .val (.int st), .val (.int en), .val (.int cs), .val (.int x4), .unset] [])) (fun _ k => XS.icmpYes X27.here hx rfl (pc0 := 256) (pc' := 271) rfl (hb hby at_256) rfl (flt hc256_43).2.1 (by decide) (by decide) k) ?_
          exact J271_30 x4 (by rw [h_x4]; unfold own_e; rw [if_pos hc250_42, if_neg hc256_43])
      · refine Run.st (S' := T27.setTop (mkF m 271 #[.val (.int p0), .val (.int p1), .val (.int p2), .val (.int p3), .val (.int b), .val (.ref b2), .val (.ref b12), .val (.int st), .val (.int en), .val (.int cs), .val (.int x4), .unset] [])) (fun _ k => XS.icmpYes X27.here hx rfl (pc0 := 250) (pc' := 271) rfl (hb hby at_250) rfl (flt hc250_42).2.2.2 (by decide) (by decide) k) ?_
        exact J271_30 x4 (by rw [h_x4]; unfold own_e; rw [if_neg hc250_42])
    refine Run.st (S' := T27.setTop (mkF m 226 #[.val (.int p0), .val (.int p1), .val (.int p2), .val (.int p3), .val (.int b), .val (.ref b2), .val (.ref b12), .val (.int st), .val (.int en), .val (.int cs), .val (.int en), .unset] [(.int st), (.int (4 : Int32))])) (fun _ k => XS.iconst X27.here hx rfl (hb hby at_223) (XS.iload X27.here hx rfl (hb hby at_224) rfl k)) ?_
    by_cases hc226_46 : st < (4 : Int32)
    · refine Run.st (S' := T27.setTop (mkF m 232 #[.val (.int p0), .val (.int p1), .val (.int p2), .val (.int p3), .val (.int b), .val (.ref b2), .val (.ref b12), .val (.int st), .val (.int en), .val (.int cs), .val (.int en), .unset] [(.int en), (.int (4 : Int32))])) (fun _ k => XS.icmpNo X27.here hx rfl (hb hby at_226) rfl (tlt hc226_46).2.2.2 (XS.iconst X27.here hx rfl (hb hby at_229) (XS.iload X27.here hx rfl (hb hby at_230) rfl k))) ?_
      by_cases hc232_47 : (4 : Int32) < en
      · refine Run.st (S' := T27.setTop (mkF m 238 #[.val (.int p0), .val (.int p1), .val (.int p2), .val (.int p3), .val (.int b), .val (.ref b2), .val (.ref b12), .val (.int st), .val (.int en), .val (.int cs), .val (.int en), .unset] [(.int (4 : Int32)), (.ref b2)])) (fun _ k => XS.icmpNo X27.here hx rfl (hb hby at_232) rfl (tlt hc232_47).2.1 (XS.aload X27.here hx rfl (hb hby at_235) rfl rfl (XS.iconst X27.here hx rfl (hb hby at_237) k))) ?_
        obtain ⟨cl48, Ar48, qa48, Sa48, Na48, Ha48, Ga48⟩ := id V_b2
        have hin48 : ¬ ((4 : Int32) < 0 ∨ cl48.slots.size ≤ ((4 : Int32)).toNatClampNeg) := inb_of Sa48 ⟨by decide, by decide⟩
        have hat48 : cl48.slots[((4 : Int32)).toNatClampNeg]? = some (.int c4) := Has.at Ha48 hin48 rfl
        refine Run.st (S' := T27.setTop (mkF m 241 #[.val (.int p0), .val (.int p1), .val (.int p2), .val (.int p3), .val (.int b), .val (.ref b2), .val (.ref b12), .val (.int st), .val (.int en), .val (.int cs), .val (.int en), .unset] [(.int cs), (.int c4)])) (fun _ k => X27.iaload hx (j := (4 : Int32)) (v := (.int c4)) (by rw [e27]; exact Ar48.1) (State.isArrayOf_alike hZ.alike Ar48.2.1) Ar48.2.2 hin48 hat48 (g := (mkF m 238 #[.val (.int p0), .val (.int p1), .val (.int p2), .val (.int p3), .val (.int b), .val (.ref b2), .val (.ref b12), .val (.int st), .val (.int en), .val (.int cs), .val (.int en), .unset] [(.int (4 : Int32)), (.ref b2)])) rfl rfl (hb hby at_238) _ (XS.iload X27.here hx rfl (hb hby at_239) rfl k)) ?_
        by_cases hc241_49 : c4 = cs
        · refine Run.st (S' := T27.setTop (mkF m 247 #[.val (.int p0), .val (.int p1), .val (.int p2), .val (.int p3), .val (.int b), .val (.ref b2), .val (.ref b12), .val (.int st), .val (.int en), .val (.int cs), .val (.int en), .unset] [])) (fun _ k => XS.icmpYes X27.here hx rfl (pc0 := 241) (pc' := 247) rfl (hb hby at_241) rfl (teq hc241_49).1 (by decide) (by decide) k) ?_
          exact J247_29 en (by unfold own_e; rw [if_pos hc226_46, if_pos hc232_47, if_pos hc241_49])
        · refine Run.st (S' := T27.setTop (mkF m 247 #[.val (.int p0), .val (.int p1), .val (.int p2), .val (.int p3), .val (.int b), .val (.ref b2), .val (.ref b12), .val (.int st), .val (.int en), .val (.int cs), .val (.int (4 : Int32)), .unset] [])) (fun _ k => XS.icmpNo X27.here hx rfl (hb hby at_241) rfl (feq hc241_49).1 (XS.iconst X27.here hx rfl (hb hby at_244) (XS.istore X27.here hx rfl (hb hby at_245) rfl (l' := #[.val (.int p0), .val (.int p1), .val (.int p2), .val (.int p3), .val (.int b), .val (.ref b2), .val (.ref b12), .val (.int st), .val (.int en), .val (.int cs), .val (.int (4 : Int32)), .unset]) rfl k))) ?_
          exact J247_29 (4 : Int32) (by unfold own_e; rw [if_pos hc226_46, if_pos hc232_47, if_neg hc241_49])
      · refine Run.st (S' := T27.setTop (mkF m 247 #[.val (.int p0), .val (.int p1), .val (.int p2), .val (.int p3), .val (.int b), .val (.ref b2), .val (.ref b12), .val (.int st), .val (.int en), .val (.int cs), .val (.int en), .unset] [])) (fun _ k => XS.icmpYes X27.here hx rfl (pc0 := 232) (pc' := 247) rfl (hb hby at_232) rfl (flt hc232_47).2.1 (by decide) (by decide) k) ?_
        exact J247_29 en (by unfold own_e; rw [if_pos hc226_46, if_neg hc232_47])
    · refine Run.st (S' := T27.setTop (mkF m 247 #[.val (.int p0), .val (.int p1), .val (.int p2), .val (.int p3), .val (.int b), .val (.ref b2), .val (.ref b12), .val (.int st), .val (.int en), .val (.int cs), .val (.int en), .unset] [])) (fun _ k => XS.icmpYes X27.here hx rfl (pc0 := 226) (pc' := 247) rfl (hb hby at_226) rfl (flt hc226_46).2.2.2 (by decide) (by decide) k) ?_
      exact J247_29 en (by unfold own_e; rw [if_neg hc226_46])
  refine Run.st (S' := s₁.setTop (mkF m 7 #[.val (.int p0), .val (.int p1), .val (.int p2), .val (.int p3), .val (.int p0), .unset, .unset, .unset, .unset, .unset, .unset, .unset] [(.int (2147483643 : Int32)), (.int p0)])) (fun _ k => XS.iload X0.here hx rfl (hb hby at_3) rfl (X0.ldcInt hx hown (mvT hZ (hw _ (List.mem_of_getElem? (i := 0) rfl))) (g := (mkF m 5 #[.val (.int p0), .val (.int p1), .val (.int p2), .val (.int p3), .val (.int p0), .unset, .unset, .unset, .unset, .unset, .unset, .unset] [(.int p0)])) rfl (hb hby at_5) _ k)) ?_
  by_cases hc7_50 : (2147483643 : Int32) < p0
  · refine Run.st (S' := s₁.setTop (mkF m 16 #[.val (.int p0), .val (.int p1), .val (.int p2), .val (.int p3), .val (.int (p0 - (4 : Int32))), .unset, .unset, .unset, .unset, .unset, .unset, .unset] [])) (fun _ k => XS.icmpNo X0.here hx rfl (hb hby at_7) rfl (tlt hc7_50).2.2.2 (XS.iload X0.here hx rfl (hb hby at_10) rfl (XS.iconst X0.here hx rfl (hb hby at_12) (XS.isub X0.here hx rfl (hb hby at_13) rfl (XS.istore X0.here hx rfl (hb hby at_14) rfl (l' := #[.val (.int p0), .val (.int p1), .val (.int p2), .val (.int p3), .val (.int (p0 - (4 : Int32))), .unset, .unset, .unset, .unset, .unset, .unset, .unset]) rfl k))))) ?_
    exact J16_1 (p0 - (4 : Int32)) trivial
  · refine Run.st (S' := s₁.setTop (mkF m 16 #[.val (.int p0), .val (.int p1), .val (.int p2), .val (.int p3), .val (.int p0), .unset, .unset, .unset, .unset, .unset, .unset, .unset] [])) (fun _ k => XS.icmpYes X0.here hx rfl (pc0 := 7) (pc' := 16) rfl (hb hby at_7) rfl (flt hc7_50).2.2.2 (by decide) (by decide) k) ?_
    exact J16_1 p0 trivial
set_option maxRecDepth 65536 in
set_option maxHeartbeats 40000000 in
theorem comes_1 {Post : Tables → Env → Array Value → State → Outcome → State → Prop} (hpost : ∀ tb e args s v u, (limb_1_1.after args s (.returned v) u = true ∧ limb_1_2.after args s (.returned v) u = true ∧ True) → FrameEnd s (.returned v) u (Jvm.fieldLocs frame_1_writes args s ++ Jvm.arrayLocs frame_1_arrays args s ++ Jvm.staticLocs frame_1_statics s) 16 128 → Post tb e args s (.returned v) u) :
    ArmFor flags0 classFile x code maxLocals ret World_1 tables_1 room_1 Calls_1 rest_1 Pre_1 Post := by
  intro l hfl _ _ p e ha hc hk s m args below hf hA hF happ hP
  obtain ⟨hcalls, hrest, hpre⟩ := hP
  obtain ⟨-, -, -, hnamed, -, -, -, hat⟩ := (Spec.applies_iff hf).mp happ
  obtain ⟨hg, hn⟩ := and_e (Cond.before_iff.mp (show (Jvm.Cond.and given_1 narrow_1).before args s = true from hpre))
  obtain ⟨gv1, gv2⟩ := and_e hg
  obtain ⟨gv3, gv4⟩ := and_e gv2
  obtain ⟨gv5, gv6⟩ := and_e gv4
  obtain ⟨gv7, gv8⟩ := and_e gv6
  obtain ⟨w0, w1, w2, w3, rfl⟩ : ∃ w0 w1 w2 w3 : Value, args = #[w0, w1, w2, w3] := by
    have hs : args.size = 4 := by simpa [Cond.value, given_1] using gv1
    obtain ⟨L⟩ := args
    match L, hs with
    | [w0, w1, w2, w3], _ => exact ⟨w0, w1, w2, w3, rfl⟩
  have hw := fun d (hd : d ∈ tables_1) => atoms_spec (ws := Jvm.Cond.code x code maxLocals ret :: tables_1) hat d (List.mem_cons_of_mem _ hd)
  have hfit : Fit s := fun {y c} hc i hi => by
    obtain ⟨ha, rfl⟩ := Array.getElem?_eq_some_iff.mp hc
    have q := List.all_eq_true.mp ((Array.all_eq_true_iff_forall_mem.mp hF) _ (Array.getElem_mem ha)) i (List.mem_range.mpr hi)
    simpa [Array.getElem?_eq_getElem hi] using q
  obtain ⟨i0, ei0⟩ := is_v gv3
  obtain rfl : w0 = (.int i0) := Option.some.inj ei0
  obtain ⟨i1, ei1⟩ := is_v gv5
  obtain rfl : w1 = (.int i1) := Option.some.inj ei1
  obtain ⟨i2, ei2⟩ := is_v gv7
  obtain rfl : w2 = (.int i2) := Option.some.inj ei2
  obtain ⟨i3, ei3⟩ := is_v gv8
  obtain rfl : w3 = (.int i3) := Option.some.inj ei3
  obtain ⟨n, o, h1, h2, h3, _, L, rfl, ⟨rfl, N⟩, hq⟩ := rm0 l s _ hw tables_1 i0 i1 i2 i3 s.heap s.heap.size (Nat.le_refl _)  p e ha hc hk s m _ below hf ((Spec.applies_iff_loose hf).mp happ).1 ⟨rfl, State.Warmed39.refl s, rfl⟩ trivial
  refine ⟨n, _, h1, h2, h3, hpost _ _ _ _ _ _ ⟨Cond.after_iff.mpr rfl, Cond.after_iff.mpr (eq_i res_at (Term.int_eval (1)) rfl), trivial⟩ ⟨hq.1, hq.2.1, (hq.2.2.sift fun y hy => Or.inr (N y hy)).mono (by decide) (by decide)⟩⟩
theorem main_1_1 : Claimed_1_1 := comes_1 fun _ _ _ _ _ _ h hF => ⟨h.1, hF⟩
theorem main_1_2 : Claimed_1_2 := comes_1 fun _ _ _ _ _ _ h hF => ⟨h.2.1, hF⟩
end Jvm.Pilot.@@N@@
namespace Jvm.Pilot.@@N@@
open Jvm Jvm.ClassFile Sem Op Lib Jvm.Free Jvm.Stand Jvm.Pilot.@@N@@.Jvm.D
/-! MADE BY PROGRAM (witnessworld.py) out of the Statement's table words and the real class files: 11 classes; the members and pool entries that the words name. The judged class is class 1, her method 2. -/
namespace start1
open Jvm.ClassFile
def u (s : String) : CpInfo := .utf8 (stringToUtf16 s)
/-- a pool by its gaps: so many unusable entries, then the entry; so many at the end -/
def gap : Nat → List CpInfo → List CpInfo
  | 0, r => r
  | n + 1, r => .unusable :: gap n r
def poolList (es : List (Nat × CpInfo)) (last : Nat) : List CpInfo := es.foldr (fun e r => gap e.1 (e.2 :: r)) (gap last [])
def pool (es : List (Nat × CpInfo)) (last : Nat) : Array CpInfo := ⟨poolList es last⟩
def fileOf (pool : Array CpInfo) (this : Nat) (attrs : Array Attribute := #[]) (ms : Array MethodInfo := #[]) (fl : Nat := 33) (sup : Nat := 0) (ifs : Array Nat := #[]) (fds : Array FieldInfo := #[]) : ClassFile where
  minorVersion := 0
  majorVersion := 65
  constantPool := pool
  accessFlags := fl
  thisClass := this
  superClass := sup
  interfaces := ifs
  fields := fds
  methods := ms
  attributes := attrs
def plain (name : String) (sup : Option ClassId) : Class where
  name := name
  kind := .ordinary
  loader := none
  accessFlags := 33
  super := sup
  interfaces := #[]
  cf := none
  fields := #[]
  methods := #[]
  instanceTypes := #[]
  staticTypes := #[]
  resolved := #[]
  callSites := []
  init := .initialized
  statics := none
  mirror := none

def pool0 : Array CpInfo := pool [(5, u "<init>"), (0, u "()V"), (1, .class_ 10), (1, u "java/lang/Object")] 113

def k0m0 : Method := { name := "<init>", desc := "()V", sig := { parameters := [], returnType := none }, accessFlags := 1, code := none }
/-- java/lang/Object -/
def k0 : Class := { plain "java/lang/Object" none with
  accessFlags := 33
  interfaces := #[]
  cf := some (fileOf pool0 8 #[] #[{ accessFlags := 1, nameIndex := 5, descriptorIndex := 6, attributes := #[] }] 33 0 #[] #[])
  fields := #[]
  methods := #[k0m0]
  instanceTypes := #[]
  staticTypes := #[]
  resolved := Array.replicate 124 none
  statics := none }

def pool1 : Array CpInfo := pool [(2, .class_ 4), (1, u "java/lang/Object"), (0, u "<init>"), (0, u "()V"), (2, .integer 2147483643), (0, .integer 2147483647), (0, .methodref 12 13), (0, .class_ 14), (0, .nameAndType 15 16), (0, u "org/succession/PlacesRunEndPinLaw"), (0, u "pack"), (0, u "(II)J"), (0, .methodref 18 19), (0, .class_ 20), (0, .nameAndType 21 22), (0, u "org/succession/Places"), (0, u "runEnd"), (0, u "([JII)I"), (2, u "law"), (0, u "(IIII)Z")] 7

def k1m0 : Method := { name := "<init>", desc := "()V", sig := { parameters := [], returnType := none }, accessFlags := 2, code := none }
def k1c1 : Code := { maxStack := 4, maxLocals := 2, code := method_2_code, exceptionTable := #[], attributes := #[] }
def k1m1 : Method := { name := "pack", desc := "(II)J", sig := { parameters := [.int, .int], returnType := some .long }, accessFlags := 10, code := some k1c1 }
def k1c2 : Code := { maxStack := 6, maxLocals := 12, code := code, exceptionTable := #[], attributes := #[] }
def k1m2 : Method := { name := "law", desc := "(IIII)Z", sig := { parameters := [.int, .int, .int, .int], returnType := some .boolean }, accessFlags := 9, code := some k1c2 }
/-- org/succession/PlacesRunEndPinLaw -/
def k1 : Class := { plain "org/succession/PlacesRunEndPinLaw" (some 0) with
  accessFlags := 49
  interfaces := #[]
  cf := some (fileOf pool1 12 #[] #[{ accessFlags := 2, nameIndex := 5, descriptorIndex := 6, attributes := #[] }, { accessFlags := 10, nameIndex := 15, descriptorIndex := 16, attributes := #[] }, { accessFlags := 9, nameIndex := 25, descriptorIndex := 26, attributes := #[] }] 49 2 #[] #[])
  fields := #[]
  methods := #[k1m0, k1m1, k1m2]
  instanceTypes := #[]
  staticTypes := #[]
  resolved := Array.replicate 34 none
  statics := none }

def pool2 : Array CpInfo := pool [(2, .class_ 4), (1, u "java/lang/Object"), (0, u "<init>"), (0, u "()V"), (2, .methodref 10 11), (0, .class_ 12), (0, .nameAndType 13 14), (0, u "org/succession/Places"), (0, u "key"), (0, u "(J)I"), (5, u "runEnd"), (0, u "([JII)I")] 3

def k2m0 : Method := { name := "<init>", desc := "()V", sig := { parameters := [], returnType := none }, accessFlags := 2, code := none }
def k2c1 : Code := { maxStack := 3, maxLocals := 2, code := prog_18_method_3_code, exceptionTable := #[], attributes := #[] }
def k2m1 : Method := { name := "key", desc := "(J)I", sig := { parameters := [.long], returnType := some .int }, accessFlags := 8, code := some k2c1 }
def k2c2 : Code := { maxStack := 2, maxLocals := 5, code := prog_18_method_5_code, exceptionTable := #[], attributes := #[] }
def k2m2 : Method := { name := "runEnd", desc := "([JII)I", sig := { parameters := [(.array .long), .int, .int], returnType := some .int }, accessFlags := 8, code := some k2c2 }
/-- org/succession/Places -/
def k2 : Class := { plain "org/succession/Places" (some 0) with
  accessFlags := 48
  interfaces := #[]
  cf := some (fileOf pool2 10 #[] #[{ accessFlags := 2, nameIndex := 5, descriptorIndex := 6, attributes := #[] }, { accessFlags := 8, nameIndex := 13, descriptorIndex := 14, attributes := #[] }, { accessFlags := 8, nameIndex := 20, descriptorIndex := 21, attributes := #[] }] 48 2 #[] #[])
  fields := #[]
  methods := #[k2m0, k2m1, k2m2]
  instanceTypes := #[]
  staticTypes := #[]
  resolved := Array.replicate 25 none
  statics := none }

def pool3 : Array CpInfo := pool [(1, u "java/lang/Cloneable"), (0, .class_ 1), (0, u "java/lang/Object"), (0, .class_ 3)] 3

/-- java/lang/Cloneable -/
def k3 : Class := { plain "java/lang/Cloneable" (some 0) with
  accessFlags := 1537
  interfaces := #[]
  cf := some (fileOf pool3 2 #[] #[] 1537 4 #[] #[])
  fields := #[]
  methods := #[]
  instanceTypes := #[]
  staticTypes := #[]
  resolved := Array.replicate 8 none
  statics := none }

def pool4 : Array CpInfo := pool [(1, u "java/io/Serializable"), (0, .class_ 1), (0, u "java/lang/Object"), (0, .class_ 3)] 3

/-- java/io/Serializable -/
def k4 : Class := { plain "java/io/Serializable" (some 0) with
  accessFlags := 1537
  interfaces := #[]
  cf := some (fileOf pool4 2 #[] #[] 1537 4 #[] #[])
  fields := #[]
  methods := #[]
  instanceTypes := #[]
  staticTypes := #[]
  resolved := Array.replicate 8 none
  statics := none }

/-- the primitive byte -/
def k5 : Class := { plain "byte" none with kind := .primitive 'B', accessFlags := 0x411 }
/-- [B -/
def k6 : Class := { plain "[B" (some 0) with kind := .array 5 .byte, interfaces := #[3, 4], accessFlags := 1041 }

/-- the primitive int -/
def k7 : Class := { plain "int" none with kind := .primitive 'I', accessFlags := 0x411 }
/-- [I -/
def k8 : Class := { plain "[I" (some 0) with kind := .array 7 .int, interfaces := #[3, 4], accessFlags := 1041 }

/-- the primitive long -/
def k9 : Class := { plain "long" none with kind := .primitive 'J', accessFlags := 0x411 }
/-- [J -/
def k10 : Class := { plain "[J" (some 0) with kind := .array 9 .long, interfaces := #[3, 4], accessFlags := 1041 }

def heap : Heap := #[]
def classes : Array Class := #[k0, k1, k2, k3, k4, k5, k6, k7, k8, k9, k10]
def interned : List (Array UInt16 × Addr) := []
def slotsUsed : Nat := 0
def theMethod : MethodId := ⟨1, 2⟩
def args0 : Array Value := #[.int 3, .int 1, .int 5, .int 6]
def aboutOver (below : List Frame) : State where
  vm := { classes := classes, interned := interned.toArray }
  heap := heap
  slotsUsed := slotsUsed
  threads := #[{ frames := .invoking theMethod args0 :: below }]
def below0 : List Frame := [.native { method := ⟨0, 0⟩, args := #[] }]
def about1 : State := aboutOver below0
def p0 : Program := .bare "" "" ""
def e0 : Env := launch0.env 0 0 0
theorem w_frames : about1.frames = Frame.invoking theMethod args0 :: below0 := rfl
set_option maxRecDepth 65536 in
theorem w_args : argsFit about1.vm theMethod args0 = true := by decide +kernel
set_option maxRecDepth 65536 in
theorem w_heap : heapFits about1 = true := by decide +kernel
set_option maxRecDepth 65536 in
theorem w_runnable : about1.curStatus? = some .runnable := by decide +kernel
set_option maxRecDepth 65536 in
theorem w_alone : about1.alone = true := by decide +kernel
set_option maxRecDepth 65536 in
theorem w_named : about1.methodNamed? x = some theMethod := by decide +kernel
set_option maxRecDepth 65536 in
theorem w_hears : about1.hears theMethod below0 = true := by decide +kernel
set_option maxRecDepth 65536 in
theorem w_ripe : about1.ripe theMethod args0 below0 = true := by decide +kernel
theorem w_running : about1.status = .running := rfl
set_option maxRecDepth 65536 in
theorem w_room : about1.hasRoom e0.platform room_1 = true :=
  launch0.hasRoom_least _ room_1 (by decide +kernel) (by decide +kernel) (by decide +kernel) (by decide +kernel) (by decide +kernel) (by decide +kernel)
theorem allAtoms_all (ts : List Jvm.Cond) (a : Array Jvm.Value) (st : Jvm.State) : (allAtoms ts).before a st = ts.all (fun c => c.before a st) := by
  induction ts with
  | nil => rfl
  | cons c t ih =>
    show (Jvm.Cond.and c (allAtoms t)).before a st = _
    rw [Jvm.Cond.before_and, ih, List.all_cons]
def words1 : List Jvm.Cond := Jvm.Cond.code x code maxLocals ret :: tables_1
/-- a 'code' word, met by the world's own term for the bytes: nothing is compared byte by byte -/
theorem code_word {y : MethodName} {bytes : ByteArray} {mx : Nat} {rt : Option FieldType} {a : Array Value} {s : State} {m : MethodId} {meth : Method} {c : Code} (h1 : s.methodNamed? y = some m) (h2 : s.vm.method? m = some meth) (h3 : meth.code = some c) (h4 : c.code = bytes)
    (h5 : (c.maxLocals == mx && c.exceptionTable.isEmpty && decide (c.maxStack ≤ mostOperands) && decide (meth.sig.returnType = rt) && !meth.locks && decide (parseMethodDescriptor y.desc = some meth.sig)) = true) : (Jvm.Cond.code y bytes mx rt).before a s = true := by
  simp only [Bool.and_eq_true, beq_iff_eq, Bool.not_eq_true', decide_eq_true_eq] at h5
  obtain ⟨⟨⟨⟨⟨g1, g2⟩, g3⟩, g4⟩, g5⟩, g6⟩ := h5
  simp [Cond.before, Cond.holds, Cond.value, h1, h2, h3, h4, g1, g2, g3, g4, g5, g6]
def isCode : Jvm.Cond → Bool
  | .code _ _ _ _ => true
  | _ => false
theorem all_split {L : List Jvm.Cond} {P : Jvm.Cond → Bool} (h1 : L.all (fun c => isCode c || P c) = true) (h2 : ∀ c ∈ L.filter isCode, P c = true) : L.all P = true := by
  refine List.all_eq_true.mpr fun c hc => ?_
  have h := List.all_eq_true.mp h1 c hc
  rcases Bool.eq_false_or_eq_true (isCode c) with hi | hi
  · exact h2 c (List.mem_filter.mpr ⟨hc, hi⟩)
  · simpa [hi] using h
set_option maxRecDepth 65536 in
theorem w_c0 : (Jvm.Cond.code x code maxLocals ret).before args0 about1 = true := code_word (m := ⟨1, 2⟩) (meth := k1m2) (c := k1c2) (by decide +kernel) rfl rfl rfl (by decide +kernel)
set_option maxRecDepth 65536 in
theorem w_c1 : (Jvm.Cond.code ({ cls := "org/succession/PlacesRunEndPinLaw", name := "pack", desc := "(II)J" } : Jvm.MethodName) method_2_code (2 : Nat) (Option.some Jvm.ClassFile.FieldType.long)).before args0 about1 = true := code_word (m := ⟨1, 1⟩) (meth := k1m1) (c := k1c1) (by decide +kernel) rfl rfl rfl (by decide +kernel)
set_option maxRecDepth 65536 in
theorem w_c2 : (Jvm.Cond.code ({ cls := "org/succession/Places", name := "runEnd", desc := "([JII)I" } : Jvm.MethodName) prog_18_method_5_code (5 : Nat) (Option.some Jvm.ClassFile.FieldType.int)).before args0 about1 = true := code_word (m := ⟨2, 2⟩) (meth := k2m2) (c := k2c2) (by decide +kernel) rfl rfl rfl (by decide +kernel)
set_option maxRecDepth 65536 in
theorem w_c3 : (Jvm.Cond.code ({ cls := "org/succession/Places", name := "key", desc := "(J)I" } : Jvm.MethodName) prog_18_method_3_code (2 : Nat) (Option.some Jvm.ClassFile.FieldType.int)).before args0 about1 = true := code_word (m := ⟨2, 1⟩) (meth := k2m1) (c := k2c1) (by decide +kernel) rfl rfl rfl (by decide +kernel)
def codes1 : List Jvm.Cond := [Jvm.Cond.code x code maxLocals ret, Jvm.Cond.code ({ cls := "org/succession/PlacesRunEndPinLaw", name := "pack", desc := "(II)J" } : Jvm.MethodName) method_2_code (2 : Nat) (Option.some Jvm.ClassFile.FieldType.long), Jvm.Cond.code ({ cls := "org/succession/Places", name := "runEnd", desc := "([JII)I" } : Jvm.MethodName) prog_18_method_5_code (5 : Nat) (Option.some Jvm.ClassFile.FieldType.int), Jvm.Cond.code ({ cls := "org/succession/Places", name := "key", desc := "(J)I" } : Jvm.MethodName) prog_18_method_3_code (2 : Nat) (Option.some Jvm.ClassFile.FieldType.int)]
set_option maxRecDepth 65536 in
theorem codes_eq : words1.filter isCode = codes1 := rfl
theorem w_codes : ∀ c ∈ words1.filter isCode, c.before args0 about1 = true := by
  rw [codes_eq]
  intro c hc
  simp only [codes1, List.mem_cons, List.not_mem_nil, or_false] at hc
  rcases hc with rfl | rfl | rfl | rfl
  · exact w_c0
  · exact w_c1
  · exact w_c2
  · exact w_c3
set_option maxRecDepth 65536 in
theorem w_t1 : words1.all (fun c => isCode c || c.before args0 about1) = true := by decide +kernel
theorem w_tables : (allAtoms (Jvm.Cond.code x code maxLocals ret :: tables_1)).before args0 about1 = true := by
  rw [allAtoms_all]
  show words1.all (fun c => c.before args0 about1) = true
  refine all_split ?_ w_codes
  rw [w_t1]
set_option maxRecDepth 65536 in
theorem w_case : (Jvm.Cond.and given_1 narrow_1).before args0 about1 = true := by decide +kernel
theorem w_applies : (headSpec (Jvm.Cond.code x code maxLocals ret :: tables_1) room_1).applies x e0.platform about1 = true :=
  (Spec.applies_iff w_frames).mpr ⟨w_running, w_runnable, w_alone, w_named, w_hears, w_ripe, w_room, w_tables⟩
theorem atStart : AtStart classFile x code maxLocals ret World_1 tables_1 room_1 Calls_1 rest_1 Pre_1 launch0 p0 e0 about1 theMethod args0 below0 :=
  ⟨lists_1, trivial, launch0.admits_env _ _ _, launch0.least_env, fairChoices_fair.cas, fairChoices_fair.clock, w_frames, w_args, w_heap, w_applies, trivial, trivial, w_case⟩
end start1
theorem witness_1 : WitnessClaimed_1 := ⟨start1.p0, start1.e0, start1.about1, start1.theMethod, start1.args0, start1.below0, start1.atStart⟩
end Jvm.Pilot.@@N@@
