import JvmDerived
import JvmDerived.Pilot.@@N@@Statement
import JvmDerived.Pilot.@@N@@Code
set_option linter.unusedVariables false
set_option linter.unusedSimpArgs false
namespace Jvm.Pilot.@@N@@
open Jvm Jvm.ClassFile Sem Op Lib Jvm.Free Jvm.Stand Jvm.LawKit Jvm.RoadKit Bundle Jvm.Pilot.@@N@@.Jvm.D
section OwnRun
variable {p : Program} {l : Launch} {e : Env} {R : Room} {s : State} {m : MethodId} {args : Array Value} {below : List Frame} {meth : Method} {c : Code} {T : State} {locs : List Loc} {cells slots : Nat}
/-- from S the run comes to its end, and there Q holds -/
def Run (p : Program) (e : Env) (below : List Frame) (Q : State → Outcome → Prop) (S : State) : Prop := ∃ s₂ o, Steps p.tables e below S s₂ ∧ s₂.status = .running ∧ Ended s₂ below o ∧ Q s₂ o
def Ends (s : State) (Qb : Option Value → Heap → List Loc → Prop) (C S : Nat) : State → Outcome → Prop := fun s₂ o => ∃ v L, o = .returned v ∧ Qb v s₂.heap L ∧ FrameEnd s o s₂ L C S
theorem Run.st {Q : State → Outcome → Prop} {S S' : State} (h : ∀ t, Steps p.tables e below S' t → Steps p.tables e below S t) (r : Run p e below Q S') : Run p e below Q S := by
  obtain ⟨a, b, c, d⟩ := r
  exact ⟨a, b, h _ c, d⟩
theorem Run.out (X : Stand p l e R s m args below meth c T locs cells slots) (hx : p.tables.exec = Jvm.exec) {Qb : Option Value → Heap → List Loc → Prop} {C S : Nat} {pc : Nat} {Ls : Array Slot} {w : Value} {t : FieldType} {i : Instr} {rest : List Value} (hlocks : meth.locks = false) (hret : meth.sig.returnType = some t) (hn : narrow t w = w)
    (hi : (i = .ireturn ∧ (t = .int ∨ t = .boolean ∨ t = .byte ∨ t = .char ∨ t = .short) ∧ ∃ z, w = .int z) ∨ (i = .lreturn ∧ t = .long ∧ ∃ z, w = .long z) ∨ (i = .dreturn ∧ t = .double ∧ ∃ z, w = .double z) ∨ (i = .freturn ∧ t = .float ∧ ∃ z, w = .float z) ∨ (i = .areturn ∧ t.isReference = true ∧ w.isRef = true))
    (hd : decode c.code pc = .ok (i, 1)) (hC : cells ≤ C) (hS : slots ≤ S) (hq : Qb (some w) T.heap locs) : Run p e below (Ends s Qb C S) (T.setTop (mkF m pc Ls (w :: rest))) := by
  obtain ⟨fs, hr, hrun, hended, hW, hsame⟩ := X.leave (v := some w) (fun h => by rw [hret] at h; cases h) hlocks
  exact ⟨_, _, retOut X hx hret hn hi hd hr, hrun, hended, _, _, rfl, hq, ⟨_, rfl⟩, hW, hsame.mono hC hS⟩
theorem Run.outV (X : Stand p l e R s m args below meth c T locs cells slots) (hx : p.tables.exec = Jvm.exec) {Qb : Option Value → Heap → List Loc → Prop} {C S : Nat} {pc : Nat} {Ls : Array Slot} (hlocks : meth.locks = false) (hret : meth.sig.returnType = none)
    (hd : decode c.code pc = .ok (.return_, 1)) (hC : cells ≤ C) (hS : slots ≤ S) (hq : Qb none T.heap locs) : Run p e below (Ends s Qb C S) (T.setTop (mkF m pc Ls [])) := by
  obtain ⟨fs, hr, hrun, hended, hW, hsame⟩ := X.leave (v := none) (fun _ => rfl) hlocks
  exact ⟨_, _, X.returnOut hx hret hd hr, hrun, hended, _, _, rfl, hq, ⟨_, rfl⟩, hW, hsame.mono hC hS⟩
theorem lcYes {cd : ClassFile.Cond} {x y : Int64} {b : Bool} (h : ifCond.holds cd (Jvm.Free.XT.cmpL x y) = b) : ifCond.holds cd (lcmpW x y) = b := h
theorem nb01 {P : Prop} [Decidable P] : narrow .boolean (.int (if P then (1 : Int32) else (0 : Int32))) = .int (if P then (1 : Int32) else (0 : Int32)) := by split <;> rfl
theorem staK {Z : State} {h h' : Heap} {C n d : String} {v : Value} {ws : List Addr} (F : Sta Z h C n d v) (K : Keep h h' ws) (q : ∀ x ∈ ws, ∀ c : Cell, h[x]? = some c → c.vm.isStatics = false) : Sta Z h' C n d v := by
  obtain ⟨cf, i, k, f, st, cell, h1, h2, h3, h4, h5, h6, h7⟩ := F
  refine ⟨cf, i, k, f, st, cell, h1, h2, h3, h4, K.2.1 st cell h5 (fun m => ?_), h6, h7⟩
  have := q st m cell h5
  rw [h6] at this
  cases this
theorem exaP {Z : State} {h : Heap} {a : Addr} {C : String} (E : Exa Z h a C) : ∀ c : Cell, h[a]? = some c → c.vm.isStatics = false := fun c hc => by
  obtain ⟨cell, k, h1, -, -, h4, -⟩ := E
  cases h1.symm.trans hc
  exact h4
theorem arvP {Z : State} {h : Heap} {a : Addr} {k : ClassId} {ty : FieldType} {n : Int32} {vs : List Value} {d : Value} (E : Arv Z h a k ty n vs d) : ∀ c : Cell, h[a]? = some c → c.vm.isStatics = false := fun c hc => by
  obtain ⟨cell, A, -⟩ := E
  cases A.1.symm.trans hc
  exact A.plain
theorem selSelf {s : State} {args : Array Value} {y : MethodName} {n : Nat} (wi : (Jvm.Cond.instantiable y.cls n).before args s = true) (hp : s.PrivateAt y) (hi : (Jvm.Cond.instanceMethod y).before args s = true) (hy : y.cls ≠ "java/lang/invoke/MethodHandle" ∧ y.cls ≠ "java/lang/invoke/VarHandle") : (Jvm.Cond.selects y.cls y y).before args s = true := by
  obtain ⟨c, k, h1, h2, -, h4, -⟩ := Cond.instantiable_spec wi
  rw [Bool.or_eq_false_iff] at h4
  exact selects_self_of_private h1 h2 h4.1 hp hi hy
theorem own_lsw {tb : Tables} [Ours tb] {e : Env} {below : List Frame} {T target : State} {m : MethodId} {c : Code} {g : JFrame} (h : At T m c below) (hx : tb.exec = Jvm.exec) (hg : g.method = m) {dflt : Int} {ps : Array (Int × Int)} {len : Nat} {o : Int} {pc0 pc' : Nat} (hpc : g.pc = pc0) (hd : decode c.code g.pc = .ok (.lookupswitch dflt ps, len)) {i : Int32} {rest : List Value} (hs : g.stack = .int i :: rest)
    (hsort : ∀ q ∈ ps.toList.zip ps.toList.tail, q.1.1 < q.2.1) (hoff : lookupswitch.offset ps.toList dflt i.toInt = o) (ho : 0 ≤ (pc0 : Int) + o) (hp : ((pc0 : Int) + o).toNat = pc')
    (hr : Steps tb e below (T.setTop { g with pc := pc', stack := rest }) target) : Steps tb e below (T.setTop g) target := by
  subst hg hpc hp
  jvm_step h [h.top, hx, hd, hs, hoff, ho, lookupswitch.wp_chain]
  exact ⟨fun a b a1 b1 q => hsort _ q, hr⟩
theorem ord_v {args : Array Value} {s : State} {t : Term} {C n d : String} {k : Int32} {a : Addr} (ht : t.eval args s none [] s = some (.ref a)) (h : (Jvm.Cond.eq (.field t C n d) (.int k)).value args s none s [] = some true) : Fld s s.heap a C n d (.int k) := by
  refine Fld.start ?_
  rw [← fld_at (C := C) (n := n) (dd := d) ht]
  simp only [Cond.value] at h
  cases hv : (Term.field t C n d).eval args s none [] s with
  | none => simp [hv] at h
  | some v => cases v <;> simp_all [Term.eval]
theorem arr_len {args : Array Value} {s : State} {t : Term} {a : Addr} {cl : Cell} {ty : FieldType} {n : Int32} (ht : t.eval args s none [] s = some (.ref a)) (A : Arr s s.heap a cl ty) (h : (Jvm.Cond.eq (.length t) (.int n)).value args s none s [] = some true) : cl.slots.size < 2 ^ 31 ∧ cl.slots.size.toInt32 = n := by
  have ha := A.fin (Vm.Alike.refl s.vm)
  by_cases q : cl.slots.size < 2 ^ 31
  · refine ⟨q, ?_⟩
    have e := len_f ht ha q
    have e2 : (Term.int n).eval args s none [] s = some (.int n) := rfl
    simp only [Cond.value, e, e2] at h
    simpa using h
  · simp [Cond.value, Term.eval, ht, ha, q] at h
theorem arr_elR {args : Array Value} {s : State} {t u : Term} {a b : Addr} {cl : Cell} {ty : FieldType} {j : Int32} (ht : t.eval args s none [] s = some (.ref a)) (A : Arr s s.heap a cl ty) (h : (Jvm.Cond.eq (.elem t (.int j)) u).value args s none s [] = some true) (hu : u.eval args s none [] s = some (.ref b)) (hj : ¬ j < 0) : cl.slots[j.toNatClampNeg]? = some (.ref b) := by
  have ha := A.fin (Vm.Alike.refl s.vm)
  have e : (Term.elem t (.int j)).eval args s none [] s = cl.slots[j.toNatClampNeg]? := elem_f ht rfl ha hj
  simp only [Cond.value, hu, e] at h
  cases hv : cl.slots[j.toNatClampNeg]? with
  | none => simp [hv] at h
  | some v => cases v <;> simp_all
theorem arr_elI {args : Array Value} {s : State} {t : Term} {a : Addr} {cl : Cell} {ty : FieldType} {j k : Int32} (ht : t.eval args s none [] s = some (.ref a)) (A : Arr s s.heap a cl ty) (h : (Jvm.Cond.eq (.elem t (.int j)) (.int k)).value args s none s [] = some true) (hj : ¬ j < 0) : cl.slots[j.toNatClampNeg]? = some (.int k) := by
  have ha := A.fin (Vm.Alike.refl s.vm)
  have e : (Term.elem t (.int j)).eval args s none [] s = cl.slots[j.toNatClampNeg]? := elem_f ht rfl ha hj
  have e2 : (Term.int k).eval args s none [] s = some (.int k) := rfl
  simp only [Cond.value, e, e2] at h
  cases hv : cl.slots[j.toNatClampNeg]? with
  | none => simp [hv] at h
  | some v => cases v <;> simp_all
theorem inb32 {j z : Int32} {n : Int} (hz : z.toInt = n) (h0 : 0 ≤ j.toInt) (h1 : j.toInt < n) : ¬ j < 0 ∧ j < z := by
  rw [Int32.lt_iff_toInt_lt, Int32.lt_iff_toInt_lt, hz]
  have : (0 : Int32).toInt = 0 := by decide
  omega
theorem own_nn {n : Int32} (h : 0 ≤ n.toInt) : ¬ n < 0 := by
  rw [Int32.lt_iff_toInt_lt]
  have : (0 : Int32).toInt = 0 := by decide
  omega
theorem own_cap {n : Int32} {c : Nat} (h : n.toInt < (c : Int) + 1) : n.toNatClampNeg ≤ c := by
  simp only [Int32.toNatClampNeg]
  omega
theorem own_fin (x : Int32) (n : Nat) (hn : n < 2147483648) (h0 : 0 ≤ x.toInt) (h1 : x.toInt < n) : ∃ i : Fin n, x = Int32.ofNat i.1 := by
  refine ⟨⟨x.toInt.toNat, by omega⟩, Int32.toInt_inj.mp ?_⟩
  show x.toInt = (Int32.ofNat x.toInt.toNat).toInt
  rw [Int32.toInt_ofNat_small (by omega)]
  omega
end OwnRun
theorem own_out0_6 {z : Int32} (h0 : ¬ z = (0 : Int32)) (h1 : ¬ z = (1 : Int32)) (h2 : ¬ z = (2 : Int32)) (h3 : ¬ z = (3 : Int32)) (h4 : ¬ z = (4 : Int32)) (h5 : ¬ z = (5 : Int32)) (h6 : ¬ z = (6 : Int32)) : z.toInt < 0 ∨ z.toInt > 6 := by
  simp only [← Int32.toInt_inj] at h0 h1 h2 h3 h4 h5 h6
  have e0 : (0 : Int32).toInt = 0 := by decide
  have e1 : (1 : Int32).toInt = 1 := by decide
  have e2 : (2 : Int32).toInt = 2 := by decide
  have e3 : (3 : Int32).toInt = 3 := by decide
  have e4 : (4 : Int32).toInt = 4 := by decide
  have e5 : (5 : Int32).toInt = 5 := by decide
  have e6 : (6 : Int32).toInt = 6 := by decide
  omega
theorem d1_0 : decode prog_18_method_7_code 0 = .ok (.iload_n 0, 1) := by decide +kernel
theorem d1_1 : decode prog_18_method_7_code 1 = .ok (.tableswitch 119 0 6 #[43, 43, 43, 47, 61, 80, 99], 43) := by decide +kernel
theorem d1_44 : decode prog_18_method_7_code 44 = .ok (.iconst 1, 1) := by decide +kernel
theorem d1_45 : decode prog_18_method_7_code 45 = .ok (.goto 76, 3) := by decide +kernel
theorem d1_48 : decode prog_18_method_7_code 48 = .ok (.iload_n 1, 1) := by decide +kernel
theorem d1_49 : decode prog_18_method_7_code 49 = .ok (.bipush 8, 2) := by decide +kernel
theorem d1_51 : decode prog_18_method_7_code 51 = .ok (.if_icmp .eq 7, 3) := by decide +kernel
theorem d1_54 : decode prog_18_method_7_code 54 = .ok (.iconst 1, 1) := by decide +kernel
theorem d1_55 : decode prog_18_method_7_code 55 = .ok (.goto 66, 3) := by decide +kernel
theorem d1_58 : decode prog_18_method_7_code 58 = .ok (.iconst 0, 1) := by decide +kernel
theorem d1_59 : decode prog_18_method_7_code 59 = .ok (.goto 62, 3) := by decide +kernel
theorem d1_62 : decode prog_18_method_7_code 62 = .ok (.iload_n 1, 1) := by decide +kernel
theorem d1_63 : decode prog_18_method_7_code 63 = .ok (.iconst 2, 1) := by decide +kernel
theorem d1_64 : decode prog_18_method_7_code 64 = .ok (.if_icmp .lt 13, 3) := by decide +kernel
theorem d1_67 : decode prog_18_method_7_code 67 = .ok (.iload_n 1, 1) := by decide +kernel
theorem d1_68 : decode prog_18_method_7_code 68 = .ok (.bipush 7, 2) := by decide +kernel
theorem d1_70 : decode prog_18_method_7_code 70 = .ok (.if_icmp .gt 7, 3) := by decide +kernel
theorem d1_73 : decode prog_18_method_7_code 73 = .ok (.iconst 1, 1) := by decide +kernel
theorem d1_74 : decode prog_18_method_7_code 74 = .ok (.goto 47, 3) := by decide +kernel
theorem d1_77 : decode prog_18_method_7_code 77 = .ok (.iconst 0, 1) := by decide +kernel
theorem d1_78 : decode prog_18_method_7_code 78 = .ok (.goto 43, 3) := by decide +kernel
theorem d1_81 : decode prog_18_method_7_code 81 = .ok (.iload_n 1, 1) := by decide +kernel
theorem d1_82 : decode prog_18_method_7_code 82 = .ok (.iconst 4, 1) := by decide +kernel
theorem d1_83 : decode prog_18_method_7_code 83 = .ok (.if_icmp .lt 13, 3) := by decide +kernel
theorem d1_86 : decode prog_18_method_7_code 86 = .ok (.iload_n 1, 1) := by decide +kernel
theorem d1_87 : decode prog_18_method_7_code 87 = .ok (.bipush 7, 2) := by decide +kernel
theorem d1_89 : decode prog_18_method_7_code 89 = .ok (.if_icmp .gt 7, 3) := by decide +kernel
theorem d1_92 : decode prog_18_method_7_code 92 = .ok (.iconst 1, 1) := by decide +kernel
theorem d1_93 : decode prog_18_method_7_code 93 = .ok (.goto 28, 3) := by decide +kernel
theorem d1_96 : decode prog_18_method_7_code 96 = .ok (.iconst 0, 1) := by decide +kernel
theorem d1_97 : decode prog_18_method_7_code 97 = .ok (.goto 24, 3) := by decide +kernel
theorem d1_100 : decode prog_18_method_7_code 100 = .ok (.iload_n 1, 1) := by decide +kernel
theorem d1_101 : decode prog_18_method_7_code 101 = .ok (.bipush 6, 2) := by decide +kernel
theorem d1_103 : decode prog_18_method_7_code 103 = .ok (.if_icmp .eq 9, 3) := by decide +kernel
theorem d1_106 : decode prog_18_method_7_code 106 = .ok (.iload_n 1, 1) := by decide +kernel
theorem d1_107 : decode prog_18_method_7_code 107 = .ok (.bipush 7, 2) := by decide +kernel
theorem d1_109 : decode prog_18_method_7_code 109 = .ok (.if_icmp .ne 7, 3) := by decide +kernel
theorem d1_112 : decode prog_18_method_7_code 112 = .ok (.iconst 1, 1) := by decide +kernel
theorem d1_113 : decode prog_18_method_7_code 113 = .ok (.goto 8, 3) := by decide +kernel
theorem d1_116 : decode prog_18_method_7_code 116 = .ok (.iconst 0, 1) := by decide +kernel
theorem d1_117 : decode prog_18_method_7_code 117 = .ok (.goto 4, 3) := by decide +kernel
theorem d1_120 : decode prog_18_method_7_code 120 = .ok (.iconst 0, 1) := by decide +kernel
theorem d1_121 : decode prog_18_method_7_code 121 = .ok (.ireturn, 1) := by decide +kernel
theorem pn_1 : plainName "com/example/sidewager/sidewager/baccarat/Round" = true := by first | (simp [plainName, overriddenIn]; done) | decide +kernel
theorem ef_1 (m : MethodId) (p0 : Int32) (p1 : Int32) : entryFrame m #[(.int p0), (.int p1)] 2 = mkF m 0 #[.val (.int p0), .val (.int p1)] [] := by first | (simp [entryFrame, mkF, argsToLocals, Value.category]; done) | rfl
def F1 (p0 : Int32) (p1 : Int32) : Int32 := (if p0 = (0 : Int32) then (1 : Int32) else (if p0 = (1 : Int32) then (1 : Int32) else (if p0 = (2 : Int32) then (1 : Int32) else (if p0 = (3 : Int32) then (if p1 = (8 : Int32) then (0 : Int32) else (1 : Int32)) else (if p0 = (4 : Int32) then (if p1 < (2 : Int32) then (0 : Int32) else (if (7 : Int32) < p1 then (0 : Int32) else (1 : Int32))) else (if p0 = (5 : Int32) then (if p1 < (4 : Int32) then (0 : Int32) else (if (7 : Int32) < p1 then (0 : Int32) else (1 : Int32))) else (if p0 = (6 : Int32) then (if p1 = (6 : Int32) then (1 : Int32) else (if p1 = (7 : Int32) then (1 : Int32) else (0 : Int32))) else (0 : Int32))))))))
def Q1 (Z : State) (p0 : Int32) (p1 : Int32) (h0 : Heap) (n0 : Nat) (v : Option Value) (h : Heap) (L : List Loc) : Prop := v = some (.int (F1 p0 p1)) ∧ Fr n0 L ∧ h = h0
set_option maxRecDepth 65536 in
set_option maxHeartbeats 40000000 in
theorem rm1 (l : Launch) (Z : State) (aV : Array Value) (hw : ∀ d ∈ tables_1, d.before aV Z = true) (ws : List Jvm.Cond) (p0 : Int32) (p1 : Int32) (h0 : Heap) (n0 : Nat) (Zn : n0 ≤ h0.size) :
    MetFree l (⟨"com/example/sidewager/sidewager/baccarat/Round", "bankerDraws", "(II)Z"⟩ : MethodName) (head1 (Jvm.Cond.code (⟨"com/example/sidewager/sidewager/baccarat/Round", "bankerDraws", "(II)Z"⟩ : MethodName) prog_18_method_7_code 2 (some .boolean) :: ws) ({ frames := 0, cells := 0, slots := 0, locals := 0 } : Room)) (fun a U => a = #[(.int p0), (.int p1)] ∧ Z.Warmed39 U.vm ∧ U.heap = h0) (fun _ _ _ _ _ => True) (fun _ U o U' => ∃ v L, o = .returned v ∧ Q1 Z p0 p1 h0 n0 v U'.heap L ∧ FrameEnd U o U' L ({ frames := 0, cells := 0, slots := 0, locals := 0 } : Room).cells ({ frames := 0, cells := 0, slots := 0, locals := 0 } : Room).slots) := by
  refine MetFree.of_bodySF (plainFor_of_name pn_1) hisR ?_
  intro p e s m args below meth c s₁ Bd hml0 hP hK
  obtain ⟨rfl, hZ, hh⟩ := hP
  have hx := Bd.exec
  have hby := Bd.bytes
  have hml : c.maxLocals = 2 := hml0
  have hown : s.vm.findClass "com/example/sidewager/sidewager/baccarat/Round" = some m.cls := findClass_of_methodNamed Bd.named
  have hnm := (name_of_methodNamed Bd.named Bd.method).1
  have X0 : Stand p l e ({ frames := 0, cells := 0, slots := 0, locals := 0 } : Room) s m #[(.int p0), (.int p1)] below meth c s₁ [] 0 0 := Stand.of_body Bd
  have e0 : s₁.heap = h0 := by rw [← hh, Bd.state]; rfl
  have N0 := Fr.nil n0
  have Kp := Keep.refl h0 []
  show Run p e below (Ends s (Q1 Z p0 p1 h0 n0) ({ frames := 0, cells := 0, slots := 0, locals := 0 } : Room).cells ({ frames := 0, cells := 0, slots := 0, locals := 0 } : Room).slots) _
  refine Run.st (S' := s₁.setTop (mkF m 0 #[.val (.int p0), .val (.int p1)] [])) (fun t k => castTop (ef_1 m p0 p1) k) ?_
  refine Run.st (S' := s₁.setTop (mkF m 1 #[.val (.int p0), .val (.int p1)] [(.int p0)])) (fun _ k => XS.iloadN X0.here hx rfl (hb hby d1_0) rfl k) ?_
  by_cases hc1_1 : p0 = (0 : Int32)
  · refine Run.st (S' := s₁.setTop (mkF m 121 #[.val (.int p0), .val (.int p1)] [(.int (1 : Int32))])) (fun _ k => XS.tswIn X0.here hx rfl (o := 43) (pc0 := 1) (pc' := 44) rfl (hb hby d1_1) rfl (by rw [show p0 = (0 : Int32) from hc1_1]; decide) (by rw [show p0 = (0 : Int32) from hc1_1]; decide) (by decide) (by decide) (XS.iconst X0.here hx rfl (hb hby d1_44) (XS.goto X0.here hx rfl (pc0 := 45) (pc' := 121) rfl (hb hby d1_45) (by decide) (by decide) k))) ?_
    refine Run.out X0 hx Bd.notSynchronized Bd.returns rfl (Or.inl ⟨rfl, by simp, _, rfl⟩) (hb hby d1_121) (by decide) (by decide) ?_
    rw [e0]
    exact ⟨by rw [F1, if_pos hc1_1], N0, rfl⟩
  · by_cases hc1_2 : p0 = (1 : Int32)
    · refine Run.st (S' := s₁.setTop (mkF m 121 #[.val (.int p0), .val (.int p1)] [(.int (1 : Int32))])) (fun _ k => XS.tswIn X0.here hx rfl (o := 43) (pc0 := 1) (pc' := 44) rfl (hb hby d1_1) rfl (by rw [show p0 = (1 : Int32) from hc1_2]; decide) (by rw [show p0 = (1 : Int32) from hc1_2]; decide) (by decide) (by decide) (XS.iconst X0.here hx rfl (hb hby d1_44) (XS.goto X0.here hx rfl (pc0 := 45) (pc' := 121) rfl (hb hby d1_45) (by decide) (by decide) k))) ?_
      refine Run.out X0 hx Bd.notSynchronized Bd.returns rfl (Or.inl ⟨rfl, by simp, _, rfl⟩) (hb hby d1_121) (by decide) (by decide) ?_
      rw [e0]
      exact ⟨by rw [F1, if_neg hc1_1, if_pos hc1_2], N0, rfl⟩
    · by_cases hc1_3 : p0 = (2 : Int32)
      · refine Run.st (S' := s₁.setTop (mkF m 121 #[.val (.int p0), .val (.int p1)] [(.int (1 : Int32))])) (fun _ k => XS.tswIn X0.here hx rfl (o := 43) (pc0 := 1) (pc' := 44) rfl (hb hby d1_1) rfl (by rw [show p0 = (2 : Int32) from hc1_3]; decide) (by rw [show p0 = (2 : Int32) from hc1_3]; decide) (by decide) (by decide) (XS.iconst X0.here hx rfl (hb hby d1_44) (XS.goto X0.here hx rfl (pc0 := 45) (pc' := 121) rfl (hb hby d1_45) (by decide) (by decide) k))) ?_
        refine Run.out X0 hx Bd.notSynchronized Bd.returns rfl (Or.inl ⟨rfl, by simp, _, rfl⟩) (hb hby d1_121) (by decide) (by decide) ?_
        rw [e0]
        exact ⟨by rw [F1, if_neg hc1_1, if_neg hc1_2, if_pos hc1_3], N0, rfl⟩
      · by_cases hc1_4 : p0 = (3 : Int32)
        · refine Run.st (S' := s₁.setTop (mkF m 51 #[.val (.int p0), .val (.int p1)] [(.int (8 : Int32)), (.int p1)])) (fun _ k => XS.tswIn X0.here hx rfl (o := 47) (pc0 := 1) (pc' := 48) rfl (hb hby d1_1) rfl (by rw [show p0 = (3 : Int32) from hc1_4]; decide) (by rw [show p0 = (3 : Int32) from hc1_4]; decide) (by decide) (by decide) (XS.iloadN X0.here hx rfl (hb hby d1_48) rfl (XS.bipush X0.here hx rfl (hb hby d1_49) k))) ?_
          by_cases hc51_5 : p1 = (8 : Int32)
          · refine Run.st (S' := s₁.setTop (mkF m 121 #[.val (.int p0), .val (.int p1)] [(.int (0 : Int32))])) (fun _ k => XS.icmpYes X0.here hx rfl (pc0 := 51) (pc' := 58) rfl (hb hby d1_51) rfl (teq hc51_5).1 (by decide) (by decide) (XS.iconst X0.here hx rfl (hb hby d1_58) (XS.goto X0.here hx rfl (pc0 := 59) (pc' := 121) rfl (hb hby d1_59) (by decide) (by decide) k))) ?_
            refine Run.out X0 hx Bd.notSynchronized Bd.returns rfl (Or.inl ⟨rfl, by simp, _, rfl⟩) (hb hby d1_121) (by decide) (by decide) ?_
            rw [e0]
            exact ⟨by rw [F1, if_neg hc1_1, if_neg hc1_2, if_neg hc1_3, if_pos hc1_4, if_pos hc51_5], N0, rfl⟩
          · refine Run.st (S' := s₁.setTop (mkF m 121 #[.val (.int p0), .val (.int p1)] [(.int (1 : Int32))])) (fun _ k => XS.icmpNo X0.here hx rfl (hb hby d1_51) rfl (feq hc51_5).1 (XS.iconst X0.here hx rfl (hb hby d1_54) (XS.goto X0.here hx rfl (pc0 := 55) (pc' := 121) rfl (hb hby d1_55) (by decide) (by decide) k))) ?_
            refine Run.out X0 hx Bd.notSynchronized Bd.returns rfl (Or.inl ⟨rfl, by simp, _, rfl⟩) (hb hby d1_121) (by decide) (by decide) ?_
            rw [e0]
            exact ⟨by rw [F1, if_neg hc1_1, if_neg hc1_2, if_neg hc1_3, if_pos hc1_4, if_neg hc51_5], N0, rfl⟩
        · by_cases hc1_6 : p0 = (4 : Int32)
          · refine Run.st (S' := s₁.setTop (mkF m 64 #[.val (.int p0), .val (.int p1)] [(.int (2 : Int32)), (.int p1)])) (fun _ k => XS.tswIn X0.here hx rfl (o := 61) (pc0 := 1) (pc' := 62) rfl (hb hby d1_1) rfl (by rw [show p0 = (4 : Int32) from hc1_6]; decide) (by rw [show p0 = (4 : Int32) from hc1_6]; decide) (by decide) (by decide) (XS.iloadN X0.here hx rfl (hb hby d1_62) rfl (XS.iconst X0.here hx rfl (hb hby d1_63) k))) ?_
            by_cases hc64_7 : p1 < (2 : Int32)
            · refine Run.st (S' := s₁.setTop (mkF m 121 #[.val (.int p0), .val (.int p1)] [(.int (0 : Int32))])) (fun _ k => XS.icmpYes X0.here hx rfl (pc0 := 64) (pc' := 77) rfl (hb hby d1_64) rfl (tlt hc64_7).1 (by decide) (by decide) (XS.iconst X0.here hx rfl (hb hby d1_77) (XS.goto X0.here hx rfl (pc0 := 78) (pc' := 121) rfl (hb hby d1_78) (by decide) (by decide) k))) ?_
              refine Run.out X0 hx Bd.notSynchronized Bd.returns rfl (Or.inl ⟨rfl, by simp, _, rfl⟩) (hb hby d1_121) (by decide) (by decide) ?_
              rw [e0]
              exact ⟨by rw [F1, if_neg hc1_1, if_neg hc1_2, if_neg hc1_3, if_neg hc1_4, if_pos hc1_6, if_pos hc64_7], N0, rfl⟩
            · refine Run.st (S' := s₁.setTop (mkF m 70 #[.val (.int p0), .val (.int p1)] [(.int (7 : Int32)), (.int p1)])) (fun _ k => XS.icmpNo X0.here hx rfl (hb hby d1_64) rfl (flt hc64_7).1 (XS.iloadN X0.here hx rfl (hb hby d1_67) rfl (XS.bipush X0.here hx rfl (hb hby d1_68) k))) ?_
              by_cases hc70_8 : (7 : Int32) < p1
              · refine Run.st (S' := s₁.setTop (mkF m 121 #[.val (.int p0), .val (.int p1)] [(.int (0 : Int32))])) (fun _ k => XS.icmpYes X0.here hx rfl (pc0 := 70) (pc' := 77) rfl (hb hby d1_70) rfl (tlt hc70_8).2.2.1 (by decide) (by decide) (XS.iconst X0.here hx rfl (hb hby d1_77) (XS.goto X0.here hx rfl (pc0 := 78) (pc' := 121) rfl (hb hby d1_78) (by decide) (by decide) k))) ?_
                refine Run.out X0 hx Bd.notSynchronized Bd.returns rfl (Or.inl ⟨rfl, by simp, _, rfl⟩) (hb hby d1_121) (by decide) (by decide) ?_
                rw [e0]
                exact ⟨by rw [F1, if_neg hc1_1, if_neg hc1_2, if_neg hc1_3, if_neg hc1_4, if_pos hc1_6, if_neg hc64_7, if_pos hc70_8], N0, rfl⟩
              · refine Run.st (S' := s₁.setTop (mkF m 121 #[.val (.int p0), .val (.int p1)] [(.int (1 : Int32))])) (fun _ k => XS.icmpNo X0.here hx rfl (hb hby d1_70) rfl (flt hc70_8).2.2.1 (XS.iconst X0.here hx rfl (hb hby d1_73) (XS.goto X0.here hx rfl (pc0 := 74) (pc' := 121) rfl (hb hby d1_74) (by decide) (by decide) k))) ?_
                refine Run.out X0 hx Bd.notSynchronized Bd.returns rfl (Or.inl ⟨rfl, by simp, _, rfl⟩) (hb hby d1_121) (by decide) (by decide) ?_
                rw [e0]
                exact ⟨by rw [F1, if_neg hc1_1, if_neg hc1_2, if_neg hc1_3, if_neg hc1_4, if_pos hc1_6, if_neg hc64_7, if_neg hc70_8], N0, rfl⟩
          · by_cases hc1_9 : p0 = (5 : Int32)
            · refine Run.st (S' := s₁.setTop (mkF m 83 #[.val (.int p0), .val (.int p1)] [(.int (4 : Int32)), (.int p1)])) (fun _ k => XS.tswIn X0.here hx rfl (o := 80) (pc0 := 1) (pc' := 81) rfl (hb hby d1_1) rfl (by rw [show p0 = (5 : Int32) from hc1_9]; decide) (by rw [show p0 = (5 : Int32) from hc1_9]; decide) (by decide) (by decide) (XS.iloadN X0.here hx rfl (hb hby d1_81) rfl (XS.iconst X0.here hx rfl (hb hby d1_82) k))) ?_
              by_cases hc83_10 : p1 < (4 : Int32)
              · refine Run.st (S' := s₁.setTop (mkF m 121 #[.val (.int p0), .val (.int p1)] [(.int (0 : Int32))])) (fun _ k => XS.icmpYes X0.here hx rfl (pc0 := 83) (pc' := 96) rfl (hb hby d1_83) rfl (tlt hc83_10).1 (by decide) (by decide) (XS.iconst X0.here hx rfl (hb hby d1_96) (XS.goto X0.here hx rfl (pc0 := 97) (pc' := 121) rfl (hb hby d1_97) (by decide) (by decide) k))) ?_
                refine Run.out X0 hx Bd.notSynchronized Bd.returns rfl (Or.inl ⟨rfl, by simp, _, rfl⟩) (hb hby d1_121) (by decide) (by decide) ?_
                rw [e0]
                exact ⟨by rw [F1, if_neg hc1_1, if_neg hc1_2, if_neg hc1_3, if_neg hc1_4, if_neg hc1_6, if_pos hc1_9, if_pos hc83_10], N0, rfl⟩
              · refine Run.st (S' := s₁.setTop (mkF m 89 #[.val (.int p0), .val (.int p1)] [(.int (7 : Int32)), (.int p1)])) (fun _ k => XS.icmpNo X0.here hx rfl (hb hby d1_83) rfl (flt hc83_10).1 (XS.iloadN X0.here hx rfl (hb hby d1_86) rfl (XS.bipush X0.here hx rfl (hb hby d1_87) k))) ?_
                by_cases hc89_11 : (7 : Int32) < p1
                · refine Run.st (S' := s₁.setTop (mkF m 121 #[.val (.int p0), .val (.int p1)] [(.int (0 : Int32))])) (fun _ k => XS.icmpYes X0.here hx rfl (pc0 := 89) (pc' := 96) rfl (hb hby d1_89) rfl (tlt hc89_11).2.2.1 (by decide) (by decide) (XS.iconst X0.here hx rfl (hb hby d1_96) (XS.goto X0.here hx rfl (pc0 := 97) (pc' := 121) rfl (hb hby d1_97) (by decide) (by decide) k))) ?_
                  refine Run.out X0 hx Bd.notSynchronized Bd.returns rfl (Or.inl ⟨rfl, by simp, _, rfl⟩) (hb hby d1_121) (by decide) (by decide) ?_
                  rw [e0]
                  exact ⟨by rw [F1, if_neg hc1_1, if_neg hc1_2, if_neg hc1_3, if_neg hc1_4, if_neg hc1_6, if_pos hc1_9, if_neg hc83_10, if_pos hc89_11], N0, rfl⟩
                · refine Run.st (S' := s₁.setTop (mkF m 121 #[.val (.int p0), .val (.int p1)] [(.int (1 : Int32))])) (fun _ k => XS.icmpNo X0.here hx rfl (hb hby d1_89) rfl (flt hc89_11).2.2.1 (XS.iconst X0.here hx rfl (hb hby d1_92) (XS.goto X0.here hx rfl (pc0 := 93) (pc' := 121) rfl (hb hby d1_93) (by decide) (by decide) k))) ?_
                  refine Run.out X0 hx Bd.notSynchronized Bd.returns rfl (Or.inl ⟨rfl, by simp, _, rfl⟩) (hb hby d1_121) (by decide) (by decide) ?_
                  rw [e0]
                  exact ⟨by rw [F1, if_neg hc1_1, if_neg hc1_2, if_neg hc1_3, if_neg hc1_4, if_neg hc1_6, if_pos hc1_9, if_neg hc83_10, if_neg hc89_11], N0, rfl⟩
            · by_cases hc1_12 : p0 = (6 : Int32)
              · refine Run.st (S' := s₁.setTop (mkF m 103 #[.val (.int p0), .val (.int p1)] [(.int (6 : Int32)), (.int p1)])) (fun _ k => XS.tswIn X0.here hx rfl (o := 99) (pc0 := 1) (pc' := 100) rfl (hb hby d1_1) rfl (by rw [show p0 = (6 : Int32) from hc1_12]; decide) (by rw [show p0 = (6 : Int32) from hc1_12]; decide) (by decide) (by decide) (XS.iloadN X0.here hx rfl (hb hby d1_100) rfl (XS.bipush X0.here hx rfl (hb hby d1_101) k))) ?_
                by_cases hc103_13 : p1 = (6 : Int32)
                · refine Run.st (S' := s₁.setTop (mkF m 121 #[.val (.int p0), .val (.int p1)] [(.int (1 : Int32))])) (fun _ k => XS.icmpYes X0.here hx rfl (pc0 := 103) (pc' := 112) rfl (hb hby d1_103) rfl (teq hc103_13).1 (by decide) (by decide) (XS.iconst X0.here hx rfl (hb hby d1_112) (XS.goto X0.here hx rfl (pc0 := 113) (pc' := 121) rfl (hb hby d1_113) (by decide) (by decide) k))) ?_
                  refine Run.out X0 hx Bd.notSynchronized Bd.returns rfl (Or.inl ⟨rfl, by simp, _, rfl⟩) (hb hby d1_121) (by decide) (by decide) ?_
                  rw [e0]
                  exact ⟨by rw [F1, if_neg hc1_1, if_neg hc1_2, if_neg hc1_3, if_neg hc1_4, if_neg hc1_6, if_neg hc1_9, if_pos hc1_12, if_pos hc103_13], N0, rfl⟩
                · refine Run.st (S' := s₁.setTop (mkF m 109 #[.val (.int p0), .val (.int p1)] [(.int (7 : Int32)), (.int p1)])) (fun _ k => XS.icmpNo X0.here hx rfl (hb hby d1_103) rfl (feq hc103_13).1 (XS.iloadN X0.here hx rfl (hb hby d1_106) rfl (XS.bipush X0.here hx rfl (hb hby d1_107) k))) ?_
                  by_cases hc109_14 : p1 = (7 : Int32)
                  · refine Run.st (S' := s₁.setTop (mkF m 121 #[.val (.int p0), .val (.int p1)] [(.int (1 : Int32))])) (fun _ k => XS.icmpNo X0.here hx rfl (hb hby d1_109) rfl (teq hc109_14).2 (XS.iconst X0.here hx rfl (hb hby d1_112) (XS.goto X0.here hx rfl (pc0 := 113) (pc' := 121) rfl (hb hby d1_113) (by decide) (by decide) k))) ?_
                    refine Run.out X0 hx Bd.notSynchronized Bd.returns rfl (Or.inl ⟨rfl, by simp, _, rfl⟩) (hb hby d1_121) (by decide) (by decide) ?_
                    rw [e0]
                    exact ⟨by rw [F1, if_neg hc1_1, if_neg hc1_2, if_neg hc1_3, if_neg hc1_4, if_neg hc1_6, if_neg hc1_9, if_pos hc1_12, if_neg hc103_13, if_pos hc109_14], N0, rfl⟩
                  · refine Run.st (S' := s₁.setTop (mkF m 121 #[.val (.int p0), .val (.int p1)] [(.int (0 : Int32))])) (fun _ k => XS.icmpYes X0.here hx rfl (pc0 := 109) (pc' := 116) rfl (hb hby d1_109) rfl (feq hc109_14).2 (by decide) (by decide) (XS.iconst X0.here hx rfl (hb hby d1_116) (XS.goto X0.here hx rfl (pc0 := 117) (pc' := 121) rfl (hb hby d1_117) (by decide) (by decide) k))) ?_
                    refine Run.out X0 hx Bd.notSynchronized Bd.returns rfl (Or.inl ⟨rfl, by simp, _, rfl⟩) (hb hby d1_121) (by decide) (by decide) ?_
                    rw [e0]
                    exact ⟨by rw [F1, if_neg hc1_1, if_neg hc1_2, if_neg hc1_3, if_neg hc1_4, if_neg hc1_6, if_neg hc1_9, if_pos hc1_12, if_neg hc103_13, if_neg hc109_14], N0, rfl⟩
              · refine Run.st (S' := s₁.setTop (mkF m 121 #[.val (.int p0), .val (.int p1)] [(.int (0 : Int32))])) (fun _ k => XS.tswOut X0.here hx rfl (pc0 := 1) (pc' := 120) rfl (hb hby d1_1) rfl (own_out0_6 hc1_1 hc1_2 hc1_3 hc1_4 hc1_6 hc1_9 hc1_12) (by decide) (by decide) (XS.iconst X0.here hx rfl (hb hby d1_120) k)) ?_
                refine Run.out X0 hx Bd.notSynchronized Bd.returns rfl (Or.inl ⟨rfl, by simp, _, rfl⟩) (hb hby d1_121) (by decide) (by decide) ?_
                rw [e0]
                exact ⟨by rw [F1, if_neg hc1_1, if_neg hc1_2, if_neg hc1_3, if_neg hc1_4, if_neg hc1_6, if_neg hc1_9, if_neg hc1_12], N0, rfl⟩
def own_tab : List Int32 := [1023, 1023, 1023, 767, 252, 240, 192, 0]
def own_m (b : Int32) : Int32 := own_tab.getD b.toNatClampNeg 0
theorem own_at (b : Int32) (h0 : 0 ≤ b.toInt) (h1 : b.toInt < 8) : [(Value.int (1023 : Int32)), (.int (1023 : Int32)), (.int (1023 : Int32)), (.int (767 : Int32)), (.int (252 : Int32)), (.int (240 : Int32)), (.int (192 : Int32)), (.int (0 : Int32))].getD b.toNatClampNeg (.int (0 : Int32)) = .int (own_m b) := by
  obtain ⟨i, rfl⟩ := own_fin b 8 (by decide) h0 h1
  revert i
  decide +kernel
theorem own_bank (b t : Int32) (h0 : 0 ≤ b.toInt) (h1 : b.toInt < 8) (k0 : 0 ≤ t.toInt) (k1 : t.toInt < 10) : (((own_m b >>> (t &&& 31)) &&& (1 : Int32)) = (0 : Int32) → F1 b t = (0 : Int32)) ∧ (¬ ((own_m b >>> (t &&& 31)) &&& (1 : Int32)) = (0 : Int32) → F1 b t = (1 : Int32)) := by
  obtain ⟨i, rfl⟩ := own_fin b 8 (by decide) h0 h1
  obtain ⟨j, rfl⟩ := own_fin t 10 (by decide) k0 k1
  revert i j
  decide +kernel
theorem pd_0 : parseMethodDescriptor "(II)Z" = some ⟨[.int, .int], some .boolean⟩ := by decide +kernel
theorem pn_2 : plainName "com/example/sidewager/sidewager/baccarat/RoundBankerDrawsPinLaw" = true := by first | (simp [plainName, overriddenIn]; done) | decide +kernel
theorem ef_0 (m : MethodId) (p0 : Int32) (p1 : Int32) : entryFrame m #[(.int p0), (.int p1)] maxLocals = mkF m 0 #[.val (.int p0), .val (.int p1), .unset, .unset, .unset, .unset] [] := by first | (simp [entryFrame, mkF, argsToLocals, Value.category, maxLocals]; done) | rfl
def Q0 (Z : State) (p0 : Int32) (p1 : Int32) (h0 : Heap) (n0 : Nat) (v : Option Value) (h : Heap) (L : List Loc) : Prop := v = some (.int 1) ∧ Fr n0 L
set_option maxRecDepth 65536 in
set_option maxHeartbeats 40000000 in
theorem rm0 (l : Launch) (Z : State) (aV : Array Value) (hw : ∀ d ∈ tables_1, d.before aV Z = true) (ws : List Jvm.Cond) (p0 : Int32) (p1 : Int32) (h0 : Heap) (n0 : Nat) (Zn : n0 ≤ h0.size) :
    MetFree l x (head1 (Jvm.Cond.code x code maxLocals ret :: ws) room_1) (fun a U => a = #[(.int p0), (.int p1)] ∧ Z.Warmed39 U.vm ∧ U.heap = h0) (fun _ _ _ _ _ => True) (fun _ U o U' => ∃ v L, o = .returned v ∧ Q0 Z p0 p1 h0 n0 v U'.heap L ∧ FrameEnd U o U' L room_1.cells room_1.slots) := by
  refine MetFree.of_bodySF (plainFor_of_name pn_2) hisR ?_
  intro p e s m args below meth c s₁ Bd hml0 hP hK
  obtain ⟨rfl, hZ, hh⟩ := hP
  have hx := Bd.exec
  have hby := Bd.bytes
  have hml : c.maxLocals = 6 := hml0
  have hown : s.vm.findClass "com/example/sidewager/sidewager/baccarat/RoundBankerDrawsPinLaw" = some m.cls := findClass_of_methodNamed Bd.named
  have hnm := (name_of_methodNamed Bd.named Bd.method).1
  have X0 : Stand p l e room_1 s m #[(.int p0), (.int p1)] below meth c s₁ [] 0 0 := Stand.of_body Bd
  have e0 : s₁.heap = h0 := by rw [← hh, Bd.state]; rfl
  have N0 := Fr.nil n0
  have Kp := Keep.refl h0 []
  show Run p e below (Ends s (Q0 Z p0 p1 h0 n0) room_1.cells room_1.slots) _
  refine Run.st (S' := s₁.setTop (mkF m 0 #[.val (.int p0), .val (.int p1), .unset, .unset, .unset, .unset] [])) (fun t k => castTop (ef_0 m p0 p1) k) ?_
  refine Run.st (S' := s₁.setTop (mkF m 8 #[.val (.int p0), .val (.int p1), .val (.int ((p0 &&& (2147483647 : Int32)) % (8 : Int32))), .unset, .unset, .unset] [])) (fun _ k => XS.iloadN X0.here hx rfl (hb hby at_0) rfl (X0.ldcInt hx hown (mvT hZ (hw _ (List.mem_of_getElem? (i := 0) rfl))) (g := (mkF m 1 #[.val (.int p0), .val (.int p1), .unset, .unset, .unset, .unset] [(.int p0)])) rfl (hb hby at_1) _ (XS.iand X0.here hx rfl (hb hby at_3) rfl (XS.bipush X0.here hx rfl (hb hby at_4) (iremM X0 hx rfl (hb hby at_6) rfl (by decide) (XS.istoreN X0.here hx rfl (hb hby at_7) rfl (l' := #[.val (.int p0), .val (.int p1), .val (.int ((p0 &&& (2147483647 : Int32)) % (8 : Int32))), .unset, .unset, .unset]) rfl k)))))) ?_
  have hbk : 0 ≤ (((p0 &&& (2147483647 : Int32)) % (8 : Int32))).toInt ∧ (((p0 &&& (2147483647 : Int32)) % (8 : Int32))).toInt < 8 := (by have := rng32 ((p0 &&& (2147483647 : Int32)) % (8 : Int32)); have := c_irem (p0 &&& (2147483647 : Int32)) (8 : Int32) 8 (by decide); have := rng32 (p0 &&& (2147483647 : Int32)); have := c_mask p0 (2147483647 : Int32) 31 (by decide) (by decide); have := rng32 p0; (try simp only [Int32.lt_iff_toInt_lt, Int64.lt_iff_toInt_lt, Int32.le_iff_toInt_le, Int64.le_iff_toInt_le, ← Int32.toInt_inj, ← Int64.toInt_inj] at  ⊢); omega)
  generalize ((p0 &&& (2147483647 : Int32)) % (8 : Int32)) = bk at hbk ⊢
  refine Run.st (S' := s₁.setTop (mkF m 16 #[.val (.int p0), .val (.int p1), .val (.int bk), .val (.int ((p1 &&& (2147483647 : Int32)) % (10 : Int32))), .unset, .unset] [])) (fun _ k => XS.iloadN X0.here hx rfl (hb hby at_8) rfl (X0.ldcInt hx hown (mvT hZ (hw _ (List.mem_of_getElem? (i := 0) rfl))) (g := (mkF m 9 #[.val (.int p0), .val (.int p1), .val (.int bk), .unset, .unset, .unset] [(.int p1)])) rfl (hb hby at_9) _ (XS.iand X0.here hx rfl (hb hby at_11) rfl (XS.bipush X0.here hx rfl (hb hby at_12) (iremM X0 hx rfl (hb hby at_14) rfl (by decide) (XS.istoreN X0.here hx rfl (hb hby at_15) rfl (l' := #[.val (.int p0), .val (.int p1), .val (.int bk), .val (.int ((p1 &&& (2147483647 : Int32)) % (10 : Int32))), .unset, .unset]) rfl k)))))) ?_
  have hth : 0 ≤ (((p1 &&& (2147483647 : Int32)) % (10 : Int32))).toInt ∧ (((p1 &&& (2147483647 : Int32)) % (10 : Int32))).toInt < 10 := (by have := rng32 ((p1 &&& (2147483647 : Int32)) % (10 : Int32)); have := c_irem (p1 &&& (2147483647 : Int32)) (10 : Int32) 10 (by decide); have := rng32 (p1 &&& (2147483647 : Int32)); have := c_mask p1 (2147483647 : Int32) 31 (by decide) (by decide); have := rng32 p1; (try simp only [Int32.lt_iff_toInt_lt, Int64.lt_iff_toInt_lt, Int32.le_iff_toInt_le, Int64.le_iff_toInt_le, ← Int32.toInt_inj, ← Int64.toInt_inj] at  ⊢); omega)
  generalize ((p1 &&& (2147483647 : Int32)) % (10 : Int32)) = th at hth ⊢
  refine Run.st (S' := s₁.setTop (mkF m 18 #[.val (.int p0), .val (.int p1), .val (.int bk), .val (.int th), .unset, .unset] [(.int (8 : Int32))])) (fun _ k => XS.bipush X0.here hx rfl (hb hby at_16) k) ?_
  obtain ⟨T1, h1, k1, X1, e1, E1, A1, st1⟩ := newP X0 hx hZ (hw _ (List.mem_of_getElem? (i := 1) rfl)) e0 (g := (mkF m 18 #[.val (.int p0), .val (.int p1), .val (.int bk), .val (.int th), .unset, .unset] [(.int (8 : Int32))])) rfl (hb hby at_18) rfl (by decide) (cap := 8) (by decide) (by decide) (by decide) (by decide)
  obtain ⟨b1, g1⟩ : ∃ z, z = h0.size := ⟨_, rfl⟩
  rw [← g1] at A1 st1
  have g_b1 : n0 ≤ b1 := Nat.le_trans Zn (Nat.le_of_eq g1.symm)
  have Zn := Nat.le_trans Zn E1.1
  have sz_b1 : h0.size ≤ b1 := Nat.le_trans Kp.1 (Nat.le_of_eq g1.symm)
  have Kp := Kp.ext E1
  have V_b1 : Arv Z h1 b1 k1 .int (8 : Int32) [(.int (0 : Int32)), (.int (0 : Int32)), (.int (0 : Int32)), (.int (0 : Int32)), (.int (0 : Int32)), (.int (0 : Int32)), (.int (0 : Int32)), (.int (0 : Int32))] (.int (0 : Int32)) := (Arv.new A1 (by decide)).pad (pad_rep [] (.int (0 : Int32)) 8)
  refine Run.st (S' := T1.setTop (mkF m 25 #[.val (.int p0), .val (.int p1), .val (.int bk), .val (.int th), .unset, .unset] [(.int (1023 : Int32)), (.int (0 : Int32)), (.ref b1), (.ref b1)])) (fun _ k => st1 _ (XS.dup X1.here hx rfl (hb hby at_20) rfl rfl (XS.iconst X1.here hx rfl (hb hby at_21) (XS.sipush X1.here hx rfl (hb hby at_22) k)))) ?_
  obtain ⟨cl2, Ar2, qa2, Sa2, Na2, Ha2, Ga2⟩ := V_b1
  have hin2 : ¬ ((0 : Int32) < 0 ∨ cl2.slots.size ≤ ((0 : Int32)).toNatClampNeg) := inb_of Sa2 ⟨by decide, by decide⟩
  obtain ⟨T2, h2, X2, e2, W2, st2⟩ := stI X1 hx hZ e1 Ar2 (j := (0 : Int32)) hin2 (g := (mkF m 25 #[.val (.int p0), .val (.int p1), .val (.int bk), .val (.int th), .unset, .unset] [(.int (1023 : Int32)), (.int (0 : Int32)), (.ref b1), (.ref b1)])) rfl rfl (hb hby at_25)
  have V_b1 := Arv.set Ar2 qa2 Sa2 Na2 Ha2 Ga2 rfl W2 0 rfl (Nat.le_of_ble_eq_true rfl)
  have V_b1 : Arv Z h2 b1 k1 .int (8 : Int32) [(.int (1023 : Int32)), (.int (0 : Int32)), (.int (0 : Int32)), (.int (0 : Int32)), (.int (0 : Int32)), (.int (0 : Int32)), (.int (0 : Int32)), (.int (0 : Int32))] (.int (0 : Int32)) := V_b1
  have N2 := Fr.snoc X2 N0 g_b1
  have Kp := Kp.wr W2 (Or.inr sz_b1)
  have Zn := Nat.le_trans Zn (Nat.le_of_eq W2.size.symm)
  refine Run.st (S' := T2.setTop (mkF m 31 #[.val (.int p0), .val (.int p1), .val (.int bk), .val (.int th), .unset, .unset] [(.int (1023 : Int32)), (.int (1 : Int32)), (.ref b1), (.ref b1)])) (fun _ k => st2 _ (XS.dup X2.here hx rfl (hb hby at_26) rfl rfl (XS.iconst X2.here hx rfl (hb hby at_27) (XS.sipush X2.here hx rfl (hb hby at_28) k)))) ?_
  obtain ⟨cl3, Ar3, qa3, Sa3, Na3, Ha3, Ga3⟩ := V_b1
  have hin3 : ¬ ((1 : Int32) < 0 ∨ cl3.slots.size ≤ ((1 : Int32)).toNatClampNeg) := inb_of Sa3 ⟨by decide, by decide⟩
  obtain ⟨T3, h3, X3, e3, W3, st3⟩ := stI X2 hx hZ e2 Ar3 (j := (1 : Int32)) hin3 (g := (mkF m 31 #[.val (.int p0), .val (.int p1), .val (.int bk), .val (.int th), .unset, .unset] [(.int (1023 : Int32)), (.int (1 : Int32)), (.ref b1), (.ref b1)])) rfl rfl (hb hby at_31)
  have V_b1 := Arv.set Ar3 qa3 Sa3 Na3 Ha3 Ga3 rfl W3 1 rfl (Nat.le_of_ble_eq_true rfl)
  have V_b1 : Arv Z h3 b1 k1 .int (8 : Int32) [(.int (1023 : Int32)), (.int (1023 : Int32)), (.int (0 : Int32)), (.int (0 : Int32)), (.int (0 : Int32)), (.int (0 : Int32)), (.int (0 : Int32)), (.int (0 : Int32))] (.int (0 : Int32)) := V_b1
  have N3 := Fr.snoc X3 N2 g_b1
  have Kp := Kp.wr W3 (Or.inr sz_b1)
  have Zn := Nat.le_trans Zn (Nat.le_of_eq W3.size.symm)
  refine Run.st (S' := T3.setTop (mkF m 37 #[.val (.int p0), .val (.int p1), .val (.int bk), .val (.int th), .unset, .unset] [(.int (1023 : Int32)), (.int (2 : Int32)), (.ref b1), (.ref b1)])) (fun _ k => st3 _ (XS.dup X3.here hx rfl (hb hby at_32) rfl rfl (XS.iconst X3.here hx rfl (hb hby at_33) (XS.sipush X3.here hx rfl (hb hby at_34) k)))) ?_
  obtain ⟨cl4, Ar4, qa4, Sa4, Na4, Ha4, Ga4⟩ := V_b1
  have hin4 : ¬ ((2 : Int32) < 0 ∨ cl4.slots.size ≤ ((2 : Int32)).toNatClampNeg) := inb_of Sa4 ⟨by decide, by decide⟩
  obtain ⟨T4, h4, X4, e4, W4, st4⟩ := stI X3 hx hZ e3 Ar4 (j := (2 : Int32)) hin4 (g := (mkF m 37 #[.val (.int p0), .val (.int p1), .val (.int bk), .val (.int th), .unset, .unset] [(.int (1023 : Int32)), (.int (2 : Int32)), (.ref b1), (.ref b1)])) rfl rfl (hb hby at_37)
  have V_b1 := Arv.set Ar4 qa4 Sa4 Na4 Ha4 Ga4 rfl W4 2 rfl (Nat.le_of_ble_eq_true rfl)
  have V_b1 : Arv Z h4 b1 k1 .int (8 : Int32) [(.int (1023 : Int32)), (.int (1023 : Int32)), (.int (1023 : Int32)), (.int (0 : Int32)), (.int (0 : Int32)), (.int (0 : Int32)), (.int (0 : Int32)), (.int (0 : Int32))] (.int (0 : Int32)) := V_b1
  have N4 := Fr.snoc X4 N3 g_b1
  have Kp := Kp.wr W4 (Or.inr sz_b1)
  have Zn := Nat.le_trans Zn (Nat.le_of_eq W4.size.symm)
  refine Run.st (S' := T4.setTop (mkF m 43 #[.val (.int p0), .val (.int p1), .val (.int bk), .val (.int th), .unset, .unset] [(.int (767 : Int32)), (.int (3 : Int32)), (.ref b1), (.ref b1)])) (fun _ k => st4 _ (XS.dup X4.here hx rfl (hb hby at_38) rfl rfl (XS.iconst X4.here hx rfl (hb hby at_39) (XS.sipush X4.here hx rfl (hb hby at_40) k)))) ?_
  obtain ⟨cl5, Ar5, qa5, Sa5, Na5, Ha5, Ga5⟩ := V_b1
  have hin5 : ¬ ((3 : Int32) < 0 ∨ cl5.slots.size ≤ ((3 : Int32)).toNatClampNeg) := inb_of Sa5 ⟨by decide, by decide⟩
  obtain ⟨T5, h5, X5, e5, W5, st5⟩ := stI X4 hx hZ e4 Ar5 (j := (3 : Int32)) hin5 (g := (mkF m 43 #[.val (.int p0), .val (.int p1), .val (.int bk), .val (.int th), .unset, .unset] [(.int (767 : Int32)), (.int (3 : Int32)), (.ref b1), (.ref b1)])) rfl rfl (hb hby at_43)
  have V_b1 := Arv.set Ar5 qa5 Sa5 Na5 Ha5 Ga5 rfl W5 3 rfl (Nat.le_of_ble_eq_true rfl)
  have V_b1 : Arv Z h5 b1 k1 .int (8 : Int32) [(.int (1023 : Int32)), (.int (1023 : Int32)), (.int (1023 : Int32)), (.int (767 : Int32)), (.int (0 : Int32)), (.int (0 : Int32)), (.int (0 : Int32)), (.int (0 : Int32))] (.int (0 : Int32)) := V_b1
  have N5 := Fr.snoc X5 N4 g_b1
  have Kp := Kp.wr W5 (Or.inr sz_b1)
  have Zn := Nat.le_trans Zn (Nat.le_of_eq W5.size.symm)
  refine Run.st (S' := T5.setTop (mkF m 49 #[.val (.int p0), .val (.int p1), .val (.int bk), .val (.int th), .unset, .unset] [(.int (252 : Int32)), (.int (4 : Int32)), (.ref b1), (.ref b1)])) (fun _ k => st5 _ (XS.dup X5.here hx rfl (hb hby at_44) rfl rfl (XS.iconst X5.here hx rfl (hb hby at_45) (XS.sipush X5.here hx rfl (hb hby at_46) k)))) ?_
  obtain ⟨cl6, Ar6, qa6, Sa6, Na6, Ha6, Ga6⟩ := V_b1
  have hin6 : ¬ ((4 : Int32) < 0 ∨ cl6.slots.size ≤ ((4 : Int32)).toNatClampNeg) := inb_of Sa6 ⟨by decide, by decide⟩
  obtain ⟨T6, h6, X6, e6, W6, st6⟩ := stI X5 hx hZ e5 Ar6 (j := (4 : Int32)) hin6 (g := (mkF m 49 #[.val (.int p0), .val (.int p1), .val (.int bk), .val (.int th), .unset, .unset] [(.int (252 : Int32)), (.int (4 : Int32)), (.ref b1), (.ref b1)])) rfl rfl (hb hby at_49)
  have V_b1 := Arv.set Ar6 qa6 Sa6 Na6 Ha6 Ga6 rfl W6 4 rfl (Nat.le_of_ble_eq_true rfl)
  have V_b1 : Arv Z h6 b1 k1 .int (8 : Int32) [(.int (1023 : Int32)), (.int (1023 : Int32)), (.int (1023 : Int32)), (.int (767 : Int32)), (.int (252 : Int32)), (.int (0 : Int32)), (.int (0 : Int32)), (.int (0 : Int32))] (.int (0 : Int32)) := V_b1
  have N6 := Fr.snoc X6 N5 g_b1
  have Kp := Kp.wr W6 (Or.inr sz_b1)
  have Zn := Nat.le_trans Zn (Nat.le_of_eq W6.size.symm)
  refine Run.st (S' := T6.setTop (mkF m 55 #[.val (.int p0), .val (.int p1), .val (.int bk), .val (.int th), .unset, .unset] [(.int (240 : Int32)), (.int (5 : Int32)), (.ref b1), (.ref b1)])) (fun _ k => st6 _ (XS.dup X6.here hx rfl (hb hby at_50) rfl rfl (XS.iconst X6.here hx rfl (hb hby at_51) (XS.sipush X6.here hx rfl (hb hby at_52) k)))) ?_
  obtain ⟨cl7, Ar7, qa7, Sa7, Na7, Ha7, Ga7⟩ := V_b1
  have hin7 : ¬ ((5 : Int32) < 0 ∨ cl7.slots.size ≤ ((5 : Int32)).toNatClampNeg) := inb_of Sa7 ⟨by decide, by decide⟩
  obtain ⟨T7, h7, X7, e7, W7, st7⟩ := stI X6 hx hZ e6 Ar7 (j := (5 : Int32)) hin7 (g := (mkF m 55 #[.val (.int p0), .val (.int p1), .val (.int bk), .val (.int th), .unset, .unset] [(.int (240 : Int32)), (.int (5 : Int32)), (.ref b1), (.ref b1)])) rfl rfl (hb hby at_55)
  have V_b1 := Arv.set Ar7 qa7 Sa7 Na7 Ha7 Ga7 rfl W7 5 rfl (Nat.le_of_ble_eq_true rfl)
  have V_b1 : Arv Z h7 b1 k1 .int (8 : Int32) [(.int (1023 : Int32)), (.int (1023 : Int32)), (.int (1023 : Int32)), (.int (767 : Int32)), (.int (252 : Int32)), (.int (240 : Int32)), (.int (0 : Int32)), (.int (0 : Int32))] (.int (0 : Int32)) := V_b1
  have N7 := Fr.snoc X7 N6 g_b1
  have Kp := Kp.wr W7 (Or.inr sz_b1)
  have Zn := Nat.le_trans Zn (Nat.le_of_eq W7.size.symm)
  refine Run.st (S' := T7.setTop (mkF m 62 #[.val (.int p0), .val (.int p1), .val (.int bk), .val (.int th), .unset, .unset] [(.int (192 : Int32)), (.int (6 : Int32)), (.ref b1), (.ref b1)])) (fun _ k => st7 _ (XS.dup X7.here hx rfl (hb hby at_56) rfl rfl (XS.bipush X7.here hx rfl (hb hby at_57) (XS.sipush X7.here hx rfl (hb hby at_59) k)))) ?_
  obtain ⟨cl8, Ar8, qa8, Sa8, Na8, Ha8, Ga8⟩ := V_b1
  have hin8 : ¬ ((6 : Int32) < 0 ∨ cl8.slots.size ≤ ((6 : Int32)).toNatClampNeg) := inb_of Sa8 ⟨by decide, by decide⟩
  obtain ⟨T8, h8, X8, e8, W8, st8⟩ := stI X7 hx hZ e7 Ar8 (j := (6 : Int32)) hin8 (g := (mkF m 62 #[.val (.int p0), .val (.int p1), .val (.int bk), .val (.int th), .unset, .unset] [(.int (192 : Int32)), (.int (6 : Int32)), (.ref b1), (.ref b1)])) rfl rfl (hb hby at_62)
  have V_b1 := Arv.set Ar8 qa8 Sa8 Na8 Ha8 Ga8 rfl W8 6 rfl (Nat.le_of_ble_eq_true rfl)
  have V_b1 : Arv Z h8 b1 k1 .int (8 : Int32) [(.int (1023 : Int32)), (.int (1023 : Int32)), (.int (1023 : Int32)), (.int (767 : Int32)), (.int (252 : Int32)), (.int (240 : Int32)), (.int (192 : Int32)), (.int (0 : Int32))] (.int (0 : Int32)) := V_b1
  have N8 := Fr.snoc X8 N7 g_b1
  have Kp := Kp.wr W8 (Or.inr sz_b1)
  have Zn := Nat.le_trans Zn (Nat.le_of_eq W8.size.symm)
  refine Run.st (S' := T8.setTop (mkF m 67 #[.val (.int p0), .val (.int p1), .val (.int bk), .val (.int th), .unset, .unset] [(.int (0 : Int32)), (.int (7 : Int32)), (.ref b1), (.ref b1)])) (fun _ k => st8 _ (XS.dup X8.here hx rfl (hb hby at_63) rfl rfl (XS.bipush X8.here hx rfl (hb hby at_64) (XS.iconst X8.here hx rfl (hb hby at_66) k)))) ?_
  obtain ⟨cl9, Ar9, qa9, Sa9, Na9, Ha9, Ga9⟩ := V_b1
  have hin9 : ¬ ((7 : Int32) < 0 ∨ cl9.slots.size ≤ ((7 : Int32)).toNatClampNeg) := inb_of Sa9 ⟨by decide, by decide⟩
  obtain ⟨T9, h9, X9, e9, W9, st9⟩ := stI X8 hx hZ e8 Ar9 (j := (7 : Int32)) hin9 (g := (mkF m 67 #[.val (.int p0), .val (.int p1), .val (.int bk), .val (.int th), .unset, .unset] [(.int (0 : Int32)), (.int (7 : Int32)), (.ref b1), (.ref b1)])) rfl rfl (hb hby at_67)
  have V_b1 := Arv.set Ar9 qa9 Sa9 Na9 Ha9 Ga9 rfl W9 7 rfl (Nat.le_of_ble_eq_true rfl)
  have V_b1 : Arv Z h9 b1 k1 .int (8 : Int32) [(.int (1023 : Int32)), (.int (1023 : Int32)), (.int (1023 : Int32)), (.int (767 : Int32)), (.int (252 : Int32)), (.int (240 : Int32)), (.int (192 : Int32)), (.int (0 : Int32))] (.int (0 : Int32)) := V_b1
  have N9 := Fr.snoc X9 N8 g_b1
  have Kp := Kp.wr W9 (Or.inr sz_b1)
  have Zn := Nat.le_trans Zn (Nat.le_of_eq W9.size.symm)
  refine Run.st (S' := T9.setTop (mkF m 73 #[.val (.int p0), .val (.int p1), .val (.int bk), .val (.int th), .val (.ref b1), .unset] [(.int bk), (.ref b1)])) (fun _ k => st9 _ (XS.astore X9.here hx rfl (hb hby at_68) rfl rfl (l' := #[.val (.int p0), .val (.int p1), .val (.int bk), .val (.int th), .val (.ref b1), .unset]) rfl (XS.aload X9.here hx rfl (hb hby at_70) rfl rfl (XS.iloadN X9.here hx rfl (hb hby at_72) rfl k)))) ?_
  obtain ⟨cl10, Ar10, qa10, Sa10, Na10, Ha10, Ga10⟩ := id V_b1
  have hin10 : ¬ (bk < 0 ∨ cl10.slots.size ≤ (bk).toNatClampNeg) := inb_of Sa10 (inb32 (n := 8) (by decide) hbk.1 hbk.2)
  have hat10 : cl10.slots[(bk).toNatClampNeg]? = some (.int (own_m bk)) := Has.at Ha10 hin10 (own_at bk hbk.1 hbk.2)
  refine Run.st (S' := T9.setTop (mkF m 78 #[.val (.int p0), .val (.int p1), .val (.int bk), .val (.int th), .val (.ref b1), .unset] [(.int (((own_m bk) >>> (th &&& 31)) &&& (1 : Int32)))])) (fun _ k => X9.iaload hx (j := bk) (v := (.int (own_m bk))) (by rw [e9]; exact Ar10.1) (State.isArrayOf_alike hZ.alike Ar10.2.1) Ar10.2.2 hin10 hat10 (g := (mkF m 73 #[.val (.int p0), .val (.int p1), .val (.int bk), .val (.int th), .val (.ref b1), .unset] [(.int bk), (.ref b1)])) rfl rfl (hb hby at_73) _ (XS.iloadN X9.here hx rfl (hb hby at_74) rfl (XS.ishr X9.here hx rfl (hb hby at_75) rfl (XS.iconst X9.here hx rfl (hb hby at_76) (XS.iand X9.here hx rfl (hb hby at_77) rfl k))))) ?_
  by_cases hc78_11 : (((own_m bk) >>> (th &&& 31)) &&& (1 : Int32)) = (0 : Int32)
  · refine Run.st (S' := T9.setTop (mkF m 90 #[.val (.int p0), .val (.int p1), .val (.int bk), .val (.int th), .val (.ref b1), .val (.int (0 : Int32))] [(.int th), (.int bk)])) (fun _ k => XS.ifYes X9.here hx rfl (pc0 := 78) (pc' := 85) rfl (hb hby at_78) rfl ((if0 _ _).trans (teq hc78_11).1) (by decide) (by decide) (XS.iconst X9.here hx rfl (hb hby at_85) (XS.istore X9.here hx rfl (hb hby at_86) rfl (l' := #[.val (.int p0), .val (.int p1), .val (.int bk), .val (.int th), .val (.ref b1), .val (.int (0 : Int32))]) rfl (XS.iloadN X9.here hx rfl (hb hby at_88) rfl (XS.iloadN X9.here hx rfl (hb hby at_89) rfl k))))) ?_
    obtain ⟨_, _, ⟨T12, L12, k12, n12⟩, -, X12, ⟨Lc12, hQ12, l12, y12, z12⟩, st12⟩ := Jvm.LawKit.callS X9 hx (y := (⟨"com/example/sidewager/sidewager/baccarat/Round", "bankerDraws", "(II)Z"⟩ : MethodName)) hown (mvT hZ (hw _ (List.mem_of_getElem? (i := 2) rfl))) (mvT hZ (hw _ (List.mem_of_getElem? (i := 3) rfl))) (mvT hZ (hw _ (List.mem_of_getElem? (i := 4) rfl))) (mvT hZ (hw _ (List.mem_of_getElem? (i := 5) rfl))) (by decide) (backOf (W := 0) (rm1 l Z aV hw [] bk th h9 n0 Zn ) hZ (hw _ (List.mem_of_getElem? (i := 5) rfl)) (hw _ (List.mem_of_getElem? (i := 4) rfl)) (by decide) (by decide)) (g := (mkF m 90 #[.val (.int p0), .val (.int p1), .val (.int bk), .val (.int th), .val (.ref b1), .val (.int (0 : Int32))] [(.int th), (.int bk)])) rfl (by rw [hml]; rfl) (argsL := [(.int bk), (.int th)]) (rest := []) (lenOf pd_0 rfl) rfl (by show 2 * 0 + _ ≤ _; exact Nat.le_of_eq rfl) (hb hby at_90) (fun _ _ => ⟨rfl, e9, (by decide : 1 + 0 ≤ _), (by decide : 8 + 0 ≤ _)⟩)
    dsimp only [Pt.U, Pt.locs, Pt.cells, Pt.slots] at X12 l12 y12 z12 st12 hQ12
    subst l12 y12 z12
    obtain ⟨rfl, N12q, e12⟩ := hQ12
    have N12 := Fr.app N9 N12q
    refine Run.st (S' := T12.setTop (mkF m 103 #[.val (.int p0), .val (.int p1), .val (.int bk), .val (.int th), .val (.ref b1), .val (.int (0 : Int32))] [(.int (1 : Int32))])) (fun _ k => st12 _ (XS.iload X12.here hx rfl (hb hby at_93) rfl (XS.icmpNo X12.here hx rfl (hb hby at_95) rfl (teq (show (F1 bk th) = (0 : Int32) from ((own_bank bk th hbk.1 hbk.2 hth.1 hth.2).1 hc78_11))).2 (XS.iconst X12.here hx rfl (hb hby at_98) (XS.goto X12.here hx rfl (pc0 := 99) (pc' := 103) rfl (hb hby at_99) (by decide) (by decide) k))))) ?_
    refine Run.out X12 hx Bd.notSynchronized Bd.returns rfl (Or.inl ⟨rfl, by simp, _, rfl⟩) (hb hby at_103) (by decide) (by decide) ?_
    rw [e12]
    exact ⟨rfl, N12⟩
  · refine Run.st (S' := T9.setTop (mkF m 90 #[.val (.int p0), .val (.int p1), .val (.int bk), .val (.int th), .val (.ref b1), .val (.int (1 : Int32))] [(.int th), (.int bk)])) (fun _ k => XS.ifNo X9.here hx rfl (hb hby at_78) rfl ((if0 _ _).trans (feq hc78_11).1) (XS.iconst X9.here hx rfl (hb hby at_81) (XS.goto X9.here hx rfl (pc0 := 82) (pc' := 86) rfl (hb hby at_82) (by decide) (by decide) (XS.istore X9.here hx rfl (hb hby at_86) rfl (l' := #[.val (.int p0), .val (.int p1), .val (.int bk), .val (.int th), .val (.ref b1), .val (.int (1 : Int32))]) rfl (XS.iloadN X9.here hx rfl (hb hby at_88) rfl (XS.iloadN X9.here hx rfl (hb hby at_89) rfl k)))))) ?_
    obtain ⟨_, _, ⟨T13, L13, k13, n13⟩, -, X13, ⟨Lc13, hQ13, l13, y13, z13⟩, st13⟩ := Jvm.LawKit.callS X9 hx (y := (⟨"com/example/sidewager/sidewager/baccarat/Round", "bankerDraws", "(II)Z"⟩ : MethodName)) hown (mvT hZ (hw _ (List.mem_of_getElem? (i := 2) rfl))) (mvT hZ (hw _ (List.mem_of_getElem? (i := 3) rfl))) (mvT hZ (hw _ (List.mem_of_getElem? (i := 4) rfl))) (mvT hZ (hw _ (List.mem_of_getElem? (i := 5) rfl))) (by decide) (backOf (W := 0) (rm1 l Z aV hw [] bk th h9 n0 Zn ) hZ (hw _ (List.mem_of_getElem? (i := 5) rfl)) (hw _ (List.mem_of_getElem? (i := 4) rfl)) (by decide) (by decide)) (g := (mkF m 90 #[.val (.int p0), .val (.int p1), .val (.int bk), .val (.int th), .val (.ref b1), .val (.int (1 : Int32))] [(.int th), (.int bk)])) rfl (by rw [hml]; rfl) (argsL := [(.int bk), (.int th)]) (rest := []) (lenOf pd_0 rfl) rfl (by show 2 * 0 + _ ≤ _; exact Nat.le_of_eq rfl) (hb hby at_90) (fun _ _ => ⟨rfl, e9, (by decide : 1 + 0 ≤ _), (by decide : 8 + 0 ≤ _)⟩)
    dsimp only [Pt.U, Pt.locs, Pt.cells, Pt.slots] at X13 l13 y13 z13 st13 hQ13
    subst l13 y13 z13
    obtain ⟨rfl, N13q, e13⟩ := hQ13
    have N13 := Fr.app N9 N13q
    refine Run.st (S' := T13.setTop (mkF m 103 #[.val (.int p0), .val (.int p1), .val (.int bk), .val (.int th), .val (.ref b1), .val (.int (1 : Int32))] [(.int (1 : Int32))])) (fun _ k => st13 _ (XS.iload X13.here hx rfl (hb hby at_93) rfl (XS.icmpNo X13.here hx rfl (hb hby at_95) rfl (teq (show (F1 bk th) = (1 : Int32) from ((own_bank bk th hbk.1 hbk.2 hth.1 hth.2).2 hc78_11))).2 (XS.iconst X13.here hx rfl (hb hby at_98) (XS.goto X13.here hx rfl (pc0 := 99) (pc' := 103) rfl (hb hby at_99) (by decide) (by decide) k))))) ?_
    refine Run.out X13 hx Bd.notSynchronized Bd.returns rfl (Or.inl ⟨rfl, by simp, _, rfl⟩) (hb hby at_103) (by decide) (by decide) ?_
    rw [e13]
    exact ⟨rfl, N13⟩
set_option maxRecDepth 65536 in
set_option maxHeartbeats 40000000 in
theorem comes_1 {Post : Tables → Env → Array Value → State → Outcome → State → Prop} (hpost : ∀ tb e args s v u, (limb_1_1.after args s (.returned v) u = true ∧ limb_1_2.after args s (.returned v) u = true ∧ True) → FrameEnd s (.returned v) u (Jvm.fieldLocs frame_1_writes args s ++ Jvm.arrayLocs frame_1_arrays args s ++ Jvm.staticLocs frame_1_statics s) 16 128 → Post tb e args s (.returned v) u) :
    ArmFor flags0 classFile x code maxLocals ret World_1 tables_1 room_1 Calls_1 rest_1 Pre_1 Post := by
  intro l hfl _ _ p e ha hc hk s m args below hf hA hF happ hP
  obtain ⟨hcalls, hrest, hpre⟩ := hP
  obtain ⟨-, -, -, hnamed, -, -, -, hat⟩ := (Spec.applies_iff hf).mp happ
  obtain ⟨hg, hn⟩ := and_e (Cond.before_iff.mp (show (Jvm.Cond.and given_1 narrow_1).before args s = true from hpre))
  obtain ⟨gv1, gv2⟩ := and_e hg
  obtain ⟨gv3, gv4⟩ := and_e gv2
  obtain ⟨w0, w1, rfl⟩ : ∃ w0 w1 : Value, args = #[w0, w1] := by
    have hs : args.size = 2 := by simpa [Cond.value, given_1] using gv1
    obtain ⟨L⟩ := args
    match L, hs with
    | [w0, w1], _ => exact ⟨w0, w1, rfl⟩
  have hw := fun d (hd : d ∈ tables_1) => atoms_spec (ws := Jvm.Cond.code x code maxLocals ret :: tables_1) hat d (List.mem_cons_of_mem _ hd)
  have hfit : Fit s := fun {y c} hc i hi => by
    obtain ⟨ha, rfl⟩ := Array.getElem?_eq_some_iff.mp hc
    have q := List.all_eq_true.mp ((Array.all_eq_true_iff_forall_mem.mp hF) _ (Array.getElem_mem ha)) i (List.mem_range.mpr hi)
    simpa [Array.getElem?_eq_getElem hi] using q
  obtain ⟨i0, ei0⟩ := is_v gv3
  obtain rfl : w0 = (.int i0) := Option.some.inj ei0
  obtain ⟨i1, ei1⟩ := is_v gv4
  obtain rfl : w1 = (.int i1) := Option.some.inj ei1
  obtain ⟨n, o, h1, h2, h3, _, L, rfl, ⟨rfl, N⟩, hq⟩ := rm0 l s _ hw tables_1 i0 i1 s.heap s.heap.size (Nat.le_refl _)  p e ha hc hk s m _ below hf ((Spec.applies_iff_loose hf).mp happ).1 ⟨rfl, State.Warmed39.refl s, rfl⟩ trivial
  refine ⟨n, _, h1, h2, h3, hpost _ _ _ _ _ _ ⟨Cond.after_iff.mpr rfl, Cond.after_iff.mpr (eq_i res_at (Term.int_eval (1)) rfl), trivial⟩ ⟨hq.1, hq.2.1, (hq.2.2.sift fun y hy => Or.inr (N y hy)).mono (by decide) (by decide)⟩⟩
theorem main_1_1 : Claimed_1_1 := comes_1 fun _ _ _ _ _ _ h hF => ⟨h.1, hF⟩
theorem main_1_2 : Claimed_1_2 := comes_1 fun _ _ _ _ _ _ h hF => ⟨h.2.1, hF⟩
end Jvm.Pilot.@@N@@
namespace Jvm.Pilot.@@N@@
open Jvm Jvm.ClassFile Sem Op Lib Jvm.Free Jvm.Stand Jvm.Pilot.@@N@@.Jvm.D
/-! MADE BY PROGRAM (witnessworld.py) out of the Statement's table words and the real class files: 9 classes; the members and pool entries that the words name. The judged class is class 1, her method 1. -/
namespace start1
open Jvm.ClassFile
def u (s : String) : CpInfo := .utf8 (stringToUtf16 s)
/-- a pool by its gaps: so many unusable entries, then the entry; so many at the end -/
def gap : Nat → List CpInfo → List CpInfo
  | 0, r => r
  | n + 1, r => .unusable :: gap n r
def poolList (es : List (Nat × CpInfo)) (last : Nat) : List CpInfo := es.foldr (fun e r => gap e.1 (e.2 :: r)) (gap last [])
def pool (es : List (Nat × CpInfo)) (last : Nat) : Array CpInfo := ⟨poolList es last⟩
def fileOf (pool : Array CpInfo) (this : Nat) (attrs : Array Attribute := #[]) (ms : Array MethodInfo := #[]) (fl : Nat := 33) (sup : Nat := 0) (ifs : Array Nat := #[]) (fds : Array FieldInfo := #[]) : ClassFile where
  minorVersion := 0
  majorVersion := 65
  constantPool := pool
  accessFlags := fl
  thisClass := this
  superClass := sup
  interfaces := ifs
  fields := fds
  methods := ms
  attributes := attrs
def plain (name : String) (sup : Option ClassId) : Class where
  name := name
  kind := .ordinary
  loader := none
  accessFlags := 33
  super := sup
  interfaces := #[]
  cf := none
  fields := #[]
  methods := #[]
  instanceTypes := #[]
  staticTypes := #[]
  resolved := #[]
  callSites := []
  init := .initialized
  statics := none
  mirror := none

def pool0 : Array CpInfo := pool [(5, u "<init>"), (0, u "()V"), (1, .class_ 10), (1, u "java/lang/Object")] 113

def k0m0 : Method := { name := "<init>", desc := "()V", sig := { parameters := [], returnType := none }, accessFlags := 1, code := none }
/-- java/lang/Object -/
def k0 : Class := { plain "java/lang/Object" none with
  accessFlags := 33
  interfaces := #[]
  cf := some (fileOf pool0 8 #[] #[{ accessFlags := 1, nameIndex := 5, descriptorIndex := 6, attributes := #[] }] 33 0 #[] #[])
  fields := #[]
  methods := #[k0m0]
  instanceTypes := #[]
  staticTypes := #[]
  resolved := Array.replicate 124 none
  statics := none }

def pool1 : Array CpInfo := pool [(2, .class_ 4), (1, u "java/lang/Object"), (0, u "<init>"), (0, u "()V"), (0, .integer 2147483647), (0, .methodref 9 10), (0, .class_ 11), (0, .nameAndType 12 13), (0, u "com/example/sidewager/sidewager/baccarat/Round"), (0, u "bankerDraws"), (0, u "(II)Z"), (0, .class_ 15), (0, u "com/example/sidewager/sidewager/baccarat/RoundBankerDrawsPinLaw"), (2, u "law")] 5

def k1m0 : Method := { name := "<init>", desc := "()V", sig := { parameters := [], returnType := none }, accessFlags := 2, code := none }
def k1c1 : Code := { maxStack := 4, maxLocals := 6, code := code, exceptionTable := #[], attributes := #[] }
def k1m1 : Method := { name := "law", desc := "(II)Z", sig := { parameters := [.int, .int], returnType := some .boolean }, accessFlags := 9, code := some k1c1 }
/-- com/example/sidewager/sidewager/baccarat/RoundBankerDrawsPinLaw -/
def k1 : Class := { plain "com/example/sidewager/sidewager/baccarat/RoundBankerDrawsPinLaw" (some 0) with
  accessFlags := 49
  interfaces := #[]
  cf := some (fileOf pool1 14 #[] #[{ accessFlags := 2, nameIndex := 5, descriptorIndex := 6, attributes := #[] }, { accessFlags := 9, nameIndex := 18, descriptorIndex := 13, attributes := #[] }] 49 2 #[] #[])
  fields := #[]
  methods := #[k1m0, k1m1]
  instanceTypes := #[]
  staticTypes := #[]
  resolved := Array.replicate 24 none
  statics := none }

def pool2 : Array CpInfo := pool [(2, .class_ 4), (1, u "java/lang/Object"), (3, u "player"), (9, .class_ 20), (1, u "com/example/sidewager/sidewager/baccarat/Round"), (0, u "Lcom/example/sidewager/sidewager/baccarat/Hand;"), (1, u "banker"), (103, u "bankerDraws"), (0, u "(II)Z"), (31, u "NATURAL_LOWEST"), (0, u "I"), (2, u "DRAWS_HIGHEST")] 36

def k2c0 : Code := { maxStack := 2, maxLocals := 2, code := prog_18_method_7_code, exceptionTable := #[], attributes := #[] }
def k2m0 : Method := { name := "bankerDraws", desc := "(II)Z", sig := { parameters := [.int, .int], returnType := some .boolean }, accessFlags := 9, code := some k2c0 }
/-- com/example/sidewager/sidewager/baccarat/Round -/
def k2 : Class := { plain "com/example/sidewager/sidewager/baccarat/Round" (some 0) with
  accessFlags := 49
  interfaces := #[]
  cf := some (fileOf pool2 18 #[] #[{ accessFlags := 9, nameIndex := 127, descriptorIndex := 128, attributes := #[] }] 49 2 #[] #[{ accessFlags := 26, nameIndex := 160, descriptorIndex := 161, attributes := #[] }, { accessFlags := 26, nameIndex := 164, descriptorIndex := 161, attributes := #[] }, { accessFlags := 18, nameIndex := 8, descriptorIndex := 21, attributes := #[] }, { accessFlags := 18, nameIndex := 23, descriptorIndex := 21, attributes := #[] }])
  fields := #[{ name := "NATURAL_LOWEST", type := .int, accessFlags := 26, slot := 0, constantValue := 0 }, { name := "DRAWS_HIGHEST", type := .int, accessFlags := 26, slot := 1, constantValue := 0 }, { name := "player", type := (.object "com/example/sidewager/sidewager/baccarat/Hand"), accessFlags := 18, slot := 0, constantValue := 0 }, { name := "banker", type := (.object "com/example/sidewager/sidewager/baccarat/Hand"), accessFlags := 18, slot := 1, constantValue := 0 }]
  methods := #[k2m0]
  instanceTypes := #[(.object "com/example/sidewager/sidewager/baccarat/Hand"), (.object "com/example/sidewager/sidewager/baccarat/Hand")]
  staticTypes := #[.int, .int]
  resolved := Array.replicate 201 none
  statics := none }

def pool3 : Array CpInfo := pool [(1, u "java/lang/Cloneable"), (0, .class_ 1), (0, u "java/lang/Object"), (0, .class_ 3)] 3

/-- java/lang/Cloneable -/
def k3 : Class := { plain "java/lang/Cloneable" (some 0) with
  accessFlags := 1537
  interfaces := #[]
  cf := some (fileOf pool3 2 #[] #[] 1537 4 #[] #[])
  fields := #[]
  methods := #[]
  instanceTypes := #[]
  staticTypes := #[]
  resolved := Array.replicate 8 none
  statics := none }

def pool4 : Array CpInfo := pool [(1, u "java/io/Serializable"), (0, .class_ 1), (0, u "java/lang/Object"), (0, .class_ 3)] 3

/-- java/io/Serializable -/
def k4 : Class := { plain "java/io/Serializable" (some 0) with
  accessFlags := 1537
  interfaces := #[]
  cf := some (fileOf pool4 2 #[] #[] 1537 4 #[] #[])
  fields := #[]
  methods := #[]
  instanceTypes := #[]
  staticTypes := #[]
  resolved := Array.replicate 8 none
  statics := none }

/-- the primitive byte -/
def k5 : Class := { plain "byte" none with kind := .primitive 'B', accessFlags := 0x411 }
/-- [B -/
def k6 : Class := { plain "[B" (some 0) with kind := .array 5 .byte, interfaces := #[3, 4], accessFlags := 1041 }

/-- the primitive int -/
def k7 : Class := { plain "int" none with kind := .primitive 'I', accessFlags := 0x411 }
/-- [I -/
def k8 : Class := { plain "[I" (some 0) with kind := .array 7 .int, interfaces := #[3, 4], accessFlags := 1041 }

def heap : Heap := #[]
def classes : Array Class := #[k0, k1, k2, k3, k4, k5, k6, k7, k8]
def interned : List (Array UInt16 × Addr) := []
def slotsUsed : Nat := 0
def theMethod : MethodId := ⟨1, 1⟩
def args0 : Array Value := #[.int 3, .int 4]
def aboutOver (below : List Frame) : State where
  vm := { classes := classes, interned := interned.toArray }
  heap := heap
  slotsUsed := slotsUsed
  threads := #[{ frames := .invoking theMethod args0 :: below }]
def below0 : List Frame := [.native { method := ⟨0, 0⟩, args := #[] }]
def about1 : State := aboutOver below0
def p0 : Program := .bare "" "" ""
def e0 : Env := launch0.env 0 0 0
theorem w_frames : about1.frames = Frame.invoking theMethod args0 :: below0 := rfl
set_option maxRecDepth 65536 in
theorem w_args : argsFit about1.vm theMethod args0 = true := by decide +kernel
set_option maxRecDepth 65536 in
theorem w_heap : heapFits about1 = true := by decide +kernel
set_option maxRecDepth 65536 in
theorem w_runnable : about1.curStatus? = some .runnable := by decide +kernel
set_option maxRecDepth 65536 in
theorem w_alone : about1.alone = true := by decide +kernel
set_option maxRecDepth 65536 in
theorem w_named : about1.methodNamed? x = some theMethod := by decide +kernel
set_option maxRecDepth 65536 in
theorem w_hears : about1.hears theMethod below0 = true := by decide +kernel
set_option maxRecDepth 65536 in
theorem w_ripe : about1.ripe theMethod args0 below0 = true := by decide +kernel
theorem w_running : about1.status = .running := rfl
set_option maxRecDepth 65536 in
theorem w_room : about1.hasRoom e0.platform room_1 = true :=
  launch0.hasRoom_least _ room_1 (by decide +kernel) (by decide +kernel) (by decide +kernel) (by decide +kernel) (by decide +kernel) (by decide +kernel)
theorem allAtoms_all (ts : List Jvm.Cond) (a : Array Jvm.Value) (st : Jvm.State) : (allAtoms ts).before a st = ts.all (fun c => c.before a st) := by
  induction ts with
  | nil => rfl
  | cons c t ih =>
    show (Jvm.Cond.and c (allAtoms t)).before a st = _
    rw [Jvm.Cond.before_and, ih, List.all_cons]
def words1 : List Jvm.Cond := Jvm.Cond.code x code maxLocals ret :: tables_1
/-- a 'code' word, met by the world's own term for the bytes: nothing is compared byte by byte -/
theorem code_word {y : MethodName} {bytes : ByteArray} {mx : Nat} {rt : Option FieldType} {a : Array Value} {s : State} {m : MethodId} {meth : Method} {c : Code} (h1 : s.methodNamed? y = some m) (h2 : s.vm.method? m = some meth) (h3 : meth.code = some c) (h4 : c.code = bytes)
    (h5 : (c.maxLocals == mx && c.exceptionTable.isEmpty && decide (c.maxStack ≤ mostOperands) && decide (meth.sig.returnType = rt) && !meth.locks && decide (parseMethodDescriptor y.desc = some meth.sig)) = true) : (Jvm.Cond.code y bytes mx rt).before a s = true := by
  simp only [Bool.and_eq_true, beq_iff_eq, Bool.not_eq_true', decide_eq_true_eq] at h5
  obtain ⟨⟨⟨⟨⟨g1, g2⟩, g3⟩, g4⟩, g5⟩, g6⟩ := h5
  simp [Cond.before, Cond.holds, Cond.value, h1, h2, h3, h4, g1, g2, g3, g4, g5, g6]
def isCode : Jvm.Cond → Bool
  | .code _ _ _ _ => true
  | _ => false
theorem all_split {L : List Jvm.Cond} {P : Jvm.Cond → Bool} (h1 : L.all (fun c => isCode c || P c) = true) (h2 : ∀ c ∈ L.filter isCode, P c = true) : L.all P = true := by
  refine List.all_eq_true.mpr fun c hc => ?_
  have h := List.all_eq_true.mp h1 c hc
  rcases Bool.eq_false_or_eq_true (isCode c) with hi | hi
  · exact h2 c (List.mem_filter.mpr ⟨hc, hi⟩)
  · simpa [hi] using h
set_option maxRecDepth 65536 in
theorem w_c0 : (Jvm.Cond.code x code maxLocals ret).before args0 about1 = true := code_word (m := ⟨1, 1⟩) (meth := k1m1) (c := k1c1) (by decide +kernel) rfl rfl rfl (by decide +kernel)
set_option maxRecDepth 65536 in
theorem w_c1 : (Jvm.Cond.code ({ cls := "com/example/sidewager/sidewager/baccarat/Round", name := "bankerDraws", desc := "(II)Z" } : Jvm.MethodName) prog_18_method_7_code (2 : Nat) (Option.some Jvm.ClassFile.FieldType.boolean)).before args0 about1 = true := code_word (m := ⟨2, 0⟩) (meth := k2m0) (c := k2c0) (by decide +kernel) rfl rfl rfl (by decide +kernel)
def codes1 : List Jvm.Cond := [Jvm.Cond.code x code maxLocals ret, Jvm.Cond.code ({ cls := "com/example/sidewager/sidewager/baccarat/Round", name := "bankerDraws", desc := "(II)Z" } : Jvm.MethodName) prog_18_method_7_code (2 : Nat) (Option.some Jvm.ClassFile.FieldType.boolean)]
set_option maxRecDepth 65536 in
theorem codes_eq : words1.filter isCode = codes1 := rfl
theorem w_codes : ∀ c ∈ words1.filter isCode, c.before args0 about1 = true := by
  rw [codes_eq]
  intro c hc
  simp only [codes1, List.mem_cons, List.not_mem_nil, or_false] at hc
  rcases hc with rfl | rfl
  · exact w_c0
  · exact w_c1
set_option maxRecDepth 65536 in
theorem w_t1 : words1.all (fun c => isCode c || c.before args0 about1) = true := by decide +kernel
theorem w_tables : (allAtoms (Jvm.Cond.code x code maxLocals ret :: tables_1)).before args0 about1 = true := by
  rw [allAtoms_all]
  show words1.all (fun c => c.before args0 about1) = true
  refine all_split ?_ w_codes
  rw [w_t1]
set_option maxRecDepth 65536 in
theorem w_case : (Jvm.Cond.and given_1 narrow_1).before args0 about1 = true := by decide +kernel
theorem w_applies : (headSpec (Jvm.Cond.code x code maxLocals ret :: tables_1) room_1).applies x e0.platform about1 = true :=
  (Spec.applies_iff w_frames).mpr ⟨w_running, w_runnable, w_alone, w_named, w_hears, w_ripe, w_room, w_tables⟩
theorem atStart : AtStart classFile x code maxLocals ret World_1 tables_1 room_1 Calls_1 rest_1 Pre_1 launch0 p0 e0 about1 theMethod args0 below0 :=
  ⟨lists_1, trivial, launch0.admits_env _ _ _, launch0.least_env, fairChoices_fair.cas, fairChoices_fair.clock, w_frames, w_args, w_heap, w_applies, trivial, trivial, w_case⟩
end start1
theorem witness_1 : WitnessClaimed_1 := ⟨start1.p0, start1.e0, start1.about1, start1.theMethod, start1.args0, start1.below0, start1.atStart⟩
end Jvm.Pilot.@@N@@
