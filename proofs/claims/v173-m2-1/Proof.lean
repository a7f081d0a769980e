import JvmDerived
import JvmDerived.Pilot.@@N@@Statement
import JvmDerived.Pilot.@@N@@Code
set_option linter.unusedVariables false
set_option linter.unusedSimpArgs false
namespace Jvm.RoadKit
open Sem ClassFile Op Lib Jvm.Stand Jvm.Free Jvm.LawKit
section New
variable {p : Program} {l : Launch} {e : Env} {R : Room} {s : State} {m : MethodId} {args : Array Value} {below : List Frame} {meth : Method} {c : Code} {T : State} {locs : List Loc} {cells slots : Nat}
theorem retI (X : Stand p l e R s m args below meth c T locs cells slots) (hx : p.tables.exec = Jvm.exec) {pc : Nat} {Ls : Array Slot} {z : Int32} {rest : List Value} (hret : meth.sig.returnType = some .int) (hd : decode c.code pc = .ok (.ireturn, 1)) {fs : List Frame}
    (hl : ∀ (f : JFrame) (acts : List Action), f.method = m → f.locked = none → f.entered = [] → (doReturn e (T.setTop f) acts (some (.int z))).1 = T.setFrames fs) : Steps p.tables e below (T.setTop (mkF m pc Ls (.int z :: rest))) (T.setFrames fs) := by
  have hm' : T.vm.method? m = some meth := X.method'
  have hn : narrow .int (.int z) = .int z := rfl
  show Steps p.tables e below (T.setTop { method := m, pc := pc, locals := Ls, stack := _ :: rest, locked := none }) _
  jvm_step X.here [X.here.top, hx, hd, hm', hret, hn]
  first | (intro acts; rw [hl _ acts rfl rfl rfl]) | rw [hl _ _ rfl rfl rfl]
  exact Steps.refl _
/-- from the state T with the frame g on top the run ends, returned, with Q -/
def own_Go (tb : Tables) (e : Env) (below : List Frame) (Q : Option Value → Heap → List Loc → Prop) (s : State) (C S : Nat) (T : State) (g : JFrame) : Prop :=
  ∃ t o, Steps tb e below (T.setTop g) t ∧ t.status = .running ∧ Ended t below o ∧ ∃ v L, o = .returned v ∧ Q v t.heap L ∧ FrameEnd s o t L C S
theorem own_by {tb : Tables} {Q : Option Value → Heap → List Loc → Prop} {C S : Nat} {T T' : State} {g g' : JFrame} (st : ∀ target, Steps tb e below (T'.setTop g') target → Steps tb e below (T.setTop g) target) (k : own_Go tb e below Q s C S T' g') : own_Go tb e below Q s C S T g := by
  obtain ⟨t, o, h1, h2⟩ := k
  exact ⟨t, o, st t h1, h2⟩
theorem bN {tb : Tables} {Q : Option Value → Heap → List Loc → Prop} {C S : Nat} {T : State} {g : JFrame} (T' : State) (g' : JFrame) (st : ∀ target, Steps tb e below (T'.setTop g') target → Steps tb e below (T.setTop g) target) (k : own_Go tb e below Q s C S T' g') : own_Go tb e below Q s C S T g := own_by st k
/-- the contract of a body: from the heap h0, with the arguments A, it returns, with Q -/
abbrev own_M (l : Launch) (y : MethodName) (code : ByteArray) (ml : Nat) (rt : Option FieldType) (ws : List Cond) (R : Room) (Z : State) (A : Array Value) (h0 : Heap) (Q : Option Value → Heap → List Loc → Prop) : Prop :=
  MetFree l y (head1 (Cond.code y code ml rt :: ws) R) (fun a U => a = A ∧ Z.Warmed39 U.vm ∧ U.heap = h0) (fun _ _ _ _ _ => True) (fun _ U o U' => ∃ v L, o = .returned v ∧ Q v U'.heap L ∧ FrameEnd U o U' L R.cells R.slots)
theorem own_bd {y : MethodName} {code : ByteArray} {ml : Nat} {rt : Option FieldType} {ws : List Cond} {Z : State} {A : Array Value} {h0 : Heap} {Q : Option Value → Heap → List Loc → Prop} (hpl : plainFor y = true)
    (k : ∀ p e s m below meth c s₁, BodyLoose p l y (head1 (Cond.code y code ml rt :: ws) R) code ml rt e s m A below meth c s₁ → p.tables.exec = Jvm.exec → c.code = code → c.maxLocals = ml → s.vm.findClass y.cls = some m.cls → meth.name = y.name → meth.locks = false → Z.Warmed39 s.vm → Stand p l e R s m A below meth c s₁ [] 0 0 → s₁.heap = h0 → own_Go p.tables e below Q s R.cells R.slots s₁ (entryFrame m A ml)) : own_M l y code ml rt ws R Z A h0 Q := by
  refine MetFree.of_bodySF hpl hisR ?_
  intro p e s m args below meth c s₁ Bd hml hP hK
  obtain ⟨rfl, hZ, hh⟩ := hP
  exact k p e s m below meth c s₁ Bd Bd.exec Bd.bytes hml (findClass_of_methodNamed Bd.named) (name_of_methodNamed Bd.named Bd.method).1 Bd.notSynchronized hZ (Stand.of_body Bd) (by rw [← hh, Bd.state]; rfl)
theorem own_ret {Q : Option Value → Heap → List Loc → Prop} {C S : Nat} {g : JFrame} (X : Stand p l e R s m args below meth c T locs cells slots) (hlk : meth.locks = false) {v : Option Value} (hv : meth.sig.returnType = none → v = none)
    (st : ∀ fs, (∀ (f : JFrame) (acts : List Action), f.method = m → f.locked = none → f.entered = [] → (doReturn e (T.setTop f) acts v).1 = T.setFrames fs) → Steps p.tables e below (T.setTop g) (T.setFrames fs))
    (hq : Q v T.heap locs) (hc : cells ≤ C) (hs : slots ≤ S) : own_Go p.tables e below Q s C S T g := by
  obtain ⟨fs, hr, hrun, hended, hW, hsame⟩ := X.leave (v := v) hv hlk
  exact ⟨_, _, st fs hr, hrun, hended, v, locs, rfl, hq, ⟨v, rfl⟩, hW, hsame.mono hc hs⟩
end New
end Jvm.RoadKit
namespace Jvm.Pilot.@@N@@
open Jvm Jvm.ClassFile Sem Op Lib Jvm.Free Jvm.Stand Jvm.LawKit Jvm.RoadKit Bundle Jvm.Pilot.@@N@@.Jvm.D
theorem pd_0 : parseMethodDescriptor "(I)I" = some ⟨[.int], some .int⟩ := by decide +kernel
theorem pd_1 : parseMethodDescriptor "()I" = some ⟨[], some .int⟩ := by decide +kernel
theorem pd_2 : parseMethodDescriptor "(I)Lcom/example/nisaba/nisaba/item/Permission;" = some ⟨[.int], some (.object "com/example/nisaba/nisaba/item/Permission")⟩ := by decide +kernel
theorem pd_3 : parseMethodDescriptor "(I)Z" = some ⟨[.int], some .boolean⟩ := by decide +kernel
theorem own_fld {args : Array Value} {s : State} {t : Term} {C n d : String} {a : Addr} {k : Int32} (ht : t.eval args s none [] s = some (.ref a)) (h : (Jvm.Cond.eq (.field t C n d) (.int k)).value args s none s [] = some true) : Fld s s.heap a C n d (.int k) := by
  refine Fld.start ?_
  rw [← fld_at (args := args) (first := s) (o := none) (idx := []) (s := s) (C := C) (n := n) (dd := d) ht]
  obtain ⟨x, y, e1, e2, -, -⟩ := cmp_v (Or.inl h)
  rw [Term.int_eval k] at e2
  obtain rfl : Value.int k = y := Option.some.inj e2
  cases x <;> simp [Jvm.Cond.value, e1, Term.int_eval] at h
  rw [e1, h]
def own_pick (i : Int32) (a0 a1 a2 a3 a4 a5 a6 : Addr) : Addr := if i = 0 then a0 else if i = 1 then a1 else if i = 2 then a2 else if i = 3 then a3 else if i = 4 then a4 else if i = 5 then a5 else a6
def own_in (g b : Int32) : Int32 := if g &&& b = (0 : Int32) then 0 else 1
theorem own_mod7 (x : Int32) : (x &&& (2147483647 : Int32)) % (7 : Int32) = 0 ∨ (x &&& (2147483647 : Int32)) % (7 : Int32) = 1 ∨ (x &&& (2147483647 : Int32)) % (7 : Int32) = 2 ∨ (x &&& (2147483647 : Int32)) % (7 : Int32) = 3 ∨ (x &&& (2147483647 : Int32)) % (7 : Int32) = 4 ∨ (x &&& (2147483647 : Int32)) % (7 : Int32) = 5 ∨ (x &&& (2147483647 : Int32)) % (7 : Int32) = 6 := by
  have h := (c_and x 2147483647 (by decide)).1
  have h1 := (c_irem (x &&& 2147483647) 7 7 (by decide)).1 h
  have k0 : (0 : Int32).toInt = 0 := by decide
  have k1 : (1 : Int32).toInt = 1 := by decide
  have k2 : (2 : Int32).toInt = 2 := by decide
  have k3 : (3 : Int32).toInt = 3 := by decide
  have k4 : (4 : Int32).toInt = 4 := by decide
  have k5 : (5 : Int32).toInt = 5 := by decide
  have k6 : (6 : Int32).toInt = 6 := by decide
  simp only [← Int32.toInt_inj, k0, k1, k2, k3, k4, k5, k6]
  omega
theorem own_and1 (x : Int32) : x &&& (1 : Int32) = 1 ↔ x.toInt % 2 = 1 := by
  have m := c_mask x 1 1 (by decide) (by decide)
  have e : ((2 ^ 1 : Nat) : Int) = 2 := by decide
  have k : (1 : Int32).toInt = 1 := by decide
  rw [← Int32.toInt_inj, m, e, k]
theorem own_nb (x i : Nat) : x &&& 2 ^ i = 0 ↔ ¬ (x / 2 ^ i % 2 = 1) := by
  constructor
  · intro h q
    have t : (x &&& 2 ^ i).testBit i = true := by rw [Nat.testBit_and, Nat.testBit_two_pow_self, Bool.and_true, Nat.testBit_eq_decide_div_mod_eq]; exact decide_eq_true q
    rw [h, Nat.zero_testBit] at t
    cases t
  · intro h
    apply Nat.eq_of_testBit_eq
    intro j
    rw [Nat.testBit_and, Nat.zero_testBit]
    by_cases e : i = j
    · subst e; rw [Nat.testBit_eq_decide_div_mod_eq, decide_eq_false h, Bool.false_and]
    · rw [Nat.testBit_two_pow_of_ne e, Bool.and_false]
theorem own_andP (x b : Int32) (i : Nat) (hb : b.toBitVec.toNat = 2 ^ i) : x &&& b = (0 : Int32) ↔ ¬ (x.toBitVec.toNat / 2 ^ i % 2 = 1) := by
  rw [← Int32.toBitVec_inj, ← BitVec.toNat_inj]
  have e : (x &&& b).toBitVec.toNat = x.toBitVec.toNat &&& 2 ^ i := by simp [Int32.toBitVec_and, BitVec.toNat_and, hb]
  have z : (0 : Int32).toBitVec.toNat = 0 := by decide
  have pp : 0 < 2 ^ i := Nat.two_pow_pos i
  rw [e, z]
  exact own_nb _ _
theorem own_toInt (x : Int32) : x.toInt % 4294967296 = (x.toBitVec.toNat : Int) := by
  have t : x.toInt = if 2 * x.toBitVec.toNat < 2 ^ 32 then (x.toBitVec.toNat : Int) else (x.toBitVec.toNat : Int) - (2 ^ 32 : Nat) := BitVec.toInt_eq_toNat_cond x.toBitVec
  have l := x.toBitVec.isLt
  rw [t]
  split <;> omega
theorem own_bit0 (g : Int32) : (if (((g.toUInt32 >>> ((0 : Int32) &&& 31).toUInt32).toInt32) &&& (1 : Int32)) = (1 : Int32) then (1 : Int32) else (0 : Int32)) = own_in g (1 : Int32) := by
  unfold own_in
  have b := own_andP g 1 0 (by decide)
  have t := own_toInt g
  simp only [own_and1, b]
  have s : (g.toUInt32 >>> ((0 : Int32) &&& 31).toUInt32).toInt32 = g := by
    show (g.toUInt32 >>> (0 : UInt32)).toInt32 = g
    rw [UInt32.shiftRight_zero]
    exact Int32.toInt32_toUInt32 g
  rw [s]
  (repeat' split) <;> first | rfl | omega
theorem own_bit1 (g : Int32) : (if (((g.toUInt32 >>> ((1 : Int32) &&& 31).toUInt32).toInt32) &&& (1 : Int32)) = (1 : Int32) then (1 : Int32) else (0 : Int32)) = own_in g (2 : Int32) := by
  unfold own_in
  have b := own_andP g 2 1 (by decide)
  have t := own_toInt g
  simp only [own_and1, b]
  have s := c_iushr g 1 1 (by decide) (by decide)
  rw [s]
  have e : ((2 ^ 1 : Nat) : Int) = 2 := by decide
  rw [e, t]
  (repeat' split) <;> first | rfl | omega
theorem own_bit2 (g : Int32) : (if (((g.toUInt32 >>> ((2 : Int32) &&& 31).toUInt32).toInt32) &&& (1 : Int32)) = (1 : Int32) then (1 : Int32) else (0 : Int32)) = own_in g (4 : Int32) := by
  unfold own_in
  have b := own_andP g 4 2 (by decide)
  have t := own_toInt g
  simp only [own_and1, b]
  have s := c_iushr g 2 2 (by decide) (by decide)
  rw [s]
  have e : ((2 ^ 2 : Nat) : Int) = 4 := by decide
  rw [e, t]
  (repeat' split) <;> first | rfl | omega
theorem own_bit3 (g : Int32) : (if (((g.toUInt32 >>> ((3 : Int32) &&& 31).toUInt32).toInt32) &&& (1 : Int32)) = (1 : Int32) then (1 : Int32) else (0 : Int32)) = own_in g (8 : Int32) := by
  unfold own_in
  have b := own_andP g 8 3 (by decide)
  have t := own_toInt g
  simp only [own_and1, b]
  have s := c_iushr g 3 3 (by decide) (by decide)
  rw [s]
  have e : ((2 ^ 3 : Nat) : Int) = 8 := by decide
  rw [e, t]
  (repeat' split) <;> first | rfl | omega
theorem own_bit4 (g : Int32) : (if (((g.toUInt32 >>> ((4 : Int32) &&& 31).toUInt32).toInt32) &&& (1 : Int32)) = (1 : Int32) then (1 : Int32) else (0 : Int32)) = own_in g (16 : Int32) := by
  unfold own_in
  have b := own_andP g 16 4 (by decide)
  have t := own_toInt g
  simp only [own_and1, b]
  have s := c_iushr g 4 4 (by decide) (by decide)
  rw [s]
  have e : ((2 ^ 4 : Nat) : Int) = 16 := by decide
  rw [e, t]
  (repeat' split) <;> first | rfl | omega
theorem own_bit5 (g : Int32) : (if (((g.toUInt32 >>> ((5 : Int32) &&& 31).toUInt32).toInt32) &&& (1 : Int32)) = (1 : Int32) then (1 : Int32) else (0 : Int32)) = own_in g (32 : Int32) := by
  unfold own_in
  have b := own_andP g 32 5 (by decide)
  have t := own_toInt g
  simp only [own_and1, b]
  have s := c_iushr g 5 5 (by decide) (by decide)
  rw [s]
  have e : ((2 ^ 5 : Nat) : Int) = 32 := by decide
  rw [e, t]
  (repeat' split) <;> first | rfl | omega
theorem own_bit6 (g : Int32) : (if (((g.toUInt32 >>> ((6 : Int32) &&& 31).toUInt32).toInt32) &&& (1 : Int32)) = (1 : Int32) then (1 : Int32) else (0 : Int32)) = own_in g (64 : Int32) := by
  unfold own_in
  have b := own_andP g 64 6 (by decide)
  have t := own_toInt g
  simp only [own_and1, b]
  have s := c_iushr g 6 6 (by decide) (by decide)
  rw [s]
  have e : ((2 ^ 6 : Nat) : Int) = 64 := by decide
  rw [e, t]
  (repeat' split) <;> first | rfl | omega
theorem own_selP {s : State} {args : Array Value} {y z : MethodName} (hsel : (Jvm.Cond.selects z.cls z z).before args s = true) (hpriv : s.PrivateAt y) (hinst : (Jvm.Cond.instanceMethod y).before args s = true) (hyz : y.cls = z.cls) (hy : y.cls ≠ "java/lang/invoke/MethodHandle" ∧ y.cls ≠ "java/lang/invoke/VarHandle") : (Jvm.Cond.selects y.cls y y).before args s = true := by
  obtain ⟨c2, r2, m2, -, -, q3, -, kP, hkP, hkPi⟩ := Jvm.Cond.selects_spec hsel
  exact selects_self_of_private (hyz ▸ findClass_of_methodNamed q3) hkP hkPi hpriv hinst hy
theorem d5_0 : decode jdk_33_method_47_code 0 = .ok (.iload_n 0, 1) := by decide +kernel
theorem d5_1 : decode jdk_33_method_47_code 1 = .ok (.ifCond .gt 14, 3) := by decide +kernel
theorem d5_15 : decode jdk_33_method_47_code 15 = .ok (.bipush 31, 2) := by decide +kernel
theorem d5_17 : decode jdk_33_method_47_code 17 = .ok (.istore_n 1, 1) := by decide +kernel
theorem d5_18 : decode jdk_33_method_47_code 18 = .ok (.iload_n 0, 1) := by decide +kernel
theorem d5_19 : decode jdk_33_method_47_code 19 = .ok (.ldc_w 264, 3) := by decide +kernel
theorem d5_22 : decode jdk_33_method_47_code 22 = .ok (.if_icmp .lt 11, 3) := by decide +kernel
theorem d5_33 : decode jdk_33_method_47_code 33 = .ok (.iload_n 0, 1) := by decide +kernel
theorem d5_34 : decode jdk_33_method_47_code 34 = .ok (.sipush 256, 3) := by decide +kernel
theorem d5_37 : decode jdk_33_method_47_code 37 = .ok (.if_icmp .lt 11, 3) := by decide +kernel
theorem d5_48 : decode jdk_33_method_47_code 48 = .ok (.iload_n 0, 1) := by decide +kernel
theorem d5_49 : decode jdk_33_method_47_code 49 = .ok (.bipush 16, 2) := by decide +kernel
theorem d5_51 : decode jdk_33_method_47_code 51 = .ok (.if_icmp .lt 10, 3) := by decide +kernel
theorem d5_61 : decode jdk_33_method_47_code 61 = .ok (.iload_n 0, 1) := by decide +kernel
theorem d5_62 : decode jdk_33_method_47_code 62 = .ok (.iconst 4, 1) := by decide +kernel
theorem d5_63 : decode jdk_33_method_47_code 63 = .ok (.if_icmp .lt 10, 3) := by decide +kernel
theorem d5_73 : decode jdk_33_method_47_code 73 = .ok (.iload_n 1, 1) := by decide +kernel
theorem d5_74 : decode jdk_33_method_47_code 74 = .ok (.iload_n 0, 1) := by decide +kernel
theorem d5_75 : decode jdk_33_method_47_code 75 = .ok (.iconst 1, 1) := by decide +kernel
theorem d5_76 : decode jdk_33_method_47_code 76 = .ok (.iushr, 1) := by decide +kernel
theorem d5_77 : decode jdk_33_method_47_code 77 = .ok (.isub, 1) := by decide +kernel
theorem d5_78 : decode jdk_33_method_47_code 78 = .ok (.ireturn, 1) := by decide +kernel
theorem pn_5 : plainName "java/lang/Integer" = true := by first | (simp [plainName, overriddenIn]; done) | decide +kernel
theorem ef_nlz_1 (m : MethodId)  : entryFrame m #[(.int (1 : Int32))] 2 = mkF m 0 #[.val (.int (1 : Int32)), .unset] [] := by first | (simp [entryFrame, mkF, argsToLocals, Value.category]; done) | rfl
def Q_nlz_1 (Z : State)  (h0 : Heap) (n0 : Nat) (v : Option Value) (h : Heap) (L : List Loc) : Prop := v = some (.int (31 : Int32)) ∧ Fr n0 L ∧ h = h0
set_option maxRecDepth 65536 in
set_option maxHeartbeats 40000000 in
theorem nlz_1 (l : Launch) (Z : State) (a0 : Array Value) (hw : ∀ d ∈ tables_1, d.before a0 Z = true) (ws : List Jvm.Cond)  (h0 : Heap) (n0 : Nat) (Z0 : n0 ≤ h0.size) :
    MetFree l (⟨"java/lang/Integer", "numberOfLeadingZeros", "(I)I"⟩ : MethodName) (head1 (Jvm.Cond.code (⟨"java/lang/Integer", "numberOfLeadingZeros", "(I)I"⟩ : MethodName) jdk_33_method_47_code 2 (some .int) :: ws) ({ frames := 0, cells := 0, slots := 0, locals := 0 } : Room)) (fun zz UU => zz = #[(.int (1 : Int32))] ∧ Z.Warmed39 UU.vm ∧ UU.heap = h0) (fun _ _ _ _ _ => True) (fun _ U o U' => ∃ v L, o = .returned v ∧ Q_nlz_1 Z  h0 n0 v U'.heap L ∧ FrameEnd U o U' L ({ frames := 0, cells := 0, slots := 0, locals := 0 } : Room).cells ({ frames := 0, cells := 0, slots := 0, locals := 0 } : Room).slots) := by
  refine MetFree.of_bodySF (plainFor_of_name pn_5) hisR ?_
  intro p e s m args below meth c s₁ Bd hml0 hP hK
  obtain ⟨rfl, hZ, hh⟩ := hP
  have hx := Bd.exec
  have hby := Bd.bytes
  have hml : c.maxLocals = 2 := hml0
  have hown : s.vm.findClass "java/lang/Integer" = some m.cls := findClass_of_methodNamed Bd.named
  have hnm := (name_of_methodNamed Bd.named Bd.method).1
  have hlk : meth.locks = false := BodyLoose.notSynchronized Bd
  have X0 : Stand p l e ({ frames := 0, cells := 0, slots := 0, locals := 0 } : Room) s m #[(.int (1 : Int32))] below meth c s₁ [] 0 0 := Stand.of_body Bd
  have e0 : s₁.heap = h0 := by rw [← hh, Bd.state]; rfl
  have N0 := Fr.nil n0
  show own_Go p.tables e below (Q_nlz_1 Z h0 n0) s ({ frames := 0, cells := 0, slots := 0, locals := 0 } : Room).cells ({ frames := 0, cells := 0, slots := 0, locals := 0 } : Room).slots s₁ (entryFrame m #[(.int (1 : Int32))] 2)
  rw [ef_nlz_1 m ]
  refine own_by (T' := s₁) (g' := (mkF m 1 #[.val (.int (1 : Int32)), .unset] [(.int (1 : Int32))])) (fun _ k => XS.iloadN X0.here hx rfl (hb hby d5_0) rfl k) ?_
  refine own_by (T' := s₁) (g' := (mkF m 15 #[.val (.int (1 : Int32)), .unset] [])) (fun _ k => XS.ifYes X0.here hx rfl (pc0 := 1) (pc' := 15) rfl (hb hby d5_1) rfl ((if0 _ _).trans (tlt (by decide)).2.2.1) (by decide) (by decide) k) ?_
  refine own_by (T' := s₁) (g' := (mkF m 17 #[.val (.int (1 : Int32)), .unset] [(.int (31 : Int32))])) (fun _ k => XS.bipush X0.here hx rfl (hb hby d5_15) k) ?_
  refine own_by (T' := s₁) (g' := (mkF m 18 #[.val (.int (1 : Int32)), .val (.int (31 : Int32))] [])) (fun _ k => XS.istoreN X0.here hx rfl (hb hby d5_17) rfl (l' := #[.val (.int (1 : Int32)), .val (.int (31 : Int32))]) rfl k) ?_
  refine own_by (T' := s₁) (g' := (mkF m 19 #[.val (.int (1 : Int32)), .val (.int (31 : Int32))] [(.int (1 : Int32))])) (fun _ k => XS.iloadN X0.here hx rfl (hb hby d5_18) rfl k) ?_
  refine own_by (T' := s₁) (g' := (mkF m 22 #[.val (.int (1 : Int32)), .val (.int (31 : Int32))] [(.int (65536 : Int32)), (.int (1 : Int32))])) (fun _ k => ldcWI X0 hx hown (mvT hZ (hw _ (List.mem_of_getElem? (i := 27) rfl))) rfl (hb hby d5_19) k) ?_
  refine own_by (T' := s₁) (g' := (mkF m 33 #[.val (.int (1 : Int32)), .val (.int (31 : Int32))] [])) (fun _ k => XS.icmpYes X0.here hx rfl (pc0 := 22) (pc' := 33) rfl (hb hby d5_22) rfl (tlt (by decide)).1 (by decide) (by decide) k) ?_
  refine own_by (T' := s₁) (g' := (mkF m 34 #[.val (.int (1 : Int32)), .val (.int (31 : Int32))] [(.int (1 : Int32))])) (fun _ k => XS.iloadN X0.here hx rfl (hb hby d5_33) rfl k) ?_
  refine own_by (T' := s₁) (g' := (mkF m 37 #[.val (.int (1 : Int32)), .val (.int (31 : Int32))] [(.int (256 : Int32)), (.int (1 : Int32))])) (fun _ k => XS.sipush X0.here hx rfl (hb hby d5_34) k) ?_
  refine own_by (T' := s₁) (g' := (mkF m 48 #[.val (.int (1 : Int32)), .val (.int (31 : Int32))] [])) (fun _ k => XS.icmpYes X0.here hx rfl (pc0 := 37) (pc' := 48) rfl (hb hby d5_37) rfl (tlt (by decide)).1 (by decide) (by decide) k) ?_
  refine own_by (T' := s₁) (g' := (mkF m 49 #[.val (.int (1 : Int32)), .val (.int (31 : Int32))] [(.int (1 : Int32))])) (fun _ k => XS.iloadN X0.here hx rfl (hb hby d5_48) rfl k) ?_
  refine own_by (T' := s₁) (g' := (mkF m 51 #[.val (.int (1 : Int32)), .val (.int (31 : Int32))] [(.int (16 : Int32)), (.int (1 : Int32))])) (fun _ k => XS.bipush X0.here hx rfl (hb hby d5_49) k) ?_
  refine own_by (T' := s₁) (g' := (mkF m 61 #[.val (.int (1 : Int32)), .val (.int (31 : Int32))] [])) (fun _ k => XS.icmpYes X0.here hx rfl (pc0 := 51) (pc' := 61) rfl (hb hby d5_51) rfl (tlt (by decide)).1 (by decide) (by decide) k) ?_
  refine own_by (T' := s₁) (g' := (mkF m 62 #[.val (.int (1 : Int32)), .val (.int (31 : Int32))] [(.int (1 : Int32))])) (fun _ k => XS.iloadN X0.here hx rfl (hb hby d5_61) rfl k) ?_
  refine own_by (T' := s₁) (g' := (mkF m 63 #[.val (.int (1 : Int32)), .val (.int (31 : Int32))] [(.int (4 : Int32)), (.int (1 : Int32))])) (fun _ k => XS.iconst X0.here hx rfl (hb hby d5_62) k) ?_
  refine own_by (T' := s₁) (g' := (mkF m 73 #[.val (.int (1 : Int32)), .val (.int (31 : Int32))] [])) (fun _ k => XS.icmpYes X0.here hx rfl (pc0 := 63) (pc' := 73) rfl (hb hby d5_63) rfl (tlt (by decide)).1 (by decide) (by decide) k) ?_
  refine own_by (T' := s₁) (g' := (mkF m 74 #[.val (.int (1 : Int32)), .val (.int (31 : Int32))] [(.int (31 : Int32))])) (fun _ k => XS.iloadN X0.here hx rfl (hb hby d5_73) rfl k) ?_
  refine own_by (T' := s₁) (g' := (mkF m 75 #[.val (.int (1 : Int32)), .val (.int (31 : Int32))] [(.int (1 : Int32)), (.int (31 : Int32))])) (fun _ k => XS.iloadN X0.here hx rfl (hb hby d5_74) rfl k) ?_
  refine own_by (T' := s₁) (g' := (mkF m 76 #[.val (.int (1 : Int32)), .val (.int (31 : Int32))] [(.int (1 : Int32)), (.int (1 : Int32)), (.int (31 : Int32))])) (fun _ k => XS.iconst X0.here hx rfl (hb hby d5_75) k) ?_
  refine own_by (T' := s₁) (g' := (mkF m 77 #[.val (.int (1 : Int32)), .val (.int (31 : Int32))] [(.int (0 : Int32)), (.int (31 : Int32))])) (fun _ k => XS.iushr X0.here hx rfl (hb hby d5_76) rfl k) ?_
  refine own_by (T' := s₁) (g' := (mkF m 78 #[.val (.int (1 : Int32)), .val (.int (31 : Int32))] [(.int (31 : Int32))])) (fun _ k => XS.isub X0.here hx rfl (hb hby d5_77) rfl k) ?_
  refine own_ret X0 hlk (v := some (.int (31 : Int32))) (fun h => by rw [Bd.returns] at h; cases h) (fun fs hr => retI X0 hx Bd.returns (hb hby d5_78) hr) ?_ (by decide) (by decide)
  rw [e0]
  exact ⟨rfl, N0, rfl⟩
theorem d4_0 : decode jdk_33_method_45_code 0 = .ok (.iload_n 0, 1) := by decide +kernel
theorem d4_1 : decode jdk_33_method_45_code 1 = .ok (.ldc 127, 2) := by decide +kernel
theorem d4_3 : decode jdk_33_method_45_code 3 = .ok (.iload_n 0, 1) := by decide +kernel
theorem d4_4 : decode jdk_33_method_45_code 4 = .ok (.invokestatic 51, 3) := by decide +kernel
theorem d4_7 : decode jdk_33_method_45_code 7 = .ok (.iushr, 1) := by decide +kernel
theorem d4_8 : decode jdk_33_method_45_code 8 = .ok (.iand, 1) := by decide +kernel
theorem d4_9 : decode jdk_33_method_45_code 9 = .ok (.ireturn, 1) := by decide +kernel
theorem pn_4 : plainName "java/lang/Integer" = true := by first | (simp [plainName, overriddenIn]; done) | decide +kernel
theorem ef_hob_1 (m : MethodId)  : entryFrame m #[(.int (1 : Int32))] 1 = mkF m 0 #[.val (.int (1 : Int32))] [] := by first | (simp [entryFrame, mkF, argsToLocals, Value.category]; done) | rfl
def Q_hob_1 (Z : State)  (h0 : Heap) (n0 : Nat) (v : Option Value) (h : Heap) (L : List Loc) : Prop := v = some (.int (1 : Int32)) ∧ Fr n0 L ∧ h = h0
set_option maxRecDepth 65536 in
set_option maxHeartbeats 40000000 in
theorem hob_1 (l : Launch) (Z : State) (a0 : Array Value) (hw : ∀ d ∈ tables_1, d.before a0 Z = true) (ws : List Jvm.Cond)  (h0 : Heap) (n0 : Nat) (Z0 : n0 ≤ h0.size) :
    MetFree l (⟨"java/lang/Integer", "highestOneBit", "(I)I"⟩ : MethodName) (head1 (Jvm.Cond.code (⟨"java/lang/Integer", "highestOneBit", "(I)I"⟩ : MethodName) jdk_33_method_45_code 1 (some .int) :: ws) ({ frames := 1, cells := 0, slots := 0, locals := 15 } : Room)) (fun zz UU => zz = #[(.int (1 : Int32))] ∧ Z.Warmed39 UU.vm ∧ UU.heap = h0) (fun _ _ _ _ _ => True) (fun _ U o U' => ∃ v L, o = .returned v ∧ Q_hob_1 Z  h0 n0 v U'.heap L ∧ FrameEnd U o U' L ({ frames := 1, cells := 0, slots := 0, locals := 15 } : Room).cells ({ frames := 1, cells := 0, slots := 0, locals := 15 } : Room).slots) := by
  refine MetFree.of_bodySF (plainFor_of_name pn_4) hisR ?_
  intro p e s m args below meth c s₁ Bd hml0 hP hK
  obtain ⟨rfl, hZ, hh⟩ := hP
  have hx := Bd.exec
  have hby := Bd.bytes
  have hml : c.maxLocals = 1 := hml0
  have hown : s.vm.findClass "java/lang/Integer" = some m.cls := findClass_of_methodNamed Bd.named
  have hnm := (name_of_methodNamed Bd.named Bd.method).1
  have hlk : meth.locks = false := BodyLoose.notSynchronized Bd
  have X0 : Stand p l e ({ frames := 1, cells := 0, slots := 0, locals := 15 } : Room) s m #[(.int (1 : Int32))] below meth c s₁ [] 0 0 := Stand.of_body Bd
  have e0 : s₁.heap = h0 := by rw [← hh, Bd.state]; rfl
  have N0 := Fr.nil n0
  show own_Go p.tables e below (Q_hob_1 Z h0 n0) s ({ frames := 1, cells := 0, slots := 0, locals := 15 } : Room).cells ({ frames := 1, cells := 0, slots := 0, locals := 15 } : Room).slots s₁ (entryFrame m #[(.int (1 : Int32))] 1)
  rw [ef_hob_1 m ]
  refine own_by (T' := s₁) (g' := (mkF m 1 #[.val (.int (1 : Int32))] [(.int (1 : Int32))])) (fun _ k => XS.iloadN X0.here hx rfl (hb hby d4_0) rfl k) ?_
  refine own_by (T' := s₁) (g' := (mkF m 3 #[.val (.int (1 : Int32))] [(.int (-2147483648 : Int32)), (.int (1 : Int32))])) (fun _ k => ldcI X0 hx hown (mvT hZ (hw _ (List.mem_of_getElem? (i := 23) rfl))) rfl (hb hby d4_1) k) ?_
  refine own_by (T' := s₁) (g' := (mkF m 4 #[.val (.int (1 : Int32))] [(.int (1 : Int32)), (.int (-2147483648 : Int32)), (.int (1 : Int32))])) (fun _ k => XS.iloadN X0.here hx rfl (hb hby d4_3) rfl k) ?_
  obtain ⟨_, _, ⟨T21, L21, k21, n21⟩, -, X21, ⟨Lc21, hQ21, l21, y21, z21⟩, st21⟩ := Jvm.LawKit.callS X0 hx (y := (⟨"java/lang/Integer", "numberOfLeadingZeros", "(I)I"⟩ : MethodName)) hown (mvT hZ (hw _ (List.mem_of_getElem? (i := 24) rfl))) (mvT hZ (hw _ (List.mem_of_getElem? (i := 25) rfl))) (mvT hZ (hw _ (List.mem_of_getElem? (i := 21) rfl))) (mvT hZ (hw _ (List.mem_of_getElem? (i := 26) rfl))) (by decide) (backOf (W := 2) (nlz_1 l Z a0 hw []   h0 n0 Z0 ) hZ (hw _ (List.mem_of_getElem? (i := 26) rfl)) (hw _ (List.mem_of_getElem? (i := 21) rfl)) (by decide) (by decide)) (g := (mkF m 4 #[.val (.int (1 : Int32))] [(.int (1 : Int32)), (.int (-2147483648 : Int32)), (.int (1 : Int32))])) rfl (by rw [hml]; rfl) (argsL := [(.int (1 : Int32))]) (rest := [(.int (-2147483648 : Int32)), (.int (1 : Int32))]) (lenOf pd_0 rfl) rfl (by show 2 * 0 + _ ≤ _; exact Nat.le_of_eq rfl) (hb hby d4_4) (fun _ _ => ⟨rfl, e0, (by decide : 0 + 0 ≤ _), (by decide : 0 + 0 ≤ _)⟩)
  dsimp only [Pt.U, Pt.locs, Pt.cells, Pt.slots] at X21 l21 y21 z21 st21 hQ21
  subst l21 y21 z21
  obtain ⟨rfl, N21q, e21⟩ := hQ21
  have N21 := Fr.app N0 N21q
  refine own_by (T' := T21) (g' := (mkF m 7 #[.val (.int (1 : Int32))] [(.int (31 : Int32)), (.int (-2147483648 : Int32)), (.int (1 : Int32))])) (fun _ k => st21 _ k) ?_
  refine own_by (T' := T21) (g' := (mkF m 8 #[.val (.int (1 : Int32))] [(.int (1 : Int32)), (.int (1 : Int32))])) (fun _ k => XS.iushr X21.here hx rfl (hb hby d4_7) rfl k) ?_
  refine own_by (T' := T21) (g' := (mkF m 9 #[.val (.int (1 : Int32))] [(.int (1 : Int32))])) (fun _ k => XS.iand X21.here hx rfl (hb hby d4_8) rfl k) ?_
  refine own_ret X21 hlk (v := some (.int (1 : Int32))) (fun h => by rw [Bd.returns] at h; cases h) (fun fs hr => retI X21 hx Bd.returns (hb hby d4_9) hr) ?_ (by decide) (by decide)
  rw [e21]
  exact ⟨rfl, N21, rfl⟩
theorem d3_0 : decode prog_27_method_10_code 0 = .ok (.aload_n 0, 1) := by decide +kernel
theorem d3_1 : decode prog_27_method_10_code 1 = .ok (.getfield 44, 3) := by decide +kernel
theorem d3_4 : decode prog_27_method_10_code 4 = .ok (.invokestatic 109, 3) := by decide +kernel
theorem d3_7 : decode prog_27_method_10_code 7 = .ok (.ireturn, 1) := by decide +kernel
theorem pn_3 : plainName "com/example/nisaba/nisaba/item/Permission" = true := by first | (simp [plainName, overriddenIn]; done) | decide +kernel
theorem ef_bit_1 (m : MethodId) (a : Addr) : entryFrame m #[(.ref a)] 1 = mkF m 0 #[.val (.ref a)] [] := by first | (simp [entryFrame, mkF, argsToLocals, Value.category]; done) | rfl
def Q_bit_1 (Z : State) (a : Addr) (h0 : Heap) (n0 : Nat) (v : Option Value) (h : Heap) (L : List Loc) : Prop := v = some (.int (1 : Int32)) ∧ Fr n0 L ∧ h = h0
set_option maxRecDepth 65536 in
set_option maxHeartbeats 40000000 in
theorem bit_1 (l : Launch) (Z : State) (a0 : Array Value) (hw : ∀ d ∈ tables_1, d.before a0 Z = true) (ws : List Jvm.Cond) (a : Addr) (h0 : Heap) (n0 : Nat) (Z0 : n0 ≤ h0.size) (F_code_a : Fld Z h0 a "com/example/nisaba/nisaba/item/Permission" "code" "I" (.int (1 : Int32))) :
    MetFree l (⟨"com/example/nisaba/nisaba/item/Permission", "bit", "()I"⟩ : MethodName) (head1 (Jvm.Cond.code (⟨"com/example/nisaba/nisaba/item/Permission", "bit", "()I"⟩ : MethodName) prog_27_method_10_code 1 (some .int) :: ws) ({ frames := 2, cells := 0, slots := 0, locals := 27 } : Room)) (fun zz UU => zz = #[(.ref a)] ∧ Z.Warmed39 UU.vm ∧ UU.heap = h0) (fun _ _ _ _ _ => True) (fun _ U o U' => ∃ v L, o = .returned v ∧ Q_bit_1 Z a h0 n0 v U'.heap L ∧ FrameEnd U o U' L ({ frames := 2, cells := 0, slots := 0, locals := 27 } : Room).cells ({ frames := 2, cells := 0, slots := 0, locals := 27 } : Room).slots) := by
  refine MetFree.of_bodySF (plainFor_of_name pn_3) hisR ?_
  intro p e s m args below meth c s₁ Bd hml0 hP hK
  obtain ⟨rfl, hZ, hh⟩ := hP
  have hx := Bd.exec
  have hby := Bd.bytes
  have hml : c.maxLocals = 1 := hml0
  have hown : s.vm.findClass "com/example/nisaba/nisaba/item/Permission" = some m.cls := findClass_of_methodNamed Bd.named
  have hnm := (name_of_methodNamed Bd.named Bd.method).1
  have hlk : meth.locks = false := BodyLoose.notSynchronized Bd
  have X0 : Stand p l e ({ frames := 2, cells := 0, slots := 0, locals := 27 } : Room) s m #[(.ref a)] below meth c s₁ [] 0 0 := Stand.of_body Bd
  have e0 : s₁.heap = h0 := by rw [← hh, Bd.state]; rfl
  have N0 := Fr.nil n0
  show own_Go p.tables e below (Q_bit_1 Z a h0 n0) s ({ frames := 2, cells := 0, slots := 0, locals := 27 } : Room).cells ({ frames := 2, cells := 0, slots := 0, locals := 27 } : Room).slots s₁ (entryFrame m #[(.ref a)] 1)
  rw [ef_bit_1 m a]
  refine own_by (T' := s₁) (g' := (mkF m 1 #[.val (.ref a)] [(.ref a)])) (fun _ k => XS.aloadN X0.here hx rfl (hb hby d3_0) rfl rfl k) ?_
  obtain ⟨T21, X21, e21, st21⟩ := getF X0 hx hZ hown (host := "") (Or.inl (hw _ (List.mem_of_getElem? (i := 17) rfl))) Via.refl e0 F_code_a (g := (mkF m 1 #[.val (.ref a)] [(.ref a)])) rfl rfl (hb hby d3_1)
  refine own_by (T' := T21) (g' := (mkF m 4 #[.val (.ref a)] [(.int (1 : Int32))])) (fun _ k => st21 _ k) ?_
  obtain ⟨_, _, ⟨T22, L22, k22, n22⟩, -, X22, ⟨Lc22, hQ22, l22, y22, z22⟩, st22⟩ := Jvm.LawKit.callS X21 hx (y := (⟨"java/lang/Integer", "highestOneBit", "(I)I"⟩ : MethodName)) hown (mvT hZ (hw _ (List.mem_of_getElem? (i := 19) rfl))) (mvT hZ (hw _ (List.mem_of_getElem? (i := 20) rfl))) (mvT hZ (hw _ (List.mem_of_getElem? (i := 21) rfl))) (mvT hZ (hw _ (List.mem_of_getElem? (i := 22) rfl))) (by decide) (backOf (W := 0) (hob_1 l Z a0 hw []   h0 n0 Z0 ) hZ (hw _ (List.mem_of_getElem? (i := 22) rfl)) (hw _ (List.mem_of_getElem? (i := 21) rfl)) (by decide) (by decide)) (g := (mkF m 4 #[.val (.ref a)] [(.int (1 : Int32))])) rfl (by rw [hml]; rfl) (argsL := [(.int (1 : Int32))]) (rest := []) (lenOf pd_0 rfl) rfl (by show 2 * 0 + _ ≤ _; exact Nat.le_of_eq rfl) (hb hby d3_4) (fun _ _ => ⟨rfl, e21, (by decide : 0 + 0 ≤ _), (by decide : 0 + 0 ≤ _)⟩)
  dsimp only [Pt.U, Pt.locs, Pt.cells, Pt.slots] at X22 l22 y22 z22 st22 hQ22
  subst l22 y22 z22
  obtain ⟨rfl, N22q, e22⟩ := hQ22
  have N22 := Fr.app N0 N22q
  refine own_by (T' := T22) (g' := (mkF m 7 #[.val (.ref a)] [(.int (1 : Int32))])) (fun _ k => st22 _ k) ?_
  refine own_ret X22 hlk (v := some (.int (1 : Int32))) (fun h => by rw [Bd.returns] at h; cases h) (fun fs hr => retI X22 hx Bd.returns (hb hby d3_7) hr) ?_ (by decide) (by decide)
  rw [e22]
  exact ⟨rfl, N22, rfl⟩
theorem ef_nlz_3 (m : MethodId)  : entryFrame m #[(.int (3 : Int32))] 2 = mkF m 0 #[.val (.int (3 : Int32)), .unset] [] := by first | (simp [entryFrame, mkF, argsToLocals, Value.category]; done) | rfl
def Q_nlz_3 (Z : State)  (h0 : Heap) (n0 : Nat) (v : Option Value) (h : Heap) (L : List Loc) : Prop := v = some (.int (30 : Int32)) ∧ Fr n0 L ∧ h = h0
set_option maxRecDepth 65536 in
set_option maxHeartbeats 40000000 in
theorem nlz_3 (l : Launch) (Z : State) (a0 : Array Value) (hw : ∀ d ∈ tables_1, d.before a0 Z = true) (ws : List Jvm.Cond)  (h0 : Heap) (n0 : Nat) (Z0 : n0 ≤ h0.size) :
    MetFree l (⟨"java/lang/Integer", "numberOfLeadingZeros", "(I)I"⟩ : MethodName) (head1 (Jvm.Cond.code (⟨"java/lang/Integer", "numberOfLeadingZeros", "(I)I"⟩ : MethodName) jdk_33_method_47_code 2 (some .int) :: ws) ({ frames := 0, cells := 0, slots := 0, locals := 0 } : Room)) (fun zz UU => zz = #[(.int (3 : Int32))] ∧ Z.Warmed39 UU.vm ∧ UU.heap = h0) (fun _ _ _ _ _ => True) (fun _ U o U' => ∃ v L, o = .returned v ∧ Q_nlz_3 Z  h0 n0 v U'.heap L ∧ FrameEnd U o U' L ({ frames := 0, cells := 0, slots := 0, locals := 0 } : Room).cells ({ frames := 0, cells := 0, slots := 0, locals := 0 } : Room).slots) := by
  refine MetFree.of_bodySF (plainFor_of_name pn_5) hisR ?_
  intro p e s m args below meth c s₁ Bd hml0 hP hK
  obtain ⟨rfl, hZ, hh⟩ := hP
  have hx := Bd.exec
  have hby := Bd.bytes
  have hml : c.maxLocals = 2 := hml0
  have hown : s.vm.findClass "java/lang/Integer" = some m.cls := findClass_of_methodNamed Bd.named
  have hnm := (name_of_methodNamed Bd.named Bd.method).1
  have hlk : meth.locks = false := BodyLoose.notSynchronized Bd
  have X0 : Stand p l e ({ frames := 0, cells := 0, slots := 0, locals := 0 } : Room) s m #[(.int (3 : Int32))] below meth c s₁ [] 0 0 := Stand.of_body Bd
  have e0 : s₁.heap = h0 := by rw [← hh, Bd.state]; rfl
  have N0 := Fr.nil n0
  show own_Go p.tables e below (Q_nlz_3 Z h0 n0) s ({ frames := 0, cells := 0, slots := 0, locals := 0 } : Room).cells ({ frames := 0, cells := 0, slots := 0, locals := 0 } : Room).slots s₁ (entryFrame m #[(.int (3 : Int32))] 2)
  rw [ef_nlz_3 m ]
  refine own_by (T' := s₁) (g' := (mkF m 1 #[.val (.int (3 : Int32)), .unset] [(.int (3 : Int32))])) (fun _ k => XS.iloadN X0.here hx rfl (hb hby d5_0) rfl k) ?_
  refine own_by (T' := s₁) (g' := (mkF m 15 #[.val (.int (3 : Int32)), .unset] [])) (fun _ k => XS.ifYes X0.here hx rfl (pc0 := 1) (pc' := 15) rfl (hb hby d5_1) rfl ((if0 _ _).trans (tlt (by decide)).2.2.1) (by decide) (by decide) k) ?_
  refine own_by (T' := s₁) (g' := (mkF m 17 #[.val (.int (3 : Int32)), .unset] [(.int (31 : Int32))])) (fun _ k => XS.bipush X0.here hx rfl (hb hby d5_15) k) ?_
  refine own_by (T' := s₁) (g' := (mkF m 18 #[.val (.int (3 : Int32)), .val (.int (31 : Int32))] [])) (fun _ k => XS.istoreN X0.here hx rfl (hb hby d5_17) rfl (l' := #[.val (.int (3 : Int32)), .val (.int (31 : Int32))]) rfl k) ?_
  refine own_by (T' := s₁) (g' := (mkF m 19 #[.val (.int (3 : Int32)), .val (.int (31 : Int32))] [(.int (3 : Int32))])) (fun _ k => XS.iloadN X0.here hx rfl (hb hby d5_18) rfl k) ?_
  refine own_by (T' := s₁) (g' := (mkF m 22 #[.val (.int (3 : Int32)), .val (.int (31 : Int32))] [(.int (65536 : Int32)), (.int (3 : Int32))])) (fun _ k => ldcWI X0 hx hown (mvT hZ (hw _ (List.mem_of_getElem? (i := 27) rfl))) rfl (hb hby d5_19) k) ?_
  refine own_by (T' := s₁) (g' := (mkF m 33 #[.val (.int (3 : Int32)), .val (.int (31 : Int32))] [])) (fun _ k => XS.icmpYes X0.here hx rfl (pc0 := 22) (pc' := 33) rfl (hb hby d5_22) rfl (tlt (by decide)).1 (by decide) (by decide) k) ?_
  refine own_by (T' := s₁) (g' := (mkF m 34 #[.val (.int (3 : Int32)), .val (.int (31 : Int32))] [(.int (3 : Int32))])) (fun _ k => XS.iloadN X0.here hx rfl (hb hby d5_33) rfl k) ?_
  refine own_by (T' := s₁) (g' := (mkF m 37 #[.val (.int (3 : Int32)), .val (.int (31 : Int32))] [(.int (256 : Int32)), (.int (3 : Int32))])) (fun _ k => XS.sipush X0.here hx rfl (hb hby d5_34) k) ?_
  refine own_by (T' := s₁) (g' := (mkF m 48 #[.val (.int (3 : Int32)), .val (.int (31 : Int32))] [])) (fun _ k => XS.icmpYes X0.here hx rfl (pc0 := 37) (pc' := 48) rfl (hb hby d5_37) rfl (tlt (by decide)).1 (by decide) (by decide) k) ?_
  refine own_by (T' := s₁) (g' := (mkF m 49 #[.val (.int (3 : Int32)), .val (.int (31 : Int32))] [(.int (3 : Int32))])) (fun _ k => XS.iloadN X0.here hx rfl (hb hby d5_48) rfl k) ?_
  refine own_by (T' := s₁) (g' := (mkF m 51 #[.val (.int (3 : Int32)), .val (.int (31 : Int32))] [(.int (16 : Int32)), (.int (3 : Int32))])) (fun _ k => XS.bipush X0.here hx rfl (hb hby d5_49) k) ?_
  refine own_by (T' := s₁) (g' := (mkF m 61 #[.val (.int (3 : Int32)), .val (.int (31 : Int32))] [])) (fun _ k => XS.icmpYes X0.here hx rfl (pc0 := 51) (pc' := 61) rfl (hb hby d5_51) rfl (tlt (by decide)).1 (by decide) (by decide) k) ?_
  refine own_by (T' := s₁) (g' := (mkF m 62 #[.val (.int (3 : Int32)), .val (.int (31 : Int32))] [(.int (3 : Int32))])) (fun _ k => XS.iloadN X0.here hx rfl (hb hby d5_61) rfl k) ?_
  refine own_by (T' := s₁) (g' := (mkF m 63 #[.val (.int (3 : Int32)), .val (.int (31 : Int32))] [(.int (4 : Int32)), (.int (3 : Int32))])) (fun _ k => XS.iconst X0.here hx rfl (hb hby d5_62) k) ?_
  refine own_by (T' := s₁) (g' := (mkF m 73 #[.val (.int (3 : Int32)), .val (.int (31 : Int32))] [])) (fun _ k => XS.icmpYes X0.here hx rfl (pc0 := 63) (pc' := 73) rfl (hb hby d5_63) rfl (tlt (by decide)).1 (by decide) (by decide) k) ?_
  refine own_by (T' := s₁) (g' := (mkF m 74 #[.val (.int (3 : Int32)), .val (.int (31 : Int32))] [(.int (31 : Int32))])) (fun _ k => XS.iloadN X0.here hx rfl (hb hby d5_73) rfl k) ?_
  refine own_by (T' := s₁) (g' := (mkF m 75 #[.val (.int (3 : Int32)), .val (.int (31 : Int32))] [(.int (3 : Int32)), (.int (31 : Int32))])) (fun _ k => XS.iloadN X0.here hx rfl (hb hby d5_74) rfl k) ?_
  refine own_by (T' := s₁) (g' := (mkF m 76 #[.val (.int (3 : Int32)), .val (.int (31 : Int32))] [(.int (1 : Int32)), (.int (3 : Int32)), (.int (31 : Int32))])) (fun _ k => XS.iconst X0.here hx rfl (hb hby d5_75) k) ?_
  refine own_by (T' := s₁) (g' := (mkF m 77 #[.val (.int (3 : Int32)), .val (.int (31 : Int32))] [(.int (1 : Int32)), (.int (31 : Int32))])) (fun _ k => XS.iushr X0.here hx rfl (hb hby d5_76) rfl k) ?_
  refine own_by (T' := s₁) (g' := (mkF m 78 #[.val (.int (3 : Int32)), .val (.int (31 : Int32))] [(.int (30 : Int32))])) (fun _ k => XS.isub X0.here hx rfl (hb hby d5_77) rfl k) ?_
  refine own_ret X0 hlk (v := some (.int (30 : Int32))) (fun h => by rw [Bd.returns] at h; cases h) (fun fs hr => retI X0 hx Bd.returns (hb hby d5_78) hr) ?_ (by decide) (by decide)
  rw [e0]
  exact ⟨rfl, N0, rfl⟩
theorem ef_hob_3 (m : MethodId)  : entryFrame m #[(.int (3 : Int32))] 1 = mkF m 0 #[.val (.int (3 : Int32))] [] := by first | (simp [entryFrame, mkF, argsToLocals, Value.category]; done) | rfl
def Q_hob_3 (Z : State)  (h0 : Heap) (n0 : Nat) (v : Option Value) (h : Heap) (L : List Loc) : Prop := v = some (.int (2 : Int32)) ∧ Fr n0 L ∧ h = h0
set_option maxRecDepth 65536 in
set_option maxHeartbeats 40000000 in
theorem hob_3 (l : Launch) (Z : State) (a0 : Array Value) (hw : ∀ d ∈ tables_1, d.before a0 Z = true) (ws : List Jvm.Cond)  (h0 : Heap) (n0 : Nat) (Z0 : n0 ≤ h0.size) :
    MetFree l (⟨"java/lang/Integer", "highestOneBit", "(I)I"⟩ : MethodName) (head1 (Jvm.Cond.code (⟨"java/lang/Integer", "highestOneBit", "(I)I"⟩ : MethodName) jdk_33_method_45_code 1 (some .int) :: ws) ({ frames := 1, cells := 0, slots := 0, locals := 15 } : Room)) (fun zz UU => zz = #[(.int (3 : Int32))] ∧ Z.Warmed39 UU.vm ∧ UU.heap = h0) (fun _ _ _ _ _ => True) (fun _ U o U' => ∃ v L, o = .returned v ∧ Q_hob_3 Z  h0 n0 v U'.heap L ∧ FrameEnd U o U' L ({ frames := 1, cells := 0, slots := 0, locals := 15 } : Room).cells ({ frames := 1, cells := 0, slots := 0, locals := 15 } : Room).slots) := by
  refine MetFree.of_bodySF (plainFor_of_name pn_4) hisR ?_
  intro p e s m args below meth c s₁ Bd hml0 hP hK
  obtain ⟨rfl, hZ, hh⟩ := hP
  have hx := Bd.exec
  have hby := Bd.bytes
  have hml : c.maxLocals = 1 := hml0
  have hown : s.vm.findClass "java/lang/Integer" = some m.cls := findClass_of_methodNamed Bd.named
  have hnm := (name_of_methodNamed Bd.named Bd.method).1
  have hlk : meth.locks = false := BodyLoose.notSynchronized Bd
  have X0 : Stand p l e ({ frames := 1, cells := 0, slots := 0, locals := 15 } : Room) s m #[(.int (3 : Int32))] below meth c s₁ [] 0 0 := Stand.of_body Bd
  have e0 : s₁.heap = h0 := by rw [← hh, Bd.state]; rfl
  have N0 := Fr.nil n0
  show own_Go p.tables e below (Q_hob_3 Z h0 n0) s ({ frames := 1, cells := 0, slots := 0, locals := 15 } : Room).cells ({ frames := 1, cells := 0, slots := 0, locals := 15 } : Room).slots s₁ (entryFrame m #[(.int (3 : Int32))] 1)
  rw [ef_hob_3 m ]
  refine own_by (T' := s₁) (g' := (mkF m 1 #[.val (.int (3 : Int32))] [(.int (3 : Int32))])) (fun _ k => XS.iloadN X0.here hx rfl (hb hby d4_0) rfl k) ?_
  refine own_by (T' := s₁) (g' := (mkF m 3 #[.val (.int (3 : Int32))] [(.int (-2147483648 : Int32)), (.int (3 : Int32))])) (fun _ k => ldcI X0 hx hown (mvT hZ (hw _ (List.mem_of_getElem? (i := 23) rfl))) rfl (hb hby d4_1) k) ?_
  refine own_by (T' := s₁) (g' := (mkF m 4 #[.val (.int (3 : Int32))] [(.int (3 : Int32)), (.int (-2147483648 : Int32)), (.int (3 : Int32))])) (fun _ k => XS.iloadN X0.here hx rfl (hb hby d4_3) rfl k) ?_
  obtain ⟨_, _, ⟨T21, L21, k21, n21⟩, -, X21, ⟨Lc21, hQ21, l21, y21, z21⟩, st21⟩ := Jvm.LawKit.callS X0 hx (y := (⟨"java/lang/Integer", "numberOfLeadingZeros", "(I)I"⟩ : MethodName)) hown (mvT hZ (hw _ (List.mem_of_getElem? (i := 24) rfl))) (mvT hZ (hw _ (List.mem_of_getElem? (i := 25) rfl))) (mvT hZ (hw _ (List.mem_of_getElem? (i := 21) rfl))) (mvT hZ (hw _ (List.mem_of_getElem? (i := 26) rfl))) (by decide) (backOf (W := 2) (nlz_3 l Z a0 hw []   h0 n0 Z0 ) hZ (hw _ (List.mem_of_getElem? (i := 26) rfl)) (hw _ (List.mem_of_getElem? (i := 21) rfl)) (by decide) (by decide)) (g := (mkF m 4 #[.val (.int (3 : Int32))] [(.int (3 : Int32)), (.int (-2147483648 : Int32)), (.int (3 : Int32))])) rfl (by rw [hml]; rfl) (argsL := [(.int (3 : Int32))]) (rest := [(.int (-2147483648 : Int32)), (.int (3 : Int32))]) (lenOf pd_0 rfl) rfl (by show 2 * 0 + _ ≤ _; exact Nat.le_of_eq rfl) (hb hby d4_4) (fun _ _ => ⟨rfl, e0, (by decide : 0 + 0 ≤ _), (by decide : 0 + 0 ≤ _)⟩)
  dsimp only [Pt.U, Pt.locs, Pt.cells, Pt.slots] at X21 l21 y21 z21 st21 hQ21
  subst l21 y21 z21
  obtain ⟨rfl, N21q, e21⟩ := hQ21
  have N21 := Fr.app N0 N21q
  refine own_by (T' := T21) (g' := (mkF m 7 #[.val (.int (3 : Int32))] [(.int (30 : Int32)), (.int (-2147483648 : Int32)), (.int (3 : Int32))])) (fun _ k => st21 _ k) ?_
  refine own_by (T' := T21) (g' := (mkF m 8 #[.val (.int (3 : Int32))] [(.int (2 : Int32)), (.int (3 : Int32))])) (fun _ k => XS.iushr X21.here hx rfl (hb hby d4_7) rfl k) ?_
  refine own_by (T' := T21) (g' := (mkF m 9 #[.val (.int (3 : Int32))] [(.int (2 : Int32))])) (fun _ k => XS.iand X21.here hx rfl (hb hby d4_8) rfl k) ?_
  refine own_ret X21 hlk (v := some (.int (2 : Int32))) (fun h => by rw [Bd.returns] at h; cases h) (fun fs hr => retI X21 hx Bd.returns (hb hby d4_9) hr) ?_ (by decide) (by decide)
  rw [e21]
  exact ⟨rfl, N21, rfl⟩
theorem ef_bit_3 (m : MethodId) (a : Addr) : entryFrame m #[(.ref a)] 1 = mkF m 0 #[.val (.ref a)] [] := by first | (simp [entryFrame, mkF, argsToLocals, Value.category]; done) | rfl
def Q_bit_3 (Z : State) (a : Addr) (h0 : Heap) (n0 : Nat) (v : Option Value) (h : Heap) (L : List Loc) : Prop := v = some (.int (2 : Int32)) ∧ Fr n0 L ∧ h = h0
set_option maxRecDepth 65536 in
set_option maxHeartbeats 40000000 in
theorem bit_3 (l : Launch) (Z : State) (a0 : Array Value) (hw : ∀ d ∈ tables_1, d.before a0 Z = true) (ws : List Jvm.Cond) (a : Addr) (h0 : Heap) (n0 : Nat) (Z0 : n0 ≤ h0.size) (F_code_a : Fld Z h0 a "com/example/nisaba/nisaba/item/Permission" "code" "I" (.int (3 : Int32))) :
    MetFree l (⟨"com/example/nisaba/nisaba/item/Permission", "bit", "()I"⟩ : MethodName) (head1 (Jvm.Cond.code (⟨"com/example/nisaba/nisaba/item/Permission", "bit", "()I"⟩ : MethodName) prog_27_method_10_code 1 (some .int) :: ws) ({ frames := 2, cells := 0, slots := 0, locals := 27 } : Room)) (fun zz UU => zz = #[(.ref a)] ∧ Z.Warmed39 UU.vm ∧ UU.heap = h0) (fun _ _ _ _ _ => True) (fun _ U o U' => ∃ v L, o = .returned v ∧ Q_bit_3 Z a h0 n0 v U'.heap L ∧ FrameEnd U o U' L ({ frames := 2, cells := 0, slots := 0, locals := 27 } : Room).cells ({ frames := 2, cells := 0, slots := 0, locals := 27 } : Room).slots) := by
  refine MetFree.of_bodySF (plainFor_of_name pn_3) hisR ?_
  intro p e s m args below meth c s₁ Bd hml0 hP hK
  obtain ⟨rfl, hZ, hh⟩ := hP
  have hx := Bd.exec
  have hby := Bd.bytes
  have hml : c.maxLocals = 1 := hml0
  have hown : s.vm.findClass "com/example/nisaba/nisaba/item/Permission" = some m.cls := findClass_of_methodNamed Bd.named
  have hnm := (name_of_methodNamed Bd.named Bd.method).1
  have hlk : meth.locks = false := BodyLoose.notSynchronized Bd
  have X0 : Stand p l e ({ frames := 2, cells := 0, slots := 0, locals := 27 } : Room) s m #[(.ref a)] below meth c s₁ [] 0 0 := Stand.of_body Bd
  have e0 : s₁.heap = h0 := by rw [← hh, Bd.state]; rfl
  have N0 := Fr.nil n0
  show own_Go p.tables e below (Q_bit_3 Z a h0 n0) s ({ frames := 2, cells := 0, slots := 0, locals := 27 } : Room).cells ({ frames := 2, cells := 0, slots := 0, locals := 27 } : Room).slots s₁ (entryFrame m #[(.ref a)] 1)
  rw [ef_bit_3 m a]
  refine own_by (T' := s₁) (g' := (mkF m 1 #[.val (.ref a)] [(.ref a)])) (fun _ k => XS.aloadN X0.here hx rfl (hb hby d3_0) rfl rfl k) ?_
  obtain ⟨T21, X21, e21, st21⟩ := getF X0 hx hZ hown (host := "") (Or.inl (hw _ (List.mem_of_getElem? (i := 17) rfl))) Via.refl e0 F_code_a (g := (mkF m 1 #[.val (.ref a)] [(.ref a)])) rfl rfl (hb hby d3_1)
  refine own_by (T' := T21) (g' := (mkF m 4 #[.val (.ref a)] [(.int (3 : Int32))])) (fun _ k => st21 _ k) ?_
  obtain ⟨_, _, ⟨T22, L22, k22, n22⟩, -, X22, ⟨Lc22, hQ22, l22, y22, z22⟩, st22⟩ := Jvm.LawKit.callS X21 hx (y := (⟨"java/lang/Integer", "highestOneBit", "(I)I"⟩ : MethodName)) hown (mvT hZ (hw _ (List.mem_of_getElem? (i := 19) rfl))) (mvT hZ (hw _ (List.mem_of_getElem? (i := 20) rfl))) (mvT hZ (hw _ (List.mem_of_getElem? (i := 21) rfl))) (mvT hZ (hw _ (List.mem_of_getElem? (i := 22) rfl))) (by decide) (backOf (W := 0) (hob_3 l Z a0 hw []   h0 n0 Z0 ) hZ (hw _ (List.mem_of_getElem? (i := 22) rfl)) (hw _ (List.mem_of_getElem? (i := 21) rfl)) (by decide) (by decide)) (g := (mkF m 4 #[.val (.ref a)] [(.int (3 : Int32))])) rfl (by rw [hml]; rfl) (argsL := [(.int (3 : Int32))]) (rest := []) (lenOf pd_0 rfl) rfl (by show 2 * 0 + _ ≤ _; exact Nat.le_of_eq rfl) (hb hby d3_4) (fun _ _ => ⟨rfl, e21, (by decide : 0 + 0 ≤ _), (by decide : 0 + 0 ≤ _)⟩)
  dsimp only [Pt.U, Pt.locs, Pt.cells, Pt.slots] at X22 l22 y22 z22 st22 hQ22
  subst l22 y22 z22
  obtain ⟨rfl, N22q, e22⟩ := hQ22
  have N22 := Fr.app N0 N22q
  refine own_by (T' := T22) (g' := (mkF m 7 #[.val (.ref a)] [(.int (2 : Int32))])) (fun _ k => st22 _ k) ?_
  refine own_ret X22 hlk (v := some (.int (2 : Int32))) (fun h => by rw [Bd.returns] at h; cases h) (fun fs hr => retI X22 hx Bd.returns (hb hby d3_7) hr) ?_ (by decide) (by decide)
  rw [e22]
  exact ⟨rfl, N22, rfl⟩
theorem d5_66 : decode jdk_33_method_47_code 66 = .ok (.iinc 1 (-2), 3) := by decide +kernel
theorem d5_69 : decode jdk_33_method_47_code 69 = .ok (.iload_n 0, 1) := by decide +kernel
theorem d5_70 : decode jdk_33_method_47_code 70 = .ok (.iconst 2, 1) := by decide +kernel
theorem d5_71 : decode jdk_33_method_47_code 71 = .ok (.iushr, 1) := by decide +kernel
theorem d5_72 : decode jdk_33_method_47_code 72 = .ok (.istore_n 0, 1) := by decide +kernel
theorem ef_nlz_7 (m : MethodId)  : entryFrame m #[(.int (7 : Int32))] 2 = mkF m 0 #[.val (.int (7 : Int32)), .unset] [] := by first | (simp [entryFrame, mkF, argsToLocals, Value.category]; done) | rfl
def Q_nlz_7 (Z : State)  (h0 : Heap) (n0 : Nat) (v : Option Value) (h : Heap) (L : List Loc) : Prop := v = some (.int (29 : Int32)) ∧ Fr n0 L ∧ h = h0
set_option maxRecDepth 65536 in
set_option maxHeartbeats 40000000 in
theorem nlz_7 (l : Launch) (Z : State) (a0 : Array Value) (hw : ∀ d ∈ tables_1, d.before a0 Z = true) (ws : List Jvm.Cond)  (h0 : Heap) (n0 : Nat) (Z0 : n0 ≤ h0.size) :
    MetFree l (⟨"java/lang/Integer", "numberOfLeadingZeros", "(I)I"⟩ : MethodName) (head1 (Jvm.Cond.code (⟨"java/lang/Integer", "numberOfLeadingZeros", "(I)I"⟩ : MethodName) jdk_33_method_47_code 2 (some .int) :: ws) ({ frames := 0, cells := 0, slots := 0, locals := 0 } : Room)) (fun zz UU => zz = #[(.int (7 : Int32))] ∧ Z.Warmed39 UU.vm ∧ UU.heap = h0) (fun _ _ _ _ _ => True) (fun _ U o U' => ∃ v L, o = .returned v ∧ Q_nlz_7 Z  h0 n0 v U'.heap L ∧ FrameEnd U o U' L ({ frames := 0, cells := 0, slots := 0, locals := 0 } : Room).cells ({ frames := 0, cells := 0, slots := 0, locals := 0 } : Room).slots) := by
  refine MetFree.of_bodySF (plainFor_of_name pn_5) hisR ?_
  intro p e s m args below meth c s₁ Bd hml0 hP hK
  obtain ⟨rfl, hZ, hh⟩ := hP
  have hx := Bd.exec
  have hby := Bd.bytes
  have hml : c.maxLocals = 2 := hml0
  have hown : s.vm.findClass "java/lang/Integer" = some m.cls := findClass_of_methodNamed Bd.named
  have hnm := (name_of_methodNamed Bd.named Bd.method).1
  have hlk : meth.locks = false := BodyLoose.notSynchronized Bd
  have X0 : Stand p l e ({ frames := 0, cells := 0, slots := 0, locals := 0 } : Room) s m #[(.int (7 : Int32))] below meth c s₁ [] 0 0 := Stand.of_body Bd
  have e0 : s₁.heap = h0 := by rw [← hh, Bd.state]; rfl
  have N0 := Fr.nil n0
  show own_Go p.tables e below (Q_nlz_7 Z h0 n0) s ({ frames := 0, cells := 0, slots := 0, locals := 0 } : Room).cells ({ frames := 0, cells := 0, slots := 0, locals := 0 } : Room).slots s₁ (entryFrame m #[(.int (7 : Int32))] 2)
  rw [ef_nlz_7 m ]
  refine own_by (T' := s₁) (g' := (mkF m 1 #[.val (.int (7 : Int32)), .unset] [(.int (7 : Int32))])) (fun _ k => XS.iloadN X0.here hx rfl (hb hby d5_0) rfl k) ?_
  refine own_by (T' := s₁) (g' := (mkF m 15 #[.val (.int (7 : Int32)), .unset] [])) (fun _ k => XS.ifYes X0.here hx rfl (pc0 := 1) (pc' := 15) rfl (hb hby d5_1) rfl ((if0 _ _).trans (tlt (by decide)).2.2.1) (by decide) (by decide) k) ?_
  refine own_by (T' := s₁) (g' := (mkF m 17 #[.val (.int (7 : Int32)), .unset] [(.int (31 : Int32))])) (fun _ k => XS.bipush X0.here hx rfl (hb hby d5_15) k) ?_
  refine own_by (T' := s₁) (g' := (mkF m 18 #[.val (.int (7 : Int32)), .val (.int (31 : Int32))] [])) (fun _ k => XS.istoreN X0.here hx rfl (hb hby d5_17) rfl (l' := #[.val (.int (7 : Int32)), .val (.int (31 : Int32))]) rfl k) ?_
  refine own_by (T' := s₁) (g' := (mkF m 19 #[.val (.int (7 : Int32)), .val (.int (31 : Int32))] [(.int (7 : Int32))])) (fun _ k => XS.iloadN X0.here hx rfl (hb hby d5_18) rfl k) ?_
  refine own_by (T' := s₁) (g' := (mkF m 22 #[.val (.int (7 : Int32)), .val (.int (31 : Int32))] [(.int (65536 : Int32)), (.int (7 : Int32))])) (fun _ k => ldcWI X0 hx hown (mvT hZ (hw _ (List.mem_of_getElem? (i := 27) rfl))) rfl (hb hby d5_19) k) ?_
  refine own_by (T' := s₁) (g' := (mkF m 33 #[.val (.int (7 : Int32)), .val (.int (31 : Int32))] [])) (fun _ k => XS.icmpYes X0.here hx rfl (pc0 := 22) (pc' := 33) rfl (hb hby d5_22) rfl (tlt (by decide)).1 (by decide) (by decide) k) ?_
  refine own_by (T' := s₁) (g' := (mkF m 34 #[.val (.int (7 : Int32)), .val (.int (31 : Int32))] [(.int (7 : Int32))])) (fun _ k => XS.iloadN X0.here hx rfl (hb hby d5_33) rfl k) ?_
  refine own_by (T' := s₁) (g' := (mkF m 37 #[.val (.int (7 : Int32)), .val (.int (31 : Int32))] [(.int (256 : Int32)), (.int (7 : Int32))])) (fun _ k => XS.sipush X0.here hx rfl (hb hby d5_34) k) ?_
  refine own_by (T' := s₁) (g' := (mkF m 48 #[.val (.int (7 : Int32)), .val (.int (31 : Int32))] [])) (fun _ k => XS.icmpYes X0.here hx rfl (pc0 := 37) (pc' := 48) rfl (hb hby d5_37) rfl (tlt (by decide)).1 (by decide) (by decide) k) ?_
  refine own_by (T' := s₁) (g' := (mkF m 49 #[.val (.int (7 : Int32)), .val (.int (31 : Int32))] [(.int (7 : Int32))])) (fun _ k => XS.iloadN X0.here hx rfl (hb hby d5_48) rfl k) ?_
  refine own_by (T' := s₁) (g' := (mkF m 51 #[.val (.int (7 : Int32)), .val (.int (31 : Int32))] [(.int (16 : Int32)), (.int (7 : Int32))])) (fun _ k => XS.bipush X0.here hx rfl (hb hby d5_49) k) ?_
  refine own_by (T' := s₁) (g' := (mkF m 61 #[.val (.int (7 : Int32)), .val (.int (31 : Int32))] [])) (fun _ k => XS.icmpYes X0.here hx rfl (pc0 := 51) (pc' := 61) rfl (hb hby d5_51) rfl (tlt (by decide)).1 (by decide) (by decide) k) ?_
  refine own_by (T' := s₁) (g' := (mkF m 62 #[.val (.int (7 : Int32)), .val (.int (31 : Int32))] [(.int (7 : Int32))])) (fun _ k => XS.iloadN X0.here hx rfl (hb hby d5_61) rfl k) ?_
  refine own_by (T' := s₁) (g' := (mkF m 63 #[.val (.int (7 : Int32)), .val (.int (31 : Int32))] [(.int (4 : Int32)), (.int (7 : Int32))])) (fun _ k => XS.iconst X0.here hx rfl (hb hby d5_62) k) ?_
  refine own_by (T' := s₁) (g' := (mkF m 66 #[.val (.int (7 : Int32)), .val (.int (31 : Int32))] [])) (fun _ k => XS.icmpNo X0.here hx rfl (hb hby d5_63) rfl (flt (by decide)).1 k) ?_
  refine own_by (T' := s₁) (g' := (mkF m 69 #[.val (.int (7 : Int32)), .val (.int (29 : Int32))] [])) (fun _ k => XS.iinc X0.here hx rfl (hb hby d5_66) rfl (l' := #[.val (.int (7 : Int32)), .val (.int (29 : Int32))]) rfl k) ?_
  refine own_by (T' := s₁) (g' := (mkF m 70 #[.val (.int (7 : Int32)), .val (.int (29 : Int32))] [(.int (7 : Int32))])) (fun _ k => XS.iloadN X0.here hx rfl (hb hby d5_69) rfl k) ?_
  refine own_by (T' := s₁) (g' := (mkF m 71 #[.val (.int (7 : Int32)), .val (.int (29 : Int32))] [(.int (2 : Int32)), (.int (7 : Int32))])) (fun _ k => XS.iconst X0.here hx rfl (hb hby d5_70) k) ?_
  refine own_by (T' := s₁) (g' := (mkF m 72 #[.val (.int (7 : Int32)), .val (.int (29 : Int32))] [(.int (1 : Int32))])) (fun _ k => XS.iushr X0.here hx rfl (hb hby d5_71) rfl k) ?_
  refine own_by (T' := s₁) (g' := (mkF m 73 #[.val (.int (1 : Int32)), .val (.int (29 : Int32))] [])) (fun _ k => XS.istoreN X0.here hx rfl (hb hby d5_72) rfl (l' := #[.val (.int (1 : Int32)), .val (.int (29 : Int32))]) rfl k) ?_
  refine own_by (T' := s₁) (g' := (mkF m 74 #[.val (.int (1 : Int32)), .val (.int (29 : Int32))] [(.int (29 : Int32))])) (fun _ k => XS.iloadN X0.here hx rfl (hb hby d5_73) rfl k) ?_
  refine own_by (T' := s₁) (g' := (mkF m 75 #[.val (.int (1 : Int32)), .val (.int (29 : Int32))] [(.int (1 : Int32)), (.int (29 : Int32))])) (fun _ k => XS.iloadN X0.here hx rfl (hb hby d5_74) rfl k) ?_
  refine own_by (T' := s₁) (g' := (mkF m 76 #[.val (.int (1 : Int32)), .val (.int (29 : Int32))] [(.int (1 : Int32)), (.int (1 : Int32)), (.int (29 : Int32))])) (fun _ k => XS.iconst X0.here hx rfl (hb hby d5_75) k) ?_
  refine own_by (T' := s₁) (g' := (mkF m 77 #[.val (.int (1 : Int32)), .val (.int (29 : Int32))] [(.int (0 : Int32)), (.int (29 : Int32))])) (fun _ k => XS.iushr X0.here hx rfl (hb hby d5_76) rfl k) ?_
  refine own_by (T' := s₁) (g' := (mkF m 78 #[.val (.int (1 : Int32)), .val (.int (29 : Int32))] [(.int (29 : Int32))])) (fun _ k => XS.isub X0.here hx rfl (hb hby d5_77) rfl k) ?_
  refine own_ret X0 hlk (v := some (.int (29 : Int32))) (fun h => by rw [Bd.returns] at h; cases h) (fun fs hr => retI X0 hx Bd.returns (hb hby d5_78) hr) ?_ (by decide) (by decide)
  rw [e0]
  exact ⟨rfl, N0, rfl⟩
theorem ef_hob_7 (m : MethodId)  : entryFrame m #[(.int (7 : Int32))] 1 = mkF m 0 #[.val (.int (7 : Int32))] [] := by first | (simp [entryFrame, mkF, argsToLocals, Value.category]; done) | rfl
def Q_hob_7 (Z : State)  (h0 : Heap) (n0 : Nat) (v : Option Value) (h : Heap) (L : List Loc) : Prop := v = some (.int (4 : Int32)) ∧ Fr n0 L ∧ h = h0
set_option maxRecDepth 65536 in
set_option maxHeartbeats 40000000 in
theorem hob_7 (l : Launch) (Z : State) (a0 : Array Value) (hw : ∀ d ∈ tables_1, d.before a0 Z = true) (ws : List Jvm.Cond)  (h0 : Heap) (n0 : Nat) (Z0 : n0 ≤ h0.size) :
    MetFree l (⟨"java/lang/Integer", "highestOneBit", "(I)I"⟩ : MethodName) (head1 (Jvm.Cond.code (⟨"java/lang/Integer", "highestOneBit", "(I)I"⟩ : MethodName) jdk_33_method_45_code 1 (some .int) :: ws) ({ frames := 1, cells := 0, slots := 0, locals := 15 } : Room)) (fun zz UU => zz = #[(.int (7 : Int32))] ∧ Z.Warmed39 UU.vm ∧ UU.heap = h0) (fun _ _ _ _ _ => True) (fun _ U o U' => ∃ v L, o = .returned v ∧ Q_hob_7 Z  h0 n0 v U'.heap L ∧ FrameEnd U o U' L ({ frames := 1, cells := 0, slots := 0, locals := 15 } : Room).cells ({ frames := 1, cells := 0, slots := 0, locals := 15 } : Room).slots) := by
  refine MetFree.of_bodySF (plainFor_of_name pn_4) hisR ?_
  intro p e s m args below meth c s₁ Bd hml0 hP hK
  obtain ⟨rfl, hZ, hh⟩ := hP
  have hx := Bd.exec
  have hby := Bd.bytes
  have hml : c.maxLocals = 1 := hml0
  have hown : s.vm.findClass "java/lang/Integer" = some m.cls := findClass_of_methodNamed Bd.named
  have hnm := (name_of_methodNamed Bd.named Bd.method).1
  have hlk : meth.locks = false := BodyLoose.notSynchronized Bd
  have X0 : Stand p l e ({ frames := 1, cells := 0, slots := 0, locals := 15 } : Room) s m #[(.int (7 : Int32))] below meth c s₁ [] 0 0 := Stand.of_body Bd
  have e0 : s₁.heap = h0 := by rw [← hh, Bd.state]; rfl
  have N0 := Fr.nil n0
  show own_Go p.tables e below (Q_hob_7 Z h0 n0) s ({ frames := 1, cells := 0, slots := 0, locals := 15 } : Room).cells ({ frames := 1, cells := 0, slots := 0, locals := 15 } : Room).slots s₁ (entryFrame m #[(.int (7 : Int32))] 1)
  rw [ef_hob_7 m ]
  refine own_by (T' := s₁) (g' := (mkF m 1 #[.val (.int (7 : Int32))] [(.int (7 : Int32))])) (fun _ k => XS.iloadN X0.here hx rfl (hb hby d4_0) rfl k) ?_
  refine own_by (T' := s₁) (g' := (mkF m 3 #[.val (.int (7 : Int32))] [(.int (-2147483648 : Int32)), (.int (7 : Int32))])) (fun _ k => ldcI X0 hx hown (mvT hZ (hw _ (List.mem_of_getElem? (i := 23) rfl))) rfl (hb hby d4_1) k) ?_
  refine own_by (T' := s₁) (g' := (mkF m 4 #[.val (.int (7 : Int32))] [(.int (7 : Int32)), (.int (-2147483648 : Int32)), (.int (7 : Int32))])) (fun _ k => XS.iloadN X0.here hx rfl (hb hby d4_3) rfl k) ?_
  obtain ⟨_, _, ⟨T21, L21, k21, n21⟩, -, X21, ⟨Lc21, hQ21, l21, y21, z21⟩, st21⟩ := Jvm.LawKit.callS X0 hx (y := (⟨"java/lang/Integer", "numberOfLeadingZeros", "(I)I"⟩ : MethodName)) hown (mvT hZ (hw _ (List.mem_of_getElem? (i := 24) rfl))) (mvT hZ (hw _ (List.mem_of_getElem? (i := 25) rfl))) (mvT hZ (hw _ (List.mem_of_getElem? (i := 21) rfl))) (mvT hZ (hw _ (List.mem_of_getElem? (i := 26) rfl))) (by decide) (backOf (W := 2) (nlz_7 l Z a0 hw []   h0 n0 Z0 ) hZ (hw _ (List.mem_of_getElem? (i := 26) rfl)) (hw _ (List.mem_of_getElem? (i := 21) rfl)) (by decide) (by decide)) (g := (mkF m 4 #[.val (.int (7 : Int32))] [(.int (7 : Int32)), (.int (-2147483648 : Int32)), (.int (7 : Int32))])) rfl (by rw [hml]; rfl) (argsL := [(.int (7 : Int32))]) (rest := [(.int (-2147483648 : Int32)), (.int (7 : Int32))]) (lenOf pd_0 rfl) rfl (by show 2 * 0 + _ ≤ _; exact Nat.le_of_eq rfl) (hb hby d4_4) (fun _ _ => ⟨rfl, e0, (by decide : 0 + 0 ≤ _), (by decide : 0 + 0 ≤ _)⟩)
  dsimp only [Pt.U, Pt.locs, Pt.cells, Pt.slots] at X21 l21 y21 z21 st21 hQ21
  subst l21 y21 z21
  obtain ⟨rfl, N21q, e21⟩ := hQ21
  have N21 := Fr.app N0 N21q
  refine own_by (T' := T21) (g' := (mkF m 7 #[.val (.int (7 : Int32))] [(.int (29 : Int32)), (.int (-2147483648 : Int32)), (.int (7 : Int32))])) (fun _ k => st21 _ k) ?_
  refine own_by (T' := T21) (g' := (mkF m 8 #[.val (.int (7 : Int32))] [(.int (4 : Int32)), (.int (7 : Int32))])) (fun _ k => XS.iushr X21.here hx rfl (hb hby d4_7) rfl k) ?_
  refine own_by (T' := T21) (g' := (mkF m 9 #[.val (.int (7 : Int32))] [(.int (4 : Int32))])) (fun _ k => XS.iand X21.here hx rfl (hb hby d4_8) rfl k) ?_
  refine own_ret X21 hlk (v := some (.int (4 : Int32))) (fun h => by rw [Bd.returns] at h; cases h) (fun fs hr => retI X21 hx Bd.returns (hb hby d4_9) hr) ?_ (by decide) (by decide)
  rw [e21]
  exact ⟨rfl, N21, rfl⟩
theorem ef_bit_7 (m : MethodId) (a : Addr) : entryFrame m #[(.ref a)] 1 = mkF m 0 #[.val (.ref a)] [] := by first | (simp [entryFrame, mkF, argsToLocals, Value.category]; done) | rfl
def Q_bit_7 (Z : State) (a : Addr) (h0 : Heap) (n0 : Nat) (v : Option Value) (h : Heap) (L : List Loc) : Prop := v = some (.int (4 : Int32)) ∧ Fr n0 L ∧ h = h0
set_option maxRecDepth 65536 in
set_option maxHeartbeats 40000000 in
theorem bit_7 (l : Launch) (Z : State) (a0 : Array Value) (hw : ∀ d ∈ tables_1, d.before a0 Z = true) (ws : List Jvm.Cond) (a : Addr) (h0 : Heap) (n0 : Nat) (Z0 : n0 ≤ h0.size) (F_code_a : Fld Z h0 a "com/example/nisaba/nisaba/item/Permission" "code" "I" (.int (7 : Int32))) :
    MetFree l (⟨"com/example/nisaba/nisaba/item/Permission", "bit", "()I"⟩ : MethodName) (head1 (Jvm.Cond.code (⟨"com/example/nisaba/nisaba/item/Permission", "bit", "()I"⟩ : MethodName) prog_27_method_10_code 1 (some .int) :: ws) ({ frames := 2, cells := 0, slots := 0, locals := 27 } : Room)) (fun zz UU => zz = #[(.ref a)] ∧ Z.Warmed39 UU.vm ∧ UU.heap = h0) (fun _ _ _ _ _ => True) (fun _ U o U' => ∃ v L, o = .returned v ∧ Q_bit_7 Z a h0 n0 v U'.heap L ∧ FrameEnd U o U' L ({ frames := 2, cells := 0, slots := 0, locals := 27 } : Room).cells ({ frames := 2, cells := 0, slots := 0, locals := 27 } : Room).slots) := by
  refine MetFree.of_bodySF (plainFor_of_name pn_3) hisR ?_
  intro p e s m args below meth c s₁ Bd hml0 hP hK
  obtain ⟨rfl, hZ, hh⟩ := hP
  have hx := Bd.exec
  have hby := Bd.bytes
  have hml : c.maxLocals = 1 := hml0
  have hown : s.vm.findClass "com/example/nisaba/nisaba/item/Permission" = some m.cls := findClass_of_methodNamed Bd.named
  have hnm := (name_of_methodNamed Bd.named Bd.method).1
  have hlk : meth.locks = false := BodyLoose.notSynchronized Bd
  have X0 : Stand p l e ({ frames := 2, cells := 0, slots := 0, locals := 27 } : Room) s m #[(.ref a)] below meth c s₁ [] 0 0 := Stand.of_body Bd
  have e0 : s₁.heap = h0 := by rw [← hh, Bd.state]; rfl
  have N0 := Fr.nil n0
  show own_Go p.tables e below (Q_bit_7 Z a h0 n0) s ({ frames := 2, cells := 0, slots := 0, locals := 27 } : Room).cells ({ frames := 2, cells := 0, slots := 0, locals := 27 } : Room).slots s₁ (entryFrame m #[(.ref a)] 1)
  rw [ef_bit_7 m a]
  refine own_by (T' := s₁) (g' := (mkF m 1 #[.val (.ref a)] [(.ref a)])) (fun _ k => XS.aloadN X0.here hx rfl (hb hby d3_0) rfl rfl k) ?_
  obtain ⟨T21, X21, e21, st21⟩ := getF X0 hx hZ hown (host := "") (Or.inl (hw _ (List.mem_of_getElem? (i := 17) rfl))) Via.refl e0 F_code_a (g := (mkF m 1 #[.val (.ref a)] [(.ref a)])) rfl rfl (hb hby d3_1)
  refine own_by (T' := T21) (g' := (mkF m 4 #[.val (.ref a)] [(.int (7 : Int32))])) (fun _ k => st21 _ k) ?_
  obtain ⟨_, _, ⟨T22, L22, k22, n22⟩, -, X22, ⟨Lc22, hQ22, l22, y22, z22⟩, st22⟩ := Jvm.LawKit.callS X21 hx (y := (⟨"java/lang/Integer", "highestOneBit", "(I)I"⟩ : MethodName)) hown (mvT hZ (hw _ (List.mem_of_getElem? (i := 19) rfl))) (mvT hZ (hw _ (List.mem_of_getElem? (i := 20) rfl))) (mvT hZ (hw _ (List.mem_of_getElem? (i := 21) rfl))) (mvT hZ (hw _ (List.mem_of_getElem? (i := 22) rfl))) (by decide) (backOf (W := 0) (hob_7 l Z a0 hw []   h0 n0 Z0 ) hZ (hw _ (List.mem_of_getElem? (i := 22) rfl)) (hw _ (List.mem_of_getElem? (i := 21) rfl)) (by decide) (by decide)) (g := (mkF m 4 #[.val (.ref a)] [(.int (7 : Int32))])) rfl (by rw [hml]; rfl) (argsL := [(.int (7 : Int32))]) (rest := []) (lenOf pd_0 rfl) rfl (by show 2 * 0 + _ ≤ _; exact Nat.le_of_eq rfl) (hb hby d3_4) (fun _ _ => ⟨rfl, e21, (by decide : 0 + 0 ≤ _), (by decide : 0 + 0 ≤ _)⟩)
  dsimp only [Pt.U, Pt.locs, Pt.cells, Pt.slots] at X22 l22 y22 z22 st22 hQ22
  subst l22 y22 z22
  obtain ⟨rfl, N22q, e22⟩ := hQ22
  have N22 := Fr.app N0 N22q
  refine own_by (T' := T22) (g' := (mkF m 7 #[.val (.ref a)] [(.int (4 : Int32))])) (fun _ k => st22 _ k) ?_
  refine own_ret X22 hlk (v := some (.int (4 : Int32))) (fun h => by rw [Bd.returns] at h; cases h) (fun fs hr => retI X22 hx Bd.returns (hb hby d3_7) hr) ?_ (by decide) (by decide)
  rw [e22]
  exact ⟨rfl, N22, rfl⟩
theorem ef_nlz_15 (m : MethodId)  : entryFrame m #[(.int (15 : Int32))] 2 = mkF m 0 #[.val (.int (15 : Int32)), .unset] [] := by first | (simp [entryFrame, mkF, argsToLocals, Value.category]; done) | rfl
def Q_nlz_15 (Z : State)  (h0 : Heap) (n0 : Nat) (v : Option Value) (h : Heap) (L : List Loc) : Prop := v = some (.int (28 : Int32)) ∧ Fr n0 L ∧ h = h0
set_option maxRecDepth 65536 in
set_option maxHeartbeats 40000000 in
theorem nlz_15 (l : Launch) (Z : State) (a0 : Array Value) (hw : ∀ d ∈ tables_1, d.before a0 Z = true) (ws : List Jvm.Cond)  (h0 : Heap) (n0 : Nat) (Z0 : n0 ≤ h0.size) :
    MetFree l (⟨"java/lang/Integer", "numberOfLeadingZeros", "(I)I"⟩ : MethodName) (head1 (Jvm.Cond.code (⟨"java/lang/Integer", "numberOfLeadingZeros", "(I)I"⟩ : MethodName) jdk_33_method_47_code 2 (some .int) :: ws) ({ frames := 0, cells := 0, slots := 0, locals := 0 } : Room)) (fun zz UU => zz = #[(.int (15 : Int32))] ∧ Z.Warmed39 UU.vm ∧ UU.heap = h0) (fun _ _ _ _ _ => True) (fun _ U o U' => ∃ v L, o = .returned v ∧ Q_nlz_15 Z  h0 n0 v U'.heap L ∧ FrameEnd U o U' L ({ frames := 0, cells := 0, slots := 0, locals := 0 } : Room).cells ({ frames := 0, cells := 0, slots := 0, locals := 0 } : Room).slots) := by
  refine MetFree.of_bodySF (plainFor_of_name pn_5) hisR ?_
  intro p e s m args below meth c s₁ Bd hml0 hP hK
  obtain ⟨rfl, hZ, hh⟩ := hP
  have hx := Bd.exec
  have hby := Bd.bytes
  have hml : c.maxLocals = 2 := hml0
  have hown : s.vm.findClass "java/lang/Integer" = some m.cls := findClass_of_methodNamed Bd.named
  have hnm := (name_of_methodNamed Bd.named Bd.method).1
  have hlk : meth.locks = false := BodyLoose.notSynchronized Bd
  have X0 : Stand p l e ({ frames := 0, cells := 0, slots := 0, locals := 0 } : Room) s m #[(.int (15 : Int32))] below meth c s₁ [] 0 0 := Stand.of_body Bd
  have e0 : s₁.heap = h0 := by rw [← hh, Bd.state]; rfl
  have N0 := Fr.nil n0
  show own_Go p.tables e below (Q_nlz_15 Z h0 n0) s ({ frames := 0, cells := 0, slots := 0, locals := 0 } : Room).cells ({ frames := 0, cells := 0, slots := 0, locals := 0 } : Room).slots s₁ (entryFrame m #[(.int (15 : Int32))] 2)
  rw [ef_nlz_15 m ]
  refine own_by (T' := s₁) (g' := (mkF m 1 #[.val (.int (15 : Int32)), .unset] [(.int (15 : Int32))])) (fun _ k => XS.iloadN X0.here hx rfl (hb hby d5_0) rfl k) ?_
  refine own_by (T' := s₁) (g' := (mkF m 15 #[.val (.int (15 : Int32)), .unset] [])) (fun _ k => XS.ifYes X0.here hx rfl (pc0 := 1) (pc' := 15) rfl (hb hby d5_1) rfl ((if0 _ _).trans (tlt (by decide)).2.2.1) (by decide) (by decide) k) ?_
  refine own_by (T' := s₁) (g' := (mkF m 17 #[.val (.int (15 : Int32)), .unset] [(.int (31 : Int32))])) (fun _ k => XS.bipush X0.here hx rfl (hb hby d5_15) k) ?_
  refine own_by (T' := s₁) (g' := (mkF m 18 #[.val (.int (15 : Int32)), .val (.int (31 : Int32))] [])) (fun _ k => XS.istoreN X0.here hx rfl (hb hby d5_17) rfl (l' := #[.val (.int (15 : Int32)), .val (.int (31 : Int32))]) rfl k) ?_
  refine own_by (T' := s₁) (g' := (mkF m 19 #[.val (.int (15 : Int32)), .val (.int (31 : Int32))] [(.int (15 : Int32))])) (fun _ k => XS.iloadN X0.here hx rfl (hb hby d5_18) rfl k) ?_
  refine own_by (T' := s₁) (g' := (mkF m 22 #[.val (.int (15 : Int32)), .val (.int (31 : Int32))] [(.int (65536 : Int32)), (.int (15 : Int32))])) (fun _ k => ldcWI X0 hx hown (mvT hZ (hw _ (List.mem_of_getElem? (i := 27) rfl))) rfl (hb hby d5_19) k) ?_
  refine own_by (T' := s₁) (g' := (mkF m 33 #[.val (.int (15 : Int32)), .val (.int (31 : Int32))] [])) (fun _ k => XS.icmpYes X0.here hx rfl (pc0 := 22) (pc' := 33) rfl (hb hby d5_22) rfl (tlt (by decide)).1 (by decide) (by decide) k) ?_
  refine own_by (T' := s₁) (g' := (mkF m 34 #[.val (.int (15 : Int32)), .val (.int (31 : Int32))] [(.int (15 : Int32))])) (fun _ k => XS.iloadN X0.here hx rfl (hb hby d5_33) rfl k) ?_
  refine own_by (T' := s₁) (g' := (mkF m 37 #[.val (.int (15 : Int32)), .val (.int (31 : Int32))] [(.int (256 : Int32)), (.int (15 : Int32))])) (fun _ k => XS.sipush X0.here hx rfl (hb hby d5_34) k) ?_
  refine own_by (T' := s₁) (g' := (mkF m 48 #[.val (.int (15 : Int32)), .val (.int (31 : Int32))] [])) (fun _ k => XS.icmpYes X0.here hx rfl (pc0 := 37) (pc' := 48) rfl (hb hby d5_37) rfl (tlt (by decide)).1 (by decide) (by decide) k) ?_
  refine own_by (T' := s₁) (g' := (mkF m 49 #[.val (.int (15 : Int32)), .val (.int (31 : Int32))] [(.int (15 : Int32))])) (fun _ k => XS.iloadN X0.here hx rfl (hb hby d5_48) rfl k) ?_
  refine own_by (T' := s₁) (g' := (mkF m 51 #[.val (.int (15 : Int32)), .val (.int (31 : Int32))] [(.int (16 : Int32)), (.int (15 : Int32))])) (fun _ k => XS.bipush X0.here hx rfl (hb hby d5_49) k) ?_
  refine own_by (T' := s₁) (g' := (mkF m 61 #[.val (.int (15 : Int32)), .val (.int (31 : Int32))] [])) (fun _ k => XS.icmpYes X0.here hx rfl (pc0 := 51) (pc' := 61) rfl (hb hby d5_51) rfl (tlt (by decide)).1 (by decide) (by decide) k) ?_
  refine own_by (T' := s₁) (g' := (mkF m 62 #[.val (.int (15 : Int32)), .val (.int (31 : Int32))] [(.int (15 : Int32))])) (fun _ k => XS.iloadN X0.here hx rfl (hb hby d5_61) rfl k) ?_
  refine own_by (T' := s₁) (g' := (mkF m 63 #[.val (.int (15 : Int32)), .val (.int (31 : Int32))] [(.int (4 : Int32)), (.int (15 : Int32))])) (fun _ k => XS.iconst X0.here hx rfl (hb hby d5_62) k) ?_
  refine own_by (T' := s₁) (g' := (mkF m 66 #[.val (.int (15 : Int32)), .val (.int (31 : Int32))] [])) (fun _ k => XS.icmpNo X0.here hx rfl (hb hby d5_63) rfl (flt (by decide)).1 k) ?_
  refine own_by (T' := s₁) (g' := (mkF m 69 #[.val (.int (15 : Int32)), .val (.int (29 : Int32))] [])) (fun _ k => XS.iinc X0.here hx rfl (hb hby d5_66) rfl (l' := #[.val (.int (15 : Int32)), .val (.int (29 : Int32))]) rfl k) ?_
  refine own_by (T' := s₁) (g' := (mkF m 70 #[.val (.int (15 : Int32)), .val (.int (29 : Int32))] [(.int (15 : Int32))])) (fun _ k => XS.iloadN X0.here hx rfl (hb hby d5_69) rfl k) ?_
  refine own_by (T' := s₁) (g' := (mkF m 71 #[.val (.int (15 : Int32)), .val (.int (29 : Int32))] [(.int (2 : Int32)), (.int (15 : Int32))])) (fun _ k => XS.iconst X0.here hx rfl (hb hby d5_70) k) ?_
  refine own_by (T' := s₁) (g' := (mkF m 72 #[.val (.int (15 : Int32)), .val (.int (29 : Int32))] [(.int (3 : Int32))])) (fun _ k => XS.iushr X0.here hx rfl (hb hby d5_71) rfl k) ?_
  refine own_by (T' := s₁) (g' := (mkF m 73 #[.val (.int (3 : Int32)), .val (.int (29 : Int32))] [])) (fun _ k => XS.istoreN X0.here hx rfl (hb hby d5_72) rfl (l' := #[.val (.int (3 : Int32)), .val (.int (29 : Int32))]) rfl k) ?_
  refine own_by (T' := s₁) (g' := (mkF m 74 #[.val (.int (3 : Int32)), .val (.int (29 : Int32))] [(.int (29 : Int32))])) (fun _ k => XS.iloadN X0.here hx rfl (hb hby d5_73) rfl k) ?_
  refine own_by (T' := s₁) (g' := (mkF m 75 #[.val (.int (3 : Int32)), .val (.int (29 : Int32))] [(.int (3 : Int32)), (.int (29 : Int32))])) (fun _ k => XS.iloadN X0.here hx rfl (hb hby d5_74) rfl k) ?_
  refine own_by (T' := s₁) (g' := (mkF m 76 #[.val (.int (3 : Int32)), .val (.int (29 : Int32))] [(.int (1 : Int32)), (.int (3 : Int32)), (.int (29 : Int32))])) (fun _ k => XS.iconst X0.here hx rfl (hb hby d5_75) k) ?_
  refine own_by (T' := s₁) (g' := (mkF m 77 #[.val (.int (3 : Int32)), .val (.int (29 : Int32))] [(.int (1 : Int32)), (.int (29 : Int32))])) (fun _ k => XS.iushr X0.here hx rfl (hb hby d5_76) rfl k) ?_
  refine own_by (T' := s₁) (g' := (mkF m 78 #[.val (.int (3 : Int32)), .val (.int (29 : Int32))] [(.int (28 : Int32))])) (fun _ k => XS.isub X0.here hx rfl (hb hby d5_77) rfl k) ?_
  refine own_ret X0 hlk (v := some (.int (28 : Int32))) (fun h => by rw [Bd.returns] at h; cases h) (fun fs hr => retI X0 hx Bd.returns (hb hby d5_78) hr) ?_ (by decide) (by decide)
  rw [e0]
  exact ⟨rfl, N0, rfl⟩
theorem ef_hob_15 (m : MethodId)  : entryFrame m #[(.int (15 : Int32))] 1 = mkF m 0 #[.val (.int (15 : Int32))] [] := by first | (simp [entryFrame, mkF, argsToLocals, Value.category]; done) | rfl
def Q_hob_15 (Z : State)  (h0 : Heap) (n0 : Nat) (v : Option Value) (h : Heap) (L : List Loc) : Prop := v = some (.int (8 : Int32)) ∧ Fr n0 L ∧ h = h0
set_option maxRecDepth 65536 in
set_option maxHeartbeats 40000000 in
theorem hob_15 (l : Launch) (Z : State) (a0 : Array Value) (hw : ∀ d ∈ tables_1, d.before a0 Z = true) (ws : List Jvm.Cond)  (h0 : Heap) (n0 : Nat) (Z0 : n0 ≤ h0.size) :
    MetFree l (⟨"java/lang/Integer", "highestOneBit", "(I)I"⟩ : MethodName) (head1 (Jvm.Cond.code (⟨"java/lang/Integer", "highestOneBit", "(I)I"⟩ : MethodName) jdk_33_method_45_code 1 (some .int) :: ws) ({ frames := 1, cells := 0, slots := 0, locals := 15 } : Room)) (fun zz UU => zz = #[(.int (15 : Int32))] ∧ Z.Warmed39 UU.vm ∧ UU.heap = h0) (fun _ _ _ _ _ => True) (fun _ U o U' => ∃ v L, o = .returned v ∧ Q_hob_15 Z  h0 n0 v U'.heap L ∧ FrameEnd U o U' L ({ frames := 1, cells := 0, slots := 0, locals := 15 } : Room).cells ({ frames := 1, cells := 0, slots := 0, locals := 15 } : Room).slots) := by
  refine MetFree.of_bodySF (plainFor_of_name pn_4) hisR ?_
  intro p e s m args below meth c s₁ Bd hml0 hP hK
  obtain ⟨rfl, hZ, hh⟩ := hP
  have hx := Bd.exec
  have hby := Bd.bytes
  have hml : c.maxLocals = 1 := hml0
  have hown : s.vm.findClass "java/lang/Integer" = some m.cls := findClass_of_methodNamed Bd.named
  have hnm := (name_of_methodNamed Bd.named Bd.method).1
  have hlk : meth.locks = false := BodyLoose.notSynchronized Bd
  have X0 : Stand p l e ({ frames := 1, cells := 0, slots := 0, locals := 15 } : Room) s m #[(.int (15 : Int32))] below meth c s₁ [] 0 0 := Stand.of_body Bd
  have e0 : s₁.heap = h0 := by rw [← hh, Bd.state]; rfl
  have N0 := Fr.nil n0
  show own_Go p.tables e below (Q_hob_15 Z h0 n0) s ({ frames := 1, cells := 0, slots := 0, locals := 15 } : Room).cells ({ frames := 1, cells := 0, slots := 0, locals := 15 } : Room).slots s₁ (entryFrame m #[(.int (15 : Int32))] 1)
  rw [ef_hob_15 m ]
  refine own_by (T' := s₁) (g' := (mkF m 1 #[.val (.int (15 : Int32))] [(.int (15 : Int32))])) (fun _ k => XS.iloadN X0.here hx rfl (hb hby d4_0) rfl k) ?_
  refine own_by (T' := s₁) (g' := (mkF m 3 #[.val (.int (15 : Int32))] [(.int (-2147483648 : Int32)), (.int (15 : Int32))])) (fun _ k => ldcI X0 hx hown (mvT hZ (hw _ (List.mem_of_getElem? (i := 23) rfl))) rfl (hb hby d4_1) k) ?_
  refine own_by (T' := s₁) (g' := (mkF m 4 #[.val (.int (15 : Int32))] [(.int (15 : Int32)), (.int (-2147483648 : Int32)), (.int (15 : Int32))])) (fun _ k => XS.iloadN X0.here hx rfl (hb hby d4_3) rfl k) ?_
  obtain ⟨_, _, ⟨T21, L21, k21, n21⟩, -, X21, ⟨Lc21, hQ21, l21, y21, z21⟩, st21⟩ := Jvm.LawKit.callS X0 hx (y := (⟨"java/lang/Integer", "numberOfLeadingZeros", "(I)I"⟩ : MethodName)) hown (mvT hZ (hw _ (List.mem_of_getElem? (i := 24) rfl))) (mvT hZ (hw _ (List.mem_of_getElem? (i := 25) rfl))) (mvT hZ (hw _ (List.mem_of_getElem? (i := 21) rfl))) (mvT hZ (hw _ (List.mem_of_getElem? (i := 26) rfl))) (by decide) (backOf (W := 2) (nlz_15 l Z a0 hw []   h0 n0 Z0 ) hZ (hw _ (List.mem_of_getElem? (i := 26) rfl)) (hw _ (List.mem_of_getElem? (i := 21) rfl)) (by decide) (by decide)) (g := (mkF m 4 #[.val (.int (15 : Int32))] [(.int (15 : Int32)), (.int (-2147483648 : Int32)), (.int (15 : Int32))])) rfl (by rw [hml]; rfl) (argsL := [(.int (15 : Int32))]) (rest := [(.int (-2147483648 : Int32)), (.int (15 : Int32))]) (lenOf pd_0 rfl) rfl (by show 2 * 0 + _ ≤ _; exact Nat.le_of_eq rfl) (hb hby d4_4) (fun _ _ => ⟨rfl, e0, (by decide : 0 + 0 ≤ _), (by decide : 0 + 0 ≤ _)⟩)
  dsimp only [Pt.U, Pt.locs, Pt.cells, Pt.slots] at X21 l21 y21 z21 st21 hQ21
  subst l21 y21 z21
  obtain ⟨rfl, N21q, e21⟩ := hQ21
  have N21 := Fr.app N0 N21q
  refine own_by (T' := T21) (g' := (mkF m 7 #[.val (.int (15 : Int32))] [(.int (28 : Int32)), (.int (-2147483648 : Int32)), (.int (15 : Int32))])) (fun _ k => st21 _ k) ?_
  refine own_by (T' := T21) (g' := (mkF m 8 #[.val (.int (15 : Int32))] [(.int (8 : Int32)), (.int (15 : Int32))])) (fun _ k => XS.iushr X21.here hx rfl (hb hby d4_7) rfl k) ?_
  refine own_by (T' := T21) (g' := (mkF m 9 #[.val (.int (15 : Int32))] [(.int (8 : Int32))])) (fun _ k => XS.iand X21.here hx rfl (hb hby d4_8) rfl k) ?_
  refine own_ret X21 hlk (v := some (.int (8 : Int32))) (fun h => by rw [Bd.returns] at h; cases h) (fun fs hr => retI X21 hx Bd.returns (hb hby d4_9) hr) ?_ (by decide) (by decide)
  rw [e21]
  exact ⟨rfl, N21, rfl⟩
theorem ef_bit_15 (m : MethodId) (a : Addr) : entryFrame m #[(.ref a)] 1 = mkF m 0 #[.val (.ref a)] [] := by first | (simp [entryFrame, mkF, argsToLocals, Value.category]; done) | rfl
def Q_bit_15 (Z : State) (a : Addr) (h0 : Heap) (n0 : Nat) (v : Option Value) (h : Heap) (L : List Loc) : Prop := v = some (.int (8 : Int32)) ∧ Fr n0 L ∧ h = h0
set_option maxRecDepth 65536 in
set_option maxHeartbeats 40000000 in
theorem bit_15 (l : Launch) (Z : State) (a0 : Array Value) (hw : ∀ d ∈ tables_1, d.before a0 Z = true) (ws : List Jvm.Cond) (a : Addr) (h0 : Heap) (n0 : Nat) (Z0 : n0 ≤ h0.size) (F_code_a : Fld Z h0 a "com/example/nisaba/nisaba/item/Permission" "code" "I" (.int (15 : Int32))) :
    MetFree l (⟨"com/example/nisaba/nisaba/item/Permission", "bit", "()I"⟩ : MethodName) (head1 (Jvm.Cond.code (⟨"com/example/nisaba/nisaba/item/Permission", "bit", "()I"⟩ : MethodName) prog_27_method_10_code 1 (some .int) :: ws) ({ frames := 2, cells := 0, slots := 0, locals := 27 } : Room)) (fun zz UU => zz = #[(.ref a)] ∧ Z.Warmed39 UU.vm ∧ UU.heap = h0) (fun _ _ _ _ _ => True) (fun _ U o U' => ∃ v L, o = .returned v ∧ Q_bit_15 Z a h0 n0 v U'.heap L ∧ FrameEnd U o U' L ({ frames := 2, cells := 0, slots := 0, locals := 27 } : Room).cells ({ frames := 2, cells := 0, slots := 0, locals := 27 } : Room).slots) := by
  refine MetFree.of_bodySF (plainFor_of_name pn_3) hisR ?_
  intro p e s m args below meth c s₁ Bd hml0 hP hK
  obtain ⟨rfl, hZ, hh⟩ := hP
  have hx := Bd.exec
  have hby := Bd.bytes
  have hml : c.maxLocals = 1 := hml0
  have hown : s.vm.findClass "com/example/nisaba/nisaba/item/Permission" = some m.cls := findClass_of_methodNamed Bd.named
  have hnm := (name_of_methodNamed Bd.named Bd.method).1
  have hlk : meth.locks = false := BodyLoose.notSynchronized Bd
  have X0 : Stand p l e ({ frames := 2, cells := 0, slots := 0, locals := 27 } : Room) s m #[(.ref a)] below meth c s₁ [] 0 0 := Stand.of_body Bd
  have e0 : s₁.heap = h0 := by rw [← hh, Bd.state]; rfl
  have N0 := Fr.nil n0
  show own_Go p.tables e below (Q_bit_15 Z a h0 n0) s ({ frames := 2, cells := 0, slots := 0, locals := 27 } : Room).cells ({ frames := 2, cells := 0, slots := 0, locals := 27 } : Room).slots s₁ (entryFrame m #[(.ref a)] 1)
  rw [ef_bit_15 m a]
  refine own_by (T' := s₁) (g' := (mkF m 1 #[.val (.ref a)] [(.ref a)])) (fun _ k => XS.aloadN X0.here hx rfl (hb hby d3_0) rfl rfl k) ?_
  obtain ⟨T21, X21, e21, st21⟩ := getF X0 hx hZ hown (host := "") (Or.inl (hw _ (List.mem_of_getElem? (i := 17) rfl))) Via.refl e0 F_code_a (g := (mkF m 1 #[.val (.ref a)] [(.ref a)])) rfl rfl (hb hby d3_1)
  refine own_by (T' := T21) (g' := (mkF m 4 #[.val (.ref a)] [(.int (15 : Int32))])) (fun _ k => st21 _ k) ?_
  obtain ⟨_, _, ⟨T22, L22, k22, n22⟩, -, X22, ⟨Lc22, hQ22, l22, y22, z22⟩, st22⟩ := Jvm.LawKit.callS X21 hx (y := (⟨"java/lang/Integer", "highestOneBit", "(I)I"⟩ : MethodName)) hown (mvT hZ (hw _ (List.mem_of_getElem? (i := 19) rfl))) (mvT hZ (hw _ (List.mem_of_getElem? (i := 20) rfl))) (mvT hZ (hw _ (List.mem_of_getElem? (i := 21) rfl))) (mvT hZ (hw _ (List.mem_of_getElem? (i := 22) rfl))) (by decide) (backOf (W := 0) (hob_15 l Z a0 hw []   h0 n0 Z0 ) hZ (hw _ (List.mem_of_getElem? (i := 22) rfl)) (hw _ (List.mem_of_getElem? (i := 21) rfl)) (by decide) (by decide)) (g := (mkF m 4 #[.val (.ref a)] [(.int (15 : Int32))])) rfl (by rw [hml]; rfl) (argsL := [(.int (15 : Int32))]) (rest := []) (lenOf pd_0 rfl) rfl (by show 2 * 0 + _ ≤ _; exact Nat.le_of_eq rfl) (hb hby d3_4) (fun _ _ => ⟨rfl, e21, (by decide : 0 + 0 ≤ _), (by decide : 0 + 0 ≤ _)⟩)
  dsimp only [Pt.U, Pt.locs, Pt.cells, Pt.slots] at X22 l22 y22 z22 st22 hQ22
  subst l22 y22 z22
  obtain ⟨rfl, N22q, e22⟩ := hQ22
  have N22 := Fr.app N0 N22q
  refine own_by (T' := T22) (g' := (mkF m 7 #[.val (.ref a)] [(.int (8 : Int32))])) (fun _ k => st22 _ k) ?_
  refine own_ret X22 hlk (v := some (.int (8 : Int32))) (fun h => by rw [Bd.returns] at h; cases h) (fun fs hr => retI X22 hx Bd.returns (hb hby d3_7) hr) ?_ (by decide) (by decide)
  rw [e22]
  exact ⟨rfl, N22, rfl⟩
theorem d5_54 : decode jdk_33_method_47_code 54 = .ok (.iinc 1 (-4), 3) := by decide +kernel
theorem d5_57 : decode jdk_33_method_47_code 57 = .ok (.iload_n 0, 1) := by decide +kernel
theorem d5_58 : decode jdk_33_method_47_code 58 = .ok (.iconst 4, 1) := by decide +kernel
theorem d5_59 : decode jdk_33_method_47_code 59 = .ok (.iushr, 1) := by decide +kernel
theorem d5_60 : decode jdk_33_method_47_code 60 = .ok (.istore_n 0, 1) := by decide +kernel
theorem ef_nlz_31 (m : MethodId)  : entryFrame m #[(.int (31 : Int32))] 2 = mkF m 0 #[.val (.int (31 : Int32)), .unset] [] := by first | (simp [entryFrame, mkF, argsToLocals, Value.category]; done) | rfl
def Q_nlz_31 (Z : State)  (h0 : Heap) (n0 : Nat) (v : Option Value) (h : Heap) (L : List Loc) : Prop := v = some (.int (27 : Int32)) ∧ Fr n0 L ∧ h = h0
set_option maxRecDepth 65536 in
set_option maxHeartbeats 40000000 in
theorem nlz_31 (l : Launch) (Z : State) (a0 : Array Value) (hw : ∀ d ∈ tables_1, d.before a0 Z = true) (ws : List Jvm.Cond)  (h0 : Heap) (n0 : Nat) (Z0 : n0 ≤ h0.size) :
    MetFree l (⟨"java/lang/Integer", "numberOfLeadingZeros", "(I)I"⟩ : MethodName) (head1 (Jvm.Cond.code (⟨"java/lang/Integer", "numberOfLeadingZeros", "(I)I"⟩ : MethodName) jdk_33_method_47_code 2 (some .int) :: ws) ({ frames := 0, cells := 0, slots := 0, locals := 0 } : Room)) (fun zz UU => zz = #[(.int (31 : Int32))] ∧ Z.Warmed39 UU.vm ∧ UU.heap = h0) (fun _ _ _ _ _ => True) (fun _ U o U' => ∃ v L, o = .returned v ∧ Q_nlz_31 Z  h0 n0 v U'.heap L ∧ FrameEnd U o U' L ({ frames := 0, cells := 0, slots := 0, locals := 0 } : Room).cells ({ frames := 0, cells := 0, slots := 0, locals := 0 } : Room).slots) := by
  refine MetFree.of_bodySF (plainFor_of_name pn_5) hisR ?_
  intro p e s m args below meth c s₁ Bd hml0 hP hK
  obtain ⟨rfl, hZ, hh⟩ := hP
  have hx := Bd.exec
  have hby := Bd.bytes
  have hml : c.maxLocals = 2 := hml0
  have hown : s.vm.findClass "java/lang/Integer" = some m.cls := findClass_of_methodNamed Bd.named
  have hnm := (name_of_methodNamed Bd.named Bd.method).1
  have hlk : meth.locks = false := BodyLoose.notSynchronized Bd
  have X0 : Stand p l e ({ frames := 0, cells := 0, slots := 0, locals := 0 } : Room) s m #[(.int (31 : Int32))] below meth c s₁ [] 0 0 := Stand.of_body Bd
  have e0 : s₁.heap = h0 := by rw [← hh, Bd.state]; rfl
  have N0 := Fr.nil n0
  show own_Go p.tables e below (Q_nlz_31 Z h0 n0) s ({ frames := 0, cells := 0, slots := 0, locals := 0 } : Room).cells ({ frames := 0, cells := 0, slots := 0, locals := 0 } : Room).slots s₁ (entryFrame m #[(.int (31 : Int32))] 2)
  rw [ef_nlz_31 m ]
  refine own_by (T' := s₁) (g' := (mkF m 1 #[.val (.int (31 : Int32)), .unset] [(.int (31 : Int32))])) (fun _ k => XS.iloadN X0.here hx rfl (hb hby d5_0) rfl k) ?_
  refine own_by (T' := s₁) (g' := (mkF m 15 #[.val (.int (31 : Int32)), .unset] [])) (fun _ k => XS.ifYes X0.here hx rfl (pc0 := 1) (pc' := 15) rfl (hb hby d5_1) rfl ((if0 _ _).trans (tlt (by decide)).2.2.1) (by decide) (by decide) k) ?_
  refine own_by (T' := s₁) (g' := (mkF m 17 #[.val (.int (31 : Int32)), .unset] [(.int (31 : Int32))])) (fun _ k => XS.bipush X0.here hx rfl (hb hby d5_15) k) ?_
  refine own_by (T' := s₁) (g' := (mkF m 18 #[.val (.int (31 : Int32)), .val (.int (31 : Int32))] [])) (fun _ k => XS.istoreN X0.here hx rfl (hb hby d5_17) rfl (l' := #[.val (.int (31 : Int32)), .val (.int (31 : Int32))]) rfl k) ?_
  refine own_by (T' := s₁) (g' := (mkF m 19 #[.val (.int (31 : Int32)), .val (.int (31 : Int32))] [(.int (31 : Int32))])) (fun _ k => XS.iloadN X0.here hx rfl (hb hby d5_18) rfl k) ?_
  refine own_by (T' := s₁) (g' := (mkF m 22 #[.val (.int (31 : Int32)), .val (.int (31 : Int32))] [(.int (65536 : Int32)), (.int (31 : Int32))])) (fun _ k => ldcWI X0 hx hown (mvT hZ (hw _ (List.mem_of_getElem? (i := 27) rfl))) rfl (hb hby d5_19) k) ?_
  refine own_by (T' := s₁) (g' := (mkF m 33 #[.val (.int (31 : Int32)), .val (.int (31 : Int32))] [])) (fun _ k => XS.icmpYes X0.here hx rfl (pc0 := 22) (pc' := 33) rfl (hb hby d5_22) rfl (tlt (by decide)).1 (by decide) (by decide) k) ?_
  refine own_by (T' := s₁) (g' := (mkF m 34 #[.val (.int (31 : Int32)), .val (.int (31 : Int32))] [(.int (31 : Int32))])) (fun _ k => XS.iloadN X0.here hx rfl (hb hby d5_33) rfl k) ?_
  refine own_by (T' := s₁) (g' := (mkF m 37 #[.val (.int (31 : Int32)), .val (.int (31 : Int32))] [(.int (256 : Int32)), (.int (31 : Int32))])) (fun _ k => XS.sipush X0.here hx rfl (hb hby d5_34) k) ?_
  refine own_by (T' := s₁) (g' := (mkF m 48 #[.val (.int (31 : Int32)), .val (.int (31 : Int32))] [])) (fun _ k => XS.icmpYes X0.here hx rfl (pc0 := 37) (pc' := 48) rfl (hb hby d5_37) rfl (tlt (by decide)).1 (by decide) (by decide) k) ?_
  refine own_by (T' := s₁) (g' := (mkF m 49 #[.val (.int (31 : Int32)), .val (.int (31 : Int32))] [(.int (31 : Int32))])) (fun _ k => XS.iloadN X0.here hx rfl (hb hby d5_48) rfl k) ?_
  refine own_by (T' := s₁) (g' := (mkF m 51 #[.val (.int (31 : Int32)), .val (.int (31 : Int32))] [(.int (16 : Int32)), (.int (31 : Int32))])) (fun _ k => XS.bipush X0.here hx rfl (hb hby d5_49) k) ?_
  refine own_by (T' := s₁) (g' := (mkF m 54 #[.val (.int (31 : Int32)), .val (.int (31 : Int32))] [])) (fun _ k => XS.icmpNo X0.here hx rfl (hb hby d5_51) rfl (flt (by decide)).1 k) ?_
  refine own_by (T' := s₁) (g' := (mkF m 57 #[.val (.int (31 : Int32)), .val (.int (27 : Int32))] [])) (fun _ k => XS.iinc X0.here hx rfl (hb hby d5_54) rfl (l' := #[.val (.int (31 : Int32)), .val (.int (27 : Int32))]) rfl k) ?_
  refine own_by (T' := s₁) (g' := (mkF m 58 #[.val (.int (31 : Int32)), .val (.int (27 : Int32))] [(.int (31 : Int32))])) (fun _ k => XS.iloadN X0.here hx rfl (hb hby d5_57) rfl k) ?_
  refine own_by (T' := s₁) (g' := (mkF m 59 #[.val (.int (31 : Int32)), .val (.int (27 : Int32))] [(.int (4 : Int32)), (.int (31 : Int32))])) (fun _ k => XS.iconst X0.here hx rfl (hb hby d5_58) k) ?_
  refine own_by (T' := s₁) (g' := (mkF m 60 #[.val (.int (31 : Int32)), .val (.int (27 : Int32))] [(.int (1 : Int32))])) (fun _ k => XS.iushr X0.here hx rfl (hb hby d5_59) rfl k) ?_
  refine own_by (T' := s₁) (g' := (mkF m 61 #[.val (.int (1 : Int32)), .val (.int (27 : Int32))] [])) (fun _ k => XS.istoreN X0.here hx rfl (hb hby d5_60) rfl (l' := #[.val (.int (1 : Int32)), .val (.int (27 : Int32))]) rfl k) ?_
  refine own_by (T' := s₁) (g' := (mkF m 62 #[.val (.int (1 : Int32)), .val (.int (27 : Int32))] [(.int (1 : Int32))])) (fun _ k => XS.iloadN X0.here hx rfl (hb hby d5_61) rfl k) ?_
  refine own_by (T' := s₁) (g' := (mkF m 63 #[.val (.int (1 : Int32)), .val (.int (27 : Int32))] [(.int (4 : Int32)), (.int (1 : Int32))])) (fun _ k => XS.iconst X0.here hx rfl (hb hby d5_62) k) ?_
  refine own_by (T' := s₁) (g' := (mkF m 73 #[.val (.int (1 : Int32)), .val (.int (27 : Int32))] [])) (fun _ k => XS.icmpYes X0.here hx rfl (pc0 := 63) (pc' := 73) rfl (hb hby d5_63) rfl (tlt (by decide)).1 (by decide) (by decide) k) ?_
  refine own_by (T' := s₁) (g' := (mkF m 74 #[.val (.int (1 : Int32)), .val (.int (27 : Int32))] [(.int (27 : Int32))])) (fun _ k => XS.iloadN X0.here hx rfl (hb hby d5_73) rfl k) ?_
  refine own_by (T' := s₁) (g' := (mkF m 75 #[.val (.int (1 : Int32)), .val (.int (27 : Int32))] [(.int (1 : Int32)), (.int (27 : Int32))])) (fun _ k => XS.iloadN X0.here hx rfl (hb hby d5_74) rfl k) ?_
  refine own_by (T' := s₁) (g' := (mkF m 76 #[.val (.int (1 : Int32)), .val (.int (27 : Int32))] [(.int (1 : Int32)), (.int (1 : Int32)), (.int (27 : Int32))])) (fun _ k => XS.iconst X0.here hx rfl (hb hby d5_75) k) ?_
  refine own_by (T' := s₁) (g' := (mkF m 77 #[.val (.int (1 : Int32)), .val (.int (27 : Int32))] [(.int (0 : Int32)), (.int (27 : Int32))])) (fun _ k => XS.iushr X0.here hx rfl (hb hby d5_76) rfl k) ?_
  refine own_by (T' := s₁) (g' := (mkF m 78 #[.val (.int (1 : Int32)), .val (.int (27 : Int32))] [(.int (27 : Int32))])) (fun _ k => XS.isub X0.here hx rfl (hb hby d5_77) rfl k) ?_
  refine own_ret X0 hlk (v := some (.int (27 : Int32))) (fun h => by rw [Bd.returns] at h; cases h) (fun fs hr => retI X0 hx Bd.returns (hb hby d5_78) hr) ?_ (by decide) (by decide)
  rw [e0]
  exact ⟨rfl, N0, rfl⟩
theorem ef_hob_31 (m : MethodId)  : entryFrame m #[(.int (31 : Int32))] 1 = mkF m 0 #[.val (.int (31 : Int32))] [] := by first | (simp [entryFrame, mkF, argsToLocals, Value.category]; done) | rfl
def Q_hob_31 (Z : State)  (h0 : Heap) (n0 : Nat) (v : Option Value) (h : Heap) (L : List Loc) : Prop := v = some (.int (16 : Int32)) ∧ Fr n0 L ∧ h = h0
set_option maxRecDepth 65536 in
set_option maxHeartbeats 40000000 in
theorem hob_31 (l : Launch) (Z : State) (a0 : Array Value) (hw : ∀ d ∈ tables_1, d.before a0 Z = true) (ws : List Jvm.Cond)  (h0 : Heap) (n0 : Nat) (Z0 : n0 ≤ h0.size) :
    MetFree l (⟨"java/lang/Integer", "highestOneBit", "(I)I"⟩ : MethodName) (head1 (Jvm.Cond.code (⟨"java/lang/Integer", "highestOneBit", "(I)I"⟩ : MethodName) jdk_33_method_45_code 1 (some .int) :: ws) ({ frames := 1, cells := 0, slots := 0, locals := 15 } : Room)) (fun zz UU => zz = #[(.int (31 : Int32))] ∧ Z.Warmed39 UU.vm ∧ UU.heap = h0) (fun _ _ _ _ _ => True) (fun _ U o U' => ∃ v L, o = .returned v ∧ Q_hob_31 Z  h0 n0 v U'.heap L ∧ FrameEnd U o U' L ({ frames := 1, cells := 0, slots := 0, locals := 15 } : Room).cells ({ frames := 1, cells := 0, slots := 0, locals := 15 } : Room).slots) := by
  refine MetFree.of_bodySF (plainFor_of_name pn_4) hisR ?_
  intro p e s m args below meth c s₁ Bd hml0 hP hK
  obtain ⟨rfl, hZ, hh⟩ := hP
  have hx := Bd.exec
  have hby := Bd.bytes
  have hml : c.maxLocals = 1 := hml0
  have hown : s.vm.findClass "java/lang/Integer" = some m.cls := findClass_of_methodNamed Bd.named
  have hnm := (name_of_methodNamed Bd.named Bd.method).1
  have hlk : meth.locks = false := BodyLoose.notSynchronized Bd
  have X0 : Stand p l e ({ frames := 1, cells := 0, slots := 0, locals := 15 } : Room) s m #[(.int (31 : Int32))] below meth c s₁ [] 0 0 := Stand.of_body Bd
  have e0 : s₁.heap = h0 := by rw [← hh, Bd.state]; rfl
  have N0 := Fr.nil n0
  show own_Go p.tables e below (Q_hob_31 Z h0 n0) s ({ frames := 1, cells := 0, slots := 0, locals := 15 } : Room).cells ({ frames := 1, cells := 0, slots := 0, locals := 15 } : Room).slots s₁ (entryFrame m #[(.int (31 : Int32))] 1)
  rw [ef_hob_31 m ]
  refine own_by (T' := s₁) (g' := (mkF m 1 #[.val (.int (31 : Int32))] [(.int (31 : Int32))])) (fun _ k => XS.iloadN X0.here hx rfl (hb hby d4_0) rfl k) ?_
  refine own_by (T' := s₁) (g' := (mkF m 3 #[.val (.int (31 : Int32))] [(.int (-2147483648 : Int32)), (.int (31 : Int32))])) (fun _ k => ldcI X0 hx hown (mvT hZ (hw _ (List.mem_of_getElem? (i := 23) rfl))) rfl (hb hby d4_1) k) ?_
  refine own_by (T' := s₁) (g' := (mkF m 4 #[.val (.int (31 : Int32))] [(.int (31 : Int32)), (.int (-2147483648 : Int32)), (.int (31 : Int32))])) (fun _ k => XS.iloadN X0.here hx rfl (hb hby d4_3) rfl k) ?_
  obtain ⟨_, _, ⟨T21, L21, k21, n21⟩, -, X21, ⟨Lc21, hQ21, l21, y21, z21⟩, st21⟩ := Jvm.LawKit.callS X0 hx (y := (⟨"java/lang/Integer", "numberOfLeadingZeros", "(I)I"⟩ : MethodName)) hown (mvT hZ (hw _ (List.mem_of_getElem? (i := 24) rfl))) (mvT hZ (hw _ (List.mem_of_getElem? (i := 25) rfl))) (mvT hZ (hw _ (List.mem_of_getElem? (i := 21) rfl))) (mvT hZ (hw _ (List.mem_of_getElem? (i := 26) rfl))) (by decide) (backOf (W := 2) (nlz_31 l Z a0 hw []   h0 n0 Z0 ) hZ (hw _ (List.mem_of_getElem? (i := 26) rfl)) (hw _ (List.mem_of_getElem? (i := 21) rfl)) (by decide) (by decide)) (g := (mkF m 4 #[.val (.int (31 : Int32))] [(.int (31 : Int32)), (.int (-2147483648 : Int32)), (.int (31 : Int32))])) rfl (by rw [hml]; rfl) (argsL := [(.int (31 : Int32))]) (rest := [(.int (-2147483648 : Int32)), (.int (31 : Int32))]) (lenOf pd_0 rfl) rfl (by show 2 * 0 + _ ≤ _; exact Nat.le_of_eq rfl) (hb hby d4_4) (fun _ _ => ⟨rfl, e0, (by decide : 0 + 0 ≤ _), (by decide : 0 + 0 ≤ _)⟩)
  dsimp only [Pt.U, Pt.locs, Pt.cells, Pt.slots] at X21 l21 y21 z21 st21 hQ21
  subst l21 y21 z21
  obtain ⟨rfl, N21q, e21⟩ := hQ21
  have N21 := Fr.app N0 N21q
  refine own_by (T' := T21) (g' := (mkF m 7 #[.val (.int (31 : Int32))] [(.int (27 : Int32)), (.int (-2147483648 : Int32)), (.int (31 : Int32))])) (fun _ k => st21 _ k) ?_
  refine own_by (T' := T21) (g' := (mkF m 8 #[.val (.int (31 : Int32))] [(.int (16 : Int32)), (.int (31 : Int32))])) (fun _ k => XS.iushr X21.here hx rfl (hb hby d4_7) rfl k) ?_
  refine own_by (T' := T21) (g' := (mkF m 9 #[.val (.int (31 : Int32))] [(.int (16 : Int32))])) (fun _ k => XS.iand X21.here hx rfl (hb hby d4_8) rfl k) ?_
  refine own_ret X21 hlk (v := some (.int (16 : Int32))) (fun h => by rw [Bd.returns] at h; cases h) (fun fs hr => retI X21 hx Bd.returns (hb hby d4_9) hr) ?_ (by decide) (by decide)
  rw [e21]
  exact ⟨rfl, N21, rfl⟩
theorem ef_bit_31 (m : MethodId) (a : Addr) : entryFrame m #[(.ref a)] 1 = mkF m 0 #[.val (.ref a)] [] := by first | (simp [entryFrame, mkF, argsToLocals, Value.category]; done) | rfl
def Q_bit_31 (Z : State) (a : Addr) (h0 : Heap) (n0 : Nat) (v : Option Value) (h : Heap) (L : List Loc) : Prop := v = some (.int (16 : Int32)) ∧ Fr n0 L ∧ h = h0
set_option maxRecDepth 65536 in
set_option maxHeartbeats 40000000 in
theorem bit_31 (l : Launch) (Z : State) (a0 : Array Value) (hw : ∀ d ∈ tables_1, d.before a0 Z = true) (ws : List Jvm.Cond) (a : Addr) (h0 : Heap) (n0 : Nat) (Z0 : n0 ≤ h0.size) (F_code_a : Fld Z h0 a "com/example/nisaba/nisaba/item/Permission" "code" "I" (.int (31 : Int32))) :
    MetFree l (⟨"com/example/nisaba/nisaba/item/Permission", "bit", "()I"⟩ : MethodName) (head1 (Jvm.Cond.code (⟨"com/example/nisaba/nisaba/item/Permission", "bit", "()I"⟩ : MethodName) prog_27_method_10_code 1 (some .int) :: ws) ({ frames := 2, cells := 0, slots := 0, locals := 27 } : Room)) (fun zz UU => zz = #[(.ref a)] ∧ Z.Warmed39 UU.vm ∧ UU.heap = h0) (fun _ _ _ _ _ => True) (fun _ U o U' => ∃ v L, o = .returned v ∧ Q_bit_31 Z a h0 n0 v U'.heap L ∧ FrameEnd U o U' L ({ frames := 2, cells := 0, slots := 0, locals := 27 } : Room).cells ({ frames := 2, cells := 0, slots := 0, locals := 27 } : Room).slots) := by
  refine MetFree.of_bodySF (plainFor_of_name pn_3) hisR ?_
  intro p e s m args below meth c s₁ Bd hml0 hP hK
  obtain ⟨rfl, hZ, hh⟩ := hP
  have hx := Bd.exec
  have hby := Bd.bytes
  have hml : c.maxLocals = 1 := hml0
  have hown : s.vm.findClass "com/example/nisaba/nisaba/item/Permission" = some m.cls := findClass_of_methodNamed Bd.named
  have hnm := (name_of_methodNamed Bd.named Bd.method).1
  have hlk : meth.locks = false := BodyLoose.notSynchronized Bd
  have X0 : Stand p l e ({ frames := 2, cells := 0, slots := 0, locals := 27 } : Room) s m #[(.ref a)] below meth c s₁ [] 0 0 := Stand.of_body Bd
  have e0 : s₁.heap = h0 := by rw [← hh, Bd.state]; rfl
  have N0 := Fr.nil n0
  show own_Go p.tables e below (Q_bit_31 Z a h0 n0) s ({ frames := 2, cells := 0, slots := 0, locals := 27 } : Room).cells ({ frames := 2, cells := 0, slots := 0, locals := 27 } : Room).slots s₁ (entryFrame m #[(.ref a)] 1)
  rw [ef_bit_31 m a]
  refine own_by (T' := s₁) (g' := (mkF m 1 #[.val (.ref a)] [(.ref a)])) (fun _ k => XS.aloadN X0.here hx rfl (hb hby d3_0) rfl rfl k) ?_
  obtain ⟨T21, X21, e21, st21⟩ := getF X0 hx hZ hown (host := "") (Or.inl (hw _ (List.mem_of_getElem? (i := 17) rfl))) Via.refl e0 F_code_a (g := (mkF m 1 #[.val (.ref a)] [(.ref a)])) rfl rfl (hb hby d3_1)
  refine own_by (T' := T21) (g' := (mkF m 4 #[.val (.ref a)] [(.int (31 : Int32))])) (fun _ k => st21 _ k) ?_
  obtain ⟨_, _, ⟨T22, L22, k22, n22⟩, -, X22, ⟨Lc22, hQ22, l22, y22, z22⟩, st22⟩ := Jvm.LawKit.callS X21 hx (y := (⟨"java/lang/Integer", "highestOneBit", "(I)I"⟩ : MethodName)) hown (mvT hZ (hw _ (List.mem_of_getElem? (i := 19) rfl))) (mvT hZ (hw _ (List.mem_of_getElem? (i := 20) rfl))) (mvT hZ (hw _ (List.mem_of_getElem? (i := 21) rfl))) (mvT hZ (hw _ (List.mem_of_getElem? (i := 22) rfl))) (by decide) (backOf (W := 0) (hob_31 l Z a0 hw []   h0 n0 Z0 ) hZ (hw _ (List.mem_of_getElem? (i := 22) rfl)) (hw _ (List.mem_of_getElem? (i := 21) rfl)) (by decide) (by decide)) (g := (mkF m 4 #[.val (.ref a)] [(.int (31 : Int32))])) rfl (by rw [hml]; rfl) (argsL := [(.int (31 : Int32))]) (rest := []) (lenOf pd_0 rfl) rfl (by show 2 * 0 + _ ≤ _; exact Nat.le_of_eq rfl) (hb hby d3_4) (fun _ _ => ⟨rfl, e21, (by decide : 0 + 0 ≤ _), (by decide : 0 + 0 ≤ _)⟩)
  dsimp only [Pt.U, Pt.locs, Pt.cells, Pt.slots] at X22 l22 y22 z22 st22 hQ22
  subst l22 y22 z22
  obtain ⟨rfl, N22q, e22⟩ := hQ22
  have N22 := Fr.app N0 N22q
  refine own_by (T' := T22) (g' := (mkF m 7 #[.val (.ref a)] [(.int (16 : Int32))])) (fun _ k => st22 _ k) ?_
  refine own_ret X22 hlk (v := some (.int (16 : Int32))) (fun h => by rw [Bd.returns] at h; cases h) (fun fs hr => retI X22 hx Bd.returns (hb hby d3_7) hr) ?_ (by decide) (by decide)
  rw [e22]
  exact ⟨rfl, N22, rfl⟩
theorem ef_nlz_47 (m : MethodId)  : entryFrame m #[(.int (47 : Int32))] 2 = mkF m 0 #[.val (.int (47 : Int32)), .unset] [] := by first | (simp [entryFrame, mkF, argsToLocals, Value.category]; done) | rfl
def Q_nlz_47 (Z : State)  (h0 : Heap) (n0 : Nat) (v : Option Value) (h : Heap) (L : List Loc) : Prop := v = some (.int (26 : Int32)) ∧ Fr n0 L ∧ h = h0
set_option maxRecDepth 65536 in
set_option maxHeartbeats 40000000 in
theorem nlz_47 (l : Launch) (Z : State) (a0 : Array Value) (hw : ∀ d ∈ tables_1, d.before a0 Z = true) (ws : List Jvm.Cond)  (h0 : Heap) (n0 : Nat) (Z0 : n0 ≤ h0.size) :
    MetFree l (⟨"java/lang/Integer", "numberOfLeadingZeros", "(I)I"⟩ : MethodName) (head1 (Jvm.Cond.code (⟨"java/lang/Integer", "numberOfLeadingZeros", "(I)I"⟩ : MethodName) jdk_33_method_47_code 2 (some .int) :: ws) ({ frames := 0, cells := 0, slots := 0, locals := 0 } : Room)) (fun zz UU => zz = #[(.int (47 : Int32))] ∧ Z.Warmed39 UU.vm ∧ UU.heap = h0) (fun _ _ _ _ _ => True) (fun _ U o U' => ∃ v L, o = .returned v ∧ Q_nlz_47 Z  h0 n0 v U'.heap L ∧ FrameEnd U o U' L ({ frames := 0, cells := 0, slots := 0, locals := 0 } : Room).cells ({ frames := 0, cells := 0, slots := 0, locals := 0 } : Room).slots) := by
  refine MetFree.of_bodySF (plainFor_of_name pn_5) hisR ?_
  intro p e s m args below meth c s₁ Bd hml0 hP hK
  obtain ⟨rfl, hZ, hh⟩ := hP
  have hx := Bd.exec
  have hby := Bd.bytes
  have hml : c.maxLocals = 2 := hml0
  have hown : s.vm.findClass "java/lang/Integer" = some m.cls := findClass_of_methodNamed Bd.named
  have hnm := (name_of_methodNamed Bd.named Bd.method).1
  have hlk : meth.locks = false := BodyLoose.notSynchronized Bd
  have X0 : Stand p l e ({ frames := 0, cells := 0, slots := 0, locals := 0 } : Room) s m #[(.int (47 : Int32))] below meth c s₁ [] 0 0 := Stand.of_body Bd
  have e0 : s₁.heap = h0 := by rw [← hh, Bd.state]; rfl
  have N0 := Fr.nil n0
  show own_Go p.tables e below (Q_nlz_47 Z h0 n0) s ({ frames := 0, cells := 0, slots := 0, locals := 0 } : Room).cells ({ frames := 0, cells := 0, slots := 0, locals := 0 } : Room).slots s₁ (entryFrame m #[(.int (47 : Int32))] 2)
  rw [ef_nlz_47 m ]
  refine own_by (T' := s₁) (g' := (mkF m 1 #[.val (.int (47 : Int32)), .unset] [(.int (47 : Int32))])) (fun _ k => XS.iloadN X0.here hx rfl (hb hby d5_0) rfl k) ?_
  refine own_by (T' := s₁) (g' := (mkF m 15 #[.val (.int (47 : Int32)), .unset] [])) (fun _ k => XS.ifYes X0.here hx rfl (pc0 := 1) (pc' := 15) rfl (hb hby d5_1) rfl ((if0 _ _).trans (tlt (by decide)).2.2.1) (by decide) (by decide) k) ?_
  refine own_by (T' := s₁) (g' := (mkF m 17 #[.val (.int (47 : Int32)), .unset] [(.int (31 : Int32))])) (fun _ k => XS.bipush X0.here hx rfl (hb hby d5_15) k) ?_
  refine own_by (T' := s₁) (g' := (mkF m 18 #[.val (.int (47 : Int32)), .val (.int (31 : Int32))] [])) (fun _ k => XS.istoreN X0.here hx rfl (hb hby d5_17) rfl (l' := #[.val (.int (47 : Int32)), .val (.int (31 : Int32))]) rfl k) ?_
  refine own_by (T' := s₁) (g' := (mkF m 19 #[.val (.int (47 : Int32)), .val (.int (31 : Int32))] [(.int (47 : Int32))])) (fun _ k => XS.iloadN X0.here hx rfl (hb hby d5_18) rfl k) ?_
  refine own_by (T' := s₁) (g' := (mkF m 22 #[.val (.int (47 : Int32)), .val (.int (31 : Int32))] [(.int (65536 : Int32)), (.int (47 : Int32))])) (fun _ k => ldcWI X0 hx hown (mvT hZ (hw _ (List.mem_of_getElem? (i := 27) rfl))) rfl (hb hby d5_19) k) ?_
  refine own_by (T' := s₁) (g' := (mkF m 33 #[.val (.int (47 : Int32)), .val (.int (31 : Int32))] [])) (fun _ k => XS.icmpYes X0.here hx rfl (pc0 := 22) (pc' := 33) rfl (hb hby d5_22) rfl (tlt (by decide)).1 (by decide) (by decide) k) ?_
  refine own_by (T' := s₁) (g' := (mkF m 34 #[.val (.int (47 : Int32)), .val (.int (31 : Int32))] [(.int (47 : Int32))])) (fun _ k => XS.iloadN X0.here hx rfl (hb hby d5_33) rfl k) ?_
  refine own_by (T' := s₁) (g' := (mkF m 37 #[.val (.int (47 : Int32)), .val (.int (31 : Int32))] [(.int (256 : Int32)), (.int (47 : Int32))])) (fun _ k => XS.sipush X0.here hx rfl (hb hby d5_34) k) ?_
  refine own_by (T' := s₁) (g' := (mkF m 48 #[.val (.int (47 : Int32)), .val (.int (31 : Int32))] [])) (fun _ k => XS.icmpYes X0.here hx rfl (pc0 := 37) (pc' := 48) rfl (hb hby d5_37) rfl (tlt (by decide)).1 (by decide) (by decide) k) ?_
  refine own_by (T' := s₁) (g' := (mkF m 49 #[.val (.int (47 : Int32)), .val (.int (31 : Int32))] [(.int (47 : Int32))])) (fun _ k => XS.iloadN X0.here hx rfl (hb hby d5_48) rfl k) ?_
  refine own_by (T' := s₁) (g' := (mkF m 51 #[.val (.int (47 : Int32)), .val (.int (31 : Int32))] [(.int (16 : Int32)), (.int (47 : Int32))])) (fun _ k => XS.bipush X0.here hx rfl (hb hby d5_49) k) ?_
  refine own_by (T' := s₁) (g' := (mkF m 54 #[.val (.int (47 : Int32)), .val (.int (31 : Int32))] [])) (fun _ k => XS.icmpNo X0.here hx rfl (hb hby d5_51) rfl (flt (by decide)).1 k) ?_
  refine own_by (T' := s₁) (g' := (mkF m 57 #[.val (.int (47 : Int32)), .val (.int (27 : Int32))] [])) (fun _ k => XS.iinc X0.here hx rfl (hb hby d5_54) rfl (l' := #[.val (.int (47 : Int32)), .val (.int (27 : Int32))]) rfl k) ?_
  refine own_by (T' := s₁) (g' := (mkF m 58 #[.val (.int (47 : Int32)), .val (.int (27 : Int32))] [(.int (47 : Int32))])) (fun _ k => XS.iloadN X0.here hx rfl (hb hby d5_57) rfl k) ?_
  refine own_by (T' := s₁) (g' := (mkF m 59 #[.val (.int (47 : Int32)), .val (.int (27 : Int32))] [(.int (4 : Int32)), (.int (47 : Int32))])) (fun _ k => XS.iconst X0.here hx rfl (hb hby d5_58) k) ?_
  refine own_by (T' := s₁) (g' := (mkF m 60 #[.val (.int (47 : Int32)), .val (.int (27 : Int32))] [(.int (2 : Int32))])) (fun _ k => XS.iushr X0.here hx rfl (hb hby d5_59) rfl k) ?_
  refine own_by (T' := s₁) (g' := (mkF m 61 #[.val (.int (2 : Int32)), .val (.int (27 : Int32))] [])) (fun _ k => XS.istoreN X0.here hx rfl (hb hby d5_60) rfl (l' := #[.val (.int (2 : Int32)), .val (.int (27 : Int32))]) rfl k) ?_
  refine own_by (T' := s₁) (g' := (mkF m 62 #[.val (.int (2 : Int32)), .val (.int (27 : Int32))] [(.int (2 : Int32))])) (fun _ k => XS.iloadN X0.here hx rfl (hb hby d5_61) rfl k) ?_
  refine own_by (T' := s₁) (g' := (mkF m 63 #[.val (.int (2 : Int32)), .val (.int (27 : Int32))] [(.int (4 : Int32)), (.int (2 : Int32))])) (fun _ k => XS.iconst X0.here hx rfl (hb hby d5_62) k) ?_
  refine own_by (T' := s₁) (g' := (mkF m 73 #[.val (.int (2 : Int32)), .val (.int (27 : Int32))] [])) (fun _ k => XS.icmpYes X0.here hx rfl (pc0 := 63) (pc' := 73) rfl (hb hby d5_63) rfl (tlt (by decide)).1 (by decide) (by decide) k) ?_
  refine own_by (T' := s₁) (g' := (mkF m 74 #[.val (.int (2 : Int32)), .val (.int (27 : Int32))] [(.int (27 : Int32))])) (fun _ k => XS.iloadN X0.here hx rfl (hb hby d5_73) rfl k) ?_
  refine own_by (T' := s₁) (g' := (mkF m 75 #[.val (.int (2 : Int32)), .val (.int (27 : Int32))] [(.int (2 : Int32)), (.int (27 : Int32))])) (fun _ k => XS.iloadN X0.here hx rfl (hb hby d5_74) rfl k) ?_
  refine own_by (T' := s₁) (g' := (mkF m 76 #[.val (.int (2 : Int32)), .val (.int (27 : Int32))] [(.int (1 : Int32)), (.int (2 : Int32)), (.int (27 : Int32))])) (fun _ k => XS.iconst X0.here hx rfl (hb hby d5_75) k) ?_
  refine own_by (T' := s₁) (g' := (mkF m 77 #[.val (.int (2 : Int32)), .val (.int (27 : Int32))] [(.int (1 : Int32)), (.int (27 : Int32))])) (fun _ k => XS.iushr X0.here hx rfl (hb hby d5_76) rfl k) ?_
  refine own_by (T' := s₁) (g' := (mkF m 78 #[.val (.int (2 : Int32)), .val (.int (27 : Int32))] [(.int (26 : Int32))])) (fun _ k => XS.isub X0.here hx rfl (hb hby d5_77) rfl k) ?_
  refine own_ret X0 hlk (v := some (.int (26 : Int32))) (fun h => by rw [Bd.returns] at h; cases h) (fun fs hr => retI X0 hx Bd.returns (hb hby d5_78) hr) ?_ (by decide) (by decide)
  rw [e0]
  exact ⟨rfl, N0, rfl⟩
theorem ef_hob_47 (m : MethodId)  : entryFrame m #[(.int (47 : Int32))] 1 = mkF m 0 #[.val (.int (47 : Int32))] [] := by first | (simp [entryFrame, mkF, argsToLocals, Value.category]; done) | rfl
def Q_hob_47 (Z : State)  (h0 : Heap) (n0 : Nat) (v : Option Value) (h : Heap) (L : List Loc) : Prop := v = some (.int (32 : Int32)) ∧ Fr n0 L ∧ h = h0
set_option maxRecDepth 65536 in
set_option maxHeartbeats 40000000 in
theorem hob_47 (l : Launch) (Z : State) (a0 : Array Value) (hw : ∀ d ∈ tables_1, d.before a0 Z = true) (ws : List Jvm.Cond)  (h0 : Heap) (n0 : Nat) (Z0 : n0 ≤ h0.size) :
    MetFree l (⟨"java/lang/Integer", "highestOneBit", "(I)I"⟩ : MethodName) (head1 (Jvm.Cond.code (⟨"java/lang/Integer", "highestOneBit", "(I)I"⟩ : MethodName) jdk_33_method_45_code 1 (some .int) :: ws) ({ frames := 1, cells := 0, slots := 0, locals := 15 } : Room)) (fun zz UU => zz = #[(.int (47 : Int32))] ∧ Z.Warmed39 UU.vm ∧ UU.heap = h0) (fun _ _ _ _ _ => True) (fun _ U o U' => ∃ v L, o = .returned v ∧ Q_hob_47 Z  h0 n0 v U'.heap L ∧ FrameEnd U o U' L ({ frames := 1, cells := 0, slots := 0, locals := 15 } : Room).cells ({ frames := 1, cells := 0, slots := 0, locals := 15 } : Room).slots) := by
  refine MetFree.of_bodySF (plainFor_of_name pn_4) hisR ?_
  intro p e s m args below meth c s₁ Bd hml0 hP hK
  obtain ⟨rfl, hZ, hh⟩ := hP
  have hx := Bd.exec
  have hby := Bd.bytes
  have hml : c.maxLocals = 1 := hml0
  have hown : s.vm.findClass "java/lang/Integer" = some m.cls := findClass_of_methodNamed Bd.named
  have hnm := (name_of_methodNamed Bd.named Bd.method).1
  have hlk : meth.locks = false := BodyLoose.notSynchronized Bd
  have X0 : Stand p l e ({ frames := 1, cells := 0, slots := 0, locals := 15 } : Room) s m #[(.int (47 : Int32))] below meth c s₁ [] 0 0 := Stand.of_body Bd
  have e0 : s₁.heap = h0 := by rw [← hh, Bd.state]; rfl
  have N0 := Fr.nil n0
  show own_Go p.tables e below (Q_hob_47 Z h0 n0) s ({ frames := 1, cells := 0, slots := 0, locals := 15 } : Room).cells ({ frames := 1, cells := 0, slots := 0, locals := 15 } : Room).slots s₁ (entryFrame m #[(.int (47 : Int32))] 1)
  rw [ef_hob_47 m ]
  refine own_by (T' := s₁) (g' := (mkF m 1 #[.val (.int (47 : Int32))] [(.int (47 : Int32))])) (fun _ k => XS.iloadN X0.here hx rfl (hb hby d4_0) rfl k) ?_
  refine own_by (T' := s₁) (g' := (mkF m 3 #[.val (.int (47 : Int32))] [(.int (-2147483648 : Int32)), (.int (47 : Int32))])) (fun _ k => ldcI X0 hx hown (mvT hZ (hw _ (List.mem_of_getElem? (i := 23) rfl))) rfl (hb hby d4_1) k) ?_
  refine own_by (T' := s₁) (g' := (mkF m 4 #[.val (.int (47 : Int32))] [(.int (47 : Int32)), (.int (-2147483648 : Int32)), (.int (47 : Int32))])) (fun _ k => XS.iloadN X0.here hx rfl (hb hby d4_3) rfl k) ?_
  obtain ⟨_, _, ⟨T21, L21, k21, n21⟩, -, X21, ⟨Lc21, hQ21, l21, y21, z21⟩, st21⟩ := Jvm.LawKit.callS X0 hx (y := (⟨"java/lang/Integer", "numberOfLeadingZeros", "(I)I"⟩ : MethodName)) hown (mvT hZ (hw _ (List.mem_of_getElem? (i := 24) rfl))) (mvT hZ (hw _ (List.mem_of_getElem? (i := 25) rfl))) (mvT hZ (hw _ (List.mem_of_getElem? (i := 21) rfl))) (mvT hZ (hw _ (List.mem_of_getElem? (i := 26) rfl))) (by decide) (backOf (W := 2) (nlz_47 l Z a0 hw []   h0 n0 Z0 ) hZ (hw _ (List.mem_of_getElem? (i := 26) rfl)) (hw _ (List.mem_of_getElem? (i := 21) rfl)) (by decide) (by decide)) (g := (mkF m 4 #[.val (.int (47 : Int32))] [(.int (47 : Int32)), (.int (-2147483648 : Int32)), (.int (47 : Int32))])) rfl (by rw [hml]; rfl) (argsL := [(.int (47 : Int32))]) (rest := [(.int (-2147483648 : Int32)), (.int (47 : Int32))]) (lenOf pd_0 rfl) rfl (by show 2 * 0 + _ ≤ _; exact Nat.le_of_eq rfl) (hb hby d4_4) (fun _ _ => ⟨rfl, e0, (by decide : 0 + 0 ≤ _), (by decide : 0 + 0 ≤ _)⟩)
  dsimp only [Pt.U, Pt.locs, Pt.cells, Pt.slots] at X21 l21 y21 z21 st21 hQ21
  subst l21 y21 z21
  obtain ⟨rfl, N21q, e21⟩ := hQ21
  have N21 := Fr.app N0 N21q
  refine own_by (T' := T21) (g' := (mkF m 7 #[.val (.int (47 : Int32))] [(.int (26 : Int32)), (.int (-2147483648 : Int32)), (.int (47 : Int32))])) (fun _ k => st21 _ k) ?_
  refine own_by (T' := T21) (g' := (mkF m 8 #[.val (.int (47 : Int32))] [(.int (32 : Int32)), (.int (47 : Int32))])) (fun _ k => XS.iushr X21.here hx rfl (hb hby d4_7) rfl k) ?_
  refine own_by (T' := T21) (g' := (mkF m 9 #[.val (.int (47 : Int32))] [(.int (32 : Int32))])) (fun _ k => XS.iand X21.here hx rfl (hb hby d4_8) rfl k) ?_
  refine own_ret X21 hlk (v := some (.int (32 : Int32))) (fun h => by rw [Bd.returns] at h; cases h) (fun fs hr => retI X21 hx Bd.returns (hb hby d4_9) hr) ?_ (by decide) (by decide)
  rw [e21]
  exact ⟨rfl, N21, rfl⟩
theorem ef_bit_47 (m : MethodId) (a : Addr) : entryFrame m #[(.ref a)] 1 = mkF m 0 #[.val (.ref a)] [] := by first | (simp [entryFrame, mkF, argsToLocals, Value.category]; done) | rfl
def Q_bit_47 (Z : State) (a : Addr) (h0 : Heap) (n0 : Nat) (v : Option Value) (h : Heap) (L : List Loc) : Prop := v = some (.int (32 : Int32)) ∧ Fr n0 L ∧ h = h0
set_option maxRecDepth 65536 in
set_option maxHeartbeats 40000000 in
theorem bit_47 (l : Launch) (Z : State) (a0 : Array Value) (hw : ∀ d ∈ tables_1, d.before a0 Z = true) (ws : List Jvm.Cond) (a : Addr) (h0 : Heap) (n0 : Nat) (Z0 : n0 ≤ h0.size) (F_code_a : Fld Z h0 a "com/example/nisaba/nisaba/item/Permission" "code" "I" (.int (47 : Int32))) :
    MetFree l (⟨"com/example/nisaba/nisaba/item/Permission", "bit", "()I"⟩ : MethodName) (head1 (Jvm.Cond.code (⟨"com/example/nisaba/nisaba/item/Permission", "bit", "()I"⟩ : MethodName) prog_27_method_10_code 1 (some .int) :: ws) ({ frames := 2, cells := 0, slots := 0, locals := 27 } : Room)) (fun zz UU => zz = #[(.ref a)] ∧ Z.Warmed39 UU.vm ∧ UU.heap = h0) (fun _ _ _ _ _ => True) (fun _ U o U' => ∃ v L, o = .returned v ∧ Q_bit_47 Z a h0 n0 v U'.heap L ∧ FrameEnd U o U' L ({ frames := 2, cells := 0, slots := 0, locals := 27 } : Room).cells ({ frames := 2, cells := 0, slots := 0, locals := 27 } : Room).slots) := by
  refine MetFree.of_bodySF (plainFor_of_name pn_3) hisR ?_
  intro p e s m args below meth c s₁ Bd hml0 hP hK
  obtain ⟨rfl, hZ, hh⟩ := hP
  have hx := Bd.exec
  have hby := Bd.bytes
  have hml : c.maxLocals = 1 := hml0
  have hown : s.vm.findClass "com/example/nisaba/nisaba/item/Permission" = some m.cls := findClass_of_methodNamed Bd.named
  have hnm := (name_of_methodNamed Bd.named Bd.method).1
  have hlk : meth.locks = false := BodyLoose.notSynchronized Bd
  have X0 : Stand p l e ({ frames := 2, cells := 0, slots := 0, locals := 27 } : Room) s m #[(.ref a)] below meth c s₁ [] 0 0 := Stand.of_body Bd
  have e0 : s₁.heap = h0 := by rw [← hh, Bd.state]; rfl
  have N0 := Fr.nil n0
  show own_Go p.tables e below (Q_bit_47 Z a h0 n0) s ({ frames := 2, cells := 0, slots := 0, locals := 27 } : Room).cells ({ frames := 2, cells := 0, slots := 0, locals := 27 } : Room).slots s₁ (entryFrame m #[(.ref a)] 1)
  rw [ef_bit_47 m a]
  refine own_by (T' := s₁) (g' := (mkF m 1 #[.val (.ref a)] [(.ref a)])) (fun _ k => XS.aloadN X0.here hx rfl (hb hby d3_0) rfl rfl k) ?_
  obtain ⟨T21, X21, e21, st21⟩ := getF X0 hx hZ hown (host := "") (Or.inl (hw _ (List.mem_of_getElem? (i := 17) rfl))) Via.refl e0 F_code_a (g := (mkF m 1 #[.val (.ref a)] [(.ref a)])) rfl rfl (hb hby d3_1)
  refine own_by (T' := T21) (g' := (mkF m 4 #[.val (.ref a)] [(.int (47 : Int32))])) (fun _ k => st21 _ k) ?_
  obtain ⟨_, _, ⟨T22, L22, k22, n22⟩, -, X22, ⟨Lc22, hQ22, l22, y22, z22⟩, st22⟩ := Jvm.LawKit.callS X21 hx (y := (⟨"java/lang/Integer", "highestOneBit", "(I)I"⟩ : MethodName)) hown (mvT hZ (hw _ (List.mem_of_getElem? (i := 19) rfl))) (mvT hZ (hw _ (List.mem_of_getElem? (i := 20) rfl))) (mvT hZ (hw _ (List.mem_of_getElem? (i := 21) rfl))) (mvT hZ (hw _ (List.mem_of_getElem? (i := 22) rfl))) (by decide) (backOf (W := 0) (hob_47 l Z a0 hw []   h0 n0 Z0 ) hZ (hw _ (List.mem_of_getElem? (i := 22) rfl)) (hw _ (List.mem_of_getElem? (i := 21) rfl)) (by decide) (by decide)) (g := (mkF m 4 #[.val (.ref a)] [(.int (47 : Int32))])) rfl (by rw [hml]; rfl) (argsL := [(.int (47 : Int32))]) (rest := []) (lenOf pd_0 rfl) rfl (by show 2 * 0 + _ ≤ _; exact Nat.le_of_eq rfl) (hb hby d3_4) (fun _ _ => ⟨rfl, e21, (by decide : 0 + 0 ≤ _), (by decide : 0 + 0 ≤ _)⟩)
  dsimp only [Pt.U, Pt.locs, Pt.cells, Pt.slots] at X22 l22 y22 z22 st22 hQ22
  subst l22 y22 z22
  obtain ⟨rfl, N22q, e22⟩ := hQ22
  have N22 := Fr.app N0 N22q
  refine own_by (T' := T22) (g' := (mkF m 7 #[.val (.ref a)] [(.int (32 : Int32))])) (fun _ k => st22 _ k) ?_
  refine own_ret X22 hlk (v := some (.int (32 : Int32))) (fun h => by rw [Bd.returns] at h; cases h) (fun fs hr => retI X22 hx Bd.returns (hb hby d3_7) hr) ?_ (by decide) (by decide)
  rw [e22]
  exact ⟨rfl, N22, rfl⟩
theorem ef_nlz_79 (m : MethodId)  : entryFrame m #[(.int (79 : Int32))] 2 = mkF m 0 #[.val (.int (79 : Int32)), .unset] [] := by first | (simp [entryFrame, mkF, argsToLocals, Value.category]; done) | rfl
def Q_nlz_79 (Z : State)  (h0 : Heap) (n0 : Nat) (v : Option Value) (h : Heap) (L : List Loc) : Prop := v = some (.int (25 : Int32)) ∧ Fr n0 L ∧ h = h0
set_option maxRecDepth 65536 in
set_option maxHeartbeats 40000000 in
theorem nlz_79 (l : Launch) (Z : State) (a0 : Array Value) (hw : ∀ d ∈ tables_1, d.before a0 Z = true) (ws : List Jvm.Cond)  (h0 : Heap) (n0 : Nat) (Z0 : n0 ≤ h0.size) :
    MetFree l (⟨"java/lang/Integer", "numberOfLeadingZeros", "(I)I"⟩ : MethodName) (head1 (Jvm.Cond.code (⟨"java/lang/Integer", "numberOfLeadingZeros", "(I)I"⟩ : MethodName) jdk_33_method_47_code 2 (some .int) :: ws) ({ frames := 0, cells := 0, slots := 0, locals := 0 } : Room)) (fun zz UU => zz = #[(.int (79 : Int32))] ∧ Z.Warmed39 UU.vm ∧ UU.heap = h0) (fun _ _ _ _ _ => True) (fun _ U o U' => ∃ v L, o = .returned v ∧ Q_nlz_79 Z  h0 n0 v U'.heap L ∧ FrameEnd U o U' L ({ frames := 0, cells := 0, slots := 0, locals := 0 } : Room).cells ({ frames := 0, cells := 0, slots := 0, locals := 0 } : Room).slots) := by
  refine MetFree.of_bodySF (plainFor_of_name pn_5) hisR ?_
  intro p e s m args below meth c s₁ Bd hml0 hP hK
  obtain ⟨rfl, hZ, hh⟩ := hP
  have hx := Bd.exec
  have hby := Bd.bytes
  have hml : c.maxLocals = 2 := hml0
  have hown : s.vm.findClass "java/lang/Integer" = some m.cls := findClass_of_methodNamed Bd.named
  have hnm := (name_of_methodNamed Bd.named Bd.method).1
  have hlk : meth.locks = false := BodyLoose.notSynchronized Bd
  have X0 : Stand p l e ({ frames := 0, cells := 0, slots := 0, locals := 0 } : Room) s m #[(.int (79 : Int32))] below meth c s₁ [] 0 0 := Stand.of_body Bd
  have e0 : s₁.heap = h0 := by rw [← hh, Bd.state]; rfl
  have N0 := Fr.nil n0
  show own_Go p.tables e below (Q_nlz_79 Z h0 n0) s ({ frames := 0, cells := 0, slots := 0, locals := 0 } : Room).cells ({ frames := 0, cells := 0, slots := 0, locals := 0 } : Room).slots s₁ (entryFrame m #[(.int (79 : Int32))] 2)
  rw [ef_nlz_79 m ]
  refine own_by (T' := s₁) (g' := (mkF m 1 #[.val (.int (79 : Int32)), .unset] [(.int (79 : Int32))])) (fun _ k => XS.iloadN X0.here hx rfl (hb hby d5_0) rfl k) ?_
  refine own_by (T' := s₁) (g' := (mkF m 15 #[.val (.int (79 : Int32)), .unset] [])) (fun _ k => XS.ifYes X0.here hx rfl (pc0 := 1) (pc' := 15) rfl (hb hby d5_1) rfl ((if0 _ _).trans (tlt (by decide)).2.2.1) (by decide) (by decide) k) ?_
  refine own_by (T' := s₁) (g' := (mkF m 17 #[.val (.int (79 : Int32)), .unset] [(.int (31 : Int32))])) (fun _ k => XS.bipush X0.here hx rfl (hb hby d5_15) k) ?_
  refine own_by (T' := s₁) (g' := (mkF m 18 #[.val (.int (79 : Int32)), .val (.int (31 : Int32))] [])) (fun _ k => XS.istoreN X0.here hx rfl (hb hby d5_17) rfl (l' := #[.val (.int (79 : Int32)), .val (.int (31 : Int32))]) rfl k) ?_
  refine own_by (T' := s₁) (g' := (mkF m 19 #[.val (.int (79 : Int32)), .val (.int (31 : Int32))] [(.int (79 : Int32))])) (fun _ k => XS.iloadN X0.here hx rfl (hb hby d5_18) rfl k) ?_
  refine own_by (T' := s₁) (g' := (mkF m 22 #[.val (.int (79 : Int32)), .val (.int (31 : Int32))] [(.int (65536 : Int32)), (.int (79 : Int32))])) (fun _ k => ldcWI X0 hx hown (mvT hZ (hw _ (List.mem_of_getElem? (i := 27) rfl))) rfl (hb hby d5_19) k) ?_
  refine own_by (T' := s₁) (g' := (mkF m 33 #[.val (.int (79 : Int32)), .val (.int (31 : Int32))] [])) (fun _ k => XS.icmpYes X0.here hx rfl (pc0 := 22) (pc' := 33) rfl (hb hby d5_22) rfl (tlt (by decide)).1 (by decide) (by decide) k) ?_
  refine own_by (T' := s₁) (g' := (mkF m 34 #[.val (.int (79 : Int32)), .val (.int (31 : Int32))] [(.int (79 : Int32))])) (fun _ k => XS.iloadN X0.here hx rfl (hb hby d5_33) rfl k) ?_
  refine own_by (T' := s₁) (g' := (mkF m 37 #[.val (.int (79 : Int32)), .val (.int (31 : Int32))] [(.int (256 : Int32)), (.int (79 : Int32))])) (fun _ k => XS.sipush X0.here hx rfl (hb hby d5_34) k) ?_
  refine own_by (T' := s₁) (g' := (mkF m 48 #[.val (.int (79 : Int32)), .val (.int (31 : Int32))] [])) (fun _ k => XS.icmpYes X0.here hx rfl (pc0 := 37) (pc' := 48) rfl (hb hby d5_37) rfl (tlt (by decide)).1 (by decide) (by decide) k) ?_
  refine own_by (T' := s₁) (g' := (mkF m 49 #[.val (.int (79 : Int32)), .val (.int (31 : Int32))] [(.int (79 : Int32))])) (fun _ k => XS.iloadN X0.here hx rfl (hb hby d5_48) rfl k) ?_
  refine own_by (T' := s₁) (g' := (mkF m 51 #[.val (.int (79 : Int32)), .val (.int (31 : Int32))] [(.int (16 : Int32)), (.int (79 : Int32))])) (fun _ k => XS.bipush X0.here hx rfl (hb hby d5_49) k) ?_
  refine own_by (T' := s₁) (g' := (mkF m 54 #[.val (.int (79 : Int32)), .val (.int (31 : Int32))] [])) (fun _ k => XS.icmpNo X0.here hx rfl (hb hby d5_51) rfl (flt (by decide)).1 k) ?_
  refine own_by (T' := s₁) (g' := (mkF m 57 #[.val (.int (79 : Int32)), .val (.int (27 : Int32))] [])) (fun _ k => XS.iinc X0.here hx rfl (hb hby d5_54) rfl (l' := #[.val (.int (79 : Int32)), .val (.int (27 : Int32))]) rfl k) ?_
  refine own_by (T' := s₁) (g' := (mkF m 58 #[.val (.int (79 : Int32)), .val (.int (27 : Int32))] [(.int (79 : Int32))])) (fun _ k => XS.iloadN X0.here hx rfl (hb hby d5_57) rfl k) ?_
  refine own_by (T' := s₁) (g' := (mkF m 59 #[.val (.int (79 : Int32)), .val (.int (27 : Int32))] [(.int (4 : Int32)), (.int (79 : Int32))])) (fun _ k => XS.iconst X0.here hx rfl (hb hby d5_58) k) ?_
  refine own_by (T' := s₁) (g' := (mkF m 60 #[.val (.int (79 : Int32)), .val (.int (27 : Int32))] [(.int (4 : Int32))])) (fun _ k => XS.iushr X0.here hx rfl (hb hby d5_59) rfl k) ?_
  refine own_by (T' := s₁) (g' := (mkF m 61 #[.val (.int (4 : Int32)), .val (.int (27 : Int32))] [])) (fun _ k => XS.istoreN X0.here hx rfl (hb hby d5_60) rfl (l' := #[.val (.int (4 : Int32)), .val (.int (27 : Int32))]) rfl k) ?_
  refine own_by (T' := s₁) (g' := (mkF m 62 #[.val (.int (4 : Int32)), .val (.int (27 : Int32))] [(.int (4 : Int32))])) (fun _ k => XS.iloadN X0.here hx rfl (hb hby d5_61) rfl k) ?_
  refine own_by (T' := s₁) (g' := (mkF m 63 #[.val (.int (4 : Int32)), .val (.int (27 : Int32))] [(.int (4 : Int32)), (.int (4 : Int32))])) (fun _ k => XS.iconst X0.here hx rfl (hb hby d5_62) k) ?_
  refine own_by (T' := s₁) (g' := (mkF m 66 #[.val (.int (4 : Int32)), .val (.int (27 : Int32))] [])) (fun _ k => XS.icmpNo X0.here hx rfl (hb hby d5_63) rfl (flt (by decide)).1 k) ?_
  refine own_by (T' := s₁) (g' := (mkF m 69 #[.val (.int (4 : Int32)), .val (.int (25 : Int32))] [])) (fun _ k => XS.iinc X0.here hx rfl (hb hby d5_66) rfl (l' := #[.val (.int (4 : Int32)), .val (.int (25 : Int32))]) rfl k) ?_
  refine own_by (T' := s₁) (g' := (mkF m 70 #[.val (.int (4 : Int32)), .val (.int (25 : Int32))] [(.int (4 : Int32))])) (fun _ k => XS.iloadN X0.here hx rfl (hb hby d5_69) rfl k) ?_
  refine own_by (T' := s₁) (g' := (mkF m 71 #[.val (.int (4 : Int32)), .val (.int (25 : Int32))] [(.int (2 : Int32)), (.int (4 : Int32))])) (fun _ k => XS.iconst X0.here hx rfl (hb hby d5_70) k) ?_
  refine own_by (T' := s₁) (g' := (mkF m 72 #[.val (.int (4 : Int32)), .val (.int (25 : Int32))] [(.int (1 : Int32))])) (fun _ k => XS.iushr X0.here hx rfl (hb hby d5_71) rfl k) ?_
  refine own_by (T' := s₁) (g' := (mkF m 73 #[.val (.int (1 : Int32)), .val (.int (25 : Int32))] [])) (fun _ k => XS.istoreN X0.here hx rfl (hb hby d5_72) rfl (l' := #[.val (.int (1 : Int32)), .val (.int (25 : Int32))]) rfl k) ?_
  refine own_by (T' := s₁) (g' := (mkF m 74 #[.val (.int (1 : Int32)), .val (.int (25 : Int32))] [(.int (25 : Int32))])) (fun _ k => XS.iloadN X0.here hx rfl (hb hby d5_73) rfl k) ?_
  refine own_by (T' := s₁) (g' := (mkF m 75 #[.val (.int (1 : Int32)), .val (.int (25 : Int32))] [(.int (1 : Int32)), (.int (25 : Int32))])) (fun _ k => XS.iloadN X0.here hx rfl (hb hby d5_74) rfl k) ?_
  refine own_by (T' := s₁) (g' := (mkF m 76 #[.val (.int (1 : Int32)), .val (.int (25 : Int32))] [(.int (1 : Int32)), (.int (1 : Int32)), (.int (25 : Int32))])) (fun _ k => XS.iconst X0.here hx rfl (hb hby d5_75) k) ?_
  refine own_by (T' := s₁) (g' := (mkF m 77 #[.val (.int (1 : Int32)), .val (.int (25 : Int32))] [(.int (0 : Int32)), (.int (25 : Int32))])) (fun _ k => XS.iushr X0.here hx rfl (hb hby d5_76) rfl k) ?_
  refine own_by (T' := s₁) (g' := (mkF m 78 #[.val (.int (1 : Int32)), .val (.int (25 : Int32))] [(.int (25 : Int32))])) (fun _ k => XS.isub X0.here hx rfl (hb hby d5_77) rfl k) ?_
  refine own_ret X0 hlk (v := some (.int (25 : Int32))) (fun h => by rw [Bd.returns] at h; cases h) (fun fs hr => retI X0 hx Bd.returns (hb hby d5_78) hr) ?_ (by decide) (by decide)
  rw [e0]
  exact ⟨rfl, N0, rfl⟩
theorem ef_hob_79 (m : MethodId)  : entryFrame m #[(.int (79 : Int32))] 1 = mkF m 0 #[.val (.int (79 : Int32))] [] := by first | (simp [entryFrame, mkF, argsToLocals, Value.category]; done) | rfl
def Q_hob_79 (Z : State)  (h0 : Heap) (n0 : Nat) (v : Option Value) (h : Heap) (L : List Loc) : Prop := v = some (.int (64 : Int32)) ∧ Fr n0 L ∧ h = h0
set_option maxRecDepth 65536 in
set_option maxHeartbeats 40000000 in
theorem hob_79 (l : Launch) (Z : State) (a0 : Array Value) (hw : ∀ d ∈ tables_1, d.before a0 Z = true) (ws : List Jvm.Cond)  (h0 : Heap) (n0 : Nat) (Z0 : n0 ≤ h0.size) :
    MetFree l (⟨"java/lang/Integer", "highestOneBit", "(I)I"⟩ : MethodName) (head1 (Jvm.Cond.code (⟨"java/lang/Integer", "highestOneBit", "(I)I"⟩ : MethodName) jdk_33_method_45_code 1 (some .int) :: ws) ({ frames := 1, cells := 0, slots := 0, locals := 15 } : Room)) (fun zz UU => zz = #[(.int (79 : Int32))] ∧ Z.Warmed39 UU.vm ∧ UU.heap = h0) (fun _ _ _ _ _ => True) (fun _ U o U' => ∃ v L, o = .returned v ∧ Q_hob_79 Z  h0 n0 v U'.heap L ∧ FrameEnd U o U' L ({ frames := 1, cells := 0, slots := 0, locals := 15 } : Room).cells ({ frames := 1, cells := 0, slots := 0, locals := 15 } : Room).slots) := by
  refine MetFree.of_bodySF (plainFor_of_name pn_4) hisR ?_
  intro p e s m args below meth c s₁ Bd hml0 hP hK
  obtain ⟨rfl, hZ, hh⟩ := hP
  have hx := Bd.exec
  have hby := Bd.bytes
  have hml : c.maxLocals = 1 := hml0
  have hown : s.vm.findClass "java/lang/Integer" = some m.cls := findClass_of_methodNamed Bd.named
  have hnm := (name_of_methodNamed Bd.named Bd.method).1
  have hlk : meth.locks = false := BodyLoose.notSynchronized Bd
  have X0 : Stand p l e ({ frames := 1, cells := 0, slots := 0, locals := 15 } : Room) s m #[(.int (79 : Int32))] below meth c s₁ [] 0 0 := Stand.of_body Bd
  have e0 : s₁.heap = h0 := by rw [← hh, Bd.state]; rfl
  have N0 := Fr.nil n0
  show own_Go p.tables e below (Q_hob_79 Z h0 n0) s ({ frames := 1, cells := 0, slots := 0, locals := 15 } : Room).cells ({ frames := 1, cells := 0, slots := 0, locals := 15 } : Room).slots s₁ (entryFrame m #[(.int (79 : Int32))] 1)
  rw [ef_hob_79 m ]
  refine own_by (T' := s₁) (g' := (mkF m 1 #[.val (.int (79 : Int32))] [(.int (79 : Int32))])) (fun _ k => XS.iloadN X0.here hx rfl (hb hby d4_0) rfl k) ?_
  refine own_by (T' := s₁) (g' := (mkF m 3 #[.val (.int (79 : Int32))] [(.int (-2147483648 : Int32)), (.int (79 : Int32))])) (fun _ k => ldcI X0 hx hown (mvT hZ (hw _ (List.mem_of_getElem? (i := 23) rfl))) rfl (hb hby d4_1) k) ?_
  refine own_by (T' := s₁) (g' := (mkF m 4 #[.val (.int (79 : Int32))] [(.int (79 : Int32)), (.int (-2147483648 : Int32)), (.int (79 : Int32))])) (fun _ k => XS.iloadN X0.here hx rfl (hb hby d4_3) rfl k) ?_
  obtain ⟨_, _, ⟨T21, L21, k21, n21⟩, -, X21, ⟨Lc21, hQ21, l21, y21, z21⟩, st21⟩ := Jvm.LawKit.callS X0 hx (y := (⟨"java/lang/Integer", "numberOfLeadingZeros", "(I)I"⟩ : MethodName)) hown (mvT hZ (hw _ (List.mem_of_getElem? (i := 24) rfl))) (mvT hZ (hw _ (List.mem_of_getElem? (i := 25) rfl))) (mvT hZ (hw _ (List.mem_of_getElem? (i := 21) rfl))) (mvT hZ (hw _ (List.mem_of_getElem? (i := 26) rfl))) (by decide) (backOf (W := 2) (nlz_79 l Z a0 hw []   h0 n0 Z0 ) hZ (hw _ (List.mem_of_getElem? (i := 26) rfl)) (hw _ (List.mem_of_getElem? (i := 21) rfl)) (by decide) (by decide)) (g := (mkF m 4 #[.val (.int (79 : Int32))] [(.int (79 : Int32)), (.int (-2147483648 : Int32)), (.int (79 : Int32))])) rfl (by rw [hml]; rfl) (argsL := [(.int (79 : Int32))]) (rest := [(.int (-2147483648 : Int32)), (.int (79 : Int32))]) (lenOf pd_0 rfl) rfl (by show 2 * 0 + _ ≤ _; exact Nat.le_of_eq rfl) (hb hby d4_4) (fun _ _ => ⟨rfl, e0, (by decide : 0 + 0 ≤ _), (by decide : 0 + 0 ≤ _)⟩)
  dsimp only [Pt.U, Pt.locs, Pt.cells, Pt.slots] at X21 l21 y21 z21 st21 hQ21
  subst l21 y21 z21
  obtain ⟨rfl, N21q, e21⟩ := hQ21
  have N21 := Fr.app N0 N21q
  refine own_by (T' := T21) (g' := (mkF m 7 #[.val (.int (79 : Int32))] [(.int (25 : Int32)), (.int (-2147483648 : Int32)), (.int (79 : Int32))])) (fun _ k => st21 _ k) ?_
  refine own_by (T' := T21) (g' := (mkF m 8 #[.val (.int (79 : Int32))] [(.int (64 : Int32)), (.int (79 : Int32))])) (fun _ k => XS.iushr X21.here hx rfl (hb hby d4_7) rfl k) ?_
  refine own_by (T' := T21) (g' := (mkF m 9 #[.val (.int (79 : Int32))] [(.int (64 : Int32))])) (fun _ k => XS.iand X21.here hx rfl (hb hby d4_8) rfl k) ?_
  refine own_ret X21 hlk (v := some (.int (64 : Int32))) (fun h => by rw [Bd.returns] at h; cases h) (fun fs hr => retI X21 hx Bd.returns (hb hby d4_9) hr) ?_ (by decide) (by decide)
  rw [e21]
  exact ⟨rfl, N21, rfl⟩
theorem ef_bit_79 (m : MethodId) (a : Addr) : entryFrame m #[(.ref a)] 1 = mkF m 0 #[.val (.ref a)] [] := by first | (simp [entryFrame, mkF, argsToLocals, Value.category]; done) | rfl
def Q_bit_79 (Z : State) (a : Addr) (h0 : Heap) (n0 : Nat) (v : Option Value) (h : Heap) (L : List Loc) : Prop := v = some (.int (64 : Int32)) ∧ Fr n0 L ∧ h = h0
set_option maxRecDepth 65536 in
set_option maxHeartbeats 40000000 in
theorem bit_79 (l : Launch) (Z : State) (a0 : Array Value) (hw : ∀ d ∈ tables_1, d.before a0 Z = true) (ws : List Jvm.Cond) (a : Addr) (h0 : Heap) (n0 : Nat) (Z0 : n0 ≤ h0.size) (F_code_a : Fld Z h0 a "com/example/nisaba/nisaba/item/Permission" "code" "I" (.int (79 : Int32))) :
    MetFree l (⟨"com/example/nisaba/nisaba/item/Permission", "bit", "()I"⟩ : MethodName) (head1 (Jvm.Cond.code (⟨"com/example/nisaba/nisaba/item/Permission", "bit", "()I"⟩ : MethodName) prog_27_method_10_code 1 (some .int) :: ws) ({ frames := 2, cells := 0, slots := 0, locals := 27 } : Room)) (fun zz UU => zz = #[(.ref a)] ∧ Z.Warmed39 UU.vm ∧ UU.heap = h0) (fun _ _ _ _ _ => True) (fun _ U o U' => ∃ v L, o = .returned v ∧ Q_bit_79 Z a h0 n0 v U'.heap L ∧ FrameEnd U o U' L ({ frames := 2, cells := 0, slots := 0, locals := 27 } : Room).cells ({ frames := 2, cells := 0, slots := 0, locals := 27 } : Room).slots) := by
  refine MetFree.of_bodySF (plainFor_of_name pn_3) hisR ?_
  intro p e s m args below meth c s₁ Bd hml0 hP hK
  obtain ⟨rfl, hZ, hh⟩ := hP
  have hx := Bd.exec
  have hby := Bd.bytes
  have hml : c.maxLocals = 1 := hml0
  have hown : s.vm.findClass "com/example/nisaba/nisaba/item/Permission" = some m.cls := findClass_of_methodNamed Bd.named
  have hnm := (name_of_methodNamed Bd.named Bd.method).1
  have hlk : meth.locks = false := BodyLoose.notSynchronized Bd
  have X0 : Stand p l e ({ frames := 2, cells := 0, slots := 0, locals := 27 } : Room) s m #[(.ref a)] below meth c s₁ [] 0 0 := Stand.of_body Bd
  have e0 : s₁.heap = h0 := by rw [← hh, Bd.state]; rfl
  have N0 := Fr.nil n0
  show own_Go p.tables e below (Q_bit_79 Z a h0 n0) s ({ frames := 2, cells := 0, slots := 0, locals := 27 } : Room).cells ({ frames := 2, cells := 0, slots := 0, locals := 27 } : Room).slots s₁ (entryFrame m #[(.ref a)] 1)
  rw [ef_bit_79 m a]
  refine own_by (T' := s₁) (g' := (mkF m 1 #[.val (.ref a)] [(.ref a)])) (fun _ k => XS.aloadN X0.here hx rfl (hb hby d3_0) rfl rfl k) ?_
  obtain ⟨T21, X21, e21, st21⟩ := getF X0 hx hZ hown (host := "") (Or.inl (hw _ (List.mem_of_getElem? (i := 17) rfl))) Via.refl e0 F_code_a (g := (mkF m 1 #[.val (.ref a)] [(.ref a)])) rfl rfl (hb hby d3_1)
  refine own_by (T' := T21) (g' := (mkF m 4 #[.val (.ref a)] [(.int (79 : Int32))])) (fun _ k => st21 _ k) ?_
  obtain ⟨_, _, ⟨T22, L22, k22, n22⟩, -, X22, ⟨Lc22, hQ22, l22, y22, z22⟩, st22⟩ := Jvm.LawKit.callS X21 hx (y := (⟨"java/lang/Integer", "highestOneBit", "(I)I"⟩ : MethodName)) hown (mvT hZ (hw _ (List.mem_of_getElem? (i := 19) rfl))) (mvT hZ (hw _ (List.mem_of_getElem? (i := 20) rfl))) (mvT hZ (hw _ (List.mem_of_getElem? (i := 21) rfl))) (mvT hZ (hw _ (List.mem_of_getElem? (i := 22) rfl))) (by decide) (backOf (W := 0) (hob_79 l Z a0 hw []   h0 n0 Z0 ) hZ (hw _ (List.mem_of_getElem? (i := 22) rfl)) (hw _ (List.mem_of_getElem? (i := 21) rfl)) (by decide) (by decide)) (g := (mkF m 4 #[.val (.ref a)] [(.int (79 : Int32))])) rfl (by rw [hml]; rfl) (argsL := [(.int (79 : Int32))]) (rest := []) (lenOf pd_0 rfl) rfl (by show 2 * 0 + _ ≤ _; exact Nat.le_of_eq rfl) (hb hby d3_4) (fun _ _ => ⟨rfl, e21, (by decide : 0 + 0 ≤ _), (by decide : 0 + 0 ≤ _)⟩)
  dsimp only [Pt.U, Pt.locs, Pt.cells, Pt.slots] at X22 l22 y22 z22 st22 hQ22
  subst l22 y22 z22
  obtain ⟨rfl, N22q, e22⟩ := hQ22
  have N22 := Fr.app N0 N22q
  refine own_by (T' := T22) (g' := (mkF m 7 #[.val (.ref a)] [(.int (64 : Int32))])) (fun _ k => st22 _ k) ?_
  refine own_ret X22 hlk (v := some (.int (64 : Int32))) (fun h => by rw [Bd.returns] at h; cases h) (fun fs hr => retI X22 hx Bd.returns (hb hby d3_7) hr) ?_ (by decide) (by decide)
  rw [e22]
  exact ⟨rfl, N22, rfl⟩
theorem d2_0 : decode prog_27_method_6_code 0 = .ok (.iload_n 1, 1) := by decide +kernel
theorem d2_1 : decode prog_27_method_6_code 1 = .ok (.aload_n 0, 1) := by decide +kernel
theorem d2_2 : decode prog_27_method_6_code 2 = .ok (.invokevirtual 64, 3) := by decide +kernel
theorem d2_5 : decode prog_27_method_6_code 5 = .ok (.iand, 1) := by decide +kernel
theorem d2_6 : decode prog_27_method_6_code 6 = .ok (.ifCond .eq 7, 3) := by decide +kernel
theorem d2_9 : decode prog_27_method_6_code 9 = .ok (.iconst 1, 1) := by decide +kernel
theorem d2_10 : decode prog_27_method_6_code 10 = .ok (.goto 4, 3) := by decide +kernel
theorem d2_13 : decode prog_27_method_6_code 13 = .ok (.iconst 0, 1) := by decide +kernel
theorem d2_14 : decode prog_27_method_6_code 14 = .ok (.ireturn, 1) := by decide +kernel
theorem pn_2 : plainName "com/example/nisaba/nisaba/item/Permission" = true := by first | (simp [plainName, overriddenIn]; done) | decide +kernel
theorem ef_in_1 (m : MethodId) (a : Addr) (g : Int32) : entryFrame m #[(.ref a), (.int g)] 2 = mkF m 0 #[.val (.ref a), .val (.int g)] [] := by first | (simp [entryFrame, mkF, argsToLocals, Value.category]; done) | rfl
def Q_in_1 (Z : State) (a : Addr) (g : Int32) (h0 : Heap) (n0 : Nat) (v : Option Value) (h : Heap) (L : List Loc) : Prop := v = some (.int (own_in g (1 : Int32))) ∧ Fr n0 L ∧ h = h0
set_option maxRecDepth 65536 in
set_option maxHeartbeats 40000000 in
theorem in_1 (l : Launch) (Z : State) (a0 : Array Value) (hw : ∀ d ∈ tables_1, d.before a0 Z = true) (ws : List Jvm.Cond) (a : Addr) (g : Int32) (h0 : Heap) (n0 : Nat) (Z0 : n0 ≤ h0.size) (E_a : Exa Z h0 a "com/example/nisaba/nisaba/item/Permission") (F_code_a : Fld Z h0 a "com/example/nisaba/nisaba/item/Permission" "code" "I" (.int (1 : Int32))) :
    MetFree l (⟨"com/example/nisaba/nisaba/item/Permission", "in", "(I)Z"⟩ : MethodName) (head1 (Jvm.Cond.code (⟨"com/example/nisaba/nisaba/item/Permission", "in", "(I)Z"⟩ : MethodName) prog_27_method_6_code 2 (some .boolean) :: ws) ({ frames := 3, cells := 0, slots := 0, locals := 40 } : Room)) (fun zz UU => zz = #[(.ref a), (.int g)] ∧ Z.Warmed39 UU.vm ∧ UU.heap = h0) (fun _ _ _ _ _ => True) (fun _ U o U' => ∃ v L, o = .returned v ∧ Q_in_1 Z a g h0 n0 v U'.heap L ∧ FrameEnd U o U' L ({ frames := 3, cells := 0, slots := 0, locals := 40 } : Room).cells ({ frames := 3, cells := 0, slots := 0, locals := 40 } : Room).slots) := by
  refine MetFree.of_bodySF (plainFor_of_name pn_2) hisR ?_
  intro p e s m args below meth c s₁ Bd hml0 hP hK
  obtain ⟨rfl, hZ, hh⟩ := hP
  have hx := Bd.exec
  have hby := Bd.bytes
  have hml : c.maxLocals = 2 := hml0
  have hown : s.vm.findClass "com/example/nisaba/nisaba/item/Permission" = some m.cls := findClass_of_methodNamed Bd.named
  have hnm := (name_of_methodNamed Bd.named Bd.method).1
  have hlk : meth.locks = false := BodyLoose.notSynchronized Bd
  have X0 : Stand p l e ({ frames := 3, cells := 0, slots := 0, locals := 40 } : Room) s m #[(.ref a), (.int g)] below meth c s₁ [] 0 0 := Stand.of_body Bd
  have e0 : s₁.heap = h0 := by rw [← hh, Bd.state]; rfl
  have N0 := Fr.nil n0
  show own_Go p.tables e below (Q_in_1 Z a g h0 n0) s ({ frames := 3, cells := 0, slots := 0, locals := 40 } : Room).cells ({ frames := 3, cells := 0, slots := 0, locals := 40 } : Room).slots s₁ (entryFrame m #[(.ref a), (.int g)] 2)
  rw [ef_in_1 m a g]
  refine own_by (T' := s₁) (g' := (mkF m 1 #[.val (.ref a), .val (.int g)] [(.int g)])) (fun _ k => XS.iloadN X0.here hx rfl (hb hby d2_0) rfl k) ?_
  refine own_by (T' := s₁) (g' := (mkF m 2 #[.val (.ref a), .val (.int g)] [(.ref a), (.int g)])) (fun _ k => XS.aloadN X0.here hx rfl (hb hby d2_1) rfl rfl k) ?_
  obtain ⟨cq21, q21, q21'⟩ := Exa.cell E_a
  obtain ⟨_, _, ⟨T21, L21, k21, n21⟩, -, X21, ⟨Lc21, hQ21, l21, y21, z21⟩, st21⟩ := X0.privateBack hx (y := (⟨"com/example/nisaba/nisaba/item/Permission", "bit", "()I"⟩ : MethodName)) hown (mvT hZ (hw _ (List.mem_of_getElem? (i := 13) rfl))) (mvT hZ (hw _ (List.mem_of_getElem? (i := 14) rfl))) (own_selP (z := (⟨"com/example/nisaba/nisaba/item/Permission", "in", "(I)Z"⟩ : MethodName)) (mvT hZ (hw _ (List.mem_of_getElem? (i := 11) rfl))) (Cond.privateMethod_at (mvP hZ (hw _ (List.mem_of_getElem? (i := 15) rfl)) (args := #[]))) (mvT hZ (hw _ (List.mem_of_getElem? (i := 14) rfl))) rfl (by decide)) (Cond.privateMethod_at (mvP hZ (hw _ (List.mem_of_getElem? (i := 15) rfl)) (args := #[]))) (mvT hZ (hw _ (List.mem_of_getElem? (i := 16) rfl))) (by decide) (backOf (W := 1) (bit_1 l Z a0 hw [] a  h0 n0 Z0 F_code_a) hZ (hw _ (List.mem_of_getElem? (i := 16) rfl)) (hw _ (List.mem_of_getElem? (i := 6) rfl)) (by decide) (by decide)) (g := (mkF m 2 #[.val (.ref a), .val (.int g)] [(.ref a), (.int g)])) rfl (by rw [hml]; rfl) (Steps.refl _) (a := a) (by rw [e0]; exact q21) q21' (argsL := []) (rest := [(.int g)]) (lenOf pd_1 rfl) rfl (by show 2 * 0 + _ ≤ _; exact Nat.le_of_eq rfl) (hb hby d2_2) (fun _ _ => ⟨rfl, e0, (by decide : 0 + 0 ≤ _), (by decide : 0 + 0 ≤ _)⟩)
  dsimp only [Pt.U, Pt.locs, Pt.cells, Pt.slots] at X21 l21 y21 z21 st21 hQ21
  subst l21 y21 z21
  obtain ⟨rfl, N21q, e21⟩ := hQ21
  have N21 := Fr.app N0 N21q
  refine own_by (T' := T21) (g' := (mkF m 5 #[.val (.ref a), .val (.int g)] [(.int (1 : Int32)), (.int g)])) (fun _ k => st21.trans k) ?_
  refine own_by (T' := T21) (g' := (mkF m 6 #[.val (.ref a), .val (.int g)] [(.int (g &&& (1 : Int32)))])) (fun _ k => XS.iand X21.here hx rfl (hb hby d2_5) rfl k) ?_
  by_cases hc6_22 : (g &&& (1 : Int32)) = (0 : Int32)
  · skip
    refine own_by (T' := T21) (g' := (mkF m 13 #[.val (.ref a), .val (.int g)] [])) (fun _ k => XS.ifYes X21.here hx rfl (pc0 := 6) (pc' := 13) rfl (hb hby d2_6) rfl ((if0 _ _).trans (teq hc6_22).1) (by decide) (by decide) k) ?_
    refine own_by (T' := T21) (g' := (mkF m 14 #[.val (.ref a), .val (.int g)] [(.int (0 : Int32))])) (fun _ k => XS.iconst X21.here hx rfl (hb hby d2_13) k) ?_
    refine own_ret X21 hlk (v := some (.int (0 : Int32))) (fun h => by rw [Bd.returns] at h; cases h) (fun fs hr => retN X21 hx (t := .boolean) Bd.returns (by simp) (hb hby d2_14) hr) ?_ (by decide) (by decide)
    rw [e21]
    exact ⟨congrArg (fun z => some (Value.int z)) (if_pos hc6_22).symm, N21, rfl⟩
  · skip
    refine own_by (T' := T21) (g' := (mkF m 9 #[.val (.ref a), .val (.int g)] [])) (fun _ k => XS.ifNo X21.here hx rfl (hb hby d2_6) rfl ((if0 _ _).trans (feq hc6_22).1) k) ?_
    refine own_by (T' := T21) (g' := (mkF m 10 #[.val (.ref a), .val (.int g)] [(.int (1 : Int32))])) (fun _ k => XS.iconst X21.here hx rfl (hb hby d2_9) k) ?_
    refine own_by (T' := T21) (g' := (mkF m 14 #[.val (.ref a), .val (.int g)] [(.int (1 : Int32))])) (fun _ k => XS.goto X21.here hx rfl (pc0 := 10) (pc' := 14) rfl (hb hby d2_10) (by decide) (by decide) k) ?_
    refine own_ret X21 hlk (v := some (.int (1 : Int32))) (fun h => by rw [Bd.returns] at h; cases h) (fun fs hr => retN X21 hx (t := .boolean) Bd.returns (by simp) (hb hby d2_14) hr) ?_ (by decide) (by decide)
    rw [e21]
    exact ⟨congrArg (fun z => some (Value.int z)) (if_neg hc6_22).symm, N21, rfl⟩
theorem ef_in_3 (m : MethodId) (a : Addr) (g : Int32) : entryFrame m #[(.ref a), (.int g)] 2 = mkF m 0 #[.val (.ref a), .val (.int g)] [] := by first | (simp [entryFrame, mkF, argsToLocals, Value.category]; done) | rfl
def Q_in_3 (Z : State) (a : Addr) (g : Int32) (h0 : Heap) (n0 : Nat) (v : Option Value) (h : Heap) (L : List Loc) : Prop := v = some (.int (own_in g (2 : Int32))) ∧ Fr n0 L ∧ h = h0
set_option maxRecDepth 65536 in
set_option maxHeartbeats 40000000 in
theorem in_3 (l : Launch) (Z : State) (a0 : Array Value) (hw : ∀ d ∈ tables_1, d.before a0 Z = true) (ws : List Jvm.Cond) (a : Addr) (g : Int32) (h0 : Heap) (n0 : Nat) (Z0 : n0 ≤ h0.size) (E_a : Exa Z h0 a "com/example/nisaba/nisaba/item/Permission") (F_code_a : Fld Z h0 a "com/example/nisaba/nisaba/item/Permission" "code" "I" (.int (3 : Int32))) :
    MetFree l (⟨"com/example/nisaba/nisaba/item/Permission", "in", "(I)Z"⟩ : MethodName) (head1 (Jvm.Cond.code (⟨"com/example/nisaba/nisaba/item/Permission", "in", "(I)Z"⟩ : MethodName) prog_27_method_6_code 2 (some .boolean) :: ws) ({ frames := 3, cells := 0, slots := 0, locals := 40 } : Room)) (fun zz UU => zz = #[(.ref a), (.int g)] ∧ Z.Warmed39 UU.vm ∧ UU.heap = h0) (fun _ _ _ _ _ => True) (fun _ U o U' => ∃ v L, o = .returned v ∧ Q_in_3 Z a g h0 n0 v U'.heap L ∧ FrameEnd U o U' L ({ frames := 3, cells := 0, slots := 0, locals := 40 } : Room).cells ({ frames := 3, cells := 0, slots := 0, locals := 40 } : Room).slots) := by
  refine MetFree.of_bodySF (plainFor_of_name pn_2) hisR ?_
  intro p e s m args below meth c s₁ Bd hml0 hP hK
  obtain ⟨rfl, hZ, hh⟩ := hP
  have hx := Bd.exec
  have hby := Bd.bytes
  have hml : c.maxLocals = 2 := hml0
  have hown : s.vm.findClass "com/example/nisaba/nisaba/item/Permission" = some m.cls := findClass_of_methodNamed Bd.named
  have hnm := (name_of_methodNamed Bd.named Bd.method).1
  have hlk : meth.locks = false := BodyLoose.notSynchronized Bd
  have X0 : Stand p l e ({ frames := 3, cells := 0, slots := 0, locals := 40 } : Room) s m #[(.ref a), (.int g)] below meth c s₁ [] 0 0 := Stand.of_body Bd
  have e0 : s₁.heap = h0 := by rw [← hh, Bd.state]; rfl
  have N0 := Fr.nil n0
  show own_Go p.tables e below (Q_in_3 Z a g h0 n0) s ({ frames := 3, cells := 0, slots := 0, locals := 40 } : Room).cells ({ frames := 3, cells := 0, slots := 0, locals := 40 } : Room).slots s₁ (entryFrame m #[(.ref a), (.int g)] 2)
  rw [ef_in_3 m a g]
  refine own_by (T' := s₁) (g' := (mkF m 1 #[.val (.ref a), .val (.int g)] [(.int g)])) (fun _ k => XS.iloadN X0.here hx rfl (hb hby d2_0) rfl k) ?_
  refine own_by (T' := s₁) (g' := (mkF m 2 #[.val (.ref a), .val (.int g)] [(.ref a), (.int g)])) (fun _ k => XS.aloadN X0.here hx rfl (hb hby d2_1) rfl rfl k) ?_
  obtain ⟨cq21, q21, q21'⟩ := Exa.cell E_a
  obtain ⟨_, _, ⟨T21, L21, k21, n21⟩, -, X21, ⟨Lc21, hQ21, l21, y21, z21⟩, st21⟩ := X0.privateBack hx (y := (⟨"com/example/nisaba/nisaba/item/Permission", "bit", "()I"⟩ : MethodName)) hown (mvT hZ (hw _ (List.mem_of_getElem? (i := 13) rfl))) (mvT hZ (hw _ (List.mem_of_getElem? (i := 14) rfl))) (own_selP (z := (⟨"com/example/nisaba/nisaba/item/Permission", "in", "(I)Z"⟩ : MethodName)) (mvT hZ (hw _ (List.mem_of_getElem? (i := 11) rfl))) (Cond.privateMethod_at (mvP hZ (hw _ (List.mem_of_getElem? (i := 15) rfl)) (args := #[]))) (mvT hZ (hw _ (List.mem_of_getElem? (i := 14) rfl))) rfl (by decide)) (Cond.privateMethod_at (mvP hZ (hw _ (List.mem_of_getElem? (i := 15) rfl)) (args := #[]))) (mvT hZ (hw _ (List.mem_of_getElem? (i := 16) rfl))) (by decide) (backOf (W := 1) (bit_3 l Z a0 hw [] a  h0 n0 Z0 F_code_a) hZ (hw _ (List.mem_of_getElem? (i := 16) rfl)) (hw _ (List.mem_of_getElem? (i := 6) rfl)) (by decide) (by decide)) (g := (mkF m 2 #[.val (.ref a), .val (.int g)] [(.ref a), (.int g)])) rfl (by rw [hml]; rfl) (Steps.refl _) (a := a) (by rw [e0]; exact q21) q21' (argsL := []) (rest := [(.int g)]) (lenOf pd_1 rfl) rfl (by show 2 * 0 + _ ≤ _; exact Nat.le_of_eq rfl) (hb hby d2_2) (fun _ _ => ⟨rfl, e0, (by decide : 0 + 0 ≤ _), (by decide : 0 + 0 ≤ _)⟩)
  dsimp only [Pt.U, Pt.locs, Pt.cells, Pt.slots] at X21 l21 y21 z21 st21 hQ21
  subst l21 y21 z21
  obtain ⟨rfl, N21q, e21⟩ := hQ21
  have N21 := Fr.app N0 N21q
  refine own_by (T' := T21) (g' := (mkF m 5 #[.val (.ref a), .val (.int g)] [(.int (2 : Int32)), (.int g)])) (fun _ k => st21.trans k) ?_
  refine own_by (T' := T21) (g' := (mkF m 6 #[.val (.ref a), .val (.int g)] [(.int (g &&& (2 : Int32)))])) (fun _ k => XS.iand X21.here hx rfl (hb hby d2_5) rfl k) ?_
  by_cases hc6_22 : (g &&& (2 : Int32)) = (0 : Int32)
  · skip
    refine own_by (T' := T21) (g' := (mkF m 13 #[.val (.ref a), .val (.int g)] [])) (fun _ k => XS.ifYes X21.here hx rfl (pc0 := 6) (pc' := 13) rfl (hb hby d2_6) rfl ((if0 _ _).trans (teq hc6_22).1) (by decide) (by decide) k) ?_
    refine own_by (T' := T21) (g' := (mkF m 14 #[.val (.ref a), .val (.int g)] [(.int (0 : Int32))])) (fun _ k => XS.iconst X21.here hx rfl (hb hby d2_13) k) ?_
    refine own_ret X21 hlk (v := some (.int (0 : Int32))) (fun h => by rw [Bd.returns] at h; cases h) (fun fs hr => retN X21 hx (t := .boolean) Bd.returns (by simp) (hb hby d2_14) hr) ?_ (by decide) (by decide)
    rw [e21]
    exact ⟨congrArg (fun z => some (Value.int z)) (if_pos hc6_22).symm, N21, rfl⟩
  · skip
    refine own_by (T' := T21) (g' := (mkF m 9 #[.val (.ref a), .val (.int g)] [])) (fun _ k => XS.ifNo X21.here hx rfl (hb hby d2_6) rfl ((if0 _ _).trans (feq hc6_22).1) k) ?_
    refine own_by (T' := T21) (g' := (mkF m 10 #[.val (.ref a), .val (.int g)] [(.int (1 : Int32))])) (fun _ k => XS.iconst X21.here hx rfl (hb hby d2_9) k) ?_
    refine own_by (T' := T21) (g' := (mkF m 14 #[.val (.ref a), .val (.int g)] [(.int (1 : Int32))])) (fun _ k => XS.goto X21.here hx rfl (pc0 := 10) (pc' := 14) rfl (hb hby d2_10) (by decide) (by decide) k) ?_
    refine own_ret X21 hlk (v := some (.int (1 : Int32))) (fun h => by rw [Bd.returns] at h; cases h) (fun fs hr => retN X21 hx (t := .boolean) Bd.returns (by simp) (hb hby d2_14) hr) ?_ (by decide) (by decide)
    rw [e21]
    exact ⟨congrArg (fun z => some (Value.int z)) (if_neg hc6_22).symm, N21, rfl⟩
theorem ef_in_7 (m : MethodId) (a : Addr) (g : Int32) : entryFrame m #[(.ref a), (.int g)] 2 = mkF m 0 #[.val (.ref a), .val (.int g)] [] := by first | (simp [entryFrame, mkF, argsToLocals, Value.category]; done) | rfl
def Q_in_7 (Z : State) (a : Addr) (g : Int32) (h0 : Heap) (n0 : Nat) (v : Option Value) (h : Heap) (L : List Loc) : Prop := v = some (.int (own_in g (4 : Int32))) ∧ Fr n0 L ∧ h = h0
set_option maxRecDepth 65536 in
set_option maxHeartbeats 40000000 in
theorem in_7 (l : Launch) (Z : State) (a0 : Array Value) (hw : ∀ d ∈ tables_1, d.before a0 Z = true) (ws : List Jvm.Cond) (a : Addr) (g : Int32) (h0 : Heap) (n0 : Nat) (Z0 : n0 ≤ h0.size) (E_a : Exa Z h0 a "com/example/nisaba/nisaba/item/Permission") (F_code_a : Fld Z h0 a "com/example/nisaba/nisaba/item/Permission" "code" "I" (.int (7 : Int32))) :
    MetFree l (⟨"com/example/nisaba/nisaba/item/Permission", "in", "(I)Z"⟩ : MethodName) (head1 (Jvm.Cond.code (⟨"com/example/nisaba/nisaba/item/Permission", "in", "(I)Z"⟩ : MethodName) prog_27_method_6_code 2 (some .boolean) :: ws) ({ frames := 3, cells := 0, slots := 0, locals := 40 } : Room)) (fun zz UU => zz = #[(.ref a), (.int g)] ∧ Z.Warmed39 UU.vm ∧ UU.heap = h0) (fun _ _ _ _ _ => True) (fun _ U o U' => ∃ v L, o = .returned v ∧ Q_in_7 Z a g h0 n0 v U'.heap L ∧ FrameEnd U o U' L ({ frames := 3, cells := 0, slots := 0, locals := 40 } : Room).cells ({ frames := 3, cells := 0, slots := 0, locals := 40 } : Room).slots) := by
  refine MetFree.of_bodySF (plainFor_of_name pn_2) hisR ?_
  intro p e s m args below meth c s₁ Bd hml0 hP hK
  obtain ⟨rfl, hZ, hh⟩ := hP
  have hx := Bd.exec
  have hby := Bd.bytes
  have hml : c.maxLocals = 2 := hml0
  have hown : s.vm.findClass "com/example/nisaba/nisaba/item/Permission" = some m.cls := findClass_of_methodNamed Bd.named
  have hnm := (name_of_methodNamed Bd.named Bd.method).1
  have hlk : meth.locks = false := BodyLoose.notSynchronized Bd
  have X0 : Stand p l e ({ frames := 3, cells := 0, slots := 0, locals := 40 } : Room) s m #[(.ref a), (.int g)] below meth c s₁ [] 0 0 := Stand.of_body Bd
  have e0 : s₁.heap = h0 := by rw [← hh, Bd.state]; rfl
  have N0 := Fr.nil n0
  show own_Go p.tables e below (Q_in_7 Z a g h0 n0) s ({ frames := 3, cells := 0, slots := 0, locals := 40 } : Room).cells ({ frames := 3, cells := 0, slots := 0, locals := 40 } : Room).slots s₁ (entryFrame m #[(.ref a), (.int g)] 2)
  rw [ef_in_7 m a g]
  refine own_by (T' := s₁) (g' := (mkF m 1 #[.val (.ref a), .val (.int g)] [(.int g)])) (fun _ k => XS.iloadN X0.here hx rfl (hb hby d2_0) rfl k) ?_
  refine own_by (T' := s₁) (g' := (mkF m 2 #[.val (.ref a), .val (.int g)] [(.ref a), (.int g)])) (fun _ k => XS.aloadN X0.here hx rfl (hb hby d2_1) rfl rfl k) ?_
  obtain ⟨cq21, q21, q21'⟩ := Exa.cell E_a
  obtain ⟨_, _, ⟨T21, L21, k21, n21⟩, -, X21, ⟨Lc21, hQ21, l21, y21, z21⟩, st21⟩ := X0.privateBack hx (y := (⟨"com/example/nisaba/nisaba/item/Permission", "bit", "()I"⟩ : MethodName)) hown (mvT hZ (hw _ (List.mem_of_getElem? (i := 13) rfl))) (mvT hZ (hw _ (List.mem_of_getElem? (i := 14) rfl))) (own_selP (z := (⟨"com/example/nisaba/nisaba/item/Permission", "in", "(I)Z"⟩ : MethodName)) (mvT hZ (hw _ (List.mem_of_getElem? (i := 11) rfl))) (Cond.privateMethod_at (mvP hZ (hw _ (List.mem_of_getElem? (i := 15) rfl)) (args := #[]))) (mvT hZ (hw _ (List.mem_of_getElem? (i := 14) rfl))) rfl (by decide)) (Cond.privateMethod_at (mvP hZ (hw _ (List.mem_of_getElem? (i := 15) rfl)) (args := #[]))) (mvT hZ (hw _ (List.mem_of_getElem? (i := 16) rfl))) (by decide) (backOf (W := 1) (bit_7 l Z a0 hw [] a  h0 n0 Z0 F_code_a) hZ (hw _ (List.mem_of_getElem? (i := 16) rfl)) (hw _ (List.mem_of_getElem? (i := 6) rfl)) (by decide) (by decide)) (g := (mkF m 2 #[.val (.ref a), .val (.int g)] [(.ref a), (.int g)])) rfl (by rw [hml]; rfl) (Steps.refl _) (a := a) (by rw [e0]; exact q21) q21' (argsL := []) (rest := [(.int g)]) (lenOf pd_1 rfl) rfl (by show 2 * 0 + _ ≤ _; exact Nat.le_of_eq rfl) (hb hby d2_2) (fun _ _ => ⟨rfl, e0, (by decide : 0 + 0 ≤ _), (by decide : 0 + 0 ≤ _)⟩)
  dsimp only [Pt.U, Pt.locs, Pt.cells, Pt.slots] at X21 l21 y21 z21 st21 hQ21
  subst l21 y21 z21
  obtain ⟨rfl, N21q, e21⟩ := hQ21
  have N21 := Fr.app N0 N21q
  refine own_by (T' := T21) (g' := (mkF m 5 #[.val (.ref a), .val (.int g)] [(.int (4 : Int32)), (.int g)])) (fun _ k => st21.trans k) ?_
  refine own_by (T' := T21) (g' := (mkF m 6 #[.val (.ref a), .val (.int g)] [(.int (g &&& (4 : Int32)))])) (fun _ k => XS.iand X21.here hx rfl (hb hby d2_5) rfl k) ?_
  by_cases hc6_22 : (g &&& (4 : Int32)) = (0 : Int32)
  · skip
    refine own_by (T' := T21) (g' := (mkF m 13 #[.val (.ref a), .val (.int g)] [])) (fun _ k => XS.ifYes X21.here hx rfl (pc0 := 6) (pc' := 13) rfl (hb hby d2_6) rfl ((if0 _ _).trans (teq hc6_22).1) (by decide) (by decide) k) ?_
    refine own_by (T' := T21) (g' := (mkF m 14 #[.val (.ref a), .val (.int g)] [(.int (0 : Int32))])) (fun _ k => XS.iconst X21.here hx rfl (hb hby d2_13) k) ?_
    refine own_ret X21 hlk (v := some (.int (0 : Int32))) (fun h => by rw [Bd.returns] at h; cases h) (fun fs hr => retN X21 hx (t := .boolean) Bd.returns (by simp) (hb hby d2_14) hr) ?_ (by decide) (by decide)
    rw [e21]
    exact ⟨congrArg (fun z => some (Value.int z)) (if_pos hc6_22).symm, N21, rfl⟩
  · skip
    refine own_by (T' := T21) (g' := (mkF m 9 #[.val (.ref a), .val (.int g)] [])) (fun _ k => XS.ifNo X21.here hx rfl (hb hby d2_6) rfl ((if0 _ _).trans (feq hc6_22).1) k) ?_
    refine own_by (T' := T21) (g' := (mkF m 10 #[.val (.ref a), .val (.int g)] [(.int (1 : Int32))])) (fun _ k => XS.iconst X21.here hx rfl (hb hby d2_9) k) ?_
    refine own_by (T' := T21) (g' := (mkF m 14 #[.val (.ref a), .val (.int g)] [(.int (1 : Int32))])) (fun _ k => XS.goto X21.here hx rfl (pc0 := 10) (pc' := 14) rfl (hb hby d2_10) (by decide) (by decide) k) ?_
    refine own_ret X21 hlk (v := some (.int (1 : Int32))) (fun h => by rw [Bd.returns] at h; cases h) (fun fs hr => retN X21 hx (t := .boolean) Bd.returns (by simp) (hb hby d2_14) hr) ?_ (by decide) (by decide)
    rw [e21]
    exact ⟨congrArg (fun z => some (Value.int z)) (if_neg hc6_22).symm, N21, rfl⟩
theorem ef_in_15 (m : MethodId) (a : Addr) (g : Int32) : entryFrame m #[(.ref a), (.int g)] 2 = mkF m 0 #[.val (.ref a), .val (.int g)] [] := by first | (simp [entryFrame, mkF, argsToLocals, Value.category]; done) | rfl
def Q_in_15 (Z : State) (a : Addr) (g : Int32) (h0 : Heap) (n0 : Nat) (v : Option Value) (h : Heap) (L : List Loc) : Prop := v = some (.int (own_in g (8 : Int32))) ∧ Fr n0 L ∧ h = h0
set_option maxRecDepth 65536 in
set_option maxHeartbeats 40000000 in
theorem in_15 (l : Launch) (Z : State) (a0 : Array Value) (hw : ∀ d ∈ tables_1, d.before a0 Z = true) (ws : List Jvm.Cond) (a : Addr) (g : Int32) (h0 : Heap) (n0 : Nat) (Z0 : n0 ≤ h0.size) (E_a : Exa Z h0 a "com/example/nisaba/nisaba/item/Permission") (F_code_a : Fld Z h0 a "com/example/nisaba/nisaba/item/Permission" "code" "I" (.int (15 : Int32))) :
    MetFree l (⟨"com/example/nisaba/nisaba/item/Permission", "in", "(I)Z"⟩ : MethodName) (head1 (Jvm.Cond.code (⟨"com/example/nisaba/nisaba/item/Permission", "in", "(I)Z"⟩ : MethodName) prog_27_method_6_code 2 (some .boolean) :: ws) ({ frames := 3, cells := 0, slots := 0, locals := 40 } : Room)) (fun zz UU => zz = #[(.ref a), (.int g)] ∧ Z.Warmed39 UU.vm ∧ UU.heap = h0) (fun _ _ _ _ _ => True) (fun _ U o U' => ∃ v L, o = .returned v ∧ Q_in_15 Z a g h0 n0 v U'.heap L ∧ FrameEnd U o U' L ({ frames := 3, cells := 0, slots := 0, locals := 40 } : Room).cells ({ frames := 3, cells := 0, slots := 0, locals := 40 } : Room).slots) := by
  refine MetFree.of_bodySF (plainFor_of_name pn_2) hisR ?_
  intro p e s m args below meth c s₁ Bd hml0 hP hK
  obtain ⟨rfl, hZ, hh⟩ := hP
  have hx := Bd.exec
  have hby := Bd.bytes
  have hml : c.maxLocals = 2 := hml0
  have hown : s.vm.findClass "com/example/nisaba/nisaba/item/Permission" = some m.cls := findClass_of_methodNamed Bd.named
  have hnm := (name_of_methodNamed Bd.named Bd.method).1
  have hlk : meth.locks = false := BodyLoose.notSynchronized Bd
  have X0 : Stand p l e ({ frames := 3, cells := 0, slots := 0, locals := 40 } : Room) s m #[(.ref a), (.int g)] below meth c s₁ [] 0 0 := Stand.of_body Bd
  have e0 : s₁.heap = h0 := by rw [← hh, Bd.state]; rfl
  have N0 := Fr.nil n0
  show own_Go p.tables e below (Q_in_15 Z a g h0 n0) s ({ frames := 3, cells := 0, slots := 0, locals := 40 } : Room).cells ({ frames := 3, cells := 0, slots := 0, locals := 40 } : Room).slots s₁ (entryFrame m #[(.ref a), (.int g)] 2)
  rw [ef_in_15 m a g]
  refine own_by (T' := s₁) (g' := (mkF m 1 #[.val (.ref a), .val (.int g)] [(.int g)])) (fun _ k => XS.iloadN X0.here hx rfl (hb hby d2_0) rfl k) ?_
  refine own_by (T' := s₁) (g' := (mkF m 2 #[.val (.ref a), .val (.int g)] [(.ref a), (.int g)])) (fun _ k => XS.aloadN X0.here hx rfl (hb hby d2_1) rfl rfl k) ?_
  obtain ⟨cq21, q21, q21'⟩ := Exa.cell E_a
  obtain ⟨_, _, ⟨T21, L21, k21, n21⟩, -, X21, ⟨Lc21, hQ21, l21, y21, z21⟩, st21⟩ := X0.privateBack hx (y := (⟨"com/example/nisaba/nisaba/item/Permission", "bit", "()I"⟩ : MethodName)) hown (mvT hZ (hw _ (List.mem_of_getElem? (i := 13) rfl))) (mvT hZ (hw _ (List.mem_of_getElem? (i := 14) rfl))) (own_selP (z := (⟨"com/example/nisaba/nisaba/item/Permission", "in", "(I)Z"⟩ : MethodName)) (mvT hZ (hw _ (List.mem_of_getElem? (i := 11) rfl))) (Cond.privateMethod_at (mvP hZ (hw _ (List.mem_of_getElem? (i := 15) rfl)) (args := #[]))) (mvT hZ (hw _ (List.mem_of_getElem? (i := 14) rfl))) rfl (by decide)) (Cond.privateMethod_at (mvP hZ (hw _ (List.mem_of_getElem? (i := 15) rfl)) (args := #[]))) (mvT hZ (hw _ (List.mem_of_getElem? (i := 16) rfl))) (by decide) (backOf (W := 1) (bit_15 l Z a0 hw [] a  h0 n0 Z0 F_code_a) hZ (hw _ (List.mem_of_getElem? (i := 16) rfl)) (hw _ (List.mem_of_getElem? (i := 6) rfl)) (by decide) (by decide)) (g := (mkF m 2 #[.val (.ref a), .val (.int g)] [(.ref a), (.int g)])) rfl (by rw [hml]; rfl) (Steps.refl _) (a := a) (by rw [e0]; exact q21) q21' (argsL := []) (rest := [(.int g)]) (lenOf pd_1 rfl) rfl (by show 2 * 0 + _ ≤ _; exact Nat.le_of_eq rfl) (hb hby d2_2) (fun _ _ => ⟨rfl, e0, (by decide : 0 + 0 ≤ _), (by decide : 0 + 0 ≤ _)⟩)
  dsimp only [Pt.U, Pt.locs, Pt.cells, Pt.slots] at X21 l21 y21 z21 st21 hQ21
  subst l21 y21 z21
  obtain ⟨rfl, N21q, e21⟩ := hQ21
  have N21 := Fr.app N0 N21q
  refine own_by (T' := T21) (g' := (mkF m 5 #[.val (.ref a), .val (.int g)] [(.int (8 : Int32)), (.int g)])) (fun _ k => st21.trans k) ?_
  refine own_by (T' := T21) (g' := (mkF m 6 #[.val (.ref a), .val (.int g)] [(.int (g &&& (8 : Int32)))])) (fun _ k => XS.iand X21.here hx rfl (hb hby d2_5) rfl k) ?_
  by_cases hc6_22 : (g &&& (8 : Int32)) = (0 : Int32)
  · skip
    refine own_by (T' := T21) (g' := (mkF m 13 #[.val (.ref a), .val (.int g)] [])) (fun _ k => XS.ifYes X21.here hx rfl (pc0 := 6) (pc' := 13) rfl (hb hby d2_6) rfl ((if0 _ _).trans (teq hc6_22).1) (by decide) (by decide) k) ?_
    refine own_by (T' := T21) (g' := (mkF m 14 #[.val (.ref a), .val (.int g)] [(.int (0 : Int32))])) (fun _ k => XS.iconst X21.here hx rfl (hb hby d2_13) k) ?_
    refine own_ret X21 hlk (v := some (.int (0 : Int32))) (fun h => by rw [Bd.returns] at h; cases h) (fun fs hr => retN X21 hx (t := .boolean) Bd.returns (by simp) (hb hby d2_14) hr) ?_ (by decide) (by decide)
    rw [e21]
    exact ⟨congrArg (fun z => some (Value.int z)) (if_pos hc6_22).symm, N21, rfl⟩
  · skip
    refine own_by (T' := T21) (g' := (mkF m 9 #[.val (.ref a), .val (.int g)] [])) (fun _ k => XS.ifNo X21.here hx rfl (hb hby d2_6) rfl ((if0 _ _).trans (feq hc6_22).1) k) ?_
    refine own_by (T' := T21) (g' := (mkF m 10 #[.val (.ref a), .val (.int g)] [(.int (1 : Int32))])) (fun _ k => XS.iconst X21.here hx rfl (hb hby d2_9) k) ?_
    refine own_by (T' := T21) (g' := (mkF m 14 #[.val (.ref a), .val (.int g)] [(.int (1 : Int32))])) (fun _ k => XS.goto X21.here hx rfl (pc0 := 10) (pc' := 14) rfl (hb hby d2_10) (by decide) (by decide) k) ?_
    refine own_ret X21 hlk (v := some (.int (1 : Int32))) (fun h => by rw [Bd.returns] at h; cases h) (fun fs hr => retN X21 hx (t := .boolean) Bd.returns (by simp) (hb hby d2_14) hr) ?_ (by decide) (by decide)
    rw [e21]
    exact ⟨congrArg (fun z => some (Value.int z)) (if_neg hc6_22).symm, N21, rfl⟩
theorem ef_in_31 (m : MethodId) (a : Addr) (g : Int32) : entryFrame m #[(.ref a), (.int g)] 2 = mkF m 0 #[.val (.ref a), .val (.int g)] [] := by first | (simp [entryFrame, mkF, argsToLocals, Value.category]; done) | rfl
def Q_in_31 (Z : State) (a : Addr) (g : Int32) (h0 : Heap) (n0 : Nat) (v : Option Value) (h : Heap) (L : List Loc) : Prop := v = some (.int (own_in g (16 : Int32))) ∧ Fr n0 L ∧ h = h0
set_option maxRecDepth 65536 in
set_option maxHeartbeats 40000000 in
theorem in_31 (l : Launch) (Z : State) (a0 : Array Value) (hw : ∀ d ∈ tables_1, d.before a0 Z = true) (ws : List Jvm.Cond) (a : Addr) (g : Int32) (h0 : Heap) (n0 : Nat) (Z0 : n0 ≤ h0.size) (E_a : Exa Z h0 a "com/example/nisaba/nisaba/item/Permission") (F_code_a : Fld Z h0 a "com/example/nisaba/nisaba/item/Permission" "code" "I" (.int (31 : Int32))) :
    MetFree l (⟨"com/example/nisaba/nisaba/item/Permission", "in", "(I)Z"⟩ : MethodName) (head1 (Jvm.Cond.code (⟨"com/example/nisaba/nisaba/item/Permission", "in", "(I)Z"⟩ : MethodName) prog_27_method_6_code 2 (some .boolean) :: ws) ({ frames := 3, cells := 0, slots := 0, locals := 40 } : Room)) (fun zz UU => zz = #[(.ref a), (.int g)] ∧ Z.Warmed39 UU.vm ∧ UU.heap = h0) (fun _ _ _ _ _ => True) (fun _ U o U' => ∃ v L, o = .returned v ∧ Q_in_31 Z a g h0 n0 v U'.heap L ∧ FrameEnd U o U' L ({ frames := 3, cells := 0, slots := 0, locals := 40 } : Room).cells ({ frames := 3, cells := 0, slots := 0, locals := 40 } : Room).slots) := by
  refine MetFree.of_bodySF (plainFor_of_name pn_2) hisR ?_
  intro p e s m args below meth c s₁ Bd hml0 hP hK
  obtain ⟨rfl, hZ, hh⟩ := hP
  have hx := Bd.exec
  have hby := Bd.bytes
  have hml : c.maxLocals = 2 := hml0
  have hown : s.vm.findClass "com/example/nisaba/nisaba/item/Permission" = some m.cls := findClass_of_methodNamed Bd.named
  have hnm := (name_of_methodNamed Bd.named Bd.method).1
  have hlk : meth.locks = false := BodyLoose.notSynchronized Bd
  have X0 : Stand p l e ({ frames := 3, cells := 0, slots := 0, locals := 40 } : Room) s m #[(.ref a), (.int g)] below meth c s₁ [] 0 0 := Stand.of_body Bd
  have e0 : s₁.heap = h0 := by rw [← hh, Bd.state]; rfl
  have N0 := Fr.nil n0
  show own_Go p.tables e below (Q_in_31 Z a g h0 n0) s ({ frames := 3, cells := 0, slots := 0, locals := 40 } : Room).cells ({ frames := 3, cells := 0, slots := 0, locals := 40 } : Room).slots s₁ (entryFrame m #[(.ref a), (.int g)] 2)
  rw [ef_in_31 m a g]
  refine own_by (T' := s₁) (g' := (mkF m 1 #[.val (.ref a), .val (.int g)] [(.int g)])) (fun _ k => XS.iloadN X0.here hx rfl (hb hby d2_0) rfl k) ?_
  refine own_by (T' := s₁) (g' := (mkF m 2 #[.val (.ref a), .val (.int g)] [(.ref a), (.int g)])) (fun _ k => XS.aloadN X0.here hx rfl (hb hby d2_1) rfl rfl k) ?_
  obtain ⟨cq21, q21, q21'⟩ := Exa.cell E_a
  obtain ⟨_, _, ⟨T21, L21, k21, n21⟩, -, X21, ⟨Lc21, hQ21, l21, y21, z21⟩, st21⟩ := X0.privateBack hx (y := (⟨"com/example/nisaba/nisaba/item/Permission", "bit", "()I"⟩ : MethodName)) hown (mvT hZ (hw _ (List.mem_of_getElem? (i := 13) rfl))) (mvT hZ (hw _ (List.mem_of_getElem? (i := 14) rfl))) (own_selP (z := (⟨"com/example/nisaba/nisaba/item/Permission", "in", "(I)Z"⟩ : MethodName)) (mvT hZ (hw _ (List.mem_of_getElem? (i := 11) rfl))) (Cond.privateMethod_at (mvP hZ (hw _ (List.mem_of_getElem? (i := 15) rfl)) (args := #[]))) (mvT hZ (hw _ (List.mem_of_getElem? (i := 14) rfl))) rfl (by decide)) (Cond.privateMethod_at (mvP hZ (hw _ (List.mem_of_getElem? (i := 15) rfl)) (args := #[]))) (mvT hZ (hw _ (List.mem_of_getElem? (i := 16) rfl))) (by decide) (backOf (W := 1) (bit_31 l Z a0 hw [] a  h0 n0 Z0 F_code_a) hZ (hw _ (List.mem_of_getElem? (i := 16) rfl)) (hw _ (List.mem_of_getElem? (i := 6) rfl)) (by decide) (by decide)) (g := (mkF m 2 #[.val (.ref a), .val (.int g)] [(.ref a), (.int g)])) rfl (by rw [hml]; rfl) (Steps.refl _) (a := a) (by rw [e0]; exact q21) q21' (argsL := []) (rest := [(.int g)]) (lenOf pd_1 rfl) rfl (by show 2 * 0 + _ ≤ _; exact Nat.le_of_eq rfl) (hb hby d2_2) (fun _ _ => ⟨rfl, e0, (by decide : 0 + 0 ≤ _), (by decide : 0 + 0 ≤ _)⟩)
  dsimp only [Pt.U, Pt.locs, Pt.cells, Pt.slots] at X21 l21 y21 z21 st21 hQ21
  subst l21 y21 z21
  obtain ⟨rfl, N21q, e21⟩ := hQ21
  have N21 := Fr.app N0 N21q
  refine own_by (T' := T21) (g' := (mkF m 5 #[.val (.ref a), .val (.int g)] [(.int (16 : Int32)), (.int g)])) (fun _ k => st21.trans k) ?_
  refine own_by (T' := T21) (g' := (mkF m 6 #[.val (.ref a), .val (.int g)] [(.int (g &&& (16 : Int32)))])) (fun _ k => XS.iand X21.here hx rfl (hb hby d2_5) rfl k) ?_
  by_cases hc6_22 : (g &&& (16 : Int32)) = (0 : Int32)
  · skip
    refine own_by (T' := T21) (g' := (mkF m 13 #[.val (.ref a), .val (.int g)] [])) (fun _ k => XS.ifYes X21.here hx rfl (pc0 := 6) (pc' := 13) rfl (hb hby d2_6) rfl ((if0 _ _).trans (teq hc6_22).1) (by decide) (by decide) k) ?_
    refine own_by (T' := T21) (g' := (mkF m 14 #[.val (.ref a), .val (.int g)] [(.int (0 : Int32))])) (fun _ k => XS.iconst X21.here hx rfl (hb hby d2_13) k) ?_
    refine own_ret X21 hlk (v := some (.int (0 : Int32))) (fun h => by rw [Bd.returns] at h; cases h) (fun fs hr => retN X21 hx (t := .boolean) Bd.returns (by simp) (hb hby d2_14) hr) ?_ (by decide) (by decide)
    rw [e21]
    exact ⟨congrArg (fun z => some (Value.int z)) (if_pos hc6_22).symm, N21, rfl⟩
  · skip
    refine own_by (T' := T21) (g' := (mkF m 9 #[.val (.ref a), .val (.int g)] [])) (fun _ k => XS.ifNo X21.here hx rfl (hb hby d2_6) rfl ((if0 _ _).trans (feq hc6_22).1) k) ?_
    refine own_by (T' := T21) (g' := (mkF m 10 #[.val (.ref a), .val (.int g)] [(.int (1 : Int32))])) (fun _ k => XS.iconst X21.here hx rfl (hb hby d2_9) k) ?_
    refine own_by (T' := T21) (g' := (mkF m 14 #[.val (.ref a), .val (.int g)] [(.int (1 : Int32))])) (fun _ k => XS.goto X21.here hx rfl (pc0 := 10) (pc' := 14) rfl (hb hby d2_10) (by decide) (by decide) k) ?_
    refine own_ret X21 hlk (v := some (.int (1 : Int32))) (fun h => by rw [Bd.returns] at h; cases h) (fun fs hr => retN X21 hx (t := .boolean) Bd.returns (by simp) (hb hby d2_14) hr) ?_ (by decide) (by decide)
    rw [e21]
    exact ⟨congrArg (fun z => some (Value.int z)) (if_neg hc6_22).symm, N21, rfl⟩
theorem ef_in_47 (m : MethodId) (a : Addr) (g : Int32) : entryFrame m #[(.ref a), (.int g)] 2 = mkF m 0 #[.val (.ref a), .val (.int g)] [] := by first | (simp [entryFrame, mkF, argsToLocals, Value.category]; done) | rfl
def Q_in_47 (Z : State) (a : Addr) (g : Int32) (h0 : Heap) (n0 : Nat) (v : Option Value) (h : Heap) (L : List Loc) : Prop := v = some (.int (own_in g (32 : Int32))) ∧ Fr n0 L ∧ h = h0
set_option maxRecDepth 65536 in
set_option maxHeartbeats 40000000 in
theorem in_47 (l : Launch) (Z : State) (a0 : Array Value) (hw : ∀ d ∈ tables_1, d.before a0 Z = true) (ws : List Jvm.Cond) (a : Addr) (g : Int32) (h0 : Heap) (n0 : Nat) (Z0 : n0 ≤ h0.size) (E_a : Exa Z h0 a "com/example/nisaba/nisaba/item/Permission") (F_code_a : Fld Z h0 a "com/example/nisaba/nisaba/item/Permission" "code" "I" (.int (47 : Int32))) :
    MetFree l (⟨"com/example/nisaba/nisaba/item/Permission", "in", "(I)Z"⟩ : MethodName) (head1 (Jvm.Cond.code (⟨"com/example/nisaba/nisaba/item/Permission", "in", "(I)Z"⟩ : MethodName) prog_27_method_6_code 2 (some .boolean) :: ws) ({ frames := 3, cells := 0, slots := 0, locals := 40 } : Room)) (fun zz UU => zz = #[(.ref a), (.int g)] ∧ Z.Warmed39 UU.vm ∧ UU.heap = h0) (fun _ _ _ _ _ => True) (fun _ U o U' => ∃ v L, o = .returned v ∧ Q_in_47 Z a g h0 n0 v U'.heap L ∧ FrameEnd U o U' L ({ frames := 3, cells := 0, slots := 0, locals := 40 } : Room).cells ({ frames := 3, cells := 0, slots := 0, locals := 40 } : Room).slots) := by
  refine MetFree.of_bodySF (plainFor_of_name pn_2) hisR ?_
  intro p e s m args below meth c s₁ Bd hml0 hP hK
  obtain ⟨rfl, hZ, hh⟩ := hP
  have hx := Bd.exec
  have hby := Bd.bytes
  have hml : c.maxLocals = 2 := hml0
  have hown : s.vm.findClass "com/example/nisaba/nisaba/item/Permission" = some m.cls := findClass_of_methodNamed Bd.named
  have hnm := (name_of_methodNamed Bd.named Bd.method).1
  have hlk : meth.locks = false := BodyLoose.notSynchronized Bd
  have X0 : Stand p l e ({ frames := 3, cells := 0, slots := 0, locals := 40 } : Room) s m #[(.ref a), (.int g)] below meth c s₁ [] 0 0 := Stand.of_body Bd
  have e0 : s₁.heap = h0 := by rw [← hh, Bd.state]; rfl
  have N0 := Fr.nil n0
  show own_Go p.tables e below (Q_in_47 Z a g h0 n0) s ({ frames := 3, cells := 0, slots := 0, locals := 40 } : Room).cells ({ frames := 3, cells := 0, slots := 0, locals := 40 } : Room).slots s₁ (entryFrame m #[(.ref a), (.int g)] 2)
  rw [ef_in_47 m a g]
  refine own_by (T' := s₁) (g' := (mkF m 1 #[.val (.ref a), .val (.int g)] [(.int g)])) (fun _ k => XS.iloadN X0.here hx rfl (hb hby d2_0) rfl k) ?_
  refine own_by (T' := s₁) (g' := (mkF m 2 #[.val (.ref a), .val (.int g)] [(.ref a), (.int g)])) (fun _ k => XS.aloadN X0.here hx rfl (hb hby d2_1) rfl rfl k) ?_
  obtain ⟨cq21, q21, q21'⟩ := Exa.cell E_a
  obtain ⟨_, _, ⟨T21, L21, k21, n21⟩, -, X21, ⟨Lc21, hQ21, l21, y21, z21⟩, st21⟩ := X0.privateBack hx (y := (⟨"com/example/nisaba/nisaba/item/Permission", "bit", "()I"⟩ : MethodName)) hown (mvT hZ (hw _ (List.mem_of_getElem? (i := 13) rfl))) (mvT hZ (hw _ (List.mem_of_getElem? (i := 14) rfl))) (own_selP (z := (⟨"com/example/nisaba/nisaba/item/Permission", "in", "(I)Z"⟩ : MethodName)) (mvT hZ (hw _ (List.mem_of_getElem? (i := 11) rfl))) (Cond.privateMethod_at (mvP hZ (hw _ (List.mem_of_getElem? (i := 15) rfl)) (args := #[]))) (mvT hZ (hw _ (List.mem_of_getElem? (i := 14) rfl))) rfl (by decide)) (Cond.privateMethod_at (mvP hZ (hw _ (List.mem_of_getElem? (i := 15) rfl)) (args := #[]))) (mvT hZ (hw _ (List.mem_of_getElem? (i := 16) rfl))) (by decide) (backOf (W := 1) (bit_47 l Z a0 hw [] a  h0 n0 Z0 F_code_a) hZ (hw _ (List.mem_of_getElem? (i := 16) rfl)) (hw _ (List.mem_of_getElem? (i := 6) rfl)) (by decide) (by decide)) (g := (mkF m 2 #[.val (.ref a), .val (.int g)] [(.ref a), (.int g)])) rfl (by rw [hml]; rfl) (Steps.refl _) (a := a) (by rw [e0]; exact q21) q21' (argsL := []) (rest := [(.int g)]) (lenOf pd_1 rfl) rfl (by show 2 * 0 + _ ≤ _; exact Nat.le_of_eq rfl) (hb hby d2_2) (fun _ _ => ⟨rfl, e0, (by decide : 0 + 0 ≤ _), (by decide : 0 + 0 ≤ _)⟩)
  dsimp only [Pt.U, Pt.locs, Pt.cells, Pt.slots] at X21 l21 y21 z21 st21 hQ21
  subst l21 y21 z21
  obtain ⟨rfl, N21q, e21⟩ := hQ21
  have N21 := Fr.app N0 N21q
  refine own_by (T' := T21) (g' := (mkF m 5 #[.val (.ref a), .val (.int g)] [(.int (32 : Int32)), (.int g)])) (fun _ k => st21.trans k) ?_
  refine own_by (T' := T21) (g' := (mkF m 6 #[.val (.ref a), .val (.int g)] [(.int (g &&& (32 : Int32)))])) (fun _ k => XS.iand X21.here hx rfl (hb hby d2_5) rfl k) ?_
  by_cases hc6_22 : (g &&& (32 : Int32)) = (0 : Int32)
  · skip
    refine own_by (T' := T21) (g' := (mkF m 13 #[.val (.ref a), .val (.int g)] [])) (fun _ k => XS.ifYes X21.here hx rfl (pc0 := 6) (pc' := 13) rfl (hb hby d2_6) rfl ((if0 _ _).trans (teq hc6_22).1) (by decide) (by decide) k) ?_
    refine own_by (T' := T21) (g' := (mkF m 14 #[.val (.ref a), .val (.int g)] [(.int (0 : Int32))])) (fun _ k => XS.iconst X21.here hx rfl (hb hby d2_13) k) ?_
    refine own_ret X21 hlk (v := some (.int (0 : Int32))) (fun h => by rw [Bd.returns] at h; cases h) (fun fs hr => retN X21 hx (t := .boolean) Bd.returns (by simp) (hb hby d2_14) hr) ?_ (by decide) (by decide)
    rw [e21]
    exact ⟨congrArg (fun z => some (Value.int z)) (if_pos hc6_22).symm, N21, rfl⟩
  · skip
    refine own_by (T' := T21) (g' := (mkF m 9 #[.val (.ref a), .val (.int g)] [])) (fun _ k => XS.ifNo X21.here hx rfl (hb hby d2_6) rfl ((if0 _ _).trans (feq hc6_22).1) k) ?_
    refine own_by (T' := T21) (g' := (mkF m 10 #[.val (.ref a), .val (.int g)] [(.int (1 : Int32))])) (fun _ k => XS.iconst X21.here hx rfl (hb hby d2_9) k) ?_
    refine own_by (T' := T21) (g' := (mkF m 14 #[.val (.ref a), .val (.int g)] [(.int (1 : Int32))])) (fun _ k => XS.goto X21.here hx rfl (pc0 := 10) (pc' := 14) rfl (hb hby d2_10) (by decide) (by decide) k) ?_
    refine own_ret X21 hlk (v := some (.int (1 : Int32))) (fun h => by rw [Bd.returns] at h; cases h) (fun fs hr => retN X21 hx (t := .boolean) Bd.returns (by simp) (hb hby d2_14) hr) ?_ (by decide) (by decide)
    rw [e21]
    exact ⟨congrArg (fun z => some (Value.int z)) (if_neg hc6_22).symm, N21, rfl⟩
theorem ef_in_79 (m : MethodId) (a : Addr) (g : Int32) : entryFrame m #[(.ref a), (.int g)] 2 = mkF m 0 #[.val (.ref a), .val (.int g)] [] := by first | (simp [entryFrame, mkF, argsToLocals, Value.category]; done) | rfl
def Q_in_79 (Z : State) (a : Addr) (g : Int32) (h0 : Heap) (n0 : Nat) (v : Option Value) (h : Heap) (L : List Loc) : Prop := v = some (.int (own_in g (64 : Int32))) ∧ Fr n0 L ∧ h = h0
set_option maxRecDepth 65536 in
set_option maxHeartbeats 40000000 in
theorem in_79 (l : Launch) (Z : State) (a0 : Array Value) (hw : ∀ d ∈ tables_1, d.before a0 Z = true) (ws : List Jvm.Cond) (a : Addr) (g : Int32) (h0 : Heap) (n0 : Nat) (Z0 : n0 ≤ h0.size) (E_a : Exa Z h0 a "com/example/nisaba/nisaba/item/Permission") (F_code_a : Fld Z h0 a "com/example/nisaba/nisaba/item/Permission" "code" "I" (.int (79 : Int32))) :
    MetFree l (⟨"com/example/nisaba/nisaba/item/Permission", "in", "(I)Z"⟩ : MethodName) (head1 (Jvm.Cond.code (⟨"com/example/nisaba/nisaba/item/Permission", "in", "(I)Z"⟩ : MethodName) prog_27_method_6_code 2 (some .boolean) :: ws) ({ frames := 3, cells := 0, slots := 0, locals := 40 } : Room)) (fun zz UU => zz = #[(.ref a), (.int g)] ∧ Z.Warmed39 UU.vm ∧ UU.heap = h0) (fun _ _ _ _ _ => True) (fun _ U o U' => ∃ v L, o = .returned v ∧ Q_in_79 Z a g h0 n0 v U'.heap L ∧ FrameEnd U o U' L ({ frames := 3, cells := 0, slots := 0, locals := 40 } : Room).cells ({ frames := 3, cells := 0, slots := 0, locals := 40 } : Room).slots) := by
  refine MetFree.of_bodySF (plainFor_of_name pn_2) hisR ?_
  intro p e s m args below meth c s₁ Bd hml0 hP hK
  obtain ⟨rfl, hZ, hh⟩ := hP
  have hx := Bd.exec
  have hby := Bd.bytes
  have hml : c.maxLocals = 2 := hml0
  have hown : s.vm.findClass "com/example/nisaba/nisaba/item/Permission" = some m.cls := findClass_of_methodNamed Bd.named
  have hnm := (name_of_methodNamed Bd.named Bd.method).1
  have hlk : meth.locks = false := BodyLoose.notSynchronized Bd
  have X0 : Stand p l e ({ frames := 3, cells := 0, slots := 0, locals := 40 } : Room) s m #[(.ref a), (.int g)] below meth c s₁ [] 0 0 := Stand.of_body Bd
  have e0 : s₁.heap = h0 := by rw [← hh, Bd.state]; rfl
  have N0 := Fr.nil n0
  show own_Go p.tables e below (Q_in_79 Z a g h0 n0) s ({ frames := 3, cells := 0, slots := 0, locals := 40 } : Room).cells ({ frames := 3, cells := 0, slots := 0, locals := 40 } : Room).slots s₁ (entryFrame m #[(.ref a), (.int g)] 2)
  rw [ef_in_79 m a g]
  refine own_by (T' := s₁) (g' := (mkF m 1 #[.val (.ref a), .val (.int g)] [(.int g)])) (fun _ k => XS.iloadN X0.here hx rfl (hb hby d2_0) rfl k) ?_
  refine own_by (T' := s₁) (g' := (mkF m 2 #[.val (.ref a), .val (.int g)] [(.ref a), (.int g)])) (fun _ k => XS.aloadN X0.here hx rfl (hb hby d2_1) rfl rfl k) ?_
  obtain ⟨cq21, q21, q21'⟩ := Exa.cell E_a
  obtain ⟨_, _, ⟨T21, L21, k21, n21⟩, -, X21, ⟨Lc21, hQ21, l21, y21, z21⟩, st21⟩ := X0.privateBack hx (y := (⟨"com/example/nisaba/nisaba/item/Permission", "bit", "()I"⟩ : MethodName)) hown (mvT hZ (hw _ (List.mem_of_getElem? (i := 13) rfl))) (mvT hZ (hw _ (List.mem_of_getElem? (i := 14) rfl))) (own_selP (z := (⟨"com/example/nisaba/nisaba/item/Permission", "in", "(I)Z"⟩ : MethodName)) (mvT hZ (hw _ (List.mem_of_getElem? (i := 11) rfl))) (Cond.privateMethod_at (mvP hZ (hw _ (List.mem_of_getElem? (i := 15) rfl)) (args := #[]))) (mvT hZ (hw _ (List.mem_of_getElem? (i := 14) rfl))) rfl (by decide)) (Cond.privateMethod_at (mvP hZ (hw _ (List.mem_of_getElem? (i := 15) rfl)) (args := #[]))) (mvT hZ (hw _ (List.mem_of_getElem? (i := 16) rfl))) (by decide) (backOf (W := 1) (bit_79 l Z a0 hw [] a  h0 n0 Z0 F_code_a) hZ (hw _ (List.mem_of_getElem? (i := 16) rfl)) (hw _ (List.mem_of_getElem? (i := 6) rfl)) (by decide) (by decide)) (g := (mkF m 2 #[.val (.ref a), .val (.int g)] [(.ref a), (.int g)])) rfl (by rw [hml]; rfl) (Steps.refl _) (a := a) (by rw [e0]; exact q21) q21' (argsL := []) (rest := [(.int g)]) (lenOf pd_1 rfl) rfl (by show 2 * 0 + _ ≤ _; exact Nat.le_of_eq rfl) (hb hby d2_2) (fun _ _ => ⟨rfl, e0, (by decide : 0 + 0 ≤ _), (by decide : 0 + 0 ≤ _)⟩)
  dsimp only [Pt.U, Pt.locs, Pt.cells, Pt.slots] at X21 l21 y21 z21 st21 hQ21
  subst l21 y21 z21
  obtain ⟨rfl, N21q, e21⟩ := hQ21
  have N21 := Fr.app N0 N21q
  refine own_by (T' := T21) (g' := (mkF m 5 #[.val (.ref a), .val (.int g)] [(.int (64 : Int32)), (.int g)])) (fun _ k => st21.trans k) ?_
  refine own_by (T' := T21) (g' := (mkF m 6 #[.val (.ref a), .val (.int g)] [(.int (g &&& (64 : Int32)))])) (fun _ k => XS.iand X21.here hx rfl (hb hby d2_5) rfl k) ?_
  by_cases hc6_22 : (g &&& (64 : Int32)) = (0 : Int32)
  · skip
    refine own_by (T' := T21) (g' := (mkF m 13 #[.val (.ref a), .val (.int g)] [])) (fun _ k => XS.ifYes X21.here hx rfl (pc0 := 6) (pc' := 13) rfl (hb hby d2_6) rfl ((if0 _ _).trans (teq hc6_22).1) (by decide) (by decide) k) ?_
    refine own_by (T' := T21) (g' := (mkF m 14 #[.val (.ref a), .val (.int g)] [(.int (0 : Int32))])) (fun _ k => XS.iconst X21.here hx rfl (hb hby d2_13) k) ?_
    refine own_ret X21 hlk (v := some (.int (0 : Int32))) (fun h => by rw [Bd.returns] at h; cases h) (fun fs hr => retN X21 hx (t := .boolean) Bd.returns (by simp) (hb hby d2_14) hr) ?_ (by decide) (by decide)
    rw [e21]
    exact ⟨congrArg (fun z => some (Value.int z)) (if_pos hc6_22).symm, N21, rfl⟩
  · skip
    refine own_by (T' := T21) (g' := (mkF m 9 #[.val (.ref a), .val (.int g)] [])) (fun _ k => XS.ifNo X21.here hx rfl (hb hby d2_6) rfl ((if0 _ _).trans (feq hc6_22).1) k) ?_
    refine own_by (T' := T21) (g' := (mkF m 10 #[.val (.ref a), .val (.int g)] [(.int (1 : Int32))])) (fun _ k => XS.iconst X21.here hx rfl (hb hby d2_9) k) ?_
    refine own_by (T' := T21) (g' := (mkF m 14 #[.val (.ref a), .val (.int g)] [(.int (1 : Int32))])) (fun _ k => XS.goto X21.here hx rfl (pc0 := 10) (pc' := 14) rfl (hb hby d2_10) (by decide) (by decide) k) ?_
    refine own_ret X21 hlk (v := some (.int (1 : Int32))) (fun h => by rw [Bd.returns] at h; cases h) (fun fs hr => retN X21 hx (t := .boolean) Bd.returns (by simp) (hb hby d2_14) hr) ?_ (by decide) (by decide)
    rw [e21]
    exact ⟨congrArg (fun z => some (Value.int z)) (if_neg hc6_22).symm, N21, rfl⟩
theorem d1_0 : decode method_2_code 0 = .ok (.iload_n 0, 1) := by decide +kernel
theorem d1_1 : decode method_2_code 1 = .ok (.ifCond .ne 7, 3) := by decide +kernel
theorem d1_4 : decode method_2_code 4 = .ok (.getstatic 7, 3) := by decide +kernel
theorem d1_7 : decode method_2_code 7 = .ok (.areturn, 1) := by decide +kernel
theorem d1_8 : decode method_2_code 8 = .ok (.iload_n 0, 1) := by decide +kernel
theorem d1_9 : decode method_2_code 9 = .ok (.iconst 1, 1) := by decide +kernel
theorem d1_10 : decode method_2_code 10 = .ok (.if_icmp .ne 7, 3) := by decide +kernel
theorem d1_13 : decode method_2_code 13 = .ok (.getstatic 13, 3) := by decide +kernel
theorem d1_16 : decode method_2_code 16 = .ok (.areturn, 1) := by decide +kernel
theorem d1_17 : decode method_2_code 17 = .ok (.iload_n 0, 1) := by decide +kernel
theorem d1_18 : decode method_2_code 18 = .ok (.iconst 2, 1) := by decide +kernel
theorem d1_19 : decode method_2_code 19 = .ok (.if_icmp .ne 7, 3) := by decide +kernel
theorem d1_22 : decode method_2_code 22 = .ok (.getstatic 16, 3) := by decide +kernel
theorem d1_25 : decode method_2_code 25 = .ok (.areturn, 1) := by decide +kernel
theorem d1_26 : decode method_2_code 26 = .ok (.iload_n 0, 1) := by decide +kernel
theorem d1_27 : decode method_2_code 27 = .ok (.iconst 3, 1) := by decide +kernel
theorem d1_28 : decode method_2_code 28 = .ok (.if_icmp .ne 7, 3) := by decide +kernel
theorem d1_31 : decode method_2_code 31 = .ok (.getstatic 19, 3) := by decide +kernel
theorem d1_34 : decode method_2_code 34 = .ok (.areturn, 1) := by decide +kernel
theorem d1_35 : decode method_2_code 35 = .ok (.iload_n 0, 1) := by decide +kernel
theorem d1_36 : decode method_2_code 36 = .ok (.iconst 4, 1) := by decide +kernel
theorem d1_37 : decode method_2_code 37 = .ok (.if_icmp .ne 7, 3) := by decide +kernel
theorem d1_40 : decode method_2_code 40 = .ok (.getstatic 22, 3) := by decide +kernel
theorem d1_43 : decode method_2_code 43 = .ok (.areturn, 1) := by decide +kernel
theorem d1_44 : decode method_2_code 44 = .ok (.iload_n 0, 1) := by decide +kernel
theorem d1_45 : decode method_2_code 45 = .ok (.iconst 5, 1) := by decide +kernel
theorem d1_46 : decode method_2_code 46 = .ok (.if_icmp .ne 7, 3) := by decide +kernel
theorem d1_49 : decode method_2_code 49 = .ok (.getstatic 25, 3) := by decide +kernel
theorem d1_52 : decode method_2_code 52 = .ok (.areturn, 1) := by decide +kernel
theorem d1_53 : decode method_2_code 53 = .ok (.getstatic 28, 3) := by decide +kernel
theorem d1_56 : decode method_2_code 56 = .ok (.areturn, 1) := by decide +kernel
theorem pn_1 : plainName "com/example/nisaba/nisaba/item/PermissionInPinLaw" = true := by first | (simp [plainName, overriddenIn]; done) | decide +kernel
theorem ef_rm1 (m : MethodId) (i : Int32) : entryFrame m #[(.int i)] 1 = mkF m 0 #[.val (.int i)] [] := by first | (simp [entryFrame, mkF, argsToLocals, Value.category]; done) | rfl
def Q_rm1 (Z : State) (i : Int32) (a_READ : Addr) (a_USE : Addr) (a_RESTRICTED_WRITE : Addr) (a_WRITE : Addr) (a_DELETE : Addr) (a_SET_OWNER : Addr) (a_SET_PERMISSION : Addr) (h0 : Heap) (n0 : Nat) (v : Option Value) (h : Heap) (L : List Loc) : Prop := v = some (.ref (own_pick i a_READ a_USE a_RESTRICTED_WRITE a_WRITE a_DELETE a_SET_OWNER a_SET_PERMISSION)) ∧ Fr n0 L ∧ h = h0
set_option maxRecDepth 65536 in
set_option maxHeartbeats 40000000 in
theorem rm1 (l : Launch) (Z : State) (a0 : Array Value) (hw : ∀ d ∈ tables_1, d.before a0 Z = true) (ws : List Jvm.Cond) (i : Int32) (a_READ : Addr) (a_USE : Addr) (a_RESTRICTED_WRITE : Addr) (a_WRITE : Addr) (a_DELETE : Addr) (a_SET_OWNER : Addr) (a_SET_PERMISSION : Addr) (h0 : Heap) (n0 : Nat) (Z0 : n0 ≤ h0.size) (S_READ : Sta Z h0 "com/example/nisaba/nisaba/item/Permission" "READ" "Lcom/example/nisaba/nisaba/item/Permission;" (.ref a_READ)) (S_USE : Sta Z h0 "com/example/nisaba/nisaba/item/Permission" "USE" "Lcom/example/nisaba/nisaba/item/Permission;" (.ref a_USE)) (S_RESTRICTED_WRITE : Sta Z h0 "com/example/nisaba/nisaba/item/Permission" "RESTRICTED_WRITE" "Lcom/example/nisaba/nisaba/item/Permission;" (.ref a_RESTRICTED_WRITE)) (S_WRITE : Sta Z h0 "com/example/nisaba/nisaba/item/Permission" "WRITE" "Lcom/example/nisaba/nisaba/item/Permission;" (.ref a_WRITE)) (S_DELETE : Sta Z h0 "com/example/nisaba/nisaba/item/Permission" "DELETE" "Lcom/example/nisaba/nisaba/item/Permission;" (.ref a_DELETE)) (S_SET_OWNER : Sta Z h0 "com/example/nisaba/nisaba/item/Permission" "SET_OWNER" "Lcom/example/nisaba/nisaba/item/Permission;" (.ref a_SET_OWNER)) (S_SET_PERMISSION : Sta Z h0 "com/example/nisaba/nisaba/item/Permission" "SET_PERMISSION" "Lcom/example/nisaba/nisaba/item/Permission;" (.ref a_SET_PERMISSION)) :
    MetFree l (⟨"com/example/nisaba/nisaba/item/PermissionInPinLaw", "pick", "(I)Lcom/example/nisaba/nisaba/item/Permission;"⟩ : MethodName) (head1 (Jvm.Cond.code (⟨"com/example/nisaba/nisaba/item/PermissionInPinLaw", "pick", "(I)Lcom/example/nisaba/nisaba/item/Permission;"⟩ : MethodName) method_2_code 1 (some (.object "com/example/nisaba/nisaba/item/Permission")) :: ws) ({ frames := 0, cells := 0, slots := 0, locals := 0 } : Room)) (fun zz UU => zz = #[(.int i)] ∧ Z.Warmed39 UU.vm ∧ UU.heap = h0) (fun _ _ _ _ _ => True) (fun _ U o U' => ∃ v L, o = .returned v ∧ Q_rm1 Z i a_READ a_USE a_RESTRICTED_WRITE a_WRITE a_DELETE a_SET_OWNER a_SET_PERMISSION h0 n0 v U'.heap L ∧ FrameEnd U o U' L ({ frames := 0, cells := 0, slots := 0, locals := 0 } : Room).cells ({ frames := 0, cells := 0, slots := 0, locals := 0 } : Room).slots) := by
  refine MetFree.of_bodySF (plainFor_of_name pn_1) hisR ?_
  intro p e s m args below meth c s₁ Bd hml0 hP hK
  obtain ⟨rfl, hZ, hh⟩ := hP
  have hx := Bd.exec
  have hby := Bd.bytes
  have hml : c.maxLocals = 1 := hml0
  have hown : s.vm.findClass "com/example/nisaba/nisaba/item/PermissionInPinLaw" = some m.cls := findClass_of_methodNamed Bd.named
  have hnm := (name_of_methodNamed Bd.named Bd.method).1
  have hlk : meth.locks = false := BodyLoose.notSynchronized Bd
  have X0 : Stand p l e ({ frames := 0, cells := 0, slots := 0, locals := 0 } : Room) s m #[(.int i)] below meth c s₁ [] 0 0 := Stand.of_body Bd
  have e0 : s₁.heap = h0 := by rw [← hh, Bd.state]; rfl
  have N0 := Fr.nil n0
  show own_Go p.tables e below (Q_rm1 Z i a_READ a_USE a_RESTRICTED_WRITE a_WRITE a_DELETE a_SET_OWNER a_SET_PERMISSION h0 n0) s ({ frames := 0, cells := 0, slots := 0, locals := 0 } : Room).cells ({ frames := 0, cells := 0, slots := 0, locals := 0 } : Room).slots s₁ (entryFrame m #[(.int i)] 1)
  rw [ef_rm1 m i]
  refine own_by (T' := s₁) (g' := (mkF m 1 #[.val (.int i)] [(.int i)])) (fun _ k => XS.iloadN X0.here hx rfl (hb hby d1_0) rfl k) ?_
  by_cases hc1_21 : i = (0 : Int32)
  · skip
    refine own_by (T' := s₁) (g' := (mkF m 4 #[.val (.int i)] [])) (fun _ k => XS.ifNo X0.here hx rfl (hb hby d1_1) rfl ((if0 _ _).trans (teq hc1_21).2) k) ?_
    obtain ⟨T22, X22, e22, st22⟩ := getS2 X0 hx hZ hown (host := "") (Or.inl (hw _ (List.mem_of_getElem? (i := 5) rfl))) Via.refl e0 S_READ (g := (mkF m 4 #[.val (.int i)] [])) rfl (hb hby d1_4)
    refine own_by (T' := T22) (g' := (mkF m 7 #[.val (.int i)] [(.ref a_READ)])) (fun _ k => st22 _ k) ?_
    refine own_ret X22 hlk (v := some (.ref a_READ)) (fun h => by rw [Bd.returns] at h; cases h) (fun fs hr => retOut X22 hx Bd.returns rfl (Or.inr (Or.inr (Or.inr (Or.inr ⟨rfl, rfl, rfl⟩)))) (hb hby d1_7) hr) ?_ (by decide) (by decide)
    rw [e22]
    exact ⟨congrArg (fun z => some (Value.ref z)) ((if_pos hc1_21)).symm, N0, rfl⟩
  · skip
    refine own_by (T' := s₁) (g' := (mkF m 8 #[.val (.int i)] [])) (fun _ k => XS.ifYes X0.here hx rfl (pc0 := 1) (pc' := 8) rfl (hb hby d1_1) rfl ((if0 _ _).trans (feq hc1_21).2) (by decide) (by decide) k) ?_
    refine own_by (T' := s₁) (g' := (mkF m 9 #[.val (.int i)] [(.int i)])) (fun _ k => XS.iloadN X0.here hx rfl (hb hby d1_8) rfl k) ?_
    refine own_by (T' := s₁) (g' := (mkF m 10 #[.val (.int i)] [(.int (1 : Int32)), (.int i)])) (fun _ k => XS.iconst X0.here hx rfl (hb hby d1_9) k) ?_
    by_cases hc10_23 : i = (1 : Int32)
    · skip
      refine own_by (T' := s₁) (g' := (mkF m 13 #[.val (.int i)] [])) (fun _ k => XS.icmpNo X0.here hx rfl (hb hby d1_10) rfl (teq hc10_23).2 k) ?_
      obtain ⟨T24, X24, e24, st24⟩ := getS2 X0 hx hZ hown (host := "") (Or.inl (hw _ (List.mem_of_getElem? (i := 30) rfl))) Via.refl e0 S_USE (g := (mkF m 13 #[.val (.int i)] [])) rfl (hb hby d1_13)
      refine own_by (T' := T24) (g' := (mkF m 16 #[.val (.int i)] [(.ref a_USE)])) (fun _ k => st24 _ k) ?_
      refine own_ret X24 hlk (v := some (.ref a_USE)) (fun h => by rw [Bd.returns] at h; cases h) (fun fs hr => retOut X24 hx Bd.returns rfl (Or.inr (Or.inr (Or.inr (Or.inr ⟨rfl, rfl, rfl⟩)))) (hb hby d1_16) hr) ?_ (by decide) (by decide)
      rw [e24]
      exact ⟨congrArg (fun z => some (Value.ref z)) (((if_neg hc1_21).trans (if_pos hc10_23))).symm, N0, rfl⟩
    · skip
      refine own_by (T' := s₁) (g' := (mkF m 17 #[.val (.int i)] [])) (fun _ k => XS.icmpYes X0.here hx rfl (pc0 := 10) (pc' := 17) rfl (hb hby d1_10) rfl (feq hc10_23).2 (by decide) (by decide) k) ?_
      refine own_by (T' := s₁) (g' := (mkF m 18 #[.val (.int i)] [(.int i)])) (fun _ k => XS.iloadN X0.here hx rfl (hb hby d1_17) rfl k) ?_
      refine own_by (T' := s₁) (g' := (mkF m 19 #[.val (.int i)] [(.int (2 : Int32)), (.int i)])) (fun _ k => XS.iconst X0.here hx rfl (hb hby d1_18) k) ?_
      by_cases hc19_25 : i = (2 : Int32)
      · skip
        refine own_by (T' := s₁) (g' := (mkF m 22 #[.val (.int i)] [])) (fun _ k => XS.icmpNo X0.here hx rfl (hb hby d1_19) rfl (teq hc19_25).2 k) ?_
        obtain ⟨T26, X26, e26, st26⟩ := getS2 X0 hx hZ hown (host := "") (Or.inl (hw _ (List.mem_of_getElem? (i := 38) rfl))) Via.refl e0 S_RESTRICTED_WRITE (g := (mkF m 22 #[.val (.int i)] [])) rfl (hb hby d1_22)
        refine own_by (T' := T26) (g' := (mkF m 25 #[.val (.int i)] [(.ref a_RESTRICTED_WRITE)])) (fun _ k => st26 _ k) ?_
        refine own_ret X26 hlk (v := some (.ref a_RESTRICTED_WRITE)) (fun h => by rw [Bd.returns] at h; cases h) (fun fs hr => retOut X26 hx Bd.returns rfl (Or.inr (Or.inr (Or.inr (Or.inr ⟨rfl, rfl, rfl⟩)))) (hb hby d1_25) hr) ?_ (by decide) (by decide)
        rw [e26]
        exact ⟨congrArg (fun z => some (Value.ref z)) ((((if_neg hc1_21).trans (if_neg hc10_23)).trans (if_pos hc19_25))).symm, N0, rfl⟩
      · skip
        refine own_by (T' := s₁) (g' := (mkF m 26 #[.val (.int i)] [])) (fun _ k => XS.icmpYes X0.here hx rfl (pc0 := 19) (pc' := 26) rfl (hb hby d1_19) rfl (feq hc19_25).2 (by decide) (by decide) k) ?_
        refine own_by (T' := s₁) (g' := (mkF m 27 #[.val (.int i)] [(.int i)])) (fun _ k => XS.iloadN X0.here hx rfl (hb hby d1_26) rfl k) ?_
        refine own_by (T' := s₁) (g' := (mkF m 28 #[.val (.int i)] [(.int (3 : Int32)), (.int i)])) (fun _ k => XS.iconst X0.here hx rfl (hb hby d1_27) k) ?_
        by_cases hc28_27 : i = (3 : Int32)
        · skip
          refine own_by (T' := s₁) (g' := (mkF m 31 #[.val (.int i)] [])) (fun _ k => XS.icmpNo X0.here hx rfl (hb hby d1_28) rfl (teq hc28_27).2 k) ?_
          obtain ⟨T28, X28, e28, st28⟩ := getS2 X0 hx hZ hown (host := "") (Or.inl (hw _ (List.mem_of_getElem? (i := 28) rfl))) Via.refl e0 S_WRITE (g := (mkF m 31 #[.val (.int i)] [])) rfl (hb hby d1_31)
          refine own_by (T' := T28) (g' := (mkF m 34 #[.val (.int i)] [(.ref a_WRITE)])) (fun _ k => st28 _ k) ?_
          refine own_ret X28 hlk (v := some (.ref a_WRITE)) (fun h => by rw [Bd.returns] at h; cases h) (fun fs hr => retOut X28 hx Bd.returns rfl (Or.inr (Or.inr (Or.inr (Or.inr ⟨rfl, rfl, rfl⟩)))) (hb hby d1_34) hr) ?_ (by decide) (by decide)
          rw [e28]
          exact ⟨congrArg (fun z => some (Value.ref z)) (((((if_neg hc1_21).trans (if_neg hc10_23)).trans (if_neg hc19_25)).trans (if_pos hc28_27))).symm, N0, rfl⟩
        · skip
          refine own_by (T' := s₁) (g' := (mkF m 35 #[.val (.int i)] [])) (fun _ k => XS.icmpYes X0.here hx rfl (pc0 := 28) (pc' := 35) rfl (hb hby d1_28) rfl (feq hc28_27).2 (by decide) (by decide) k) ?_
          refine own_by (T' := s₁) (g' := (mkF m 36 #[.val (.int i)] [(.int i)])) (fun _ k => XS.iloadN X0.here hx rfl (hb hby d1_35) rfl k) ?_
          refine own_by (T' := s₁) (g' := (mkF m 37 #[.val (.int i)] [(.int (4 : Int32)), (.int i)])) (fun _ k => XS.iconst X0.here hx rfl (hb hby d1_36) k) ?_
          by_cases hc37_29 : i = (4 : Int32)
          · skip
            refine own_by (T' := s₁) (g' := (mkF m 40 #[.val (.int i)] [])) (fun _ k => XS.icmpNo X0.here hx rfl (hb hby d1_37) rfl (teq hc37_29).2 k) ?_
            obtain ⟨T30, X30, e30, st30⟩ := getS2 X0 hx hZ hown (host := "") (Or.inl (hw _ (List.mem_of_getElem? (i := 32) rfl))) Via.refl e0 S_DELETE (g := (mkF m 40 #[.val (.int i)] [])) rfl (hb hby d1_40)
            refine own_by (T' := T30) (g' := (mkF m 43 #[.val (.int i)] [(.ref a_DELETE)])) (fun _ k => st30 _ k) ?_
            refine own_ret X30 hlk (v := some (.ref a_DELETE)) (fun h => by rw [Bd.returns] at h; cases h) (fun fs hr => retOut X30 hx Bd.returns rfl (Or.inr (Or.inr (Or.inr (Or.inr ⟨rfl, rfl, rfl⟩)))) (hb hby d1_43) hr) ?_ (by decide) (by decide)
            rw [e30]
            exact ⟨congrArg (fun z => some (Value.ref z)) ((((((if_neg hc1_21).trans (if_neg hc10_23)).trans (if_neg hc19_25)).trans (if_neg hc28_27)).trans (if_pos hc37_29))).symm, N0, rfl⟩
          · skip
            refine own_by (T' := s₁) (g' := (mkF m 44 #[.val (.int i)] [])) (fun _ k => XS.icmpYes X0.here hx rfl (pc0 := 37) (pc' := 44) rfl (hb hby d1_37) rfl (feq hc37_29).2 (by decide) (by decide) k) ?_
            refine own_by (T' := s₁) (g' := (mkF m 45 #[.val (.int i)] [(.int i)])) (fun _ k => XS.iloadN X0.here hx rfl (hb hby d1_44) rfl k) ?_
            refine own_by (T' := s₁) (g' := (mkF m 46 #[.val (.int i)] [(.int (5 : Int32)), (.int i)])) (fun _ k => XS.iconst X0.here hx rfl (hb hby d1_45) k) ?_
            by_cases hc46_31 : i = (5 : Int32)
            · skip
              refine own_by (T' := s₁) (g' := (mkF m 49 #[.val (.int i)] [])) (fun _ k => XS.icmpNo X0.here hx rfl (hb hby d1_46) rfl (teq hc46_31).2 k) ?_
              obtain ⟨T32, X32, e32, st32⟩ := getS2 X0 hx hZ hown (host := "") (Or.inl (hw _ (List.mem_of_getElem? (i := 36) rfl))) Via.refl e0 S_SET_OWNER (g := (mkF m 49 #[.val (.int i)] [])) rfl (hb hby d1_49)
              refine own_by (T' := T32) (g' := (mkF m 52 #[.val (.int i)] [(.ref a_SET_OWNER)])) (fun _ k => st32 _ k) ?_
              refine own_ret X32 hlk (v := some (.ref a_SET_OWNER)) (fun h => by rw [Bd.returns] at h; cases h) (fun fs hr => retOut X32 hx Bd.returns rfl (Or.inr (Or.inr (Or.inr (Or.inr ⟨rfl, rfl, rfl⟩)))) (hb hby d1_52) hr) ?_ (by decide) (by decide)
              rw [e32]
              exact ⟨congrArg (fun z => some (Value.ref z)) (((((((if_neg hc1_21).trans (if_neg hc10_23)).trans (if_neg hc19_25)).trans (if_neg hc28_27)).trans (if_neg hc37_29)).trans (if_pos hc46_31))).symm, N0, rfl⟩
            · skip
              refine own_by (T' := s₁) (g' := (mkF m 53 #[.val (.int i)] [])) (fun _ k => XS.icmpYes X0.here hx rfl (pc0 := 46) (pc' := 53) rfl (hb hby d1_46) rfl (feq hc46_31).2 (by decide) (by decide) k) ?_
              obtain ⟨T33, X33, e33, st33⟩ := getS2 X0 hx hZ hown (host := "") (Or.inl (hw _ (List.mem_of_getElem? (i := 34) rfl))) Via.refl e0 S_SET_PERMISSION (g := (mkF m 53 #[.val (.int i)] [])) rfl (hb hby d1_53)
              refine own_by (T' := T33) (g' := (mkF m 56 #[.val (.int i)] [(.ref a_SET_PERMISSION)])) (fun _ k => st33 _ k) ?_
              refine own_ret X33 hlk (v := some (.ref a_SET_PERMISSION)) (fun h => by rw [Bd.returns] at h; cases h) (fun fs hr => retOut X33 hx Bd.returns rfl (Or.inr (Or.inr (Or.inr (Or.inr ⟨rfl, rfl, rfl⟩)))) (hb hby d1_56) hr) ?_ (by decide) (by decide)
              rw [e33]
              exact ⟨congrArg (fun z => some (Value.ref z)) (((((((if_neg hc1_21).trans (if_neg hc10_23)).trans (if_neg hc19_25)).trans (if_neg hc28_27)).trans (if_neg hc37_29)).trans (if_neg hc46_31))).symm, N0, rfl⟩
theorem pn_0 : plainName "com/example/nisaba/nisaba/item/PermissionInPinLaw" = true := by first | (simp [plainName, overriddenIn]; done) | decide +kernel
theorem ef_rm0 (m : MethodId) (u : Int32) (g : Int32) : entryFrame m #[(.int u), (.int g)] maxLocals = mkF m 0 #[.val (.int u), .val (.int g), .unset, .unset, .unset] [] := by first | (simp [entryFrame, mkF, argsToLocals, Value.category, maxLocals]; done) | rfl
def Q_rm0 (Z : State) (u : Int32) (g : Int32) (a_READ : Addr) (a_USE : Addr) (a_RESTRICTED_WRITE : Addr) (a_WRITE : Addr) (a_DELETE : Addr) (a_SET_OWNER : Addr) (a_SET_PERMISSION : Addr) (h0 : Heap) (n0 : Nat) (v : Option Value) (h : Heap) (L : List Loc) : Prop := v = some (.int 1) ∧ Fr n0 L
set_option maxRecDepth 65536 in
set_option maxHeartbeats 40000000 in
theorem rm0 (l : Launch) (Z : State) (a0 : Array Value) (hw : ∀ d ∈ tables_1, d.before a0 Z = true) (ws : List Jvm.Cond) (u : Int32) (g : Int32) (a_READ : Addr) (a_USE : Addr) (a_RESTRICTED_WRITE : Addr) (a_WRITE : Addr) (a_DELETE : Addr) (a_SET_OWNER : Addr) (a_SET_PERMISSION : Addr) (h0 : Heap) (n0 : Nat) (Z0 : n0 ≤ h0.size) (S_READ : Sta Z h0 "com/example/nisaba/nisaba/item/Permission" "READ" "Lcom/example/nisaba/nisaba/item/Permission;" (.ref a_READ)) (S_USE : Sta Z h0 "com/example/nisaba/nisaba/item/Permission" "USE" "Lcom/example/nisaba/nisaba/item/Permission;" (.ref a_USE)) (S_RESTRICTED_WRITE : Sta Z h0 "com/example/nisaba/nisaba/item/Permission" "RESTRICTED_WRITE" "Lcom/example/nisaba/nisaba/item/Permission;" (.ref a_RESTRICTED_WRITE)) (S_WRITE : Sta Z h0 "com/example/nisaba/nisaba/item/Permission" "WRITE" "Lcom/example/nisaba/nisaba/item/Permission;" (.ref a_WRITE)) (S_DELETE : Sta Z h0 "com/example/nisaba/nisaba/item/Permission" "DELETE" "Lcom/example/nisaba/nisaba/item/Permission;" (.ref a_DELETE)) (S_SET_OWNER : Sta Z h0 "com/example/nisaba/nisaba/item/Permission" "SET_OWNER" "Lcom/example/nisaba/nisaba/item/Permission;" (.ref a_SET_OWNER)) (S_SET_PERMISSION : Sta Z h0 "com/example/nisaba/nisaba/item/Permission" "SET_PERMISSION" "Lcom/example/nisaba/nisaba/item/Permission;" (.ref a_SET_PERMISSION)) (E_a_READ : Exa Z h0 a_READ "com/example/nisaba/nisaba/item/Permission") (E_a_USE : Exa Z h0 a_USE "com/example/nisaba/nisaba/item/Permission") (E_a_RESTRICTED_WRITE : Exa Z h0 a_RESTRICTED_WRITE "com/example/nisaba/nisaba/item/Permission") (E_a_WRITE : Exa Z h0 a_WRITE "com/example/nisaba/nisaba/item/Permission") (E_a_DELETE : Exa Z h0 a_DELETE "com/example/nisaba/nisaba/item/Permission") (E_a_SET_OWNER : Exa Z h0 a_SET_OWNER "com/example/nisaba/nisaba/item/Permission") (E_a_SET_PERMISSION : Exa Z h0 a_SET_PERMISSION "com/example/nisaba/nisaba/item/Permission") (F_code_a_READ : Fld Z h0 a_READ "com/example/nisaba/nisaba/item/Permission" "code" "I" (.int (1 : Int32))) (F_code_a_USE : Fld Z h0 a_USE "com/example/nisaba/nisaba/item/Permission" "code" "I" (.int (3 : Int32))) (F_code_a_RESTRICTED_WRITE : Fld Z h0 a_RESTRICTED_WRITE "com/example/nisaba/nisaba/item/Permission" "code" "I" (.int (7 : Int32))) (F_code_a_WRITE : Fld Z h0 a_WRITE "com/example/nisaba/nisaba/item/Permission" "code" "I" (.int (15 : Int32))) (F_code_a_DELETE : Fld Z h0 a_DELETE "com/example/nisaba/nisaba/item/Permission" "code" "I" (.int (31 : Int32))) (F_code_a_SET_OWNER : Fld Z h0 a_SET_OWNER "com/example/nisaba/nisaba/item/Permission" "code" "I" (.int (47 : Int32))) (F_code_a_SET_PERMISSION : Fld Z h0 a_SET_PERMISSION "com/example/nisaba/nisaba/item/Permission" "code" "I" (.int (79 : Int32))) :
    MetFree l x (head1 (Jvm.Cond.code x code maxLocals ret :: ws) room_1) (fun zz UU => zz = #[(.int u), (.int g)] ∧ Z.Warmed39 UU.vm ∧ UU.heap = h0) (fun _ _ _ _ _ => True) (fun _ U o U' => ∃ v L, o = .returned v ∧ Q_rm0 Z u g a_READ a_USE a_RESTRICTED_WRITE a_WRITE a_DELETE a_SET_OWNER a_SET_PERMISSION h0 n0 v U'.heap L ∧ FrameEnd U o U' L 0 0) := by
  refine MetFree.of_bodySF (plainFor_of_name pn_0) hisR ?_
  intro p e s m args below meth c s₁ Bd hml0 hP hK
  obtain ⟨rfl, hZ, hh⟩ := hP
  have hx := Bd.exec
  have hby := Bd.bytes
  have hml : c.maxLocals = 5 := hml0
  have hown : s.vm.findClass "com/example/nisaba/nisaba/item/PermissionInPinLaw" = some m.cls := findClass_of_methodNamed Bd.named
  have hnm := (name_of_methodNamed Bd.named Bd.method).1
  have hlk : meth.locks = false := BodyLoose.notSynchronized Bd
  have X0 : Stand p l e room_1 s m #[(.int u), (.int g)] below meth c s₁ [] 0 0 := Stand.of_body Bd
  have e0 : s₁.heap = h0 := by rw [← hh, Bd.state]; rfl
  have N0 := Fr.nil n0
  show own_Go p.tables e below (Q_rm0 Z u g a_READ a_USE a_RESTRICTED_WRITE a_WRITE a_DELETE a_SET_OWNER a_SET_PERMISSION h0 n0) s 0 0 s₁ (entryFrame m #[(.int u), (.int g)] maxLocals)
  rw [ef_rm0 m u g]
  refine own_by (T' := s₁) (g' := (mkF m 1 #[.val (.int u), .val (.int g), .unset, .unset, .unset] [(.int u)])) (fun _ k => XS.iloadN X0.here hx rfl (hb hby at_0) rfl k) ?_
  refine own_by (T' := s₁) (g' := (mkF m 3 #[.val (.int u), .val (.int g), .unset, .unset, .unset] [(.int (2147483647 : Int32)), (.int u)])) (fun _ k => ldcI X0 hx hown (mvT hZ (hw _ (List.mem_of_getElem? (i := 0) rfl))) rfl (hb hby at_1) k) ?_
  refine own_by (T' := s₁) (g' := (mkF m 4 #[.val (.int u), .val (.int g), .unset, .unset, .unset] [(.int (u &&& (2147483647 : Int32)))])) (fun _ k => XS.iand X0.here hx rfl (hb hby at_3) rfl k) ?_
  refine own_by (T' := s₁) (g' := (mkF m 6 #[.val (.int u), .val (.int g), .unset, .unset, .unset] [(.int (7 : Int32)), (.int (u &&& (2147483647 : Int32)))])) (fun _ k => XS.bipush X0.here hx rfl (hb hby at_4) k) ?_
  refine own_by (T' := s₁) (g' := (mkF m 7 #[.val (.int u), .val (.int g), .unset, .unset, .unset] [(.int ((u &&& (2147483647 : Int32)) % (7 : Int32)))])) (fun _ k => iremM X0 hx rfl (hb hby at_6) rfl (by decide) k) ?_
  refine own_by (T' := s₁) (g' := (mkF m 8 #[.val (.int u), .val (.int g), .val (.int ((u &&& (2147483647 : Int32)) % (7 : Int32))), .unset, .unset] [])) (fun _ k => XS.istoreN X0.here hx rfl (hb hby at_7) rfl (l' := #[.val (.int u), .val (.int g), .val (.int ((u &&& (2147483647 : Int32)) % (7 : Int32))), .unset, .unset]) rfl k) ?_
  rcases own_mod7 u with hq21 | hq21 | hq21 | hq21 | hq21 | hq21 | hq21
  · skip
    rw [hq21]
    refine own_by (T' := s₁) (g' := (mkF m 9 #[.val (.int u), .val (.int g), .val (.int (0 : Int32)), .unset, .unset] [(.int (0 : Int32))])) (fun _ k => XS.iloadN X0.here hx rfl (hb hby at_8) rfl k) ?_
    obtain ⟨_, _, ⟨T22, L22, k22, n22⟩, -, X22, ⟨Lc22, hQ22, l22, y22, z22⟩, st22⟩ := Jvm.LawKit.callS X0 hx (y := (⟨"com/example/nisaba/nisaba/item/PermissionInPinLaw", "pick", "(I)Lcom/example/nisaba/nisaba/item/Permission;"⟩ : MethodName)) hown (mvT hZ (hw _ (List.mem_of_getElem? (i := 1) rfl))) (mvT hZ (hw _ (List.mem_of_getElem? (i := 2) rfl))) (mvT hZ (hw _ (List.mem_of_getElem? (i := 3) rfl))) (mvT hZ (hw _ (List.mem_of_getElem? (i := 4) rfl))) (by decide) (backOf (W := 0) (rm1 l Z a0 hw [] (0 : Int32) a_READ a_USE a_RESTRICTED_WRITE a_WRITE a_DELETE a_SET_OWNER a_SET_PERMISSION h0 n0 Z0 S_READ S_USE S_RESTRICTED_WRITE S_WRITE S_DELETE S_SET_OWNER S_SET_PERMISSION) hZ (hw _ (List.mem_of_getElem? (i := 4) rfl)) (hw _ (List.mem_of_getElem? (i := 3) rfl)) (by decide) (by decide)) (g := (mkF m 9 #[.val (.int u), .val (.int g), .val (.int (0 : Int32)), .unset, .unset] [(.int (0 : Int32))])) rfl (by rw [hml]; rfl) (argsL := [(.int (0 : Int32))]) (rest := []) (lenOf pd_2 rfl) rfl (by show 2 * 0 + _ ≤ _; exact Nat.le_of_eq rfl) (hb hby at_9) (fun _ _ => ⟨rfl, e0, (by decide : 0 + 0 ≤ _), (by decide : 0 + 0 ≤ _)⟩)
    dsimp only [Pt.U, Pt.locs, Pt.cells, Pt.slots] at X22 l22 y22 z22 st22 hQ22
    subst l22 y22 z22
    obtain ⟨rfl, N22q, e22⟩ := hQ22
    have N22 := Fr.app N0 N22q
    refine own_by (T' := T22) (g' := (mkF m 12 #[.val (.int u), .val (.int g), .val (.int (0 : Int32)), .unset, .unset] [(.ref a_READ)])) (fun _ k => st22 _ k) ?_
    refine own_by (T' := T22) (g' := (mkF m 13 #[.val (.int u), .val (.int g), .val (.int (0 : Int32)), .val (.ref a_READ), .unset] [])) (fun _ k => XS.astoreN X22.here hx rfl (hb hby at_12) rfl rfl (l' := #[.val (.int u), .val (.int g), .val (.int (0 : Int32)), .val (.ref a_READ), .unset]) rfl k) ?_
    refine own_by (T' := T22) (g' := (mkF m 14 #[.val (.int u), .val (.int g), .val (.int (0 : Int32)), .val (.ref a_READ), .unset] [(.int g)])) (fun _ k => XS.iloadN X22.here hx rfl (hb hby at_13) rfl k) ?_
    refine own_by (T' := T22) (g' := (mkF m 15 #[.val (.int u), .val (.int g), .val (.int (0 : Int32)), .val (.ref a_READ), .unset] [(.int (0 : Int32)), (.int g)])) (fun _ k => XS.iloadN X22.here hx rfl (hb hby at_14) rfl k) ?_
    refine own_by (T' := T22) (g' := (mkF m 16 #[.val (.int u), .val (.int g), .val (.int (0 : Int32)), .val (.ref a_READ), .unset] [(.int ((g.toUInt32 >>> ((0 : Int32) &&& 31).toUInt32).toInt32))])) (fun _ k => XS.iushr X22.here hx rfl (hb hby at_15) rfl k) ?_
    refine own_by (T' := T22) (g' := (mkF m 17 #[.val (.int u), .val (.int g), .val (.int (0 : Int32)), .val (.ref a_READ), .unset] [(.int (1 : Int32)), (.int ((g.toUInt32 >>> ((0 : Int32) &&& 31).toUInt32).toInt32))])) (fun _ k => XS.iconst X22.here hx rfl (hb hby at_16) k) ?_
    refine own_by (T' := T22) (g' := (mkF m 18 #[.val (.int u), .val (.int g), .val (.int (0 : Int32)), .val (.ref a_READ), .unset] [(.int (((g.toUInt32 >>> ((0 : Int32) &&& 31).toUInt32).toInt32) &&& (1 : Int32)))])) (fun _ k => XS.iand X22.here hx rfl (hb hby at_17) rfl k) ?_
    refine own_by (T' := T22) (g' := (mkF m 19 #[.val (.int u), .val (.int g), .val (.int (0 : Int32)), .val (.ref a_READ), .unset] [(.int (1 : Int32)), (.int (((g.toUInt32 >>> ((0 : Int32) &&& 31).toUInt32).toInt32) &&& (1 : Int32)))])) (fun _ k => XS.iconst X22.here hx rfl (hb hby at_18) k) ?_
    have J24 : ∀ (j23 : Int32) (hv_j23 : j23 = (if (((g.toUInt32 >>> ((0 : Int32) &&& 31).toUInt32).toInt32) &&& (1 : Int32)) = (1 : Int32) then (1 : Int32) else (0 : Int32))) (T25 : State) (_ : Stand p l e room_1 s m #[(.int u), (.int g)] below meth c T25 L22 (0 + 0) (0 + 0)) (_ : T25.heap = h0), own_Go p.tables e below (Q_rm0 Z u g a_READ a_USE a_RESTRICTED_WRITE a_WRITE a_DELETE a_SET_OWNER a_SET_PERMISSION h0 n0) s 0 0 T25 (mkF m 27 #[.val (.int u), .val (.int g), .val (.int (0 : Int32)), .val (.ref a_READ), .unset] [(.int j23)]) := by
      intro j23 hv_j23 T25 X25 e25
      refine own_by (T' := T25) (g' := (mkF m 29 #[.val (.int u), .val (.int g), .val (.int (0 : Int32)), .val (.ref a_READ), .val (.int j23)] [])) (fun _ k => XS.istore X25.here hx rfl (hb hby at_27) rfl (l' := #[.val (.int u), .val (.int g), .val (.int (0 : Int32)), .val (.ref a_READ), .val (.int j23)]) rfl k) ?_
      refine own_by (T' := T25) (g' := (mkF m 30 #[.val (.int u), .val (.int g), .val (.int (0 : Int32)), .val (.ref a_READ), .val (.int j23)] [(.ref a_READ)])) (fun _ k => XS.aloadN X25.here hx rfl (hb hby at_29) rfl rfl k) ?_
      refine own_by (T' := T25) (g' := (mkF m 31 #[.val (.int u), .val (.int g), .val (.int (0 : Int32)), .val (.ref a_READ), .val (.int j23)] [(.int g), (.ref a_READ)])) (fun _ k => XS.iloadN X25.here hx rfl (hb hby at_30) rfl k) ?_
      obtain ⟨cq26, kq26, q26a, q26b, q26c⟩ := isOf hZ e25 E_a_READ
      obtain ⟨_, _, ⟨T26, L26, k26, n26⟩, -, X26, ⟨Lc26, hQ26, l26, y26, z26⟩, st26⟩ := X25.virtualBack hx (y := (⟨"com/example/nisaba/nisaba/item/Permission", "in", "(I)Z"⟩ : MethodName)) (z := (⟨"com/example/nisaba/nisaba/item/Permission", "in", "(I)Z"⟩ : MethodName)) hown (mvT hZ (hw _ (List.mem_of_getElem? (i := 8) rfl))) (mvT hZ (hw _ (List.mem_of_getElem? (i := 9) rfl))) (notFace_of_selects (args := #[]) (mvT hZ (hw _ (List.mem_of_getElem? (i := 11) rfl)))) (mvT hZ (hw _ (List.mem_of_getElem? (i := 11) rfl))) (mvT hZ (hw _ (List.mem_of_getElem? (i := 10) rfl))) (by decide) (backOf (W := 0) (in_1 l Z a0 hw [] a_READ g  h0 n0 Z0 E_a_READ F_code_a_READ) hZ (hw _ (List.mem_of_getElem? (i := 12) rfl)) (hw _ (List.mem_of_getElem? (i := 6) rfl)) (by decide) (by decide)) q26a q26c (g := (mkF m 31 #[.val (.int u), .val (.int g), .val (.int (0 : Int32)), .val (.ref a_READ), .val (.int j23)] [(.int g), (.ref a_READ)])) rfl (by rw [hml]; rfl) (Steps.refl _) (argsL := [(.int g)]) (rest := []) (lenOf pd_3 rfl) rfl (by show 2 * 0 + _ ≤ _; exact Nat.le_of_eq rfl) (hb hby at_31) (fun _ _ => ⟨rfl, e25, (by decide : (0 + 0) + 0 ≤ _), (by decide : (0 + 0) + 0 ≤ _)⟩)
      dsimp only [Pt.U, Pt.locs, Pt.cells, Pt.slots] at X26 l26 y26 z26 st26 hQ26
      subst l26 y26 z26
      obtain ⟨rfl, N26q, e26⟩ := hQ26
      have N26 := Fr.app N22 N26q
      refine own_by (T' := T26) (g' := (mkF m 34 #[.val (.int u), .val (.int g), .val (.int (0 : Int32)), .val (.ref a_READ), .val (.int j23)] [(.int (own_in g (1 : Int32)))])) (fun _ k => st26.trans k) ?_
      refine own_by (T' := T26) (g' := (mkF m 36 #[.val (.int u), .val (.int g), .val (.int (0 : Int32)), .val (.ref a_READ), .val (.int j23)] [(.int j23), (.int (own_in g (1 : Int32)))])) (fun _ k => XS.iload X26.here hx rfl (hb hby at_34) rfl k) ?_
      refine own_by (T' := T26) (g' := (mkF m 39 #[.val (.int u), .val (.int g), .val (.int (0 : Int32)), .val (.ref a_READ), .val (.int j23)] [])) (fun _ k => XS.icmpNo X26.here hx rfl (hb hby at_36) rfl (teq ((hv_j23.trans (own_bit0 g)).symm)).2 k) ?_
      refine own_by (T' := T26) (g' := (mkF m 40 #[.val (.int u), .val (.int g), .val (.int (0 : Int32)), .val (.ref a_READ), .val (.int j23)] [(.int (1 : Int32))])) (fun _ k => XS.iconst X26.here hx rfl (hb hby at_39) k) ?_
      refine own_by (T' := T26) (g' := (mkF m 44 #[.val (.int u), .val (.int g), .val (.int (0 : Int32)), .val (.ref a_READ), .val (.int j23)] [(.int (1 : Int32))])) (fun _ k => XS.goto X26.here hx rfl (pc0 := 40) (pc' := 44) rfl (hb hby at_40) (by decide) (by decide) k) ?_
      refine own_ret X26 hlk (v := some (.int (1 : Int32))) (fun h => by rw [Bd.returns] at h; cases h) (fun fs hr => retN X26 hx (t := .boolean) Bd.returns (by simp) (hb hby at_44) hr) ?_ (by decide) (by decide)
      rw [e26]
      exact ⟨rfl, N26⟩
    by_cases hc19_27 : (((g.toUInt32 >>> ((0 : Int32) &&& 31).toUInt32).toInt32) &&& (1 : Int32)) = (1 : Int32)
    · skip
      refine own_by (T' := T22) (g' := (mkF m 22 #[.val (.int u), .val (.int g), .val (.int (0 : Int32)), .val (.ref a_READ), .unset] [])) (fun _ k => XS.icmpNo X22.here hx rfl (hb hby at_19) rfl (teq hc19_27).2 k) ?_
      refine own_by (T' := T22) (g' := (mkF m 23 #[.val (.int u), .val (.int g), .val (.int (0 : Int32)), .val (.ref a_READ), .unset] [(.int (1 : Int32))])) (fun _ k => XS.iconst X22.here hx rfl (hb hby at_22) k) ?_
      refine own_by (T' := T22) (g' := (mkF m 27 #[.val (.int u), .val (.int g), .val (.int (0 : Int32)), .val (.ref a_READ), .unset] [(.int (1 : Int32))])) (fun _ k => XS.goto X22.here hx rfl (pc0 := 23) (pc' := 27) rfl (hb hby at_23) (by decide) (by decide) k) ?_
      exact J24 _ (if_pos hc19_27).symm T22 X22 e22
    · skip
      refine own_by (T' := T22) (g' := (mkF m 26 #[.val (.int u), .val (.int g), .val (.int (0 : Int32)), .val (.ref a_READ), .unset] [])) (fun _ k => XS.icmpYes X22.here hx rfl (pc0 := 19) (pc' := 26) rfl (hb hby at_19) rfl (feq hc19_27).2 (by decide) (by decide) k) ?_
      refine own_by (T' := T22) (g' := (mkF m 27 #[.val (.int u), .val (.int g), .val (.int (0 : Int32)), .val (.ref a_READ), .unset] [(.int (0 : Int32))])) (fun _ k => XS.iconst X22.here hx rfl (hb hby at_26) k) ?_
      exact J24 _ (if_neg hc19_27).symm T22 X22 e22
  · skip
    rw [hq21]
    refine own_by (T' := s₁) (g' := (mkF m 9 #[.val (.int u), .val (.int g), .val (.int (1 : Int32)), .unset, .unset] [(.int (1 : Int32))])) (fun _ k => XS.iloadN X0.here hx rfl (hb hby at_8) rfl k) ?_
    obtain ⟨_, _, ⟨T28, L28, k28, n28⟩, -, X28, ⟨Lc28, hQ28, l28, y28, z28⟩, st28⟩ := Jvm.LawKit.callS X0 hx (y := (⟨"com/example/nisaba/nisaba/item/PermissionInPinLaw", "pick", "(I)Lcom/example/nisaba/nisaba/item/Permission;"⟩ : MethodName)) hown (mvT hZ (hw _ (List.mem_of_getElem? (i := 1) rfl))) (mvT hZ (hw _ (List.mem_of_getElem? (i := 2) rfl))) (mvT hZ (hw _ (List.mem_of_getElem? (i := 3) rfl))) (mvT hZ (hw _ (List.mem_of_getElem? (i := 4) rfl))) (by decide) (backOf (W := 0) (rm1 l Z a0 hw [] (1 : Int32) a_READ a_USE a_RESTRICTED_WRITE a_WRITE a_DELETE a_SET_OWNER a_SET_PERMISSION h0 n0 Z0 S_READ S_USE S_RESTRICTED_WRITE S_WRITE S_DELETE S_SET_OWNER S_SET_PERMISSION) hZ (hw _ (List.mem_of_getElem? (i := 4) rfl)) (hw _ (List.mem_of_getElem? (i := 3) rfl)) (by decide) (by decide)) (g := (mkF m 9 #[.val (.int u), .val (.int g), .val (.int (1 : Int32)), .unset, .unset] [(.int (1 : Int32))])) rfl (by rw [hml]; rfl) (argsL := [(.int (1 : Int32))]) (rest := []) (lenOf pd_2 rfl) rfl (by show 2 * 0 + _ ≤ _; exact Nat.le_of_eq rfl) (hb hby at_9) (fun _ _ => ⟨rfl, e0, (by decide : 0 + 0 ≤ _), (by decide : 0 + 0 ≤ _)⟩)
    dsimp only [Pt.U, Pt.locs, Pt.cells, Pt.slots] at X28 l28 y28 z28 st28 hQ28
    subst l28 y28 z28
    obtain ⟨rfl, N28q, e28⟩ := hQ28
    have N28 := Fr.app N0 N28q
    refine own_by (T' := T28) (g' := (mkF m 12 #[.val (.int u), .val (.int g), .val (.int (1 : Int32)), .unset, .unset] [(.ref a_USE)])) (fun _ k => st28 _ k) ?_
    refine own_by (T' := T28) (g' := (mkF m 13 #[.val (.int u), .val (.int g), .val (.int (1 : Int32)), .val (.ref a_USE), .unset] [])) (fun _ k => XS.astoreN X28.here hx rfl (hb hby at_12) rfl rfl (l' := #[.val (.int u), .val (.int g), .val (.int (1 : Int32)), .val (.ref a_USE), .unset]) rfl k) ?_
    refine own_by (T' := T28) (g' := (mkF m 14 #[.val (.int u), .val (.int g), .val (.int (1 : Int32)), .val (.ref a_USE), .unset] [(.int g)])) (fun _ k => XS.iloadN X28.here hx rfl (hb hby at_13) rfl k) ?_
    refine own_by (T' := T28) (g' := (mkF m 15 #[.val (.int u), .val (.int g), .val (.int (1 : Int32)), .val (.ref a_USE), .unset] [(.int (1 : Int32)), (.int g)])) (fun _ k => XS.iloadN X28.here hx rfl (hb hby at_14) rfl k) ?_
    refine own_by (T' := T28) (g' := (mkF m 16 #[.val (.int u), .val (.int g), .val (.int (1 : Int32)), .val (.ref a_USE), .unset] [(.int ((g.toUInt32 >>> ((1 : Int32) &&& 31).toUInt32).toInt32))])) (fun _ k => XS.iushr X28.here hx rfl (hb hby at_15) rfl k) ?_
    refine own_by (T' := T28) (g' := (mkF m 17 #[.val (.int u), .val (.int g), .val (.int (1 : Int32)), .val (.ref a_USE), .unset] [(.int (1 : Int32)), (.int ((g.toUInt32 >>> ((1 : Int32) &&& 31).toUInt32).toInt32))])) (fun _ k => XS.iconst X28.here hx rfl (hb hby at_16) k) ?_
    refine own_by (T' := T28) (g' := (mkF m 18 #[.val (.int u), .val (.int g), .val (.int (1 : Int32)), .val (.ref a_USE), .unset] [(.int (((g.toUInt32 >>> ((1 : Int32) &&& 31).toUInt32).toInt32) &&& (1 : Int32)))])) (fun _ k => XS.iand X28.here hx rfl (hb hby at_17) rfl k) ?_
    refine own_by (T' := T28) (g' := (mkF m 19 #[.val (.int u), .val (.int g), .val (.int (1 : Int32)), .val (.ref a_USE), .unset] [(.int (1 : Int32)), (.int (((g.toUInt32 >>> ((1 : Int32) &&& 31).toUInt32).toInt32) &&& (1 : Int32)))])) (fun _ k => XS.iconst X28.here hx rfl (hb hby at_18) k) ?_
    have J30 : ∀ (j29 : Int32) (hv_j29 : j29 = (if (((g.toUInt32 >>> ((1 : Int32) &&& 31).toUInt32).toInt32) &&& (1 : Int32)) = (1 : Int32) then (1 : Int32) else (0 : Int32))) (T31 : State) (_ : Stand p l e room_1 s m #[(.int u), (.int g)] below meth c T31 L28 (0 + 0) (0 + 0)) (_ : T31.heap = h0), own_Go p.tables e below (Q_rm0 Z u g a_READ a_USE a_RESTRICTED_WRITE a_WRITE a_DELETE a_SET_OWNER a_SET_PERMISSION h0 n0) s 0 0 T31 (mkF m 27 #[.val (.int u), .val (.int g), .val (.int (1 : Int32)), .val (.ref a_USE), .unset] [(.int j29)]) := by
      intro j29 hv_j29 T31 X31 e31
      refine own_by (T' := T31) (g' := (mkF m 29 #[.val (.int u), .val (.int g), .val (.int (1 : Int32)), .val (.ref a_USE), .val (.int j29)] [])) (fun _ k => XS.istore X31.here hx rfl (hb hby at_27) rfl (l' := #[.val (.int u), .val (.int g), .val (.int (1 : Int32)), .val (.ref a_USE), .val (.int j29)]) rfl k) ?_
      refine own_by (T' := T31) (g' := (mkF m 30 #[.val (.int u), .val (.int g), .val (.int (1 : Int32)), .val (.ref a_USE), .val (.int j29)] [(.ref a_USE)])) (fun _ k => XS.aloadN X31.here hx rfl (hb hby at_29) rfl rfl k) ?_
      refine own_by (T' := T31) (g' := (mkF m 31 #[.val (.int u), .val (.int g), .val (.int (1 : Int32)), .val (.ref a_USE), .val (.int j29)] [(.int g), (.ref a_USE)])) (fun _ k => XS.iloadN X31.here hx rfl (hb hby at_30) rfl k) ?_
      obtain ⟨cq32, kq32, q32a, q32b, q32c⟩ := isOf hZ e31 E_a_USE
      obtain ⟨_, _, ⟨T32, L32, k32, n32⟩, -, X32, ⟨Lc32, hQ32, l32, y32, z32⟩, st32⟩ := X31.virtualBack hx (y := (⟨"com/example/nisaba/nisaba/item/Permission", "in", "(I)Z"⟩ : MethodName)) (z := (⟨"com/example/nisaba/nisaba/item/Permission", "in", "(I)Z"⟩ : MethodName)) hown (mvT hZ (hw _ (List.mem_of_getElem? (i := 8) rfl))) (mvT hZ (hw _ (List.mem_of_getElem? (i := 9) rfl))) (notFace_of_selects (args := #[]) (mvT hZ (hw _ (List.mem_of_getElem? (i := 11) rfl)))) (mvT hZ (hw _ (List.mem_of_getElem? (i := 11) rfl))) (mvT hZ (hw _ (List.mem_of_getElem? (i := 10) rfl))) (by decide) (backOf (W := 0) (in_3 l Z a0 hw [] a_USE g  h0 n0 Z0 E_a_USE F_code_a_USE) hZ (hw _ (List.mem_of_getElem? (i := 12) rfl)) (hw _ (List.mem_of_getElem? (i := 6) rfl)) (by decide) (by decide)) q32a q32c (g := (mkF m 31 #[.val (.int u), .val (.int g), .val (.int (1 : Int32)), .val (.ref a_USE), .val (.int j29)] [(.int g), (.ref a_USE)])) rfl (by rw [hml]; rfl) (Steps.refl _) (argsL := [(.int g)]) (rest := []) (lenOf pd_3 rfl) rfl (by show 2 * 0 + _ ≤ _; exact Nat.le_of_eq rfl) (hb hby at_31) (fun _ _ => ⟨rfl, e31, (by decide : (0 + 0) + 0 ≤ _), (by decide : (0 + 0) + 0 ≤ _)⟩)
      dsimp only [Pt.U, Pt.locs, Pt.cells, Pt.slots] at X32 l32 y32 z32 st32 hQ32
      subst l32 y32 z32
      obtain ⟨rfl, N32q, e32⟩ := hQ32
      have N32 := Fr.app N28 N32q
      refine own_by (T' := T32) (g' := (mkF m 34 #[.val (.int u), .val (.int g), .val (.int (1 : Int32)), .val (.ref a_USE), .val (.int j29)] [(.int (own_in g (2 : Int32)))])) (fun _ k => st32.trans k) ?_
      refine own_by (T' := T32) (g' := (mkF m 36 #[.val (.int u), .val (.int g), .val (.int (1 : Int32)), .val (.ref a_USE), .val (.int j29)] [(.int j29), (.int (own_in g (2 : Int32)))])) (fun _ k => XS.iload X32.here hx rfl (hb hby at_34) rfl k) ?_
      refine own_by (T' := T32) (g' := (mkF m 39 #[.val (.int u), .val (.int g), .val (.int (1 : Int32)), .val (.ref a_USE), .val (.int j29)] [])) (fun _ k => XS.icmpNo X32.here hx rfl (hb hby at_36) rfl (teq ((hv_j29.trans (own_bit1 g)).symm)).2 k) ?_
      refine own_by (T' := T32) (g' := (mkF m 40 #[.val (.int u), .val (.int g), .val (.int (1 : Int32)), .val (.ref a_USE), .val (.int j29)] [(.int (1 : Int32))])) (fun _ k => XS.iconst X32.here hx rfl (hb hby at_39) k) ?_
      refine own_by (T' := T32) (g' := (mkF m 44 #[.val (.int u), .val (.int g), .val (.int (1 : Int32)), .val (.ref a_USE), .val (.int j29)] [(.int (1 : Int32))])) (fun _ k => XS.goto X32.here hx rfl (pc0 := 40) (pc' := 44) rfl (hb hby at_40) (by decide) (by decide) k) ?_
      refine own_ret X32 hlk (v := some (.int (1 : Int32))) (fun h => by rw [Bd.returns] at h; cases h) (fun fs hr => retN X32 hx (t := .boolean) Bd.returns (by simp) (hb hby at_44) hr) ?_ (by decide) (by decide)
      rw [e32]
      exact ⟨rfl, N32⟩
    by_cases hc19_33 : (((g.toUInt32 >>> ((1 : Int32) &&& 31).toUInt32).toInt32) &&& (1 : Int32)) = (1 : Int32)
    · skip
      refine own_by (T' := T28) (g' := (mkF m 22 #[.val (.int u), .val (.int g), .val (.int (1 : Int32)), .val (.ref a_USE), .unset] [])) (fun _ k => XS.icmpNo X28.here hx rfl (hb hby at_19) rfl (teq hc19_33).2 k) ?_
      refine own_by (T' := T28) (g' := (mkF m 23 #[.val (.int u), .val (.int g), .val (.int (1 : Int32)), .val (.ref a_USE), .unset] [(.int (1 : Int32))])) (fun _ k => XS.iconst X28.here hx rfl (hb hby at_22) k) ?_
      refine own_by (T' := T28) (g' := (mkF m 27 #[.val (.int u), .val (.int g), .val (.int (1 : Int32)), .val (.ref a_USE), .unset] [(.int (1 : Int32))])) (fun _ k => XS.goto X28.here hx rfl (pc0 := 23) (pc' := 27) rfl (hb hby at_23) (by decide) (by decide) k) ?_
      exact J30 _ (if_pos hc19_33).symm T28 X28 e28
    · skip
      refine own_by (T' := T28) (g' := (mkF m 26 #[.val (.int u), .val (.int g), .val (.int (1 : Int32)), .val (.ref a_USE), .unset] [])) (fun _ k => XS.icmpYes X28.here hx rfl (pc0 := 19) (pc' := 26) rfl (hb hby at_19) rfl (feq hc19_33).2 (by decide) (by decide) k) ?_
      refine own_by (T' := T28) (g' := (mkF m 27 #[.val (.int u), .val (.int g), .val (.int (1 : Int32)), .val (.ref a_USE), .unset] [(.int (0 : Int32))])) (fun _ k => XS.iconst X28.here hx rfl (hb hby at_26) k) ?_
      exact J30 _ (if_neg hc19_33).symm T28 X28 e28
  · skip
    rw [hq21]
    refine own_by (T' := s₁) (g' := (mkF m 9 #[.val (.int u), .val (.int g), .val (.int (2 : Int32)), .unset, .unset] [(.int (2 : Int32))])) (fun _ k => XS.iloadN X0.here hx rfl (hb hby at_8) rfl k) ?_
    obtain ⟨_, _, ⟨T34, L34, k34, n34⟩, -, X34, ⟨Lc34, hQ34, l34, y34, z34⟩, st34⟩ := Jvm.LawKit.callS X0 hx (y := (⟨"com/example/nisaba/nisaba/item/PermissionInPinLaw", "pick", "(I)Lcom/example/nisaba/nisaba/item/Permission;"⟩ : MethodName)) hown (mvT hZ (hw _ (List.mem_of_getElem? (i := 1) rfl))) (mvT hZ (hw _ (List.mem_of_getElem? (i := 2) rfl))) (mvT hZ (hw _ (List.mem_of_getElem? (i := 3) rfl))) (mvT hZ (hw _ (List.mem_of_getElem? (i := 4) rfl))) (by decide) (backOf (W := 0) (rm1 l Z a0 hw [] (2 : Int32) a_READ a_USE a_RESTRICTED_WRITE a_WRITE a_DELETE a_SET_OWNER a_SET_PERMISSION h0 n0 Z0 S_READ S_USE S_RESTRICTED_WRITE S_WRITE S_DELETE S_SET_OWNER S_SET_PERMISSION) hZ (hw _ (List.mem_of_getElem? (i := 4) rfl)) (hw _ (List.mem_of_getElem? (i := 3) rfl)) (by decide) (by decide)) (g := (mkF m 9 #[.val (.int u), .val (.int g), .val (.int (2 : Int32)), .unset, .unset] [(.int (2 : Int32))])) rfl (by rw [hml]; rfl) (argsL := [(.int (2 : Int32))]) (rest := []) (lenOf pd_2 rfl) rfl (by show 2 * 0 + _ ≤ _; exact Nat.le_of_eq rfl) (hb hby at_9) (fun _ _ => ⟨rfl, e0, (by decide : 0 + 0 ≤ _), (by decide : 0 + 0 ≤ _)⟩)
    dsimp only [Pt.U, Pt.locs, Pt.cells, Pt.slots] at X34 l34 y34 z34 st34 hQ34
    subst l34 y34 z34
    obtain ⟨rfl, N34q, e34⟩ := hQ34
    have N34 := Fr.app N0 N34q
    refine own_by (T' := T34) (g' := (mkF m 12 #[.val (.int u), .val (.int g), .val (.int (2 : Int32)), .unset, .unset] [(.ref a_RESTRICTED_WRITE)])) (fun _ k => st34 _ k) ?_
    refine own_by (T' := T34) (g' := (mkF m 13 #[.val (.int u), .val (.int g), .val (.int (2 : Int32)), .val (.ref a_RESTRICTED_WRITE), .unset] [])) (fun _ k => XS.astoreN X34.here hx rfl (hb hby at_12) rfl rfl (l' := #[.val (.int u), .val (.int g), .val (.int (2 : Int32)), .val (.ref a_RESTRICTED_WRITE), .unset]) rfl k) ?_
    refine own_by (T' := T34) (g' := (mkF m 14 #[.val (.int u), .val (.int g), .val (.int (2 : Int32)), .val (.ref a_RESTRICTED_WRITE), .unset] [(.int g)])) (fun _ k => XS.iloadN X34.here hx rfl (hb hby at_13) rfl k) ?_
    refine own_by (T' := T34) (g' := (mkF m 15 #[.val (.int u), .val (.int g), .val (.int (2 : Int32)), .val (.ref a_RESTRICTED_WRITE), .unset] [(.int (2 : Int32)), (.int g)])) (fun _ k => XS.iloadN X34.here hx rfl (hb hby at_14) rfl k) ?_
    refine own_by (T' := T34) (g' := (mkF m 16 #[.val (.int u), .val (.int g), .val (.int (2 : Int32)), .val (.ref a_RESTRICTED_WRITE), .unset] [(.int ((g.toUInt32 >>> ((2 : Int32) &&& 31).toUInt32).toInt32))])) (fun _ k => XS.iushr X34.here hx rfl (hb hby at_15) rfl k) ?_
    refine own_by (T' := T34) (g' := (mkF m 17 #[.val (.int u), .val (.int g), .val (.int (2 : Int32)), .val (.ref a_RESTRICTED_WRITE), .unset] [(.int (1 : Int32)), (.int ((g.toUInt32 >>> ((2 : Int32) &&& 31).toUInt32).toInt32))])) (fun _ k => XS.iconst X34.here hx rfl (hb hby at_16) k) ?_
    refine own_by (T' := T34) (g' := (mkF m 18 #[.val (.int u), .val (.int g), .val (.int (2 : Int32)), .val (.ref a_RESTRICTED_WRITE), .unset] [(.int (((g.toUInt32 >>> ((2 : Int32) &&& 31).toUInt32).toInt32) &&& (1 : Int32)))])) (fun _ k => XS.iand X34.here hx rfl (hb hby at_17) rfl k) ?_
    refine own_by (T' := T34) (g' := (mkF m 19 #[.val (.int u), .val (.int g), .val (.int (2 : Int32)), .val (.ref a_RESTRICTED_WRITE), .unset] [(.int (1 : Int32)), (.int (((g.toUInt32 >>> ((2 : Int32) &&& 31).toUInt32).toInt32) &&& (1 : Int32)))])) (fun _ k => XS.iconst X34.here hx rfl (hb hby at_18) k) ?_
    have J36 : ∀ (j35 : Int32) (hv_j35 : j35 = (if (((g.toUInt32 >>> ((2 : Int32) &&& 31).toUInt32).toInt32) &&& (1 : Int32)) = (1 : Int32) then (1 : Int32) else (0 : Int32))) (T37 : State) (_ : Stand p l e room_1 s m #[(.int u), (.int g)] below meth c T37 L34 (0 + 0) (0 + 0)) (_ : T37.heap = h0), own_Go p.tables e below (Q_rm0 Z u g a_READ a_USE a_RESTRICTED_WRITE a_WRITE a_DELETE a_SET_OWNER a_SET_PERMISSION h0 n0) s 0 0 T37 (mkF m 27 #[.val (.int u), .val (.int g), .val (.int (2 : Int32)), .val (.ref a_RESTRICTED_WRITE), .unset] [(.int j35)]) := by
      intro j35 hv_j35 T37 X37 e37
      refine own_by (T' := T37) (g' := (mkF m 29 #[.val (.int u), .val (.int g), .val (.int (2 : Int32)), .val (.ref a_RESTRICTED_WRITE), .val (.int j35)] [])) (fun _ k => XS.istore X37.here hx rfl (hb hby at_27) rfl (l' := #[.val (.int u), .val (.int g), .val (.int (2 : Int32)), .val (.ref a_RESTRICTED_WRITE), .val (.int j35)]) rfl k) ?_
      refine own_by (T' := T37) (g' := (mkF m 30 #[.val (.int u), .val (.int g), .val (.int (2 : Int32)), .val (.ref a_RESTRICTED_WRITE), .val (.int j35)] [(.ref a_RESTRICTED_WRITE)])) (fun _ k => XS.aloadN X37.here hx rfl (hb hby at_29) rfl rfl k) ?_
      refine own_by (T' := T37) (g' := (mkF m 31 #[.val (.int u), .val (.int g), .val (.int (2 : Int32)), .val (.ref a_RESTRICTED_WRITE), .val (.int j35)] [(.int g), (.ref a_RESTRICTED_WRITE)])) (fun _ k => XS.iloadN X37.here hx rfl (hb hby at_30) rfl k) ?_
      obtain ⟨cq38, kq38, q38a, q38b, q38c⟩ := isOf hZ e37 E_a_RESTRICTED_WRITE
      obtain ⟨_, _, ⟨T38, L38, k38, n38⟩, -, X38, ⟨Lc38, hQ38, l38, y38, z38⟩, st38⟩ := X37.virtualBack hx (y := (⟨"com/example/nisaba/nisaba/item/Permission", "in", "(I)Z"⟩ : MethodName)) (z := (⟨"com/example/nisaba/nisaba/item/Permission", "in", "(I)Z"⟩ : MethodName)) hown (mvT hZ (hw _ (List.mem_of_getElem? (i := 8) rfl))) (mvT hZ (hw _ (List.mem_of_getElem? (i := 9) rfl))) (notFace_of_selects (args := #[]) (mvT hZ (hw _ (List.mem_of_getElem? (i := 11) rfl)))) (mvT hZ (hw _ (List.mem_of_getElem? (i := 11) rfl))) (mvT hZ (hw _ (List.mem_of_getElem? (i := 10) rfl))) (by decide) (backOf (W := 0) (in_7 l Z a0 hw [] a_RESTRICTED_WRITE g  h0 n0 Z0 E_a_RESTRICTED_WRITE F_code_a_RESTRICTED_WRITE) hZ (hw _ (List.mem_of_getElem? (i := 12) rfl)) (hw _ (List.mem_of_getElem? (i := 6) rfl)) (by decide) (by decide)) q38a q38c (g := (mkF m 31 #[.val (.int u), .val (.int g), .val (.int (2 : Int32)), .val (.ref a_RESTRICTED_WRITE), .val (.int j35)] [(.int g), (.ref a_RESTRICTED_WRITE)])) rfl (by rw [hml]; rfl) (Steps.refl _) (argsL := [(.int g)]) (rest := []) (lenOf pd_3 rfl) rfl (by show 2 * 0 + _ ≤ _; exact Nat.le_of_eq rfl) (hb hby at_31) (fun _ _ => ⟨rfl, e37, (by decide : (0 + 0) + 0 ≤ _), (by decide : (0 + 0) + 0 ≤ _)⟩)
      dsimp only [Pt.U, Pt.locs, Pt.cells, Pt.slots] at X38 l38 y38 z38 st38 hQ38
      subst l38 y38 z38
      obtain ⟨rfl, N38q, e38⟩ := hQ38
      have N38 := Fr.app N34 N38q
      refine own_by (T' := T38) (g' := (mkF m 34 #[.val (.int u), .val (.int g), .val (.int (2 : Int32)), .val (.ref a_RESTRICTED_WRITE), .val (.int j35)] [(.int (own_in g (4 : Int32)))])) (fun _ k => st38.trans k) ?_
      refine own_by (T' := T38) (g' := (mkF m 36 #[.val (.int u), .val (.int g), .val (.int (2 : Int32)), .val (.ref a_RESTRICTED_WRITE), .val (.int j35)] [(.int j35), (.int (own_in g (4 : Int32)))])) (fun _ k => XS.iload X38.here hx rfl (hb hby at_34) rfl k) ?_
      refine own_by (T' := T38) (g' := (mkF m 39 #[.val (.int u), .val (.int g), .val (.int (2 : Int32)), .val (.ref a_RESTRICTED_WRITE), .val (.int j35)] [])) (fun _ k => XS.icmpNo X38.here hx rfl (hb hby at_36) rfl (teq ((hv_j35.trans (own_bit2 g)).symm)).2 k) ?_
      refine own_by (T' := T38) (g' := (mkF m 40 #[.val (.int u), .val (.int g), .val (.int (2 : Int32)), .val (.ref a_RESTRICTED_WRITE), .val (.int j35)] [(.int (1 : Int32))])) (fun _ k => XS.iconst X38.here hx rfl (hb hby at_39) k) ?_
      refine own_by (T' := T38) (g' := (mkF m 44 #[.val (.int u), .val (.int g), .val (.int (2 : Int32)), .val (.ref a_RESTRICTED_WRITE), .val (.int j35)] [(.int (1 : Int32))])) (fun _ k => XS.goto X38.here hx rfl (pc0 := 40) (pc' := 44) rfl (hb hby at_40) (by decide) (by decide) k) ?_
      refine own_ret X38 hlk (v := some (.int (1 : Int32))) (fun h => by rw [Bd.returns] at h; cases h) (fun fs hr => retN X38 hx (t := .boolean) Bd.returns (by simp) (hb hby at_44) hr) ?_ (by decide) (by decide)
      rw [e38]
      exact ⟨rfl, N38⟩
    by_cases hc19_39 : (((g.toUInt32 >>> ((2 : Int32) &&& 31).toUInt32).toInt32) &&& (1 : Int32)) = (1 : Int32)
    · skip
      refine own_by (T' := T34) (g' := (mkF m 22 #[.val (.int u), .val (.int g), .val (.int (2 : Int32)), .val (.ref a_RESTRICTED_WRITE), .unset] [])) (fun _ k => XS.icmpNo X34.here hx rfl (hb hby at_19) rfl (teq hc19_39).2 k) ?_
      refine own_by (T' := T34) (g' := (mkF m 23 #[.val (.int u), .val (.int g), .val (.int (2 : Int32)), .val (.ref a_RESTRICTED_WRITE), .unset] [(.int (1 : Int32))])) (fun _ k => XS.iconst X34.here hx rfl (hb hby at_22) k) ?_
      refine own_by (T' := T34) (g' := (mkF m 27 #[.val (.int u), .val (.int g), .val (.int (2 : Int32)), .val (.ref a_RESTRICTED_WRITE), .unset] [(.int (1 : Int32))])) (fun _ k => XS.goto X34.here hx rfl (pc0 := 23) (pc' := 27) rfl (hb hby at_23) (by decide) (by decide) k) ?_
      exact J36 _ (if_pos hc19_39).symm T34 X34 e34
    · skip
      refine own_by (T' := T34) (g' := (mkF m 26 #[.val (.int u), .val (.int g), .val (.int (2 : Int32)), .val (.ref a_RESTRICTED_WRITE), .unset] [])) (fun _ k => XS.icmpYes X34.here hx rfl (pc0 := 19) (pc' := 26) rfl (hb hby at_19) rfl (feq hc19_39).2 (by decide) (by decide) k) ?_
      refine own_by (T' := T34) (g' := (mkF m 27 #[.val (.int u), .val (.int g), .val (.int (2 : Int32)), .val (.ref a_RESTRICTED_WRITE), .unset] [(.int (0 : Int32))])) (fun _ k => XS.iconst X34.here hx rfl (hb hby at_26) k) ?_
      exact J36 _ (if_neg hc19_39).symm T34 X34 e34
  · skip
    rw [hq21]
    refine own_by (T' := s₁) (g' := (mkF m 9 #[.val (.int u), .val (.int g), .val (.int (3 : Int32)), .unset, .unset] [(.int (3 : Int32))])) (fun _ k => XS.iloadN X0.here hx rfl (hb hby at_8) rfl k) ?_
    obtain ⟨_, _, ⟨T40, L40, k40, n40⟩, -, X40, ⟨Lc40, hQ40, l40, y40, z40⟩, st40⟩ := Jvm.LawKit.callS X0 hx (y := (⟨"com/example/nisaba/nisaba/item/PermissionInPinLaw", "pick", "(I)Lcom/example/nisaba/nisaba/item/Permission;"⟩ : MethodName)) hown (mvT hZ (hw _ (List.mem_of_getElem? (i := 1) rfl))) (mvT hZ (hw _ (List.mem_of_getElem? (i := 2) rfl))) (mvT hZ (hw _ (List.mem_of_getElem? (i := 3) rfl))) (mvT hZ (hw _ (List.mem_of_getElem? (i := 4) rfl))) (by decide) (backOf (W := 0) (rm1 l Z a0 hw [] (3 : Int32) a_READ a_USE a_RESTRICTED_WRITE a_WRITE a_DELETE a_SET_OWNER a_SET_PERMISSION h0 n0 Z0 S_READ S_USE S_RESTRICTED_WRITE S_WRITE S_DELETE S_SET_OWNER S_SET_PERMISSION) hZ (hw _ (List.mem_of_getElem? (i := 4) rfl)) (hw _ (List.mem_of_getElem? (i := 3) rfl)) (by decide) (by decide)) (g := (mkF m 9 #[.val (.int u), .val (.int g), .val (.int (3 : Int32)), .unset, .unset] [(.int (3 : Int32))])) rfl (by rw [hml]; rfl) (argsL := [(.int (3 : Int32))]) (rest := []) (lenOf pd_2 rfl) rfl (by show 2 * 0 + _ ≤ _; exact Nat.le_of_eq rfl) (hb hby at_9) (fun _ _ => ⟨rfl, e0, (by decide : 0 + 0 ≤ _), (by decide : 0 + 0 ≤ _)⟩)
    dsimp only [Pt.U, Pt.locs, Pt.cells, Pt.slots] at X40 l40 y40 z40 st40 hQ40
    subst l40 y40 z40
    obtain ⟨rfl, N40q, e40⟩ := hQ40
    have N40 := Fr.app N0 N40q
    refine own_by (T' := T40) (g' := (mkF m 12 #[.val (.int u), .val (.int g), .val (.int (3 : Int32)), .unset, .unset] [(.ref a_WRITE)])) (fun _ k => st40 _ k) ?_
    refine own_by (T' := T40) (g' := (mkF m 13 #[.val (.int u), .val (.int g), .val (.int (3 : Int32)), .val (.ref a_WRITE), .unset] [])) (fun _ k => XS.astoreN X40.here hx rfl (hb hby at_12) rfl rfl (l' := #[.val (.int u), .val (.int g), .val (.int (3 : Int32)), .val (.ref a_WRITE), .unset]) rfl k) ?_
    refine own_by (T' := T40) (g' := (mkF m 14 #[.val (.int u), .val (.int g), .val (.int (3 : Int32)), .val (.ref a_WRITE), .unset] [(.int g)])) (fun _ k => XS.iloadN X40.here hx rfl (hb hby at_13) rfl k) ?_
    refine own_by (T' := T40) (g' := (mkF m 15 #[.val (.int u), .val (.int g), .val (.int (3 : Int32)), .val (.ref a_WRITE), .unset] [(.int (3 : Int32)), (.int g)])) (fun _ k => XS.iloadN X40.here hx rfl (hb hby at_14) rfl k) ?_
    refine own_by (T' := T40) (g' := (mkF m 16 #[.val (.int u), .val (.int g), .val (.int (3 : Int32)), .val (.ref a_WRITE), .unset] [(.int ((g.toUInt32 >>> ((3 : Int32) &&& 31).toUInt32).toInt32))])) (fun _ k => XS.iushr X40.here hx rfl (hb hby at_15) rfl k) ?_
    refine own_by (T' := T40) (g' := (mkF m 17 #[.val (.int u), .val (.int g), .val (.int (3 : Int32)), .val (.ref a_WRITE), .unset] [(.int (1 : Int32)), (.int ((g.toUInt32 >>> ((3 : Int32) &&& 31).toUInt32).toInt32))])) (fun _ k => XS.iconst X40.here hx rfl (hb hby at_16) k) ?_
    refine own_by (T' := T40) (g' := (mkF m 18 #[.val (.int u), .val (.int g), .val (.int (3 : Int32)), .val (.ref a_WRITE), .unset] [(.int (((g.toUInt32 >>> ((3 : Int32) &&& 31).toUInt32).toInt32) &&& (1 : Int32)))])) (fun _ k => XS.iand X40.here hx rfl (hb hby at_17) rfl k) ?_
    refine own_by (T' := T40) (g' := (mkF m 19 #[.val (.int u), .val (.int g), .val (.int (3 : Int32)), .val (.ref a_WRITE), .unset] [(.int (1 : Int32)), (.int (((g.toUInt32 >>> ((3 : Int32) &&& 31).toUInt32).toInt32) &&& (1 : Int32)))])) (fun _ k => XS.iconst X40.here hx rfl (hb hby at_18) k) ?_
    have J42 : ∀ (j41 : Int32) (hv_j41 : j41 = (if (((g.toUInt32 >>> ((3 : Int32) &&& 31).toUInt32).toInt32) &&& (1 : Int32)) = (1 : Int32) then (1 : Int32) else (0 : Int32))) (T43 : State) (_ : Stand p l e room_1 s m #[(.int u), (.int g)] below meth c T43 L40 (0 + 0) (0 + 0)) (_ : T43.heap = h0), own_Go p.tables e below (Q_rm0 Z u g a_READ a_USE a_RESTRICTED_WRITE a_WRITE a_DELETE a_SET_OWNER a_SET_PERMISSION h0 n0) s 0 0 T43 (mkF m 27 #[.val (.int u), .val (.int g), .val (.int (3 : Int32)), .val (.ref a_WRITE), .unset] [(.int j41)]) := by
      intro j41 hv_j41 T43 X43 e43
      refine own_by (T' := T43) (g' := (mkF m 29 #[.val (.int u), .val (.int g), .val (.int (3 : Int32)), .val (.ref a_WRITE), .val (.int j41)] [])) (fun _ k => XS.istore X43.here hx rfl (hb hby at_27) rfl (l' := #[.val (.int u), .val (.int g), .val (.int (3 : Int32)), .val (.ref a_WRITE), .val (.int j41)]) rfl k) ?_
      refine own_by (T' := T43) (g' := (mkF m 30 #[.val (.int u), .val (.int g), .val (.int (3 : Int32)), .val (.ref a_WRITE), .val (.int j41)] [(.ref a_WRITE)])) (fun _ k => XS.aloadN X43.here hx rfl (hb hby at_29) rfl rfl k) ?_
      refine own_by (T' := T43) (g' := (mkF m 31 #[.val (.int u), .val (.int g), .val (.int (3 : Int32)), .val (.ref a_WRITE), .val (.int j41)] [(.int g), (.ref a_WRITE)])) (fun _ k => XS.iloadN X43.here hx rfl (hb hby at_30) rfl k) ?_
      obtain ⟨cq44, kq44, q44a, q44b, q44c⟩ := isOf hZ e43 E_a_WRITE
      obtain ⟨_, _, ⟨T44, L44, k44, n44⟩, -, X44, ⟨Lc44, hQ44, l44, y44, z44⟩, st44⟩ := X43.virtualBack hx (y := (⟨"com/example/nisaba/nisaba/item/Permission", "in", "(I)Z"⟩ : MethodName)) (z := (⟨"com/example/nisaba/nisaba/item/Permission", "in", "(I)Z"⟩ : MethodName)) hown (mvT hZ (hw _ (List.mem_of_getElem? (i := 8) rfl))) (mvT hZ (hw _ (List.mem_of_getElem? (i := 9) rfl))) (notFace_of_selects (args := #[]) (mvT hZ (hw _ (List.mem_of_getElem? (i := 11) rfl)))) (mvT hZ (hw _ (List.mem_of_getElem? (i := 11) rfl))) (mvT hZ (hw _ (List.mem_of_getElem? (i := 10) rfl))) (by decide) (backOf (W := 0) (in_15 l Z a0 hw [] a_WRITE g  h0 n0 Z0 E_a_WRITE F_code_a_WRITE) hZ (hw _ (List.mem_of_getElem? (i := 12) rfl)) (hw _ (List.mem_of_getElem? (i := 6) rfl)) (by decide) (by decide)) q44a q44c (g := (mkF m 31 #[.val (.int u), .val (.int g), .val (.int (3 : Int32)), .val (.ref a_WRITE), .val (.int j41)] [(.int g), (.ref a_WRITE)])) rfl (by rw [hml]; rfl) (Steps.refl _) (argsL := [(.int g)]) (rest := []) (lenOf pd_3 rfl) rfl (by show 2 * 0 + _ ≤ _; exact Nat.le_of_eq rfl) (hb hby at_31) (fun _ _ => ⟨rfl, e43, (by decide : (0 + 0) + 0 ≤ _), (by decide : (0 + 0) + 0 ≤ _)⟩)
      dsimp only [Pt.U, Pt.locs, Pt.cells, Pt.slots] at X44 l44 y44 z44 st44 hQ44
      subst l44 y44 z44
      obtain ⟨rfl, N44q, e44⟩ := hQ44
      have N44 := Fr.app N40 N44q
      refine own_by (T' := T44) (g' := (mkF m 34 #[.val (.int u), .val (.int g), .val (.int (3 : Int32)), .val (.ref a_WRITE), .val (.int j41)] [(.int (own_in g (8 : Int32)))])) (fun _ k => st44.trans k) ?_
      refine own_by (T' := T44) (g' := (mkF m 36 #[.val (.int u), .val (.int g), .val (.int (3 : Int32)), .val (.ref a_WRITE), .val (.int j41)] [(.int j41), (.int (own_in g (8 : Int32)))])) (fun _ k => XS.iload X44.here hx rfl (hb hby at_34) rfl k) ?_
      refine own_by (T' := T44) (g' := (mkF m 39 #[.val (.int u), .val (.int g), .val (.int (3 : Int32)), .val (.ref a_WRITE), .val (.int j41)] [])) (fun _ k => XS.icmpNo X44.here hx rfl (hb hby at_36) rfl (teq ((hv_j41.trans (own_bit3 g)).symm)).2 k) ?_
      refine own_by (T' := T44) (g' := (mkF m 40 #[.val (.int u), .val (.int g), .val (.int (3 : Int32)), .val (.ref a_WRITE), .val (.int j41)] [(.int (1 : Int32))])) (fun _ k => XS.iconst X44.here hx rfl (hb hby at_39) k) ?_
      refine own_by (T' := T44) (g' := (mkF m 44 #[.val (.int u), .val (.int g), .val (.int (3 : Int32)), .val (.ref a_WRITE), .val (.int j41)] [(.int (1 : Int32))])) (fun _ k => XS.goto X44.here hx rfl (pc0 := 40) (pc' := 44) rfl (hb hby at_40) (by decide) (by decide) k) ?_
      refine own_ret X44 hlk (v := some (.int (1 : Int32))) (fun h => by rw [Bd.returns] at h; cases h) (fun fs hr => retN X44 hx (t := .boolean) Bd.returns (by simp) (hb hby at_44) hr) ?_ (by decide) (by decide)
      rw [e44]
      exact ⟨rfl, N44⟩
    by_cases hc19_45 : (((g.toUInt32 >>> ((3 : Int32) &&& 31).toUInt32).toInt32) &&& (1 : Int32)) = (1 : Int32)
    · skip
      refine own_by (T' := T40) (g' := (mkF m 22 #[.val (.int u), .val (.int g), .val (.int (3 : Int32)), .val (.ref a_WRITE), .unset] [])) (fun _ k => XS.icmpNo X40.here hx rfl (hb hby at_19) rfl (teq hc19_45).2 k) ?_
      refine own_by (T' := T40) (g' := (mkF m 23 #[.val (.int u), .val (.int g), .val (.int (3 : Int32)), .val (.ref a_WRITE), .unset] [(.int (1 : Int32))])) (fun _ k => XS.iconst X40.here hx rfl (hb hby at_22) k) ?_
      refine own_by (T' := T40) (g' := (mkF m 27 #[.val (.int u), .val (.int g), .val (.int (3 : Int32)), .val (.ref a_WRITE), .unset] [(.int (1 : Int32))])) (fun _ k => XS.goto X40.here hx rfl (pc0 := 23) (pc' := 27) rfl (hb hby at_23) (by decide) (by decide) k) ?_
      exact J42 _ (if_pos hc19_45).symm T40 X40 e40
    · skip
      refine own_by (T' := T40) (g' := (mkF m 26 #[.val (.int u), .val (.int g), .val (.int (3 : Int32)), .val (.ref a_WRITE), .unset] [])) (fun _ k => XS.icmpYes X40.here hx rfl (pc0 := 19) (pc' := 26) rfl (hb hby at_19) rfl (feq hc19_45).2 (by decide) (by decide) k) ?_
      refine own_by (T' := T40) (g' := (mkF m 27 #[.val (.int u), .val (.int g), .val (.int (3 : Int32)), .val (.ref a_WRITE), .unset] [(.int (0 : Int32))])) (fun _ k => XS.iconst X40.here hx rfl (hb hby at_26) k) ?_
      exact J42 _ (if_neg hc19_45).symm T40 X40 e40
  · skip
    rw [hq21]
    refine own_by (T' := s₁) (g' := (mkF m 9 #[.val (.int u), .val (.int g), .val (.int (4 : Int32)), .unset, .unset] [(.int (4 : Int32))])) (fun _ k => XS.iloadN X0.here hx rfl (hb hby at_8) rfl k) ?_
    obtain ⟨_, _, ⟨T46, L46, k46, n46⟩, -, X46, ⟨Lc46, hQ46, l46, y46, z46⟩, st46⟩ := Jvm.LawKit.callS X0 hx (y := (⟨"com/example/nisaba/nisaba/item/PermissionInPinLaw", "pick", "(I)Lcom/example/nisaba/nisaba/item/Permission;"⟩ : MethodName)) hown (mvT hZ (hw _ (List.mem_of_getElem? (i := 1) rfl))) (mvT hZ (hw _ (List.mem_of_getElem? (i := 2) rfl))) (mvT hZ (hw _ (List.mem_of_getElem? (i := 3) rfl))) (mvT hZ (hw _ (List.mem_of_getElem? (i := 4) rfl))) (by decide) (backOf (W := 0) (rm1 l Z a0 hw [] (4 : Int32) a_READ a_USE a_RESTRICTED_WRITE a_WRITE a_DELETE a_SET_OWNER a_SET_PERMISSION h0 n0 Z0 S_READ S_USE S_RESTRICTED_WRITE S_WRITE S_DELETE S_SET_OWNER S_SET_PERMISSION) hZ (hw _ (List.mem_of_getElem? (i := 4) rfl)) (hw _ (List.mem_of_getElem? (i := 3) rfl)) (by decide) (by decide)) (g := (mkF m 9 #[.val (.int u), .val (.int g), .val (.int (4 : Int32)), .unset, .unset] [(.int (4 : Int32))])) rfl (by rw [hml]; rfl) (argsL := [(.int (4 : Int32))]) (rest := []) (lenOf pd_2 rfl) rfl (by show 2 * 0 + _ ≤ _; exact Nat.le_of_eq rfl) (hb hby at_9) (fun _ _ => ⟨rfl, e0, (by decide : 0 + 0 ≤ _), (by decide : 0 + 0 ≤ _)⟩)
    dsimp only [Pt.U, Pt.locs, Pt.cells, Pt.slots] at X46 l46 y46 z46 st46 hQ46
    subst l46 y46 z46
    obtain ⟨rfl, N46q, e46⟩ := hQ46
    have N46 := Fr.app N0 N46q
    refine own_by (T' := T46) (g' := (mkF m 12 #[.val (.int u), .val (.int g), .val (.int (4 : Int32)), .unset, .unset] [(.ref a_DELETE)])) (fun _ k => st46 _ k) ?_
    refine own_by (T' := T46) (g' := (mkF m 13 #[.val (.int u), .val (.int g), .val (.int (4 : Int32)), .val (.ref a_DELETE), .unset] [])) (fun _ k => XS.astoreN X46.here hx rfl (hb hby at_12) rfl rfl (l' := #[.val (.int u), .val (.int g), .val (.int (4 : Int32)), .val (.ref a_DELETE), .unset]) rfl k) ?_
    refine own_by (T' := T46) (g' := (mkF m 14 #[.val (.int u), .val (.int g), .val (.int (4 : Int32)), .val (.ref a_DELETE), .unset] [(.int g)])) (fun _ k => XS.iloadN X46.here hx rfl (hb hby at_13) rfl k) ?_
    refine own_by (T' := T46) (g' := (mkF m 15 #[.val (.int u), .val (.int g), .val (.int (4 : Int32)), .val (.ref a_DELETE), .unset] [(.int (4 : Int32)), (.int g)])) (fun _ k => XS.iloadN X46.here hx rfl (hb hby at_14) rfl k) ?_
    refine own_by (T' := T46) (g' := (mkF m 16 #[.val (.int u), .val (.int g), .val (.int (4 : Int32)), .val (.ref a_DELETE), .unset] [(.int ((g.toUInt32 >>> ((4 : Int32) &&& 31).toUInt32).toInt32))])) (fun _ k => XS.iushr X46.here hx rfl (hb hby at_15) rfl k) ?_
    refine own_by (T' := T46) (g' := (mkF m 17 #[.val (.int u), .val (.int g), .val (.int (4 : Int32)), .val (.ref a_DELETE), .unset] [(.int (1 : Int32)), (.int ((g.toUInt32 >>> ((4 : Int32) &&& 31).toUInt32).toInt32))])) (fun _ k => XS.iconst X46.here hx rfl (hb hby at_16) k) ?_
    refine own_by (T' := T46) (g' := (mkF m 18 #[.val (.int u), .val (.int g), .val (.int (4 : Int32)), .val (.ref a_DELETE), .unset] [(.int (((g.toUInt32 >>> ((4 : Int32) &&& 31).toUInt32).toInt32) &&& (1 : Int32)))])) (fun _ k => XS.iand X46.here hx rfl (hb hby at_17) rfl k) ?_
    refine own_by (T' := T46) (g' := (mkF m 19 #[.val (.int u), .val (.int g), .val (.int (4 : Int32)), .val (.ref a_DELETE), .unset] [(.int (1 : Int32)), (.int (((g.toUInt32 >>> ((4 : Int32) &&& 31).toUInt32).toInt32) &&& (1 : Int32)))])) (fun _ k => XS.iconst X46.here hx rfl (hb hby at_18) k) ?_
    have J48 : ∀ (j47 : Int32) (hv_j47 : j47 = (if (((g.toUInt32 >>> ((4 : Int32) &&& 31).toUInt32).toInt32) &&& (1 : Int32)) = (1 : Int32) then (1 : Int32) else (0 : Int32))) (T49 : State) (_ : Stand p l e room_1 s m #[(.int u), (.int g)] below meth c T49 L46 (0 + 0) (0 + 0)) (_ : T49.heap = h0), own_Go p.tables e below (Q_rm0 Z u g a_READ a_USE a_RESTRICTED_WRITE a_WRITE a_DELETE a_SET_OWNER a_SET_PERMISSION h0 n0) s 0 0 T49 (mkF m 27 #[.val (.int u), .val (.int g), .val (.int (4 : Int32)), .val (.ref a_DELETE), .unset] [(.int j47)]) := by
      intro j47 hv_j47 T49 X49 e49
      refine own_by (T' := T49) (g' := (mkF m 29 #[.val (.int u), .val (.int g), .val (.int (4 : Int32)), .val (.ref a_DELETE), .val (.int j47)] [])) (fun _ k => XS.istore X49.here hx rfl (hb hby at_27) rfl (l' := #[.val (.int u), .val (.int g), .val (.int (4 : Int32)), .val (.ref a_DELETE), .val (.int j47)]) rfl k) ?_
      refine own_by (T' := T49) (g' := (mkF m 30 #[.val (.int u), .val (.int g), .val (.int (4 : Int32)), .val (.ref a_DELETE), .val (.int j47)] [(.ref a_DELETE)])) (fun _ k => XS.aloadN X49.here hx rfl (hb hby at_29) rfl rfl k) ?_
      refine own_by (T' := T49) (g' := (mkF m 31 #[.val (.int u), .val (.int g), .val (.int (4 : Int32)), .val (.ref a_DELETE), .val (.int j47)] [(.int g), (.ref a_DELETE)])) (fun _ k => XS.iloadN X49.here hx rfl (hb hby at_30) rfl k) ?_
      obtain ⟨cq50, kq50, q50a, q50b, q50c⟩ := isOf hZ e49 E_a_DELETE
      obtain ⟨_, _, ⟨T50, L50, k50, n50⟩, -, X50, ⟨Lc50, hQ50, l50, y50, z50⟩, st50⟩ := X49.virtualBack hx (y := (⟨"com/example/nisaba/nisaba/item/Permission", "in", "(I)Z"⟩ : MethodName)) (z := (⟨"com/example/nisaba/nisaba/item/Permission", "in", "(I)Z"⟩ : MethodName)) hown (mvT hZ (hw _ (List.mem_of_getElem? (i := 8) rfl))) (mvT hZ (hw _ (List.mem_of_getElem? (i := 9) rfl))) (notFace_of_selects (args := #[]) (mvT hZ (hw _ (List.mem_of_getElem? (i := 11) rfl)))) (mvT hZ (hw _ (List.mem_of_getElem? (i := 11) rfl))) (mvT hZ (hw _ (List.mem_of_getElem? (i := 10) rfl))) (by decide) (backOf (W := 0) (in_31 l Z a0 hw [] a_DELETE g  h0 n0 Z0 E_a_DELETE F_code_a_DELETE) hZ (hw _ (List.mem_of_getElem? (i := 12) rfl)) (hw _ (List.mem_of_getElem? (i := 6) rfl)) (by decide) (by decide)) q50a q50c (g := (mkF m 31 #[.val (.int u), .val (.int g), .val (.int (4 : Int32)), .val (.ref a_DELETE), .val (.int j47)] [(.int g), (.ref a_DELETE)])) rfl (by rw [hml]; rfl) (Steps.refl _) (argsL := [(.int g)]) (rest := []) (lenOf pd_3 rfl) rfl (by show 2 * 0 + _ ≤ _; exact Nat.le_of_eq rfl) (hb hby at_31) (fun _ _ => ⟨rfl, e49, (by decide : (0 + 0) + 0 ≤ _), (by decide : (0 + 0) + 0 ≤ _)⟩)
      dsimp only [Pt.U, Pt.locs, Pt.cells, Pt.slots] at X50 l50 y50 z50 st50 hQ50
      subst l50 y50 z50
      obtain ⟨rfl, N50q, e50⟩ := hQ50
      have N50 := Fr.app N46 N50q
      refine own_by (T' := T50) (g' := (mkF m 34 #[.val (.int u), .val (.int g), .val (.int (4 : Int32)), .val (.ref a_DELETE), .val (.int j47)] [(.int (own_in g (16 : Int32)))])) (fun _ k => st50.trans k) ?_
      refine own_by (T' := T50) (g' := (mkF m 36 #[.val (.int u), .val (.int g), .val (.int (4 : Int32)), .val (.ref a_DELETE), .val (.int j47)] [(.int j47), (.int (own_in g (16 : Int32)))])) (fun _ k => XS.iload X50.here hx rfl (hb hby at_34) rfl k) ?_
      refine own_by (T' := T50) (g' := (mkF m 39 #[.val (.int u), .val (.int g), .val (.int (4 : Int32)), .val (.ref a_DELETE), .val (.int j47)] [])) (fun _ k => XS.icmpNo X50.here hx rfl (hb hby at_36) rfl (teq ((hv_j47.trans (own_bit4 g)).symm)).2 k) ?_
      refine own_by (T' := T50) (g' := (mkF m 40 #[.val (.int u), .val (.int g), .val (.int (4 : Int32)), .val (.ref a_DELETE), .val (.int j47)] [(.int (1 : Int32))])) (fun _ k => XS.iconst X50.here hx rfl (hb hby at_39) k) ?_
      refine own_by (T' := T50) (g' := (mkF m 44 #[.val (.int u), .val (.int g), .val (.int (4 : Int32)), .val (.ref a_DELETE), .val (.int j47)] [(.int (1 : Int32))])) (fun _ k => XS.goto X50.here hx rfl (pc0 := 40) (pc' := 44) rfl (hb hby at_40) (by decide) (by decide) k) ?_
      refine own_ret X50 hlk (v := some (.int (1 : Int32))) (fun h => by rw [Bd.returns] at h; cases h) (fun fs hr => retN X50 hx (t := .boolean) Bd.returns (by simp) (hb hby at_44) hr) ?_ (by decide) (by decide)
      rw [e50]
      exact ⟨rfl, N50⟩
    by_cases hc19_51 : (((g.toUInt32 >>> ((4 : Int32) &&& 31).toUInt32).toInt32) &&& (1 : Int32)) = (1 : Int32)
    · skip
      refine own_by (T' := T46) (g' := (mkF m 22 #[.val (.int u), .val (.int g), .val (.int (4 : Int32)), .val (.ref a_DELETE), .unset] [])) (fun _ k => XS.icmpNo X46.here hx rfl (hb hby at_19) rfl (teq hc19_51).2 k) ?_
      refine own_by (T' := T46) (g' := (mkF m 23 #[.val (.int u), .val (.int g), .val (.int (4 : Int32)), .val (.ref a_DELETE), .unset] [(.int (1 : Int32))])) (fun _ k => XS.iconst X46.here hx rfl (hb hby at_22) k) ?_
      refine own_by (T' := T46) (g' := (mkF m 27 #[.val (.int u), .val (.int g), .val (.int (4 : Int32)), .val (.ref a_DELETE), .unset] [(.int (1 : Int32))])) (fun _ k => XS.goto X46.here hx rfl (pc0 := 23) (pc' := 27) rfl (hb hby at_23) (by decide) (by decide) k) ?_
      exact J48 _ (if_pos hc19_51).symm T46 X46 e46
    · skip
      refine own_by (T' := T46) (g' := (mkF m 26 #[.val (.int u), .val (.int g), .val (.int (4 : Int32)), .val (.ref a_DELETE), .unset] [])) (fun _ k => XS.icmpYes X46.here hx rfl (pc0 := 19) (pc' := 26) rfl (hb hby at_19) rfl (feq hc19_51).2 (by decide) (by decide) k) ?_
      refine own_by (T' := T46) (g' := (mkF m 27 #[.val (.int u), .val (.int g), .val (.int (4 : Int32)), .val (.ref a_DELETE), .unset] [(.int (0 : Int32))])) (fun _ k => XS.iconst X46.here hx rfl (hb hby at_26) k) ?_
      exact J48 _ (if_neg hc19_51).symm T46 X46 e46
  · skip
    rw [hq21]
    refine own_by (T' := s₁) (g' := (mkF m 9 #[.val (.int u), .val (.int g), .val (.int (5 : Int32)), .unset, .unset] [(.int (5 : Int32))])) (fun _ k => XS.iloadN X0.here hx rfl (hb hby at_8) rfl k) ?_
    obtain ⟨_, _, ⟨T52, L52, k52, n52⟩, -, X52, ⟨Lc52, hQ52, l52, y52, z52⟩, st52⟩ := Jvm.LawKit.callS X0 hx (y := (⟨"com/example/nisaba/nisaba/item/PermissionInPinLaw", "pick", "(I)Lcom/example/nisaba/nisaba/item/Permission;"⟩ : MethodName)) hown (mvT hZ (hw _ (List.mem_of_getElem? (i := 1) rfl))) (mvT hZ (hw _ (List.mem_of_getElem? (i := 2) rfl))) (mvT hZ (hw _ (List.mem_of_getElem? (i := 3) rfl))) (mvT hZ (hw _ (List.mem_of_getElem? (i := 4) rfl))) (by decide) (backOf (W := 0) (rm1 l Z a0 hw [] (5 : Int32) a_READ a_USE a_RESTRICTED_WRITE a_WRITE a_DELETE a_SET_OWNER a_SET_PERMISSION h0 n0 Z0 S_READ S_USE S_RESTRICTED_WRITE S_WRITE S_DELETE S_SET_OWNER S_SET_PERMISSION) hZ (hw _ (List.mem_of_getElem? (i := 4) rfl)) (hw _ (List.mem_of_getElem? (i := 3) rfl)) (by decide) (by decide)) (g := (mkF m 9 #[.val (.int u), .val (.int g), .val (.int (5 : Int32)), .unset, .unset] [(.int (5 : Int32))])) rfl (by rw [hml]; rfl) (argsL := [(.int (5 : Int32))]) (rest := []) (lenOf pd_2 rfl) rfl (by show 2 * 0 + _ ≤ _; exact Nat.le_of_eq rfl) (hb hby at_9) (fun _ _ => ⟨rfl, e0, (by decide : 0 + 0 ≤ _), (by decide : 0 + 0 ≤ _)⟩)
    dsimp only [Pt.U, Pt.locs, Pt.cells, Pt.slots] at X52 l52 y52 z52 st52 hQ52
    subst l52 y52 z52
    obtain ⟨rfl, N52q, e52⟩ := hQ52
    have N52 := Fr.app N0 N52q
    refine own_by (T' := T52) (g' := (mkF m 12 #[.val (.int u), .val (.int g), .val (.int (5 : Int32)), .unset, .unset] [(.ref a_SET_OWNER)])) (fun _ k => st52 _ k) ?_
    refine own_by (T' := T52) (g' := (mkF m 13 #[.val (.int u), .val (.int g), .val (.int (5 : Int32)), .val (.ref a_SET_OWNER), .unset] [])) (fun _ k => XS.astoreN X52.here hx rfl (hb hby at_12) rfl rfl (l' := #[.val (.int u), .val (.int g), .val (.int (5 : Int32)), .val (.ref a_SET_OWNER), .unset]) rfl k) ?_
    refine own_by (T' := T52) (g' := (mkF m 14 #[.val (.int u), .val (.int g), .val (.int (5 : Int32)), .val (.ref a_SET_OWNER), .unset] [(.int g)])) (fun _ k => XS.iloadN X52.here hx rfl (hb hby at_13) rfl k) ?_
    refine own_by (T' := T52) (g' := (mkF m 15 #[.val (.int u), .val (.int g), .val (.int (5 : Int32)), .val (.ref a_SET_OWNER), .unset] [(.int (5 : Int32)), (.int g)])) (fun _ k => XS.iloadN X52.here hx rfl (hb hby at_14) rfl k) ?_
    refine own_by (T' := T52) (g' := (mkF m 16 #[.val (.int u), .val (.int g), .val (.int (5 : Int32)), .val (.ref a_SET_OWNER), .unset] [(.int ((g.toUInt32 >>> ((5 : Int32) &&& 31).toUInt32).toInt32))])) (fun _ k => XS.iushr X52.here hx rfl (hb hby at_15) rfl k) ?_
    refine own_by (T' := T52) (g' := (mkF m 17 #[.val (.int u), .val (.int g), .val (.int (5 : Int32)), .val (.ref a_SET_OWNER), .unset] [(.int (1 : Int32)), (.int ((g.toUInt32 >>> ((5 : Int32) &&& 31).toUInt32).toInt32))])) (fun _ k => XS.iconst X52.here hx rfl (hb hby at_16) k) ?_
    refine own_by (T' := T52) (g' := (mkF m 18 #[.val (.int u), .val (.int g), .val (.int (5 : Int32)), .val (.ref a_SET_OWNER), .unset] [(.int (((g.toUInt32 >>> ((5 : Int32) &&& 31).toUInt32).toInt32) &&& (1 : Int32)))])) (fun _ k => XS.iand X52.here hx rfl (hb hby at_17) rfl k) ?_
    refine own_by (T' := T52) (g' := (mkF m 19 #[.val (.int u), .val (.int g), .val (.int (5 : Int32)), .val (.ref a_SET_OWNER), .unset] [(.int (1 : Int32)), (.int (((g.toUInt32 >>> ((5 : Int32) &&& 31).toUInt32).toInt32) &&& (1 : Int32)))])) (fun _ k => XS.iconst X52.here hx rfl (hb hby at_18) k) ?_
    have J54 : ∀ (j53 : Int32) (hv_j53 : j53 = (if (((g.toUInt32 >>> ((5 : Int32) &&& 31).toUInt32).toInt32) &&& (1 : Int32)) = (1 : Int32) then (1 : Int32) else (0 : Int32))) (T55 : State) (_ : Stand p l e room_1 s m #[(.int u), (.int g)] below meth c T55 L52 (0 + 0) (0 + 0)) (_ : T55.heap = h0), own_Go p.tables e below (Q_rm0 Z u g a_READ a_USE a_RESTRICTED_WRITE a_WRITE a_DELETE a_SET_OWNER a_SET_PERMISSION h0 n0) s 0 0 T55 (mkF m 27 #[.val (.int u), .val (.int g), .val (.int (5 : Int32)), .val (.ref a_SET_OWNER), .unset] [(.int j53)]) := by
      intro j53 hv_j53 T55 X55 e55
      refine own_by (T' := T55) (g' := (mkF m 29 #[.val (.int u), .val (.int g), .val (.int (5 : Int32)), .val (.ref a_SET_OWNER), .val (.int j53)] [])) (fun _ k => XS.istore X55.here hx rfl (hb hby at_27) rfl (l' := #[.val (.int u), .val (.int g), .val (.int (5 : Int32)), .val (.ref a_SET_OWNER), .val (.int j53)]) rfl k) ?_
      refine own_by (T' := T55) (g' := (mkF m 30 #[.val (.int u), .val (.int g), .val (.int (5 : Int32)), .val (.ref a_SET_OWNER), .val (.int j53)] [(.ref a_SET_OWNER)])) (fun _ k => XS.aloadN X55.here hx rfl (hb hby at_29) rfl rfl k) ?_
      refine own_by (T' := T55) (g' := (mkF m 31 #[.val (.int u), .val (.int g), .val (.int (5 : Int32)), .val (.ref a_SET_OWNER), .val (.int j53)] [(.int g), (.ref a_SET_OWNER)])) (fun _ k => XS.iloadN X55.here hx rfl (hb hby at_30) rfl k) ?_
      obtain ⟨cq56, kq56, q56a, q56b, q56c⟩ := isOf hZ e55 E_a_SET_OWNER
      obtain ⟨_, _, ⟨T56, L56, k56, n56⟩, -, X56, ⟨Lc56, hQ56, l56, y56, z56⟩, st56⟩ := X55.virtualBack hx (y := (⟨"com/example/nisaba/nisaba/item/Permission", "in", "(I)Z"⟩ : MethodName)) (z := (⟨"com/example/nisaba/nisaba/item/Permission", "in", "(I)Z"⟩ : MethodName)) hown (mvT hZ (hw _ (List.mem_of_getElem? (i := 8) rfl))) (mvT hZ (hw _ (List.mem_of_getElem? (i := 9) rfl))) (notFace_of_selects (args := #[]) (mvT hZ (hw _ (List.mem_of_getElem? (i := 11) rfl)))) (mvT hZ (hw _ (List.mem_of_getElem? (i := 11) rfl))) (mvT hZ (hw _ (List.mem_of_getElem? (i := 10) rfl))) (by decide) (backOf (W := 0) (in_47 l Z a0 hw [] a_SET_OWNER g  h0 n0 Z0 E_a_SET_OWNER F_code_a_SET_OWNER) hZ (hw _ (List.mem_of_getElem? (i := 12) rfl)) (hw _ (List.mem_of_getElem? (i := 6) rfl)) (by decide) (by decide)) q56a q56c (g := (mkF m 31 #[.val (.int u), .val (.int g), .val (.int (5 : Int32)), .val (.ref a_SET_OWNER), .val (.int j53)] [(.int g), (.ref a_SET_OWNER)])) rfl (by rw [hml]; rfl) (Steps.refl _) (argsL := [(.int g)]) (rest := []) (lenOf pd_3 rfl) rfl (by show 2 * 0 + _ ≤ _; exact Nat.le_of_eq rfl) (hb hby at_31) (fun _ _ => ⟨rfl, e55, (by decide : (0 + 0) + 0 ≤ _), (by decide : (0 + 0) + 0 ≤ _)⟩)
      dsimp only [Pt.U, Pt.locs, Pt.cells, Pt.slots] at X56 l56 y56 z56 st56 hQ56
      subst l56 y56 z56
      obtain ⟨rfl, N56q, e56⟩ := hQ56
      have N56 := Fr.app N52 N56q
      refine own_by (T' := T56) (g' := (mkF m 34 #[.val (.int u), .val (.int g), .val (.int (5 : Int32)), .val (.ref a_SET_OWNER), .val (.int j53)] [(.int (own_in g (32 : Int32)))])) (fun _ k => st56.trans k) ?_
      refine own_by (T' := T56) (g' := (mkF m 36 #[.val (.int u), .val (.int g), .val (.int (5 : Int32)), .val (.ref a_SET_OWNER), .val (.int j53)] [(.int j53), (.int (own_in g (32 : Int32)))])) (fun _ k => XS.iload X56.here hx rfl (hb hby at_34) rfl k) ?_
      refine own_by (T' := T56) (g' := (mkF m 39 #[.val (.int u), .val (.int g), .val (.int (5 : Int32)), .val (.ref a_SET_OWNER), .val (.int j53)] [])) (fun _ k => XS.icmpNo X56.here hx rfl (hb hby at_36) rfl (teq ((hv_j53.trans (own_bit5 g)).symm)).2 k) ?_
      refine own_by (T' := T56) (g' := (mkF m 40 #[.val (.int u), .val (.int g), .val (.int (5 : Int32)), .val (.ref a_SET_OWNER), .val (.int j53)] [(.int (1 : Int32))])) (fun _ k => XS.iconst X56.here hx rfl (hb hby at_39) k) ?_
      refine own_by (T' := T56) (g' := (mkF m 44 #[.val (.int u), .val (.int g), .val (.int (5 : Int32)), .val (.ref a_SET_OWNER), .val (.int j53)] [(.int (1 : Int32))])) (fun _ k => XS.goto X56.here hx rfl (pc0 := 40) (pc' := 44) rfl (hb hby at_40) (by decide) (by decide) k) ?_
      refine own_ret X56 hlk (v := some (.int (1 : Int32))) (fun h => by rw [Bd.returns] at h; cases h) (fun fs hr => retN X56 hx (t := .boolean) Bd.returns (by simp) (hb hby at_44) hr) ?_ (by decide) (by decide)
      rw [e56]
      exact ⟨rfl, N56⟩
    by_cases hc19_57 : (((g.toUInt32 >>> ((5 : Int32) &&& 31).toUInt32).toInt32) &&& (1 : Int32)) = (1 : Int32)
    · skip
      refine own_by (T' := T52) (g' := (mkF m 22 #[.val (.int u), .val (.int g), .val (.int (5 : Int32)), .val (.ref a_SET_OWNER), .unset] [])) (fun _ k => XS.icmpNo X52.here hx rfl (hb hby at_19) rfl (teq hc19_57).2 k) ?_
      refine own_by (T' := T52) (g' := (mkF m 23 #[.val (.int u), .val (.int g), .val (.int (5 : Int32)), .val (.ref a_SET_OWNER), .unset] [(.int (1 : Int32))])) (fun _ k => XS.iconst X52.here hx rfl (hb hby at_22) k) ?_
      refine own_by (T' := T52) (g' := (mkF m 27 #[.val (.int u), .val (.int g), .val (.int (5 : Int32)), .val (.ref a_SET_OWNER), .unset] [(.int (1 : Int32))])) (fun _ k => XS.goto X52.here hx rfl (pc0 := 23) (pc' := 27) rfl (hb hby at_23) (by decide) (by decide) k) ?_
      exact J54 _ (if_pos hc19_57).symm T52 X52 e52
    · skip
      refine own_by (T' := T52) (g' := (mkF m 26 #[.val (.int u), .val (.int g), .val (.int (5 : Int32)), .val (.ref a_SET_OWNER), .unset] [])) (fun _ k => XS.icmpYes X52.here hx rfl (pc0 := 19) (pc' := 26) rfl (hb hby at_19) rfl (feq hc19_57).2 (by decide) (by decide) k) ?_
      refine own_by (T' := T52) (g' := (mkF m 27 #[.val (.int u), .val (.int g), .val (.int (5 : Int32)), .val (.ref a_SET_OWNER), .unset] [(.int (0 : Int32))])) (fun _ k => XS.iconst X52.here hx rfl (hb hby at_26) k) ?_
      exact J54 _ (if_neg hc19_57).symm T52 X52 e52
  · skip
    rw [hq21]
    refine own_by (T' := s₁) (g' := (mkF m 9 #[.val (.int u), .val (.int g), .val (.int (6 : Int32)), .unset, .unset] [(.int (6 : Int32))])) (fun _ k => XS.iloadN X0.here hx rfl (hb hby at_8) rfl k) ?_
    obtain ⟨_, _, ⟨T58, L58, k58, n58⟩, -, X58, ⟨Lc58, hQ58, l58, y58, z58⟩, st58⟩ := Jvm.LawKit.callS X0 hx (y := (⟨"com/example/nisaba/nisaba/item/PermissionInPinLaw", "pick", "(I)Lcom/example/nisaba/nisaba/item/Permission;"⟩ : MethodName)) hown (mvT hZ (hw _ (List.mem_of_getElem? (i := 1) rfl))) (mvT hZ (hw _ (List.mem_of_getElem? (i := 2) rfl))) (mvT hZ (hw _ (List.mem_of_getElem? (i := 3) rfl))) (mvT hZ (hw _ (List.mem_of_getElem? (i := 4) rfl))) (by decide) (backOf (W := 0) (rm1 l Z a0 hw [] (6 : Int32) a_READ a_USE a_RESTRICTED_WRITE a_WRITE a_DELETE a_SET_OWNER a_SET_PERMISSION h0 n0 Z0 S_READ S_USE S_RESTRICTED_WRITE S_WRITE S_DELETE S_SET_OWNER S_SET_PERMISSION) hZ (hw _ (List.mem_of_getElem? (i := 4) rfl)) (hw _ (List.mem_of_getElem? (i := 3) rfl)) (by decide) (by decide)) (g := (mkF m 9 #[.val (.int u), .val (.int g), .val (.int (6 : Int32)), .unset, .unset] [(.int (6 : Int32))])) rfl (by rw [hml]; rfl) (argsL := [(.int (6 : Int32))]) (rest := []) (lenOf pd_2 rfl) rfl (by show 2 * 0 + _ ≤ _; exact Nat.le_of_eq rfl) (hb hby at_9) (fun _ _ => ⟨rfl, e0, (by decide : 0 + 0 ≤ _), (by decide : 0 + 0 ≤ _)⟩)
    dsimp only [Pt.U, Pt.locs, Pt.cells, Pt.slots] at X58 l58 y58 z58 st58 hQ58
    subst l58 y58 z58
    obtain ⟨rfl, N58q, e58⟩ := hQ58
    have N58 := Fr.app N0 N58q
    refine own_by (T' := T58) (g' := (mkF m 12 #[.val (.int u), .val (.int g), .val (.int (6 : Int32)), .unset, .unset] [(.ref a_SET_PERMISSION)])) (fun _ k => st58 _ k) ?_
    refine own_by (T' := T58) (g' := (mkF m 13 #[.val (.int u), .val (.int g), .val (.int (6 : Int32)), .val (.ref a_SET_PERMISSION), .unset] [])) (fun _ k => XS.astoreN X58.here hx rfl (hb hby at_12) rfl rfl (l' := #[.val (.int u), .val (.int g), .val (.int (6 : Int32)), .val (.ref a_SET_PERMISSION), .unset]) rfl k) ?_
    refine own_by (T' := T58) (g' := (mkF m 14 #[.val (.int u), .val (.int g), .val (.int (6 : Int32)), .val (.ref a_SET_PERMISSION), .unset] [(.int g)])) (fun _ k => XS.iloadN X58.here hx rfl (hb hby at_13) rfl k) ?_
    refine own_by (T' := T58) (g' := (mkF m 15 #[.val (.int u), .val (.int g), .val (.int (6 : Int32)), .val (.ref a_SET_PERMISSION), .unset] [(.int (6 : Int32)), (.int g)])) (fun _ k => XS.iloadN X58.here hx rfl (hb hby at_14) rfl k) ?_
    refine own_by (T' := T58) (g' := (mkF m 16 #[.val (.int u), .val (.int g), .val (.int (6 : Int32)), .val (.ref a_SET_PERMISSION), .unset] [(.int ((g.toUInt32 >>> ((6 : Int32) &&& 31).toUInt32).toInt32))])) (fun _ k => XS.iushr X58.here hx rfl (hb hby at_15) rfl k) ?_
    refine own_by (T' := T58) (g' := (mkF m 17 #[.val (.int u), .val (.int g), .val (.int (6 : Int32)), .val (.ref a_SET_PERMISSION), .unset] [(.int (1 : Int32)), (.int ((g.toUInt32 >>> ((6 : Int32) &&& 31).toUInt32).toInt32))])) (fun _ k => XS.iconst X58.here hx rfl (hb hby at_16) k) ?_
    refine own_by (T' := T58) (g' := (mkF m 18 #[.val (.int u), .val (.int g), .val (.int (6 : Int32)), .val (.ref a_SET_PERMISSION), .unset] [(.int (((g.toUInt32 >>> ((6 : Int32) &&& 31).toUInt32).toInt32) &&& (1 : Int32)))])) (fun _ k => XS.iand X58.here hx rfl (hb hby at_17) rfl k) ?_
    refine own_by (T' := T58) (g' := (mkF m 19 #[.val (.int u), .val (.int g), .val (.int (6 : Int32)), .val (.ref a_SET_PERMISSION), .unset] [(.int (1 : Int32)), (.int (((g.toUInt32 >>> ((6 : Int32) &&& 31).toUInt32).toInt32) &&& (1 : Int32)))])) (fun _ k => XS.iconst X58.here hx rfl (hb hby at_18) k) ?_
    have J60 : ∀ (j59 : Int32) (hv_j59 : j59 = (if (((g.toUInt32 >>> ((6 : Int32) &&& 31).toUInt32).toInt32) &&& (1 : Int32)) = (1 : Int32) then (1 : Int32) else (0 : Int32))) (T61 : State) (_ : Stand p l e room_1 s m #[(.int u), (.int g)] below meth c T61 L58 (0 + 0) (0 + 0)) (_ : T61.heap = h0), own_Go p.tables e below (Q_rm0 Z u g a_READ a_USE a_RESTRICTED_WRITE a_WRITE a_DELETE a_SET_OWNER a_SET_PERMISSION h0 n0) s 0 0 T61 (mkF m 27 #[.val (.int u), .val (.int g), .val (.int (6 : Int32)), .val (.ref a_SET_PERMISSION), .unset] [(.int j59)]) := by
      intro j59 hv_j59 T61 X61 e61
      refine own_by (T' := T61) (g' := (mkF m 29 #[.val (.int u), .val (.int g), .val (.int (6 : Int32)), .val (.ref a_SET_PERMISSION), .val (.int j59)] [])) (fun _ k => XS.istore X61.here hx rfl (hb hby at_27) rfl (l' := #[.val (.int u), .val (.int g), .val (.int (6 : Int32)), .val (.ref a_SET_PERMISSION), .val (.int j59)]) rfl k) ?_
      refine own_by (T' := T61) (g' := (mkF m 30 #[.val (.int u), .val (.int g), .val (.int (6 : Int32)), .val (.ref a_SET_PERMISSION), .val (.int j59)] [(.ref a_SET_PERMISSION)])) (fun _ k => XS.aloadN X61.here hx rfl (hb hby at_29) rfl rfl k) ?_
      refine own_by (T' := T61) (g' := (mkF m 31 #[.val (.int u), .val (.int g), .val (.int (6 : Int32)), .val (.ref a_SET_PERMISSION), .val (.int j59)] [(.int g), (.ref a_SET_PERMISSION)])) (fun _ k => XS.iloadN X61.here hx rfl (hb hby at_30) rfl k) ?_
      obtain ⟨cq62, kq62, q62a, q62b, q62c⟩ := isOf hZ e61 E_a_SET_PERMISSION
      obtain ⟨_, _, ⟨T62, L62, k62, n62⟩, -, X62, ⟨Lc62, hQ62, l62, y62, z62⟩, st62⟩ := X61.virtualBack hx (y := (⟨"com/example/nisaba/nisaba/item/Permission", "in", "(I)Z"⟩ : MethodName)) (z := (⟨"com/example/nisaba/nisaba/item/Permission", "in", "(I)Z"⟩ : MethodName)) hown (mvT hZ (hw _ (List.mem_of_getElem? (i := 8) rfl))) (mvT hZ (hw _ (List.mem_of_getElem? (i := 9) rfl))) (notFace_of_selects (args := #[]) (mvT hZ (hw _ (List.mem_of_getElem? (i := 11) rfl)))) (mvT hZ (hw _ (List.mem_of_getElem? (i := 11) rfl))) (mvT hZ (hw _ (List.mem_of_getElem? (i := 10) rfl))) (by decide) (backOf (W := 0) (in_79 l Z a0 hw [] a_SET_PERMISSION g  h0 n0 Z0 E_a_SET_PERMISSION F_code_a_SET_PERMISSION) hZ (hw _ (List.mem_of_getElem? (i := 12) rfl)) (hw _ (List.mem_of_getElem? (i := 6) rfl)) (by decide) (by decide)) q62a q62c (g := (mkF m 31 #[.val (.int u), .val (.int g), .val (.int (6 : Int32)), .val (.ref a_SET_PERMISSION), .val (.int j59)] [(.int g), (.ref a_SET_PERMISSION)])) rfl (by rw [hml]; rfl) (Steps.refl _) (argsL := [(.int g)]) (rest := []) (lenOf pd_3 rfl) rfl (by show 2 * 0 + _ ≤ _; exact Nat.le_of_eq rfl) (hb hby at_31) (fun _ _ => ⟨rfl, e61, (by decide : (0 + 0) + 0 ≤ _), (by decide : (0 + 0) + 0 ≤ _)⟩)
      dsimp only [Pt.U, Pt.locs, Pt.cells, Pt.slots] at X62 l62 y62 z62 st62 hQ62
      subst l62 y62 z62
      obtain ⟨rfl, N62q, e62⟩ := hQ62
      have N62 := Fr.app N58 N62q
      refine own_by (T' := T62) (g' := (mkF m 34 #[.val (.int u), .val (.int g), .val (.int (6 : Int32)), .val (.ref a_SET_PERMISSION), .val (.int j59)] [(.int (own_in g (64 : Int32)))])) (fun _ k => st62.trans k) ?_
      refine own_by (T' := T62) (g' := (mkF m 36 #[.val (.int u), .val (.int g), .val (.int (6 : Int32)), .val (.ref a_SET_PERMISSION), .val (.int j59)] [(.int j59), (.int (own_in g (64 : Int32)))])) (fun _ k => XS.iload X62.here hx rfl (hb hby at_34) rfl k) ?_
      refine own_by (T' := T62) (g' := (mkF m 39 #[.val (.int u), .val (.int g), .val (.int (6 : Int32)), .val (.ref a_SET_PERMISSION), .val (.int j59)] [])) (fun _ k => XS.icmpNo X62.here hx rfl (hb hby at_36) rfl (teq ((hv_j59.trans (own_bit6 g)).symm)).2 k) ?_
      refine own_by (T' := T62) (g' := (mkF m 40 #[.val (.int u), .val (.int g), .val (.int (6 : Int32)), .val (.ref a_SET_PERMISSION), .val (.int j59)] [(.int (1 : Int32))])) (fun _ k => XS.iconst X62.here hx rfl (hb hby at_39) k) ?_
      refine own_by (T' := T62) (g' := (mkF m 44 #[.val (.int u), .val (.int g), .val (.int (6 : Int32)), .val (.ref a_SET_PERMISSION), .val (.int j59)] [(.int (1 : Int32))])) (fun _ k => XS.goto X62.here hx rfl (pc0 := 40) (pc' := 44) rfl (hb hby at_40) (by decide) (by decide) k) ?_
      refine own_ret X62 hlk (v := some (.int (1 : Int32))) (fun h => by rw [Bd.returns] at h; cases h) (fun fs hr => retN X62 hx (t := .boolean) Bd.returns (by simp) (hb hby at_44) hr) ?_ (by decide) (by decide)
      rw [e62]
      exact ⟨rfl, N62⟩
    by_cases hc19_63 : (((g.toUInt32 >>> ((6 : Int32) &&& 31).toUInt32).toInt32) &&& (1 : Int32)) = (1 : Int32)
    · skip
      refine own_by (T' := T58) (g' := (mkF m 22 #[.val (.int u), .val (.int g), .val (.int (6 : Int32)), .val (.ref a_SET_PERMISSION), .unset] [])) (fun _ k => XS.icmpNo X58.here hx rfl (hb hby at_19) rfl (teq hc19_63).2 k) ?_
      refine own_by (T' := T58) (g' := (mkF m 23 #[.val (.int u), .val (.int g), .val (.int (6 : Int32)), .val (.ref a_SET_PERMISSION), .unset] [(.int (1 : Int32))])) (fun _ k => XS.iconst X58.here hx rfl (hb hby at_22) k) ?_
      refine own_by (T' := T58) (g' := (mkF m 27 #[.val (.int u), .val (.int g), .val (.int (6 : Int32)), .val (.ref a_SET_PERMISSION), .unset] [(.int (1 : Int32))])) (fun _ k => XS.goto X58.here hx rfl (pc0 := 23) (pc' := 27) rfl (hb hby at_23) (by decide) (by decide) k) ?_
      exact J60 _ (if_pos hc19_63).symm T58 X58 e58
    · skip
      refine own_by (T' := T58) (g' := (mkF m 26 #[.val (.int u), .val (.int g), .val (.int (6 : Int32)), .val (.ref a_SET_PERMISSION), .unset] [])) (fun _ k => XS.icmpYes X58.here hx rfl (pc0 := 19) (pc' := 26) rfl (hb hby at_19) rfl (feq hc19_63).2 (by decide) (by decide) k) ?_
      refine own_by (T' := T58) (g' := (mkF m 27 #[.val (.int u), .val (.int g), .val (.int (6 : Int32)), .val (.ref a_SET_PERMISSION), .unset] [(.int (0 : Int32))])) (fun _ k => XS.iconst X58.here hx rfl (hb hby at_26) k) ?_
      exact J60 _ (if_neg hc19_63).symm T58 X58 e58
set_option maxRecDepth 65536 in
set_option maxHeartbeats 40000000 in
theorem comes_1 {Post : Tables → Env → Array Value → State → Outcome → State → Prop} (hpost : ∀ tb e args s v u, (limb_1_1.after args s (.returned v) u = true ∧ limb_1_2.after args s (.returned v) u = true ∧ True) → FrameEnd s (.returned v) u (Jvm.fieldLocs frame_1_writes args s ++ Jvm.arrayLocs frame_1_arrays args s ++ Jvm.staticLocs frame_1_statics s) 0 0 → Post tb e args s (.returned v) u) :
    ArmFor flags0 classFile x code maxLocals ret World_1 tables_1 room_1 Calls_1 rest_1 Pre_1 Post := by
  intro l hfl _ _ p e ha hc hk s m args below hf hA hF happ hP
  obtain ⟨hcalls, hrest, hpre⟩ := hP
  obtain ⟨-, -, -, hnamed, -, -, -, hat⟩ := (Spec.applies_iff hf).mp happ
  obtain ⟨hg, hn⟩ := and_e (Cond.before_iff.mp (show (Jvm.Cond.and given_1 narrow_1).before args s = true from hpre))
  obtain ⟨g1, g2⟩ := and_e hg
  obtain ⟨g3, g4⟩ := and_e g2
  obtain ⟨w0, w1, rfl⟩ : ∃ w0 w1 : Value, args = #[w0, w1] := by
    have hs : args.size = 2 := by simpa [Cond.value, given_1] using g1
    obtain ⟨L⟩ := args
    match L, hs with
    | [w0, w1], _ => exact ⟨w0, w1, rfl⟩
  have hw := fun d (hd : d ∈ tables_1) => atoms_spec (ws := Jvm.Cond.code x code maxLocals ret :: tables_1) hat d (List.mem_cons_of_mem _ hd)
  have hfit : Fit s := fun {y c} hc i hi => by
    obtain ⟨ha, rfl⟩ := Array.getElem?_eq_some_iff.mp hc
    have q := List.all_eq_true.mp ((Array.all_eq_true_iff_forall_mem.mp hF) _ (Array.getElem_mem ha)) i (List.mem_range.mpr hi)
    simpa [Array.getElem?_eq_getElem hi] using q
  obtain ⟨i0, ei0⟩ := is_v g3
  obtain rfl : w0 = (.int i0) := Option.some.inj ei0
  obtain ⟨i1, ei1⟩ := is_v g4
  obtain rfl : w1 = (.int i1) := Option.some.inj ei1
  obtain ⟨n1, n2⟩ := and_e hn
  obtain ⟨n3, n4⟩ := and_e n2
  obtain ⟨n5, n6⟩ := and_e n4
  obtain ⟨n7, n8⟩ := and_e n6
  obtain ⟨n9, n10⟩ := and_e n8
  obtain ⟨n11, n12⟩ := and_e n10
  obtain ⟨n13, n14⟩ := and_e n12
  obtain ⟨n15, n16⟩ := and_e n14
  obtain ⟨n17, n18⟩ := and_e n16
  obtain ⟨n19, n20⟩ := and_e n18
  obtain ⟨n21, n22⟩ := and_e n20
  obtain ⟨n23, n24⟩ := and_e n22
  obtain ⟨n25, n26⟩ := and_e n24
  obtain ⟨a_READ, ev_READ⟩ := exa_v n1
  have E_READ : Exa s s.heap a_READ "com/example/nisaba/nisaba/item/Permission" := Exa.start ev_READ n1
  have S_READ : Sta s s.heap "com/example/nisaba/nisaba/item/Permission" "READ" "Lcom/example/nisaba/nisaba/item/Permission;" (.ref a_READ) := Sta.start ev_READ (Or.inr ⟨(hw _ (List.mem_of_getElem? (i := 6) rfl)), (hw _ (List.mem_of_getElem? (i := 7) rfl))⟩)
  obtain ⟨a_WRITE, ev_WRITE⟩ := exa_v n5
  have E_WRITE : Exa s s.heap a_WRITE "com/example/nisaba/nisaba/item/Permission" := Exa.start ev_WRITE n5
  have S_WRITE : Sta s s.heap "com/example/nisaba/nisaba/item/Permission" "WRITE" "Lcom/example/nisaba/nisaba/item/Permission;" (.ref a_WRITE) := Sta.start ev_WRITE (Or.inr ⟨(hw _ (List.mem_of_getElem? (i := 6) rfl)), (hw _ (List.mem_of_getElem? (i := 29) rfl))⟩)
  obtain ⟨a_USE, ev_USE⟩ := exa_v n9
  have E_USE : Exa s s.heap a_USE "com/example/nisaba/nisaba/item/Permission" := Exa.start ev_USE n9
  have S_USE : Sta s s.heap "com/example/nisaba/nisaba/item/Permission" "USE" "Lcom/example/nisaba/nisaba/item/Permission;" (.ref a_USE) := Sta.start ev_USE (Or.inr ⟨(hw _ (List.mem_of_getElem? (i := 6) rfl)), (hw _ (List.mem_of_getElem? (i := 31) rfl))⟩)
  obtain ⟨a_DELETE, ev_DELETE⟩ := exa_v n13
  have E_DELETE : Exa s s.heap a_DELETE "com/example/nisaba/nisaba/item/Permission" := Exa.start ev_DELETE n13
  have S_DELETE : Sta s s.heap "com/example/nisaba/nisaba/item/Permission" "DELETE" "Lcom/example/nisaba/nisaba/item/Permission;" (.ref a_DELETE) := Sta.start ev_DELETE (Or.inr ⟨(hw _ (List.mem_of_getElem? (i := 6) rfl)), (hw _ (List.mem_of_getElem? (i := 33) rfl))⟩)
  obtain ⟨a_SET_PERMISSION, ev_SET_PERMISSION⟩ := exa_v n17
  have E_SET_PERMISSION : Exa s s.heap a_SET_PERMISSION "com/example/nisaba/nisaba/item/Permission" := Exa.start ev_SET_PERMISSION n17
  have S_SET_PERMISSION : Sta s s.heap "com/example/nisaba/nisaba/item/Permission" "SET_PERMISSION" "Lcom/example/nisaba/nisaba/item/Permission;" (.ref a_SET_PERMISSION) := Sta.start ev_SET_PERMISSION (Or.inr ⟨(hw _ (List.mem_of_getElem? (i := 6) rfl)), (hw _ (List.mem_of_getElem? (i := 35) rfl))⟩)
  obtain ⟨a_SET_OWNER, ev_SET_OWNER⟩ := exa_v n21
  have E_SET_OWNER : Exa s s.heap a_SET_OWNER "com/example/nisaba/nisaba/item/Permission" := Exa.start ev_SET_OWNER n21
  have S_SET_OWNER : Sta s s.heap "com/example/nisaba/nisaba/item/Permission" "SET_OWNER" "Lcom/example/nisaba/nisaba/item/Permission;" (.ref a_SET_OWNER) := Sta.start ev_SET_OWNER (Or.inr ⟨(hw _ (List.mem_of_getElem? (i := 6) rfl)), (hw _ (List.mem_of_getElem? (i := 37) rfl))⟩)
  obtain ⟨a_RESTRICTED_WRITE, ev_RESTRICTED_WRITE⟩ := exa_v n25
  have E_RESTRICTED_WRITE : Exa s s.heap a_RESTRICTED_WRITE "com/example/nisaba/nisaba/item/Permission" := Exa.start ev_RESTRICTED_WRITE n25
  have S_RESTRICTED_WRITE : Sta s s.heap "com/example/nisaba/nisaba/item/Permission" "RESTRICTED_WRITE" "Lcom/example/nisaba/nisaba/item/Permission;" (.ref a_RESTRICTED_WRITE) := Sta.start ev_RESTRICTED_WRITE (Or.inr ⟨(hw _ (List.mem_of_getElem? (i := 6) rfl)), (hw _ (List.mem_of_getElem? (i := 39) rfl))⟩)
  have F_READ_code : Fld s s.heap a_READ "com/example/nisaba/nisaba/item/Permission" "code" "I" (.int (1 : Int32)) := own_fld ev_READ n3
  have F_WRITE_code : Fld s s.heap a_WRITE "com/example/nisaba/nisaba/item/Permission" "code" "I" (.int (15 : Int32)) := own_fld ev_WRITE n7
  have F_USE_code : Fld s s.heap a_USE "com/example/nisaba/nisaba/item/Permission" "code" "I" (.int (3 : Int32)) := own_fld ev_USE n11
  have F_DELETE_code : Fld s s.heap a_DELETE "com/example/nisaba/nisaba/item/Permission" "code" "I" (.int (31 : Int32)) := own_fld ev_DELETE n15
  have F_SET_PERMISSION_code : Fld s s.heap a_SET_PERMISSION "com/example/nisaba/nisaba/item/Permission" "code" "I" (.int (79 : Int32)) := own_fld ev_SET_PERMISSION n19
  have F_SET_OWNER_code : Fld s s.heap a_SET_OWNER "com/example/nisaba/nisaba/item/Permission" "code" "I" (.int (47 : Int32)) := own_fld ev_SET_OWNER n23
  have F_RESTRICTED_WRITE_code : Fld s s.heap a_RESTRICTED_WRITE "com/example/nisaba/nisaba/item/Permission" "code" "I" (.int (7 : Int32)) := own_fld ev_RESTRICTED_WRITE n26
  obtain ⟨n, o, h1, h2, h3, _, L, rfl, ⟨rfl, N⟩, hq⟩ := rm0 l s _ hw tables_1 i0 i1 a_READ a_USE a_RESTRICTED_WRITE a_WRITE a_DELETE a_SET_OWNER a_SET_PERMISSION s.heap s.heap.size (Nat.le_refl _) S_READ S_USE S_RESTRICTED_WRITE S_WRITE S_DELETE S_SET_OWNER S_SET_PERMISSION E_READ E_USE E_RESTRICTED_WRITE E_WRITE E_DELETE E_SET_OWNER E_SET_PERMISSION F_READ_code F_USE_code F_RESTRICTED_WRITE_code F_WRITE_code F_DELETE_code F_SET_OWNER_code F_SET_PERMISSION_code p e ha hc hk s m _ below hf ((Spec.applies_iff_loose hf).mp happ).1 ⟨rfl, State.Warmed39.refl s, rfl⟩ trivial
  refine ⟨n, _, h1, h2, h3, hpost _ _ _ _ _ _ ⟨Cond.after_iff.mpr rfl, Cond.after_iff.mpr (eq_i res_at (Term.int_eval (1)) rfl), trivial⟩ ⟨hq.1, hq.2.1, (hq.2.2.sift fun y hy => Or.inr (N y hy)).mono (by decide) (by decide)⟩⟩
theorem main_1_1 : Claimed_1_1 := comes_1 fun _ _ _ _ _ _ h hF => ⟨h.1, hF⟩
theorem main_1_2 : Claimed_1_2 := comes_1 fun _ _ _ _ _ _ h hF => ⟨h.2.1, hF⟩
end Jvm.Pilot.@@N@@
namespace Jvm.Pilot.@@N@@
open Jvm Jvm.ClassFile Sem Op Lib Jvm.Free Jvm.Stand Jvm.Pilot.@@N@@.Jvm.D
/-! MADE BY PROGRAM (witnessworld.py) out of the Statement's table words and the real class files: 15 classes; the members and pool entries that the words name. The judged class is class 1, her method 2. -/
namespace start1
open Jvm.ClassFile
def u (s : String) : CpInfo := .utf8 (stringToUtf16 s)
/-- a pool by its gaps: so many unusable entries, then the entry; so many at the end -/
def gap : Nat → List CpInfo → List CpInfo
  | 0, r => r
  | n + 1, r => .unusable :: gap n r
def poolList (es : List (Nat × CpInfo)) (last : Nat) : List CpInfo := es.foldr (fun e r => gap e.1 (e.2 :: r)) (gap last [])
def pool (es : List (Nat × CpInfo)) (last : Nat) : Array CpInfo := ⟨poolList es last⟩
def fileOf (pool : Array CpInfo) (this : Nat) (attrs : Array Attribute := #[]) (ms : Array MethodInfo := #[]) (fl : Nat := 33) (sup : Nat := 0) (ifs : Array Nat := #[]) (fds : Array FieldInfo := #[]) : ClassFile where
  minorVersion := 0
  majorVersion := 65
  constantPool := pool
  accessFlags := fl
  thisClass := this
  superClass := sup
  interfaces := ifs
  fields := fds
  methods := ms
  attributes := attrs
def plain (name : String) (sup : Option ClassId) : Class where
  name := name
  kind := .ordinary
  loader := none
  accessFlags := 33
  super := sup
  interfaces := #[]
  cf := none
  fields := #[]
  methods := #[]
  instanceTypes := #[]
  staticTypes := #[]
  resolved := #[]
  callSites := []
  init := .initialized
  statics := none
  mirror := none

def pool0 : Array CpInfo := pool [(5, u "<init>"), (0, u "()V"), (1, .class_ 10), (1, u "java/lang/Object")] 113

def k0m0 : Method := { name := "<init>", desc := "()V", sig := { parameters := [], returnType := none }, accessFlags := 1, code := none }
/-- java/lang/Object -/
def k0 : Class := { plain "java/lang/Object" none with
  accessFlags := 33
  interfaces := #[]
  cf := some (fileOf pool0 8 #[] #[{ accessFlags := 1, nameIndex := 5, descriptorIndex := 6, attributes := #[] }] 33 0 #[] #[])
  fields := #[]
  methods := #[k0m0]
  instanceTypes := #[]
  staticTypes := #[]
  resolved := Array.replicate 124 none
  statics := none }

def pool1 : Array CpInfo := pool [(2, .class_ 4), (1, u "java/lang/Object"), (0, u "<init>"), (0, u "()V"), (0, .fieldref 8 9), (0, .class_ 10), (0, .nameAndType 11 12), (0, u "com/example/nisaba/nisaba/item/Permission"), (0, u "READ"), (0, u "Lcom/example/nisaba/nisaba/item/Permission;"), (0, .fieldref 8 14), (0, .nameAndType 15 12), (0, u "USE"), (0, .fieldref 8 17), (0, .nameAndType 18 12), (0, u "RESTRICTED_WRITE"), (0, .fieldref 8 20), (0, .nameAndType 21 12), (0, u "WRITE"), (0, .fieldref 8 23), (0, .nameAndType 24 12), (0, u "DELETE"), (0, .fieldref 8 26), (0, .nameAndType 27 12), (0, u "SET_OWNER"), (0, .fieldref 8 29), (0, .nameAndType 30 12), (0, u "SET_PERMISSION"), (0, .integer 2147483647), (0, .methodref 33 34), (0, .class_ 35), (0, .nameAndType 36 37), (0, u "com/example/nisaba/nisaba/item/PermissionInPinLaw"), (0, u "pick"), (0, u "(I)Lcom/example/nisaba/nisaba/item/Permission;"), (0, .methodref 8 39), (0, .nameAndType 40 41), (0, u "in"), (0, u "(I)Z"), (3, u "law"), (0, u "(II)Z")] 2

def k1m0 : Method := { name := "<init>", desc := "()V", sig := { parameters := [], returnType := none }, accessFlags := 2, code := none }
def k1c1 : Code := { maxStack := 2, maxLocals := 1, code := method_2_code, exceptionTable := #[], attributes := #[] }
def k1m1 : Method := { name := "pick", desc := "(I)Lcom/example/nisaba/nisaba/item/Permission;", sig := { parameters := [.int], returnType := some (.object "com/example/nisaba/nisaba/item/Permission") }, accessFlags := 10, code := some k1c1 }
def k1c2 : Code := { maxStack := 2, maxLocals := 5, code := code, exceptionTable := #[], attributes := #[] }
def k1m2 : Method := { name := "law", desc := "(II)Z", sig := { parameters := [.int, .int], returnType := some .boolean }, accessFlags := 9, code := some k1c2 }
/-- com/example/nisaba/nisaba/item/PermissionInPinLaw -/
def k1 : Class := { plain "com/example/nisaba/nisaba/item/PermissionInPinLaw" (some 0) with
  accessFlags := 49
  interfaces := #[]
  cf := some (fileOf pool1 33 #[] #[{ accessFlags := 2, nameIndex := 5, descriptorIndex := 6, attributes := #[] }, { accessFlags := 10, nameIndex := 36, descriptorIndex := 37, attributes := #[] }, { accessFlags := 9, nameIndex := 45, descriptorIndex := 46, attributes := #[] }] 49 2 #[] #[])
  fields := #[]
  methods := #[k1m0, k1m1, k1m2]
  instanceTypes := #[]
  staticTypes := #[]
  resolved := Array.replicate 49 none
  statics := none }

def pool2 : Array CpInfo := pool [(1, .class_ 2), (0, u "java/lang/constant/Constable"), (0, .class_ 4), (0, u "java/lang/Object")] 6

/-- java/lang/constant/Constable -/
def k2 : Class := { plain "java/lang/constant/Constable" (some 0) with
  accessFlags := 1537
  interfaces := #[]
  cf := some (fileOf pool2 1 #[] #[] 1537 3 #[] #[])
  fields := #[]
  methods := #[]
  instanceTypes := #[]
  staticTypes := #[]
  resolved := Array.replicate 11 none
  statics := none }

def pool3 : Array CpInfo := pool [(1, .class_ 2), (0, u "java/lang/Comparable"), (0, .class_ 4), (0, u "java/lang/Object")] 7

/-- java/lang/Comparable -/
def k3 : Class := { plain "java/lang/Comparable" (some 0) with
  accessFlags := 1537
  interfaces := #[]
  cf := some (fileOf pool3 1 #[] #[] 1537 3 #[] #[])
  fields := #[]
  methods := #[]
  instanceTypes := #[]
  staticTypes := #[]
  resolved := Array.replicate 12 none
  statics := none }

def pool4 : Array CpInfo := pool [(1, .class_ 2), (0, u "java/io/Serializable"), (0, .class_ 4), (0, u "java/lang/Object")] 2

/-- java/io/Serializable -/
def k4 : Class := { plain "java/io/Serializable" (some 0) with
  accessFlags := 1537
  interfaces := #[]
  cf := some (fileOf pool4 1 #[] #[] 1537 3 #[] #[])
  fields := #[]
  methods := #[]
  instanceTypes := #[]
  staticTypes := #[]
  resolved := Array.replicate 7 none
  statics := none }

def pool5 : Array CpInfo := pool [(2, .class_ 4), (1, u "java/lang/Enum"), (0, u "name"), (0, u "Ljava/lang/String;"), (2, u "ordinal"), (0, u "I"), (1, .class_ 14), (1, u "java/lang/Object"), (4, u "hash"), (86, .class_ 108), (1, u "java/lang/Enum$EnumDesc"), (2, .class_ 112), (0, u "java/lang/constant/Constable"), (0, .class_ 114), (0, u "java/lang/Comparable"), (0, .class_ 116), (0, u "java/io/Serializable")] 87

/-- java/lang/Enum -/
def k5 : Class := { plain "java/lang/Enum" (some 0) with
  accessFlags := 1057
  interfaces := #[2, 3, 4]
  cf := some (fileOf pool5 2 #[.nestMembers #[106]] #[] 1057 12 #[111, 113, 115] #[{ accessFlags := 18, nameIndex := 5, descriptorIndex := 6, attributes := #[] }, { accessFlags := 18, nameIndex := 9, descriptorIndex := 10, attributes := #[] }, { accessFlags := 2, nameIndex := 19, descriptorIndex := 10, attributes := #[] }])
  fields := #[{ name := "name", type := (.object "java/lang/String"), accessFlags := 18, slot := 0, constantValue := 0 }, { name := "ordinal", type := .int, accessFlags := 18, slot := 1, constantValue := 0 }, { name := "hash", type := .int, accessFlags := 2, slot := 2, constantValue := 0 }]
  methods := #[]
  instanceTypes := #[(.object "java/lang/String"), .int, .int]
  staticTypes := #[]
  resolved := Array.replicate 204 none
  statics := none }

def pool6 : Array CpInfo := pool [(1, .class_ 2), (0, u "com/example/nisaba/nisaba/item/Permission"), (2, u "READ"), (0, u "Lcom/example/nisaba/nisaba/item/Permission;"), (2, u "USE"), (2, u "RESTRICTED_WRITE"), (2, u "WRITE"), (2, u "DELETE"), (2, u "SET_OWNER"), (2, u "SET_PERMISSION"), (2, u "$VALUES"), (0, u "[Lcom/example/nisaba/nisaba/item/Permission;"), (6, .class_ 37), (1, u "java/lang/Enum"), (6, .fieldref 1 45), (0, .nameAndType 46 47), (0, u "code"), (0, u "I"), (16, .methodref 1 65), (0, .nameAndType 66 67), (0, u "bit"), (0, u "()I"), (41, .methodref 110 111), (0, .class_ 112), (0, .nameAndType 113 114), (0, u "java/lang/Integer"), (0, u "highestOneBit"), (0, u "(I)I"), (2, u "in"), (0, u "(I)Z"), (13, u "ALL"), (2, u "CREATE"), (1, u "DENIED")] 57

def k6c0 : Code := { maxStack := 2, maxLocals := 2, code := prog_27_method_6_code, exceptionTable := #[], attributes := #[] }
def k6m0 : Method := { name := "in", desc := "(I)Z", sig := { parameters := [.int], returnType := some .boolean }, accessFlags := 1, code := some k6c0 }
def k6c1 : Code := { maxStack := 1, maxLocals := 1, code := prog_27_method_10_code, exceptionTable := #[], attributes := #[] }
def k6m1 : Method := { name := "bit", desc := "()I", sig := { parameters := [], returnType := some .int }, accessFlags := 2, code := some k6c1 }
/-- com/example/nisaba/nisaba/item/Permission -/
def k6 : Class := { plain "com/example/nisaba/nisaba/item/Permission" (some 5) with
  accessFlags := 16433
  interfaces := #[]
  cf := some (fileOf pool6 1 #[] #[{ accessFlags := 1, nameIndex := 117, descriptorIndex := 118, attributes := #[] }, { accessFlags := 2, nameIndex := 66, descriptorIndex := 67, attributes := #[] }] 16433 35 #[] #[{ accessFlags := 16409, nameIndex := 5, descriptorIndex := 6, attributes := #[] }, { accessFlags := 16409, nameIndex := 9, descriptorIndex := 6, attributes := #[] }, { accessFlags := 16409, nameIndex := 12, descriptorIndex := 6, attributes := #[] }, { accessFlags := 16409, nameIndex := 15, descriptorIndex := 6, attributes := #[] }, { accessFlags := 16409, nameIndex := 18, descriptorIndex := 6, attributes := #[] }, { accessFlags := 16409, nameIndex := 21, descriptorIndex := 6, attributes := #[] }, { accessFlags := 16409, nameIndex := 24, descriptorIndex := 6, attributes := #[] }, { accessFlags := 25, nameIndex := 132, descriptorIndex := 47, attributes := #[] }, { accessFlags := 25, nameIndex := 135, descriptorIndex := 47, attributes := #[] }, { accessFlags := 25, nameIndex := 137, descriptorIndex := 47, attributes := #[] }, { accessFlags := 18, nameIndex := 46, descriptorIndex := 47, attributes := #[] }, { accessFlags := 4122, nameIndex := 27, descriptorIndex := 28, attributes := #[] }])
  fields := #[{ name := "READ", type := (.object "com/example/nisaba/nisaba/item/Permission"), accessFlags := 16409, slot := 0, constantValue := 0 }, { name := "USE", type := (.object "com/example/nisaba/nisaba/item/Permission"), accessFlags := 16409, slot := 1, constantValue := 0 }, { name := "RESTRICTED_WRITE", type := (.object "com/example/nisaba/nisaba/item/Permission"), accessFlags := 16409, slot := 2, constantValue := 0 }, { name := "WRITE", type := (.object "com/example/nisaba/nisaba/item/Permission"), accessFlags := 16409, slot := 3, constantValue := 0 }, { name := "DELETE", type := (.object "com/example/nisaba/nisaba/item/Permission"), accessFlags := 16409, slot := 4, constantValue := 0 }, { name := "SET_OWNER", type := (.object "com/example/nisaba/nisaba/item/Permission"), accessFlags := 16409, slot := 5, constantValue := 0 }, { name := "SET_PERMISSION", type := (.object "com/example/nisaba/nisaba/item/Permission"), accessFlags := 16409, slot := 6, constantValue := 0 }, { name := "ALL", type := .int, accessFlags := 25, slot := 7, constantValue := 0 }, { name := "CREATE", type := .int, accessFlags := 25, slot := 8, constantValue := 0 }, { name := "DENIED", type := .int, accessFlags := 25, slot := 9, constantValue := 0 }, { name := "code", type := .int, accessFlags := 18, slot := 3, constantValue := 0 }, { name := "$VALUES", type := (.array (.object "com/example/nisaba/nisaba/item/Permission")), accessFlags := 4122, slot := 10, constantValue := 0 }]
  methods := #[k6m0, k6m1]
  instanceTypes := #[(.object "java/lang/String"), .int, .int, .int]
  staticTypes := #[(.object "com/example/nisaba/nisaba/item/Permission"), (.object "com/example/nisaba/nisaba/item/Permission"), (.object "com/example/nisaba/nisaba/item/Permission"), (.object "com/example/nisaba/nisaba/item/Permission"), (.object "com/example/nisaba/nisaba/item/Permission"), (.object "com/example/nisaba/nisaba/item/Permission"), (.object "com/example/nisaba/nisaba/item/Permission"), .int, .int, .int, (.array (.object "com/example/nisaba/nisaba/item/Permission"))]
  resolved := Array.replicate 195 none
  statics := some 0 }

def pool7 : Array CpInfo := pool [(2, .class_ 4), (1, u "java/lang/Object"), (0, u "<init>"), (0, u "()V"), (1, .class_ 10), (1, u "java/lang/Number"), (2, .class_ 14), (0, u "java/io/Serializable"), (0, u "serialVersionUID"), (0, u "J")] 20

def k7m0 : Method := { name := "<init>", desc := "()V", sig := { parameters := [], returnType := none }, accessFlags := 1, code := none }
/-- java/lang/Number -/
def k7 : Class := { plain "java/lang/Number" (some 0) with
  accessFlags := 1057
  interfaces := #[4]
  cf := some (fileOf pool7 8 #[] #[{ accessFlags := 1, nameIndex := 5, descriptorIndex := 6, attributes := #[] }] 1057 2 #[13] #[{ accessFlags := 26, nameIndex := 15, descriptorIndex := 16, attributes := #[] }])
  fields := #[{ name := "serialVersionUID", type := .long, accessFlags := 26, slot := 0, constantValue := 0 }]
  methods := #[k7m0]
  instanceTypes := #[]
  staticTypes := #[.long]
  resolved := Array.replicate 37 none
  statics := none }

def pool8 : Array CpInfo := pool [(1, .class_ 2), (0, u "java/lang/constant/ConstantDesc"), (0, .class_ 4), (0, u "java/lang/Object")] 32

/-- java/lang/constant/ConstantDesc -/
def k8 : Class := { plain "java/lang/constant/ConstantDesc" (some 0) with
  accessFlags := 1537
  interfaces := #[]
  cf := some (fileOf pool8 1 #[] #[] 1537 3 #[] #[])
  fields := #[]
  methods := #[]
  instanceTypes := #[]
  staticTypes := #[]
  resolved := Array.replicate 37 none
  statics := none }

def pool9 : Array CpInfo := pool [(1, .class_ 2), (0, u "java/lang/Integer"), (16, u "digits"), (0, u "[C"), (30, .methodref 1 52), (0, .nameAndType 53 54), (0, u "numberOfLeadingZeros"), (0, u "(I)I"), (30, u "DigitOnes"), (0, u "[B"), (2, u "DigitTens"), (37, .integer 2147483648), (61, .class_ 190), (0, u "java/lang/Integer$IntegerCache"), (3, u "I"), (8, .class_ 204), (0, u "java/lang/Number"), (2, u "value"), (56, .integer 65536), (37, u "TYPE"), (0, u "Ljava/lang/Class;"), (0, .class_ 305), (0, u "java/lang/Comparable"), (0, .class_ 307), (0, u "java/lang/constant/Constable"), (0, .class_ 309), (0, u "java/lang/constant/ConstantDesc"), (0, u "MIN_VALUE"), (1, u "MAX_VALUE"), (3, u "SIZE"), (1, u "BYTES"), (1, u "serialVersionUID"), (0, u "J"), (81, u "highestOneBit")] 49

def k9c0 : Code := { maxStack := 3, maxLocals := 1, code := jdk_33_method_45_code, exceptionTable := #[], attributes := #[] }
def k9m0 : Method := { name := "highestOneBit", desc := "(I)I", sig := { parameters := [.int], returnType := some .int }, accessFlags := 9, code := some k9c0 }
def k9c1 : Code := { maxStack := 3, maxLocals := 2, code := jdk_33_method_47_code, exceptionTable := #[], attributes := #[] }
def k9m1 : Method := { name := "numberOfLeadingZeros", desc := "(I)I", sig := { parameters := [.int], returnType := some .int }, accessFlags := 9, code := some k9c1 }
/-- java/lang/Integer -/
def k9 : Class := { plain "java/lang/Integer" (some 7) with
  accessFlags := 49
  interfaces := #[3, 2, 8]
  cf := some (fileOf pool9 1 #[.nestMembers #[189]] #[{ accessFlags := 9, nameIndex := 403, descriptorIndex := 54, attributes := #[] }, { accessFlags := 9, nameIndex := 53, descriptorIndex := 54, attributes := #[] }] 49 203 #[304, 306, 308] #[{ accessFlags := 25, nameIndex := 310, descriptorIndex := 194, attributes := #[] }, { accessFlags := 25, nameIndex := 312, descriptorIndex := 194, attributes := #[] }, { accessFlags := 25, nameIndex := 302, descriptorIndex := 303, attributes := #[] }, { accessFlags := 24, nameIndex := 19, descriptorIndex := 20, attributes := #[] }, { accessFlags := 24, nameIndex := 89, descriptorIndex := 86, attributes := #[] }, { accessFlags := 24, nameIndex := 85, descriptorIndex := 86, attributes := #[] }, { accessFlags := 18, nameIndex := 207, descriptorIndex := 194, attributes := #[] }, { accessFlags := 25, nameIndex := 316, descriptorIndex := 194, attributes := #[] }, { accessFlags := 25, nameIndex := 318, descriptorIndex := 194, attributes := #[] }, { accessFlags := 26, nameIndex := 320, descriptorIndex := 321, attributes := #[] }])
  fields := #[{ name := "MIN_VALUE", type := .int, accessFlags := 25, slot := 0, constantValue := 0 }, { name := "MAX_VALUE", type := .int, accessFlags := 25, slot := 1, constantValue := 0 }, { name := "TYPE", type := (.object "java/lang/Class"), accessFlags := 25, slot := 2, constantValue := 0 }, { name := "digits", type := (.array .char), accessFlags := 24, slot := 3, constantValue := 0 }, { name := "DigitTens", type := (.array .byte), accessFlags := 24, slot := 4, constantValue := 0 }, { name := "DigitOnes", type := (.array .byte), accessFlags := 24, slot := 5, constantValue := 0 }, { name := "value", type := .int, accessFlags := 18, slot := 0, constantValue := 0 }, { name := "SIZE", type := .int, accessFlags := 25, slot := 6, constantValue := 0 }, { name := "BYTES", type := .int, accessFlags := 25, slot := 7, constantValue := 0 }, { name := "serialVersionUID", type := .long, accessFlags := 26, slot := 8, constantValue := 0 }]
  methods := #[k9m0, k9m1]
  instanceTypes := #[.int]
  staticTypes := #[.int, .int, (.object "java/lang/Class"), (.array .char), (.array .byte), (.array .byte), .int, .int, .long]
  resolved := Array.replicate 453 none
  statics := none }

def pool10 : Array CpInfo := pool [(1, u "java/lang/Cloneable"), (0, .class_ 1), (0, u "java/lang/Object"), (0, .class_ 3)] 3

/-- java/lang/Cloneable -/
def k10 : Class := { plain "java/lang/Cloneable" (some 0) with
  accessFlags := 1537
  interfaces := #[]
  cf := some (fileOf pool10 2 #[] #[] 1537 4 #[] #[])
  fields := #[]
  methods := #[]
  instanceTypes := #[]
  staticTypes := #[]
  resolved := Array.replicate 8 none
  statics := none }

/-- the primitive byte -/
def k11 : Class := { plain "byte" none with kind := .primitive 'B', accessFlags := 0x411 }
/-- [B -/
def k12 : Class := { plain "[B" (some 0) with kind := .array 11 .byte, interfaces := #[10, 4], accessFlags := 1041 }

/-- the primitive int -/
def k13 : Class := { plain "int" none with kind := .primitive 'I', accessFlags := 0x411 }
/-- [I -/
def k14 : Class := { plain "[I" (some 0) with kind := .array 13 .int, interfaces := #[10, 4], accessFlags := 1041 }

def heap : Heap := #[{ cls := 6, slots := #[.ref 1, .ref 2, .ref 3, .ref 4, .ref 5, .ref 6, .ref 7, .int 0, .int 0, .int 0, .null], vm := .statics 6 },
  { cls := 6, slots := #[.null, .int 0, .int 0, .int 1], vm := .none },
  { cls := 6, slots := #[.null, .int 1, .int 0, .int 3], vm := .none },
  { cls := 6, slots := #[.null, .int 2, .int 0, .int 7], vm := .none },
  { cls := 6, slots := #[.null, .int 3, .int 0, .int 15], vm := .none },
  { cls := 6, slots := #[.null, .int 4, .int 0, .int 31], vm := .none },
  { cls := 6, slots := #[.null, .int 5, .int 0, .int 47], vm := .none },
  { cls := 6, slots := #[.null, .int 6, .int 0, .int 79], vm := .none }]
def classes : Array Class := #[k0, k1, k2, k3, k4, k5, k6, k7, k8, k9, k10, k11, k12, k13, k14]
def interned : List (Array UInt16 × Addr) := []
def slotsUsed : Nat := 39
def theMethod : MethodId := ⟨1, 2⟩
def args0 : Array Value := #[.int 5, .int 3]
def aboutOver (below : List Frame) : State where
  vm := { classes := classes, interned := interned.toArray }
  heap := heap
  slotsUsed := slotsUsed
  threads := #[{ frames := .invoking theMethod args0 :: below }]
def below0 : List Frame := [.native { method := ⟨0, 0⟩, args := #[] }]
def about1 : State := aboutOver below0
def p0 : Program := .bare "" "" ""
def e0 : Env := launch0.env 0 0 0
theorem w_frames : about1.frames = Frame.invoking theMethod args0 :: below0 := rfl
set_option maxRecDepth 65536 in
theorem w_args : argsFit about1.vm theMethod args0 = true := by decide +kernel
set_option maxRecDepth 65536 in
theorem w_heap : heapFits about1 = true := by decide +kernel
set_option maxRecDepth 65536 in
theorem w_runnable : about1.curStatus? = some .runnable := by decide +kernel
set_option maxRecDepth 65536 in
theorem w_alone : about1.alone = true := by decide +kernel
set_option maxRecDepth 65536 in
theorem w_named : about1.methodNamed? x = some theMethod := by decide +kernel
set_option maxRecDepth 65536 in
theorem w_hears : about1.hears theMethod below0 = true := by decide +kernel
set_option maxRecDepth 65536 in
theorem w_ripe : about1.ripe theMethod args0 below0 = true := by decide +kernel
theorem w_running : about1.status = .running := rfl
set_option maxRecDepth 65536 in
theorem w_room : about1.hasRoom e0.platform room_1 = true :=
  launch0.hasRoom_least _ room_1 (by decide +kernel) (by decide +kernel) (by decide +kernel) (by decide +kernel) (by decide +kernel) (by decide +kernel)
theorem allAtoms_all (ts : List Jvm.Cond) (a : Array Jvm.Value) (st : Jvm.State) : (allAtoms ts).before a st = ts.all (fun c => c.before a st) := by
  induction ts with
  | nil => rfl
  | cons c t ih =>
    show (Jvm.Cond.and c (allAtoms t)).before a st = _
    rw [Jvm.Cond.before_and, ih, List.all_cons]
def words1 : List Jvm.Cond := Jvm.Cond.code x code maxLocals ret :: tables_1
/-- a 'code' word, met by the world's own term for the bytes: nothing is compared byte by byte -/
theorem code_word {y : MethodName} {bytes : ByteArray} {mx : Nat} {rt : Option FieldType} {a : Array Value} {s : State} {m : MethodId} {meth : Method} {c : Code} (h1 : s.methodNamed? y = some m) (h2 : s.vm.method? m = some meth) (h3 : meth.code = some c) (h4 : c.code = bytes)
    (h5 : (c.maxLocals == mx && c.exceptionTable.isEmpty && decide (c.maxStack ≤ mostOperands) && decide (meth.sig.returnType = rt) && !meth.locks && decide (parseMethodDescriptor y.desc = some meth.sig)) = true) : (Jvm.Cond.code y bytes mx rt).before a s = true := by
  simp only [Bool.and_eq_true, beq_iff_eq, Bool.not_eq_true', decide_eq_true_eq] at h5
  obtain ⟨⟨⟨⟨⟨g1, g2⟩, g3⟩, g4⟩, g5⟩, g6⟩ := h5
  simp [Cond.before, Cond.holds, Cond.value, h1, h2, h3, h4, g1, g2, g3, g4, g5, g6]
def isCode : Jvm.Cond → Bool
  | .code _ _ _ _ => true
  | _ => false
theorem all_split {L : List Jvm.Cond} {P : Jvm.Cond → Bool} (h1 : L.all (fun c => isCode c || P c) = true) (h2 : ∀ c ∈ L.filter isCode, P c = true) : L.all P = true := by
  refine List.all_eq_true.mpr fun c hc => ?_
  have h := List.all_eq_true.mp h1 c hc
  rcases Bool.eq_false_or_eq_true (isCode c) with hi | hi
  · exact h2 c (List.mem_filter.mpr ⟨hc, hi⟩)
  · simpa [hi] using h
set_option maxRecDepth 65536 in
theorem w_c0 : (Jvm.Cond.code x code maxLocals ret).before args0 about1 = true := code_word (m := ⟨1, 2⟩) (meth := k1m2) (c := k1c2) (by decide +kernel) rfl rfl rfl (by decide +kernel)
set_option maxRecDepth 65536 in
theorem w_c1 : (Jvm.Cond.code ({ cls := "com/example/nisaba/nisaba/item/PermissionInPinLaw", name := "pick", desc := "(I)Lcom/example/nisaba/nisaba/item/Permission;" } : Jvm.MethodName) method_2_code (1 : Nat) (Option.some (Jvm.ClassFile.FieldType.object "com/example/nisaba/nisaba/item/Permission"))).before args0 about1 = true := code_word (m := ⟨1, 1⟩) (meth := k1m1) (c := k1c1) (by decide +kernel) rfl rfl rfl (by decide +kernel)
set_option maxRecDepth 65536 in
theorem w_c2 : (Jvm.Cond.code ({ cls := "com/example/nisaba/nisaba/item/Permission", name := "in", desc := "(I)Z" } : Jvm.MethodName) prog_27_method_6_code (2 : Nat) (Option.some Jvm.ClassFile.FieldType.boolean)).before args0 about1 = true := code_word (m := ⟨6, 0⟩) (meth := k6m0) (c := k6c0) (by decide +kernel) rfl rfl rfl (by decide +kernel)
set_option maxRecDepth 65536 in
theorem w_c3 : (Jvm.Cond.code ({ cls := "com/example/nisaba/nisaba/item/Permission", name := "bit", desc := "()I" } : Jvm.MethodName) prog_27_method_10_code (1 : Nat) (Option.some Jvm.ClassFile.FieldType.int)).before args0 about1 = true := code_word (m := ⟨6, 1⟩) (meth := k6m1) (c := k6c1) (by decide +kernel) rfl rfl rfl (by decide +kernel)
set_option maxRecDepth 65536 in
theorem w_c4 : (Jvm.Cond.code ({ cls := "java/lang/Integer", name := "highestOneBit", desc := "(I)I" } : Jvm.MethodName) jdk_33_method_45_code (1 : Nat) (Option.some Jvm.ClassFile.FieldType.int)).before args0 about1 = true := code_word (m := ⟨9, 0⟩) (meth := k9m0) (c := k9c0) (by decide +kernel) rfl rfl rfl (by decide +kernel)
set_option maxRecDepth 65536 in
theorem w_c5 : (Jvm.Cond.code ({ cls := "java/lang/Integer", name := "numberOfLeadingZeros", desc := "(I)I" } : Jvm.MethodName) jdk_33_method_47_code (2 : Nat) (Option.some Jvm.ClassFile.FieldType.int)).before args0 about1 = true := code_word (m := ⟨9, 1⟩) (meth := k9m1) (c := k9c1) (by decide +kernel) rfl rfl rfl (by decide +kernel)
def codes1 : List Jvm.Cond := [Jvm.Cond.code x code maxLocals ret, Jvm.Cond.code ({ cls := "com/example/nisaba/nisaba/item/PermissionInPinLaw", name := "pick", desc := "(I)Lcom/example/nisaba/nisaba/item/Permission;" } : Jvm.MethodName) method_2_code (1 : Nat) (Option.some (Jvm.ClassFile.FieldType.object "com/example/nisaba/nisaba/item/Permission")), Jvm.Cond.code ({ cls := "com/example/nisaba/nisaba/item/Permission", name := "in", desc := "(I)Z" } : Jvm.MethodName) prog_27_method_6_code (2 : Nat) (Option.some Jvm.ClassFile.FieldType.boolean), Jvm.Cond.code ({ cls := "com/example/nisaba/nisaba/item/Permission", name := "bit", desc := "()I" } : Jvm.MethodName) prog_27_method_10_code (1 : Nat) (Option.some Jvm.ClassFile.FieldType.int), Jvm.Cond.code ({ cls := "java/lang/Integer", name := "highestOneBit", desc := "(I)I" } : Jvm.MethodName) jdk_33_method_45_code (1 : Nat) (Option.some Jvm.ClassFile.FieldType.int), Jvm.Cond.code ({ cls := "java/lang/Integer", name := "numberOfLeadingZeros", desc := "(I)I" } : Jvm.MethodName) jdk_33_method_47_code (2 : Nat) (Option.some Jvm.ClassFile.FieldType.int)]
set_option maxRecDepth 65536 in
theorem codes_eq : words1.filter isCode = codes1 := rfl
theorem w_codes : ∀ c ∈ words1.filter isCode, c.before args0 about1 = true := by
  rw [codes_eq]
  intro c hc
  simp only [codes1, List.mem_cons, List.not_mem_nil, or_false] at hc
  rcases hc with rfl | rfl | rfl | rfl | rfl | rfl
  · exact w_c0
  · exact w_c1
  · exact w_c2
  · exact w_c3
  · exact w_c4
  · exact w_c5
set_option maxRecDepth 65536 in
theorem w_t1 : (words1.take 24).all (fun c => isCode c || c.before args0 about1) = true := by decide +kernel
set_option maxRecDepth 65536 in
theorem w_t2 : (words1.drop 24).all (fun c => isCode c || c.before args0 about1) = true := by decide +kernel
theorem w_tables : (allAtoms (Jvm.Cond.code x code maxLocals ret :: tables_1)).before args0 about1 = true := by
  rw [allAtoms_all]
  show words1.all (fun c => c.before args0 about1) = true
  refine all_split ?_ w_codes
  rw [← List.take_append_drop 24 words1, List.all_append, w_t1, w_t2]
  rfl
set_option maxRecDepth 65536 in
theorem w_case : (Jvm.Cond.and given_1 narrow_1).before args0 about1 = true := by decide +kernel
theorem w_applies : (headSpec (Jvm.Cond.code x code maxLocals ret :: tables_1) room_1).applies x e0.platform about1 = true :=
  (Spec.applies_iff w_frames).mpr ⟨w_running, w_runnable, w_alone, w_named, w_hears, w_ripe, w_room, w_tables⟩
theorem atStart : AtStart classFile x code maxLocals ret World_1 tables_1 room_1 Calls_1 rest_1 Pre_1 launch0 p0 e0 about1 theMethod args0 below0 :=
  ⟨lists_1, trivial, launch0.admits_env _ _ _, launch0.least_env, fairChoices_fair.cas, fairChoices_fair.clock, w_frames, w_args, w_heap, w_applies, trivial, trivial, w_case⟩
end start1
theorem witness_1 : WitnessClaimed_1 := ⟨start1.p0, start1.e0, start1.about1, start1.theMethod, start1.args0, start1.below0, start1.atStart⟩
end Jvm.Pilot.@@N@@
