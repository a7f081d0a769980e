import JvmDerived
import JvmDerived.Pilot.@@N@@Statement
import JvmDerived.Pilot.@@N@@Code
set_option linter.unusedVariables false
set_option linter.unusedSimpArgs false
namespace Jvm.RoadKit
open Sem ClassFile Op Lib Jvm.Stand Jvm.Free Jvm.LawKit
section New
variable {p : Program} {l : Launch} {e : Env} {R : Room} {s : State} {m : MethodId} {args : Array Value} {below : List Frame} {meth : Method} {c : Code} {T : State} {locs : List Loc} {cells slots : Nat}
theorem retI (X : Stand p l e R s m args below meth c T locs cells slots) (hx : p.tables.exec = Jvm.exec) {pc : Nat} {Ls : Array Slot} {z : Int32} {rest : List Value} (hret : meth.sig.returnType = some .int) (hd : decode c.code pc = .ok (.ireturn, 1)) {fs : List Frame}
    (hl : ∀ (f : JFrame) (acts : List Action), f.method = m → f.locked = none → f.entered = [] → (doReturn e (T.setTop f) acts (some (.int z))).1 = T.setFrames fs) : Steps p.tables e below (T.setTop (mkF m pc Ls (.int z :: rest))) (T.setFrames fs) := by
  have hm' : T.vm.method? m = some meth := X.method'
  have hn : narrow .int (.int z) = .int z := rfl
  show Steps p.tables e below (T.setTop { method := m, pc := pc, locals := Ls, stack := _ :: rest, locked := none }) _
  jvm_step X.here [X.here.top, hx, hd, hm', hret, hn]
  first | (intro acts; rw [hl _ acts rfl rfl rfl]) | rw [hl _ _ rfl rfl rfl]
  exact Steps.refl _
/-- from the state T with the frame g on top the run ends, returned, with Q -/
def own_Go (tb : Tables) (e : Env) (below : List Frame) (Q : Option Value → Heap → List Loc → Prop) (s : State) (C S : Nat) (T : State) (g : JFrame) : Prop :=
  ∃ t o, Steps tb e below (T.setTop g) t ∧ t.status = .running ∧ Ended t below o ∧ ∃ v L, o = .returned v ∧ Q v t.heap L ∧ FrameEnd s o t L C S
theorem own_by {tb : Tables} {Q : Option Value → Heap → List Loc → Prop} {C S : Nat} {T T' : State} {g g' : JFrame} (st : ∀ target, Steps tb e below (T'.setTop g') target → Steps tb e below (T.setTop g) target) (k : own_Go tb e below Q s C S T' g') : own_Go tb e below Q s C S T g := by
  obtain ⟨t, o, h1, h2⟩ := k
  exact ⟨t, o, st t h1, h2⟩
theorem bN {tb : Tables} {Q : Option Value → Heap → List Loc → Prop} {C S : Nat} {T : State} {g : JFrame} (T' : State) (g' : JFrame) (st : ∀ target, Steps tb e below (T'.setTop g') target → Steps tb e below (T.setTop g) target) (k : own_Go tb e below Q s C S T' g') : own_Go tb e below Q s C S T g := own_by st k
/-- the contract of a body: from the heap h0, with the arguments A, it returns, with Q -/
abbrev own_M (l : Launch) (y : MethodName) (code : ByteArray) (ml : Nat) (rt : Option FieldType) (ws : List Cond) (R : Room) (Z : State) (A : Array Value) (h0 : Heap) (Q : Option Value → Heap → List Loc → Prop) : Prop :=
  MetFree l y (head1 (Cond.code y code ml rt :: ws) R) (fun a U => a = A ∧ Z.Warmed39 U.vm ∧ U.heap = h0) (fun _ _ _ _ _ => True) (fun _ U o U' => ∃ v L, o = .returned v ∧ Q v U'.heap L ∧ FrameEnd U o U' L R.cells R.slots)
theorem own_bd {y : MethodName} {code : ByteArray} {ml : Nat} {rt : Option FieldType} {ws : List Cond} {Z : State} {A : Array Value} {h0 : Heap} {Q : Option Value → Heap → List Loc → Prop} (hpl : plainFor y = true)
    (k : ∀ p e s m below meth c s₁, BodyLoose p l y (head1 (Cond.code y code ml rt :: ws) R) code ml rt e s m A below meth c s₁ → p.tables.exec = Jvm.exec → c.code = code → c.maxLocals = ml → s.vm.findClass y.cls = some m.cls → meth.name = y.name → meth.locks = false → Z.Warmed39 s.vm → Stand p l e R s m A below meth c s₁ [] 0 0 → s₁.heap = h0 → own_Go p.tables e below Q s R.cells R.slots s₁ (entryFrame m A ml)) : own_M l y code ml rt ws R Z A h0 Q := by
  refine MetFree.of_bodySF hpl hisR ?_
  intro p e s m args below meth c s₁ Bd hml hP hK
  obtain ⟨rfl, hZ, hh⟩ := hP
  exact k p e s m below meth c s₁ Bd Bd.exec Bd.bytes hml (findClass_of_methodNamed Bd.named) (name_of_methodNamed Bd.named Bd.method).1 Bd.notSynchronized hZ (Stand.of_body Bd) (by rw [← hh, Bd.state]; rfl)
theorem own_ret {Q : Option Value → Heap → List Loc → Prop} {C S : Nat} {g : JFrame} (X : Stand p l e R s m args below meth c T locs cells slots) (hlk : meth.locks = false) {v : Option Value} (hv : meth.sig.returnType = none → v = none)
    (st : ∀ fs, (∀ (f : JFrame) (acts : List Action), f.method = m → f.locked = none → f.entered = [] → (doReturn e (T.setTop f) acts v).1 = T.setFrames fs) → Steps p.tables e below (T.setTop g) (T.setFrames fs))
    (hq : Q v T.heap locs) (hc : cells ≤ C) (hs : slots ≤ S) : own_Go p.tables e below Q s C S T g := by
  obtain ⟨fs, hr, hrun, hended, hW, hsame⟩ := X.leave (v := v) hv hlk
  exact ⟨_, _, st fs hr, hrun, hended, v, locs, rfl, hq, ⟨v, rfl⟩, hW, hsame.mono hc hs⟩
end New
end Jvm.RoadKit
namespace Jvm.Pilot.@@N@@
open Jvm Jvm.ClassFile Sem Op Lib Jvm.Free Jvm.Stand Jvm.LawKit Jvm.RoadKit Bundle Jvm.Pilot.@@N@@.Jvm.D
theorem pd_0 : parseMethodDescriptor "()V" = some ⟨[], none⟩ := by decide +kernel
theorem pd_1 : parseMethodDescriptor "([ILjava/util/List;)V" = some ⟨[(.array .int), (.object "java/util/List")], none⟩ := by decide +kernel
theorem pd_2 : parseMethodDescriptor "()D" = some ⟨[], some .double⟩ := by decide +kernel
theorem own_fld {args : Array Value} {s : State} {t : Term} {C n d : String} {a : Addr} {k : Int32} (ht : t.eval args s none [] s = some (.ref a)) (h : (Jvm.Cond.eq (.field t C n d) (.int k)).value args s none s [] = some true) : Fld s s.heap a C n d (.int k) := by
  refine Fld.start ?_
  rw [← fld_at (args := args) (first := s) (o := none) (idx := []) (s := s) (C := C) (n := n) (dd := d) ht]
  obtain ⟨x, y, e1, e2, -, -⟩ := cmp_v (Or.inl h)
  rw [Term.int_eval k] at e2
  obtain rfl : Value.int k = y := Option.some.inj e2
  cases x <;> simp [Jvm.Cond.value, e1, Term.int_eval] at h
  rw [e1, h]
theorem own_eqi {args : Array Value} {s : State} {a : Term} {k : Int32} (h : (Jvm.Cond.eq a (.int k)).value args s none s [] = some true) : a.eval args s none [] s = some (.int k) := by
  obtain ⟨x, y, e1, e2, -, -⟩ := cmp_v (Or.inl h)
  rw [Term.int_eval k] at e2
  obtain rfl : Value.int k = y := Option.some.inj e2
  cases x <;> simp [Jvm.Cond.value, e1, Term.int_eval] at h
  rw [e1, h]
theorem own_len {args : Array Value} {s : State} {t : Term} {a : Addr} {cl : Cell} {n : Int32} (ht : t.eval args s none [] s = some (.ref a)) (ha : s.arrayAt? a = some cl) (h : (Jvm.Cond.eq (.length t) (.int n)).value args s none s [] = some true) : cl.slots.size < 2 ^ 31 ∧ cl.slots.size.toInt32 = n := by
  have e := own_eqi h
  simp [Term.eval, ht, ha] at e
  exact e
theorem own_ne0 {args : Array Value} {s : State} {a : Term} {x k : Int32} (e : a.eval args s none [] s = some (.int x)) (h : (Jvm.Cond.not (.eq a (.int k))).before args s = true) : ¬ x = k := by
  have h1 := not_v (Cond.before_iff.mp h)
  intro q
  subst q
  simp [Jvm.Cond.value, e, Term.int_eval] at h1
theorem own_eqr {args : Array Value} {s : State} {a b : Term} {x : Addr} (eb : b.eval args s none [] s = some (.ref x)) (h : (Jvm.Cond.eq a b).value args s none s [] = some true) : a.eval args s none [] s = some (.ref x) := by
  obtain ⟨u, y, e1, e2, -, -⟩ := cmp_v (Or.inl h)
  rw [eb] at e2
  obtain rfl : Value.ref x = y := Option.some.inj e2
  cases u <;> simp [Jvm.Cond.value, e1, eb] at h
  rw [e1, h]
theorem own_nn (x : Int64) (n : Int32) (hn : n.toInt64 ≠ 0) : Jvm.Free.Fl.NoNaN64 (FP.ddiv (FP.l2d x) (FP.i2d n)) := by
  have h := ddiv_mag (Jvm.Free.Fl.l2d_mag x) (l2d_big hn) (by decide) (by decide)
  rw [← i2d_w] at h
  exact (h.fin (by decide)).noNaN
theorem own_dc (x y : Int64) (n : Int32) (hn : n.toInt64 ≠ 0) (h : x = y) : cmpValue (FP.dcmp (FP.ddiv (FP.l2d x) (FP.i2d n)) (FP.ddiv (FP.l2d y) (FP.i2d n))) .l = 0 := by
  subst h
  exact dcmpV_self (own_nn x n hn) _
theorem own_k (x : Int32) : (x &&& (3 : Int32)) + (1 : Int32) = 1 ∨ (x &&& (3 : Int32)) + (1 : Int32) = 2 ∨ (x &&& (3 : Int32)) + (1 : Int32) = 3 ∨ (x &&& (3 : Int32)) + (1 : Int32) = 4 := by
  have h := c_mask x 3 2 (by decide) (by decide)
  have h1 := Int.emod_nonneg x.toInt (b := ((2 ^ 2 : Nat) : Int)) (by decide)
  have h2 := Int.emod_lt_of_pos x.toInt (b := ((2 ^ 2 : Nat) : Int)) (by decide)
  rw [← h] at h1 h2
  have k0 : (0 : Int32).toInt = 0 := by decide
  have k1 : (1 : Int32).toInt = 1 := by decide
  have k2 : (2 : Int32).toInt = 2 := by decide
  have k3 : (3 : Int32).toInt = 3 := by decide
  have q : x &&& 3 = 0 ∨ x &&& 3 = 1 ∨ x &&& 3 = 2 ∨ x &&& 3 = 3 := by
    simp only [← Int32.toInt_inj, k0, k1, k2, k3]
    omega
  rcases q with q | q | q | q <;> rw [q] <;> decide
theorem d3_0 : decode jdk_22_method_1_code 0 = .ok (.aload_n 0, 1) := by decide +kernel
theorem d3_1 : decode jdk_22_method_1_code 1 = .ok (.invokespecial 1, 3) := by decide +kernel
theorem d3_4 : decode jdk_22_method_1_code 4 = .ok (.return_, 1) := by decide +kernel
theorem pn_3 : plainName "java/util/AbstractCollection" = true := by first | (simp [plainName, overriddenIn]; done) | decide +kernel
theorem ef_rm3 (m : MethodId) (a : Addr) : entryFrame m #[(.ref a)] 1 = mkF m 0 #[.val (.ref a)] [] := by first | (simp [entryFrame, mkF, argsToLocals, Value.category]; done) | rfl
def Q_rm3 (Z : State) (a : Addr) (h0 : Heap) (n0 : Nat) (v : Option Value) (h : Heap) (L : List Loc) : Prop := v = none ∧ Fr n0 L ∧ h = h0
set_option maxRecDepth 65536 in
set_option maxHeartbeats 40000000 in
theorem rm3 (l : Launch) (Z : State) (a0 : Array Value) (hw : ∀ d ∈ tables_1, d.before a0 Z = true) (ws : List Jvm.Cond) (a : Addr) (h0 : Heap) (n0 : Nat) (Z0 : n0 ≤ h0.size) :
    MetFree l (⟨"java/util/AbstractCollection", "<init>", "()V"⟩ : MethodName) (head1 (Jvm.Cond.code (⟨"java/util/AbstractCollection", "<init>", "()V"⟩ : MethodName) jdk_22_method_1_code 1 none :: ws) ({ frames := 1, cells := 0, slots := 0, locals := 12 } : Room)) (fun zz UU => zz = #[(.ref a)] ∧ Z.Warmed39 UU.vm ∧ UU.heap = h0) (fun _ _ _ _ _ => True) (fun _ U o U' => ∃ v L, o = .returned v ∧ Q_rm3 Z a h0 n0 v U'.heap L ∧ FrameEnd U o U' L ({ frames := 1, cells := 0, slots := 0, locals := 12 } : Room).cells ({ frames := 1, cells := 0, slots := 0, locals := 12 } : Room).slots) := by
  refine MetFree.of_bodySF (plainFor_of_name pn_3) hisR ?_
  intro p e s m args below meth c s₁ Bd hml0 hP hK
  obtain ⟨rfl, hZ, hh⟩ := hP
  have hx := Bd.exec
  have hby := Bd.bytes
  have hml : c.maxLocals = 1 := hml0
  have hown : s.vm.findClass "java/util/AbstractCollection" = some m.cls := findClass_of_methodNamed Bd.named
  have hnm := (name_of_methodNamed Bd.named Bd.method).1
  have hlk : meth.locks = false := BodyLoose.notSynchronized Bd
  have X0 : Stand p l e ({ frames := 1, cells := 0, slots := 0, locals := 12 } : Room) s m #[(.ref a)] below meth c s₁ [] 0 0 := Stand.of_body Bd
  have e0 : s₁.heap = h0 := by rw [← hh, Bd.state]; rfl
  have N0 := Fr.nil n0
  show own_Go p.tables e below (Q_rm3 Z a h0 n0) s ({ frames := 1, cells := 0, slots := 0, locals := 12 } : Room).cells ({ frames := 1, cells := 0, slots := 0, locals := 12 } : Room).slots s₁ (entryFrame m #[(.ref a)] 1)
  rw [ef_rm3 m a]
  refine own_by (T' := s₁) (g' := (mkF m 1 #[.val (.ref a)] [(.ref a)])) (fun _ k => XS.aloadN X0.here hx rfl (hb hby d3_0) rfl rfl k) ?_
  obtain ⟨T21, X21, e21, st21⟩ := initO X0 hx hZ hown (hw _ (List.mem_of_getElem? (i := 22) rfl)) (hw _ (List.mem_of_getElem? (i := 23) rfl)) (hw _ (List.mem_of_getElem? (i := 24) rfl)) e0 (g := (mkF m 1 #[.val (.ref a)] [(.ref a)])) rfl (by rw [hml]; rfl) rfl (hb hby d3_1) (by decide) (W := 0) (by show 2 * 0 + _ ≤ _; exact Nat.le_of_eq rfl) (by decide)
  refine own_by (T' := T21) (g' := (mkF m 4 #[.val (.ref a)] [])) (fun _ k => st21 _ k) ?_
  refine own_ret X21 hlk (v := none) (fun _ => rfl) (fun fs hr => X21.returnOut hx Bd.returns (hb hby d3_4) hr) ?_ (by decide) (by decide)
  rw [e21]
  exact ⟨rfl, N0, rfl⟩
theorem d2_0 : decode jdk_39_method_1_code 0 = .ok (.aload_n 0, 1) := by decide +kernel
theorem d2_1 : decode jdk_39_method_1_code 1 = .ok (.invokespecial 1, 3) := by decide +kernel
theorem d2_4 : decode jdk_39_method_1_code 4 = .ok (.aload_n 0, 1) := by decide +kernel
theorem d2_5 : decode jdk_39_method_1_code 5 = .ok (.iconst 0, 1) := by decide +kernel
theorem d2_6 : decode jdk_39_method_1_code 6 = .ok (.putfield 7, 3) := by decide +kernel
theorem d2_9 : decode jdk_39_method_1_code 9 = .ok (.return_, 1) := by decide +kernel
theorem pn_2 : plainName "java/util/AbstractList" = true := by first | (simp [plainName, overriddenIn]; done) | decide +kernel
theorem ef_rm2 (m : MethodId) (a : Addr) : entryFrame m #[(.ref a)] 1 = mkF m 0 #[.val (.ref a)] [] := by first | (simp [entryFrame, mkF, argsToLocals, Value.category]; done) | rfl
def Q_rm2 (Z : State) (a : Addr) (h0 : Heap) (n0 : Nat) (v : Option Value) (h : Heap) (L : List Loc) : Prop := v = none ∧ Fr n0 L ∧ Keep h0 h [a] ∧ Fld Z h a "java/util/AbstractList" "modCount" "I" (.int (0 : Int32)) ∧ Fld Z h a "java/util/ArrayList" "elementData" "[Ljava/lang/Object;" .null
set_option maxRecDepth 65536 in
set_option maxHeartbeats 40000000 in
theorem rm2 (l : Launch) (Z : State) (a0 : Array Value) (hw : ∀ d ∈ tables_1, d.before a0 Z = true) (ws : List Jvm.Cond) (a : Addr) (h0 : Heap) (n0 : Nat) (Z0 : n0 ≤ h0.size) (E_a : Exa Z h0 a "java/util/ArrayList") (F_modCount_a : Fld Z h0 a "java/util/AbstractList" "modCount" "I" (.int (0 : Int32))) (F_elementData_a : Fld Z h0 a "java/util/ArrayList" "elementData" "[Ljava/lang/Object;" .null) (g_a : n0 ≤ a) :
    MetFree l (⟨"java/util/AbstractList", "<init>", "()V"⟩ : MethodName) (head1 (Jvm.Cond.code (⟨"java/util/AbstractList", "<init>", "()V"⟩ : MethodName) jdk_39_method_1_code 1 none :: ws) ({ frames := 2, cells := 0, slots := 0, locals := 24 } : Room)) (fun zz UU => zz = #[(.ref a)] ∧ Z.Warmed39 UU.vm ∧ UU.heap = h0) (fun _ _ _ _ _ => True) (fun _ U o U' => ∃ v L, o = .returned v ∧ Q_rm2 Z a h0 n0 v U'.heap L ∧ FrameEnd U o U' L ({ frames := 2, cells := 0, slots := 0, locals := 24 } : Room).cells ({ frames := 2, cells := 0, slots := 0, locals := 24 } : Room).slots) := by
  refine MetFree.of_bodySF (plainFor_of_name pn_2) hisR ?_
  intro p e s m args below meth c s₁ Bd hml0 hP hK
  obtain ⟨rfl, hZ, hh⟩ := hP
  have hx := Bd.exec
  have hby := Bd.bytes
  have hml : c.maxLocals = 1 := hml0
  have hown : s.vm.findClass "java/util/AbstractList" = some m.cls := findClass_of_methodNamed Bd.named
  have hnm := (name_of_methodNamed Bd.named Bd.method).1
  have hlk : meth.locks = false := BodyLoose.notSynchronized Bd
  have X0 : Stand p l e ({ frames := 2, cells := 0, slots := 0, locals := 24 } : Room) s m #[(.ref a)] below meth c s₁ [] 0 0 := Stand.of_body Bd
  have e0 : s₁.heap = h0 := by rw [← hh, Bd.state]; rfl
  have N0 := Fr.nil n0
  show own_Go p.tables e below (Q_rm2 Z a h0 n0) s ({ frames := 2, cells := 0, slots := 0, locals := 24 } : Room).cells ({ frames := 2, cells := 0, slots := 0, locals := 24 } : Room).slots s₁ (entryFrame m #[(.ref a)] 1)
  rw [ef_rm2 m a]
  refine own_by (T' := s₁) (g' := (mkF m 1 #[.val (.ref a)] [(.ref a)])) (fun _ k => XS.aloadN X0.here hx rfl (hb hby d2_0) rfl rfl k) ?_
  obtain ⟨_, _, ⟨T21, L21, k21, n21⟩, -, X21, ⟨Lc21, hQ21, l21, y21, z21⟩, st21⟩ := X0.specialBack hx (y := (⟨"java/util/AbstractCollection", "<init>", "()V"⟩ : MethodName)) rfl hown (mvT hZ (hw _ (List.mem_of_getElem? (i := 16) rfl))) (mvT hZ (hw _ (List.mem_of_getElem? (i := 17) rfl))) (mvT hZ (hw _ (List.mem_of_getElem? (i := 21) rfl))) (by decide) (backOf (W := 0) (rm3 l Z a0 hw [] a  h0 n0 Z0 ) hZ (hw _ (List.mem_of_getElem? (i := 21) rfl)) (hw _ (List.mem_of_getElem? (i := 20) rfl)) (by decide) (by decide)) (g := (mkF m 1 #[.val (.ref a)] [(.ref a)])) rfl (by rw [hml]; rfl) (Steps.refl _) (a := a) (argsL := []) (rest := []) (lenOf pd_0 rfl) rfl (by show 2 * 0 + _ ≤ _; exact Nat.le_of_eq rfl) (hb hby d2_1) (fun _ _ => ⟨rfl, e0, (by decide : 0 + 0 ≤ _), (by decide : 0 + 0 ≤ _)⟩)
  dsimp only [Pt.U, Pt.locs, Pt.cells, Pt.slots] at X21 l21 y21 z21 st21 hQ21
  subst l21 y21 z21
  obtain ⟨rfl, N21q, e21⟩ := hQ21
  have N21 := Fr.app N0 N21q
  refine own_by (T' := T21) (g' := (mkF m 4 #[.val (.ref a)] [])) (fun _ k => st21.trans k) ?_
  refine own_by (T' := T21) (g' := (mkF m 5 #[.val (.ref a)] [(.ref a)])) (fun _ k => XS.aloadN X21.here hx rfl (hb hby d2_4) rfl rfl k) ?_
  refine own_by (T' := T21) (g' := (mkF m 6 #[.val (.ref a)] [(.int (0 : Int32)), (.ref a)])) (fun _ k => XS.iconst X21.here hx rfl (hb hby d2_5) k) ?_
  obtain ⟨T22, h22, X22, e22, W22, st22⟩ := putF X21 hx hZ hown (host := "") (Or.inl (hw _ (List.mem_of_getElem? (i := 25) rfl))) Via.refl e21 F_modCount_a E_a (Or.inl (hw _ (List.mem_of_getElem? (i := 26) rfl))) (hw _ (List.mem_of_getElem? (i := 5) rfl)) (ty := .int) (by decide) rfl rfl (g := (mkF m 6 #[.val (.ref a)] [(.int (0 : Int32)), (.ref a)])) rfl rfl (hb hby d2_6)
  have Fw22 : Fld Z h22 a "java/util/AbstractList" "modCount" "I" (.int (0 : Int32)) := Fld.same W22 F_modCount_a
  have K22 : Keep h0 h22 [a] := Keep.wr (Keep.refl h0 [a]) W22 (Or.inl (List.mem_of_getElem? (i := 0) rfl))
  have N22 := Fr.snoc X22 N21 g_a
  refine own_by (T' := T22) (g' := (mkF m 9 #[.val (.ref a)] [])) (fun _ k => st22 _ k) ?_
  refine own_ret X22 hlk (v := none) (fun _ => rfl) (fun fs hr => X22.returnOut hx Bd.returns (hb hby d2_9) hr) ?_ (by decide) (by decide)
  rw [e22]
  exact ⟨rfl, N22, K22, Fw22, (Fld.other W22 F_elementData_a (Or.inr (slot_ne (a0 := a0) (Or.inl (hw _ (List.mem_of_getElem? (i := 29) rfl))) (Or.inl (hw _ (List.mem_of_getElem? (i := 26) rfl))) (by decide) (t := (.array (.object "java/lang/Object"))) (t' := .int) (by decide) (by decide))))⟩
theorem d1_0 : decode jdk_38_method_2_code 0 = .ok (.aload_n 0, 1) := by decide +kernel
theorem d1_1 : decode jdk_38_method_2_code 1 = .ok (.invokespecial 1, 3) := by decide +kernel
theorem d1_4 : decode jdk_38_method_2_code 4 = .ok (.aload_n 0, 1) := by decide +kernel
theorem d1_5 : decode jdk_38_method_2_code 5 = .ok (.getstatic 39, 3) := by decide +kernel
theorem d1_8 : decode jdk_38_method_2_code 8 = .ok (.putfield 9, 3) := by decide +kernel
theorem d1_11 : decode jdk_38_method_2_code 11 = .ok (.return_, 1) := by decide +kernel
theorem pn_1 : plainName "java/util/ArrayList" = true := by first | (simp [plainName, overriddenIn]; done) | decide +kernel
theorem ef_rm1 (m : MethodId) (a : Addr) : entryFrame m #[(.ref a)] 1 = mkF m 0 #[.val (.ref a)] [] := by first | (simp [entryFrame, mkF, argsToLocals, Value.category]; done) | rfl
def Q_rm1 (Z : State) (a : Addr) (de : Addr) (h0 : Heap) (n0 : Nat) (v : Option Value) (h : Heap) (L : List Loc) : Prop := v = none ∧ Fr n0 L ∧ Keep h0 h [a]
set_option maxRecDepth 65536 in
set_option maxHeartbeats 40000000 in
theorem rm1 (l : Launch) (Z : State) (a0 : Array Value) (hw : ∀ d ∈ tables_1, d.before a0 Z = true) (ws : List Jvm.Cond) (a : Addr) (de : Addr) (h0 : Heap) (n0 : Nat) (Z0 : n0 ≤ h0.size) (O0 : Old Z n0 h0) (S_DE : Sta Z Z.heap "java/util/ArrayList" "DEFAULTCAPACITY_EMPTY_ELEMENTDATA" "[Ljava/lang/Object;" (.ref de)) (E_a : Exa Z h0 a "java/util/ArrayList") (F_modCount_a : Fld Z h0 a "java/util/AbstractList" "modCount" "I" (.int (0 : Int32))) (F_elementData_a : Fld Z h0 a "java/util/ArrayList" "elementData" "[Ljava/lang/Object;" .null) (g_a : n0 ≤ a) :
    MetFree l (⟨"java/util/ArrayList", "<init>", "()V"⟩ : MethodName) (head1 (Jvm.Cond.code (⟨"java/util/ArrayList", "<init>", "()V"⟩ : MethodName) jdk_38_method_2_code 1 none :: ws) ({ frames := 3, cells := 0, slots := 0, locals := 36 } : Room)) (fun zz UU => zz = #[(.ref a)] ∧ Z.Warmed39 UU.vm ∧ UU.heap = h0) (fun _ _ _ _ _ => True) (fun _ U o U' => ∃ v L, o = .returned v ∧ Q_rm1 Z a de h0 n0 v U'.heap L ∧ FrameEnd U o U' L ({ frames := 3, cells := 0, slots := 0, locals := 36 } : Room).cells ({ frames := 3, cells := 0, slots := 0, locals := 36 } : Room).slots) := by
  refine MetFree.of_bodySF (plainFor_of_name pn_1) hisR ?_
  intro p e s m args below meth c s₁ Bd hml0 hP hK
  obtain ⟨rfl, hZ, hh⟩ := hP
  have hx := Bd.exec
  have hby := Bd.bytes
  have hml : c.maxLocals = 1 := hml0
  have hown : s.vm.findClass "java/util/ArrayList" = some m.cls := findClass_of_methodNamed Bd.named
  have hnm := (name_of_methodNamed Bd.named Bd.method).1
  have hlk : meth.locks = false := BodyLoose.notSynchronized Bd
  have X0 : Stand p l e ({ frames := 3, cells := 0, slots := 0, locals := 36 } : Room) s m #[(.ref a)] below meth c s₁ [] 0 0 := Stand.of_body Bd
  have e0 : s₁.heap = h0 := by rw [← hh, Bd.state]; rfl
  have N0 := Fr.nil n0
  show own_Go p.tables e below (Q_rm1 Z a de h0 n0) s ({ frames := 3, cells := 0, slots := 0, locals := 36 } : Room).cells ({ frames := 3, cells := 0, slots := 0, locals := 36 } : Room).slots s₁ (entryFrame m #[(.ref a)] 1)
  rw [ef_rm1 m a]
  refine own_by (T' := s₁) (g' := (mkF m 1 #[.val (.ref a)] [(.ref a)])) (fun _ k => XS.aloadN X0.here hx rfl (hb hby d1_0) rfl rfl k) ?_
  obtain ⟨_, _, ⟨T21, L21, k21, n21⟩, -, X21, ⟨Lc21, hQ21, l21, y21, z21⟩, st21⟩ := X0.specialBack hx (y := (⟨"java/util/AbstractList", "<init>", "()V"⟩ : MethodName)) rfl hown (mvT hZ (hw _ (List.mem_of_getElem? (i := 10) rfl))) (mvT hZ (hw _ (List.mem_of_getElem? (i := 11) rfl))) (mvT hZ (hw _ (List.mem_of_getElem? (i := 15) rfl))) (by decide) (backOf (W := 0) (rm2 l Z a0 hw [] a  h0 n0 Z0 E_a F_modCount_a F_elementData_a g_a) hZ (hw _ (List.mem_of_getElem? (i := 15) rfl)) (hw _ (List.mem_of_getElem? (i := 14) rfl)) (by decide) (by decide)) (g := (mkF m 1 #[.val (.ref a)] [(.ref a)])) rfl (by rw [hml]; rfl) (Steps.refl _) (a := a) (argsL := []) (rest := []) (lenOf pd_0 rfl) rfl (by show 2 * 0 + _ ≤ _; exact Nat.le_of_eq rfl) (hb hby d1_1) (fun _ _ => ⟨rfl, e0, (by decide : 0 + 0 ≤ _), (by decide : 0 + 0 ≤ _)⟩)
  dsimp only [Pt.U, Pt.locs, Pt.cells, Pt.slots] at X21 l21 y21 z21 st21 hQ21
  subst l21 y21 z21
  obtain ⟨rfl, N21q, K21, Fm21, Fe21⟩ := hQ21
  have N21 := Fr.app N0 N21q
  have KK21 : Keep h0 T21.heap [a] := Keep.trans (Keep.refl h0 [a]) K21 (allS (Or.inl (List.mem_of_getElem? (i := 0) rfl)) all0)
  refine own_by (T' := T21) (g' := (mkF m 4 #[.val (.ref a)] [])) (fun _ k => st21.trans k) ?_
  refine own_by (T' := T21) (g' := (mkF m 5 #[.val (.ref a)] [(.ref a)])) (fun _ k => XS.aloadN X21.here hx rfl (hb hby d1_4) rfl rfl k) ?_
  obtain ⟨T22, X22, e22, st22⟩ := getS2 X21 hx hZ hown (host := "") (Or.inl (hw _ (List.mem_of_getElem? (i := 27) rfl))) Via.refl rfl (Sta.ext ((Old.keep O0 K21 (allS g_a all0))).2 S_DE) (g := (mkF m 5 #[.val (.ref a)] [(.ref a)])) rfl (hb hby d1_5)
  refine own_by (T' := T22) (g' := (mkF m 8 #[.val (.ref a)] [(.ref de), (.ref a)])) (fun _ k => st22 _ k) ?_
  obtain ⟨T23, h23, X23, e23, W23, st23⟩ := putF X22 hx hZ hown (host := "") (Or.inl (hw _ (List.mem_of_getElem? (i := 28) rfl))) Via.refl e22 Fe21 (Exa.keep E_a K21) (Or.inl (hw _ (List.mem_of_getElem? (i := 29) rfl))) (hw _ (List.mem_of_getElem? (i := 5) rfl)) (ty := (.array (.object "java/lang/Object"))) (by decide) rfl rfl (g := (mkF m 8 #[.val (.ref a)] [(.ref de), (.ref a)])) rfl rfl (hb hby d1_8)
  have Fw23 : Fld Z h23 a "java/util/ArrayList" "elementData" "[Ljava/lang/Object;" (.ref de) := Fld.same W23 Fe21
  have K23 : Keep h0 h23 [a] := Keep.wr KK21 W23 (Or.inl (List.mem_of_getElem? (i := 0) rfl))
  have N23 := Fr.snoc X23 N21 g_a
  refine own_by (T' := T23) (g' := (mkF m 11 #[.val (.ref a)] [])) (fun _ k => st23 _ k) ?_
  refine own_ret X23 hlk (v := none) (fun _ => rfl) (fun fs hr => X23.returnOut hx Bd.returns (hb hby d1_11) hr) ?_ (by decide) (by decide)
  rw [e23]
  exact ⟨rfl, N23, K23⟩
theorem d5_0 : decode prog_14_method_1_code 0 = .ok (.aload_n 0, 1) := by decide +kernel
theorem d5_1 : decode prog_14_method_1_code 1 = .ok (.invokespecial 1, 3) := by decide +kernel
theorem d5_4 : decode prog_14_method_1_code 4 = .ok (.aload_n 0, 1) := by decide +kernel
theorem d5_5 : decode prog_14_method_1_code 5 = .ok (.aload_n 1, 1) := by decide +kernel
theorem d5_6 : decode prog_14_method_1_code 6 = .ok (.putfield 7, 3) := by decide +kernel
theorem d5_9 : decode prog_14_method_1_code 9 = .ok (.lconst 0, 1) := by decide +kernel
theorem d5_10 : decode prog_14_method_1_code 10 = .ok (.lstore_n 3, 1) := by decide +kernel
theorem d5_11 : decode prog_14_method_1_code 11 = .ok (.aload_n 1, 1) := by decide +kernel
theorem d5_12 : decode prog_14_method_1_code 12 = .ok (.astore 5, 2) := by decide +kernel
theorem d5_14 : decode prog_14_method_1_code 14 = .ok (.aload 5, 2) := by decide +kernel
theorem d5_16 : decode prog_14_method_1_code 16 = .ok (.arraylength, 1) := by decide +kernel
theorem d5_17 : decode prog_14_method_1_code 17 = .ok (.istore 6, 2) := by decide +kernel
theorem d5_19 : decode prog_14_method_1_code 19 = .ok (.iconst 0, 1) := by decide +kernel
theorem d5_20 : decode prog_14_method_1_code 20 = .ok (.istore 7, 2) := by decide +kernel
theorem d5_22 : decode prog_14_method_1_code 22 = .ok (.iload 7, 2) := by decide +kernel
theorem d5_24 : decode prog_14_method_1_code 24 = .ok (.iload 6, 2) := by decide +kernel
theorem d5_26 : decode prog_14_method_1_code 26 = .ok (.if_icmp .ge 22, 3) := by decide +kernel
theorem d5_29 : decode prog_14_method_1_code 29 = .ok (.aload 5, 2) := by decide +kernel
theorem d5_31 : decode prog_14_method_1_code 31 = .ok (.iload 7, 2) := by decide +kernel
theorem d5_33 : decode prog_14_method_1_code 33 = .ok (.iaload, 1) := by decide +kernel
theorem d5_34 : decode prog_14_method_1_code 34 = .ok (.istore 8, 2) := by decide +kernel
theorem d5_36 : decode prog_14_method_1_code 36 = .ok (.lload_n 3, 1) := by decide +kernel
theorem d5_37 : decode prog_14_method_1_code 37 = .ok (.iload 8, 2) := by decide +kernel
theorem d5_39 : decode prog_14_method_1_code 39 = .ok (.i2l, 1) := by decide +kernel
theorem d5_40 : decode prog_14_method_1_code 40 = .ok (.ladd, 1) := by decide +kernel
theorem d5_41 : decode prog_14_method_1_code 41 = .ok (.lstore_n 3, 1) := by decide +kernel
theorem d5_42 : decode prog_14_method_1_code 42 = .ok (.iinc 7 1, 3) := by decide +kernel
theorem d5_45 : decode prog_14_method_1_code 45 = .ok (.goto (-23), 3) := by decide +kernel
theorem d5_48 : decode prog_14_method_1_code 48 = .ok (.aload_n 0, 1) := by decide +kernel
theorem d5_49 : decode prog_14_method_1_code 49 = .ok (.lload_n 3, 1) := by decide +kernel
theorem d5_50 : decode prog_14_method_1_code 50 = .ok (.putfield 13, 3) := by decide +kernel
theorem d5_53 : decode prog_14_method_1_code 53 = .ok (.aload_n 0, 1) := by decide +kernel
theorem d5_54 : decode prog_14_method_1_code 54 = .ok (.aload_n 2, 1) := by decide +kernel
theorem d5_55 : decode prog_14_method_1_code 55 = .ok (.putfield 17, 3) := by decide +kernel
theorem d5_58 : decode prog_14_method_1_code 58 = .ok (.return_, 1) := by decide +kernel
theorem pn_5 : plainName "com/example/postings/postings/index/FieldIndex" = true := by first | (simp [plainName, overriddenIn]; done) | decide +kernel
theorem ef_fi_1 (m : MethodId) (a : Addr) (ar : Addr) (ls : Addr) : entryFrame m #[(.ref a), (.ref ar), (.ref ls)] 9 = mkF m 0 #[.val (.ref a), .val (.ref ar), .val (.ref ls), .unset, .unset, .unset, .unset, .unset, .unset] [] := by first | (simp [entryFrame, mkF, argsToLocals, Value.category]; done) | rfl
def Q_fi_1 (Z : State) (a : Addr) (ar : Addr) (ls : Addr) (kk : ClassId) (el0 : Int32) (h0 : Heap) (n0 : Nat) (v : Option Value) (h : Heap) (L : List Loc) : Prop := v = none ∧ Fr n0 L ∧ Keep h0 h [a] ∧ Fld Z h a "com/example/postings/postings/index/FieldIndex" "lengths" "[I" (.ref ar) ∧ Fld Z h a "com/example/postings/postings/index/FieldIndex" "totalLength" "J" (.long ((0 : Int64) + (el0.toInt64)))
set_option maxRecDepth 65536 in
set_option maxHeartbeats 40000000 in
theorem fi_1 (l : Launch) (Z : State) (a0 : Array Value) (hw : ∀ d ∈ tables_1, d.before a0 Z = true) (ws : List Jvm.Cond) (a : Addr) (ar : Addr) (ls : Addr) (kk : ClassId) (el0 : Int32) (h0 : Heap) (n0 : Nat) (Z0 : n0 ≤ h0.size) (E_a : Exa Z h0 a "com/example/postings/postings/index/FieldIndex") (F_lengths_a : Fld Z h0 a "com/example/postings/postings/index/FieldIndex" "lengths" "[I" .null) (F_totalLength_a : Fld Z h0 a "com/example/postings/postings/index/FieldIndex" "totalLength" "J" (.long (0 : Int64))) (F_segments_a : Fld Z h0 a "com/example/postings/postings/index/FieldIndex" "segments" "Ljava/util/List;" .null) (g_a : n0 ≤ a) (V_ar : Arv Z h0 ar kk .int (1 : Int32) [(.int el0)] (.int (0 : Int32))) (near : a ≠ ar) :
    MetFree l (⟨"com/example/postings/postings/index/FieldIndex", "<init>", "([ILjava/util/List;)V"⟩ : MethodName) (head1 (Jvm.Cond.code (⟨"com/example/postings/postings/index/FieldIndex", "<init>", "([ILjava/util/List;)V"⟩ : MethodName) prog_14_method_1_code 9 none :: ws) ({ frames := 1, cells := 0, slots := 0, locals := 12 } : Room)) (fun zz UU => zz = #[(.ref a), (.ref ar), (.ref ls)] ∧ Z.Warmed39 UU.vm ∧ UU.heap = h0) (fun _ _ _ _ _ => True) (fun _ U o U' => ∃ v L, o = .returned v ∧ Q_fi_1 Z a ar ls kk el0 h0 n0 v U'.heap L ∧ FrameEnd U o U' L ({ frames := 1, cells := 0, slots := 0, locals := 12 } : Room).cells ({ frames := 1, cells := 0, slots := 0, locals := 12 } : Room).slots) := by
  refine MetFree.of_bodySF (plainFor_of_name pn_5) hisR ?_
  intro p e s m args below meth c s₁ Bd hml0 hP hK
  obtain ⟨rfl, hZ, hh⟩ := hP
  have hx := Bd.exec
  have hby := Bd.bytes
  have hml : c.maxLocals = 9 := hml0
  have hown : s.vm.findClass "com/example/postings/postings/index/FieldIndex" = some m.cls := findClass_of_methodNamed Bd.named
  have hnm := (name_of_methodNamed Bd.named Bd.method).1
  have hlk : meth.locks = false := BodyLoose.notSynchronized Bd
  have X0 : Stand p l e ({ frames := 1, cells := 0, slots := 0, locals := 12 } : Room) s m #[(.ref a), (.ref ar), (.ref ls)] below meth c s₁ [] 0 0 := Stand.of_body Bd
  have e0 : s₁.heap = h0 := by rw [← hh, Bd.state]; rfl
  have N0 := Fr.nil n0
  show own_Go p.tables e below (Q_fi_1 Z a ar ls kk el0 h0 n0) s ({ frames := 1, cells := 0, slots := 0, locals := 12 } : Room).cells ({ frames := 1, cells := 0, slots := 0, locals := 12 } : Room).slots s₁ (entryFrame m #[(.ref a), (.ref ar), (.ref ls)] 9)
  rw [ef_fi_1 m a ar ls]
  refine own_by (T' := s₁) (g' := (mkF m 1 #[.val (.ref a), .val (.ref ar), .val (.ref ls), .unset, .unset, .unset, .unset, .unset, .unset] [(.ref a)])) (fun _ k => XS.aloadN X0.here hx rfl (hb hby d5_0) rfl rfl k) ?_
  obtain ⟨T21, X21, e21, st21⟩ := initO X0 hx hZ hown (hw _ (List.mem_of_getElem? (i := 33) rfl)) (hw _ (List.mem_of_getElem? (i := 23) rfl)) (hw _ (List.mem_of_getElem? (i := 24) rfl)) e0 (g := (mkF m 1 #[.val (.ref a), .val (.ref ar), .val (.ref ls), .unset, .unset, .unset, .unset, .unset, .unset] [(.ref a)])) rfl (by rw [hml]; rfl) rfl (hb hby d5_1) (by decide) (W := 0) (by show 2 * 0 + _ ≤ _; exact Nat.le_of_eq rfl) (by decide)
  refine own_by (T' := T21) (g' := (mkF m 4 #[.val (.ref a), .val (.ref ar), .val (.ref ls), .unset, .unset, .unset, .unset, .unset, .unset] [])) (fun _ k => st21 _ k) ?_
  refine own_by (T' := T21) (g' := (mkF m 5 #[.val (.ref a), .val (.ref ar), .val (.ref ls), .unset, .unset, .unset, .unset, .unset, .unset] [(.ref a)])) (fun _ k => XS.aloadN X21.here hx rfl (hb hby d5_4) rfl rfl k) ?_
  refine own_by (T' := T21) (g' := (mkF m 6 #[.val (.ref a), .val (.ref ar), .val (.ref ls), .unset, .unset, .unset, .unset, .unset, .unset] [(.ref ar), (.ref a)])) (fun _ k => XS.aloadN X21.here hx rfl (hb hby d5_5) rfl rfl k) ?_
  obtain ⟨T22, h22, X22, e22, W22, st22⟩ := putF X21 hx hZ hown (host := "") (Or.inl (hw _ (List.mem_of_getElem? (i := 34) rfl))) Via.refl e21 F_lengths_a E_a (Or.inr ⟨(hw _ (List.mem_of_getElem? (i := 35) rfl)), rfl, hnm⟩) (hw _ (List.mem_of_getElem? (i := 2) rfl)) (ty := (.array .int)) (by decide) rfl rfl (g := (mkF m 6 #[.val (.ref a), .val (.ref ar), .val (.ref ls), .unset, .unset, .unset, .unset, .unset, .unset] [(.ref ar), (.ref a)])) rfl rfl (hb hby d5_6)
  have Fw22 : Fld Z h22 a "com/example/postings/postings/index/FieldIndex" "lengths" "[I" (.ref ar) := Fld.same W22 F_lengths_a
  have K22 : Keep h0 h22 [a] := Keep.wr (Keep.refl h0 [a]) W22 (Or.inl (List.mem_of_getElem? (i := 0) rfl))
  have N22 := Fr.snoc X22 N0 g_a
  refine own_by (T' := T22) (g' := (mkF m 9 #[.val (.ref a), .val (.ref ar), .val (.ref ls), .unset, .unset, .unset, .unset, .unset, .unset] [])) (fun _ k => st22 _ k) ?_
  refine own_by (T' := T22) (g' := (mkF m 10 #[.val (.ref a), .val (.ref ar), .val (.ref ls), .unset, .unset, .unset, .unset, .unset, .unset] [(.long (0 : Int64))])) (fun _ k => XS.lconst X22.here hx rfl (hb hby d5_9) k) ?_
  refine own_by (T' := T22) (g' := (mkF m 11 #[.val (.ref a), .val (.ref ar), .val (.ref ls), .val (.long (0 : Int64)), .second, .unset, .unset, .unset, .unset] [])) (fun _ k => XS.lstoreN X22.here hx rfl (hb hby d5_10) rfl (l' := #[.val (.ref a), .val (.ref ar), .val (.ref ls), .val (.long (0 : Int64)), .second, .unset, .unset, .unset, .unset]) rfl k) ?_
  refine own_by (T' := T22) (g' := (mkF m 12 #[.val (.ref a), .val (.ref ar), .val (.ref ls), .val (.long (0 : Int64)), .second, .unset, .unset, .unset, .unset] [(.ref ar)])) (fun _ k => XS.aloadN X22.here hx rfl (hb hby d5_11) rfl rfl k) ?_
  refine own_by (T' := T22) (g' := (mkF m 14 #[.val (.ref a), .val (.ref ar), .val (.ref ls), .val (.long (0 : Int64)), .second, .val (.ref ar), .unset, .unset, .unset] [])) (fun _ k => XS.astore X22.here hx rfl (hb hby d5_12) rfl rfl (l' := #[.val (.ref a), .val (.ref ar), .val (.ref ls), .val (.long (0 : Int64)), .second, .val (.ref ar), .unset, .unset, .unset]) rfl k) ?_
  refine own_by (T' := T22) (g' := (mkF m 16 #[.val (.ref a), .val (.ref ar), .val (.ref ls), .val (.long (0 : Int64)), .second, .val (.ref ar), .unset, .unset, .unset] [(.ref ar)])) (fun _ k => XS.aload X22.here hx rfl (hb hby d5_14) rfl rfl k) ?_
  obtain ⟨cl23, Ar23, q23, S23, N_23, H23, G23⟩ := id (Arv.other V_ar W22 (Ne.symm near))
  refine own_by (T' := T22) (g' := (mkF m 17 #[.val (.ref a), .val (.ref ar), .val (.ref ls), .val (.long (0 : Int64)), .second, .val (.ref ar), .unset, .unset, .unset] [(.int (1 : Int32))])) (fun _ k => X22.arraylength hx (by rw [e22]; exact Ar23.1) (State.isArrayOf_alike hZ.alike Ar23.2.1) (g := (mkF m 16 #[.val (.ref a), .val (.ref ar), .val (.ref ls), .val (.long (0 : Int64)), .second, .val (.ref ar), .unset, .unset, .unset] [(.ref ar)])) rfl rfl (hb hby d5_16) _ (by rw [len_of S23 N_23]; exact k)) ?_
  refine own_by (T' := T22) (g' := (mkF m 19 #[.val (.ref a), .val (.ref ar), .val (.ref ls), .val (.long (0 : Int64)), .second, .val (.ref ar), .val (.int (1 : Int32)), .unset, .unset] [])) (fun _ k => XS.istore X22.here hx rfl (hb hby d5_17) rfl (l' := #[.val (.ref a), .val (.ref ar), .val (.ref ls), .val (.long (0 : Int64)), .second, .val (.ref ar), .val (.int (1 : Int32)), .unset, .unset]) rfl k) ?_
  refine own_by (T' := T22) (g' := (mkF m 20 #[.val (.ref a), .val (.ref ar), .val (.ref ls), .val (.long (0 : Int64)), .second, .val (.ref ar), .val (.int (1 : Int32)), .unset, .unset] [(.int (0 : Int32))])) (fun _ k => XS.iconst X22.here hx rfl (hb hby d5_19) k) ?_
  refine own_by (T' := T22) (g' := (mkF m 22 #[.val (.ref a), .val (.ref ar), .val (.ref ls), .val (.long (0 : Int64)), .second, .val (.ref ar), .val (.int (1 : Int32)), .val (.int (0 : Int32)), .unset] [])) (fun _ k => XS.istore X22.here hx rfl (hb hby d5_20) rfl (l' := #[.val (.ref a), .val (.ref ar), .val (.ref ls), .val (.long (0 : Int64)), .second, .val (.ref ar), .val (.int (1 : Int32)), .val (.int (0 : Int32)), .unset]) rfl k) ?_
  refine own_by (T' := T22) (g' := (mkF m 24 #[.val (.ref a), .val (.ref ar), .val (.ref ls), .val (.long (0 : Int64)), .second, .val (.ref ar), .val (.int (1 : Int32)), .val (.int (0 : Int32)), .unset] [(.int (0 : Int32))])) (fun _ k => XS.iload X22.here hx rfl (hb hby d5_22) rfl k) ?_
  refine own_by (T' := T22) (g' := (mkF m 26 #[.val (.ref a), .val (.ref ar), .val (.ref ls), .val (.long (0 : Int64)), .second, .val (.ref ar), .val (.int (1 : Int32)), .val (.int (0 : Int32)), .unset] [(.int (1 : Int32)), (.int (0 : Int32))])) (fun _ k => XS.iload X22.here hx rfl (hb hby d5_24) rfl k) ?_
  refine own_by (T' := T22) (g' := (mkF m 29 #[.val (.ref a), .val (.ref ar), .val (.ref ls), .val (.long (0 : Int64)), .second, .val (.ref ar), .val (.int (1 : Int32)), .val (.int (0 : Int32)), .unset] [])) (fun _ k => XS.icmpNo X22.here hx rfl (hb hby d5_26) rfl (tlt (by decide)).2.1 k) ?_
  refine own_by (T' := T22) (g' := (mkF m 31 #[.val (.ref a), .val (.ref ar), .val (.ref ls), .val (.long (0 : Int64)), .second, .val (.ref ar), .val (.int (1 : Int32)), .val (.int (0 : Int32)), .unset] [(.ref ar)])) (fun _ k => XS.aload X22.here hx rfl (hb hby d5_29) rfl rfl k) ?_
  refine own_by (T' := T22) (g' := (mkF m 33 #[.val (.ref a), .val (.ref ar), .val (.ref ls), .val (.long (0 : Int64)), .second, .val (.ref ar), .val (.int (1 : Int32)), .val (.int (0 : Int32)), .unset] [(.int (0 : Int32)), (.ref ar)])) (fun _ k => XS.iload X22.here hx rfl (hb hby d5_31) rfl k) ?_
  obtain ⟨cl24, Ar24, q24, S24, N_24, H24, G24⟩ := id (Arv.other V_ar W22 (Ne.symm near))
  have hin24 : ¬ ((0 : Int32) < 0 ∨ cl24.slots.size ≤ ((0 : Int32)).toNatClampNeg) := inb_of S24 ⟨by decide, by decide⟩
  refine own_by (T' := T22) (g' := (mkF m 34 #[.val (.ref a), .val (.ref ar), .val (.ref ls), .val (.long (0 : Int64)), .second, .val (.ref ar), .val (.int (1 : Int32)), .val (.int (0 : Int32)), .unset] [(.int el0)])) (fun _ k => X22.iaload hx (j := (0 : Int32)) (v := (.int el0)) (by rw [e22]; exact Ar24.1) (State.isArrayOf_alike hZ.alike Ar24.2.1) Ar24.2.2 hin24 (Has.at H24 hin24 rfl) (g := (mkF m 33 #[.val (.ref a), .val (.ref ar), .val (.ref ls), .val (.long (0 : Int64)), .second, .val (.ref ar), .val (.int (1 : Int32)), .val (.int (0 : Int32)), .unset] [(.int (0 : Int32)), (.ref ar)])) rfl rfl (hb hby d5_33) _ k) ?_
  refine own_by (T' := T22) (g' := (mkF m 36 #[.val (.ref a), .val (.ref ar), .val (.ref ls), .val (.long (0 : Int64)), .second, .val (.ref ar), .val (.int (1 : Int32)), .val (.int (0 : Int32)), .val (.int el0)] [])) (fun _ k => XS.istore X22.here hx rfl (hb hby d5_34) rfl (l' := #[.val (.ref a), .val (.ref ar), .val (.ref ls), .val (.long (0 : Int64)), .second, .val (.ref ar), .val (.int (1 : Int32)), .val (.int (0 : Int32)), .val (.int el0)]) rfl k) ?_
  refine own_by (T' := T22) (g' := (mkF m 37 #[.val (.ref a), .val (.ref ar), .val (.ref ls), .val (.long (0 : Int64)), .second, .val (.ref ar), .val (.int (1 : Int32)), .val (.int (0 : Int32)), .val (.int el0)] [(.long (0 : Int64))])) (fun _ k => XS.lloadN X22.here hx rfl (hb hby d5_36) rfl k) ?_
  refine own_by (T' := T22) (g' := (mkF m 39 #[.val (.ref a), .val (.ref ar), .val (.ref ls), .val (.long (0 : Int64)), .second, .val (.ref ar), .val (.int (1 : Int32)), .val (.int (0 : Int32)), .val (.int el0)] [(.int el0), (.long (0 : Int64))])) (fun _ k => XS.iload X22.here hx rfl (hb hby d5_37) rfl k) ?_
  refine own_by (T' := T22) (g' := (mkF m 40 #[.val (.ref a), .val (.ref ar), .val (.ref ls), .val (.long (0 : Int64)), .second, .val (.ref ar), .val (.int (1 : Int32)), .val (.int (0 : Int32)), .val (.int el0)] [(.long (el0.toInt64)), (.long (0 : Int64))])) (fun _ k => XS.i2l X22.here hx rfl (hb hby d5_39) rfl k) ?_
  refine own_by (T' := T22) (g' := (mkF m 41 #[.val (.ref a), .val (.ref ar), .val (.ref ls), .val (.long (0 : Int64)), .second, .val (.ref ar), .val (.int (1 : Int32)), .val (.int (0 : Int32)), .val (.int el0)] [(.long ((0 : Int64) + (el0.toInt64)))])) (fun _ k => XS.ladd X22.here hx rfl (hb hby d5_40) rfl k) ?_
  refine own_by (T' := T22) (g' := (mkF m 42 #[.val (.ref a), .val (.ref ar), .val (.ref ls), .val (.long ((0 : Int64) + (el0.toInt64))), .second, .val (.ref ar), .val (.int (1 : Int32)), .val (.int (0 : Int32)), .val (.int el0)] [])) (fun _ k => XS.lstoreN X22.here hx rfl (hb hby d5_41) rfl (l' := #[.val (.ref a), .val (.ref ar), .val (.ref ls), .val (.long ((0 : Int64) + (el0.toInt64))), .second, .val (.ref ar), .val (.int (1 : Int32)), .val (.int (0 : Int32)), .val (.int el0)]) rfl k) ?_
  refine own_by (T' := T22) (g' := (mkF m 45 #[.val (.ref a), .val (.ref ar), .val (.ref ls), .val (.long ((0 : Int64) + (el0.toInt64))), .second, .val (.ref ar), .val (.int (1 : Int32)), .val (.int (1 : Int32)), .val (.int el0)] [])) (fun _ k => XS.iinc X22.here hx rfl (hb hby d5_42) rfl (l' := #[.val (.ref a), .val (.ref ar), .val (.ref ls), .val (.long ((0 : Int64) + (el0.toInt64))), .second, .val (.ref ar), .val (.int (1 : Int32)), .val (.int (1 : Int32)), .val (.int el0)]) rfl k) ?_
  refine own_by (T' := T22) (g' := (mkF m 22 #[.val (.ref a), .val (.ref ar), .val (.ref ls), .val (.long ((0 : Int64) + (el0.toInt64))), .second, .val (.ref ar), .val (.int (1 : Int32)), .val (.int (1 : Int32)), .val (.int el0)] [])) (fun _ k => XS.goto X22.here hx rfl (pc0 := 45) (pc' := 22) rfl (hb hby d5_45) (by decide) (by decide) k) ?_
  refine own_by (T' := T22) (g' := (mkF m 24 #[.val (.ref a), .val (.ref ar), .val (.ref ls), .val (.long ((0 : Int64) + (el0.toInt64))), .second, .val (.ref ar), .val (.int (1 : Int32)), .val (.int (1 : Int32)), .val (.int el0)] [(.int (1 : Int32))])) (fun _ k => XS.iload X22.here hx rfl (hb hby d5_22) rfl k) ?_
  refine own_by (T' := T22) (g' := (mkF m 26 #[.val (.ref a), .val (.ref ar), .val (.ref ls), .val (.long ((0 : Int64) + (el0.toInt64))), .second, .val (.ref ar), .val (.int (1 : Int32)), .val (.int (1 : Int32)), .val (.int el0)] [(.int (1 : Int32)), (.int (1 : Int32))])) (fun _ k => XS.iload X22.here hx rfl (hb hby d5_24) rfl k) ?_
  refine own_by (T' := T22) (g' := (mkF m 48 #[.val (.ref a), .val (.ref ar), .val (.ref ls), .val (.long ((0 : Int64) + (el0.toInt64))), .second, .val (.ref ar), .val (.int (1 : Int32)), .val (.int (1 : Int32)), .val (.int el0)] [])) (fun _ k => XS.icmpYes X22.here hx rfl (pc0 := 26) (pc' := 48) rfl (hb hby d5_26) rfl (flt (by decide)).2.1 (by decide) (by decide) k) ?_
  refine own_by (T' := T22) (g' := (mkF m 49 #[.val (.ref a), .val (.ref ar), .val (.ref ls), .val (.long ((0 : Int64) + (el0.toInt64))), .second, .val (.ref ar), .val (.int (1 : Int32)), .val (.int (1 : Int32)), .val (.int el0)] [(.ref a)])) (fun _ k => XS.aloadN X22.here hx rfl (hb hby d5_48) rfl rfl k) ?_
  refine own_by (T' := T22) (g' := (mkF m 50 #[.val (.ref a), .val (.ref ar), .val (.ref ls), .val (.long ((0 : Int64) + (el0.toInt64))), .second, .val (.ref ar), .val (.int (1 : Int32)), .val (.int (1 : Int32)), .val (.int el0)] [(.long ((0 : Int64) + (el0.toInt64))), (.ref a)])) (fun _ k => XS.lloadN X22.here hx rfl (hb hby d5_49) rfl k) ?_
  obtain ⟨T25, h25, X25, e25, W25, st25⟩ := putF X22 hx hZ hown (host := "") (Or.inl (hw _ (List.mem_of_getElem? (i := 36) rfl))) Via.refl e22 (Fld.other W22 F_totalLength_a (Or.inr (slot_ne (a0 := a0) (Or.inr (hw _ (List.mem_of_getElem? (i := 37) rfl))) (Or.inr (hw _ (List.mem_of_getElem? (i := 35) rfl))) (by decide) (t := .long) (t' := (.array .int)) (by decide) (by decide)))) (Exa.wr W22 E_a) (Or.inr ⟨(hw _ (List.mem_of_getElem? (i := 37) rfl)), rfl, hnm⟩) (hw _ (List.mem_of_getElem? (i := 2) rfl)) (ty := .long) (by decide) rfl rfl (g := (mkF m 50 #[.val (.ref a), .val (.ref ar), .val (.ref ls), .val (.long ((0 : Int64) + (el0.toInt64))), .second, .val (.ref ar), .val (.int (1 : Int32)), .val (.int (1 : Int32)), .val (.int el0)] [(.long ((0 : Int64) + (el0.toInt64))), (.ref a)])) rfl rfl (hb hby d5_50)
  have Fw25 : Fld Z h25 a "com/example/postings/postings/index/FieldIndex" "totalLength" "J" (.long ((0 : Int64) + (el0.toInt64))) := Fld.same W25 (Fld.other W22 F_totalLength_a (Or.inr (slot_ne (a0 := a0) (Or.inr (hw _ (List.mem_of_getElem? (i := 37) rfl))) (Or.inr (hw _ (List.mem_of_getElem? (i := 35) rfl))) (by decide) (t := .long) (t' := (.array .int)) (by decide) (by decide))))
  have K25 : Keep h0 h25 [a] := Keep.wr K22 W25 (Or.inl (List.mem_of_getElem? (i := 0) rfl))
  have N25 := Fr.snoc X25 N22 g_a
  refine own_by (T' := T25) (g' := (mkF m 53 #[.val (.ref a), .val (.ref ar), .val (.ref ls), .val (.long ((0 : Int64) + (el0.toInt64))), .second, .val (.ref ar), .val (.int (1 : Int32)), .val (.int (1 : Int32)), .val (.int el0)] [])) (fun _ k => st25 _ k) ?_
  refine own_by (T' := T25) (g' := (mkF m 54 #[.val (.ref a), .val (.ref ar), .val (.ref ls), .val (.long ((0 : Int64) + (el0.toInt64))), .second, .val (.ref ar), .val (.int (1 : Int32)), .val (.int (1 : Int32)), .val (.int el0)] [(.ref a)])) (fun _ k => XS.aloadN X25.here hx rfl (hb hby d5_53) rfl rfl k) ?_
  refine own_by (T' := T25) (g' := (mkF m 55 #[.val (.ref a), .val (.ref ar), .val (.ref ls), .val (.long ((0 : Int64) + (el0.toInt64))), .second, .val (.ref ar), .val (.int (1 : Int32)), .val (.int (1 : Int32)), .val (.int el0)] [(.ref ls), (.ref a)])) (fun _ k => XS.aloadN X25.here hx rfl (hb hby d5_54) rfl rfl k) ?_
  obtain ⟨T26, h26, X26, e26, W26, st26⟩ := putF X25 hx hZ hown (host := "") (Or.inl (hw _ (List.mem_of_getElem? (i := 38) rfl))) Via.refl e25 (Fld.other W25 (Fld.other W22 F_segments_a (Or.inr (slot_ne (a0 := a0) (Or.inr (hw _ (List.mem_of_getElem? (i := 39) rfl))) (Or.inr (hw _ (List.mem_of_getElem? (i := 35) rfl))) (by decide) (t := (.object "java/util/List")) (t' := (.array .int)) (by decide) (by decide)))) (Or.inr (slot_ne (a0 := a0) (Or.inr (hw _ (List.mem_of_getElem? (i := 39) rfl))) (Or.inr (hw _ (List.mem_of_getElem? (i := 37) rfl))) (by decide) (t := (.object "java/util/List")) (t' := .long) (by decide) (by decide)))) (Exa.wr W25 (Exa.wr W22 E_a)) (Or.inr ⟨(hw _ (List.mem_of_getElem? (i := 39) rfl)), rfl, hnm⟩) (hw _ (List.mem_of_getElem? (i := 2) rfl)) (ty := (.object "java/util/List")) (by decide) rfl rfl (g := (mkF m 55 #[.val (.ref a), .val (.ref ar), .val (.ref ls), .val (.long ((0 : Int64) + (el0.toInt64))), .second, .val (.ref ar), .val (.int (1 : Int32)), .val (.int (1 : Int32)), .val (.int el0)] [(.ref ls), (.ref a)])) rfl rfl (hb hby d5_55)
  have Fw26 : Fld Z h26 a "com/example/postings/postings/index/FieldIndex" "segments" "Ljava/util/List;" (.ref ls) := Fld.same W26 (Fld.other W25 (Fld.other W22 F_segments_a (Or.inr (slot_ne (a0 := a0) (Or.inr (hw _ (List.mem_of_getElem? (i := 39) rfl))) (Or.inr (hw _ (List.mem_of_getElem? (i := 35) rfl))) (by decide) (t := (.object "java/util/List")) (t' := (.array .int)) (by decide) (by decide)))) (Or.inr (slot_ne (a0 := a0) (Or.inr (hw _ (List.mem_of_getElem? (i := 39) rfl))) (Or.inr (hw _ (List.mem_of_getElem? (i := 37) rfl))) (by decide) (t := (.object "java/util/List")) (t' := .long) (by decide) (by decide))))
  have K26 : Keep h0 h26 [a] := Keep.wr K25 W26 (Or.inl (List.mem_of_getElem? (i := 0) rfl))
  have N26 := Fr.snoc X26 N25 g_a
  refine own_by (T' := T26) (g' := (mkF m 58 #[.val (.ref a), .val (.ref ar), .val (.ref ls), .val (.long ((0 : Int64) + (el0.toInt64))), .second, .val (.ref ar), .val (.int (1 : Int32)), .val (.int (1 : Int32)), .val (.int el0)] [])) (fun _ k => st26 _ k) ?_
  refine own_ret X26 hlk (v := none) (fun _ => rfl) (fun fs hr => X26.returnOut hx Bd.returns (hb hby d5_58) hr) ?_ (by decide) (by decide)
  rw [e26]
  exact ⟨rfl, N26, K26, (Fld.other W26 (Fld.other W25 Fw22 (Or.inr (slot_ne (a0 := a0) (Or.inr (hw _ (List.mem_of_getElem? (i := 35) rfl))) (Or.inr (hw _ (List.mem_of_getElem? (i := 37) rfl))) (by decide) (t := (.array .int)) (t' := .long) (by decide) (by decide)))) (Or.inr (slot_ne (a0 := a0) (Or.inr (hw _ (List.mem_of_getElem? (i := 35) rfl))) (Or.inr (hw _ (List.mem_of_getElem? (i := 39) rfl))) (by decide) (t := (.array .int)) (t' := (.object "java/util/List")) (by decide) (by decide)))), (Fld.other W26 Fw25 (Or.inr (slot_ne (a0 := a0) (Or.inr (hw _ (List.mem_of_getElem? (i := 37) rfl))) (Or.inr (hw _ (List.mem_of_getElem? (i := 39) rfl))) (by decide) (t := .long) (t' := (.object "java/util/List")) (by decide) (by decide))))⟩
theorem d6_0 : decode prog_14_method_3_code 0 = .ok (.aload_n 0, 1) := by decide +kernel
theorem d6_1 : decode prog_14_method_3_code 1 = .ok (.getfield 13, 3) := by decide +kernel
theorem d6_4 : decode prog_14_method_3_code 4 = .ok (.l2d, 1) := by decide +kernel
theorem d6_5 : decode prog_14_method_3_code 5 = .ok (.aload_n 0, 1) := by decide +kernel
theorem d6_6 : decode prog_14_method_3_code 6 = .ok (.getfield 7, 3) := by decide +kernel
theorem d6_9 : decode prog_14_method_3_code 9 = .ok (.arraylength, 1) := by decide +kernel
theorem d6_10 : decode prog_14_method_3_code 10 = .ok (.i2d, 1) := by decide +kernel
theorem d6_11 : decode prog_14_method_3_code 11 = .ok (.ddiv, 1) := by decide +kernel
theorem d6_12 : decode prog_14_method_3_code 12 = .ok (.dreturn, 1) := by decide +kernel
theorem pn_6 : plainName "com/example/postings/postings/index/FieldIndex" = true := by first | (simp [plainName, overriddenIn]; done) | decide +kernel
theorem ef_av_1 (m : MethodId) (a : Addr) : entryFrame m #[(.ref a)] 1 = mkF m 0 #[.val (.ref a)] [] := by first | (simp [entryFrame, mkF, argsToLocals, Value.category]; done) | rfl
def Q_av_1 (Z : State) (a : Addr) (ar : Addr) (kk : ClassId) (S0 : Int64) (el0 : Int32) (h0 : Heap) (n0 : Nat) (v : Option Value) (h : Heap) (L : List Loc) : Prop := v = some (.double (FP.ddiv (FP.l2d S0) (FP.i2d (1 : Int32)))) ∧ Fr n0 L ∧ h = h0
set_option maxRecDepth 65536 in
set_option maxHeartbeats 40000000 in
theorem av_1 (l : Launch) (Z : State) (a0 : Array Value) (hw : ∀ d ∈ tables_1, d.before a0 Z = true) (ws : List Jvm.Cond) (a : Addr) (ar : Addr) (kk : ClassId) (S0 : Int64) (el0 : Int32) (h0 : Heap) (n0 : Nat) (Z0 : n0 ≤ h0.size) (F_lengths_a : Fld Z h0 a "com/example/postings/postings/index/FieldIndex" "lengths" "[I" (.ref ar)) (F_totalLength_a : Fld Z h0 a "com/example/postings/postings/index/FieldIndex" "totalLength" "J" (.long S0)) (V_ar : Arv Z h0 ar kk .int (1 : Int32) [(.int el0)] (.int (0 : Int32))) :
    MetFree l (⟨"com/example/postings/postings/index/FieldIndex", "averageLength", "()D"⟩ : MethodName) (head1 (Jvm.Cond.code (⟨"com/example/postings/postings/index/FieldIndex", "averageLength", "()D"⟩ : MethodName) prog_14_method_3_code 1 (some .double) :: ws) ({ frames := 0, cells := 0, slots := 0, locals := 0 } : Room)) (fun zz UU => zz = #[(.ref a)] ∧ Z.Warmed39 UU.vm ∧ UU.heap = h0) (fun _ _ _ _ _ => True) (fun _ U o U' => ∃ v L, o = .returned v ∧ Q_av_1 Z a ar kk S0 el0 h0 n0 v U'.heap L ∧ FrameEnd U o U' L ({ frames := 0, cells := 0, slots := 0, locals := 0 } : Room).cells ({ frames := 0, cells := 0, slots := 0, locals := 0 } : Room).slots) := by
  refine MetFree.of_bodySF (plainFor_of_name pn_6) hisR ?_
  intro p e s m args below meth c s₁ Bd hml0 hP hK
  obtain ⟨rfl, hZ, hh⟩ := hP
  have hx := Bd.exec
  have hby := Bd.bytes
  have hml : c.maxLocals = 1 := hml0
  have hown : s.vm.findClass "com/example/postings/postings/index/FieldIndex" = some m.cls := findClass_of_methodNamed Bd.named
  have hnm := (name_of_methodNamed Bd.named Bd.method).1
  have hlk : meth.locks = false := BodyLoose.notSynchronized Bd
  have X0 : Stand p l e ({ frames := 0, cells := 0, slots := 0, locals := 0 } : Room) s m #[(.ref a)] below meth c s₁ [] 0 0 := Stand.of_body Bd
  have e0 : s₁.heap = h0 := by rw [← hh, Bd.state]; rfl
  have N0 := Fr.nil n0
  show own_Go p.tables e below (Q_av_1 Z a ar kk S0 el0 h0 n0) s ({ frames := 0, cells := 0, slots := 0, locals := 0 } : Room).cells ({ frames := 0, cells := 0, slots := 0, locals := 0 } : Room).slots s₁ (entryFrame m #[(.ref a)] 1)
  rw [ef_av_1 m a]
  refine own_by (T' := s₁) (g' := (mkF m 1 #[.val (.ref a)] [(.ref a)])) (fun _ k => XS.aloadN X0.here hx rfl (hb hby d6_0) rfl rfl k) ?_
  obtain ⟨T21, X21, e21, st21⟩ := getF X0 hx hZ hown (host := "") (Or.inl (hw _ (List.mem_of_getElem? (i := 36) rfl))) Via.refl e0 F_totalLength_a (g := (mkF m 1 #[.val (.ref a)] [(.ref a)])) rfl rfl (hb hby d6_1)
  refine own_by (T' := T21) (g' := (mkF m 4 #[.val (.ref a)] [(.long S0)])) (fun _ k => st21 _ k) ?_
  refine own_by (T' := T21) (g' := (mkF m 5 #[.val (.ref a)] [(.double (FP.l2d S0))])) (fun _ k => XS.l2dS X21.here hx rfl (hb hby d6_4) rfl rfl k) ?_
  refine own_by (T' := T21) (g' := (mkF m 6 #[.val (.ref a)] [(.ref a), (.double (FP.l2d S0))])) (fun _ k => XS.aloadN X21.here hx rfl (hb hby d6_5) rfl rfl k) ?_
  obtain ⟨T22, X22, e22, st22⟩ := getF X21 hx hZ hown (host := "") (Or.inl (hw _ (List.mem_of_getElem? (i := 34) rfl))) Via.refl e21 F_lengths_a (g := (mkF m 6 #[.val (.ref a)] [(.ref a), (.double (FP.l2d S0))])) rfl rfl (hb hby d6_6)
  refine own_by (T' := T22) (g' := (mkF m 9 #[.val (.ref a)] [(.ref ar), (.double (FP.l2d S0))])) (fun _ k => st22 _ k) ?_
  obtain ⟨cl23, Ar23, q23, S23, N_23, H23, G23⟩ := id V_ar
  refine own_by (T' := T22) (g' := (mkF m 10 #[.val (.ref a)] [(.int (1 : Int32)), (.double (FP.l2d S0))])) (fun _ k => X22.arraylength hx (by rw [e22]; exact Ar23.1) (State.isArrayOf_alike hZ.alike Ar23.2.1) (g := (mkF m 9 #[.val (.ref a)] [(.ref ar), (.double (FP.l2d S0))])) rfl rfl (hb hby d6_9) _ (by rw [len_of S23 N_23]; exact k)) ?_
  refine own_by (T' := T22) (g' := (mkF m 11 #[.val (.ref a)] [(.double (FP.i2d (1 : Int32))), (.double (FP.l2d S0))])) (fun _ k => XS.i2dS X22.here hx rfl (hb hby d6_10) rfl rfl k) ?_
  refine own_by (T' := T22) (g' := (mkF m 12 #[.val (.ref a)] [(.double (FP.ddiv (FP.l2d S0) (FP.i2d (1 : Int32))))])) (fun _ k => XS.ddivS X22.here hx rfl (hb hby d6_11) rfl (own_nn _ (1 : Int32) (by decide)) rfl k) ?_
  refine own_ret X22 hlk (v := some (.double (FP.ddiv (FP.l2d S0) (FP.i2d (1 : Int32))))) (fun h => by rw [Bd.returns] at h; cases h) (fun fs hr => retOut X22 hx Bd.returns rfl (Or.inr (Or.inr (Or.inl ⟨rfl, rfl, _, rfl⟩))) (hb hby d6_12) hr) ?_ (by decide) (by decide)
  rw [e22]
  exact ⟨rfl, N0, rfl⟩
theorem ef_fi_2 (m : MethodId) (a : Addr) (ar : Addr) (ls : Addr) : entryFrame m #[(.ref a), (.ref ar), (.ref ls)] 9 = mkF m 0 #[.val (.ref a), .val (.ref ar), .val (.ref ls), .unset, .unset, .unset, .unset, .unset, .unset] [] := by first | (simp [entryFrame, mkF, argsToLocals, Value.category]; done) | rfl
def Q_fi_2 (Z : State) (a : Addr) (ar : Addr) (ls : Addr) (kk : ClassId) (el0 : Int32) (el1 : Int32) (h0 : Heap) (n0 : Nat) (v : Option Value) (h : Heap) (L : List Loc) : Prop := v = none ∧ Fr n0 L ∧ Keep h0 h [a] ∧ Fld Z h a "com/example/postings/postings/index/FieldIndex" "lengths" "[I" (.ref ar) ∧ Fld Z h a "com/example/postings/postings/index/FieldIndex" "totalLength" "J" (.long (((0 : Int64) + (el0.toInt64)) + (el1.toInt64)))
set_option maxRecDepth 65536 in
set_option maxHeartbeats 40000000 in
theorem fi_2 (l : Launch) (Z : State) (a0 : Array Value) (hw : ∀ d ∈ tables_1, d.before a0 Z = true) (ws : List Jvm.Cond) (a : Addr) (ar : Addr) (ls : Addr) (kk : ClassId) (el0 : Int32) (el1 : Int32) (h0 : Heap) (n0 : Nat) (Z0 : n0 ≤ h0.size) (E_a : Exa Z h0 a "com/example/postings/postings/index/FieldIndex") (F_lengths_a : Fld Z h0 a "com/example/postings/postings/index/FieldIndex" "lengths" "[I" .null) (F_totalLength_a : Fld Z h0 a "com/example/postings/postings/index/FieldIndex" "totalLength" "J" (.long (0 : Int64))) (F_segments_a : Fld Z h0 a "com/example/postings/postings/index/FieldIndex" "segments" "Ljava/util/List;" .null) (g_a : n0 ≤ a) (V_ar : Arv Z h0 ar kk .int (2 : Int32) [(.int el0), (.int el1)] (.int (0 : Int32))) (near : a ≠ ar) :
    MetFree l (⟨"com/example/postings/postings/index/FieldIndex", "<init>", "([ILjava/util/List;)V"⟩ : MethodName) (head1 (Jvm.Cond.code (⟨"com/example/postings/postings/index/FieldIndex", "<init>", "([ILjava/util/List;)V"⟩ : MethodName) prog_14_method_1_code 9 none :: ws) ({ frames := 1, cells := 0, slots := 0, locals := 12 } : Room)) (fun zz UU => zz = #[(.ref a), (.ref ar), (.ref ls)] ∧ Z.Warmed39 UU.vm ∧ UU.heap = h0) (fun _ _ _ _ _ => True) (fun _ U o U' => ∃ v L, o = .returned v ∧ Q_fi_2 Z a ar ls kk el0 el1 h0 n0 v U'.heap L ∧ FrameEnd U o U' L ({ frames := 1, cells := 0, slots := 0, locals := 12 } : Room).cells ({ frames := 1, cells := 0, slots := 0, locals := 12 } : Room).slots) := by
  refine MetFree.of_bodySF (plainFor_of_name pn_5) hisR ?_
  intro p e s m args below meth c s₁ Bd hml0 hP hK
  obtain ⟨rfl, hZ, hh⟩ := hP
  have hx := Bd.exec
  have hby := Bd.bytes
  have hml : c.maxLocals = 9 := hml0
  have hown : s.vm.findClass "com/example/postings/postings/index/FieldIndex" = some m.cls := findClass_of_methodNamed Bd.named
  have hnm := (name_of_methodNamed Bd.named Bd.method).1
  have hlk : meth.locks = false := BodyLoose.notSynchronized Bd
  have X0 : Stand p l e ({ frames := 1, cells := 0, slots := 0, locals := 12 } : Room) s m #[(.ref a), (.ref ar), (.ref ls)] below meth c s₁ [] 0 0 := Stand.of_body Bd
  have e0 : s₁.heap = h0 := by rw [← hh, Bd.state]; rfl
  have N0 := Fr.nil n0
  show own_Go p.tables e below (Q_fi_2 Z a ar ls kk el0 el1 h0 n0) s ({ frames := 1, cells := 0, slots := 0, locals := 12 } : Room).cells ({ frames := 1, cells := 0, slots := 0, locals := 12 } : Room).slots s₁ (entryFrame m #[(.ref a), (.ref ar), (.ref ls)] 9)
  rw [ef_fi_2 m a ar ls]
  refine own_by (T' := s₁) (g' := (mkF m 1 #[.val (.ref a), .val (.ref ar), .val (.ref ls), .unset, .unset, .unset, .unset, .unset, .unset] [(.ref a)])) (fun _ k => XS.aloadN X0.here hx rfl (hb hby d5_0) rfl rfl k) ?_
  obtain ⟨T21, X21, e21, st21⟩ := initO X0 hx hZ hown (hw _ (List.mem_of_getElem? (i := 33) rfl)) (hw _ (List.mem_of_getElem? (i := 23) rfl)) (hw _ (List.mem_of_getElem? (i := 24) rfl)) e0 (g := (mkF m 1 #[.val (.ref a), .val (.ref ar), .val (.ref ls), .unset, .unset, .unset, .unset, .unset, .unset] [(.ref a)])) rfl (by rw [hml]; rfl) rfl (hb hby d5_1) (by decide) (W := 0) (by show 2 * 0 + _ ≤ _; exact Nat.le_of_eq rfl) (by decide)
  refine own_by (T' := T21) (g' := (mkF m 4 #[.val (.ref a), .val (.ref ar), .val (.ref ls), .unset, .unset, .unset, .unset, .unset, .unset] [])) (fun _ k => st21 _ k) ?_
  refine own_by (T' := T21) (g' := (mkF m 5 #[.val (.ref a), .val (.ref ar), .val (.ref ls), .unset, .unset, .unset, .unset, .unset, .unset] [(.ref a)])) (fun _ k => XS.aloadN X21.here hx rfl (hb hby d5_4) rfl rfl k) ?_
  refine own_by (T' := T21) (g' := (mkF m 6 #[.val (.ref a), .val (.ref ar), .val (.ref ls), .unset, .unset, .unset, .unset, .unset, .unset] [(.ref ar), (.ref a)])) (fun _ k => XS.aloadN X21.here hx rfl (hb hby d5_5) rfl rfl k) ?_
  obtain ⟨T22, h22, X22, e22, W22, st22⟩ := putF X21 hx hZ hown (host := "") (Or.inl (hw _ (List.mem_of_getElem? (i := 34) rfl))) Via.refl e21 F_lengths_a E_a (Or.inr ⟨(hw _ (List.mem_of_getElem? (i := 35) rfl)), rfl, hnm⟩) (hw _ (List.mem_of_getElem? (i := 2) rfl)) (ty := (.array .int)) (by decide) rfl rfl (g := (mkF m 6 #[.val (.ref a), .val (.ref ar), .val (.ref ls), .unset, .unset, .unset, .unset, .unset, .unset] [(.ref ar), (.ref a)])) rfl rfl (hb hby d5_6)
  have Fw22 : Fld Z h22 a "com/example/postings/postings/index/FieldIndex" "lengths" "[I" (.ref ar) := Fld.same W22 F_lengths_a
  have K22 : Keep h0 h22 [a] := Keep.wr (Keep.refl h0 [a]) W22 (Or.inl (List.mem_of_getElem? (i := 0) rfl))
  have N22 := Fr.snoc X22 N0 g_a
  refine own_by (T' := T22) (g' := (mkF m 9 #[.val (.ref a), .val (.ref ar), .val (.ref ls), .unset, .unset, .unset, .unset, .unset, .unset] [])) (fun _ k => st22 _ k) ?_
  refine own_by (T' := T22) (g' := (mkF m 10 #[.val (.ref a), .val (.ref ar), .val (.ref ls), .unset, .unset, .unset, .unset, .unset, .unset] [(.long (0 : Int64))])) (fun _ k => XS.lconst X22.here hx rfl (hb hby d5_9) k) ?_
  refine own_by (T' := T22) (g' := (mkF m 11 #[.val (.ref a), .val (.ref ar), .val (.ref ls), .val (.long (0 : Int64)), .second, .unset, .unset, .unset, .unset] [])) (fun _ k => XS.lstoreN X22.here hx rfl (hb hby d5_10) rfl (l' := #[.val (.ref a), .val (.ref ar), .val (.ref ls), .val (.long (0 : Int64)), .second, .unset, .unset, .unset, .unset]) rfl k) ?_
  refine own_by (T' := T22) (g' := (mkF m 12 #[.val (.ref a), .val (.ref ar), .val (.ref ls), .val (.long (0 : Int64)), .second, .unset, .unset, .unset, .unset] [(.ref ar)])) (fun _ k => XS.aloadN X22.here hx rfl (hb hby d5_11) rfl rfl k) ?_
  refine own_by (T' := T22) (g' := (mkF m 14 #[.val (.ref a), .val (.ref ar), .val (.ref ls), .val (.long (0 : Int64)), .second, .val (.ref ar), .unset, .unset, .unset] [])) (fun _ k => XS.astore X22.here hx rfl (hb hby d5_12) rfl rfl (l' := #[.val (.ref a), .val (.ref ar), .val (.ref ls), .val (.long (0 : Int64)), .second, .val (.ref ar), .unset, .unset, .unset]) rfl k) ?_
  refine own_by (T' := T22) (g' := (mkF m 16 #[.val (.ref a), .val (.ref ar), .val (.ref ls), .val (.long (0 : Int64)), .second, .val (.ref ar), .unset, .unset, .unset] [(.ref ar)])) (fun _ k => XS.aload X22.here hx rfl (hb hby d5_14) rfl rfl k) ?_
  obtain ⟨cl23, Ar23, q23, S23, N_23, H23, G23⟩ := id (Arv.other V_ar W22 (Ne.symm near))
  refine own_by (T' := T22) (g' := (mkF m 17 #[.val (.ref a), .val (.ref ar), .val (.ref ls), .val (.long (0 : Int64)), .second, .val (.ref ar), .unset, .unset, .unset] [(.int (2 : Int32))])) (fun _ k => X22.arraylength hx (by rw [e22]; exact Ar23.1) (State.isArrayOf_alike hZ.alike Ar23.2.1) (g := (mkF m 16 #[.val (.ref a), .val (.ref ar), .val (.ref ls), .val (.long (0 : Int64)), .second, .val (.ref ar), .unset, .unset, .unset] [(.ref ar)])) rfl rfl (hb hby d5_16) _ (by rw [len_of S23 N_23]; exact k)) ?_
  refine own_by (T' := T22) (g' := (mkF m 19 #[.val (.ref a), .val (.ref ar), .val (.ref ls), .val (.long (0 : Int64)), .second, .val (.ref ar), .val (.int (2 : Int32)), .unset, .unset] [])) (fun _ k => XS.istore X22.here hx rfl (hb hby d5_17) rfl (l' := #[.val (.ref a), .val (.ref ar), .val (.ref ls), .val (.long (0 : Int64)), .second, .val (.ref ar), .val (.int (2 : Int32)), .unset, .unset]) rfl k) ?_
  refine own_by (T' := T22) (g' := (mkF m 20 #[.val (.ref a), .val (.ref ar), .val (.ref ls), .val (.long (0 : Int64)), .second, .val (.ref ar), .val (.int (2 : Int32)), .unset, .unset] [(.int (0 : Int32))])) (fun _ k => XS.iconst X22.here hx rfl (hb hby d5_19) k) ?_
  refine own_by (T' := T22) (g' := (mkF m 22 #[.val (.ref a), .val (.ref ar), .val (.ref ls), .val (.long (0 : Int64)), .second, .val (.ref ar), .val (.int (2 : Int32)), .val (.int (0 : Int32)), .unset] [])) (fun _ k => XS.istore X22.here hx rfl (hb hby d5_20) rfl (l' := #[.val (.ref a), .val (.ref ar), .val (.ref ls), .val (.long (0 : Int64)), .second, .val (.ref ar), .val (.int (2 : Int32)), .val (.int (0 : Int32)), .unset]) rfl k) ?_
  refine own_by (T' := T22) (g' := (mkF m 24 #[.val (.ref a), .val (.ref ar), .val (.ref ls), .val (.long (0 : Int64)), .second, .val (.ref ar), .val (.int (2 : Int32)), .val (.int (0 : Int32)), .unset] [(.int (0 : Int32))])) (fun _ k => XS.iload X22.here hx rfl (hb hby d5_22) rfl k) ?_
  refine own_by (T' := T22) (g' := (mkF m 26 #[.val (.ref a), .val (.ref ar), .val (.ref ls), .val (.long (0 : Int64)), .second, .val (.ref ar), .val (.int (2 : Int32)), .val (.int (0 : Int32)), .unset] [(.int (2 : Int32)), (.int (0 : Int32))])) (fun _ k => XS.iload X22.here hx rfl (hb hby d5_24) rfl k) ?_
  refine own_by (T' := T22) (g' := (mkF m 29 #[.val (.ref a), .val (.ref ar), .val (.ref ls), .val (.long (0 : Int64)), .second, .val (.ref ar), .val (.int (2 : Int32)), .val (.int (0 : Int32)), .unset] [])) (fun _ k => XS.icmpNo X22.here hx rfl (hb hby d5_26) rfl (tlt (by decide)).2.1 k) ?_
  refine own_by (T' := T22) (g' := (mkF m 31 #[.val (.ref a), .val (.ref ar), .val (.ref ls), .val (.long (0 : Int64)), .second, .val (.ref ar), .val (.int (2 : Int32)), .val (.int (0 : Int32)), .unset] [(.ref ar)])) (fun _ k => XS.aload X22.here hx rfl (hb hby d5_29) rfl rfl k) ?_
  refine own_by (T' := T22) (g' := (mkF m 33 #[.val (.ref a), .val (.ref ar), .val (.ref ls), .val (.long (0 : Int64)), .second, .val (.ref ar), .val (.int (2 : Int32)), .val (.int (0 : Int32)), .unset] [(.int (0 : Int32)), (.ref ar)])) (fun _ k => XS.iload X22.here hx rfl (hb hby d5_31) rfl k) ?_
  obtain ⟨cl24, Ar24, q24, S24, N_24, H24, G24⟩ := id (Arv.other V_ar W22 (Ne.symm near))
  have hin24 : ¬ ((0 : Int32) < 0 ∨ cl24.slots.size ≤ ((0 : Int32)).toNatClampNeg) := inb_of S24 ⟨by decide, by decide⟩
  refine own_by (T' := T22) (g' := (mkF m 34 #[.val (.ref a), .val (.ref ar), .val (.ref ls), .val (.long (0 : Int64)), .second, .val (.ref ar), .val (.int (2 : Int32)), .val (.int (0 : Int32)), .unset] [(.int el0)])) (fun _ k => X22.iaload hx (j := (0 : Int32)) (v := (.int el0)) (by rw [e22]; exact Ar24.1) (State.isArrayOf_alike hZ.alike Ar24.2.1) Ar24.2.2 hin24 (Has.at H24 hin24 rfl) (g := (mkF m 33 #[.val (.ref a), .val (.ref ar), .val (.ref ls), .val (.long (0 : Int64)), .second, .val (.ref ar), .val (.int (2 : Int32)), .val (.int (0 : Int32)), .unset] [(.int (0 : Int32)), (.ref ar)])) rfl rfl (hb hby d5_33) _ k) ?_
  refine own_by (T' := T22) (g' := (mkF m 36 #[.val (.ref a), .val (.ref ar), .val (.ref ls), .val (.long (0 : Int64)), .second, .val (.ref ar), .val (.int (2 : Int32)), .val (.int (0 : Int32)), .val (.int el0)] [])) (fun _ k => XS.istore X22.here hx rfl (hb hby d5_34) rfl (l' := #[.val (.ref a), .val (.ref ar), .val (.ref ls), .val (.long (0 : Int64)), .second, .val (.ref ar), .val (.int (2 : Int32)), .val (.int (0 : Int32)), .val (.int el0)]) rfl k) ?_
  refine own_by (T' := T22) (g' := (mkF m 37 #[.val (.ref a), .val (.ref ar), .val (.ref ls), .val (.long (0 : Int64)), .second, .val (.ref ar), .val (.int (2 : Int32)), .val (.int (0 : Int32)), .val (.int el0)] [(.long (0 : Int64))])) (fun _ k => XS.lloadN X22.here hx rfl (hb hby d5_36) rfl k) ?_
  refine own_by (T' := T22) (g' := (mkF m 39 #[.val (.ref a), .val (.ref ar), .val (.ref ls), .val (.long (0 : Int64)), .second, .val (.ref ar), .val (.int (2 : Int32)), .val (.int (0 : Int32)), .val (.int el0)] [(.int el0), (.long (0 : Int64))])) (fun _ k => XS.iload X22.here hx rfl (hb hby d5_37) rfl k) ?_
  refine own_by (T' := T22) (g' := (mkF m 40 #[.val (.ref a), .val (.ref ar), .val (.ref ls), .val (.long (0 : Int64)), .second, .val (.ref ar), .val (.int (2 : Int32)), .val (.int (0 : Int32)), .val (.int el0)] [(.long (el0.toInt64)), (.long (0 : Int64))])) (fun _ k => XS.i2l X22.here hx rfl (hb hby d5_39) rfl k) ?_
  refine own_by (T' := T22) (g' := (mkF m 41 #[.val (.ref a), .val (.ref ar), .val (.ref ls), .val (.long (0 : Int64)), .second, .val (.ref ar), .val (.int (2 : Int32)), .val (.int (0 : Int32)), .val (.int el0)] [(.long ((0 : Int64) + (el0.toInt64)))])) (fun _ k => XS.ladd X22.here hx rfl (hb hby d5_40) rfl k) ?_
  refine own_by (T' := T22) (g' := (mkF m 42 #[.val (.ref a), .val (.ref ar), .val (.ref ls), .val (.long ((0 : Int64) + (el0.toInt64))), .second, .val (.ref ar), .val (.int (2 : Int32)), .val (.int (0 : Int32)), .val (.int el0)] [])) (fun _ k => XS.lstoreN X22.here hx rfl (hb hby d5_41) rfl (l' := #[.val (.ref a), .val (.ref ar), .val (.ref ls), .val (.long ((0 : Int64) + (el0.toInt64))), .second, .val (.ref ar), .val (.int (2 : Int32)), .val (.int (0 : Int32)), .val (.int el0)]) rfl k) ?_
  refine own_by (T' := T22) (g' := (mkF m 45 #[.val (.ref a), .val (.ref ar), .val (.ref ls), .val (.long ((0 : Int64) + (el0.toInt64))), .second, .val (.ref ar), .val (.int (2 : Int32)), .val (.int (1 : Int32)), .val (.int el0)] [])) (fun _ k => XS.iinc X22.here hx rfl (hb hby d5_42) rfl (l' := #[.val (.ref a), .val (.ref ar), .val (.ref ls), .val (.long ((0 : Int64) + (el0.toInt64))), .second, .val (.ref ar), .val (.int (2 : Int32)), .val (.int (1 : Int32)), .val (.int el0)]) rfl k) ?_
  refine own_by (T' := T22) (g' := (mkF m 22 #[.val (.ref a), .val (.ref ar), .val (.ref ls), .val (.long ((0 : Int64) + (el0.toInt64))), .second, .val (.ref ar), .val (.int (2 : Int32)), .val (.int (1 : Int32)), .val (.int el0)] [])) (fun _ k => XS.goto X22.here hx rfl (pc0 := 45) (pc' := 22) rfl (hb hby d5_45) (by decide) (by decide) k) ?_
  refine own_by (T' := T22) (g' := (mkF m 24 #[.val (.ref a), .val (.ref ar), .val (.ref ls), .val (.long ((0 : Int64) + (el0.toInt64))), .second, .val (.ref ar), .val (.int (2 : Int32)), .val (.int (1 : Int32)), .val (.int el0)] [(.int (1 : Int32))])) (fun _ k => XS.iload X22.here hx rfl (hb hby d5_22) rfl k) ?_
  refine own_by (T' := T22) (g' := (mkF m 26 #[.val (.ref a), .val (.ref ar), .val (.ref ls), .val (.long ((0 : Int64) + (el0.toInt64))), .second, .val (.ref ar), .val (.int (2 : Int32)), .val (.int (1 : Int32)), .val (.int el0)] [(.int (2 : Int32)), (.int (1 : Int32))])) (fun _ k => XS.iload X22.here hx rfl (hb hby d5_24) rfl k) ?_
  refine own_by (T' := T22) (g' := (mkF m 29 #[.val (.ref a), .val (.ref ar), .val (.ref ls), .val (.long ((0 : Int64) + (el0.toInt64))), .second, .val (.ref ar), .val (.int (2 : Int32)), .val (.int (1 : Int32)), .val (.int el0)] [])) (fun _ k => XS.icmpNo X22.here hx rfl (hb hby d5_26) rfl (tlt (by decide)).2.1 k) ?_
  refine own_by (T' := T22) (g' := (mkF m 31 #[.val (.ref a), .val (.ref ar), .val (.ref ls), .val (.long ((0 : Int64) + (el0.toInt64))), .second, .val (.ref ar), .val (.int (2 : Int32)), .val (.int (1 : Int32)), .val (.int el0)] [(.ref ar)])) (fun _ k => XS.aload X22.here hx rfl (hb hby d5_29) rfl rfl k) ?_
  refine own_by (T' := T22) (g' := (mkF m 33 #[.val (.ref a), .val (.ref ar), .val (.ref ls), .val (.long ((0 : Int64) + (el0.toInt64))), .second, .val (.ref ar), .val (.int (2 : Int32)), .val (.int (1 : Int32)), .val (.int el0)] [(.int (1 : Int32)), (.ref ar)])) (fun _ k => XS.iload X22.here hx rfl (hb hby d5_31) rfl k) ?_
  obtain ⟨cl25, Ar25, q25, S25, N_25, H25, G25⟩ := id (Arv.other V_ar W22 (Ne.symm near))
  have hin25 : ¬ ((1 : Int32) < 0 ∨ cl25.slots.size ≤ ((1 : Int32)).toNatClampNeg) := inb_of S25 ⟨by decide, by decide⟩
  refine own_by (T' := T22) (g' := (mkF m 34 #[.val (.ref a), .val (.ref ar), .val (.ref ls), .val (.long ((0 : Int64) + (el0.toInt64))), .second, .val (.ref ar), .val (.int (2 : Int32)), .val (.int (1 : Int32)), .val (.int el0)] [(.int el1)])) (fun _ k => X22.iaload hx (j := (1 : Int32)) (v := (.int el1)) (by rw [e22]; exact Ar25.1) (State.isArrayOf_alike hZ.alike Ar25.2.1) Ar25.2.2 hin25 (Has.at H25 hin25 rfl) (g := (mkF m 33 #[.val (.ref a), .val (.ref ar), .val (.ref ls), .val (.long ((0 : Int64) + (el0.toInt64))), .second, .val (.ref ar), .val (.int (2 : Int32)), .val (.int (1 : Int32)), .val (.int el0)] [(.int (1 : Int32)), (.ref ar)])) rfl rfl (hb hby d5_33) _ k) ?_
  refine own_by (T' := T22) (g' := (mkF m 36 #[.val (.ref a), .val (.ref ar), .val (.ref ls), .val (.long ((0 : Int64) + (el0.toInt64))), .second, .val (.ref ar), .val (.int (2 : Int32)), .val (.int (1 : Int32)), .val (.int el1)] [])) (fun _ k => XS.istore X22.here hx rfl (hb hby d5_34) rfl (l' := #[.val (.ref a), .val (.ref ar), .val (.ref ls), .val (.long ((0 : Int64) + (el0.toInt64))), .second, .val (.ref ar), .val (.int (2 : Int32)), .val (.int (1 : Int32)), .val (.int el1)]) rfl k) ?_
  refine own_by (T' := T22) (g' := (mkF m 37 #[.val (.ref a), .val (.ref ar), .val (.ref ls), .val (.long ((0 : Int64) + (el0.toInt64))), .second, .val (.ref ar), .val (.int (2 : Int32)), .val (.int (1 : Int32)), .val (.int el1)] [(.long ((0 : Int64) + (el0.toInt64)))])) (fun _ k => XS.lloadN X22.here hx rfl (hb hby d5_36) rfl k) ?_
  refine own_by (T' := T22) (g' := (mkF m 39 #[.val (.ref a), .val (.ref ar), .val (.ref ls), .val (.long ((0 : Int64) + (el0.toInt64))), .second, .val (.ref ar), .val (.int (2 : Int32)), .val (.int (1 : Int32)), .val (.int el1)] [(.int el1), (.long ((0 : Int64) + (el0.toInt64)))])) (fun _ k => XS.iload X22.here hx rfl (hb hby d5_37) rfl k) ?_
  refine own_by (T' := T22) (g' := (mkF m 40 #[.val (.ref a), .val (.ref ar), .val (.ref ls), .val (.long ((0 : Int64) + (el0.toInt64))), .second, .val (.ref ar), .val (.int (2 : Int32)), .val (.int (1 : Int32)), .val (.int el1)] [(.long (el1.toInt64)), (.long ((0 : Int64) + (el0.toInt64)))])) (fun _ k => XS.i2l X22.here hx rfl (hb hby d5_39) rfl k) ?_
  refine own_by (T' := T22) (g' := (mkF m 41 #[.val (.ref a), .val (.ref ar), .val (.ref ls), .val (.long ((0 : Int64) + (el0.toInt64))), .second, .val (.ref ar), .val (.int (2 : Int32)), .val (.int (1 : Int32)), .val (.int el1)] [(.long (((0 : Int64) + (el0.toInt64)) + (el1.toInt64)))])) (fun _ k => XS.ladd X22.here hx rfl (hb hby d5_40) rfl k) ?_
  refine own_by (T' := T22) (g' := (mkF m 42 #[.val (.ref a), .val (.ref ar), .val (.ref ls), .val (.long (((0 : Int64) + (el0.toInt64)) + (el1.toInt64))), .second, .val (.ref ar), .val (.int (2 : Int32)), .val (.int (1 : Int32)), .val (.int el1)] [])) (fun _ k => XS.lstoreN X22.here hx rfl (hb hby d5_41) rfl (l' := #[.val (.ref a), .val (.ref ar), .val (.ref ls), .val (.long (((0 : Int64) + (el0.toInt64)) + (el1.toInt64))), .second, .val (.ref ar), .val (.int (2 : Int32)), .val (.int (1 : Int32)), .val (.int el1)]) rfl k) ?_
  refine own_by (T' := T22) (g' := (mkF m 45 #[.val (.ref a), .val (.ref ar), .val (.ref ls), .val (.long (((0 : Int64) + (el0.toInt64)) + (el1.toInt64))), .second, .val (.ref ar), .val (.int (2 : Int32)), .val (.int (2 : Int32)), .val (.int el1)] [])) (fun _ k => XS.iinc X22.here hx rfl (hb hby d5_42) rfl (l' := #[.val (.ref a), .val (.ref ar), .val (.ref ls), .val (.long (((0 : Int64) + (el0.toInt64)) + (el1.toInt64))), .second, .val (.ref ar), .val (.int (2 : Int32)), .val (.int (2 : Int32)), .val (.int el1)]) rfl k) ?_
  refine own_by (T' := T22) (g' := (mkF m 22 #[.val (.ref a), .val (.ref ar), .val (.ref ls), .val (.long (((0 : Int64) + (el0.toInt64)) + (el1.toInt64))), .second, .val (.ref ar), .val (.int (2 : Int32)), .val (.int (2 : Int32)), .val (.int el1)] [])) (fun _ k => XS.goto X22.here hx rfl (pc0 := 45) (pc' := 22) rfl (hb hby d5_45) (by decide) (by decide) k) ?_
  refine own_by (T' := T22) (g' := (mkF m 24 #[.val (.ref a), .val (.ref ar), .val (.ref ls), .val (.long (((0 : Int64) + (el0.toInt64)) + (el1.toInt64))), .second, .val (.ref ar), .val (.int (2 : Int32)), .val (.int (2 : Int32)), .val (.int el1)] [(.int (2 : Int32))])) (fun _ k => XS.iload X22.here hx rfl (hb hby d5_22) rfl k) ?_
  refine own_by (T' := T22) (g' := (mkF m 26 #[.val (.ref a), .val (.ref ar), .val (.ref ls), .val (.long (((0 : Int64) + (el0.toInt64)) + (el1.toInt64))), .second, .val (.ref ar), .val (.int (2 : Int32)), .val (.int (2 : Int32)), .val (.int el1)] [(.int (2 : Int32)), (.int (2 : Int32))])) (fun _ k => XS.iload X22.here hx rfl (hb hby d5_24) rfl k) ?_
  refine own_by (T' := T22) (g' := (mkF m 48 #[.val (.ref a), .val (.ref ar), .val (.ref ls), .val (.long (((0 : Int64) + (el0.toInt64)) + (el1.toInt64))), .second, .val (.ref ar), .val (.int (2 : Int32)), .val (.int (2 : Int32)), .val (.int el1)] [])) (fun _ k => XS.icmpYes X22.here hx rfl (pc0 := 26) (pc' := 48) rfl (hb hby d5_26) rfl (flt (by decide)).2.1 (by decide) (by decide) k) ?_
  refine own_by (T' := T22) (g' := (mkF m 49 #[.val (.ref a), .val (.ref ar), .val (.ref ls), .val (.long (((0 : Int64) + (el0.toInt64)) + (el1.toInt64))), .second, .val (.ref ar), .val (.int (2 : Int32)), .val (.int (2 : Int32)), .val (.int el1)] [(.ref a)])) (fun _ k => XS.aloadN X22.here hx rfl (hb hby d5_48) rfl rfl k) ?_
  refine own_by (T' := T22) (g' := (mkF m 50 #[.val (.ref a), .val (.ref ar), .val (.ref ls), .val (.long (((0 : Int64) + (el0.toInt64)) + (el1.toInt64))), .second, .val (.ref ar), .val (.int (2 : Int32)), .val (.int (2 : Int32)), .val (.int el1)] [(.long (((0 : Int64) + (el0.toInt64)) + (el1.toInt64))), (.ref a)])) (fun _ k => XS.lloadN X22.here hx rfl (hb hby d5_49) rfl k) ?_
  obtain ⟨T26, h26, X26, e26, W26, st26⟩ := putF X22 hx hZ hown (host := "") (Or.inl (hw _ (List.mem_of_getElem? (i := 36) rfl))) Via.refl e22 (Fld.other W22 F_totalLength_a (Or.inr (slot_ne (a0 := a0) (Or.inr (hw _ (List.mem_of_getElem? (i := 37) rfl))) (Or.inr (hw _ (List.mem_of_getElem? (i := 35) rfl))) (by decide) (t := .long) (t' := (.array .int)) (by decide) (by decide)))) (Exa.wr W22 E_a) (Or.inr ⟨(hw _ (List.mem_of_getElem? (i := 37) rfl)), rfl, hnm⟩) (hw _ (List.mem_of_getElem? (i := 2) rfl)) (ty := .long) (by decide) rfl rfl (g := (mkF m 50 #[.val (.ref a), .val (.ref ar), .val (.ref ls), .val (.long (((0 : Int64) + (el0.toInt64)) + (el1.toInt64))), .second, .val (.ref ar), .val (.int (2 : Int32)), .val (.int (2 : Int32)), .val (.int el1)] [(.long (((0 : Int64) + (el0.toInt64)) + (el1.toInt64))), (.ref a)])) rfl rfl (hb hby d5_50)
  have Fw26 : Fld Z h26 a "com/example/postings/postings/index/FieldIndex" "totalLength" "J" (.long (((0 : Int64) + (el0.toInt64)) + (el1.toInt64))) := Fld.same W26 (Fld.other W22 F_totalLength_a (Or.inr (slot_ne (a0 := a0) (Or.inr (hw _ (List.mem_of_getElem? (i := 37) rfl))) (Or.inr (hw _ (List.mem_of_getElem? (i := 35) rfl))) (by decide) (t := .long) (t' := (.array .int)) (by decide) (by decide))))
  have K26 : Keep h0 h26 [a] := Keep.wr K22 W26 (Or.inl (List.mem_of_getElem? (i := 0) rfl))
  have N26 := Fr.snoc X26 N22 g_a
  refine own_by (T' := T26) (g' := (mkF m 53 #[.val (.ref a), .val (.ref ar), .val (.ref ls), .val (.long (((0 : Int64) + (el0.toInt64)) + (el1.toInt64))), .second, .val (.ref ar), .val (.int (2 : Int32)), .val (.int (2 : Int32)), .val (.int el1)] [])) (fun _ k => st26 _ k) ?_
  refine own_by (T' := T26) (g' := (mkF m 54 #[.val (.ref a), .val (.ref ar), .val (.ref ls), .val (.long (((0 : Int64) + (el0.toInt64)) + (el1.toInt64))), .second, .val (.ref ar), .val (.int (2 : Int32)), .val (.int (2 : Int32)), .val (.int el1)] [(.ref a)])) (fun _ k => XS.aloadN X26.here hx rfl (hb hby d5_53) rfl rfl k) ?_
  refine own_by (T' := T26) (g' := (mkF m 55 #[.val (.ref a), .val (.ref ar), .val (.ref ls), .val (.long (((0 : Int64) + (el0.toInt64)) + (el1.toInt64))), .second, .val (.ref ar), .val (.int (2 : Int32)), .val (.int (2 : Int32)), .val (.int el1)] [(.ref ls), (.ref a)])) (fun _ k => XS.aloadN X26.here hx rfl (hb hby d5_54) rfl rfl k) ?_
  obtain ⟨T27, h27, X27, e27, W27, st27⟩ := putF X26 hx hZ hown (host := "") (Or.inl (hw _ (List.mem_of_getElem? (i := 38) rfl))) Via.refl e26 (Fld.other W26 (Fld.other W22 F_segments_a (Or.inr (slot_ne (a0 := a0) (Or.inr (hw _ (List.mem_of_getElem? (i := 39) rfl))) (Or.inr (hw _ (List.mem_of_getElem? (i := 35) rfl))) (by decide) (t := (.object "java/util/List")) (t' := (.array .int)) (by decide) (by decide)))) (Or.inr (slot_ne (a0 := a0) (Or.inr (hw _ (List.mem_of_getElem? (i := 39) rfl))) (Or.inr (hw _ (List.mem_of_getElem? (i := 37) rfl))) (by decide) (t := (.object "java/util/List")) (t' := .long) (by decide) (by decide)))) (Exa.wr W26 (Exa.wr W22 E_a)) (Or.inr ⟨(hw _ (List.mem_of_getElem? (i := 39) rfl)), rfl, hnm⟩) (hw _ (List.mem_of_getElem? (i := 2) rfl)) (ty := (.object "java/util/List")) (by decide) rfl rfl (g := (mkF m 55 #[.val (.ref a), .val (.ref ar), .val (.ref ls), .val (.long (((0 : Int64) + (el0.toInt64)) + (el1.toInt64))), .second, .val (.ref ar), .val (.int (2 : Int32)), .val (.int (2 : Int32)), .val (.int el1)] [(.ref ls), (.ref a)])) rfl rfl (hb hby d5_55)
  have Fw27 : Fld Z h27 a "com/example/postings/postings/index/FieldIndex" "segments" "Ljava/util/List;" (.ref ls) := Fld.same W27 (Fld.other W26 (Fld.other W22 F_segments_a (Or.inr (slot_ne (a0 := a0) (Or.inr (hw _ (List.mem_of_getElem? (i := 39) rfl))) (Or.inr (hw _ (List.mem_of_getElem? (i := 35) rfl))) (by decide) (t := (.object "java/util/List")) (t' := (.array .int)) (by decide) (by decide)))) (Or.inr (slot_ne (a0 := a0) (Or.inr (hw _ (List.mem_of_getElem? (i := 39) rfl))) (Or.inr (hw _ (List.mem_of_getElem? (i := 37) rfl))) (by decide) (t := (.object "java/util/List")) (t' := .long) (by decide) (by decide))))
  have K27 : Keep h0 h27 [a] := Keep.wr K26 W27 (Or.inl (List.mem_of_getElem? (i := 0) rfl))
  have N27 := Fr.snoc X27 N26 g_a
  refine own_by (T' := T27) (g' := (mkF m 58 #[.val (.ref a), .val (.ref ar), .val (.ref ls), .val (.long (((0 : Int64) + (el0.toInt64)) + (el1.toInt64))), .second, .val (.ref ar), .val (.int (2 : Int32)), .val (.int (2 : Int32)), .val (.int el1)] [])) (fun _ k => st27 _ k) ?_
  refine own_ret X27 hlk (v := none) (fun _ => rfl) (fun fs hr => X27.returnOut hx Bd.returns (hb hby d5_58) hr) ?_ (by decide) (by decide)
  rw [e27]
  exact ⟨rfl, N27, K27, (Fld.other W27 (Fld.other W26 Fw22 (Or.inr (slot_ne (a0 := a0) (Or.inr (hw _ (List.mem_of_getElem? (i := 35) rfl))) (Or.inr (hw _ (List.mem_of_getElem? (i := 37) rfl))) (by decide) (t := (.array .int)) (t' := .long) (by decide) (by decide)))) (Or.inr (slot_ne (a0 := a0) (Or.inr (hw _ (List.mem_of_getElem? (i := 35) rfl))) (Or.inr (hw _ (List.mem_of_getElem? (i := 39) rfl))) (by decide) (t := (.array .int)) (t' := (.object "java/util/List")) (by decide) (by decide)))), (Fld.other W27 Fw26 (Or.inr (slot_ne (a0 := a0) (Or.inr (hw _ (List.mem_of_getElem? (i := 37) rfl))) (Or.inr (hw _ (List.mem_of_getElem? (i := 39) rfl))) (by decide) (t := .long) (t' := (.object "java/util/List")) (by decide) (by decide))))⟩
theorem ef_av_2 (m : MethodId) (a : Addr) : entryFrame m #[(.ref a)] 1 = mkF m 0 #[.val (.ref a)] [] := by first | (simp [entryFrame, mkF, argsToLocals, Value.category]; done) | rfl
def Q_av_2 (Z : State) (a : Addr) (ar : Addr) (kk : ClassId) (S0 : Int64) (el0 : Int32) (el1 : Int32) (h0 : Heap) (n0 : Nat) (v : Option Value) (h : Heap) (L : List Loc) : Prop := v = some (.double (FP.ddiv (FP.l2d S0) (FP.i2d (2 : Int32)))) ∧ Fr n0 L ∧ h = h0
set_option maxRecDepth 65536 in
set_option maxHeartbeats 40000000 in
theorem av_2 (l : Launch) (Z : State) (a0 : Array Value) (hw : ∀ d ∈ tables_1, d.before a0 Z = true) (ws : List Jvm.Cond) (a : Addr) (ar : Addr) (kk : ClassId) (S0 : Int64) (el0 : Int32) (el1 : Int32) (h0 : Heap) (n0 : Nat) (Z0 : n0 ≤ h0.size) (F_lengths_a : Fld Z h0 a "com/example/postings/postings/index/FieldIndex" "lengths" "[I" (.ref ar)) (F_totalLength_a : Fld Z h0 a "com/example/postings/postings/index/FieldIndex" "totalLength" "J" (.long S0)) (V_ar : Arv Z h0 ar kk .int (2 : Int32) [(.int el0), (.int el1)] (.int (0 : Int32))) :
    MetFree l (⟨"com/example/postings/postings/index/FieldIndex", "averageLength", "()D"⟩ : MethodName) (head1 (Jvm.Cond.code (⟨"com/example/postings/postings/index/FieldIndex", "averageLength", "()D"⟩ : MethodName) prog_14_method_3_code 1 (some .double) :: ws) ({ frames := 0, cells := 0, slots := 0, locals := 0 } : Room)) (fun zz UU => zz = #[(.ref a)] ∧ Z.Warmed39 UU.vm ∧ UU.heap = h0) (fun _ _ _ _ _ => True) (fun _ U o U' => ∃ v L, o = .returned v ∧ Q_av_2 Z a ar kk S0 el0 el1 h0 n0 v U'.heap L ∧ FrameEnd U o U' L ({ frames := 0, cells := 0, slots := 0, locals := 0 } : Room).cells ({ frames := 0, cells := 0, slots := 0, locals := 0 } : Room).slots) := by
  refine MetFree.of_bodySF (plainFor_of_name pn_6) hisR ?_
  intro p e s m args below meth c s₁ Bd hml0 hP hK
  obtain ⟨rfl, hZ, hh⟩ := hP
  have hx := Bd.exec
  have hby := Bd.bytes
  have hml : c.maxLocals = 1 := hml0
  have hown : s.vm.findClass "com/example/postings/postings/index/FieldIndex" = some m.cls := findClass_of_methodNamed Bd.named
  have hnm := (name_of_methodNamed Bd.named Bd.method).1
  have hlk : meth.locks = false := BodyLoose.notSynchronized Bd
  have X0 : Stand p l e ({ frames := 0, cells := 0, slots := 0, locals := 0 } : Room) s m #[(.ref a)] below meth c s₁ [] 0 0 := Stand.of_body Bd
  have e0 : s₁.heap = h0 := by rw [← hh, Bd.state]; rfl
  have N0 := Fr.nil n0
  show own_Go p.tables e below (Q_av_2 Z a ar kk S0 el0 el1 h0 n0) s ({ frames := 0, cells := 0, slots := 0, locals := 0 } : Room).cells ({ frames := 0, cells := 0, slots := 0, locals := 0 } : Room).slots s₁ (entryFrame m #[(.ref a)] 1)
  rw [ef_av_2 m a]
  refine own_by (T' := s₁) (g' := (mkF m 1 #[.val (.ref a)] [(.ref a)])) (fun _ k => XS.aloadN X0.here hx rfl (hb hby d6_0) rfl rfl k) ?_
  obtain ⟨T21, X21, e21, st21⟩ := getF X0 hx hZ hown (host := "") (Or.inl (hw _ (List.mem_of_getElem? (i := 36) rfl))) Via.refl e0 F_totalLength_a (g := (mkF m 1 #[.val (.ref a)] [(.ref a)])) rfl rfl (hb hby d6_1)
  refine own_by (T' := T21) (g' := (mkF m 4 #[.val (.ref a)] [(.long S0)])) (fun _ k => st21 _ k) ?_
  refine own_by (T' := T21) (g' := (mkF m 5 #[.val (.ref a)] [(.double (FP.l2d S0))])) (fun _ k => XS.l2dS X21.here hx rfl (hb hby d6_4) rfl rfl k) ?_
  refine own_by (T' := T21) (g' := (mkF m 6 #[.val (.ref a)] [(.ref a), (.double (FP.l2d S0))])) (fun _ k => XS.aloadN X21.here hx rfl (hb hby d6_5) rfl rfl k) ?_
  obtain ⟨T22, X22, e22, st22⟩ := getF X21 hx hZ hown (host := "") (Or.inl (hw _ (List.mem_of_getElem? (i := 34) rfl))) Via.refl e21 F_lengths_a (g := (mkF m 6 #[.val (.ref a)] [(.ref a), (.double (FP.l2d S0))])) rfl rfl (hb hby d6_6)
  refine own_by (T' := T22) (g' := (mkF m 9 #[.val (.ref a)] [(.ref ar), (.double (FP.l2d S0))])) (fun _ k => st22 _ k) ?_
  obtain ⟨cl23, Ar23, q23, S23, N_23, H23, G23⟩ := id V_ar
  refine own_by (T' := T22) (g' := (mkF m 10 #[.val (.ref a)] [(.int (2 : Int32)), (.double (FP.l2d S0))])) (fun _ k => X22.arraylength hx (by rw [e22]; exact Ar23.1) (State.isArrayOf_alike hZ.alike Ar23.2.1) (g := (mkF m 9 #[.val (.ref a)] [(.ref ar), (.double (FP.l2d S0))])) rfl rfl (hb hby d6_9) _ (by rw [len_of S23 N_23]; exact k)) ?_
  refine own_by (T' := T22) (g' := (mkF m 11 #[.val (.ref a)] [(.double (FP.i2d (2 : Int32))), (.double (FP.l2d S0))])) (fun _ k => XS.i2dS X22.here hx rfl (hb hby d6_10) rfl rfl k) ?_
  refine own_by (T' := T22) (g' := (mkF m 12 #[.val (.ref a)] [(.double (FP.ddiv (FP.l2d S0) (FP.i2d (2 : Int32))))])) (fun _ k => XS.ddivS X22.here hx rfl (hb hby d6_11) rfl (own_nn _ (2 : Int32) (by decide)) rfl k) ?_
  refine own_ret X22 hlk (v := some (.double (FP.ddiv (FP.l2d S0) (FP.i2d (2 : Int32))))) (fun h => by rw [Bd.returns] at h; cases h) (fun fs hr => retOut X22 hx Bd.returns rfl (Or.inr (Or.inr (Or.inl ⟨rfl, rfl, _, rfl⟩))) (hb hby d6_12) hr) ?_ (by decide) (by decide)
  rw [e22]
  exact ⟨rfl, N0, rfl⟩
theorem ef_fi_3 (m : MethodId) (a : Addr) (ar : Addr) (ls : Addr) : entryFrame m #[(.ref a), (.ref ar), (.ref ls)] 9 = mkF m 0 #[.val (.ref a), .val (.ref ar), .val (.ref ls), .unset, .unset, .unset, .unset, .unset, .unset] [] := by first | (simp [entryFrame, mkF, argsToLocals, Value.category]; done) | rfl
def Q_fi_3 (Z : State) (a : Addr) (ar : Addr) (ls : Addr) (kk : ClassId) (el0 : Int32) (el1 : Int32) (el2 : Int32) (h0 : Heap) (n0 : Nat) (v : Option Value) (h : Heap) (L : List Loc) : Prop := v = none ∧ Fr n0 L ∧ Keep h0 h [a] ∧ Fld Z h a "com/example/postings/postings/index/FieldIndex" "lengths" "[I" (.ref ar) ∧ Fld Z h a "com/example/postings/postings/index/FieldIndex" "totalLength" "J" (.long ((((0 : Int64) + (el0.toInt64)) + (el1.toInt64)) + (el2.toInt64)))
set_option maxRecDepth 65536 in
set_option maxHeartbeats 40000000 in
theorem fi_3 (l : Launch) (Z : State) (a0 : Array Value) (hw : ∀ d ∈ tables_1, d.before a0 Z = true) (ws : List Jvm.Cond) (a : Addr) (ar : Addr) (ls : Addr) (kk : ClassId) (el0 : Int32) (el1 : Int32) (el2 : Int32) (h0 : Heap) (n0 : Nat) (Z0 : n0 ≤ h0.size) (E_a : Exa Z h0 a "com/example/postings/postings/index/FieldIndex") (F_lengths_a : Fld Z h0 a "com/example/postings/postings/index/FieldIndex" "lengths" "[I" .null) (F_totalLength_a : Fld Z h0 a "com/example/postings/postings/index/FieldIndex" "totalLength" "J" (.long (0 : Int64))) (F_segments_a : Fld Z h0 a "com/example/postings/postings/index/FieldIndex" "segments" "Ljava/util/List;" .null) (g_a : n0 ≤ a) (V_ar : Arv Z h0 ar kk .int (3 : Int32) [(.int el0), (.int el1), (.int el2)] (.int (0 : Int32))) (near : a ≠ ar) :
    MetFree l (⟨"com/example/postings/postings/index/FieldIndex", "<init>", "([ILjava/util/List;)V"⟩ : MethodName) (head1 (Jvm.Cond.code (⟨"com/example/postings/postings/index/FieldIndex", "<init>", "([ILjava/util/List;)V"⟩ : MethodName) prog_14_method_1_code 9 none :: ws) ({ frames := 1, cells := 0, slots := 0, locals := 12 } : Room)) (fun zz UU => zz = #[(.ref a), (.ref ar), (.ref ls)] ∧ Z.Warmed39 UU.vm ∧ UU.heap = h0) (fun _ _ _ _ _ => True) (fun _ U o U' => ∃ v L, o = .returned v ∧ Q_fi_3 Z a ar ls kk el0 el1 el2 h0 n0 v U'.heap L ∧ FrameEnd U o U' L ({ frames := 1, cells := 0, slots := 0, locals := 12 } : Room).cells ({ frames := 1, cells := 0, slots := 0, locals := 12 } : Room).slots) := by
  refine MetFree.of_bodySF (plainFor_of_name pn_5) hisR ?_
  intro p e s m args below meth c s₁ Bd hml0 hP hK
  obtain ⟨rfl, hZ, hh⟩ := hP
  have hx := Bd.exec
  have hby := Bd.bytes
  have hml : c.maxLocals = 9 := hml0
  have hown : s.vm.findClass "com/example/postings/postings/index/FieldIndex" = some m.cls := findClass_of_methodNamed Bd.named
  have hnm := (name_of_methodNamed Bd.named Bd.method).1
  have hlk : meth.locks = false := BodyLoose.notSynchronized Bd
  have X0 : Stand p l e ({ frames := 1, cells := 0, slots := 0, locals := 12 } : Room) s m #[(.ref a), (.ref ar), (.ref ls)] below meth c s₁ [] 0 0 := Stand.of_body Bd
  have e0 : s₁.heap = h0 := by rw [← hh, Bd.state]; rfl
  have N0 := Fr.nil n0
  show own_Go p.tables e below (Q_fi_3 Z a ar ls kk el0 el1 el2 h0 n0) s ({ frames := 1, cells := 0, slots := 0, locals := 12 } : Room).cells ({ frames := 1, cells := 0, slots := 0, locals := 12 } : Room).slots s₁ (entryFrame m #[(.ref a), (.ref ar), (.ref ls)] 9)
  rw [ef_fi_3 m a ar ls]
  refine own_by (T' := s₁) (g' := (mkF m 1 #[.val (.ref a), .val (.ref ar), .val (.ref ls), .unset, .unset, .unset, .unset, .unset, .unset] [(.ref a)])) (fun _ k => XS.aloadN X0.here hx rfl (hb hby d5_0) rfl rfl k) ?_
  obtain ⟨T21, X21, e21, st21⟩ := initO X0 hx hZ hown (hw _ (List.mem_of_getElem? (i := 33) rfl)) (hw _ (List.mem_of_getElem? (i := 23) rfl)) (hw _ (List.mem_of_getElem? (i := 24) rfl)) e0 (g := (mkF m 1 #[.val (.ref a), .val (.ref ar), .val (.ref ls), .unset, .unset, .unset, .unset, .unset, .unset] [(.ref a)])) rfl (by rw [hml]; rfl) rfl (hb hby d5_1) (by decide) (W := 0) (by show 2 * 0 + _ ≤ _; exact Nat.le_of_eq rfl) (by decide)
  refine own_by (T' := T21) (g' := (mkF m 4 #[.val (.ref a), .val (.ref ar), .val (.ref ls), .unset, .unset, .unset, .unset, .unset, .unset] [])) (fun _ k => st21 _ k) ?_
  refine own_by (T' := T21) (g' := (mkF m 5 #[.val (.ref a), .val (.ref ar), .val (.ref ls), .unset, .unset, .unset, .unset, .unset, .unset] [(.ref a)])) (fun _ k => XS.aloadN X21.here hx rfl (hb hby d5_4) rfl rfl k) ?_
  refine own_by (T' := T21) (g' := (mkF m 6 #[.val (.ref a), .val (.ref ar), .val (.ref ls), .unset, .unset, .unset, .unset, .unset, .unset] [(.ref ar), (.ref a)])) (fun _ k => XS.aloadN X21.here hx rfl (hb hby d5_5) rfl rfl k) ?_
  obtain ⟨T22, h22, X22, e22, W22, st22⟩ := putF X21 hx hZ hown (host := "") (Or.inl (hw _ (List.mem_of_getElem? (i := 34) rfl))) Via.refl e21 F_lengths_a E_a (Or.inr ⟨(hw _ (List.mem_of_getElem? (i := 35) rfl)), rfl, hnm⟩) (hw _ (List.mem_of_getElem? (i := 2) rfl)) (ty := (.array .int)) (by decide) rfl rfl (g := (mkF m 6 #[.val (.ref a), .val (.ref ar), .val (.ref ls), .unset, .unset, .unset, .unset, .unset, .unset] [(.ref ar), (.ref a)])) rfl rfl (hb hby d5_6)
  have Fw22 : Fld Z h22 a "com/example/postings/postings/index/FieldIndex" "lengths" "[I" (.ref ar) := Fld.same W22 F_lengths_a
  have K22 : Keep h0 h22 [a] := Keep.wr (Keep.refl h0 [a]) W22 (Or.inl (List.mem_of_getElem? (i := 0) rfl))
  have N22 := Fr.snoc X22 N0 g_a
  refine own_by (T' := T22) (g' := (mkF m 9 #[.val (.ref a), .val (.ref ar), .val (.ref ls), .unset, .unset, .unset, .unset, .unset, .unset] [])) (fun _ k => st22 _ k) ?_
  refine own_by (T' := T22) (g' := (mkF m 10 #[.val (.ref a), .val (.ref ar), .val (.ref ls), .unset, .unset, .unset, .unset, .unset, .unset] [(.long (0 : Int64))])) (fun _ k => XS.lconst X22.here hx rfl (hb hby d5_9) k) ?_
  refine own_by (T' := T22) (g' := (mkF m 11 #[.val (.ref a), .val (.ref ar), .val (.ref ls), .val (.long (0 : Int64)), .second, .unset, .unset, .unset, .unset] [])) (fun _ k => XS.lstoreN X22.here hx rfl (hb hby d5_10) rfl (l' := #[.val (.ref a), .val (.ref ar), .val (.ref ls), .val (.long (0 : Int64)), .second, .unset, .unset, .unset, .unset]) rfl k) ?_
  refine own_by (T' := T22) (g' := (mkF m 12 #[.val (.ref a), .val (.ref ar), .val (.ref ls), .val (.long (0 : Int64)), .second, .unset, .unset, .unset, .unset] [(.ref ar)])) (fun _ k => XS.aloadN X22.here hx rfl (hb hby d5_11) rfl rfl k) ?_
  refine own_by (T' := T22) (g' := (mkF m 14 #[.val (.ref a), .val (.ref ar), .val (.ref ls), .val (.long (0 : Int64)), .second, .val (.ref ar), .unset, .unset, .unset] [])) (fun _ k => XS.astore X22.here hx rfl (hb hby d5_12) rfl rfl (l' := #[.val (.ref a), .val (.ref ar), .val (.ref ls), .val (.long (0 : Int64)), .second, .val (.ref ar), .unset, .unset, .unset]) rfl k) ?_
  refine own_by (T' := T22) (g' := (mkF m 16 #[.val (.ref a), .val (.ref ar), .val (.ref ls), .val (.long (0 : Int64)), .second, .val (.ref ar), .unset, .unset, .unset] [(.ref ar)])) (fun _ k => XS.aload X22.here hx rfl (hb hby d5_14) rfl rfl k) ?_
  obtain ⟨cl23, Ar23, q23, S23, N_23, H23, G23⟩ := id (Arv.other V_ar W22 (Ne.symm near))
  refine own_by (T' := T22) (g' := (mkF m 17 #[.val (.ref a), .val (.ref ar), .val (.ref ls), .val (.long (0 : Int64)), .second, .val (.ref ar), .unset, .unset, .unset] [(.int (3 : Int32))])) (fun _ k => X22.arraylength hx (by rw [e22]; exact Ar23.1) (State.isArrayOf_alike hZ.alike Ar23.2.1) (g := (mkF m 16 #[.val (.ref a), .val (.ref ar), .val (.ref ls), .val (.long (0 : Int64)), .second, .val (.ref ar), .unset, .unset, .unset] [(.ref ar)])) rfl rfl (hb hby d5_16) _ (by rw [len_of S23 N_23]; exact k)) ?_
  refine own_by (T' := T22) (g' := (mkF m 19 #[.val (.ref a), .val (.ref ar), .val (.ref ls), .val (.long (0 : Int64)), .second, .val (.ref ar), .val (.int (3 : Int32)), .unset, .unset] [])) (fun _ k => XS.istore X22.here hx rfl (hb hby d5_17) rfl (l' := #[.val (.ref a), .val (.ref ar), .val (.ref ls), .val (.long (0 : Int64)), .second, .val (.ref ar), .val (.int (3 : Int32)), .unset, .unset]) rfl k) ?_
  refine own_by (T' := T22) (g' := (mkF m 20 #[.val (.ref a), .val (.ref ar), .val (.ref ls), .val (.long (0 : Int64)), .second, .val (.ref ar), .val (.int (3 : Int32)), .unset, .unset] [(.int (0 : Int32))])) (fun _ k => XS.iconst X22.here hx rfl (hb hby d5_19) k) ?_
  refine own_by (T' := T22) (g' := (mkF m 22 #[.val (.ref a), .val (.ref ar), .val (.ref ls), .val (.long (0 : Int64)), .second, .val (.ref ar), .val (.int (3 : Int32)), .val (.int (0 : Int32)), .unset] [])) (fun _ k => XS.istore X22.here hx rfl (hb hby d5_20) rfl (l' := #[.val (.ref a), .val (.ref ar), .val (.ref ls), .val (.long (0 : Int64)), .second, .val (.ref ar), .val (.int (3 : Int32)), .val (.int (0 : Int32)), .unset]) rfl k) ?_
  refine own_by (T' := T22) (g' := (mkF m 24 #[.val (.ref a), .val (.ref ar), .val (.ref ls), .val (.long (0 : Int64)), .second, .val (.ref ar), .val (.int (3 : Int32)), .val (.int (0 : Int32)), .unset] [(.int (0 : Int32))])) (fun _ k => XS.iload X22.here hx rfl (hb hby d5_22) rfl k) ?_
  refine own_by (T' := T22) (g' := (mkF m 26 #[.val (.ref a), .val (.ref ar), .val (.ref ls), .val (.long (0 : Int64)), .second, .val (.ref ar), .val (.int (3 : Int32)), .val (.int (0 : Int32)), .unset] [(.int (3 : Int32)), (.int (0 : Int32))])) (fun _ k => XS.iload X22.here hx rfl (hb hby d5_24) rfl k) ?_
  refine own_by (T' := T22) (g' := (mkF m 29 #[.val (.ref a), .val (.ref ar), .val (.ref ls), .val (.long (0 : Int64)), .second, .val (.ref ar), .val (.int (3 : Int32)), .val (.int (0 : Int32)), .unset] [])) (fun _ k => XS.icmpNo X22.here hx rfl (hb hby d5_26) rfl (tlt (by decide)).2.1 k) ?_
  refine own_by (T' := T22) (g' := (mkF m 31 #[.val (.ref a), .val (.ref ar), .val (.ref ls), .val (.long (0 : Int64)), .second, .val (.ref ar), .val (.int (3 : Int32)), .val (.int (0 : Int32)), .unset] [(.ref ar)])) (fun _ k => XS.aload X22.here hx rfl (hb hby d5_29) rfl rfl k) ?_
  refine own_by (T' := T22) (g' := (mkF m 33 #[.val (.ref a), .val (.ref ar), .val (.ref ls), .val (.long (0 : Int64)), .second, .val (.ref ar), .val (.int (3 : Int32)), .val (.int (0 : Int32)), .unset] [(.int (0 : Int32)), (.ref ar)])) (fun _ k => XS.iload X22.here hx rfl (hb hby d5_31) rfl k) ?_
  obtain ⟨cl24, Ar24, q24, S24, N_24, H24, G24⟩ := id (Arv.other V_ar W22 (Ne.symm near))
  have hin24 : ¬ ((0 : Int32) < 0 ∨ cl24.slots.size ≤ ((0 : Int32)).toNatClampNeg) := inb_of S24 ⟨by decide, by decide⟩
  refine own_by (T' := T22) (g' := (mkF m 34 #[.val (.ref a), .val (.ref ar), .val (.ref ls), .val (.long (0 : Int64)), .second, .val (.ref ar), .val (.int (3 : Int32)), .val (.int (0 : Int32)), .unset] [(.int el0)])) (fun _ k => X22.iaload hx (j := (0 : Int32)) (v := (.int el0)) (by rw [e22]; exact Ar24.1) (State.isArrayOf_alike hZ.alike Ar24.2.1) Ar24.2.2 hin24 (Has.at H24 hin24 rfl) (g := (mkF m 33 #[.val (.ref a), .val (.ref ar), .val (.ref ls), .val (.long (0 : Int64)), .second, .val (.ref ar), .val (.int (3 : Int32)), .val (.int (0 : Int32)), .unset] [(.int (0 : Int32)), (.ref ar)])) rfl rfl (hb hby d5_33) _ k) ?_
  refine own_by (T' := T22) (g' := (mkF m 36 #[.val (.ref a), .val (.ref ar), .val (.ref ls), .val (.long (0 : Int64)), .second, .val (.ref ar), .val (.int (3 : Int32)), .val (.int (0 : Int32)), .val (.int el0)] [])) (fun _ k => XS.istore X22.here hx rfl (hb hby d5_34) rfl (l' := #[.val (.ref a), .val (.ref ar), .val (.ref ls), .val (.long (0 : Int64)), .second, .val (.ref ar), .val (.int (3 : Int32)), .val (.int (0 : Int32)), .val (.int el0)]) rfl k) ?_
  refine own_by (T' := T22) (g' := (mkF m 37 #[.val (.ref a), .val (.ref ar), .val (.ref ls), .val (.long (0 : Int64)), .second, .val (.ref ar), .val (.int (3 : Int32)), .val (.int (0 : Int32)), .val (.int el0)] [(.long (0 : Int64))])) (fun _ k => XS.lloadN X22.here hx rfl (hb hby d5_36) rfl k) ?_
  refine own_by (T' := T22) (g' := (mkF m 39 #[.val (.ref a), .val (.ref ar), .val (.ref ls), .val (.long (0 : Int64)), .second, .val (.ref ar), .val (.int (3 : Int32)), .val (.int (0 : Int32)), .val (.int el0)] [(.int el0), (.long (0 : Int64))])) (fun _ k => XS.iload X22.here hx rfl (hb hby d5_37) rfl k) ?_
  refine own_by (T' := T22) (g' := (mkF m 40 #[.val (.ref a), .val (.ref ar), .val (.ref ls), .val (.long (0 : Int64)), .second, .val (.ref ar), .val (.int (3 : Int32)), .val (.int (0 : Int32)), .val (.int el0)] [(.long (el0.toInt64)), (.long (0 : Int64))])) (fun _ k => XS.i2l X22.here hx rfl (hb hby d5_39) rfl k) ?_
  refine own_by (T' := T22) (g' := (mkF m 41 #[.val (.ref a), .val (.ref ar), .val (.ref ls), .val (.long (0 : Int64)), .second, .val (.ref ar), .val (.int (3 : Int32)), .val (.int (0 : Int32)), .val (.int el0)] [(.long ((0 : Int64) + (el0.toInt64)))])) (fun _ k => XS.ladd X22.here hx rfl (hb hby d5_40) rfl k) ?_
  refine own_by (T' := T22) (g' := (mkF m 42 #[.val (.ref a), .val (.ref ar), .val (.ref ls), .val (.long ((0 : Int64) + (el0.toInt64))), .second, .val (.ref ar), .val (.int (3 : Int32)), .val (.int (0 : Int32)), .val (.int el0)] [])) (fun _ k => XS.lstoreN X22.here hx rfl (hb hby d5_41) rfl (l' := #[.val (.ref a), .val (.ref ar), .val (.ref ls), .val (.long ((0 : Int64) + (el0.toInt64))), .second, .val (.ref ar), .val (.int (3 : Int32)), .val (.int (0 : Int32)), .val (.int el0)]) rfl k) ?_
  refine own_by (T' := T22) (g' := (mkF m 45 #[.val (.ref a), .val (.ref ar), .val (.ref ls), .val (.long ((0 : Int64) + (el0.toInt64))), .second, .val (.ref ar), .val (.int (3 : Int32)), .val (.int (1 : Int32)), .val (.int el0)] [])) (fun _ k => XS.iinc X22.here hx rfl (hb hby d5_42) rfl (l' := #[.val (.ref a), .val (.ref ar), .val (.ref ls), .val (.long ((0 : Int64) + (el0.toInt64))), .second, .val (.ref ar), .val (.int (3 : Int32)), .val (.int (1 : Int32)), .val (.int el0)]) rfl k) ?_
  refine own_by (T' := T22) (g' := (mkF m 22 #[.val (.ref a), .val (.ref ar), .val (.ref ls), .val (.long ((0 : Int64) + (el0.toInt64))), .second, .val (.ref ar), .val (.int (3 : Int32)), .val (.int (1 : Int32)), .val (.int el0)] [])) (fun _ k => XS.goto X22.here hx rfl (pc0 := 45) (pc' := 22) rfl (hb hby d5_45) (by decide) (by decide) k) ?_
  refine own_by (T' := T22) (g' := (mkF m 24 #[.val (.ref a), .val (.ref ar), .val (.ref ls), .val (.long ((0 : Int64) + (el0.toInt64))), .second, .val (.ref ar), .val (.int (3 : Int32)), .val (.int (1 : Int32)), .val (.int el0)] [(.int (1 : Int32))])) (fun _ k => XS.iload X22.here hx rfl (hb hby d5_22) rfl k) ?_
  refine own_by (T' := T22) (g' := (mkF m 26 #[.val (.ref a), .val (.ref ar), .val (.ref ls), .val (.long ((0 : Int64) + (el0.toInt64))), .second, .val (.ref ar), .val (.int (3 : Int32)), .val (.int (1 : Int32)), .val (.int el0)] [(.int (3 : Int32)), (.int (1 : Int32))])) (fun _ k => XS.iload X22.here hx rfl (hb hby d5_24) rfl k) ?_
  refine own_by (T' := T22) (g' := (mkF m 29 #[.val (.ref a), .val (.ref ar), .val (.ref ls), .val (.long ((0 : Int64) + (el0.toInt64))), .second, .val (.ref ar), .val (.int (3 : Int32)), .val (.int (1 : Int32)), .val (.int el0)] [])) (fun _ k => XS.icmpNo X22.here hx rfl (hb hby d5_26) rfl (tlt (by decide)).2.1 k) ?_
  refine own_by (T' := T22) (g' := (mkF m 31 #[.val (.ref a), .val (.ref ar), .val (.ref ls), .val (.long ((0 : Int64) + (el0.toInt64))), .second, .val (.ref ar), .val (.int (3 : Int32)), .val (.int (1 : Int32)), .val (.int el0)] [(.ref ar)])) (fun _ k => XS.aload X22.here hx rfl (hb hby d5_29) rfl rfl k) ?_
  refine own_by (T' := T22) (g' := (mkF m 33 #[.val (.ref a), .val (.ref ar), .val (.ref ls), .val (.long ((0 : Int64) + (el0.toInt64))), .second, .val (.ref ar), .val (.int (3 : Int32)), .val (.int (1 : Int32)), .val (.int el0)] [(.int (1 : Int32)), (.ref ar)])) (fun _ k => XS.iload X22.here hx rfl (hb hby d5_31) rfl k) ?_
  obtain ⟨cl25, Ar25, q25, S25, N_25, H25, G25⟩ := id (Arv.other V_ar W22 (Ne.symm near))
  have hin25 : ¬ ((1 : Int32) < 0 ∨ cl25.slots.size ≤ ((1 : Int32)).toNatClampNeg) := inb_of S25 ⟨by decide, by decide⟩
  refine own_by (T' := T22) (g' := (mkF m 34 #[.val (.ref a), .val (.ref ar), .val (.ref ls), .val (.long ((0 : Int64) + (el0.toInt64))), .second, .val (.ref ar), .val (.int (3 : Int32)), .val (.int (1 : Int32)), .val (.int el0)] [(.int el1)])) (fun _ k => X22.iaload hx (j := (1 : Int32)) (v := (.int el1)) (by rw [e22]; exact Ar25.1) (State.isArrayOf_alike hZ.alike Ar25.2.1) Ar25.2.2 hin25 (Has.at H25 hin25 rfl) (g := (mkF m 33 #[.val (.ref a), .val (.ref ar), .val (.ref ls), .val (.long ((0 : Int64) + (el0.toInt64))), .second, .val (.ref ar), .val (.int (3 : Int32)), .val (.int (1 : Int32)), .val (.int el0)] [(.int (1 : Int32)), (.ref ar)])) rfl rfl (hb hby d5_33) _ k) ?_
  refine own_by (T' := T22) (g' := (mkF m 36 #[.val (.ref a), .val (.ref ar), .val (.ref ls), .val (.long ((0 : Int64) + (el0.toInt64))), .second, .val (.ref ar), .val (.int (3 : Int32)), .val (.int (1 : Int32)), .val (.int el1)] [])) (fun _ k => XS.istore X22.here hx rfl (hb hby d5_34) rfl (l' := #[.val (.ref a), .val (.ref ar), .val (.ref ls), .val (.long ((0 : Int64) + (el0.toInt64))), .second, .val (.ref ar), .val (.int (3 : Int32)), .val (.int (1 : Int32)), .val (.int el1)]) rfl k) ?_
  refine own_by (T' := T22) (g' := (mkF m 37 #[.val (.ref a), .val (.ref ar), .val (.ref ls), .val (.long ((0 : Int64) + (el0.toInt64))), .second, .val (.ref ar), .val (.int (3 : Int32)), .val (.int (1 : Int32)), .val (.int el1)] [(.long ((0 : Int64) + (el0.toInt64)))])) (fun _ k => XS.lloadN X22.here hx rfl (hb hby d5_36) rfl k) ?_
  refine own_by (T' := T22) (g' := (mkF m 39 #[.val (.ref a), .val (.ref ar), .val (.ref ls), .val (.long ((0 : Int64) + (el0.toInt64))), .second, .val (.ref ar), .val (.int (3 : Int32)), .val (.int (1 : Int32)), .val (.int el1)] [(.int el1), (.long ((0 : Int64) + (el0.toInt64)))])) (fun _ k => XS.iload X22.here hx rfl (hb hby d5_37) rfl k) ?_
  refine own_by (T' := T22) (g' := (mkF m 40 #[.val (.ref a), .val (.ref ar), .val (.ref ls), .val (.long ((0 : Int64) + (el0.toInt64))), .second, .val (.ref ar), .val (.int (3 : Int32)), .val (.int (1 : Int32)), .val (.int el1)] [(.long (el1.toInt64)), (.long ((0 : Int64) + (el0.toInt64)))])) (fun _ k => XS.i2l X22.here hx rfl (hb hby d5_39) rfl k) ?_
  refine own_by (T' := T22) (g' := (mkF m 41 #[.val (.ref a), .val (.ref ar), .val (.ref ls), .val (.long ((0 : Int64) + (el0.toInt64))), .second, .val (.ref ar), .val (.int (3 : Int32)), .val (.int (1 : Int32)), .val (.int el1)] [(.long (((0 : Int64) + (el0.toInt64)) + (el1.toInt64)))])) (fun _ k => XS.ladd X22.here hx rfl (hb hby d5_40) rfl k) ?_
  refine own_by (T' := T22) (g' := (mkF m 42 #[.val (.ref a), .val (.ref ar), .val (.ref ls), .val (.long (((0 : Int64) + (el0.toInt64)) + (el1.toInt64))), .second, .val (.ref ar), .val (.int (3 : Int32)), .val (.int (1 : Int32)), .val (.int el1)] [])) (fun _ k => XS.lstoreN X22.here hx rfl (hb hby d5_41) rfl (l' := #[.val (.ref a), .val (.ref ar), .val (.ref ls), .val (.long (((0 : Int64) + (el0.toInt64)) + (el1.toInt64))), .second, .val (.ref ar), .val (.int (3 : Int32)), .val (.int (1 : Int32)), .val (.int el1)]) rfl k) ?_
  refine own_by (T' := T22) (g' := (mkF m 45 #[.val (.ref a), .val (.ref ar), .val (.ref ls), .val (.long (((0 : Int64) + (el0.toInt64)) + (el1.toInt64))), .second, .val (.ref ar), .val (.int (3 : Int32)), .val (.int (2 : Int32)), .val (.int el1)] [])) (fun _ k => XS.iinc X22.here hx rfl (hb hby d5_42) rfl (l' := #[.val (.ref a), .val (.ref ar), .val (.ref ls), .val (.long (((0 : Int64) + (el0.toInt64)) + (el1.toInt64))), .second, .val (.ref ar), .val (.int (3 : Int32)), .val (.int (2 : Int32)), .val (.int el1)]) rfl k) ?_
  refine own_by (T' := T22) (g' := (mkF m 22 #[.val (.ref a), .val (.ref ar), .val (.ref ls), .val (.long (((0 : Int64) + (el0.toInt64)) + (el1.toInt64))), .second, .val (.ref ar), .val (.int (3 : Int32)), .val (.int (2 : Int32)), .val (.int el1)] [])) (fun _ k => XS.goto X22.here hx rfl (pc0 := 45) (pc' := 22) rfl (hb hby d5_45) (by decide) (by decide) k) ?_
  refine own_by (T' := T22) (g' := (mkF m 24 #[.val (.ref a), .val (.ref ar), .val (.ref ls), .val (.long (((0 : Int64) + (el0.toInt64)) + (el1.toInt64))), .second, .val (.ref ar), .val (.int (3 : Int32)), .val (.int (2 : Int32)), .val (.int el1)] [(.int (2 : Int32))])) (fun _ k => XS.iload X22.here hx rfl (hb hby d5_22) rfl k) ?_
  refine own_by (T' := T22) (g' := (mkF m 26 #[.val (.ref a), .val (.ref ar), .val (.ref ls), .val (.long (((0 : Int64) + (el0.toInt64)) + (el1.toInt64))), .second, .val (.ref ar), .val (.int (3 : Int32)), .val (.int (2 : Int32)), .val (.int el1)] [(.int (3 : Int32)), (.int (2 : Int32))])) (fun _ k => XS.iload X22.here hx rfl (hb hby d5_24) rfl k) ?_
  refine own_by (T' := T22) (g' := (mkF m 29 #[.val (.ref a), .val (.ref ar), .val (.ref ls), .val (.long (((0 : Int64) + (el0.toInt64)) + (el1.toInt64))), .second, .val (.ref ar), .val (.int (3 : Int32)), .val (.int (2 : Int32)), .val (.int el1)] [])) (fun _ k => XS.icmpNo X22.here hx rfl (hb hby d5_26) rfl (tlt (by decide)).2.1 k) ?_
  refine own_by (T' := T22) (g' := (mkF m 31 #[.val (.ref a), .val (.ref ar), .val (.ref ls), .val (.long (((0 : Int64) + (el0.toInt64)) + (el1.toInt64))), .second, .val (.ref ar), .val (.int (3 : Int32)), .val (.int (2 : Int32)), .val (.int el1)] [(.ref ar)])) (fun _ k => XS.aload X22.here hx rfl (hb hby d5_29) rfl rfl k) ?_
  refine own_by (T' := T22) (g' := (mkF m 33 #[.val (.ref a), .val (.ref ar), .val (.ref ls), .val (.long (((0 : Int64) + (el0.toInt64)) + (el1.toInt64))), .second, .val (.ref ar), .val (.int (3 : Int32)), .val (.int (2 : Int32)), .val (.int el1)] [(.int (2 : Int32)), (.ref ar)])) (fun _ k => XS.iload X22.here hx rfl (hb hby d5_31) rfl k) ?_
  obtain ⟨cl26, Ar26, q26, S26, N_26, H26, G26⟩ := id (Arv.other V_ar W22 (Ne.symm near))
  have hin26 : ¬ ((2 : Int32) < 0 ∨ cl26.slots.size ≤ ((2 : Int32)).toNatClampNeg) := inb_of S26 ⟨by decide, by decide⟩
  refine own_by (T' := T22) (g' := (mkF m 34 #[.val (.ref a), .val (.ref ar), .val (.ref ls), .val (.long (((0 : Int64) + (el0.toInt64)) + (el1.toInt64))), .second, .val (.ref ar), .val (.int (3 : Int32)), .val (.int (2 : Int32)), .val (.int el1)] [(.int el2)])) (fun _ k => X22.iaload hx (j := (2 : Int32)) (v := (.int el2)) (by rw [e22]; exact Ar26.1) (State.isArrayOf_alike hZ.alike Ar26.2.1) Ar26.2.2 hin26 (Has.at H26 hin26 rfl) (g := (mkF m 33 #[.val (.ref a), .val (.ref ar), .val (.ref ls), .val (.long (((0 : Int64) + (el0.toInt64)) + (el1.toInt64))), .second, .val (.ref ar), .val (.int (3 : Int32)), .val (.int (2 : Int32)), .val (.int el1)] [(.int (2 : Int32)), (.ref ar)])) rfl rfl (hb hby d5_33) _ k) ?_
  refine own_by (T' := T22) (g' := (mkF m 36 #[.val (.ref a), .val (.ref ar), .val (.ref ls), .val (.long (((0 : Int64) + (el0.toInt64)) + (el1.toInt64))), .second, .val (.ref ar), .val (.int (3 : Int32)), .val (.int (2 : Int32)), .val (.int el2)] [])) (fun _ k => XS.istore X22.here hx rfl (hb hby d5_34) rfl (l' := #[.val (.ref a), .val (.ref ar), .val (.ref ls), .val (.long (((0 : Int64) + (el0.toInt64)) + (el1.toInt64))), .second, .val (.ref ar), .val (.int (3 : Int32)), .val (.int (2 : Int32)), .val (.int el2)]) rfl k) ?_
  refine own_by (T' := T22) (g' := (mkF m 37 #[.val (.ref a), .val (.ref ar), .val (.ref ls), .val (.long (((0 : Int64) + (el0.toInt64)) + (el1.toInt64))), .second, .val (.ref ar), .val (.int (3 : Int32)), .val (.int (2 : Int32)), .val (.int el2)] [(.long (((0 : Int64) + (el0.toInt64)) + (el1.toInt64)))])) (fun _ k => XS.lloadN X22.here hx rfl (hb hby d5_36) rfl k) ?_
  refine own_by (T' := T22) (g' := (mkF m 39 #[.val (.ref a), .val (.ref ar), .val (.ref ls), .val (.long (((0 : Int64) + (el0.toInt64)) + (el1.toInt64))), .second, .val (.ref ar), .val (.int (3 : Int32)), .val (.int (2 : Int32)), .val (.int el2)] [(.int el2), (.long (((0 : Int64) + (el0.toInt64)) + (el1.toInt64)))])) (fun _ k => XS.iload X22.here hx rfl (hb hby d5_37) rfl k) ?_
  refine own_by (T' := T22) (g' := (mkF m 40 #[.val (.ref a), .val (.ref ar), .val (.ref ls), .val (.long (((0 : Int64) + (el0.toInt64)) + (el1.toInt64))), .second, .val (.ref ar), .val (.int (3 : Int32)), .val (.int (2 : Int32)), .val (.int el2)] [(.long (el2.toInt64)), (.long (((0 : Int64) + (el0.toInt64)) + (el1.toInt64)))])) (fun _ k => XS.i2l X22.here hx rfl (hb hby d5_39) rfl k) ?_
  refine own_by (T' := T22) (g' := (mkF m 41 #[.val (.ref a), .val (.ref ar), .val (.ref ls), .val (.long (((0 : Int64) + (el0.toInt64)) + (el1.toInt64))), .second, .val (.ref ar), .val (.int (3 : Int32)), .val (.int (2 : Int32)), .val (.int el2)] [(.long ((((0 : Int64) + (el0.toInt64)) + (el1.toInt64)) + (el2.toInt64)))])) (fun _ k => XS.ladd X22.here hx rfl (hb hby d5_40) rfl k) ?_
  refine own_by (T' := T22) (g' := (mkF m 42 #[.val (.ref a), .val (.ref ar), .val (.ref ls), .val (.long ((((0 : Int64) + (el0.toInt64)) + (el1.toInt64)) + (el2.toInt64))), .second, .val (.ref ar), .val (.int (3 : Int32)), .val (.int (2 : Int32)), .val (.int el2)] [])) (fun _ k => XS.lstoreN X22.here hx rfl (hb hby d5_41) rfl (l' := #[.val (.ref a), .val (.ref ar), .val (.ref ls), .val (.long ((((0 : Int64) + (el0.toInt64)) + (el1.toInt64)) + (el2.toInt64))), .second, .val (.ref ar), .val (.int (3 : Int32)), .val (.int (2 : Int32)), .val (.int el2)]) rfl k) ?_
  refine own_by (T' := T22) (g' := (mkF m 45 #[.val (.ref a), .val (.ref ar), .val (.ref ls), .val (.long ((((0 : Int64) + (el0.toInt64)) + (el1.toInt64)) + (el2.toInt64))), .second, .val (.ref ar), .val (.int (3 : Int32)), .val (.int (3 : Int32)), .val (.int el2)] [])) (fun _ k => XS.iinc X22.here hx rfl (hb hby d5_42) rfl (l' := #[.val (.ref a), .val (.ref ar), .val (.ref ls), .val (.long ((((0 : Int64) + (el0.toInt64)) + (el1.toInt64)) + (el2.toInt64))), .second, .val (.ref ar), .val (.int (3 : Int32)), .val (.int (3 : Int32)), .val (.int el2)]) rfl k) ?_
  refine own_by (T' := T22) (g' := (mkF m 22 #[.val (.ref a), .val (.ref ar), .val (.ref ls), .val (.long ((((0 : Int64) + (el0.toInt64)) + (el1.toInt64)) + (el2.toInt64))), .second, .val (.ref ar), .val (.int (3 : Int32)), .val (.int (3 : Int32)), .val (.int el2)] [])) (fun _ k => XS.goto X22.here hx rfl (pc0 := 45) (pc' := 22) rfl (hb hby d5_45) (by decide) (by decide) k) ?_
  refine own_by (T' := T22) (g' := (mkF m 24 #[.val (.ref a), .val (.ref ar), .val (.ref ls), .val (.long ((((0 : Int64) + (el0.toInt64)) + (el1.toInt64)) + (el2.toInt64))), .second, .val (.ref ar), .val (.int (3 : Int32)), .val (.int (3 : Int32)), .val (.int el2)] [(.int (3 : Int32))])) (fun _ k => XS.iload X22.here hx rfl (hb hby d5_22) rfl k) ?_
  refine own_by (T' := T22) (g' := (mkF m 26 #[.val (.ref a), .val (.ref ar), .val (.ref ls), .val (.long ((((0 : Int64) + (el0.toInt64)) + (el1.toInt64)) + (el2.toInt64))), .second, .val (.ref ar), .val (.int (3 : Int32)), .val (.int (3 : Int32)), .val (.int el2)] [(.int (3 : Int32)), (.int (3 : Int32))])) (fun _ k => XS.iload X22.here hx rfl (hb hby d5_24) rfl k) ?_
  refine own_by (T' := T22) (g' := (mkF m 48 #[.val (.ref a), .val (.ref ar), .val (.ref ls), .val (.long ((((0 : Int64) + (el0.toInt64)) + (el1.toInt64)) + (el2.toInt64))), .second, .val (.ref ar), .val (.int (3 : Int32)), .val (.int (3 : Int32)), .val (.int el2)] [])) (fun _ k => XS.icmpYes X22.here hx rfl (pc0 := 26) (pc' := 48) rfl (hb hby d5_26) rfl (flt (by decide)).2.1 (by decide) (by decide) k) ?_
  refine own_by (T' := T22) (g' := (mkF m 49 #[.val (.ref a), .val (.ref ar), .val (.ref ls), .val (.long ((((0 : Int64) + (el0.toInt64)) + (el1.toInt64)) + (el2.toInt64))), .second, .val (.ref ar), .val (.int (3 : Int32)), .val (.int (3 : Int32)), .val (.int el2)] [(.ref a)])) (fun _ k => XS.aloadN X22.here hx rfl (hb hby d5_48) rfl rfl k) ?_
  refine own_by (T' := T22) (g' := (mkF m 50 #[.val (.ref a), .val (.ref ar), .val (.ref ls), .val (.long ((((0 : Int64) + (el0.toInt64)) + (el1.toInt64)) + (el2.toInt64))), .second, .val (.ref ar), .val (.int (3 : Int32)), .val (.int (3 : Int32)), .val (.int el2)] [(.long ((((0 : Int64) + (el0.toInt64)) + (el1.toInt64)) + (el2.toInt64))), (.ref a)])) (fun _ k => XS.lloadN X22.here hx rfl (hb hby d5_49) rfl k) ?_
  obtain ⟨T27, h27, X27, e27, W27, st27⟩ := putF X22 hx hZ hown (host := "") (Or.inl (hw _ (List.mem_of_getElem? (i := 36) rfl))) Via.refl e22 (Fld.other W22 F_totalLength_a (Or.inr (slot_ne (a0 := a0) (Or.inr (hw _ (List.mem_of_getElem? (i := 37) rfl))) (Or.inr (hw _ (List.mem_of_getElem? (i := 35) rfl))) (by decide) (t := .long) (t' := (.array .int)) (by decide) (by decide)))) (Exa.wr W22 E_a) (Or.inr ⟨(hw _ (List.mem_of_getElem? (i := 37) rfl)), rfl, hnm⟩) (hw _ (List.mem_of_getElem? (i := 2) rfl)) (ty := .long) (by decide) rfl rfl (g := (mkF m 50 #[.val (.ref a), .val (.ref ar), .val (.ref ls), .val (.long ((((0 : Int64) + (el0.toInt64)) + (el1.toInt64)) + (el2.toInt64))), .second, .val (.ref ar), .val (.int (3 : Int32)), .val (.int (3 : Int32)), .val (.int el2)] [(.long ((((0 : Int64) + (el0.toInt64)) + (el1.toInt64)) + (el2.toInt64))), (.ref a)])) rfl rfl (hb hby d5_50)
  have Fw27 : Fld Z h27 a "com/example/postings/postings/index/FieldIndex" "totalLength" "J" (.long ((((0 : Int64) + (el0.toInt64)) + (el1.toInt64)) + (el2.toInt64))) := Fld.same W27 (Fld.other W22 F_totalLength_a (Or.inr (slot_ne (a0 := a0) (Or.inr (hw _ (List.mem_of_getElem? (i := 37) rfl))) (Or.inr (hw _ (List.mem_of_getElem? (i := 35) rfl))) (by decide) (t := .long) (t' := (.array .int)) (by decide) (by decide))))
  have K27 : Keep h0 h27 [a] := Keep.wr K22 W27 (Or.inl (List.mem_of_getElem? (i := 0) rfl))
  have N27 := Fr.snoc X27 N22 g_a
  refine own_by (T' := T27) (g' := (mkF m 53 #[.val (.ref a), .val (.ref ar), .val (.ref ls), .val (.long ((((0 : Int64) + (el0.toInt64)) + (el1.toInt64)) + (el2.toInt64))), .second, .val (.ref ar), .val (.int (3 : Int32)), .val (.int (3 : Int32)), .val (.int el2)] [])) (fun _ k => st27 _ k) ?_
  refine own_by (T' := T27) (g' := (mkF m 54 #[.val (.ref a), .val (.ref ar), .val (.ref ls), .val (.long ((((0 : Int64) + (el0.toInt64)) + (el1.toInt64)) + (el2.toInt64))), .second, .val (.ref ar), .val (.int (3 : Int32)), .val (.int (3 : Int32)), .val (.int el2)] [(.ref a)])) (fun _ k => XS.aloadN X27.here hx rfl (hb hby d5_53) rfl rfl k) ?_
  refine own_by (T' := T27) (g' := (mkF m 55 #[.val (.ref a), .val (.ref ar), .val (.ref ls), .val (.long ((((0 : Int64) + (el0.toInt64)) + (el1.toInt64)) + (el2.toInt64))), .second, .val (.ref ar), .val (.int (3 : Int32)), .val (.int (3 : Int32)), .val (.int el2)] [(.ref ls), (.ref a)])) (fun _ k => XS.aloadN X27.here hx rfl (hb hby d5_54) rfl rfl k) ?_
  obtain ⟨T28, h28, X28, e28, W28, st28⟩ := putF X27 hx hZ hown (host := "") (Or.inl (hw _ (List.mem_of_getElem? (i := 38) rfl))) Via.refl e27 (Fld.other W27 (Fld.other W22 F_segments_a (Or.inr (slot_ne (a0 := a0) (Or.inr (hw _ (List.mem_of_getElem? (i := 39) rfl))) (Or.inr (hw _ (List.mem_of_getElem? (i := 35) rfl))) (by decide) (t := (.object "java/util/List")) (t' := (.array .int)) (by decide) (by decide)))) (Or.inr (slot_ne (a0 := a0) (Or.inr (hw _ (List.mem_of_getElem? (i := 39) rfl))) (Or.inr (hw _ (List.mem_of_getElem? (i := 37) rfl))) (by decide) (t := (.object "java/util/List")) (t' := .long) (by decide) (by decide)))) (Exa.wr W27 (Exa.wr W22 E_a)) (Or.inr ⟨(hw _ (List.mem_of_getElem? (i := 39) rfl)), rfl, hnm⟩) (hw _ (List.mem_of_getElem? (i := 2) rfl)) (ty := (.object "java/util/List")) (by decide) rfl rfl (g := (mkF m 55 #[.val (.ref a), .val (.ref ar), .val (.ref ls), .val (.long ((((0 : Int64) + (el0.toInt64)) + (el1.toInt64)) + (el2.toInt64))), .second, .val (.ref ar), .val (.int (3 : Int32)), .val (.int (3 : Int32)), .val (.int el2)] [(.ref ls), (.ref a)])) rfl rfl (hb hby d5_55)
  have Fw28 : Fld Z h28 a "com/example/postings/postings/index/FieldIndex" "segments" "Ljava/util/List;" (.ref ls) := Fld.same W28 (Fld.other W27 (Fld.other W22 F_segments_a (Or.inr (slot_ne (a0 := a0) (Or.inr (hw _ (List.mem_of_getElem? (i := 39) rfl))) (Or.inr (hw _ (List.mem_of_getElem? (i := 35) rfl))) (by decide) (t := (.object "java/util/List")) (t' := (.array .int)) (by decide) (by decide)))) (Or.inr (slot_ne (a0 := a0) (Or.inr (hw _ (List.mem_of_getElem? (i := 39) rfl))) (Or.inr (hw _ (List.mem_of_getElem? (i := 37) rfl))) (by decide) (t := (.object "java/util/List")) (t' := .long) (by decide) (by decide))))
  have K28 : Keep h0 h28 [a] := Keep.wr K27 W28 (Or.inl (List.mem_of_getElem? (i := 0) rfl))
  have N28 := Fr.snoc X28 N27 g_a
  refine own_by (T' := T28) (g' := (mkF m 58 #[.val (.ref a), .val (.ref ar), .val (.ref ls), .val (.long ((((0 : Int64) + (el0.toInt64)) + (el1.toInt64)) + (el2.toInt64))), .second, .val (.ref ar), .val (.int (3 : Int32)), .val (.int (3 : Int32)), .val (.int el2)] [])) (fun _ k => st28 _ k) ?_
  refine own_ret X28 hlk (v := none) (fun _ => rfl) (fun fs hr => X28.returnOut hx Bd.returns (hb hby d5_58) hr) ?_ (by decide) (by decide)
  rw [e28]
  exact ⟨rfl, N28, K28, (Fld.other W28 (Fld.other W27 Fw22 (Or.inr (slot_ne (a0 := a0) (Or.inr (hw _ (List.mem_of_getElem? (i := 35) rfl))) (Or.inr (hw _ (List.mem_of_getElem? (i := 37) rfl))) (by decide) (t := (.array .int)) (t' := .long) (by decide) (by decide)))) (Or.inr (slot_ne (a0 := a0) (Or.inr (hw _ (List.mem_of_getElem? (i := 35) rfl))) (Or.inr (hw _ (List.mem_of_getElem? (i := 39) rfl))) (by decide) (t := (.array .int)) (t' := (.object "java/util/List")) (by decide) (by decide)))), (Fld.other W28 Fw27 (Or.inr (slot_ne (a0 := a0) (Or.inr (hw _ (List.mem_of_getElem? (i := 37) rfl))) (Or.inr (hw _ (List.mem_of_getElem? (i := 39) rfl))) (by decide) (t := .long) (t' := (.object "java/util/List")) (by decide) (by decide))))⟩
theorem ef_av_3 (m : MethodId) (a : Addr) : entryFrame m #[(.ref a)] 1 = mkF m 0 #[.val (.ref a)] [] := by first | (simp [entryFrame, mkF, argsToLocals, Value.category]; done) | rfl
def Q_av_3 (Z : State) (a : Addr) (ar : Addr) (kk : ClassId) (S0 : Int64) (el0 : Int32) (el1 : Int32) (el2 : Int32) (h0 : Heap) (n0 : Nat) (v : Option Value) (h : Heap) (L : List Loc) : Prop := v = some (.double (FP.ddiv (FP.l2d S0) (FP.i2d (3 : Int32)))) ∧ Fr n0 L ∧ h = h0
set_option maxRecDepth 65536 in
set_option maxHeartbeats 40000000 in
theorem av_3 (l : Launch) (Z : State) (a0 : Array Value) (hw : ∀ d ∈ tables_1, d.before a0 Z = true) (ws : List Jvm.Cond) (a : Addr) (ar : Addr) (kk : ClassId) (S0 : Int64) (el0 : Int32) (el1 : Int32) (el2 : Int32) (h0 : Heap) (n0 : Nat) (Z0 : n0 ≤ h0.size) (F_lengths_a : Fld Z h0 a "com/example/postings/postings/index/FieldIndex" "lengths" "[I" (.ref ar)) (F_totalLength_a : Fld Z h0 a "com/example/postings/postings/index/FieldIndex" "totalLength" "J" (.long S0)) (V_ar : Arv Z h0 ar kk .int (3 : Int32) [(.int el0), (.int el1), (.int el2)] (.int (0 : Int32))) :
    MetFree l (⟨"com/example/postings/postings/index/FieldIndex", "averageLength", "()D"⟩ : MethodName) (head1 (Jvm.Cond.code (⟨"com/example/postings/postings/index/FieldIndex", "averageLength", "()D"⟩ : MethodName) prog_14_method_3_code 1 (some .double) :: ws) ({ frames := 0, cells := 0, slots := 0, locals := 0 } : Room)) (fun zz UU => zz = #[(.ref a)] ∧ Z.Warmed39 UU.vm ∧ UU.heap = h0) (fun _ _ _ _ _ => True) (fun _ U o U' => ∃ v L, o = .returned v ∧ Q_av_3 Z a ar kk S0 el0 el1 el2 h0 n0 v U'.heap L ∧ FrameEnd U o U' L ({ frames := 0, cells := 0, slots := 0, locals := 0 } : Room).cells ({ frames := 0, cells := 0, slots := 0, locals := 0 } : Room).slots) := by
  refine MetFree.of_bodySF (plainFor_of_name pn_6) hisR ?_
  intro p e s m args below meth c s₁ Bd hml0 hP hK
  obtain ⟨rfl, hZ, hh⟩ := hP
  have hx := Bd.exec
  have hby := Bd.bytes
  have hml : c.maxLocals = 1 := hml0
  have hown : s.vm.findClass "com/example/postings/postings/index/FieldIndex" = some m.cls := findClass_of_methodNamed Bd.named
  have hnm := (name_of_methodNamed Bd.named Bd.method).1
  have hlk : meth.locks = false := BodyLoose.notSynchronized Bd
  have X0 : Stand p l e ({ frames := 0, cells := 0, slots := 0, locals := 0 } : Room) s m #[(.ref a)] below meth c s₁ [] 0 0 := Stand.of_body Bd
  have e0 : s₁.heap = h0 := by rw [← hh, Bd.state]; rfl
  have N0 := Fr.nil n0
  show own_Go p.tables e below (Q_av_3 Z a ar kk S0 el0 el1 el2 h0 n0) s ({ frames := 0, cells := 0, slots := 0, locals := 0 } : Room).cells ({ frames := 0, cells := 0, slots := 0, locals := 0 } : Room).slots s₁ (entryFrame m #[(.ref a)] 1)
  rw [ef_av_3 m a]
  refine own_by (T' := s₁) (g' := (mkF m 1 #[.val (.ref a)] [(.ref a)])) (fun _ k => XS.aloadN X0.here hx rfl (hb hby d6_0) rfl rfl k) ?_
  obtain ⟨T21, X21, e21, st21⟩ := getF X0 hx hZ hown (host := "") (Or.inl (hw _ (List.mem_of_getElem? (i := 36) rfl))) Via.refl e0 F_totalLength_a (g := (mkF m 1 #[.val (.ref a)] [(.ref a)])) rfl rfl (hb hby d6_1)
  refine own_by (T' := T21) (g' := (mkF m 4 #[.val (.ref a)] [(.long S0)])) (fun _ k => st21 _ k) ?_
  refine own_by (T' := T21) (g' := (mkF m 5 #[.val (.ref a)] [(.double (FP.l2d S0))])) (fun _ k => XS.l2dS X21.here hx rfl (hb hby d6_4) rfl rfl k) ?_
  refine own_by (T' := T21) (g' := (mkF m 6 #[.val (.ref a)] [(.ref a), (.double (FP.l2d S0))])) (fun _ k => XS.aloadN X21.here hx rfl (hb hby d6_5) rfl rfl k) ?_
  obtain ⟨T22, X22, e22, st22⟩ := getF X21 hx hZ hown (host := "") (Or.inl (hw _ (List.mem_of_getElem? (i := 34) rfl))) Via.refl e21 F_lengths_a (g := (mkF m 6 #[.val (.ref a)] [(.ref a), (.double (FP.l2d S0))])) rfl rfl (hb hby d6_6)
  refine own_by (T' := T22) (g' := (mkF m 9 #[.val (.ref a)] [(.ref ar), (.double (FP.l2d S0))])) (fun _ k => st22 _ k) ?_
  obtain ⟨cl23, Ar23, q23, S23, N_23, H23, G23⟩ := id V_ar
  refine own_by (T' := T22) (g' := (mkF m 10 #[.val (.ref a)] [(.int (3 : Int32)), (.double (FP.l2d S0))])) (fun _ k => X22.arraylength hx (by rw [e22]; exact Ar23.1) (State.isArrayOf_alike hZ.alike Ar23.2.1) (g := (mkF m 9 #[.val (.ref a)] [(.ref ar), (.double (FP.l2d S0))])) rfl rfl (hb hby d6_9) _ (by rw [len_of S23 N_23]; exact k)) ?_
  refine own_by (T' := T22) (g' := (mkF m 11 #[.val (.ref a)] [(.double (FP.i2d (3 : Int32))), (.double (FP.l2d S0))])) (fun _ k => XS.i2dS X22.here hx rfl (hb hby d6_10) rfl rfl k) ?_
  refine own_by (T' := T22) (g' := (mkF m 12 #[.val (.ref a)] [(.double (FP.ddiv (FP.l2d S0) (FP.i2d (3 : Int32))))])) (fun _ k => XS.ddivS X22.here hx rfl (hb hby d6_11) rfl (own_nn _ (3 : Int32) (by decide)) rfl k) ?_
  refine own_ret X22 hlk (v := some (.double (FP.ddiv (FP.l2d S0) (FP.i2d (3 : Int32))))) (fun h => by rw [Bd.returns] at h; cases h) (fun fs hr => retOut X22 hx Bd.returns rfl (Or.inr (Or.inr (Or.inl ⟨rfl, rfl, _, rfl⟩))) (hb hby d6_12) hr) ?_ (by decide) (by decide)
  rw [e22]
  exact ⟨rfl, N0, rfl⟩
theorem ef_fi_4 (m : MethodId) (a : Addr) (ar : Addr) (ls : Addr) : entryFrame m #[(.ref a), (.ref ar), (.ref ls)] 9 = mkF m 0 #[.val (.ref a), .val (.ref ar), .val (.ref ls), .unset, .unset, .unset, .unset, .unset, .unset] [] := by first | (simp [entryFrame, mkF, argsToLocals, Value.category]; done) | rfl
def Q_fi_4 (Z : State) (a : Addr) (ar : Addr) (ls : Addr) (kk : ClassId) (el0 : Int32) (el1 : Int32) (el2 : Int32) (el3 : Int32) (h0 : Heap) (n0 : Nat) (v : Option Value) (h : Heap) (L : List Loc) : Prop := v = none ∧ Fr n0 L ∧ Keep h0 h [a] ∧ Fld Z h a "com/example/postings/postings/index/FieldIndex" "lengths" "[I" (.ref ar) ∧ Fld Z h a "com/example/postings/postings/index/FieldIndex" "totalLength" "J" (.long (((((0 : Int64) + (el0.toInt64)) + (el1.toInt64)) + (el2.toInt64)) + (el3.toInt64)))
set_option maxRecDepth 65536 in
set_option maxHeartbeats 40000000 in
theorem fi_4 (l : Launch) (Z : State) (a0 : Array Value) (hw : ∀ d ∈ tables_1, d.before a0 Z = true) (ws : List Jvm.Cond) (a : Addr) (ar : Addr) (ls : Addr) (kk : ClassId) (el0 : Int32) (el1 : Int32) (el2 : Int32) (el3 : Int32) (h0 : Heap) (n0 : Nat) (Z0 : n0 ≤ h0.size) (E_a : Exa Z h0 a "com/example/postings/postings/index/FieldIndex") (F_lengths_a : Fld Z h0 a "com/example/postings/postings/index/FieldIndex" "lengths" "[I" .null) (F_totalLength_a : Fld Z h0 a "com/example/postings/postings/index/FieldIndex" "totalLength" "J" (.long (0 : Int64))) (F_segments_a : Fld Z h0 a "com/example/postings/postings/index/FieldIndex" "segments" "Ljava/util/List;" .null) (g_a : n0 ≤ a) (V_ar : Arv Z h0 ar kk .int (4 : Int32) [(.int el0), (.int el1), (.int el2), (.int el3)] (.int (0 : Int32))) (near : a ≠ ar) :
    MetFree l (⟨"com/example/postings/postings/index/FieldIndex", "<init>", "([ILjava/util/List;)V"⟩ : MethodName) (head1 (Jvm.Cond.code (⟨"com/example/postings/postings/index/FieldIndex", "<init>", "([ILjava/util/List;)V"⟩ : MethodName) prog_14_method_1_code 9 none :: ws) ({ frames := 1, cells := 0, slots := 0, locals := 12 } : Room)) (fun zz UU => zz = #[(.ref a), (.ref ar), (.ref ls)] ∧ Z.Warmed39 UU.vm ∧ UU.heap = h0) (fun _ _ _ _ _ => True) (fun _ U o U' => ∃ v L, o = .returned v ∧ Q_fi_4 Z a ar ls kk el0 el1 el2 el3 h0 n0 v U'.heap L ∧ FrameEnd U o U' L ({ frames := 1, cells := 0, slots := 0, locals := 12 } : Room).cells ({ frames := 1, cells := 0, slots := 0, locals := 12 } : Room).slots) := by
  refine MetFree.of_bodySF (plainFor_of_name pn_5) hisR ?_
  intro p e s m args below meth c s₁ Bd hml0 hP hK
  obtain ⟨rfl, hZ, hh⟩ := hP
  have hx := Bd.exec
  have hby := Bd.bytes
  have hml : c.maxLocals = 9 := hml0
  have hown : s.vm.findClass "com/example/postings/postings/index/FieldIndex" = some m.cls := findClass_of_methodNamed Bd.named
  have hnm := (name_of_methodNamed Bd.named Bd.method).1
  have hlk : meth.locks = false := BodyLoose.notSynchronized Bd
  have X0 : Stand p l e ({ frames := 1, cells := 0, slots := 0, locals := 12 } : Room) s m #[(.ref a), (.ref ar), (.ref ls)] below meth c s₁ [] 0 0 := Stand.of_body Bd
  have e0 : s₁.heap = h0 := by rw [← hh, Bd.state]; rfl
  have N0 := Fr.nil n0
  show own_Go p.tables e below (Q_fi_4 Z a ar ls kk el0 el1 el2 el3 h0 n0) s ({ frames := 1, cells := 0, slots := 0, locals := 12 } : Room).cells ({ frames := 1, cells := 0, slots := 0, locals := 12 } : Room).slots s₁ (entryFrame m #[(.ref a), (.ref ar), (.ref ls)] 9)
  rw [ef_fi_4 m a ar ls]
  refine own_by (T' := s₁) (g' := (mkF m 1 #[.val (.ref a), .val (.ref ar), .val (.ref ls), .unset, .unset, .unset, .unset, .unset, .unset] [(.ref a)])) (fun _ k => XS.aloadN X0.here hx rfl (hb hby d5_0) rfl rfl k) ?_
  obtain ⟨T21, X21, e21, st21⟩ := initO X0 hx hZ hown (hw _ (List.mem_of_getElem? (i := 33) rfl)) (hw _ (List.mem_of_getElem? (i := 23) rfl)) (hw _ (List.mem_of_getElem? (i := 24) rfl)) e0 (g := (mkF m 1 #[.val (.ref a), .val (.ref ar), .val (.ref ls), .unset, .unset, .unset, .unset, .unset, .unset] [(.ref a)])) rfl (by rw [hml]; rfl) rfl (hb hby d5_1) (by decide) (W := 0) (by show 2 * 0 + _ ≤ _; exact Nat.le_of_eq rfl) (by decide)
  refine own_by (T' := T21) (g' := (mkF m 4 #[.val (.ref a), .val (.ref ar), .val (.ref ls), .unset, .unset, .unset, .unset, .unset, .unset] [])) (fun _ k => st21 _ k) ?_
  refine own_by (T' := T21) (g' := (mkF m 5 #[.val (.ref a), .val (.ref ar), .val (.ref ls), .unset, .unset, .unset, .unset, .unset, .unset] [(.ref a)])) (fun _ k => XS.aloadN X21.here hx rfl (hb hby d5_4) rfl rfl k) ?_
  refine own_by (T' := T21) (g' := (mkF m 6 #[.val (.ref a), .val (.ref ar), .val (.ref ls), .unset, .unset, .unset, .unset, .unset, .unset] [(.ref ar), (.ref a)])) (fun _ k => XS.aloadN X21.here hx rfl (hb hby d5_5) rfl rfl k) ?_
  obtain ⟨T22, h22, X22, e22, W22, st22⟩ := putF X21 hx hZ hown (host := "") (Or.inl (hw _ (List.mem_of_getElem? (i := 34) rfl))) Via.refl e21 F_lengths_a E_a (Or.inr ⟨(hw _ (List.mem_of_getElem? (i := 35) rfl)), rfl, hnm⟩) (hw _ (List.mem_of_getElem? (i := 2) rfl)) (ty := (.array .int)) (by decide) rfl rfl (g := (mkF m 6 #[.val (.ref a), .val (.ref ar), .val (.ref ls), .unset, .unset, .unset, .unset, .unset, .unset] [(.ref ar), (.ref a)])) rfl rfl (hb hby d5_6)
  have Fw22 : Fld Z h22 a "com/example/postings/postings/index/FieldIndex" "lengths" "[I" (.ref ar) := Fld.same W22 F_lengths_a
  have K22 : Keep h0 h22 [a] := Keep.wr (Keep.refl h0 [a]) W22 (Or.inl (List.mem_of_getElem? (i := 0) rfl))
  have N22 := Fr.snoc X22 N0 g_a
  refine own_by (T' := T22) (g' := (mkF m 9 #[.val (.ref a), .val (.ref ar), .val (.ref ls), .unset, .unset, .unset, .unset, .unset, .unset] [])) (fun _ k => st22 _ k) ?_
  refine own_by (T' := T22) (g' := (mkF m 10 #[.val (.ref a), .val (.ref ar), .val (.ref ls), .unset, .unset, .unset, .unset, .unset, .unset] [(.long (0 : Int64))])) (fun _ k => XS.lconst X22.here hx rfl (hb hby d5_9) k) ?_
  refine own_by (T' := T22) (g' := (mkF m 11 #[.val (.ref a), .val (.ref ar), .val (.ref ls), .val (.long (0 : Int64)), .second, .unset, .unset, .unset, .unset] [])) (fun _ k => XS.lstoreN X22.here hx rfl (hb hby d5_10) rfl (l' := #[.val (.ref a), .val (.ref ar), .val (.ref ls), .val (.long (0 : Int64)), .second, .unset, .unset, .unset, .unset]) rfl k) ?_
  refine own_by (T' := T22) (g' := (mkF m 12 #[.val (.ref a), .val (.ref ar), .val (.ref ls), .val (.long (0 : Int64)), .second, .unset, .unset, .unset, .unset] [(.ref ar)])) (fun _ k => XS.aloadN X22.here hx rfl (hb hby d5_11) rfl rfl k) ?_
  refine own_by (T' := T22) (g' := (mkF m 14 #[.val (.ref a), .val (.ref ar), .val (.ref ls), .val (.long (0 : Int64)), .second, .val (.ref ar), .unset, .unset, .unset] [])) (fun _ k => XS.astore X22.here hx rfl (hb hby d5_12) rfl rfl (l' := #[.val (.ref a), .val (.ref ar), .val (.ref ls), .val (.long (0 : Int64)), .second, .val (.ref ar), .unset, .unset, .unset]) rfl k) ?_
  refine own_by (T' := T22) (g' := (mkF m 16 #[.val (.ref a), .val (.ref ar), .val (.ref ls), .val (.long (0 : Int64)), .second, .val (.ref ar), .unset, .unset, .unset] [(.ref ar)])) (fun _ k => XS.aload X22.here hx rfl (hb hby d5_14) rfl rfl k) ?_
  obtain ⟨cl23, Ar23, q23, S23, N_23, H23, G23⟩ := id (Arv.other V_ar W22 (Ne.symm near))
  refine own_by (T' := T22) (g' := (mkF m 17 #[.val (.ref a), .val (.ref ar), .val (.ref ls), .val (.long (0 : Int64)), .second, .val (.ref ar), .unset, .unset, .unset] [(.int (4 : Int32))])) (fun _ k => X22.arraylength hx (by rw [e22]; exact Ar23.1) (State.isArrayOf_alike hZ.alike Ar23.2.1) (g := (mkF m 16 #[.val (.ref a), .val (.ref ar), .val (.ref ls), .val (.long (0 : Int64)), .second, .val (.ref ar), .unset, .unset, .unset] [(.ref ar)])) rfl rfl (hb hby d5_16) _ (by rw [len_of S23 N_23]; exact k)) ?_
  refine own_by (T' := T22) (g' := (mkF m 19 #[.val (.ref a), .val (.ref ar), .val (.ref ls), .val (.long (0 : Int64)), .second, .val (.ref ar), .val (.int (4 : Int32)), .unset, .unset] [])) (fun _ k => XS.istore X22.here hx rfl (hb hby d5_17) rfl (l' := #[.val (.ref a), .val (.ref ar), .val (.ref ls), .val (.long (0 : Int64)), .second, .val (.ref ar), .val (.int (4 : Int32)), .unset, .unset]) rfl k) ?_
  refine own_by (T' := T22) (g' := (mkF m 20 #[.val (.ref a), .val (.ref ar), .val (.ref ls), .val (.long (0 : Int64)), .second, .val (.ref ar), .val (.int (4 : Int32)), .unset, .unset] [(.int (0 : Int32))])) (fun _ k => XS.iconst X22.here hx rfl (hb hby d5_19) k) ?_
  refine own_by (T' := T22) (g' := (mkF m 22 #[.val (.ref a), .val (.ref ar), .val (.ref ls), .val (.long (0 : Int64)), .second, .val (.ref ar), .val (.int (4 : Int32)), .val (.int (0 : Int32)), .unset] [])) (fun _ k => XS.istore X22.here hx rfl (hb hby d5_20) rfl (l' := #[.val (.ref a), .val (.ref ar), .val (.ref ls), .val (.long (0 : Int64)), .second, .val (.ref ar), .val (.int (4 : Int32)), .val (.int (0 : Int32)), .unset]) rfl k) ?_
  refine own_by (T' := T22) (g' := (mkF m 24 #[.val (.ref a), .val (.ref ar), .val (.ref ls), .val (.long (0 : Int64)), .second, .val (.ref ar), .val (.int (4 : Int32)), .val (.int (0 : Int32)), .unset] [(.int (0 : Int32))])) (fun _ k => XS.iload X22.here hx rfl (hb hby d5_22) rfl k) ?_
  refine own_by (T' := T22) (g' := (mkF m 26 #[.val (.ref a), .val (.ref ar), .val (.ref ls), .val (.long (0 : Int64)), .second, .val (.ref ar), .val (.int (4 : Int32)), .val (.int (0 : Int32)), .unset] [(.int (4 : Int32)), (.int (0 : Int32))])) (fun _ k => XS.iload X22.here hx rfl (hb hby d5_24) rfl k) ?_
  refine own_by (T' := T22) (g' := (mkF m 29 #[.val (.ref a), .val (.ref ar), .val (.ref ls), .val (.long (0 : Int64)), .second, .val (.ref ar), .val (.int (4 : Int32)), .val (.int (0 : Int32)), .unset] [])) (fun _ k => XS.icmpNo X22.here hx rfl (hb hby d5_26) rfl (tlt (by decide)).2.1 k) ?_
  refine own_by (T' := T22) (g' := (mkF m 31 #[.val (.ref a), .val (.ref ar), .val (.ref ls), .val (.long (0 : Int64)), .second, .val (.ref ar), .val (.int (4 : Int32)), .val (.int (0 : Int32)), .unset] [(.ref ar)])) (fun _ k => XS.aload X22.here hx rfl (hb hby d5_29) rfl rfl k) ?_
  refine own_by (T' := T22) (g' := (mkF m 33 #[.val (.ref a), .val (.ref ar), .val (.ref ls), .val (.long (0 : Int64)), .second, .val (.ref ar), .val (.int (4 : Int32)), .val (.int (0 : Int32)), .unset] [(.int (0 : Int32)), (.ref ar)])) (fun _ k => XS.iload X22.here hx rfl (hb hby d5_31) rfl k) ?_
  obtain ⟨cl24, Ar24, q24, S24, N_24, H24, G24⟩ := id (Arv.other V_ar W22 (Ne.symm near))
  have hin24 : ¬ ((0 : Int32) < 0 ∨ cl24.slots.size ≤ ((0 : Int32)).toNatClampNeg) := inb_of S24 ⟨by decide, by decide⟩
  refine own_by (T' := T22) (g' := (mkF m 34 #[.val (.ref a), .val (.ref ar), .val (.ref ls), .val (.long (0 : Int64)), .second, .val (.ref ar), .val (.int (4 : Int32)), .val (.int (0 : Int32)), .unset] [(.int el0)])) (fun _ k => X22.iaload hx (j := (0 : Int32)) (v := (.int el0)) (by rw [e22]; exact Ar24.1) (State.isArrayOf_alike hZ.alike Ar24.2.1) Ar24.2.2 hin24 (Has.at H24 hin24 rfl) (g := (mkF m 33 #[.val (.ref a), .val (.ref ar), .val (.ref ls), .val (.long (0 : Int64)), .second, .val (.ref ar), .val (.int (4 : Int32)), .val (.int (0 : Int32)), .unset] [(.int (0 : Int32)), (.ref ar)])) rfl rfl (hb hby d5_33) _ k) ?_
  refine own_by (T' := T22) (g' := (mkF m 36 #[.val (.ref a), .val (.ref ar), .val (.ref ls), .val (.long (0 : Int64)), .second, .val (.ref ar), .val (.int (4 : Int32)), .val (.int (0 : Int32)), .val (.int el0)] [])) (fun _ k => XS.istore X22.here hx rfl (hb hby d5_34) rfl (l' := #[.val (.ref a), .val (.ref ar), .val (.ref ls), .val (.long (0 : Int64)), .second, .val (.ref ar), .val (.int (4 : Int32)), .val (.int (0 : Int32)), .val (.int el0)]) rfl k) ?_
  refine own_by (T' := T22) (g' := (mkF m 37 #[.val (.ref a), .val (.ref ar), .val (.ref ls), .val (.long (0 : Int64)), .second, .val (.ref ar), .val (.int (4 : Int32)), .val (.int (0 : Int32)), .val (.int el0)] [(.long (0 : Int64))])) (fun _ k => XS.lloadN X22.here hx rfl (hb hby d5_36) rfl k) ?_
  refine own_by (T' := T22) (g' := (mkF m 39 #[.val (.ref a), .val (.ref ar), .val (.ref ls), .val (.long (0 : Int64)), .second, .val (.ref ar), .val (.int (4 : Int32)), .val (.int (0 : Int32)), .val (.int el0)] [(.int el0), (.long (0 : Int64))])) (fun _ k => XS.iload X22.here hx rfl (hb hby d5_37) rfl k) ?_
  refine own_by (T' := T22) (g' := (mkF m 40 #[.val (.ref a), .val (.ref ar), .val (.ref ls), .val (.long (0 : Int64)), .second, .val (.ref ar), .val (.int (4 : Int32)), .val (.int (0 : Int32)), .val (.int el0)] [(.long (el0.toInt64)), (.long (0 : Int64))])) (fun _ k => XS.i2l X22.here hx rfl (hb hby d5_39) rfl k) ?_
  refine own_by (T' := T22) (g' := (mkF m 41 #[.val (.ref a), .val (.ref ar), .val (.ref ls), .val (.long (0 : Int64)), .second, .val (.ref ar), .val (.int (4 : Int32)), .val (.int (0 : Int32)), .val (.int el0)] [(.long ((0 : Int64) + (el0.toInt64)))])) (fun _ k => XS.ladd X22.here hx rfl (hb hby d5_40) rfl k) ?_
  refine own_by (T' := T22) (g' := (mkF m 42 #[.val (.ref a), .val (.ref ar), .val (.ref ls), .val (.long ((0 : Int64) + (el0.toInt64))), .second, .val (.ref ar), .val (.int (4 : Int32)), .val (.int (0 : Int32)), .val (.int el0)] [])) (fun _ k => XS.lstoreN X22.here hx rfl (hb hby d5_41) rfl (l' := #[.val (.ref a), .val (.ref ar), .val (.ref ls), .val (.long ((0 : Int64) + (el0.toInt64))), .second, .val (.ref ar), .val (.int (4 : Int32)), .val (.int (0 : Int32)), .val (.int el0)]) rfl k) ?_
  refine own_by (T' := T22) (g' := (mkF m 45 #[.val (.ref a), .val (.ref ar), .val (.ref ls), .val (.long ((0 : Int64) + (el0.toInt64))), .second, .val (.ref ar), .val (.int (4 : Int32)), .val (.int (1 : Int32)), .val (.int el0)] [])) (fun _ k => XS.iinc X22.here hx rfl (hb hby d5_42) rfl (l' := #[.val (.ref a), .val (.ref ar), .val (.ref ls), .val (.long ((0 : Int64) + (el0.toInt64))), .second, .val (.ref ar), .val (.int (4 : Int32)), .val (.int (1 : Int32)), .val (.int el0)]) rfl k) ?_
  refine own_by (T' := T22) (g' := (mkF m 22 #[.val (.ref a), .val (.ref ar), .val (.ref ls), .val (.long ((0 : Int64) + (el0.toInt64))), .second, .val (.ref ar), .val (.int (4 : Int32)), .val (.int (1 : Int32)), .val (.int el0)] [])) (fun _ k => XS.goto X22.here hx rfl (pc0 := 45) (pc' := 22) rfl (hb hby d5_45) (by decide) (by decide) k) ?_
  refine own_by (T' := T22) (g' := (mkF m 24 #[.val (.ref a), .val (.ref ar), .val (.ref ls), .val (.long ((0 : Int64) + (el0.toInt64))), .second, .val (.ref ar), .val (.int (4 : Int32)), .val (.int (1 : Int32)), .val (.int el0)] [(.int (1 : Int32))])) (fun _ k => XS.iload X22.here hx rfl (hb hby d5_22) rfl k) ?_
  refine own_by (T' := T22) (g' := (mkF m 26 #[.val (.ref a), .val (.ref ar), .val (.ref ls), .val (.long ((0 : Int64) + (el0.toInt64))), .second, .val (.ref ar), .val (.int (4 : Int32)), .val (.int (1 : Int32)), .val (.int el0)] [(.int (4 : Int32)), (.int (1 : Int32))])) (fun _ k => XS.iload X22.here hx rfl (hb hby d5_24) rfl k) ?_
  refine own_by (T' := T22) (g' := (mkF m 29 #[.val (.ref a), .val (.ref ar), .val (.ref ls), .val (.long ((0 : Int64) + (el0.toInt64))), .second, .val (.ref ar), .val (.int (4 : Int32)), .val (.int (1 : Int32)), .val (.int el0)] [])) (fun _ k => XS.icmpNo X22.here hx rfl (hb hby d5_26) rfl (tlt (by decide)).2.1 k) ?_
  refine own_by (T' := T22) (g' := (mkF m 31 #[.val (.ref a), .val (.ref ar), .val (.ref ls), .val (.long ((0 : Int64) + (el0.toInt64))), .second, .val (.ref ar), .val (.int (4 : Int32)), .val (.int (1 : Int32)), .val (.int el0)] [(.ref ar)])) (fun _ k => XS.aload X22.here hx rfl (hb hby d5_29) rfl rfl k) ?_
  refine own_by (T' := T22) (g' := (mkF m 33 #[.val (.ref a), .val (.ref ar), .val (.ref ls), .val (.long ((0 : Int64) + (el0.toInt64))), .second, .val (.ref ar), .val (.int (4 : Int32)), .val (.int (1 : Int32)), .val (.int el0)] [(.int (1 : Int32)), (.ref ar)])) (fun _ k => XS.iload X22.here hx rfl (hb hby d5_31) rfl k) ?_
  obtain ⟨cl25, Ar25, q25, S25, N_25, H25, G25⟩ := id (Arv.other V_ar W22 (Ne.symm near))
  have hin25 : ¬ ((1 : Int32) < 0 ∨ cl25.slots.size ≤ ((1 : Int32)).toNatClampNeg) := inb_of S25 ⟨by decide, by decide⟩
  refine own_by (T' := T22) (g' := (mkF m 34 #[.val (.ref a), .val (.ref ar), .val (.ref ls), .val (.long ((0 : Int64) + (el0.toInt64))), .second, .val (.ref ar), .val (.int (4 : Int32)), .val (.int (1 : Int32)), .val (.int el0)] [(.int el1)])) (fun _ k => X22.iaload hx (j := (1 : Int32)) (v := (.int el1)) (by rw [e22]; exact Ar25.1) (State.isArrayOf_alike hZ.alike Ar25.2.1) Ar25.2.2 hin25 (Has.at H25 hin25 rfl) (g := (mkF m 33 #[.val (.ref a), .val (.ref ar), .val (.ref ls), .val (.long ((0 : Int64) + (el0.toInt64))), .second, .val (.ref ar), .val (.int (4 : Int32)), .val (.int (1 : Int32)), .val (.int el0)] [(.int (1 : Int32)), (.ref ar)])) rfl rfl (hb hby d5_33) _ k) ?_
  refine own_by (T' := T22) (g' := (mkF m 36 #[.val (.ref a), .val (.ref ar), .val (.ref ls), .val (.long ((0 : Int64) + (el0.toInt64))), .second, .val (.ref ar), .val (.int (4 : Int32)), .val (.int (1 : Int32)), .val (.int el1)] [])) (fun _ k => XS.istore X22.here hx rfl (hb hby d5_34) rfl (l' := #[.val (.ref a), .val (.ref ar), .val (.ref ls), .val (.long ((0 : Int64) + (el0.toInt64))), .second, .val (.ref ar), .val (.int (4 : Int32)), .val (.int (1 : Int32)), .val (.int el1)]) rfl k) ?_
  refine own_by (T' := T22) (g' := (mkF m 37 #[.val (.ref a), .val (.ref ar), .val (.ref ls), .val (.long ((0 : Int64) + (el0.toInt64))), .second, .val (.ref ar), .val (.int (4 : Int32)), .val (.int (1 : Int32)), .val (.int el1)] [(.long ((0 : Int64) + (el0.toInt64)))])) (fun _ k => XS.lloadN X22.here hx rfl (hb hby d5_36) rfl k) ?_
  refine own_by (T' := T22) (g' := (mkF m 39 #[.val (.ref a), .val (.ref ar), .val (.ref ls), .val (.long ((0 : Int64) + (el0.toInt64))), .second, .val (.ref ar), .val (.int (4 : Int32)), .val (.int (1 : Int32)), .val (.int el1)] [(.int el1), (.long ((0 : Int64) + (el0.toInt64)))])) (fun _ k => XS.iload X22.here hx rfl (hb hby d5_37) rfl k) ?_
  refine own_by (T' := T22) (g' := (mkF m 40 #[.val (.ref a), .val (.ref ar), .val (.ref ls), .val (.long ((0 : Int64) + (el0.toInt64))), .second, .val (.ref ar), .val (.int (4 : Int32)), .val (.int (1 : Int32)), .val (.int el1)] [(.long (el1.toInt64)), (.long ((0 : Int64) + (el0.toInt64)))])) (fun _ k => XS.i2l X22.here hx rfl (hb hby d5_39) rfl k) ?_
  refine own_by (T' := T22) (g' := (mkF m 41 #[.val (.ref a), .val (.ref ar), .val (.ref ls), .val (.long ((0 : Int64) + (el0.toInt64))), .second, .val (.ref ar), .val (.int (4 : Int32)), .val (.int (1 : Int32)), .val (.int el1)] [(.long (((0 : Int64) + (el0.toInt64)) + (el1.toInt64)))])) (fun _ k => XS.ladd X22.here hx rfl (hb hby d5_40) rfl k) ?_
  refine own_by (T' := T22) (g' := (mkF m 42 #[.val (.ref a), .val (.ref ar), .val (.ref ls), .val (.long (((0 : Int64) + (el0.toInt64)) + (el1.toInt64))), .second, .val (.ref ar), .val (.int (4 : Int32)), .val (.int (1 : Int32)), .val (.int el1)] [])) (fun _ k => XS.lstoreN X22.here hx rfl (hb hby d5_41) rfl (l' := #[.val (.ref a), .val (.ref ar), .val (.ref ls), .val (.long (((0 : Int64) + (el0.toInt64)) + (el1.toInt64))), .second, .val (.ref ar), .val (.int (4 : Int32)), .val (.int (1 : Int32)), .val (.int el1)]) rfl k) ?_
  refine own_by (T' := T22) (g' := (mkF m 45 #[.val (.ref a), .val (.ref ar), .val (.ref ls), .val (.long (((0 : Int64) + (el0.toInt64)) + (el1.toInt64))), .second, .val (.ref ar), .val (.int (4 : Int32)), .val (.int (2 : Int32)), .val (.int el1)] [])) (fun _ k => XS.iinc X22.here hx rfl (hb hby d5_42) rfl (l' := #[.val (.ref a), .val (.ref ar), .val (.ref ls), .val (.long (((0 : Int64) + (el0.toInt64)) + (el1.toInt64))), .second, .val (.ref ar), .val (.int (4 : Int32)), .val (.int (2 : Int32)), .val (.int el1)]) rfl k) ?_
  refine own_by (T' := T22) (g' := (mkF m 22 #[.val (.ref a), .val (.ref ar), .val (.ref ls), .val (.long (((0 : Int64) + (el0.toInt64)) + (el1.toInt64))), .second, .val (.ref ar), .val (.int (4 : Int32)), .val (.int (2 : Int32)), .val (.int el1)] [])) (fun _ k => XS.goto X22.here hx rfl (pc0 := 45) (pc' := 22) rfl (hb hby d5_45) (by decide) (by decide) k) ?_
  refine own_by (T' := T22) (g' := (mkF m 24 #[.val (.ref a), .val (.ref ar), .val (.ref ls), .val (.long (((0 : Int64) + (el0.toInt64)) + (el1.toInt64))), .second, .val (.ref ar), .val (.int (4 : Int32)), .val (.int (2 : Int32)), .val (.int el1)] [(.int (2 : Int32))])) (fun _ k => XS.iload X22.here hx rfl (hb hby d5_22) rfl k) ?_
  refine own_by (T' := T22) (g' := (mkF m 26 #[.val (.ref a), .val (.ref ar), .val (.ref ls), .val (.long (((0 : Int64) + (el0.toInt64)) + (el1.toInt64))), .second, .val (.ref ar), .val (.int (4 : Int32)), .val (.int (2 : Int32)), .val (.int el1)] [(.int (4 : Int32)), (.int (2 : Int32))])) (fun _ k => XS.iload X22.here hx rfl (hb hby d5_24) rfl k) ?_
  refine own_by (T' := T22) (g' := (mkF m 29 #[.val (.ref a), .val (.ref ar), .val (.ref ls), .val (.long (((0 : Int64) + (el0.toInt64)) + (el1.toInt64))), .second, .val (.ref ar), .val (.int (4 : Int32)), .val (.int (2 : Int32)), .val (.int el1)] [])) (fun _ k => XS.icmpNo X22.here hx rfl (hb hby d5_26) rfl (tlt (by decide)).2.1 k) ?_
  refine own_by (T' := T22) (g' := (mkF m 31 #[.val (.ref a), .val (.ref ar), .val (.ref ls), .val (.long (((0 : Int64) + (el0.toInt64)) + (el1.toInt64))), .second, .val (.ref ar), .val (.int (4 : Int32)), .val (.int (2 : Int32)), .val (.int el1)] [(.ref ar)])) (fun _ k => XS.aload X22.here hx rfl (hb hby d5_29) rfl rfl k) ?_
  refine own_by (T' := T22) (g' := (mkF m 33 #[.val (.ref a), .val (.ref ar), .val (.ref ls), .val (.long (((0 : Int64) + (el0.toInt64)) + (el1.toInt64))), .second, .val (.ref ar), .val (.int (4 : Int32)), .val (.int (2 : Int32)), .val (.int el1)] [(.int (2 : Int32)), (.ref ar)])) (fun _ k => XS.iload X22.here hx rfl (hb hby d5_31) rfl k) ?_
  obtain ⟨cl26, Ar26, q26, S26, N_26, H26, G26⟩ := id (Arv.other V_ar W22 (Ne.symm near))
  have hin26 : ¬ ((2 : Int32) < 0 ∨ cl26.slots.size ≤ ((2 : Int32)).toNatClampNeg) := inb_of S26 ⟨by decide, by decide⟩
  refine own_by (T' := T22) (g' := (mkF m 34 #[.val (.ref a), .val (.ref ar), .val (.ref ls), .val (.long (((0 : Int64) + (el0.toInt64)) + (el1.toInt64))), .second, .val (.ref ar), .val (.int (4 : Int32)), .val (.int (2 : Int32)), .val (.int el1)] [(.int el2)])) (fun _ k => X22.iaload hx (j := (2 : Int32)) (v := (.int el2)) (by rw [e22]; exact Ar26.1) (State.isArrayOf_alike hZ.alike Ar26.2.1) Ar26.2.2 hin26 (Has.at H26 hin26 rfl) (g := (mkF m 33 #[.val (.ref a), .val (.ref ar), .val (.ref ls), .val (.long (((0 : Int64) + (el0.toInt64)) + (el1.toInt64))), .second, .val (.ref ar), .val (.int (4 : Int32)), .val (.int (2 : Int32)), .val (.int el1)] [(.int (2 : Int32)), (.ref ar)])) rfl rfl (hb hby d5_33) _ k) ?_
  refine own_by (T' := T22) (g' := (mkF m 36 #[.val (.ref a), .val (.ref ar), .val (.ref ls), .val (.long (((0 : Int64) + (el0.toInt64)) + (el1.toInt64))), .second, .val (.ref ar), .val (.int (4 : Int32)), .val (.int (2 : Int32)), .val (.int el2)] [])) (fun _ k => XS.istore X22.here hx rfl (hb hby d5_34) rfl (l' := #[.val (.ref a), .val (.ref ar), .val (.ref ls), .val (.long (((0 : Int64) + (el0.toInt64)) + (el1.toInt64))), .second, .val (.ref ar), .val (.int (4 : Int32)), .val (.int (2 : Int32)), .val (.int el2)]) rfl k) ?_
  refine own_by (T' := T22) (g' := (mkF m 37 #[.val (.ref a), .val (.ref ar), .val (.ref ls), .val (.long (((0 : Int64) + (el0.toInt64)) + (el1.toInt64))), .second, .val (.ref ar), .val (.int (4 : Int32)), .val (.int (2 : Int32)), .val (.int el2)] [(.long (((0 : Int64) + (el0.toInt64)) + (el1.toInt64)))])) (fun _ k => XS.lloadN X22.here hx rfl (hb hby d5_36) rfl k) ?_
  refine own_by (T' := T22) (g' := (mkF m 39 #[.val (.ref a), .val (.ref ar), .val (.ref ls), .val (.long (((0 : Int64) + (el0.toInt64)) + (el1.toInt64))), .second, .val (.ref ar), .val (.int (4 : Int32)), .val (.int (2 : Int32)), .val (.int el2)] [(.int el2), (.long (((0 : Int64) + (el0.toInt64)) + (el1.toInt64)))])) (fun _ k => XS.iload X22.here hx rfl (hb hby d5_37) rfl k) ?_
  refine own_by (T' := T22) (g' := (mkF m 40 #[.val (.ref a), .val (.ref ar), .val (.ref ls), .val (.long (((0 : Int64) + (el0.toInt64)) + (el1.toInt64))), .second, .val (.ref ar), .val (.int (4 : Int32)), .val (.int (2 : Int32)), .val (.int el2)] [(.long (el2.toInt64)), (.long (((0 : Int64) + (el0.toInt64)) + (el1.toInt64)))])) (fun _ k => XS.i2l X22.here hx rfl (hb hby d5_39) rfl k) ?_
  refine own_by (T' := T22) (g' := (mkF m 41 #[.val (.ref a), .val (.ref ar), .val (.ref ls), .val (.long (((0 : Int64) + (el0.toInt64)) + (el1.toInt64))), .second, .val (.ref ar), .val (.int (4 : Int32)), .val (.int (2 : Int32)), .val (.int el2)] [(.long ((((0 : Int64) + (el0.toInt64)) + (el1.toInt64)) + (el2.toInt64)))])) (fun _ k => XS.ladd X22.here hx rfl (hb hby d5_40) rfl k) ?_
  refine own_by (T' := T22) (g' := (mkF m 42 #[.val (.ref a), .val (.ref ar), .val (.ref ls), .val (.long ((((0 : Int64) + (el0.toInt64)) + (el1.toInt64)) + (el2.toInt64))), .second, .val (.ref ar), .val (.int (4 : Int32)), .val (.int (2 : Int32)), .val (.int el2)] [])) (fun _ k => XS.lstoreN X22.here hx rfl (hb hby d5_41) rfl (l' := #[.val (.ref a), .val (.ref ar), .val (.ref ls), .val (.long ((((0 : Int64) + (el0.toInt64)) + (el1.toInt64)) + (el2.toInt64))), .second, .val (.ref ar), .val (.int (4 : Int32)), .val (.int (2 : Int32)), .val (.int el2)]) rfl k) ?_
  refine own_by (T' := T22) (g' := (mkF m 45 #[.val (.ref a), .val (.ref ar), .val (.ref ls), .val (.long ((((0 : Int64) + (el0.toInt64)) + (el1.toInt64)) + (el2.toInt64))), .second, .val (.ref ar), .val (.int (4 : Int32)), .val (.int (3 : Int32)), .val (.int el2)] [])) (fun _ k => XS.iinc X22.here hx rfl (hb hby d5_42) rfl (l' := #[.val (.ref a), .val (.ref ar), .val (.ref ls), .val (.long ((((0 : Int64) + (el0.toInt64)) + (el1.toInt64)) + (el2.toInt64))), .second, .val (.ref ar), .val (.int (4 : Int32)), .val (.int (3 : Int32)), .val (.int el2)]) rfl k) ?_
  refine own_by (T' := T22) (g' := (mkF m 22 #[.val (.ref a), .val (.ref ar), .val (.ref ls), .val (.long ((((0 : Int64) + (el0.toInt64)) + (el1.toInt64)) + (el2.toInt64))), .second, .val (.ref ar), .val (.int (4 : Int32)), .val (.int (3 : Int32)), .val (.int el2)] [])) (fun _ k => XS.goto X22.here hx rfl (pc0 := 45) (pc' := 22) rfl (hb hby d5_45) (by decide) (by decide) k) ?_
  refine own_by (T' := T22) (g' := (mkF m 24 #[.val (.ref a), .val (.ref ar), .val (.ref ls), .val (.long ((((0 : Int64) + (el0.toInt64)) + (el1.toInt64)) + (el2.toInt64))), .second, .val (.ref ar), .val (.int (4 : Int32)), .val (.int (3 : Int32)), .val (.int el2)] [(.int (3 : Int32))])) (fun _ k => XS.iload X22.here hx rfl (hb hby d5_22) rfl k) ?_
  refine own_by (T' := T22) (g' := (mkF m 26 #[.val (.ref a), .val (.ref ar), .val (.ref ls), .val (.long ((((0 : Int64) + (el0.toInt64)) + (el1.toInt64)) + (el2.toInt64))), .second, .val (.ref ar), .val (.int (4 : Int32)), .val (.int (3 : Int32)), .val (.int el2)] [(.int (4 : Int32)), (.int (3 : Int32))])) (fun _ k => XS.iload X22.here hx rfl (hb hby d5_24) rfl k) ?_
  refine own_by (T' := T22) (g' := (mkF m 29 #[.val (.ref a), .val (.ref ar), .val (.ref ls), .val (.long ((((0 : Int64) + (el0.toInt64)) + (el1.toInt64)) + (el2.toInt64))), .second, .val (.ref ar), .val (.int (4 : Int32)), .val (.int (3 : Int32)), .val (.int el2)] [])) (fun _ k => XS.icmpNo X22.here hx rfl (hb hby d5_26) rfl (tlt (by decide)).2.1 k) ?_
  refine own_by (T' := T22) (g' := (mkF m 31 #[.val (.ref a), .val (.ref ar), .val (.ref ls), .val (.long ((((0 : Int64) + (el0.toInt64)) + (el1.toInt64)) + (el2.toInt64))), .second, .val (.ref ar), .val (.int (4 : Int32)), .val (.int (3 : Int32)), .val (.int el2)] [(.ref ar)])) (fun _ k => XS.aload X22.here hx rfl (hb hby d5_29) rfl rfl k) ?_
  refine own_by (T' := T22) (g' := (mkF m 33 #[.val (.ref a), .val (.ref ar), .val (.ref ls), .val (.long ((((0 : Int64) + (el0.toInt64)) + (el1.toInt64)) + (el2.toInt64))), .second, .val (.ref ar), .val (.int (4 : Int32)), .val (.int (3 : Int32)), .val (.int el2)] [(.int (3 : Int32)), (.ref ar)])) (fun _ k => XS.iload X22.here hx rfl (hb hby d5_31) rfl k) ?_
  obtain ⟨cl27, Ar27, q27, S27, N_27, H27, G27⟩ := id (Arv.other V_ar W22 (Ne.symm near))
  have hin27 : ¬ ((3 : Int32) < 0 ∨ cl27.slots.size ≤ ((3 : Int32)).toNatClampNeg) := inb_of S27 ⟨by decide, by decide⟩
  refine own_by (T' := T22) (g' := (mkF m 34 #[.val (.ref a), .val (.ref ar), .val (.ref ls), .val (.long ((((0 : Int64) + (el0.toInt64)) + (el1.toInt64)) + (el2.toInt64))), .second, .val (.ref ar), .val (.int (4 : Int32)), .val (.int (3 : Int32)), .val (.int el2)] [(.int el3)])) (fun _ k => X22.iaload hx (j := (3 : Int32)) (v := (.int el3)) (by rw [e22]; exact Ar27.1) (State.isArrayOf_alike hZ.alike Ar27.2.1) Ar27.2.2 hin27 (Has.at H27 hin27 rfl) (g := (mkF m 33 #[.val (.ref a), .val (.ref ar), .val (.ref ls), .val (.long ((((0 : Int64) + (el0.toInt64)) + (el1.toInt64)) + (el2.toInt64))), .second, .val (.ref ar), .val (.int (4 : Int32)), .val (.int (3 : Int32)), .val (.int el2)] [(.int (3 : Int32)), (.ref ar)])) rfl rfl (hb hby d5_33) _ k) ?_
  refine own_by (T' := T22) (g' := (mkF m 36 #[.val (.ref a), .val (.ref ar), .val (.ref ls), .val (.long ((((0 : Int64) + (el0.toInt64)) + (el1.toInt64)) + (el2.toInt64))), .second, .val (.ref ar), .val (.int (4 : Int32)), .val (.int (3 : Int32)), .val (.int el3)] [])) (fun _ k => XS.istore X22.here hx rfl (hb hby d5_34) rfl (l' := #[.val (.ref a), .val (.ref ar), .val (.ref ls), .val (.long ((((0 : Int64) + (el0.toInt64)) + (el1.toInt64)) + (el2.toInt64))), .second, .val (.ref ar), .val (.int (4 : Int32)), .val (.int (3 : Int32)), .val (.int el3)]) rfl k) ?_
  refine own_by (T' := T22) (g' := (mkF m 37 #[.val (.ref a), .val (.ref ar), .val (.ref ls), .val (.long ((((0 : Int64) + (el0.toInt64)) + (el1.toInt64)) + (el2.toInt64))), .second, .val (.ref ar), .val (.int (4 : Int32)), .val (.int (3 : Int32)), .val (.int el3)] [(.long ((((0 : Int64) + (el0.toInt64)) + (el1.toInt64)) + (el2.toInt64)))])) (fun _ k => XS.lloadN X22.here hx rfl (hb hby d5_36) rfl k) ?_
  refine own_by (T' := T22) (g' := (mkF m 39 #[.val (.ref a), .val (.ref ar), .val (.ref ls), .val (.long ((((0 : Int64) + (el0.toInt64)) + (el1.toInt64)) + (el2.toInt64))), .second, .val (.ref ar), .val (.int (4 : Int32)), .val (.int (3 : Int32)), .val (.int el3)] [(.int el3), (.long ((((0 : Int64) + (el0.toInt64)) + (el1.toInt64)) + (el2.toInt64)))])) (fun _ k => XS.iload X22.here hx rfl (hb hby d5_37) rfl k) ?_
  refine own_by (T' := T22) (g' := (mkF m 40 #[.val (.ref a), .val (.ref ar), .val (.ref ls), .val (.long ((((0 : Int64) + (el0.toInt64)) + (el1.toInt64)) + (el2.toInt64))), .second, .val (.ref ar), .val (.int (4 : Int32)), .val (.int (3 : Int32)), .val (.int el3)] [(.long (el3.toInt64)), (.long ((((0 : Int64) + (el0.toInt64)) + (el1.toInt64)) + (el2.toInt64)))])) (fun _ k => XS.i2l X22.here hx rfl (hb hby d5_39) rfl k) ?_
  refine own_by (T' := T22) (g' := (mkF m 41 #[.val (.ref a), .val (.ref ar), .val (.ref ls), .val (.long ((((0 : Int64) + (el0.toInt64)) + (el1.toInt64)) + (el2.toInt64))), .second, .val (.ref ar), .val (.int (4 : Int32)), .val (.int (3 : Int32)), .val (.int el3)] [(.long (((((0 : Int64) + (el0.toInt64)) + (el1.toInt64)) + (el2.toInt64)) + (el3.toInt64)))])) (fun _ k => XS.ladd X22.here hx rfl (hb hby d5_40) rfl k) ?_
  refine own_by (T' := T22) (g' := (mkF m 42 #[.val (.ref a), .val (.ref ar), .val (.ref ls), .val (.long (((((0 : Int64) + (el0.toInt64)) + (el1.toInt64)) + (el2.toInt64)) + (el3.toInt64))), .second, .val (.ref ar), .val (.int (4 : Int32)), .val (.int (3 : Int32)), .val (.int el3)] [])) (fun _ k => XS.lstoreN X22.here hx rfl (hb hby d5_41) rfl (l' := #[.val (.ref a), .val (.ref ar), .val (.ref ls), .val (.long (((((0 : Int64) + (el0.toInt64)) + (el1.toInt64)) + (el2.toInt64)) + (el3.toInt64))), .second, .val (.ref ar), .val (.int (4 : Int32)), .val (.int (3 : Int32)), .val (.int el3)]) rfl k) ?_
  refine own_by (T' := T22) (g' := (mkF m 45 #[.val (.ref a), .val (.ref ar), .val (.ref ls), .val (.long (((((0 : Int64) + (el0.toInt64)) + (el1.toInt64)) + (el2.toInt64)) + (el3.toInt64))), .second, .val (.ref ar), .val (.int (4 : Int32)), .val (.int (4 : Int32)), .val (.int el3)] [])) (fun _ k => XS.iinc X22.here hx rfl (hb hby d5_42) rfl (l' := #[.val (.ref a), .val (.ref ar), .val (.ref ls), .val (.long (((((0 : Int64) + (el0.toInt64)) + (el1.toInt64)) + (el2.toInt64)) + (el3.toInt64))), .second, .val (.ref ar), .val (.int (4 : Int32)), .val (.int (4 : Int32)), .val (.int el3)]) rfl k) ?_
  refine own_by (T' := T22) (g' := (mkF m 22 #[.val (.ref a), .val (.ref ar), .val (.ref ls), .val (.long (((((0 : Int64) + (el0.toInt64)) + (el1.toInt64)) + (el2.toInt64)) + (el3.toInt64))), .second, .val (.ref ar), .val (.int (4 : Int32)), .val (.int (4 : Int32)), .val (.int el3)] [])) (fun _ k => XS.goto X22.here hx rfl (pc0 := 45) (pc' := 22) rfl (hb hby d5_45) (by decide) (by decide) k) ?_
  refine own_by (T' := T22) (g' := (mkF m 24 #[.val (.ref a), .val (.ref ar), .val (.ref ls), .val (.long (((((0 : Int64) + (el0.toInt64)) + (el1.toInt64)) + (el2.toInt64)) + (el3.toInt64))), .second, .val (.ref ar), .val (.int (4 : Int32)), .val (.int (4 : Int32)), .val (.int el3)] [(.int (4 : Int32))])) (fun _ k => XS.iload X22.here hx rfl (hb hby d5_22) rfl k) ?_
  refine own_by (T' := T22) (g' := (mkF m 26 #[.val (.ref a), .val (.ref ar), .val (.ref ls), .val (.long (((((0 : Int64) + (el0.toInt64)) + (el1.toInt64)) + (el2.toInt64)) + (el3.toInt64))), .second, .val (.ref ar), .val (.int (4 : Int32)), .val (.int (4 : Int32)), .val (.int el3)] [(.int (4 : Int32)), (.int (4 : Int32))])) (fun _ k => XS.iload X22.here hx rfl (hb hby d5_24) rfl k) ?_
  refine own_by (T' := T22) (g' := (mkF m 48 #[.val (.ref a), .val (.ref ar), .val (.ref ls), .val (.long (((((0 : Int64) + (el0.toInt64)) + (el1.toInt64)) + (el2.toInt64)) + (el3.toInt64))), .second, .val (.ref ar), .val (.int (4 : Int32)), .val (.int (4 : Int32)), .val (.int el3)] [])) (fun _ k => XS.icmpYes X22.here hx rfl (pc0 := 26) (pc' := 48) rfl (hb hby d5_26) rfl (flt (by decide)).2.1 (by decide) (by decide) k) ?_
  refine own_by (T' := T22) (g' := (mkF m 49 #[.val (.ref a), .val (.ref ar), .val (.ref ls), .val (.long (((((0 : Int64) + (el0.toInt64)) + (el1.toInt64)) + (el2.toInt64)) + (el3.toInt64))), .second, .val (.ref ar), .val (.int (4 : Int32)), .val (.int (4 : Int32)), .val (.int el3)] [(.ref a)])) (fun _ k => XS.aloadN X22.here hx rfl (hb hby d5_48) rfl rfl k) ?_
  refine own_by (T' := T22) (g' := (mkF m 50 #[.val (.ref a), .val (.ref ar), .val (.ref ls), .val (.long (((((0 : Int64) + (el0.toInt64)) + (el1.toInt64)) + (el2.toInt64)) + (el3.toInt64))), .second, .val (.ref ar), .val (.int (4 : Int32)), .val (.int (4 : Int32)), .val (.int el3)] [(.long (((((0 : Int64) + (el0.toInt64)) + (el1.toInt64)) + (el2.toInt64)) + (el3.toInt64))), (.ref a)])) (fun _ k => XS.lloadN X22.here hx rfl (hb hby d5_49) rfl k) ?_
  obtain ⟨T28, h28, X28, e28, W28, st28⟩ := putF X22 hx hZ hown (host := "") (Or.inl (hw _ (List.mem_of_getElem? (i := 36) rfl))) Via.refl e22 (Fld.other W22 F_totalLength_a (Or.inr (slot_ne (a0 := a0) (Or.inr (hw _ (List.mem_of_getElem? (i := 37) rfl))) (Or.inr (hw _ (List.mem_of_getElem? (i := 35) rfl))) (by decide) (t := .long) (t' := (.array .int)) (by decide) (by decide)))) (Exa.wr W22 E_a) (Or.inr ⟨(hw _ (List.mem_of_getElem? (i := 37) rfl)), rfl, hnm⟩) (hw _ (List.mem_of_getElem? (i := 2) rfl)) (ty := .long) (by decide) rfl rfl (g := (mkF m 50 #[.val (.ref a), .val (.ref ar), .val (.ref ls), .val (.long (((((0 : Int64) + (el0.toInt64)) + (el1.toInt64)) + (el2.toInt64)) + (el3.toInt64))), .second, .val (.ref ar), .val (.int (4 : Int32)), .val (.int (4 : Int32)), .val (.int el3)] [(.long (((((0 : Int64) + (el0.toInt64)) + (el1.toInt64)) + (el2.toInt64)) + (el3.toInt64))), (.ref a)])) rfl rfl (hb hby d5_50)
  have Fw28 : Fld Z h28 a "com/example/postings/postings/index/FieldIndex" "totalLength" "J" (.long (((((0 : Int64) + (el0.toInt64)) + (el1.toInt64)) + (el2.toInt64)) + (el3.toInt64))) := Fld.same W28 (Fld.other W22 F_totalLength_a (Or.inr (slot_ne (a0 := a0) (Or.inr (hw _ (List.mem_of_getElem? (i := 37) rfl))) (Or.inr (hw _ (List.mem_of_getElem? (i := 35) rfl))) (by decide) (t := .long) (t' := (.array .int)) (by decide) (by decide))))
  have K28 : Keep h0 h28 [a] := Keep.wr K22 W28 (Or.inl (List.mem_of_getElem? (i := 0) rfl))
  have N28 := Fr.snoc X28 N22 g_a
  refine own_by (T' := T28) (g' := (mkF m 53 #[.val (.ref a), .val (.ref ar), .val (.ref ls), .val (.long (((((0 : Int64) + (el0.toInt64)) + (el1.toInt64)) + (el2.toInt64)) + (el3.toInt64))), .second, .val (.ref ar), .val (.int (4 : Int32)), .val (.int (4 : Int32)), .val (.int el3)] [])) (fun _ k => st28 _ k) ?_
  refine own_by (T' := T28) (g' := (mkF m 54 #[.val (.ref a), .val (.ref ar), .val (.ref ls), .val (.long (((((0 : Int64) + (el0.toInt64)) + (el1.toInt64)) + (el2.toInt64)) + (el3.toInt64))), .second, .val (.ref ar), .val (.int (4 : Int32)), .val (.int (4 : Int32)), .val (.int el3)] [(.ref a)])) (fun _ k => XS.aloadN X28.here hx rfl (hb hby d5_53) rfl rfl k) ?_
  refine own_by (T' := T28) (g' := (mkF m 55 #[.val (.ref a), .val (.ref ar), .val (.ref ls), .val (.long (((((0 : Int64) + (el0.toInt64)) + (el1.toInt64)) + (el2.toInt64)) + (el3.toInt64))), .second, .val (.ref ar), .val (.int (4 : Int32)), .val (.int (4 : Int32)), .val (.int el3)] [(.ref ls), (.ref a)])) (fun _ k => XS.aloadN X28.here hx rfl (hb hby d5_54) rfl rfl k) ?_
  obtain ⟨T29, h29, X29, e29, W29, st29⟩ := putF X28 hx hZ hown (host := "") (Or.inl (hw _ (List.mem_of_getElem? (i := 38) rfl))) Via.refl e28 (Fld.other W28 (Fld.other W22 F_segments_a (Or.inr (slot_ne (a0 := a0) (Or.inr (hw _ (List.mem_of_getElem? (i := 39) rfl))) (Or.inr (hw _ (List.mem_of_getElem? (i := 35) rfl))) (by decide) (t := (.object "java/util/List")) (t' := (.array .int)) (by decide) (by decide)))) (Or.inr (slot_ne (a0 := a0) (Or.inr (hw _ (List.mem_of_getElem? (i := 39) rfl))) (Or.inr (hw _ (List.mem_of_getElem? (i := 37) rfl))) (by decide) (t := (.object "java/util/List")) (t' := .long) (by decide) (by decide)))) (Exa.wr W28 (Exa.wr W22 E_a)) (Or.inr ⟨(hw _ (List.mem_of_getElem? (i := 39) rfl)), rfl, hnm⟩) (hw _ (List.mem_of_getElem? (i := 2) rfl)) (ty := (.object "java/util/List")) (by decide) rfl rfl (g := (mkF m 55 #[.val (.ref a), .val (.ref ar), .val (.ref ls), .val (.long (((((0 : Int64) + (el0.toInt64)) + (el1.toInt64)) + (el2.toInt64)) + (el3.toInt64))), .second, .val (.ref ar), .val (.int (4 : Int32)), .val (.int (4 : Int32)), .val (.int el3)] [(.ref ls), (.ref a)])) rfl rfl (hb hby d5_55)
  have Fw29 : Fld Z h29 a "com/example/postings/postings/index/FieldIndex" "segments" "Ljava/util/List;" (.ref ls) := Fld.same W29 (Fld.other W28 (Fld.other W22 F_segments_a (Or.inr (slot_ne (a0 := a0) (Or.inr (hw _ (List.mem_of_getElem? (i := 39) rfl))) (Or.inr (hw _ (List.mem_of_getElem? (i := 35) rfl))) (by decide) (t := (.object "java/util/List")) (t' := (.array .int)) (by decide) (by decide)))) (Or.inr (slot_ne (a0 := a0) (Or.inr (hw _ (List.mem_of_getElem? (i := 39) rfl))) (Or.inr (hw _ (List.mem_of_getElem? (i := 37) rfl))) (by decide) (t := (.object "java/util/List")) (t' := .long) (by decide) (by decide))))
  have K29 : Keep h0 h29 [a] := Keep.wr K28 W29 (Or.inl (List.mem_of_getElem? (i := 0) rfl))
  have N29 := Fr.snoc X29 N28 g_a
  refine own_by (T' := T29) (g' := (mkF m 58 #[.val (.ref a), .val (.ref ar), .val (.ref ls), .val (.long (((((0 : Int64) + (el0.toInt64)) + (el1.toInt64)) + (el2.toInt64)) + (el3.toInt64))), .second, .val (.ref ar), .val (.int (4 : Int32)), .val (.int (4 : Int32)), .val (.int el3)] [])) (fun _ k => st29 _ k) ?_
  refine own_ret X29 hlk (v := none) (fun _ => rfl) (fun fs hr => X29.returnOut hx Bd.returns (hb hby d5_58) hr) ?_ (by decide) (by decide)
  rw [e29]
  exact ⟨rfl, N29, K29, (Fld.other W29 (Fld.other W28 Fw22 (Or.inr (slot_ne (a0 := a0) (Or.inr (hw _ (List.mem_of_getElem? (i := 35) rfl))) (Or.inr (hw _ (List.mem_of_getElem? (i := 37) rfl))) (by decide) (t := (.array .int)) (t' := .long) (by decide) (by decide)))) (Or.inr (slot_ne (a0 := a0) (Or.inr (hw _ (List.mem_of_getElem? (i := 35) rfl))) (Or.inr (hw _ (List.mem_of_getElem? (i := 39) rfl))) (by decide) (t := (.array .int)) (t' := (.object "java/util/List")) (by decide) (by decide)))), (Fld.other W29 Fw28 (Or.inr (slot_ne (a0 := a0) (Or.inr (hw _ (List.mem_of_getElem? (i := 37) rfl))) (Or.inr (hw _ (List.mem_of_getElem? (i := 39) rfl))) (by decide) (t := .long) (t' := (.object "java/util/List")) (by decide) (by decide))))⟩
theorem ef_av_4 (m : MethodId) (a : Addr) : entryFrame m #[(.ref a)] 1 = mkF m 0 #[.val (.ref a)] [] := by first | (simp [entryFrame, mkF, argsToLocals, Value.category]; done) | rfl
def Q_av_4 (Z : State) (a : Addr) (ar : Addr) (kk : ClassId) (S0 : Int64) (el0 : Int32) (el1 : Int32) (el2 : Int32) (el3 : Int32) (h0 : Heap) (n0 : Nat) (v : Option Value) (h : Heap) (L : List Loc) : Prop := v = some (.double (FP.ddiv (FP.l2d S0) (FP.i2d (4 : Int32)))) ∧ Fr n0 L ∧ h = h0
set_option maxRecDepth 65536 in
set_option maxHeartbeats 40000000 in
theorem av_4 (l : Launch) (Z : State) (a0 : Array Value) (hw : ∀ d ∈ tables_1, d.before a0 Z = true) (ws : List Jvm.Cond) (a : Addr) (ar : Addr) (kk : ClassId) (S0 : Int64) (el0 : Int32) (el1 : Int32) (el2 : Int32) (el3 : Int32) (h0 : Heap) (n0 : Nat) (Z0 : n0 ≤ h0.size) (F_lengths_a : Fld Z h0 a "com/example/postings/postings/index/FieldIndex" "lengths" "[I" (.ref ar)) (F_totalLength_a : Fld Z h0 a "com/example/postings/postings/index/FieldIndex" "totalLength" "J" (.long S0)) (V_ar : Arv Z h0 ar kk .int (4 : Int32) [(.int el0), (.int el1), (.int el2), (.int el3)] (.int (0 : Int32))) :
    MetFree l (⟨"com/example/postings/postings/index/FieldIndex", "averageLength", "()D"⟩ : MethodName) (head1 (Jvm.Cond.code (⟨"com/example/postings/postings/index/FieldIndex", "averageLength", "()D"⟩ : MethodName) prog_14_method_3_code 1 (some .double) :: ws) ({ frames := 0, cells := 0, slots := 0, locals := 0 } : Room)) (fun zz UU => zz = #[(.ref a)] ∧ Z.Warmed39 UU.vm ∧ UU.heap = h0) (fun _ _ _ _ _ => True) (fun _ U o U' => ∃ v L, o = .returned v ∧ Q_av_4 Z a ar kk S0 el0 el1 el2 el3 h0 n0 v U'.heap L ∧ FrameEnd U o U' L ({ frames := 0, cells := 0, slots := 0, locals := 0 } : Room).cells ({ frames := 0, cells := 0, slots := 0, locals := 0 } : Room).slots) := by
  refine MetFree.of_bodySF (plainFor_of_name pn_6) hisR ?_
  intro p e s m args below meth c s₁ Bd hml0 hP hK
  obtain ⟨rfl, hZ, hh⟩ := hP
  have hx := Bd.exec
  have hby := Bd.bytes
  have hml : c.maxLocals = 1 := hml0
  have hown : s.vm.findClass "com/example/postings/postings/index/FieldIndex" = some m.cls := findClass_of_methodNamed Bd.named
  have hnm := (name_of_methodNamed Bd.named Bd.method).1
  have hlk : meth.locks = false := BodyLoose.notSynchronized Bd
  have X0 : Stand p l e ({ frames := 0, cells := 0, slots := 0, locals := 0 } : Room) s m #[(.ref a)] below meth c s₁ [] 0 0 := Stand.of_body Bd
  have e0 : s₁.heap = h0 := by rw [← hh, Bd.state]; rfl
  have N0 := Fr.nil n0
  show own_Go p.tables e below (Q_av_4 Z a ar kk S0 el0 el1 el2 el3 h0 n0) s ({ frames := 0, cells := 0, slots := 0, locals := 0 } : Room).cells ({ frames := 0, cells := 0, slots := 0, locals := 0 } : Room).slots s₁ (entryFrame m #[(.ref a)] 1)
  rw [ef_av_4 m a]
  refine own_by (T' := s₁) (g' := (mkF m 1 #[.val (.ref a)] [(.ref a)])) (fun _ k => XS.aloadN X0.here hx rfl (hb hby d6_0) rfl rfl k) ?_
  obtain ⟨T21, X21, e21, st21⟩ := getF X0 hx hZ hown (host := "") (Or.inl (hw _ (List.mem_of_getElem? (i := 36) rfl))) Via.refl e0 F_totalLength_a (g := (mkF m 1 #[.val (.ref a)] [(.ref a)])) rfl rfl (hb hby d6_1)
  refine own_by (T' := T21) (g' := (mkF m 4 #[.val (.ref a)] [(.long S0)])) (fun _ k => st21 _ k) ?_
  refine own_by (T' := T21) (g' := (mkF m 5 #[.val (.ref a)] [(.double (FP.l2d S0))])) (fun _ k => XS.l2dS X21.here hx rfl (hb hby d6_4) rfl rfl k) ?_
  refine own_by (T' := T21) (g' := (mkF m 6 #[.val (.ref a)] [(.ref a), (.double (FP.l2d S0))])) (fun _ k => XS.aloadN X21.here hx rfl (hb hby d6_5) rfl rfl k) ?_
  obtain ⟨T22, X22, e22, st22⟩ := getF X21 hx hZ hown (host := "") (Or.inl (hw _ (List.mem_of_getElem? (i := 34) rfl))) Via.refl e21 F_lengths_a (g := (mkF m 6 #[.val (.ref a)] [(.ref a), (.double (FP.l2d S0))])) rfl rfl (hb hby d6_6)
  refine own_by (T' := T22) (g' := (mkF m 9 #[.val (.ref a)] [(.ref ar), (.double (FP.l2d S0))])) (fun _ k => st22 _ k) ?_
  obtain ⟨cl23, Ar23, q23, S23, N_23, H23, G23⟩ := id V_ar
  refine own_by (T' := T22) (g' := (mkF m 10 #[.val (.ref a)] [(.int (4 : Int32)), (.double (FP.l2d S0))])) (fun _ k => X22.arraylength hx (by rw [e22]; exact Ar23.1) (State.isArrayOf_alike hZ.alike Ar23.2.1) (g := (mkF m 9 #[.val (.ref a)] [(.ref ar), (.double (FP.l2d S0))])) rfl rfl (hb hby d6_9) _ (by rw [len_of S23 N_23]; exact k)) ?_
  refine own_by (T' := T22) (g' := (mkF m 11 #[.val (.ref a)] [(.double (FP.i2d (4 : Int32))), (.double (FP.l2d S0))])) (fun _ k => XS.i2dS X22.here hx rfl (hb hby d6_10) rfl rfl k) ?_
  refine own_by (T' := T22) (g' := (mkF m 12 #[.val (.ref a)] [(.double (FP.ddiv (FP.l2d S0) (FP.i2d (4 : Int32))))])) (fun _ k => XS.ddivS X22.here hx rfl (hb hby d6_11) rfl (own_nn _ (4 : Int32) (by decide)) rfl k) ?_
  refine own_ret X22 hlk (v := some (.double (FP.ddiv (FP.l2d S0) (FP.i2d (4 : Int32))))) (fun h => by rw [Bd.returns] at h; cases h) (fun fs hr => retOut X22 hx Bd.returns rfl (Or.inr (Or.inr (Or.inl ⟨rfl, rfl, _, rfl⟩))) (hb hby d6_12) hr) ?_ (by decide) (by decide)
  rw [e22]
  exact ⟨rfl, N0, rfl⟩
theorem pn_0 : plainName "com/example/postings/postings/index/FieldIndexAverageLengthPinLaw" = true := by first | (simp [plainName, overriddenIn]; done) | decide +kernel
theorem ef_rm0 (m : MethodId) (k0 : Int32) (x1 : Int32) (x2 : Int32) (x3 : Int32) (x4 : Int32) : entryFrame m #[(.int k0), (.int x1), (.int x2), (.int x3), (.int x4)] maxLocals = mkF m 0 #[.val (.int k0), .val (.int x1), .val (.int x2), .val (.int x3), .val (.int x4), .unset, .unset, .unset, .unset, .unset, .unset, .unset] [] := by first | (simp [entryFrame, mkF, argsToLocals, Value.category, maxLocals]; done) | rfl
def Q_rm0 (Z : State) (k0 : Int32) (x1 : Int32) (x2 : Int32) (x3 : Int32) (x4 : Int32) (de : Addr) (h0 : Heap) (n0 : Nat) (v : Option Value) (h : Heap) (L : List Loc) : Prop := v = some (.int 1) ∧ Fr n0 L
set_option maxRecDepth 65536 in
set_option maxHeartbeats 40000000 in
theorem rm0 (l : Launch) (Z : State) (a0 : Array Value) (hw : ∀ d ∈ tables_1, d.before a0 Z = true) (ws : List Jvm.Cond) (k0 : Int32) (x1 : Int32) (x2 : Int32) (x3 : Int32) (x4 : Int32) (de : Addr) (h0 : Heap) (n0 : Nat) (Z0 : n0 ≤ h0.size) (O0 : Old Z n0 h0) (S_DE : Sta Z Z.heap "java/util/ArrayList" "DEFAULTCAPACITY_EMPTY_ELEMENTDATA" "[Ljava/lang/Object;" (.ref de)) :
    MetFree l x (head1 (Jvm.Cond.code x code maxLocals ret :: ws) room_1) (fun zz UU => zz = #[(.int k0), (.int x1), (.int x2), (.int x3), (.int x4)] ∧ Z.Warmed39 UU.vm ∧ UU.heap = h0) (fun _ _ _ _ _ => True) (fun _ U o U' => ∃ v L, o = .returned v ∧ Q_rm0 Z k0 x1 x2 x3 x4 de h0 n0 v U'.heap L ∧ FrameEnd U o U' L 16 128) := by
  refine MetFree.of_bodySF (plainFor_of_name pn_0) hisR ?_
  intro p e s m args below meth c s₁ Bd hml0 hP hK
  obtain ⟨rfl, hZ, hh⟩ := hP
  have hx := Bd.exec
  have hby := Bd.bytes
  have hml : c.maxLocals = 12 := hml0
  have hown : s.vm.findClass "com/example/postings/postings/index/FieldIndexAverageLengthPinLaw" = some m.cls := findClass_of_methodNamed Bd.named
  have hnm := (name_of_methodNamed Bd.named Bd.method).1
  have hlk : meth.locks = false := BodyLoose.notSynchronized Bd
  have X0 : Stand p l e room_1 s m #[(.int k0), (.int x1), (.int x2), (.int x3), (.int x4)] below meth c s₁ [] 0 0 := Stand.of_body Bd
  have e0 : s₁.heap = h0 := by rw [← hh, Bd.state]; rfl
  have N0 := Fr.nil n0
  show own_Go p.tables e below (Q_rm0 Z k0 x1 x2 x3 x4 de h0 n0) s 16 128 s₁ (entryFrame m #[(.int k0), (.int x1), (.int x2), (.int x3), (.int x4)] maxLocals)
  rw [ef_rm0 m k0 x1 x2 x3 x4]
  refine own_by (T' := s₁) (g' := (mkF m 1 #[.val (.int k0), .val (.int x1), .val (.int x2), .val (.int x3), .val (.int x4), .unset, .unset, .unset, .unset, .unset, .unset, .unset] [(.int k0)])) (fun _ k => XS.iloadN X0.here hx rfl (hb hby at_0) rfl k) ?_
  refine own_by (T' := s₁) (g' := (mkF m 2 #[.val (.int k0), .val (.int x1), .val (.int x2), .val (.int x3), .val (.int x4), .unset, .unset, .unset, .unset, .unset, .unset, .unset] [(.int (3 : Int32)), (.int k0)])) (fun _ k => XS.iconst X0.here hx rfl (hb hby at_1) k) ?_
  refine own_by (T' := s₁) (g' := (mkF m 3 #[.val (.int k0), .val (.int x1), .val (.int x2), .val (.int x3), .val (.int x4), .unset, .unset, .unset, .unset, .unset, .unset, .unset] [(.int (k0 &&& (3 : Int32)))])) (fun _ k => XS.iand X0.here hx rfl (hb hby at_2) rfl k) ?_
  refine own_by (T' := s₁) (g' := (mkF m 4 #[.val (.int k0), .val (.int x1), .val (.int x2), .val (.int x3), .val (.int x4), .unset, .unset, .unset, .unset, .unset, .unset, .unset] [(.int (1 : Int32)), (.int (k0 &&& (3 : Int32)))])) (fun _ k => XS.iconst X0.here hx rfl (hb hby at_3) k) ?_
  refine own_by (T' := s₁) (g' := (mkF m 5 #[.val (.int k0), .val (.int x1), .val (.int x2), .val (.int x3), .val (.int x4), .unset, .unset, .unset, .unset, .unset, .unset, .unset] [(.int ((k0 &&& (3 : Int32)) + (1 : Int32)))])) (fun _ k => XS.iadd X0.here hx rfl (hb hby at_4) rfl k) ?_
  refine own_by (T' := s₁) (g' := (mkF m 7 #[.val (.int k0), .val (.int x1), .val (.int x2), .val (.int x3), .val (.int x4), .val (.int ((k0 &&& (3 : Int32)) + (1 : Int32))), .unset, .unset, .unset, .unset, .unset, .unset] [])) (fun _ k => XS.istore X0.here hx rfl (hb hby at_5) rfl (l' := #[.val (.int k0), .val (.int x1), .val (.int x2), .val (.int x3), .val (.int x4), .val (.int ((k0 &&& (3 : Int32)) + (1 : Int32))), .unset, .unset, .unset, .unset, .unset, .unset]) rfl k) ?_
  rcases own_k k0 with hq21 | hq21 | hq21 | hq21
  · skip
    rw [hq21]
    refine own_by (T' := s₁) (g' := (mkF m 9 #[.val (.int k0), .val (.int x1), .val (.int x2), .val (.int x3), .val (.int x4), .val (.int (1 : Int32)), .unset, .unset, .unset, .unset, .unset, .unset] [(.int (1 : Int32))])) (fun _ k => XS.iload X0.here hx rfl (hb hby at_7) rfl k) ?_
    obtain ⟨T22, h22, k22, X22, e22, E22, A22, st22⟩ := newP X0 hx hZ (hw _ (List.mem_of_getElem? (i := 0) rfl)) e0 (g := (mkF m 9 #[.val (.int k0), .val (.int x1), .val (.int x2), .val (.int x3), .val (.int x4), .val (.int (1 : Int32)), .unset, .unset, .unset, .unset, .unset, .unset] [(.int (1 : Int32))])) rfl (hb hby at_9) rfl (by decide) (cap := 1) (by decide) (by decide) (by decide) (by decide)
    obtain ⟨b22, g22⟩ : ∃ z, z = h0.size := ⟨_, rfl⟩
    rw [← g22] at A22 st22
    have V_b22 : Arv Z h22 b22 k22 .int (1 : Int32) [(.int (0 : Int32))] (.int (0 : Int32)) := (Arv.new A22 (by decide)).pad (pad_rep [] (.int (0 : Int32)) 1)
    have g_b22 : n0 ≤ b22 := Nat.le_trans Z0 (Nat.le_of_eq g22.symm)
    have sz_b22 : h0.size ≤ b22 := Nat.le_trans (Keep.refl h0 []).1 (Nat.le_of_eq g22.symm)
    have K22 : Keep h0 h22 [] := Keep.ext (Keep.refl h0 []) E22
    refine own_by (T' := T22) (g' := (mkF m 11 #[.val (.int k0), .val (.int x1), .val (.int x2), .val (.int x3), .val (.int x4), .val (.int (1 : Int32)), .unset, .unset, .unset, .unset, .unset, .unset] [(.ref b22)])) (fun _ k => st22 _ k) ?_
    refine own_by (T' := T22) (g' := (mkF m 13 #[.val (.int k0), .val (.int x1), .val (.int x2), .val (.int x3), .val (.int x4), .val (.int (1 : Int32)), .val (.ref b22), .unset, .unset, .unset, .unset, .unset] [])) (fun _ k => XS.astore X22.here hx rfl (hb hby at_11) rfl rfl (l' := #[.val (.int k0), .val (.int x1), .val (.int x2), .val (.int x3), .val (.int x4), .val (.int (1 : Int32)), .val (.ref b22), .unset, .unset, .unset, .unset, .unset]) rfl k) ?_
    refine own_by (T' := T22) (g' := (mkF m 14 #[.val (.int k0), .val (.int x1), .val (.int x2), .val (.int x3), .val (.int x4), .val (.int (1 : Int32)), .val (.ref b22), .unset, .unset, .unset, .unset, .unset] [(.int x1)])) (fun _ k => XS.iloadN X22.here hx rfl (hb hby at_13) rfl k) ?_
    refine own_by (T' := T22) (g' := (mkF m 15 #[.val (.int k0), .val (.int x1), .val (.int x2), .val (.int x3), .val (.int x4), .val (.int (1 : Int32)), .val (.ref b22), .unset, .unset, .unset, .unset, .unset] [(.long (x1.toInt64))])) (fun _ k => XS.i2l X22.here hx rfl (hb hby at_14) rfl k) ?_
    refine own_by (T' := T22) (g' := (mkF m 17 #[.val (.int k0), .val (.int x1), .val (.int x2), .val (.int x3), .val (.int x4), .val (.int (1 : Int32)), .val (.ref b22), .val (.long (x1.toInt64)), .second, .unset, .unset, .unset] [])) (fun _ k => XS.lstore X22.here hx rfl (hb hby at_15) rfl (l' := #[.val (.int k0), .val (.int x1), .val (.int x2), .val (.int x3), .val (.int x4), .val (.int (1 : Int32)), .val (.ref b22), .val (.long (x1.toInt64)), .second, .unset, .unset, .unset]) rfl k) ?_
    refine own_by (T' := T22) (g' := (mkF m 19 #[.val (.int k0), .val (.int x1), .val (.int x2), .val (.int x3), .val (.int x4), .val (.int (1 : Int32)), .val (.ref b22), .val (.long (x1.toInt64)), .second, .unset, .unset, .unset] [(.ref b22)])) (fun _ k => XS.aload X22.here hx rfl (hb hby at_17) rfl rfl k) ?_
    refine own_by (T' := T22) (g' := (mkF m 20 #[.val (.int k0), .val (.int x1), .val (.int x2), .val (.int x3), .val (.int x4), .val (.int (1 : Int32)), .val (.ref b22), .val (.long (x1.toInt64)), .second, .unset, .unset, .unset] [(.int (0 : Int32)), (.ref b22)])) (fun _ k => XS.iconst X22.here hx rfl (hb hby at_19) k) ?_
    refine own_by (T' := T22) (g' := (mkF m 21 #[.val (.int k0), .val (.int x1), .val (.int x2), .val (.int x3), .val (.int x4), .val (.int (1 : Int32)), .val (.ref b22), .val (.long (x1.toInt64)), .second, .unset, .unset, .unset] [(.int x1), (.int (0 : Int32)), (.ref b22)])) (fun _ k => XS.iloadN X22.here hx rfl (hb hby at_20) rfl k) ?_
    obtain ⟨cl23, Ar23, q23, S23, N_23, H23, G23⟩ := id V_b22
    have hin23 : ¬ ((0 : Int32) < 0 ∨ cl23.slots.size ≤ ((0 : Int32)).toNatClampNeg) := inb_of S23 ⟨by decide, by decide⟩
    obtain ⟨T24, h24, X24, e24, W24, st24⟩ := stI X22 hx hZ e22 Ar23 (j := (0 : Int32)) hin23 (g := (mkF m 21 #[.val (.int k0), .val (.int x1), .val (.int x2), .val (.int x3), .val (.int x4), .val (.int (1 : Int32)), .val (.ref b22), .val (.long (x1.toInt64)), .second, .unset, .unset, .unset] [(.int x1), (.int (0 : Int32)), (.ref b22)])) rfl rfl (hb hby at_21)
    have V24 : Arv Z h24 b22 k22 .int (1 : Int32) [(.int x1)] (.int (0 : Int32)) := Arv.set Ar23 q23 S23 N_23 H23 G23 rfl W24 0 rfl (Nat.le_of_ble_eq_true rfl)
    have K24 : Keep h0 h24 [] := Keep.wr K22 W24 (Or.inr sz_b22)
    have N24 := Fr.snoc X24 N0 g_b22
    refine own_by (T' := T24) (g' := (mkF m 22 #[.val (.int k0), .val (.int x1), .val (.int x2), .val (.int x3), .val (.int x4), .val (.int (1 : Int32)), .val (.ref b22), .val (.long (x1.toInt64)), .second, .unset, .unset, .unset] [])) (fun _ k => st24 _ k) ?_
    refine own_by (T' := T24) (g' := (mkF m 24 #[.val (.int k0), .val (.int x1), .val (.int x2), .val (.int x3), .val (.int x4), .val (.int (1 : Int32)), .val (.ref b22), .val (.long (x1.toInt64)), .second, .unset, .unset, .unset] [(.int (1 : Int32))])) (fun _ k => XS.iload X24.here hx rfl (hb hby at_22) rfl k) ?_
    refine own_by (T' := T24) (g' := (mkF m 25 #[.val (.int k0), .val (.int x1), .val (.int x2), .val (.int x3), .val (.int x4), .val (.int (1 : Int32)), .val (.ref b22), .val (.long (x1.toInt64)), .second, .unset, .unset, .unset] [(.int (1 : Int32)), (.int (1 : Int32))])) (fun _ k => XS.iconst X24.here hx rfl (hb hby at_24) k) ?_
    refine own_by (T' := T24) (g' := (mkF m 40 #[.val (.int k0), .val (.int x1), .val (.int x2), .val (.int x3), .val (.int x4), .val (.int (1 : Int32)), .val (.ref b22), .val (.long (x1.toInt64)), .second, .unset, .unset, .unset] [])) (fun _ k => XS.icmpYes X24.here hx rfl (pc0 := 25) (pc' := 40) rfl (hb hby at_25) rfl (flt (by decide)).2.2.2 (by decide) (by decide) k) ?_
    refine own_by (T' := T24) (g' := (mkF m 42 #[.val (.int k0), .val (.int x1), .val (.int x2), .val (.int x3), .val (.int x4), .val (.int (1 : Int32)), .val (.ref b22), .val (.long (x1.toInt64)), .second, .unset, .unset, .unset] [(.int (1 : Int32))])) (fun _ k => XS.iload X24.here hx rfl (hb hby at_40) rfl k) ?_
    refine own_by (T' := T24) (g' := (mkF m 43 #[.val (.int k0), .val (.int x1), .val (.int x2), .val (.int x3), .val (.int x4), .val (.int (1 : Int32)), .val (.ref b22), .val (.long (x1.toInt64)), .second, .unset, .unset, .unset] [(.int (2 : Int32)), (.int (1 : Int32))])) (fun _ k => XS.iconst X24.here hx rfl (hb hby at_42) k) ?_
    refine own_by (T' := T24) (g' := (mkF m 58 #[.val (.int k0), .val (.int x1), .val (.int x2), .val (.int x3), .val (.int x4), .val (.int (1 : Int32)), .val (.ref b22), .val (.long (x1.toInt64)), .second, .unset, .unset, .unset] [])) (fun _ k => XS.icmpYes X24.here hx rfl (pc0 := 43) (pc' := 58) rfl (hb hby at_43) rfl (flt (by decide)).2.2.2 (by decide) (by decide) k) ?_
    refine own_by (T' := T24) (g' := (mkF m 60 #[.val (.int k0), .val (.int x1), .val (.int x2), .val (.int x3), .val (.int x4), .val (.int (1 : Int32)), .val (.ref b22), .val (.long (x1.toInt64)), .second, .unset, .unset, .unset] [(.int (1 : Int32))])) (fun _ k => XS.iload X24.here hx rfl (hb hby at_58) rfl k) ?_
    refine own_by (T' := T24) (g' := (mkF m 61 #[.val (.int k0), .val (.int x1), .val (.int x2), .val (.int x3), .val (.int x4), .val (.int (1 : Int32)), .val (.ref b22), .val (.long (x1.toInt64)), .second, .unset, .unset, .unset] [(.int (3 : Int32)), (.int (1 : Int32))])) (fun _ k => XS.iconst X24.here hx rfl (hb hby at_60) k) ?_
    refine own_by (T' := T24) (g' := (mkF m 78 #[.val (.int k0), .val (.int x1), .val (.int x2), .val (.int x3), .val (.int x4), .val (.int (1 : Int32)), .val (.ref b22), .val (.long (x1.toInt64)), .second, .unset, .unset, .unset] [])) (fun _ k => XS.icmpYes X24.here hx rfl (pc0 := 61) (pc' := 78) rfl (hb hby at_61) rfl (flt (by decide)).2.2.2 (by decide) (by decide) k) ?_
    obtain ⟨T25, h25, X25, e25, E25, A25, D25, -, st25⟩ := newO X24 hx hZ hown (hw _ (List.mem_of_getElem? (i := 1) rfl)) (hw _ (List.mem_of_getElem? (i := 2) rfl)) (hw _ (List.mem_of_getElem? (i := 3) rfl)) e24 (g := (mkF m 78 #[.val (.int k0), .val (.int x1), .val (.int x2), .val (.int x3), .val (.int x4), .val (.int (1 : Int32)), .val (.ref b22), .val (.long (x1.toInt64)), .second, .unset, .unset, .unset] [])) rfl (hb hby at_78) (by decide) (by decide)
    obtain ⟨b25, g25⟩ : ∃ z, z = h24.size := ⟨_, rfl⟩
    rw [← g25] at A25 D25 st25
    have E_b25 : Exa Z h25 b25 "com/example/postings/postings/index/FieldIndex" := A25
    have F_lengths_b25 : Fld Z h25 b25 "com/example/postings/postings/index/FieldIndex" "lengths" "[I" .null := D25 (Or.inr (hw _ (List.mem_of_getElem? (i := 35) rfl))) (ty := (.array .int)) (by decide)
    have F_totalLength_b25 : Fld Z h25 b25 "com/example/postings/postings/index/FieldIndex" "totalLength" "J" (.long (0 : Int64)) := D25 (Or.inr (hw _ (List.mem_of_getElem? (i := 37) rfl))) (ty := .long) (by decide)
    have F_segments_b25 : Fld Z h25 b25 "com/example/postings/postings/index/FieldIndex" "segments" "Ljava/util/List;" .null := D25 (Or.inr (hw _ (List.mem_of_getElem? (i := 39) rfl))) (ty := (.object "java/util/List")) (by decide)
    have g_b25 : n0 ≤ b25 := Nat.le_trans (Nat.le_trans (Nat.le_trans Z0 E22.1) (Keep.of_wr W24).1) (Nat.le_of_eq g25.symm)
    have sz_b25 : h0.size ≤ b25 := Nat.le_trans K24.1 (Nat.le_of_eq g25.symm)
    have K25 : Keep h0 h25 [] := Keep.ext K24 E25
    refine own_by (T' := T25) (g' := (mkF m 81 #[.val (.int k0), .val (.int x1), .val (.int x2), .val (.int x3), .val (.int x4), .val (.int (1 : Int32)), .val (.ref b22), .val (.long (x1.toInt64)), .second, .unset, .unset, .unset] [(.ref b25)])) (fun _ k => st25 _ k) ?_
    refine own_by (T' := T25) (g' := (mkF m 82 #[.val (.int k0), .val (.int x1), .val (.int x2), .val (.int x3), .val (.int x4), .val (.int (1 : Int32)), .val (.ref b22), .val (.long (x1.toInt64)), .second, .unset, .unset, .unset] [(.ref b25), (.ref b25)])) (fun _ k => XS.dup X25.here hx rfl (hb hby at_81) rfl rfl k) ?_
    refine own_by (T' := T25) (g' := (mkF m 84 #[.val (.int k0), .val (.int x1), .val (.int x2), .val (.int x3), .val (.int x4), .val (.int (1 : Int32)), .val (.ref b22), .val (.long (x1.toInt64)), .second, .unset, .unset, .unset] [(.ref b22), (.ref b25), (.ref b25)])) (fun _ k => XS.aload X25.here hx rfl (hb hby at_82) rfl rfl k) ?_
    obtain ⟨T26, h26, X26, e26, E26, A26, D26, -, st26⟩ := newO X25 hx hZ hown (hw _ (List.mem_of_getElem? (i := 4) rfl)) (hw _ (List.mem_of_getElem? (i := 5) rfl)) (hw _ (List.mem_of_getElem? (i := 6) rfl)) e25 (g := (mkF m 84 #[.val (.int k0), .val (.int x1), .val (.int x2), .val (.int x3), .val (.int x4), .val (.int (1 : Int32)), .val (.ref b22), .val (.long (x1.toInt64)), .second, .unset, .unset, .unset] [(.ref b22), (.ref b25), (.ref b25)])) rfl (hb hby at_84) (by decide) (by decide)
    obtain ⟨b26, g26⟩ : ∃ z, z = h25.size := ⟨_, rfl⟩
    rw [← g26] at A26 D26 st26
    have E_b26 : Exa Z h26 b26 "java/util/ArrayList" := A26
    have F_modCount_b26 : Fld Z h26 b26 "java/util/AbstractList" "modCount" "I" (.int (0 : Int32)) := D26 (Or.inl (hw _ (List.mem_of_getElem? (i := 26) rfl))) (ty := .int) (by decide)
    have F_elementData_b26 : Fld Z h26 b26 "java/util/ArrayList" "elementData" "[Ljava/lang/Object;" .null := D26 (Or.inl (hw _ (List.mem_of_getElem? (i := 29) rfl))) (ty := (.array (.object "java/lang/Object"))) (by decide)
    have g_b26 : n0 ≤ b26 := Nat.le_trans (Nat.le_trans (Nat.le_trans (Nat.le_trans Z0 E22.1) (Keep.of_wr W24).1) E25.1) (Nat.le_of_eq g26.symm)
    have sz_b26 : h0.size ≤ b26 := Nat.le_trans K25.1 (Nat.le_of_eq g26.symm)
    have K26 : Keep h0 h26 [] := Keep.ext K25 E26
    refine own_by (T' := T26) (g' := (mkF m 87 #[.val (.int k0), .val (.int x1), .val (.int x2), .val (.int x3), .val (.int x4), .val (.int (1 : Int32)), .val (.ref b22), .val (.long (x1.toInt64)), .second, .unset, .unset, .unset] [(.ref b26), (.ref b22), (.ref b25), (.ref b25)])) (fun _ k => st26 _ k) ?_
    refine own_by (T' := T26) (g' := (mkF m 88 #[.val (.int k0), .val (.int x1), .val (.int x2), .val (.int x3), .val (.int x4), .val (.int (1 : Int32)), .val (.ref b22), .val (.long (x1.toInt64)), .second, .unset, .unset, .unset] [(.ref b26), (.ref b26), (.ref b22), (.ref b25), (.ref b25)])) (fun _ k => XS.dup X26.here hx rfl (hb hby at_87) rfl rfl k) ?_
    obtain ⟨_, _, ⟨T27, L27, k27, n27⟩, -, X27, ⟨Lc27, hQ27, l27, y27, z27⟩, st27⟩ := X26.specialBack hx (y := (⟨"java/util/ArrayList", "<init>", "()V"⟩ : MethodName)) rfl hown (mvT hZ (hw _ (List.mem_of_getElem? (i := 7) rfl))) (mvT hZ (hw _ (List.mem_of_getElem? (i := 8) rfl))) (mvT hZ (hw _ (List.mem_of_getElem? (i := 9) rfl))) (by decide) (backOf (W := 4) (rm1 l Z a0 hw [] b26 de h26 n0 (Nat.le_trans (Nat.le_trans (Nat.le_trans (Nat.le_trans Z0 E22.1) (Keep.of_wr W24).1) E25.1) E26.1) (Old.ext (Old.ext (Old.wr (Old.ext O0 E22) W24 g_b22) E25) E26) S_DE E_b26 F_modCount_b26 F_elementData_b26 g_b26) hZ (hw _ (List.mem_of_getElem? (i := 9) rfl)) (hw _ (List.mem_of_getElem? (i := 6) rfl)) (by decide) (by decide)) (g := (mkF m 88 #[.val (.int k0), .val (.int x1), .val (.int x2), .val (.int x3), .val (.int x4), .val (.int (1 : Int32)), .val (.ref b22), .val (.long (x1.toInt64)), .second, .unset, .unset, .unset] [(.ref b26), (.ref b26), (.ref b22), (.ref b25), (.ref b25)])) rfl (by rw [hml]; rfl) (Steps.refl _) (a := b26) (argsL := []) (rest := [(.ref b26), (.ref b22), (.ref b25), (.ref b25)]) (lenOf pd_0 rfl) rfl (by show 2 * 0 + _ ≤ _; exact Nat.le_of_eq rfl) (hb hby at_88) (fun _ _ => ⟨rfl, e26, (by decide : (((0 + 1) + 1) + 1) + 0 ≤ _), (by decide : (((0 + 1) + 3) + 3) + 0 ≤ _)⟩)
    dsimp only [Pt.U, Pt.locs, Pt.cells, Pt.slots] at X27 l27 y27 z27 st27 hQ27
    subst l27 y27 z27
    obtain ⟨rfl, N27q, K27⟩ := hQ27
    have N27 := Fr.app N24 N27q
    have KK27 : Keep h0 T27.heap [] := Keep.trans K26 K27 (allS (Or.inr sz_b26) all0)
    refine own_by (T' := T27) (g' := (mkF m 91 #[.val (.int k0), .val (.int x1), .val (.int x2), .val (.int x3), .val (.int x4), .val (.int (1 : Int32)), .val (.ref b22), .val (.long (x1.toInt64)), .second, .unset, .unset, .unset] [(.ref b26), (.ref b22), (.ref b25), (.ref b25)])) (fun _ k => st27.trans k) ?_
    obtain ⟨_, _, ⟨T28, L28, k28, n28⟩, -, X28, ⟨Lc28, hQ28, l28, y28, z28⟩, st28⟩ := X27.specialBack hx (y := (⟨"com/example/postings/postings/index/FieldIndex", "<init>", "([ILjava/util/List;)V"⟩ : MethodName)) rfl hown (mvT hZ (hw _ (List.mem_of_getElem? (i := 30) rfl))) (mvT hZ (hw _ (List.mem_of_getElem? (i := 31) rfl))) (mvT hZ (hw _ (List.mem_of_getElem? (i := 32) rfl))) (by decide) (backOf (W := 1) (fi_1 l Z a0 hw [] b25 b22 b26 k22 x1 T27.heap n0 (Nat.le_trans (Nat.le_trans (Nat.le_trans (Nat.le_trans (Nat.le_trans Z0 E22.1) (Keep.of_wr W24).1) E25.1) E26.1) K27.1) (Exa.keep (Exa.ext E26 E_b25) K27) (Fld.keep (Fld.ext E26 F_lengths_b25) K27 (ninS (Nat.ne_of_lt (Nat.lt_of_lt_of_le E_b25.lt (Nat.le_of_eq g26.symm))) nin0)) (Fld.keep (Fld.ext E26 F_totalLength_b25) K27 (ninS (Nat.ne_of_lt (Nat.lt_of_lt_of_le E_b25.lt (Nat.le_of_eq g26.symm))) nin0)) (Fld.keep (Fld.ext E26 F_segments_b25) K27 (ninS (Nat.ne_of_lt (Nat.lt_of_lt_of_le E_b25.lt (Nat.le_of_eq g26.symm))) nin0)) g_b25 (Arv.keep (Arv.ext (Arv.ext V24 E25) E26) K27 (ninS (Nat.ne_of_lt (Nat.lt_of_lt_of_le (Arv.ext V24 E25).lt (Nat.le_of_eq g26.symm))) nin0)) (Ne.symm (Nat.ne_of_lt (Nat.lt_of_lt_of_le V24.lt (Nat.le_of_eq g25.symm))))) hZ (hw _ (List.mem_of_getElem? (i := 32) rfl)) (hw _ (List.mem_of_getElem? (i := 3) rfl)) (by decide) (by decide)) (g := (mkF m 91 #[.val (.int k0), .val (.int x1), .val (.int x2), .val (.int x3), .val (.int x4), .val (.int (1 : Int32)), .val (.ref b22), .val (.long (x1.toInt64)), .second, .unset, .unset, .unset] [(.ref b26), (.ref b22), (.ref b25), (.ref b25)])) rfl (by rw [hml]; rfl) (Steps.refl _) (a := b25) (argsL := [(.ref b22), (.ref b26)]) (rest := [(.ref b25)]) (lenOf pd_1 rfl) rfl (by show 2 * 0 + _ ≤ _; exact Nat.le_of_eq rfl) (hb hby at_91) (fun _ _ => ⟨rfl, rfl, (by decide : ((((0 + 1) + 1) + 1) + 0) + 0 ≤ _), (by decide : ((((0 + 1) + 3) + 3) + 0) + 0 ≤ _)⟩)
    dsimp only [Pt.U, Pt.locs, Pt.cells, Pt.slots] at X28 l28 y28 z28 st28 hQ28
    subst l28 y28 z28
    obtain ⟨rfl, N28q, K28, Fl28, Ft28⟩ := hQ28
    have N28 := Fr.app N27 N28q
    have KK28 : Keep h0 T28.heap [] := Keep.trans KK27 K28 (allS (Or.inr sz_b25) all0)
    refine own_by (T' := T28) (g' := (mkF m 94 #[.val (.int k0), .val (.int x1), .val (.int x2), .val (.int x3), .val (.int x4), .val (.int (1 : Int32)), .val (.ref b22), .val (.long (x1.toInt64)), .second, .unset, .unset, .unset] [(.ref b25)])) (fun _ k => st28.trans k) ?_
    refine own_by (T' := T28) (g' := (mkF m 96 #[.val (.int k0), .val (.int x1), .val (.int x2), .val (.int x3), .val (.int x4), .val (.int (1 : Int32)), .val (.ref b22), .val (.long (x1.toInt64)), .second, .val (.ref b25), .unset, .unset] [])) (fun _ k => XS.astore X28.here hx rfl (hb hby at_94) rfl rfl (l' := #[.val (.int k0), .val (.int x1), .val (.int x2), .val (.int x3), .val (.int x4), .val (.int (1 : Int32)), .val (.ref b22), .val (.long (x1.toInt64)), .second, .val (.ref b25), .unset, .unset]) rfl k) ?_
    refine own_by (T' := T28) (g' := (mkF m 98 #[.val (.int k0), .val (.int x1), .val (.int x2), .val (.int x3), .val (.int x4), .val (.int (1 : Int32)), .val (.ref b22), .val (.long (x1.toInt64)), .second, .val (.ref b25), .unset, .unset] [(.long (x1.toInt64))])) (fun _ k => XS.lload X28.here hx rfl (hb hby at_96) rfl k) ?_
    refine own_by (T' := T28) (g' := (mkF m 99 #[.val (.int k0), .val (.int x1), .val (.int x2), .val (.int x3), .val (.int x4), .val (.int (1 : Int32)), .val (.ref b22), .val (.long (x1.toInt64)), .second, .val (.ref b25), .unset, .unset] [(.double (FP.l2d (x1.toInt64)))])) (fun _ k => XS.l2dS X28.here hx rfl (hb hby at_98) rfl rfl k) ?_
    refine own_by (T' := T28) (g' := (mkF m 101 #[.val (.int k0), .val (.int x1), .val (.int x2), .val (.int x3), .val (.int x4), .val (.int (1 : Int32)), .val (.ref b22), .val (.long (x1.toInt64)), .second, .val (.ref b25), .unset, .unset] [(.int (1 : Int32)), (.double (FP.l2d (x1.toInt64)))])) (fun _ k => XS.iload X28.here hx rfl (hb hby at_99) rfl k) ?_
    refine own_by (T' := T28) (g' := (mkF m 102 #[.val (.int k0), .val (.int x1), .val (.int x2), .val (.int x3), .val (.int x4), .val (.int (1 : Int32)), .val (.ref b22), .val (.long (x1.toInt64)), .second, .val (.ref b25), .unset, .unset] [(.double (FP.i2d (1 : Int32))), (.double (FP.l2d (x1.toInt64)))])) (fun _ k => XS.i2dS X28.here hx rfl (hb hby at_101) rfl rfl k) ?_
    refine own_by (T' := T28) (g' := (mkF m 103 #[.val (.int k0), .val (.int x1), .val (.int x2), .val (.int x3), .val (.int x4), .val (.int (1 : Int32)), .val (.ref b22), .val (.long (x1.toInt64)), .second, .val (.ref b25), .unset, .unset] [(.double (FP.ddiv (FP.l2d (x1.toInt64)) (FP.i2d (1 : Int32))))])) (fun _ k => XS.ddivS X28.here hx rfl (hb hby at_102) rfl (own_nn _ _ (by decide)) rfl k) ?_
    refine own_by (T' := T28) (g' := (mkF m 105 #[.val (.int k0), .val (.int x1), .val (.int x2), .val (.int x3), .val (.int x4), .val (.int (1 : Int32)), .val (.ref b22), .val (.long (x1.toInt64)), .second, .val (.ref b25), .val (.double (FP.ddiv (FP.l2d (x1.toInt64)) (FP.i2d (1 : Int32)))), .second] [])) (fun _ k => XS.dstore X28.here hx rfl (hb hby at_103) rfl (l' := #[.val (.int k0), .val (.int x1), .val (.int x2), .val (.int x3), .val (.int x4), .val (.int (1 : Int32)), .val (.ref b22), .val (.long (x1.toInt64)), .second, .val (.ref b25), .val (.double (FP.ddiv (FP.l2d (x1.toInt64)) (FP.i2d (1 : Int32)))), .second]) rfl k) ?_
    refine own_by (T' := T28) (g' := (mkF m 107 #[.val (.int k0), .val (.int x1), .val (.int x2), .val (.int x3), .val (.int x4), .val (.int (1 : Int32)), .val (.ref b22), .val (.long (x1.toInt64)), .second, .val (.ref b25), .val (.double (FP.ddiv (FP.l2d (x1.toInt64)) (FP.i2d (1 : Int32)))), .second] [(.ref b25)])) (fun _ k => XS.aload X28.here hx rfl (hb hby at_105) rfl rfl k) ?_
    obtain ⟨cq29, kq29, q29a, q29b, q29c⟩ := isOf hZ rfl (Exa.keep (Exa.keep (Exa.ext E26 E_b25) K27) K28)
    obtain ⟨_, _, ⟨T29, L29, k29, n29⟩, -, X29, ⟨Lc29, hQ29, l29, y29, z29⟩, st29⟩ := X28.virtualBack hx (y := (⟨"com/example/postings/postings/index/FieldIndex", "averageLength", "()D"⟩ : MethodName)) (z := (⟨"com/example/postings/postings/index/FieldIndex", "averageLength", "()D"⟩ : MethodName)) hown (mvT hZ (hw _ (List.mem_of_getElem? (i := 40) rfl))) (mvT hZ (hw _ (List.mem_of_getElem? (i := 41) rfl))) (notFace_of_selects (args := #[]) (mvT hZ (hw _ (List.mem_of_getElem? (i := 43) rfl)))) (mvT hZ (hw _ (List.mem_of_getElem? (i := 43) rfl))) (mvT hZ (hw _ (List.mem_of_getElem? (i := 42) rfl))) (by decide) (backOf (W := 0) (av_1 l Z a0 hw [] b25 b22 k22 ((0 : Int64) + (x1.toInt64)) x1 T28.heap n0 (Nat.le_trans (Nat.le_trans (Nat.le_trans (Nat.le_trans (Nat.le_trans (Nat.le_trans Z0 E22.1) (Keep.of_wr W24).1) E25.1) E26.1) K27.1) K28.1) Fl28 Ft28 (Arv.keep (Arv.keep (Arv.ext (Arv.ext V24 E25) E26) K27 (ninS (Nat.ne_of_lt (Nat.lt_of_lt_of_le (Arv.ext V24 E25).lt (Nat.le_of_eq g26.symm))) nin0)) K28 (ninS (Nat.ne_of_lt (Nat.lt_of_lt_of_le V24.lt (Nat.le_of_eq g25.symm))) nin0))) hZ (hw _ (List.mem_of_getElem? (i := 44) rfl)) (hw _ (List.mem_of_getElem? (i := 3) rfl)) (by decide) (by decide)) q29a q29c (g := (mkF m 107 #[.val (.int k0), .val (.int x1), .val (.int x2), .val (.int x3), .val (.int x4), .val (.int (1 : Int32)), .val (.ref b22), .val (.long (x1.toInt64)), .second, .val (.ref b25), .val (.double (FP.ddiv (FP.l2d (x1.toInt64)) (FP.i2d (1 : Int32)))), .second] [(.ref b25)])) rfl (by rw [hml]; rfl) (Steps.refl _) (argsL := []) (rest := []) (lenOf pd_2 rfl) rfl (by show 2 * 0 + _ ≤ _; exact Nat.le_of_eq rfl) (hb hby at_107) (fun _ _ => ⟨rfl, rfl, (by decide : (((((0 + 1) + 1) + 1) + 0) + 0) + 0 ≤ _), (by decide : (((((0 + 1) + 3) + 3) + 0) + 0) + 0 ≤ _)⟩)
    dsimp only [Pt.U, Pt.locs, Pt.cells, Pt.slots] at X29 l29 y29 z29 st29 hQ29
    subst l29 y29 z29
    obtain ⟨rfl, N29q, e29⟩ := hQ29
    have N29 := Fr.app N28 N29q
    refine own_by (T' := T29) (g' := (mkF m 110 #[.val (.int k0), .val (.int x1), .val (.int x2), .val (.int x3), .val (.int x4), .val (.int (1 : Int32)), .val (.ref b22), .val (.long (x1.toInt64)), .second, .val (.ref b25), .val (.double (FP.ddiv (FP.l2d (x1.toInt64)) (FP.i2d (1 : Int32)))), .second] [(.double (FP.ddiv (FP.l2d ((0 : Int64) + (x1.toInt64))) (FP.i2d (1 : Int32))))])) (fun _ k => st29.trans k) ?_
    refine own_by (T' := T29) (g' := (mkF m 112 #[.val (.int k0), .val (.int x1), .val (.int x2), .val (.int x3), .val (.int x4), .val (.int (1 : Int32)), .val (.ref b22), .val (.long (x1.toInt64)), .second, .val (.ref b25), .val (.double (FP.ddiv (FP.l2d (x1.toInt64)) (FP.i2d (1 : Int32)))), .second] [(.double (FP.ddiv (FP.l2d (x1.toInt64)) (FP.i2d (1 : Int32)))), (.double (FP.ddiv (FP.l2d ((0 : Int64) + (x1.toInt64))) (FP.i2d (1 : Int32))))])) (fun _ k => XS.dload X29.here hx rfl (hb hby at_110) rfl k) ?_
    refine own_by (T' := T29) (g' := (mkF m 113 #[.val (.int k0), .val (.int x1), .val (.int x2), .val (.int x3), .val (.int x4), .val (.int (1 : Int32)), .val (.ref b22), .val (.long (x1.toInt64)), .second, .val (.ref b25), .val (.double (FP.ddiv (FP.l2d (x1.toInt64)) (FP.i2d (1 : Int32)))), .second] [(.int (0 : Int32))])) (fun _ k => XS.dcmpS X29.here hx rfl (hb hby at_112) rfl (own_dc _ _ _ (by decide) (by simp only [Int64.zero_add])) k) ?_
    refine own_by (T' := T29) (g' := (mkF m 116 #[.val (.int k0), .val (.int x1), .val (.int x2), .val (.int x3), .val (.int x4), .val (.int (1 : Int32)), .val (.ref b22), .val (.long (x1.toInt64)), .second, .val (.ref b25), .val (.double (FP.ddiv (FP.l2d (x1.toInt64)) (FP.i2d (1 : Int32)))), .second] [])) (fun _ k => XS.ifNo X29.here hx rfl (hb hby at_113) rfl ((if0 _ _).trans (teq (by decide)).2) k) ?_
    refine own_by (T' := T29) (g' := (mkF m 117 #[.val (.int k0), .val (.int x1), .val (.int x2), .val (.int x3), .val (.int x4), .val (.int (1 : Int32)), .val (.ref b22), .val (.long (x1.toInt64)), .second, .val (.ref b25), .val (.double (FP.ddiv (FP.l2d (x1.toInt64)) (FP.i2d (1 : Int32)))), .second] [(.int (1 : Int32))])) (fun _ k => XS.iconst X29.here hx rfl (hb hby at_116) k) ?_
    refine own_by (T' := T29) (g' := (mkF m 121 #[.val (.int k0), .val (.int x1), .val (.int x2), .val (.int x3), .val (.int x4), .val (.int (1 : Int32)), .val (.ref b22), .val (.long (x1.toInt64)), .second, .val (.ref b25), .val (.double (FP.ddiv (FP.l2d (x1.toInt64)) (FP.i2d (1 : Int32)))), .second] [(.int (1 : Int32))])) (fun _ k => XS.goto X29.here hx rfl (pc0 := 117) (pc' := 121) rfl (hb hby at_117) (by decide) (by decide) k) ?_
    refine own_ret X29 hlk (v := some (.int (1 : Int32))) (fun h => by rw [Bd.returns] at h; cases h) (fun fs hr => retN X29 hx (t := .boolean) Bd.returns (by simp) (hb hby at_121) hr) ?_ (by decide) (by decide)
    rw [e29]
    exact ⟨rfl, N29⟩
  · skip
    rw [hq21]
    refine own_by (T' := s₁) (g' := (mkF m 9 #[.val (.int k0), .val (.int x1), .val (.int x2), .val (.int x3), .val (.int x4), .val (.int (2 : Int32)), .unset, .unset, .unset, .unset, .unset, .unset] [(.int (2 : Int32))])) (fun _ k => XS.iload X0.here hx rfl (hb hby at_7) rfl k) ?_
    obtain ⟨T30, h30, k30, X30, e30, E30, A30, st30⟩ := newP X0 hx hZ (hw _ (List.mem_of_getElem? (i := 0) rfl)) e0 (g := (mkF m 9 #[.val (.int k0), .val (.int x1), .val (.int x2), .val (.int x3), .val (.int x4), .val (.int (2 : Int32)), .unset, .unset, .unset, .unset, .unset, .unset] [(.int (2 : Int32))])) rfl (hb hby at_9) rfl (by decide) (cap := 2) (by decide) (by decide) (by decide) (by decide)
    obtain ⟨b30, g30⟩ : ∃ z, z = h0.size := ⟨_, rfl⟩
    rw [← g30] at A30 st30
    have V_b30 : Arv Z h30 b30 k30 .int (2 : Int32) [(.int (0 : Int32)), (.int (0 : Int32))] (.int (0 : Int32)) := (Arv.new A30 (by decide)).pad (pad_rep [] (.int (0 : Int32)) 2)
    have g_b30 : n0 ≤ b30 := Nat.le_trans Z0 (Nat.le_of_eq g30.symm)
    have sz_b30 : h0.size ≤ b30 := Nat.le_trans (Keep.refl h0 []).1 (Nat.le_of_eq g30.symm)
    have K30 : Keep h0 h30 [] := Keep.ext (Keep.refl h0 []) E30
    refine own_by (T' := T30) (g' := (mkF m 11 #[.val (.int k0), .val (.int x1), .val (.int x2), .val (.int x3), .val (.int x4), .val (.int (2 : Int32)), .unset, .unset, .unset, .unset, .unset, .unset] [(.ref b30)])) (fun _ k => st30 _ k) ?_
    refine own_by (T' := T30) (g' := (mkF m 13 #[.val (.int k0), .val (.int x1), .val (.int x2), .val (.int x3), .val (.int x4), .val (.int (2 : Int32)), .val (.ref b30), .unset, .unset, .unset, .unset, .unset] [])) (fun _ k => XS.astore X30.here hx rfl (hb hby at_11) rfl rfl (l' := #[.val (.int k0), .val (.int x1), .val (.int x2), .val (.int x3), .val (.int x4), .val (.int (2 : Int32)), .val (.ref b30), .unset, .unset, .unset, .unset, .unset]) rfl k) ?_
    refine own_by (T' := T30) (g' := (mkF m 14 #[.val (.int k0), .val (.int x1), .val (.int x2), .val (.int x3), .val (.int x4), .val (.int (2 : Int32)), .val (.ref b30), .unset, .unset, .unset, .unset, .unset] [(.int x1)])) (fun _ k => XS.iloadN X30.here hx rfl (hb hby at_13) rfl k) ?_
    refine own_by (T' := T30) (g' := (mkF m 15 #[.val (.int k0), .val (.int x1), .val (.int x2), .val (.int x3), .val (.int x4), .val (.int (2 : Int32)), .val (.ref b30), .unset, .unset, .unset, .unset, .unset] [(.long (x1.toInt64))])) (fun _ k => XS.i2l X30.here hx rfl (hb hby at_14) rfl k) ?_
    refine own_by (T' := T30) (g' := (mkF m 17 #[.val (.int k0), .val (.int x1), .val (.int x2), .val (.int x3), .val (.int x4), .val (.int (2 : Int32)), .val (.ref b30), .val (.long (x1.toInt64)), .second, .unset, .unset, .unset] [])) (fun _ k => XS.lstore X30.here hx rfl (hb hby at_15) rfl (l' := #[.val (.int k0), .val (.int x1), .val (.int x2), .val (.int x3), .val (.int x4), .val (.int (2 : Int32)), .val (.ref b30), .val (.long (x1.toInt64)), .second, .unset, .unset, .unset]) rfl k) ?_
    refine own_by (T' := T30) (g' := (mkF m 19 #[.val (.int k0), .val (.int x1), .val (.int x2), .val (.int x3), .val (.int x4), .val (.int (2 : Int32)), .val (.ref b30), .val (.long (x1.toInt64)), .second, .unset, .unset, .unset] [(.ref b30)])) (fun _ k => XS.aload X30.here hx rfl (hb hby at_17) rfl rfl k) ?_
    refine own_by (T' := T30) (g' := (mkF m 20 #[.val (.int k0), .val (.int x1), .val (.int x2), .val (.int x3), .val (.int x4), .val (.int (2 : Int32)), .val (.ref b30), .val (.long (x1.toInt64)), .second, .unset, .unset, .unset] [(.int (0 : Int32)), (.ref b30)])) (fun _ k => XS.iconst X30.here hx rfl (hb hby at_19) k) ?_
    refine own_by (T' := T30) (g' := (mkF m 21 #[.val (.int k0), .val (.int x1), .val (.int x2), .val (.int x3), .val (.int x4), .val (.int (2 : Int32)), .val (.ref b30), .val (.long (x1.toInt64)), .second, .unset, .unset, .unset] [(.int x1), (.int (0 : Int32)), (.ref b30)])) (fun _ k => XS.iloadN X30.here hx rfl (hb hby at_20) rfl k) ?_
    obtain ⟨cl31, Ar31, q31, S31, N_31, H31, G31⟩ := id V_b30
    have hin31 : ¬ ((0 : Int32) < 0 ∨ cl31.slots.size ≤ ((0 : Int32)).toNatClampNeg) := inb_of S31 ⟨by decide, by decide⟩
    obtain ⟨T32, h32, X32, e32, W32, st32⟩ := stI X30 hx hZ e30 Ar31 (j := (0 : Int32)) hin31 (g := (mkF m 21 #[.val (.int k0), .val (.int x1), .val (.int x2), .val (.int x3), .val (.int x4), .val (.int (2 : Int32)), .val (.ref b30), .val (.long (x1.toInt64)), .second, .unset, .unset, .unset] [(.int x1), (.int (0 : Int32)), (.ref b30)])) rfl rfl (hb hby at_21)
    have V32 : Arv Z h32 b30 k30 .int (2 : Int32) [(.int x1), (.int (0 : Int32))] (.int (0 : Int32)) := Arv.set Ar31 q31 S31 N_31 H31 G31 rfl W32 0 rfl (Nat.le_of_ble_eq_true rfl)
    have K32 : Keep h0 h32 [] := Keep.wr K30 W32 (Or.inr sz_b30)
    have N32 := Fr.snoc X32 N0 g_b30
    refine own_by (T' := T32) (g' := (mkF m 22 #[.val (.int k0), .val (.int x1), .val (.int x2), .val (.int x3), .val (.int x4), .val (.int (2 : Int32)), .val (.ref b30), .val (.long (x1.toInt64)), .second, .unset, .unset, .unset] [])) (fun _ k => st32 _ k) ?_
    refine own_by (T' := T32) (g' := (mkF m 24 #[.val (.int k0), .val (.int x1), .val (.int x2), .val (.int x3), .val (.int x4), .val (.int (2 : Int32)), .val (.ref b30), .val (.long (x1.toInt64)), .second, .unset, .unset, .unset] [(.int (2 : Int32))])) (fun _ k => XS.iload X32.here hx rfl (hb hby at_22) rfl k) ?_
    refine own_by (T' := T32) (g' := (mkF m 25 #[.val (.int k0), .val (.int x1), .val (.int x2), .val (.int x3), .val (.int x4), .val (.int (2 : Int32)), .val (.ref b30), .val (.long (x1.toInt64)), .second, .unset, .unset, .unset] [(.int (1 : Int32)), (.int (2 : Int32))])) (fun _ k => XS.iconst X32.here hx rfl (hb hby at_24) k) ?_
    refine own_by (T' := T32) (g' := (mkF m 28 #[.val (.int k0), .val (.int x1), .val (.int x2), .val (.int x3), .val (.int x4), .val (.int (2 : Int32)), .val (.ref b30), .val (.long (x1.toInt64)), .second, .unset, .unset, .unset] [])) (fun _ k => XS.icmpNo X32.here hx rfl (hb hby at_25) rfl (tlt (by decide)).2.2.2 k) ?_
    refine own_by (T' := T32) (g' := (mkF m 30 #[.val (.int k0), .val (.int x1), .val (.int x2), .val (.int x3), .val (.int x4), .val (.int (2 : Int32)), .val (.ref b30), .val (.long (x1.toInt64)), .second, .unset, .unset, .unset] [(.ref b30)])) (fun _ k => XS.aload X32.here hx rfl (hb hby at_28) rfl rfl k) ?_
    refine own_by (T' := T32) (g' := (mkF m 31 #[.val (.int k0), .val (.int x1), .val (.int x2), .val (.int x3), .val (.int x4), .val (.int (2 : Int32)), .val (.ref b30), .val (.long (x1.toInt64)), .second, .unset, .unset, .unset] [(.int (1 : Int32)), (.ref b30)])) (fun _ k => XS.iconst X32.here hx rfl (hb hby at_30) k) ?_
    refine own_by (T' := T32) (g' := (mkF m 32 #[.val (.int k0), .val (.int x1), .val (.int x2), .val (.int x3), .val (.int x4), .val (.int (2 : Int32)), .val (.ref b30), .val (.long (x1.toInt64)), .second, .unset, .unset, .unset] [(.int x2), (.int (1 : Int32)), (.ref b30)])) (fun _ k => XS.iloadN X32.here hx rfl (hb hby at_31) rfl k) ?_
    obtain ⟨cl33, Ar33, q33, S33, N_33, H33, G33⟩ := id V32
    have hin33 : ¬ ((1 : Int32) < 0 ∨ cl33.slots.size ≤ ((1 : Int32)).toNatClampNeg) := inb_of S33 ⟨by decide, by decide⟩
    obtain ⟨T34, h34, X34, e34, W34, st34⟩ := stI X32 hx hZ e32 Ar33 (j := (1 : Int32)) hin33 (g := (mkF m 32 #[.val (.int k0), .val (.int x1), .val (.int x2), .val (.int x3), .val (.int x4), .val (.int (2 : Int32)), .val (.ref b30), .val (.long (x1.toInt64)), .second, .unset, .unset, .unset] [(.int x2), (.int (1 : Int32)), (.ref b30)])) rfl rfl (hb hby at_32)
    have V34 : Arv Z h34 b30 k30 .int (2 : Int32) [(.int x1), (.int x2)] (.int (0 : Int32)) := Arv.set Ar33 q33 S33 N_33 H33 G33 rfl W34 1 rfl (Nat.le_of_ble_eq_true rfl)
    have K34 : Keep h0 h34 [] := Keep.wr K32 W34 (Or.inr sz_b30)
    have N34 := Fr.snoc X34 N32 g_b30
    refine own_by (T' := T34) (g' := (mkF m 33 #[.val (.int k0), .val (.int x1), .val (.int x2), .val (.int x3), .val (.int x4), .val (.int (2 : Int32)), .val (.ref b30), .val (.long (x1.toInt64)), .second, .unset, .unset, .unset] [])) (fun _ k => st34 _ k) ?_
    refine own_by (T' := T34) (g' := (mkF m 35 #[.val (.int k0), .val (.int x1), .val (.int x2), .val (.int x3), .val (.int x4), .val (.int (2 : Int32)), .val (.ref b30), .val (.long (x1.toInt64)), .second, .unset, .unset, .unset] [(.long (x1.toInt64))])) (fun _ k => XS.lload X34.here hx rfl (hb hby at_33) rfl k) ?_
    refine own_by (T' := T34) (g' := (mkF m 36 #[.val (.int k0), .val (.int x1), .val (.int x2), .val (.int x3), .val (.int x4), .val (.int (2 : Int32)), .val (.ref b30), .val (.long (x1.toInt64)), .second, .unset, .unset, .unset] [(.int x2), (.long (x1.toInt64))])) (fun _ k => XS.iloadN X34.here hx rfl (hb hby at_35) rfl k) ?_
    refine own_by (T' := T34) (g' := (mkF m 37 #[.val (.int k0), .val (.int x1), .val (.int x2), .val (.int x3), .val (.int x4), .val (.int (2 : Int32)), .val (.ref b30), .val (.long (x1.toInt64)), .second, .unset, .unset, .unset] [(.long (x2.toInt64)), (.long (x1.toInt64))])) (fun _ k => XS.i2l X34.here hx rfl (hb hby at_36) rfl k) ?_
    refine own_by (T' := T34) (g' := (mkF m 38 #[.val (.int k0), .val (.int x1), .val (.int x2), .val (.int x3), .val (.int x4), .val (.int (2 : Int32)), .val (.ref b30), .val (.long (x1.toInt64)), .second, .unset, .unset, .unset] [(.long ((x1.toInt64) + (x2.toInt64)))])) (fun _ k => XS.ladd X34.here hx rfl (hb hby at_37) rfl k) ?_
    refine own_by (T' := T34) (g' := (mkF m 40 #[.val (.int k0), .val (.int x1), .val (.int x2), .val (.int x3), .val (.int x4), .val (.int (2 : Int32)), .val (.ref b30), .val (.long ((x1.toInt64) + (x2.toInt64))), .second, .unset, .unset, .unset] [])) (fun _ k => XS.lstore X34.here hx rfl (hb hby at_38) rfl (l' := #[.val (.int k0), .val (.int x1), .val (.int x2), .val (.int x3), .val (.int x4), .val (.int (2 : Int32)), .val (.ref b30), .val (.long ((x1.toInt64) + (x2.toInt64))), .second, .unset, .unset, .unset]) rfl k) ?_
    refine own_by (T' := T34) (g' := (mkF m 42 #[.val (.int k0), .val (.int x1), .val (.int x2), .val (.int x3), .val (.int x4), .val (.int (2 : Int32)), .val (.ref b30), .val (.long ((x1.toInt64) + (x2.toInt64))), .second, .unset, .unset, .unset] [(.int (2 : Int32))])) (fun _ k => XS.iload X34.here hx rfl (hb hby at_40) rfl k) ?_
    refine own_by (T' := T34) (g' := (mkF m 43 #[.val (.int k0), .val (.int x1), .val (.int x2), .val (.int x3), .val (.int x4), .val (.int (2 : Int32)), .val (.ref b30), .val (.long ((x1.toInt64) + (x2.toInt64))), .second, .unset, .unset, .unset] [(.int (2 : Int32)), (.int (2 : Int32))])) (fun _ k => XS.iconst X34.here hx rfl (hb hby at_42) k) ?_
    refine own_by (T' := T34) (g' := (mkF m 58 #[.val (.int k0), .val (.int x1), .val (.int x2), .val (.int x3), .val (.int x4), .val (.int (2 : Int32)), .val (.ref b30), .val (.long ((x1.toInt64) + (x2.toInt64))), .second, .unset, .unset, .unset] [])) (fun _ k => XS.icmpYes X34.here hx rfl (pc0 := 43) (pc' := 58) rfl (hb hby at_43) rfl (flt (by decide)).2.2.2 (by decide) (by decide) k) ?_
    refine own_by (T' := T34) (g' := (mkF m 60 #[.val (.int k0), .val (.int x1), .val (.int x2), .val (.int x3), .val (.int x4), .val (.int (2 : Int32)), .val (.ref b30), .val (.long ((x1.toInt64) + (x2.toInt64))), .second, .unset, .unset, .unset] [(.int (2 : Int32))])) (fun _ k => XS.iload X34.here hx rfl (hb hby at_58) rfl k) ?_
    refine own_by (T' := T34) (g' := (mkF m 61 #[.val (.int k0), .val (.int x1), .val (.int x2), .val (.int x3), .val (.int x4), .val (.int (2 : Int32)), .val (.ref b30), .val (.long ((x1.toInt64) + (x2.toInt64))), .second, .unset, .unset, .unset] [(.int (3 : Int32)), (.int (2 : Int32))])) (fun _ k => XS.iconst X34.here hx rfl (hb hby at_60) k) ?_
    refine own_by (T' := T34) (g' := (mkF m 78 #[.val (.int k0), .val (.int x1), .val (.int x2), .val (.int x3), .val (.int x4), .val (.int (2 : Int32)), .val (.ref b30), .val (.long ((x1.toInt64) + (x2.toInt64))), .second, .unset, .unset, .unset] [])) (fun _ k => XS.icmpYes X34.here hx rfl (pc0 := 61) (pc' := 78) rfl (hb hby at_61) rfl (flt (by decide)).2.2.2 (by decide) (by decide) k) ?_
    obtain ⟨T35, h35, X35, e35, E35, A35, D35, -, st35⟩ := newO X34 hx hZ hown (hw _ (List.mem_of_getElem? (i := 1) rfl)) (hw _ (List.mem_of_getElem? (i := 2) rfl)) (hw _ (List.mem_of_getElem? (i := 3) rfl)) e34 (g := (mkF m 78 #[.val (.int k0), .val (.int x1), .val (.int x2), .val (.int x3), .val (.int x4), .val (.int (2 : Int32)), .val (.ref b30), .val (.long ((x1.toInt64) + (x2.toInt64))), .second, .unset, .unset, .unset] [])) rfl (hb hby at_78) (by decide) (by decide)
    obtain ⟨b35, g35⟩ : ∃ z, z = h34.size := ⟨_, rfl⟩
    rw [← g35] at A35 D35 st35
    have E_b35 : Exa Z h35 b35 "com/example/postings/postings/index/FieldIndex" := A35
    have F_lengths_b35 : Fld Z h35 b35 "com/example/postings/postings/index/FieldIndex" "lengths" "[I" .null := D35 (Or.inr (hw _ (List.mem_of_getElem? (i := 35) rfl))) (ty := (.array .int)) (by decide)
    have F_totalLength_b35 : Fld Z h35 b35 "com/example/postings/postings/index/FieldIndex" "totalLength" "J" (.long (0 : Int64)) := D35 (Or.inr (hw _ (List.mem_of_getElem? (i := 37) rfl))) (ty := .long) (by decide)
    have F_segments_b35 : Fld Z h35 b35 "com/example/postings/postings/index/FieldIndex" "segments" "Ljava/util/List;" .null := D35 (Or.inr (hw _ (List.mem_of_getElem? (i := 39) rfl))) (ty := (.object "java/util/List")) (by decide)
    have g_b35 : n0 ≤ b35 := Nat.le_trans (Nat.le_trans (Nat.le_trans (Nat.le_trans Z0 E30.1) (Keep.of_wr W32).1) (Keep.of_wr W34).1) (Nat.le_of_eq g35.symm)
    have sz_b35 : h0.size ≤ b35 := Nat.le_trans K34.1 (Nat.le_of_eq g35.symm)
    have K35 : Keep h0 h35 [] := Keep.ext K34 E35
    refine own_by (T' := T35) (g' := (mkF m 81 #[.val (.int k0), .val (.int x1), .val (.int x2), .val (.int x3), .val (.int x4), .val (.int (2 : Int32)), .val (.ref b30), .val (.long ((x1.toInt64) + (x2.toInt64))), .second, .unset, .unset, .unset] [(.ref b35)])) (fun _ k => st35 _ k) ?_
    refine own_by (T' := T35) (g' := (mkF m 82 #[.val (.int k0), .val (.int x1), .val (.int x2), .val (.int x3), .val (.int x4), .val (.int (2 : Int32)), .val (.ref b30), .val (.long ((x1.toInt64) + (x2.toInt64))), .second, .unset, .unset, .unset] [(.ref b35), (.ref b35)])) (fun _ k => XS.dup X35.here hx rfl (hb hby at_81) rfl rfl k) ?_
    refine own_by (T' := T35) (g' := (mkF m 84 #[.val (.int k0), .val (.int x1), .val (.int x2), .val (.int x3), .val (.int x4), .val (.int (2 : Int32)), .val (.ref b30), .val (.long ((x1.toInt64) + (x2.toInt64))), .second, .unset, .unset, .unset] [(.ref b30), (.ref b35), (.ref b35)])) (fun _ k => XS.aload X35.here hx rfl (hb hby at_82) rfl rfl k) ?_
    obtain ⟨T36, h36, X36, e36, E36, A36, D36, -, st36⟩ := newO X35 hx hZ hown (hw _ (List.mem_of_getElem? (i := 4) rfl)) (hw _ (List.mem_of_getElem? (i := 5) rfl)) (hw _ (List.mem_of_getElem? (i := 6) rfl)) e35 (g := (mkF m 84 #[.val (.int k0), .val (.int x1), .val (.int x2), .val (.int x3), .val (.int x4), .val (.int (2 : Int32)), .val (.ref b30), .val (.long ((x1.toInt64) + (x2.toInt64))), .second, .unset, .unset, .unset] [(.ref b30), (.ref b35), (.ref b35)])) rfl (hb hby at_84) (by decide) (by decide)
    obtain ⟨b36, g36⟩ : ∃ z, z = h35.size := ⟨_, rfl⟩
    rw [← g36] at A36 D36 st36
    have E_b36 : Exa Z h36 b36 "java/util/ArrayList" := A36
    have F_modCount_b36 : Fld Z h36 b36 "java/util/AbstractList" "modCount" "I" (.int (0 : Int32)) := D36 (Or.inl (hw _ (List.mem_of_getElem? (i := 26) rfl))) (ty := .int) (by decide)
    have F_elementData_b36 : Fld Z h36 b36 "java/util/ArrayList" "elementData" "[Ljava/lang/Object;" .null := D36 (Or.inl (hw _ (List.mem_of_getElem? (i := 29) rfl))) (ty := (.array (.object "java/lang/Object"))) (by decide)
    have g_b36 : n0 ≤ b36 := Nat.le_trans (Nat.le_trans (Nat.le_trans (Nat.le_trans (Nat.le_trans Z0 E30.1) (Keep.of_wr W32).1) (Keep.of_wr W34).1) E35.1) (Nat.le_of_eq g36.symm)
    have sz_b36 : h0.size ≤ b36 := Nat.le_trans K35.1 (Nat.le_of_eq g36.symm)
    have K36 : Keep h0 h36 [] := Keep.ext K35 E36
    refine own_by (T' := T36) (g' := (mkF m 87 #[.val (.int k0), .val (.int x1), .val (.int x2), .val (.int x3), .val (.int x4), .val (.int (2 : Int32)), .val (.ref b30), .val (.long ((x1.toInt64) + (x2.toInt64))), .second, .unset, .unset, .unset] [(.ref b36), (.ref b30), (.ref b35), (.ref b35)])) (fun _ k => st36 _ k) ?_
    refine own_by (T' := T36) (g' := (mkF m 88 #[.val (.int k0), .val (.int x1), .val (.int x2), .val (.int x3), .val (.int x4), .val (.int (2 : Int32)), .val (.ref b30), .val (.long ((x1.toInt64) + (x2.toInt64))), .second, .unset, .unset, .unset] [(.ref b36), (.ref b36), (.ref b30), (.ref b35), (.ref b35)])) (fun _ k => XS.dup X36.here hx rfl (hb hby at_87) rfl rfl k) ?_
    obtain ⟨_, _, ⟨T37, L37, k37, n37⟩, -, X37, ⟨Lc37, hQ37, l37, y37, z37⟩, st37⟩ := X36.specialBack hx (y := (⟨"java/util/ArrayList", "<init>", "()V"⟩ : MethodName)) rfl hown (mvT hZ (hw _ (List.mem_of_getElem? (i := 7) rfl))) (mvT hZ (hw _ (List.mem_of_getElem? (i := 8) rfl))) (mvT hZ (hw _ (List.mem_of_getElem? (i := 9) rfl))) (by decide) (backOf (W := 4) (rm1 l Z a0 hw [] b36 de h36 n0 (Nat.le_trans (Nat.le_trans (Nat.le_trans (Nat.le_trans (Nat.le_trans Z0 E30.1) (Keep.of_wr W32).1) (Keep.of_wr W34).1) E35.1) E36.1) (Old.ext (Old.ext (Old.wr (Old.wr (Old.ext O0 E30) W32 g_b30) W34 g_b30) E35) E36) S_DE E_b36 F_modCount_b36 F_elementData_b36 g_b36) hZ (hw _ (List.mem_of_getElem? (i := 9) rfl)) (hw _ (List.mem_of_getElem? (i := 6) rfl)) (by decide) (by decide)) (g := (mkF m 88 #[.val (.int k0), .val (.int x1), .val (.int x2), .val (.int x3), .val (.int x4), .val (.int (2 : Int32)), .val (.ref b30), .val (.long ((x1.toInt64) + (x2.toInt64))), .second, .unset, .unset, .unset] [(.ref b36), (.ref b36), (.ref b30), (.ref b35), (.ref b35)])) rfl (by rw [hml]; rfl) (Steps.refl _) (a := b36) (argsL := []) (rest := [(.ref b36), (.ref b30), (.ref b35), (.ref b35)]) (lenOf pd_0 rfl) rfl (by show 2 * 0 + _ ≤ _; exact Nat.le_of_eq rfl) (hb hby at_88) (fun _ _ => ⟨rfl, e36, (by decide : (((0 + 1) + 1) + 1) + 0 ≤ _), (by decide : (((0 + 2) + 3) + 3) + 0 ≤ _)⟩)
    dsimp only [Pt.U, Pt.locs, Pt.cells, Pt.slots] at X37 l37 y37 z37 st37 hQ37
    subst l37 y37 z37
    obtain ⟨rfl, N37q, K37⟩ := hQ37
    have N37 := Fr.app N34 N37q
    have KK37 : Keep h0 T37.heap [] := Keep.trans K36 K37 (allS (Or.inr sz_b36) all0)
    refine own_by (T' := T37) (g' := (mkF m 91 #[.val (.int k0), .val (.int x1), .val (.int x2), .val (.int x3), .val (.int x4), .val (.int (2 : Int32)), .val (.ref b30), .val (.long ((x1.toInt64) + (x2.toInt64))), .second, .unset, .unset, .unset] [(.ref b36), (.ref b30), (.ref b35), (.ref b35)])) (fun _ k => st37.trans k) ?_
    obtain ⟨_, _, ⟨T38, L38, k38, n38⟩, -, X38, ⟨Lc38, hQ38, l38, y38, z38⟩, st38⟩ := X37.specialBack hx (y := (⟨"com/example/postings/postings/index/FieldIndex", "<init>", "([ILjava/util/List;)V"⟩ : MethodName)) rfl hown (mvT hZ (hw _ (List.mem_of_getElem? (i := 30) rfl))) (mvT hZ (hw _ (List.mem_of_getElem? (i := 31) rfl))) (mvT hZ (hw _ (List.mem_of_getElem? (i := 32) rfl))) (by decide) (backOf (W := 1) (fi_2 l Z a0 hw [] b35 b30 b36 k30 x1 x2 T37.heap n0 (Nat.le_trans (Nat.le_trans (Nat.le_trans (Nat.le_trans (Nat.le_trans (Nat.le_trans Z0 E30.1) (Keep.of_wr W32).1) (Keep.of_wr W34).1) E35.1) E36.1) K37.1) (Exa.keep (Exa.ext E36 E_b35) K37) (Fld.keep (Fld.ext E36 F_lengths_b35) K37 (ninS (Nat.ne_of_lt (Nat.lt_of_lt_of_le E_b35.lt (Nat.le_of_eq g36.symm))) nin0)) (Fld.keep (Fld.ext E36 F_totalLength_b35) K37 (ninS (Nat.ne_of_lt (Nat.lt_of_lt_of_le E_b35.lt (Nat.le_of_eq g36.symm))) nin0)) (Fld.keep (Fld.ext E36 F_segments_b35) K37 (ninS (Nat.ne_of_lt (Nat.lt_of_lt_of_le E_b35.lt (Nat.le_of_eq g36.symm))) nin0)) g_b35 (Arv.keep (Arv.ext (Arv.ext V34 E35) E36) K37 (ninS (Nat.ne_of_lt (Nat.lt_of_lt_of_le (Arv.ext V34 E35).lt (Nat.le_of_eq g36.symm))) nin0)) (Ne.symm (Nat.ne_of_lt (Nat.lt_of_lt_of_le V34.lt (Nat.le_of_eq g35.symm))))) hZ (hw _ (List.mem_of_getElem? (i := 32) rfl)) (hw _ (List.mem_of_getElem? (i := 3) rfl)) (by decide) (by decide)) (g := (mkF m 91 #[.val (.int k0), .val (.int x1), .val (.int x2), .val (.int x3), .val (.int x4), .val (.int (2 : Int32)), .val (.ref b30), .val (.long ((x1.toInt64) + (x2.toInt64))), .second, .unset, .unset, .unset] [(.ref b36), (.ref b30), (.ref b35), (.ref b35)])) rfl (by rw [hml]; rfl) (Steps.refl _) (a := b35) (argsL := [(.ref b30), (.ref b36)]) (rest := [(.ref b35)]) (lenOf pd_1 rfl) rfl (by show 2 * 0 + _ ≤ _; exact Nat.le_of_eq rfl) (hb hby at_91) (fun _ _ => ⟨rfl, rfl, (by decide : ((((0 + 1) + 1) + 1) + 0) + 0 ≤ _), (by decide : ((((0 + 2) + 3) + 3) + 0) + 0 ≤ _)⟩)
    dsimp only [Pt.U, Pt.locs, Pt.cells, Pt.slots] at X38 l38 y38 z38 st38 hQ38
    subst l38 y38 z38
    obtain ⟨rfl, N38q, K38, Fl38, Ft38⟩ := hQ38
    have N38 := Fr.app N37 N38q
    have KK38 : Keep h0 T38.heap [] := Keep.trans KK37 K38 (allS (Or.inr sz_b35) all0)
    refine own_by (T' := T38) (g' := (mkF m 94 #[.val (.int k0), .val (.int x1), .val (.int x2), .val (.int x3), .val (.int x4), .val (.int (2 : Int32)), .val (.ref b30), .val (.long ((x1.toInt64) + (x2.toInt64))), .second, .unset, .unset, .unset] [(.ref b35)])) (fun _ k => st38.trans k) ?_
    refine own_by (T' := T38) (g' := (mkF m 96 #[.val (.int k0), .val (.int x1), .val (.int x2), .val (.int x3), .val (.int x4), .val (.int (2 : Int32)), .val (.ref b30), .val (.long ((x1.toInt64) + (x2.toInt64))), .second, .val (.ref b35), .unset, .unset] [])) (fun _ k => XS.astore X38.here hx rfl (hb hby at_94) rfl rfl (l' := #[.val (.int k0), .val (.int x1), .val (.int x2), .val (.int x3), .val (.int x4), .val (.int (2 : Int32)), .val (.ref b30), .val (.long ((x1.toInt64) + (x2.toInt64))), .second, .val (.ref b35), .unset, .unset]) rfl k) ?_
    refine own_by (T' := T38) (g' := (mkF m 98 #[.val (.int k0), .val (.int x1), .val (.int x2), .val (.int x3), .val (.int x4), .val (.int (2 : Int32)), .val (.ref b30), .val (.long ((x1.toInt64) + (x2.toInt64))), .second, .val (.ref b35), .unset, .unset] [(.long ((x1.toInt64) + (x2.toInt64)))])) (fun _ k => XS.lload X38.here hx rfl (hb hby at_96) rfl k) ?_
    refine own_by (T' := T38) (g' := (mkF m 99 #[.val (.int k0), .val (.int x1), .val (.int x2), .val (.int x3), .val (.int x4), .val (.int (2 : Int32)), .val (.ref b30), .val (.long ((x1.toInt64) + (x2.toInt64))), .second, .val (.ref b35), .unset, .unset] [(.double (FP.l2d ((x1.toInt64) + (x2.toInt64))))])) (fun _ k => XS.l2dS X38.here hx rfl (hb hby at_98) rfl rfl k) ?_
    refine own_by (T' := T38) (g' := (mkF m 101 #[.val (.int k0), .val (.int x1), .val (.int x2), .val (.int x3), .val (.int x4), .val (.int (2 : Int32)), .val (.ref b30), .val (.long ((x1.toInt64) + (x2.toInt64))), .second, .val (.ref b35), .unset, .unset] [(.int (2 : Int32)), (.double (FP.l2d ((x1.toInt64) + (x2.toInt64))))])) (fun _ k => XS.iload X38.here hx rfl (hb hby at_99) rfl k) ?_
    refine own_by (T' := T38) (g' := (mkF m 102 #[.val (.int k0), .val (.int x1), .val (.int x2), .val (.int x3), .val (.int x4), .val (.int (2 : Int32)), .val (.ref b30), .val (.long ((x1.toInt64) + (x2.toInt64))), .second, .val (.ref b35), .unset, .unset] [(.double (FP.i2d (2 : Int32))), (.double (FP.l2d ((x1.toInt64) + (x2.toInt64))))])) (fun _ k => XS.i2dS X38.here hx rfl (hb hby at_101) rfl rfl k) ?_
    refine own_by (T' := T38) (g' := (mkF m 103 #[.val (.int k0), .val (.int x1), .val (.int x2), .val (.int x3), .val (.int x4), .val (.int (2 : Int32)), .val (.ref b30), .val (.long ((x1.toInt64) + (x2.toInt64))), .second, .val (.ref b35), .unset, .unset] [(.double (FP.ddiv (FP.l2d ((x1.toInt64) + (x2.toInt64))) (FP.i2d (2 : Int32))))])) (fun _ k => XS.ddivS X38.here hx rfl (hb hby at_102) rfl (own_nn _ _ (by decide)) rfl k) ?_
    refine own_by (T' := T38) (g' := (mkF m 105 #[.val (.int k0), .val (.int x1), .val (.int x2), .val (.int x3), .val (.int x4), .val (.int (2 : Int32)), .val (.ref b30), .val (.long ((x1.toInt64) + (x2.toInt64))), .second, .val (.ref b35), .val (.double (FP.ddiv (FP.l2d ((x1.toInt64) + (x2.toInt64))) (FP.i2d (2 : Int32)))), .second] [])) (fun _ k => XS.dstore X38.here hx rfl (hb hby at_103) rfl (l' := #[.val (.int k0), .val (.int x1), .val (.int x2), .val (.int x3), .val (.int x4), .val (.int (2 : Int32)), .val (.ref b30), .val (.long ((x1.toInt64) + (x2.toInt64))), .second, .val (.ref b35), .val (.double (FP.ddiv (FP.l2d ((x1.toInt64) + (x2.toInt64))) (FP.i2d (2 : Int32)))), .second]) rfl k) ?_
    refine own_by (T' := T38) (g' := (mkF m 107 #[.val (.int k0), .val (.int x1), .val (.int x2), .val (.int x3), .val (.int x4), .val (.int (2 : Int32)), .val (.ref b30), .val (.long ((x1.toInt64) + (x2.toInt64))), .second, .val (.ref b35), .val (.double (FP.ddiv (FP.l2d ((x1.toInt64) + (x2.toInt64))) (FP.i2d (2 : Int32)))), .second] [(.ref b35)])) (fun _ k => XS.aload X38.here hx rfl (hb hby at_105) rfl rfl k) ?_
    obtain ⟨cq39, kq39, q39a, q39b, q39c⟩ := isOf hZ rfl (Exa.keep (Exa.keep (Exa.ext E36 E_b35) K37) K38)
    obtain ⟨_, _, ⟨T39, L39, k39, n39⟩, -, X39, ⟨Lc39, hQ39, l39, y39, z39⟩, st39⟩ := X38.virtualBack hx (y := (⟨"com/example/postings/postings/index/FieldIndex", "averageLength", "()D"⟩ : MethodName)) (z := (⟨"com/example/postings/postings/index/FieldIndex", "averageLength", "()D"⟩ : MethodName)) hown (mvT hZ (hw _ (List.mem_of_getElem? (i := 40) rfl))) (mvT hZ (hw _ (List.mem_of_getElem? (i := 41) rfl))) (notFace_of_selects (args := #[]) (mvT hZ (hw _ (List.mem_of_getElem? (i := 43) rfl)))) (mvT hZ (hw _ (List.mem_of_getElem? (i := 43) rfl))) (mvT hZ (hw _ (List.mem_of_getElem? (i := 42) rfl))) (by decide) (backOf (W := 0) (av_2 l Z a0 hw [] b35 b30 k30 (((0 : Int64) + (x1.toInt64)) + (x2.toInt64)) x1 x2 T38.heap n0 (Nat.le_trans (Nat.le_trans (Nat.le_trans (Nat.le_trans (Nat.le_trans (Nat.le_trans (Nat.le_trans Z0 E30.1) (Keep.of_wr W32).1) (Keep.of_wr W34).1) E35.1) E36.1) K37.1) K38.1) Fl38 Ft38 (Arv.keep (Arv.keep (Arv.ext (Arv.ext V34 E35) E36) K37 (ninS (Nat.ne_of_lt (Nat.lt_of_lt_of_le (Arv.ext V34 E35).lt (Nat.le_of_eq g36.symm))) nin0)) K38 (ninS (Nat.ne_of_lt (Nat.lt_of_lt_of_le V34.lt (Nat.le_of_eq g35.symm))) nin0))) hZ (hw _ (List.mem_of_getElem? (i := 44) rfl)) (hw _ (List.mem_of_getElem? (i := 3) rfl)) (by decide) (by decide)) q39a q39c (g := (mkF m 107 #[.val (.int k0), .val (.int x1), .val (.int x2), .val (.int x3), .val (.int x4), .val (.int (2 : Int32)), .val (.ref b30), .val (.long ((x1.toInt64) + (x2.toInt64))), .second, .val (.ref b35), .val (.double (FP.ddiv (FP.l2d ((x1.toInt64) + (x2.toInt64))) (FP.i2d (2 : Int32)))), .second] [(.ref b35)])) rfl (by rw [hml]; rfl) (Steps.refl _) (argsL := []) (rest := []) (lenOf pd_2 rfl) rfl (by show 2 * 0 + _ ≤ _; exact Nat.le_of_eq rfl) (hb hby at_107) (fun _ _ => ⟨rfl, rfl, (by decide : (((((0 + 1) + 1) + 1) + 0) + 0) + 0 ≤ _), (by decide : (((((0 + 2) + 3) + 3) + 0) + 0) + 0 ≤ _)⟩)
    dsimp only [Pt.U, Pt.locs, Pt.cells, Pt.slots] at X39 l39 y39 z39 st39 hQ39
    subst l39 y39 z39
    obtain ⟨rfl, N39q, e39⟩ := hQ39
    have N39 := Fr.app N38 N39q
    refine own_by (T' := T39) (g' := (mkF m 110 #[.val (.int k0), .val (.int x1), .val (.int x2), .val (.int x3), .val (.int x4), .val (.int (2 : Int32)), .val (.ref b30), .val (.long ((x1.toInt64) + (x2.toInt64))), .second, .val (.ref b35), .val (.double (FP.ddiv (FP.l2d ((x1.toInt64) + (x2.toInt64))) (FP.i2d (2 : Int32)))), .second] [(.double (FP.ddiv (FP.l2d (((0 : Int64) + (x1.toInt64)) + (x2.toInt64))) (FP.i2d (2 : Int32))))])) (fun _ k => st39.trans k) ?_
    refine own_by (T' := T39) (g' := (mkF m 112 #[.val (.int k0), .val (.int x1), .val (.int x2), .val (.int x3), .val (.int x4), .val (.int (2 : Int32)), .val (.ref b30), .val (.long ((x1.toInt64) + (x2.toInt64))), .second, .val (.ref b35), .val (.double (FP.ddiv (FP.l2d ((x1.toInt64) + (x2.toInt64))) (FP.i2d (2 : Int32)))), .second] [(.double (FP.ddiv (FP.l2d ((x1.toInt64) + (x2.toInt64))) (FP.i2d (2 : Int32)))), (.double (FP.ddiv (FP.l2d (((0 : Int64) + (x1.toInt64)) + (x2.toInt64))) (FP.i2d (2 : Int32))))])) (fun _ k => XS.dload X39.here hx rfl (hb hby at_110) rfl k) ?_
    refine own_by (T' := T39) (g' := (mkF m 113 #[.val (.int k0), .val (.int x1), .val (.int x2), .val (.int x3), .val (.int x4), .val (.int (2 : Int32)), .val (.ref b30), .val (.long ((x1.toInt64) + (x2.toInt64))), .second, .val (.ref b35), .val (.double (FP.ddiv (FP.l2d ((x1.toInt64) + (x2.toInt64))) (FP.i2d (2 : Int32)))), .second] [(.int (0 : Int32))])) (fun _ k => XS.dcmpS X39.here hx rfl (hb hby at_112) rfl (own_dc _ _ _ (by decide) (by simp only [Int64.zero_add])) k) ?_
    refine own_by (T' := T39) (g' := (mkF m 116 #[.val (.int k0), .val (.int x1), .val (.int x2), .val (.int x3), .val (.int x4), .val (.int (2 : Int32)), .val (.ref b30), .val (.long ((x1.toInt64) + (x2.toInt64))), .second, .val (.ref b35), .val (.double (FP.ddiv (FP.l2d ((x1.toInt64) + (x2.toInt64))) (FP.i2d (2 : Int32)))), .second] [])) (fun _ k => XS.ifNo X39.here hx rfl (hb hby at_113) rfl ((if0 _ _).trans (teq (by decide)).2) k) ?_
    refine own_by (T' := T39) (g' := (mkF m 117 #[.val (.int k0), .val (.int x1), .val (.int x2), .val (.int x3), .val (.int x4), .val (.int (2 : Int32)), .val (.ref b30), .val (.long ((x1.toInt64) + (x2.toInt64))), .second, .val (.ref b35), .val (.double (FP.ddiv (FP.l2d ((x1.toInt64) + (x2.toInt64))) (FP.i2d (2 : Int32)))), .second] [(.int (1 : Int32))])) (fun _ k => XS.iconst X39.here hx rfl (hb hby at_116) k) ?_
    refine own_by (T' := T39) (g' := (mkF m 121 #[.val (.int k0), .val (.int x1), .val (.int x2), .val (.int x3), .val (.int x4), .val (.int (2 : Int32)), .val (.ref b30), .val (.long ((x1.toInt64) + (x2.toInt64))), .second, .val (.ref b35), .val (.double (FP.ddiv (FP.l2d ((x1.toInt64) + (x2.toInt64))) (FP.i2d (2 : Int32)))), .second] [(.int (1 : Int32))])) (fun _ k => XS.goto X39.here hx rfl (pc0 := 117) (pc' := 121) rfl (hb hby at_117) (by decide) (by decide) k) ?_
    refine own_ret X39 hlk (v := some (.int (1 : Int32))) (fun h => by rw [Bd.returns] at h; cases h) (fun fs hr => retN X39 hx (t := .boolean) Bd.returns (by simp) (hb hby at_121) hr) ?_ (by decide) (by decide)
    rw [e39]
    exact ⟨rfl, N39⟩
  · skip
    rw [hq21]
    refine own_by (T' := s₁) (g' := (mkF m 9 #[.val (.int k0), .val (.int x1), .val (.int x2), .val (.int x3), .val (.int x4), .val (.int (3 : Int32)), .unset, .unset, .unset, .unset, .unset, .unset] [(.int (3 : Int32))])) (fun _ k => XS.iload X0.here hx rfl (hb hby at_7) rfl k) ?_
    obtain ⟨T40, h40, k40, X40, e40, E40, A40, st40⟩ := newP X0 hx hZ (hw _ (List.mem_of_getElem? (i := 0) rfl)) e0 (g := (mkF m 9 #[.val (.int k0), .val (.int x1), .val (.int x2), .val (.int x3), .val (.int x4), .val (.int (3 : Int32)), .unset, .unset, .unset, .unset, .unset, .unset] [(.int (3 : Int32))])) rfl (hb hby at_9) rfl (by decide) (cap := 3) (by decide) (by decide) (by decide) (by decide)
    obtain ⟨b40, g40⟩ : ∃ z, z = h0.size := ⟨_, rfl⟩
    rw [← g40] at A40 st40
    have V_b40 : Arv Z h40 b40 k40 .int (3 : Int32) [(.int (0 : Int32)), (.int (0 : Int32)), (.int (0 : Int32))] (.int (0 : Int32)) := (Arv.new A40 (by decide)).pad (pad_rep [] (.int (0 : Int32)) 3)
    have g_b40 : n0 ≤ b40 := Nat.le_trans Z0 (Nat.le_of_eq g40.symm)
    have sz_b40 : h0.size ≤ b40 := Nat.le_trans (Keep.refl h0 []).1 (Nat.le_of_eq g40.symm)
    have K40 : Keep h0 h40 [] := Keep.ext (Keep.refl h0 []) E40
    refine own_by (T' := T40) (g' := (mkF m 11 #[.val (.int k0), .val (.int x1), .val (.int x2), .val (.int x3), .val (.int x4), .val (.int (3 : Int32)), .unset, .unset, .unset, .unset, .unset, .unset] [(.ref b40)])) (fun _ k => st40 _ k) ?_
    refine own_by (T' := T40) (g' := (mkF m 13 #[.val (.int k0), .val (.int x1), .val (.int x2), .val (.int x3), .val (.int x4), .val (.int (3 : Int32)), .val (.ref b40), .unset, .unset, .unset, .unset, .unset] [])) (fun _ k => XS.astore X40.here hx rfl (hb hby at_11) rfl rfl (l' := #[.val (.int k0), .val (.int x1), .val (.int x2), .val (.int x3), .val (.int x4), .val (.int (3 : Int32)), .val (.ref b40), .unset, .unset, .unset, .unset, .unset]) rfl k) ?_
    refine own_by (T' := T40) (g' := (mkF m 14 #[.val (.int k0), .val (.int x1), .val (.int x2), .val (.int x3), .val (.int x4), .val (.int (3 : Int32)), .val (.ref b40), .unset, .unset, .unset, .unset, .unset] [(.int x1)])) (fun _ k => XS.iloadN X40.here hx rfl (hb hby at_13) rfl k) ?_
    refine own_by (T' := T40) (g' := (mkF m 15 #[.val (.int k0), .val (.int x1), .val (.int x2), .val (.int x3), .val (.int x4), .val (.int (3 : Int32)), .val (.ref b40), .unset, .unset, .unset, .unset, .unset] [(.long (x1.toInt64))])) (fun _ k => XS.i2l X40.here hx rfl (hb hby at_14) rfl k) ?_
    refine own_by (T' := T40) (g' := (mkF m 17 #[.val (.int k0), .val (.int x1), .val (.int x2), .val (.int x3), .val (.int x4), .val (.int (3 : Int32)), .val (.ref b40), .val (.long (x1.toInt64)), .second, .unset, .unset, .unset] [])) (fun _ k => XS.lstore X40.here hx rfl (hb hby at_15) rfl (l' := #[.val (.int k0), .val (.int x1), .val (.int x2), .val (.int x3), .val (.int x4), .val (.int (3 : Int32)), .val (.ref b40), .val (.long (x1.toInt64)), .second, .unset, .unset, .unset]) rfl k) ?_
    refine own_by (T' := T40) (g' := (mkF m 19 #[.val (.int k0), .val (.int x1), .val (.int x2), .val (.int x3), .val (.int x4), .val (.int (3 : Int32)), .val (.ref b40), .val (.long (x1.toInt64)), .second, .unset, .unset, .unset] [(.ref b40)])) (fun _ k => XS.aload X40.here hx rfl (hb hby at_17) rfl rfl k) ?_
    refine own_by (T' := T40) (g' := (mkF m 20 #[.val (.int k0), .val (.int x1), .val (.int x2), .val (.int x3), .val (.int x4), .val (.int (3 : Int32)), .val (.ref b40), .val (.long (x1.toInt64)), .second, .unset, .unset, .unset] [(.int (0 : Int32)), (.ref b40)])) (fun _ k => XS.iconst X40.here hx rfl (hb hby at_19) k) ?_
    refine own_by (T' := T40) (g' := (mkF m 21 #[.val (.int k0), .val (.int x1), .val (.int x2), .val (.int x3), .val (.int x4), .val (.int (3 : Int32)), .val (.ref b40), .val (.long (x1.toInt64)), .second, .unset, .unset, .unset] [(.int x1), (.int (0 : Int32)), (.ref b40)])) (fun _ k => XS.iloadN X40.here hx rfl (hb hby at_20) rfl k) ?_
    obtain ⟨cl41, Ar41, q41, S41, N_41, H41, G41⟩ := id V_b40
    have hin41 : ¬ ((0 : Int32) < 0 ∨ cl41.slots.size ≤ ((0 : Int32)).toNatClampNeg) := inb_of S41 ⟨by decide, by decide⟩
    obtain ⟨T42, h42, X42, e42, W42, st42⟩ := stI X40 hx hZ e40 Ar41 (j := (0 : Int32)) hin41 (g := (mkF m 21 #[.val (.int k0), .val (.int x1), .val (.int x2), .val (.int x3), .val (.int x4), .val (.int (3 : Int32)), .val (.ref b40), .val (.long (x1.toInt64)), .second, .unset, .unset, .unset] [(.int x1), (.int (0 : Int32)), (.ref b40)])) rfl rfl (hb hby at_21)
    have V42 : Arv Z h42 b40 k40 .int (3 : Int32) [(.int x1), (.int (0 : Int32)), (.int (0 : Int32))] (.int (0 : Int32)) := Arv.set Ar41 q41 S41 N_41 H41 G41 rfl W42 0 rfl (Nat.le_of_ble_eq_true rfl)
    have K42 : Keep h0 h42 [] := Keep.wr K40 W42 (Or.inr sz_b40)
    have N42 := Fr.snoc X42 N0 g_b40
    refine own_by (T' := T42) (g' := (mkF m 22 #[.val (.int k0), .val (.int x1), .val (.int x2), .val (.int x3), .val (.int x4), .val (.int (3 : Int32)), .val (.ref b40), .val (.long (x1.toInt64)), .second, .unset, .unset, .unset] [])) (fun _ k => st42 _ k) ?_
    refine own_by (T' := T42) (g' := (mkF m 24 #[.val (.int k0), .val (.int x1), .val (.int x2), .val (.int x3), .val (.int x4), .val (.int (3 : Int32)), .val (.ref b40), .val (.long (x1.toInt64)), .second, .unset, .unset, .unset] [(.int (3 : Int32))])) (fun _ k => XS.iload X42.here hx rfl (hb hby at_22) rfl k) ?_
    refine own_by (T' := T42) (g' := (mkF m 25 #[.val (.int k0), .val (.int x1), .val (.int x2), .val (.int x3), .val (.int x4), .val (.int (3 : Int32)), .val (.ref b40), .val (.long (x1.toInt64)), .second, .unset, .unset, .unset] [(.int (1 : Int32)), (.int (3 : Int32))])) (fun _ k => XS.iconst X42.here hx rfl (hb hby at_24) k) ?_
    refine own_by (T' := T42) (g' := (mkF m 28 #[.val (.int k0), .val (.int x1), .val (.int x2), .val (.int x3), .val (.int x4), .val (.int (3 : Int32)), .val (.ref b40), .val (.long (x1.toInt64)), .second, .unset, .unset, .unset] [])) (fun _ k => XS.icmpNo X42.here hx rfl (hb hby at_25) rfl (tlt (by decide)).2.2.2 k) ?_
    refine own_by (T' := T42) (g' := (mkF m 30 #[.val (.int k0), .val (.int x1), .val (.int x2), .val (.int x3), .val (.int x4), .val (.int (3 : Int32)), .val (.ref b40), .val (.long (x1.toInt64)), .second, .unset, .unset, .unset] [(.ref b40)])) (fun _ k => XS.aload X42.here hx rfl (hb hby at_28) rfl rfl k) ?_
    refine own_by (T' := T42) (g' := (mkF m 31 #[.val (.int k0), .val (.int x1), .val (.int x2), .val (.int x3), .val (.int x4), .val (.int (3 : Int32)), .val (.ref b40), .val (.long (x1.toInt64)), .second, .unset, .unset, .unset] [(.int (1 : Int32)), (.ref b40)])) (fun _ k => XS.iconst X42.here hx rfl (hb hby at_30) k) ?_
    refine own_by (T' := T42) (g' := (mkF m 32 #[.val (.int k0), .val (.int x1), .val (.int x2), .val (.int x3), .val (.int x4), .val (.int (3 : Int32)), .val (.ref b40), .val (.long (x1.toInt64)), .second, .unset, .unset, .unset] [(.int x2), (.int (1 : Int32)), (.ref b40)])) (fun _ k => XS.iloadN X42.here hx rfl (hb hby at_31) rfl k) ?_
    obtain ⟨cl43, Ar43, q43, S43, N_43, H43, G43⟩ := id V42
    have hin43 : ¬ ((1 : Int32) < 0 ∨ cl43.slots.size ≤ ((1 : Int32)).toNatClampNeg) := inb_of S43 ⟨by decide, by decide⟩
    obtain ⟨T44, h44, X44, e44, W44, st44⟩ := stI X42 hx hZ e42 Ar43 (j := (1 : Int32)) hin43 (g := (mkF m 32 #[.val (.int k0), .val (.int x1), .val (.int x2), .val (.int x3), .val (.int x4), .val (.int (3 : Int32)), .val (.ref b40), .val (.long (x1.toInt64)), .second, .unset, .unset, .unset] [(.int x2), (.int (1 : Int32)), (.ref b40)])) rfl rfl (hb hby at_32)
    have V44 : Arv Z h44 b40 k40 .int (3 : Int32) [(.int x1), (.int x2), (.int (0 : Int32))] (.int (0 : Int32)) := Arv.set Ar43 q43 S43 N_43 H43 G43 rfl W44 1 rfl (Nat.le_of_ble_eq_true rfl)
    have K44 : Keep h0 h44 [] := Keep.wr K42 W44 (Or.inr sz_b40)
    have N44 := Fr.snoc X44 N42 g_b40
    refine own_by (T' := T44) (g' := (mkF m 33 #[.val (.int k0), .val (.int x1), .val (.int x2), .val (.int x3), .val (.int x4), .val (.int (3 : Int32)), .val (.ref b40), .val (.long (x1.toInt64)), .second, .unset, .unset, .unset] [])) (fun _ k => st44 _ k) ?_
    refine own_by (T' := T44) (g' := (mkF m 35 #[.val (.int k0), .val (.int x1), .val (.int x2), .val (.int x3), .val (.int x4), .val (.int (3 : Int32)), .val (.ref b40), .val (.long (x1.toInt64)), .second, .unset, .unset, .unset] [(.long (x1.toInt64))])) (fun _ k => XS.lload X44.here hx rfl (hb hby at_33) rfl k) ?_
    refine own_by (T' := T44) (g' := (mkF m 36 #[.val (.int k0), .val (.int x1), .val (.int x2), .val (.int x3), .val (.int x4), .val (.int (3 : Int32)), .val (.ref b40), .val (.long (x1.toInt64)), .second, .unset, .unset, .unset] [(.int x2), (.long (x1.toInt64))])) (fun _ k => XS.iloadN X44.here hx rfl (hb hby at_35) rfl k) ?_
    refine own_by (T' := T44) (g' := (mkF m 37 #[.val (.int k0), .val (.int x1), .val (.int x2), .val (.int x3), .val (.int x4), .val (.int (3 : Int32)), .val (.ref b40), .val (.long (x1.toInt64)), .second, .unset, .unset, .unset] [(.long (x2.toInt64)), (.long (x1.toInt64))])) (fun _ k => XS.i2l X44.here hx rfl (hb hby at_36) rfl k) ?_
    refine own_by (T' := T44) (g' := (mkF m 38 #[.val (.int k0), .val (.int x1), .val (.int x2), .val (.int x3), .val (.int x4), .val (.int (3 : Int32)), .val (.ref b40), .val (.long (x1.toInt64)), .second, .unset, .unset, .unset] [(.long ((x1.toInt64) + (x2.toInt64)))])) (fun _ k => XS.ladd X44.here hx rfl (hb hby at_37) rfl k) ?_
    refine own_by (T' := T44) (g' := (mkF m 40 #[.val (.int k0), .val (.int x1), .val (.int x2), .val (.int x3), .val (.int x4), .val (.int (3 : Int32)), .val (.ref b40), .val (.long ((x1.toInt64) + (x2.toInt64))), .second, .unset, .unset, .unset] [])) (fun _ k => XS.lstore X44.here hx rfl (hb hby at_38) rfl (l' := #[.val (.int k0), .val (.int x1), .val (.int x2), .val (.int x3), .val (.int x4), .val (.int (3 : Int32)), .val (.ref b40), .val (.long ((x1.toInt64) + (x2.toInt64))), .second, .unset, .unset, .unset]) rfl k) ?_
    refine own_by (T' := T44) (g' := (mkF m 42 #[.val (.int k0), .val (.int x1), .val (.int x2), .val (.int x3), .val (.int x4), .val (.int (3 : Int32)), .val (.ref b40), .val (.long ((x1.toInt64) + (x2.toInt64))), .second, .unset, .unset, .unset] [(.int (3 : Int32))])) (fun _ k => XS.iload X44.here hx rfl (hb hby at_40) rfl k) ?_
    refine own_by (T' := T44) (g' := (mkF m 43 #[.val (.int k0), .val (.int x1), .val (.int x2), .val (.int x3), .val (.int x4), .val (.int (3 : Int32)), .val (.ref b40), .val (.long ((x1.toInt64) + (x2.toInt64))), .second, .unset, .unset, .unset] [(.int (2 : Int32)), (.int (3 : Int32))])) (fun _ k => XS.iconst X44.here hx rfl (hb hby at_42) k) ?_
    refine own_by (T' := T44) (g' := (mkF m 46 #[.val (.int k0), .val (.int x1), .val (.int x2), .val (.int x3), .val (.int x4), .val (.int (3 : Int32)), .val (.ref b40), .val (.long ((x1.toInt64) + (x2.toInt64))), .second, .unset, .unset, .unset] [])) (fun _ k => XS.icmpNo X44.here hx rfl (hb hby at_43) rfl (tlt (by decide)).2.2.2 k) ?_
    refine own_by (T' := T44) (g' := (mkF m 48 #[.val (.int k0), .val (.int x1), .val (.int x2), .val (.int x3), .val (.int x4), .val (.int (3 : Int32)), .val (.ref b40), .val (.long ((x1.toInt64) + (x2.toInt64))), .second, .unset, .unset, .unset] [(.ref b40)])) (fun _ k => XS.aload X44.here hx rfl (hb hby at_46) rfl rfl k) ?_
    refine own_by (T' := T44) (g' := (mkF m 49 #[.val (.int k0), .val (.int x1), .val (.int x2), .val (.int x3), .val (.int x4), .val (.int (3 : Int32)), .val (.ref b40), .val (.long ((x1.toInt64) + (x2.toInt64))), .second, .unset, .unset, .unset] [(.int (2 : Int32)), (.ref b40)])) (fun _ k => XS.iconst X44.here hx rfl (hb hby at_48) k) ?_
    refine own_by (T' := T44) (g' := (mkF m 50 #[.val (.int k0), .val (.int x1), .val (.int x2), .val (.int x3), .val (.int x4), .val (.int (3 : Int32)), .val (.ref b40), .val (.long ((x1.toInt64) + (x2.toInt64))), .second, .unset, .unset, .unset] [(.int x3), (.int (2 : Int32)), (.ref b40)])) (fun _ k => XS.iloadN X44.here hx rfl (hb hby at_49) rfl k) ?_
    obtain ⟨cl45, Ar45, q45, S45, N_45, H45, G45⟩ := id V44
    have hin45 : ¬ ((2 : Int32) < 0 ∨ cl45.slots.size ≤ ((2 : Int32)).toNatClampNeg) := inb_of S45 ⟨by decide, by decide⟩
    obtain ⟨T46, h46, X46, e46, W46, st46⟩ := stI X44 hx hZ e44 Ar45 (j := (2 : Int32)) hin45 (g := (mkF m 50 #[.val (.int k0), .val (.int x1), .val (.int x2), .val (.int x3), .val (.int x4), .val (.int (3 : Int32)), .val (.ref b40), .val (.long ((x1.toInt64) + (x2.toInt64))), .second, .unset, .unset, .unset] [(.int x3), (.int (2 : Int32)), (.ref b40)])) rfl rfl (hb hby at_50)
    have V46 : Arv Z h46 b40 k40 .int (3 : Int32) [(.int x1), (.int x2), (.int x3)] (.int (0 : Int32)) := Arv.set Ar45 q45 S45 N_45 H45 G45 rfl W46 2 rfl (Nat.le_of_ble_eq_true rfl)
    have K46 : Keep h0 h46 [] := Keep.wr K44 W46 (Or.inr sz_b40)
    have N46 := Fr.snoc X46 N44 g_b40
    refine own_by (T' := T46) (g' := (mkF m 51 #[.val (.int k0), .val (.int x1), .val (.int x2), .val (.int x3), .val (.int x4), .val (.int (3 : Int32)), .val (.ref b40), .val (.long ((x1.toInt64) + (x2.toInt64))), .second, .unset, .unset, .unset] [])) (fun _ k => st46 _ k) ?_
    refine own_by (T' := T46) (g' := (mkF m 53 #[.val (.int k0), .val (.int x1), .val (.int x2), .val (.int x3), .val (.int x4), .val (.int (3 : Int32)), .val (.ref b40), .val (.long ((x1.toInt64) + (x2.toInt64))), .second, .unset, .unset, .unset] [(.long ((x1.toInt64) + (x2.toInt64)))])) (fun _ k => XS.lload X46.here hx rfl (hb hby at_51) rfl k) ?_
    refine own_by (T' := T46) (g' := (mkF m 54 #[.val (.int k0), .val (.int x1), .val (.int x2), .val (.int x3), .val (.int x4), .val (.int (3 : Int32)), .val (.ref b40), .val (.long ((x1.toInt64) + (x2.toInt64))), .second, .unset, .unset, .unset] [(.int x3), (.long ((x1.toInt64) + (x2.toInt64)))])) (fun _ k => XS.iloadN X46.here hx rfl (hb hby at_53) rfl k) ?_
    refine own_by (T' := T46) (g' := (mkF m 55 #[.val (.int k0), .val (.int x1), .val (.int x2), .val (.int x3), .val (.int x4), .val (.int (3 : Int32)), .val (.ref b40), .val (.long ((x1.toInt64) + (x2.toInt64))), .second, .unset, .unset, .unset] [(.long (x3.toInt64)), (.long ((x1.toInt64) + (x2.toInt64)))])) (fun _ k => XS.i2l X46.here hx rfl (hb hby at_54) rfl k) ?_
    refine own_by (T' := T46) (g' := (mkF m 56 #[.val (.int k0), .val (.int x1), .val (.int x2), .val (.int x3), .val (.int x4), .val (.int (3 : Int32)), .val (.ref b40), .val (.long ((x1.toInt64) + (x2.toInt64))), .second, .unset, .unset, .unset] [(.long (((x1.toInt64) + (x2.toInt64)) + (x3.toInt64)))])) (fun _ k => XS.ladd X46.here hx rfl (hb hby at_55) rfl k) ?_
    refine own_by (T' := T46) (g' := (mkF m 58 #[.val (.int k0), .val (.int x1), .val (.int x2), .val (.int x3), .val (.int x4), .val (.int (3 : Int32)), .val (.ref b40), .val (.long (((x1.toInt64) + (x2.toInt64)) + (x3.toInt64))), .second, .unset, .unset, .unset] [])) (fun _ k => XS.lstore X46.here hx rfl (hb hby at_56) rfl (l' := #[.val (.int k0), .val (.int x1), .val (.int x2), .val (.int x3), .val (.int x4), .val (.int (3 : Int32)), .val (.ref b40), .val (.long (((x1.toInt64) + (x2.toInt64)) + (x3.toInt64))), .second, .unset, .unset, .unset]) rfl k) ?_
    refine own_by (T' := T46) (g' := (mkF m 60 #[.val (.int k0), .val (.int x1), .val (.int x2), .val (.int x3), .val (.int x4), .val (.int (3 : Int32)), .val (.ref b40), .val (.long (((x1.toInt64) + (x2.toInt64)) + (x3.toInt64))), .second, .unset, .unset, .unset] [(.int (3 : Int32))])) (fun _ k => XS.iload X46.here hx rfl (hb hby at_58) rfl k) ?_
    refine own_by (T' := T46) (g' := (mkF m 61 #[.val (.int k0), .val (.int x1), .val (.int x2), .val (.int x3), .val (.int x4), .val (.int (3 : Int32)), .val (.ref b40), .val (.long (((x1.toInt64) + (x2.toInt64)) + (x3.toInt64))), .second, .unset, .unset, .unset] [(.int (3 : Int32)), (.int (3 : Int32))])) (fun _ k => XS.iconst X46.here hx rfl (hb hby at_60) k) ?_
    refine own_by (T' := T46) (g' := (mkF m 78 #[.val (.int k0), .val (.int x1), .val (.int x2), .val (.int x3), .val (.int x4), .val (.int (3 : Int32)), .val (.ref b40), .val (.long (((x1.toInt64) + (x2.toInt64)) + (x3.toInt64))), .second, .unset, .unset, .unset] [])) (fun _ k => XS.icmpYes X46.here hx rfl (pc0 := 61) (pc' := 78) rfl (hb hby at_61) rfl (flt (by decide)).2.2.2 (by decide) (by decide) k) ?_
    obtain ⟨T47, h47, X47, e47, E47, A47, D47, -, st47⟩ := newO X46 hx hZ hown (hw _ (List.mem_of_getElem? (i := 1) rfl)) (hw _ (List.mem_of_getElem? (i := 2) rfl)) (hw _ (List.mem_of_getElem? (i := 3) rfl)) e46 (g := (mkF m 78 #[.val (.int k0), .val (.int x1), .val (.int x2), .val (.int x3), .val (.int x4), .val (.int (3 : Int32)), .val (.ref b40), .val (.long (((x1.toInt64) + (x2.toInt64)) + (x3.toInt64))), .second, .unset, .unset, .unset] [])) rfl (hb hby at_78) (by decide) (by decide)
    obtain ⟨b47, g47⟩ : ∃ z, z = h46.size := ⟨_, rfl⟩
    rw [← g47] at A47 D47 st47
    have E_b47 : Exa Z h47 b47 "com/example/postings/postings/index/FieldIndex" := A47
    have F_lengths_b47 : Fld Z h47 b47 "com/example/postings/postings/index/FieldIndex" "lengths" "[I" .null := D47 (Or.inr (hw _ (List.mem_of_getElem? (i := 35) rfl))) (ty := (.array .int)) (by decide)
    have F_totalLength_b47 : Fld Z h47 b47 "com/example/postings/postings/index/FieldIndex" "totalLength" "J" (.long (0 : Int64)) := D47 (Or.inr (hw _ (List.mem_of_getElem? (i := 37) rfl))) (ty := .long) (by decide)
    have F_segments_b47 : Fld Z h47 b47 "com/example/postings/postings/index/FieldIndex" "segments" "Ljava/util/List;" .null := D47 (Or.inr (hw _ (List.mem_of_getElem? (i := 39) rfl))) (ty := (.object "java/util/List")) (by decide)
    have g_b47 : n0 ≤ b47 := Nat.le_trans (Nat.le_trans (Nat.le_trans (Nat.le_trans (Nat.le_trans Z0 E40.1) (Keep.of_wr W42).1) (Keep.of_wr W44).1) (Keep.of_wr W46).1) (Nat.le_of_eq g47.symm)
    have sz_b47 : h0.size ≤ b47 := Nat.le_trans K46.1 (Nat.le_of_eq g47.symm)
    have K47 : Keep h0 h47 [] := Keep.ext K46 E47
    refine own_by (T' := T47) (g' := (mkF m 81 #[.val (.int k0), .val (.int x1), .val (.int x2), .val (.int x3), .val (.int x4), .val (.int (3 : Int32)), .val (.ref b40), .val (.long (((x1.toInt64) + (x2.toInt64)) + (x3.toInt64))), .second, .unset, .unset, .unset] [(.ref b47)])) (fun _ k => st47 _ k) ?_
    refine own_by (T' := T47) (g' := (mkF m 82 #[.val (.int k0), .val (.int x1), .val (.int x2), .val (.int x3), .val (.int x4), .val (.int (3 : Int32)), .val (.ref b40), .val (.long (((x1.toInt64) + (x2.toInt64)) + (x3.toInt64))), .second, .unset, .unset, .unset] [(.ref b47), (.ref b47)])) (fun _ k => XS.dup X47.here hx rfl (hb hby at_81) rfl rfl k) ?_
    refine own_by (T' := T47) (g' := (mkF m 84 #[.val (.int k0), .val (.int x1), .val (.int x2), .val (.int x3), .val (.int x4), .val (.int (3 : Int32)), .val (.ref b40), .val (.long (((x1.toInt64) + (x2.toInt64)) + (x3.toInt64))), .second, .unset, .unset, .unset] [(.ref b40), (.ref b47), (.ref b47)])) (fun _ k => XS.aload X47.here hx rfl (hb hby at_82) rfl rfl k) ?_
    obtain ⟨T48, h48, X48, e48, E48, A48, D48, -, st48⟩ := newO X47 hx hZ hown (hw _ (List.mem_of_getElem? (i := 4) rfl)) (hw _ (List.mem_of_getElem? (i := 5) rfl)) (hw _ (List.mem_of_getElem? (i := 6) rfl)) e47 (g := (mkF m 84 #[.val (.int k0), .val (.int x1), .val (.int x2), .val (.int x3), .val (.int x4), .val (.int (3 : Int32)), .val (.ref b40), .val (.long (((x1.toInt64) + (x2.toInt64)) + (x3.toInt64))), .second, .unset, .unset, .unset] [(.ref b40), (.ref b47), (.ref b47)])) rfl (hb hby at_84) (by decide) (by decide)
    obtain ⟨b48, g48⟩ : ∃ z, z = h47.size := ⟨_, rfl⟩
    rw [← g48] at A48 D48 st48
    have E_b48 : Exa Z h48 b48 "java/util/ArrayList" := A48
    have F_modCount_b48 : Fld Z h48 b48 "java/util/AbstractList" "modCount" "I" (.int (0 : Int32)) := D48 (Or.inl (hw _ (List.mem_of_getElem? (i := 26) rfl))) (ty := .int) (by decide)
    have F_elementData_b48 : Fld Z h48 b48 "java/util/ArrayList" "elementData" "[Ljava/lang/Object;" .null := D48 (Or.inl (hw _ (List.mem_of_getElem? (i := 29) rfl))) (ty := (.array (.object "java/lang/Object"))) (by decide)
    have g_b48 : n0 ≤ b48 := Nat.le_trans (Nat.le_trans (Nat.le_trans (Nat.le_trans (Nat.le_trans (Nat.le_trans Z0 E40.1) (Keep.of_wr W42).1) (Keep.of_wr W44).1) (Keep.of_wr W46).1) E47.1) (Nat.le_of_eq g48.symm)
    have sz_b48 : h0.size ≤ b48 := Nat.le_trans K47.1 (Nat.le_of_eq g48.symm)
    have K48 : Keep h0 h48 [] := Keep.ext K47 E48
    refine own_by (T' := T48) (g' := (mkF m 87 #[.val (.int k0), .val (.int x1), .val (.int x2), .val (.int x3), .val (.int x4), .val (.int (3 : Int32)), .val (.ref b40), .val (.long (((x1.toInt64) + (x2.toInt64)) + (x3.toInt64))), .second, .unset, .unset, .unset] [(.ref b48), (.ref b40), (.ref b47), (.ref b47)])) (fun _ k => st48 _ k) ?_
    refine own_by (T' := T48) (g' := (mkF m 88 #[.val (.int k0), .val (.int x1), .val (.int x2), .val (.int x3), .val (.int x4), .val (.int (3 : Int32)), .val (.ref b40), .val (.long (((x1.toInt64) + (x2.toInt64)) + (x3.toInt64))), .second, .unset, .unset, .unset] [(.ref b48), (.ref b48), (.ref b40), (.ref b47), (.ref b47)])) (fun _ k => XS.dup X48.here hx rfl (hb hby at_87) rfl rfl k) ?_
    obtain ⟨_, _, ⟨T49, L49, k49, n49⟩, -, X49, ⟨Lc49, hQ49, l49, y49, z49⟩, st49⟩ := X48.specialBack hx (y := (⟨"java/util/ArrayList", "<init>", "()V"⟩ : MethodName)) rfl hown (mvT hZ (hw _ (List.mem_of_getElem? (i := 7) rfl))) (mvT hZ (hw _ (List.mem_of_getElem? (i := 8) rfl))) (mvT hZ (hw _ (List.mem_of_getElem? (i := 9) rfl))) (by decide) (backOf (W := 4) (rm1 l Z a0 hw [] b48 de h48 n0 (Nat.le_trans (Nat.le_trans (Nat.le_trans (Nat.le_trans (Nat.le_trans (Nat.le_trans Z0 E40.1) (Keep.of_wr W42).1) (Keep.of_wr W44).1) (Keep.of_wr W46).1) E47.1) E48.1) (Old.ext (Old.ext (Old.wr (Old.wr (Old.wr (Old.ext O0 E40) W42 g_b40) W44 g_b40) W46 g_b40) E47) E48) S_DE E_b48 F_modCount_b48 F_elementData_b48 g_b48) hZ (hw _ (List.mem_of_getElem? (i := 9) rfl)) (hw _ (List.mem_of_getElem? (i := 6) rfl)) (by decide) (by decide)) (g := (mkF m 88 #[.val (.int k0), .val (.int x1), .val (.int x2), .val (.int x3), .val (.int x4), .val (.int (3 : Int32)), .val (.ref b40), .val (.long (((x1.toInt64) + (x2.toInt64)) + (x3.toInt64))), .second, .unset, .unset, .unset] [(.ref b48), (.ref b48), (.ref b40), (.ref b47), (.ref b47)])) rfl (by rw [hml]; rfl) (Steps.refl _) (a := b48) (argsL := []) (rest := [(.ref b48), (.ref b40), (.ref b47), (.ref b47)]) (lenOf pd_0 rfl) rfl (by show 2 * 0 + _ ≤ _; exact Nat.le_of_eq rfl) (hb hby at_88) (fun _ _ => ⟨rfl, e48, (by decide : (((0 + 1) + 1) + 1) + 0 ≤ _), (by decide : (((0 + 3) + 3) + 3) + 0 ≤ _)⟩)
    dsimp only [Pt.U, Pt.locs, Pt.cells, Pt.slots] at X49 l49 y49 z49 st49 hQ49
    subst l49 y49 z49
    obtain ⟨rfl, N49q, K49⟩ := hQ49
    have N49 := Fr.app N46 N49q
    have KK49 : Keep h0 T49.heap [] := Keep.trans K48 K49 (allS (Or.inr sz_b48) all0)
    refine own_by (T' := T49) (g' := (mkF m 91 #[.val (.int k0), .val (.int x1), .val (.int x2), .val (.int x3), .val (.int x4), .val (.int (3 : Int32)), .val (.ref b40), .val (.long (((x1.toInt64) + (x2.toInt64)) + (x3.toInt64))), .second, .unset, .unset, .unset] [(.ref b48), (.ref b40), (.ref b47), (.ref b47)])) (fun _ k => st49.trans k) ?_
    obtain ⟨_, _, ⟨T50, L50, k50, n50⟩, -, X50, ⟨Lc50, hQ50, l50, y50, z50⟩, st50⟩ := X49.specialBack hx (y := (⟨"com/example/postings/postings/index/FieldIndex", "<init>", "([ILjava/util/List;)V"⟩ : MethodName)) rfl hown (mvT hZ (hw _ (List.mem_of_getElem? (i := 30) rfl))) (mvT hZ (hw _ (List.mem_of_getElem? (i := 31) rfl))) (mvT hZ (hw _ (List.mem_of_getElem? (i := 32) rfl))) (by decide) (backOf (W := 1) (fi_3 l Z a0 hw [] b47 b40 b48 k40 x1 x2 x3 T49.heap n0 (Nat.le_trans (Nat.le_trans (Nat.le_trans (Nat.le_trans (Nat.le_trans (Nat.le_trans (Nat.le_trans Z0 E40.1) (Keep.of_wr W42).1) (Keep.of_wr W44).1) (Keep.of_wr W46).1) E47.1) E48.1) K49.1) (Exa.keep (Exa.ext E48 E_b47) K49) (Fld.keep (Fld.ext E48 F_lengths_b47) K49 (ninS (Nat.ne_of_lt (Nat.lt_of_lt_of_le E_b47.lt (Nat.le_of_eq g48.symm))) nin0)) (Fld.keep (Fld.ext E48 F_totalLength_b47) K49 (ninS (Nat.ne_of_lt (Nat.lt_of_lt_of_le E_b47.lt (Nat.le_of_eq g48.symm))) nin0)) (Fld.keep (Fld.ext E48 F_segments_b47) K49 (ninS (Nat.ne_of_lt (Nat.lt_of_lt_of_le E_b47.lt (Nat.le_of_eq g48.symm))) nin0)) g_b47 (Arv.keep (Arv.ext (Arv.ext V46 E47) E48) K49 (ninS (Nat.ne_of_lt (Nat.lt_of_lt_of_le (Arv.ext V46 E47).lt (Nat.le_of_eq g48.symm))) nin0)) (Ne.symm (Nat.ne_of_lt (Nat.lt_of_lt_of_le V46.lt (Nat.le_of_eq g47.symm))))) hZ (hw _ (List.mem_of_getElem? (i := 32) rfl)) (hw _ (List.mem_of_getElem? (i := 3) rfl)) (by decide) (by decide)) (g := (mkF m 91 #[.val (.int k0), .val (.int x1), .val (.int x2), .val (.int x3), .val (.int x4), .val (.int (3 : Int32)), .val (.ref b40), .val (.long (((x1.toInt64) + (x2.toInt64)) + (x3.toInt64))), .second, .unset, .unset, .unset] [(.ref b48), (.ref b40), (.ref b47), (.ref b47)])) rfl (by rw [hml]; rfl) (Steps.refl _) (a := b47) (argsL := [(.ref b40), (.ref b48)]) (rest := [(.ref b47)]) (lenOf pd_1 rfl) rfl (by show 2 * 0 + _ ≤ _; exact Nat.le_of_eq rfl) (hb hby at_91) (fun _ _ => ⟨rfl, rfl, (by decide : ((((0 + 1) + 1) + 1) + 0) + 0 ≤ _), (by decide : ((((0 + 3) + 3) + 3) + 0) + 0 ≤ _)⟩)
    dsimp only [Pt.U, Pt.locs, Pt.cells, Pt.slots] at X50 l50 y50 z50 st50 hQ50
    subst l50 y50 z50
    obtain ⟨rfl, N50q, K50, Fl50, Ft50⟩ := hQ50
    have N50 := Fr.app N49 N50q
    have KK50 : Keep h0 T50.heap [] := Keep.trans KK49 K50 (allS (Or.inr sz_b47) all0)
    refine own_by (T' := T50) (g' := (mkF m 94 #[.val (.int k0), .val (.int x1), .val (.int x2), .val (.int x3), .val (.int x4), .val (.int (3 : Int32)), .val (.ref b40), .val (.long (((x1.toInt64) + (x2.toInt64)) + (x3.toInt64))), .second, .unset, .unset, .unset] [(.ref b47)])) (fun _ k => st50.trans k) ?_
    refine own_by (T' := T50) (g' := (mkF m 96 #[.val (.int k0), .val (.int x1), .val (.int x2), .val (.int x3), .val (.int x4), .val (.int (3 : Int32)), .val (.ref b40), .val (.long (((x1.toInt64) + (x2.toInt64)) + (x3.toInt64))), .second, .val (.ref b47), .unset, .unset] [])) (fun _ k => XS.astore X50.here hx rfl (hb hby at_94) rfl rfl (l' := #[.val (.int k0), .val (.int x1), .val (.int x2), .val (.int x3), .val (.int x4), .val (.int (3 : Int32)), .val (.ref b40), .val (.long (((x1.toInt64) + (x2.toInt64)) + (x3.toInt64))), .second, .val (.ref b47), .unset, .unset]) rfl k) ?_
    refine own_by (T' := T50) (g' := (mkF m 98 #[.val (.int k0), .val (.int x1), .val (.int x2), .val (.int x3), .val (.int x4), .val (.int (3 : Int32)), .val (.ref b40), .val (.long (((x1.toInt64) + (x2.toInt64)) + (x3.toInt64))), .second, .val (.ref b47), .unset, .unset] [(.long (((x1.toInt64) + (x2.toInt64)) + (x3.toInt64)))])) (fun _ k => XS.lload X50.here hx rfl (hb hby at_96) rfl k) ?_
    refine own_by (T' := T50) (g' := (mkF m 99 #[.val (.int k0), .val (.int x1), .val (.int x2), .val (.int x3), .val (.int x4), .val (.int (3 : Int32)), .val (.ref b40), .val (.long (((x1.toInt64) + (x2.toInt64)) + (x3.toInt64))), .second, .val (.ref b47), .unset, .unset] [(.double (FP.l2d (((x1.toInt64) + (x2.toInt64)) + (x3.toInt64))))])) (fun _ k => XS.l2dS X50.here hx rfl (hb hby at_98) rfl rfl k) ?_
    refine own_by (T' := T50) (g' := (mkF m 101 #[.val (.int k0), .val (.int x1), .val (.int x2), .val (.int x3), .val (.int x4), .val (.int (3 : Int32)), .val (.ref b40), .val (.long (((x1.toInt64) + (x2.toInt64)) + (x3.toInt64))), .second, .val (.ref b47), .unset, .unset] [(.int (3 : Int32)), (.double (FP.l2d (((x1.toInt64) + (x2.toInt64)) + (x3.toInt64))))])) (fun _ k => XS.iload X50.here hx rfl (hb hby at_99) rfl k) ?_
    refine own_by (T' := T50) (g' := (mkF m 102 #[.val (.int k0), .val (.int x1), .val (.int x2), .val (.int x3), .val (.int x4), .val (.int (3 : Int32)), .val (.ref b40), .val (.long (((x1.toInt64) + (x2.toInt64)) + (x3.toInt64))), .second, .val (.ref b47), .unset, .unset] [(.double (FP.i2d (3 : Int32))), (.double (FP.l2d (((x1.toInt64) + (x2.toInt64)) + (x3.toInt64))))])) (fun _ k => XS.i2dS X50.here hx rfl (hb hby at_101) rfl rfl k) ?_
    refine own_by (T' := T50) (g' := (mkF m 103 #[.val (.int k0), .val (.int x1), .val (.int x2), .val (.int x3), .val (.int x4), .val (.int (3 : Int32)), .val (.ref b40), .val (.long (((x1.toInt64) + (x2.toInt64)) + (x3.toInt64))), .second, .val (.ref b47), .unset, .unset] [(.double (FP.ddiv (FP.l2d (((x1.toInt64) + (x2.toInt64)) + (x3.toInt64))) (FP.i2d (3 : Int32))))])) (fun _ k => XS.ddivS X50.here hx rfl (hb hby at_102) rfl (own_nn _ _ (by decide)) rfl k) ?_
    refine own_by (T' := T50) (g' := (mkF m 105 #[.val (.int k0), .val (.int x1), .val (.int x2), .val (.int x3), .val (.int x4), .val (.int (3 : Int32)), .val (.ref b40), .val (.long (((x1.toInt64) + (x2.toInt64)) + (x3.toInt64))), .second, .val (.ref b47), .val (.double (FP.ddiv (FP.l2d (((x1.toInt64) + (x2.toInt64)) + (x3.toInt64))) (FP.i2d (3 : Int32)))), .second] [])) (fun _ k => XS.dstore X50.here hx rfl (hb hby at_103) rfl (l' := #[.val (.int k0), .val (.int x1), .val (.int x2), .val (.int x3), .val (.int x4), .val (.int (3 : Int32)), .val (.ref b40), .val (.long (((x1.toInt64) + (x2.toInt64)) + (x3.toInt64))), .second, .val (.ref b47), .val (.double (FP.ddiv (FP.l2d (((x1.toInt64) + (x2.toInt64)) + (x3.toInt64))) (FP.i2d (3 : Int32)))), .second]) rfl k) ?_
    refine own_by (T' := T50) (g' := (mkF m 107 #[.val (.int k0), .val (.int x1), .val (.int x2), .val (.int x3), .val (.int x4), .val (.int (3 : Int32)), .val (.ref b40), .val (.long (((x1.toInt64) + (x2.toInt64)) + (x3.toInt64))), .second, .val (.ref b47), .val (.double (FP.ddiv (FP.l2d (((x1.toInt64) + (x2.toInt64)) + (x3.toInt64))) (FP.i2d (3 : Int32)))), .second] [(.ref b47)])) (fun _ k => XS.aload X50.here hx rfl (hb hby at_105) rfl rfl k) ?_
    obtain ⟨cq51, kq51, q51a, q51b, q51c⟩ := isOf hZ rfl (Exa.keep (Exa.keep (Exa.ext E48 E_b47) K49) K50)
    obtain ⟨_, _, ⟨T51, L51, k51, n51⟩, -, X51, ⟨Lc51, hQ51, l51, y51, z51⟩, st51⟩ := X50.virtualBack hx (y := (⟨"com/example/postings/postings/index/FieldIndex", "averageLength", "()D"⟩ : MethodName)) (z := (⟨"com/example/postings/postings/index/FieldIndex", "averageLength", "()D"⟩ : MethodName)) hown (mvT hZ (hw _ (List.mem_of_getElem? (i := 40) rfl))) (mvT hZ (hw _ (List.mem_of_getElem? (i := 41) rfl))) (notFace_of_selects (args := #[]) (mvT hZ (hw _ (List.mem_of_getElem? (i := 43) rfl)))) (mvT hZ (hw _ (List.mem_of_getElem? (i := 43) rfl))) (mvT hZ (hw _ (List.mem_of_getElem? (i := 42) rfl))) (by decide) (backOf (W := 0) (av_3 l Z a0 hw [] b47 b40 k40 ((((0 : Int64) + (x1.toInt64)) + (x2.toInt64)) + (x3.toInt64)) x1 x2 x3 T50.heap n0 (Nat.le_trans (Nat.le_trans (Nat.le_trans (Nat.le_trans (Nat.le_trans (Nat.le_trans (Nat.le_trans (Nat.le_trans Z0 E40.1) (Keep.of_wr W42).1) (Keep.of_wr W44).1) (Keep.of_wr W46).1) E47.1) E48.1) K49.1) K50.1) Fl50 Ft50 (Arv.keep (Arv.keep (Arv.ext (Arv.ext V46 E47) E48) K49 (ninS (Nat.ne_of_lt (Nat.lt_of_lt_of_le (Arv.ext V46 E47).lt (Nat.le_of_eq g48.symm))) nin0)) K50 (ninS (Nat.ne_of_lt (Nat.lt_of_lt_of_le V46.lt (Nat.le_of_eq g47.symm))) nin0))) hZ (hw _ (List.mem_of_getElem? (i := 44) rfl)) (hw _ (List.mem_of_getElem? (i := 3) rfl)) (by decide) (by decide)) q51a q51c (g := (mkF m 107 #[.val (.int k0), .val (.int x1), .val (.int x2), .val (.int x3), .val (.int x4), .val (.int (3 : Int32)), .val (.ref b40), .val (.long (((x1.toInt64) + (x2.toInt64)) + (x3.toInt64))), .second, .val (.ref b47), .val (.double (FP.ddiv (FP.l2d (((x1.toInt64) + (x2.toInt64)) + (x3.toInt64))) (FP.i2d (3 : Int32)))), .second] [(.ref b47)])) rfl (by rw [hml]; rfl) (Steps.refl _) (argsL := []) (rest := []) (lenOf pd_2 rfl) rfl (by show 2 * 0 + _ ≤ _; exact Nat.le_of_eq rfl) (hb hby at_107) (fun _ _ => ⟨rfl, rfl, (by decide : (((((0 + 1) + 1) + 1) + 0) + 0) + 0 ≤ _), (by decide : (((((0 + 3) + 3) + 3) + 0) + 0) + 0 ≤ _)⟩)
    dsimp only [Pt.U, Pt.locs, Pt.cells, Pt.slots] at X51 l51 y51 z51 st51 hQ51
    subst l51 y51 z51
    obtain ⟨rfl, N51q, e51⟩ := hQ51
    have N51 := Fr.app N50 N51q
    refine own_by (T' := T51) (g' := (mkF m 110 #[.val (.int k0), .val (.int x1), .val (.int x2), .val (.int x3), .val (.int x4), .val (.int (3 : Int32)), .val (.ref b40), .val (.long (((x1.toInt64) + (x2.toInt64)) + (x3.toInt64))), .second, .val (.ref b47), .val (.double (FP.ddiv (FP.l2d (((x1.toInt64) + (x2.toInt64)) + (x3.toInt64))) (FP.i2d (3 : Int32)))), .second] [(.double (FP.ddiv (FP.l2d ((((0 : Int64) + (x1.toInt64)) + (x2.toInt64)) + (x3.toInt64))) (FP.i2d (3 : Int32))))])) (fun _ k => st51.trans k) ?_
    refine own_by (T' := T51) (g' := (mkF m 112 #[.val (.int k0), .val (.int x1), .val (.int x2), .val (.int x3), .val (.int x4), .val (.int (3 : Int32)), .val (.ref b40), .val (.long (((x1.toInt64) + (x2.toInt64)) + (x3.toInt64))), .second, .val (.ref b47), .val (.double (FP.ddiv (FP.l2d (((x1.toInt64) + (x2.toInt64)) + (x3.toInt64))) (FP.i2d (3 : Int32)))), .second] [(.double (FP.ddiv (FP.l2d (((x1.toInt64) + (x2.toInt64)) + (x3.toInt64))) (FP.i2d (3 : Int32)))), (.double (FP.ddiv (FP.l2d ((((0 : Int64) + (x1.toInt64)) + (x2.toInt64)) + (x3.toInt64))) (FP.i2d (3 : Int32))))])) (fun _ k => XS.dload X51.here hx rfl (hb hby at_110) rfl k) ?_
    refine own_by (T' := T51) (g' := (mkF m 113 #[.val (.int k0), .val (.int x1), .val (.int x2), .val (.int x3), .val (.int x4), .val (.int (3 : Int32)), .val (.ref b40), .val (.long (((x1.toInt64) + (x2.toInt64)) + (x3.toInt64))), .second, .val (.ref b47), .val (.double (FP.ddiv (FP.l2d (((x1.toInt64) + (x2.toInt64)) + (x3.toInt64))) (FP.i2d (3 : Int32)))), .second] [(.int (0 : Int32))])) (fun _ k => XS.dcmpS X51.here hx rfl (hb hby at_112) rfl (own_dc _ _ _ (by decide) (by simp only [Int64.zero_add])) k) ?_
    refine own_by (T' := T51) (g' := (mkF m 116 #[.val (.int k0), .val (.int x1), .val (.int x2), .val (.int x3), .val (.int x4), .val (.int (3 : Int32)), .val (.ref b40), .val (.long (((x1.toInt64) + (x2.toInt64)) + (x3.toInt64))), .second, .val (.ref b47), .val (.double (FP.ddiv (FP.l2d (((x1.toInt64) + (x2.toInt64)) + (x3.toInt64))) (FP.i2d (3 : Int32)))), .second] [])) (fun _ k => XS.ifNo X51.here hx rfl (hb hby at_113) rfl ((if0 _ _).trans (teq (by decide)).2) k) ?_
    refine own_by (T' := T51) (g' := (mkF m 117 #[.val (.int k0), .val (.int x1), .val (.int x2), .val (.int x3), .val (.int x4), .val (.int (3 : Int32)), .val (.ref b40), .val (.long (((x1.toInt64) + (x2.toInt64)) + (x3.toInt64))), .second, .val (.ref b47), .val (.double (FP.ddiv (FP.l2d (((x1.toInt64) + (x2.toInt64)) + (x3.toInt64))) (FP.i2d (3 : Int32)))), .second] [(.int (1 : Int32))])) (fun _ k => XS.iconst X51.here hx rfl (hb hby at_116) k) ?_
    refine own_by (T' := T51) (g' := (mkF m 121 #[.val (.int k0), .val (.int x1), .val (.int x2), .val (.int x3), .val (.int x4), .val (.int (3 : Int32)), .val (.ref b40), .val (.long (((x1.toInt64) + (x2.toInt64)) + (x3.toInt64))), .second, .val (.ref b47), .val (.double (FP.ddiv (FP.l2d (((x1.toInt64) + (x2.toInt64)) + (x3.toInt64))) (FP.i2d (3 : Int32)))), .second] [(.int (1 : Int32))])) (fun _ k => XS.goto X51.here hx rfl (pc0 := 117) (pc' := 121) rfl (hb hby at_117) (by decide) (by decide) k) ?_
    refine own_ret X51 hlk (v := some (.int (1 : Int32))) (fun h => by rw [Bd.returns] at h; cases h) (fun fs hr => retN X51 hx (t := .boolean) Bd.returns (by simp) (hb hby at_121) hr) ?_ (by decide) (by decide)
    rw [e51]
    exact ⟨rfl, N51⟩
  · skip
    rw [hq21]
    refine own_by (T' := s₁) (g' := (mkF m 9 #[.val (.int k0), .val (.int x1), .val (.int x2), .val (.int x3), .val (.int x4), .val (.int (4 : Int32)), .unset, .unset, .unset, .unset, .unset, .unset] [(.int (4 : Int32))])) (fun _ k => XS.iload X0.here hx rfl (hb hby at_7) rfl k) ?_
    obtain ⟨T52, h52, k52, X52, e52, E52, A52, st52⟩ := newP X0 hx hZ (hw _ (List.mem_of_getElem? (i := 0) rfl)) e0 (g := (mkF m 9 #[.val (.int k0), .val (.int x1), .val (.int x2), .val (.int x3), .val (.int x4), .val (.int (4 : Int32)), .unset, .unset, .unset, .unset, .unset, .unset] [(.int (4 : Int32))])) rfl (hb hby at_9) rfl (by decide) (cap := 4) (by decide) (by decide) (by decide) (by decide)
    obtain ⟨b52, g52⟩ : ∃ z, z = h0.size := ⟨_, rfl⟩
    rw [← g52] at A52 st52
    have V_b52 : Arv Z h52 b52 k52 .int (4 : Int32) [(.int (0 : Int32)), (.int (0 : Int32)), (.int (0 : Int32)), (.int (0 : Int32))] (.int (0 : Int32)) := (Arv.new A52 (by decide)).pad (pad_rep [] (.int (0 : Int32)) 4)
    have g_b52 : n0 ≤ b52 := Nat.le_trans Z0 (Nat.le_of_eq g52.symm)
    have sz_b52 : h0.size ≤ b52 := Nat.le_trans (Keep.refl h0 []).1 (Nat.le_of_eq g52.symm)
    have K52 : Keep h0 h52 [] := Keep.ext (Keep.refl h0 []) E52
    refine own_by (T' := T52) (g' := (mkF m 11 #[.val (.int k0), .val (.int x1), .val (.int x2), .val (.int x3), .val (.int x4), .val (.int (4 : Int32)), .unset, .unset, .unset, .unset, .unset, .unset] [(.ref b52)])) (fun _ k => st52 _ k) ?_
    refine own_by (T' := T52) (g' := (mkF m 13 #[.val (.int k0), .val (.int x1), .val (.int x2), .val (.int x3), .val (.int x4), .val (.int (4 : Int32)), .val (.ref b52), .unset, .unset, .unset, .unset, .unset] [])) (fun _ k => XS.astore X52.here hx rfl (hb hby at_11) rfl rfl (l' := #[.val (.int k0), .val (.int x1), .val (.int x2), .val (.int x3), .val (.int x4), .val (.int (4 : Int32)), .val (.ref b52), .unset, .unset, .unset, .unset, .unset]) rfl k) ?_
    refine own_by (T' := T52) (g' := (mkF m 14 #[.val (.int k0), .val (.int x1), .val (.int x2), .val (.int x3), .val (.int x4), .val (.int (4 : Int32)), .val (.ref b52), .unset, .unset, .unset, .unset, .unset] [(.int x1)])) (fun _ k => XS.iloadN X52.here hx rfl (hb hby at_13) rfl k) ?_
    refine own_by (T' := T52) (g' := (mkF m 15 #[.val (.int k0), .val (.int x1), .val (.int x2), .val (.int x3), .val (.int x4), .val (.int (4 : Int32)), .val (.ref b52), .unset, .unset, .unset, .unset, .unset] [(.long (x1.toInt64))])) (fun _ k => XS.i2l X52.here hx rfl (hb hby at_14) rfl k) ?_
    refine own_by (T' := T52) (g' := (mkF m 17 #[.val (.int k0), .val (.int x1), .val (.int x2), .val (.int x3), .val (.int x4), .val (.int (4 : Int32)), .val (.ref b52), .val (.long (x1.toInt64)), .second, .unset, .unset, .unset] [])) (fun _ k => XS.lstore X52.here hx rfl (hb hby at_15) rfl (l' := #[.val (.int k0), .val (.int x1), .val (.int x2), .val (.int x3), .val (.int x4), .val (.int (4 : Int32)), .val (.ref b52), .val (.long (x1.toInt64)), .second, .unset, .unset, .unset]) rfl k) ?_
    refine own_by (T' := T52) (g' := (mkF m 19 #[.val (.int k0), .val (.int x1), .val (.int x2), .val (.int x3), .val (.int x4), .val (.int (4 : Int32)), .val (.ref b52), .val (.long (x1.toInt64)), .second, .unset, .unset, .unset] [(.ref b52)])) (fun _ k => XS.aload X52.here hx rfl (hb hby at_17) rfl rfl k) ?_
    refine own_by (T' := T52) (g' := (mkF m 20 #[.val (.int k0), .val (.int x1), .val (.int x2), .val (.int x3), .val (.int x4), .val (.int (4 : Int32)), .val (.ref b52), .val (.long (x1.toInt64)), .second, .unset, .unset, .unset] [(.int (0 : Int32)), (.ref b52)])) (fun _ k => XS.iconst X52.here hx rfl (hb hby at_19) k) ?_
    refine own_by (T' := T52) (g' := (mkF m 21 #[.val (.int k0), .val (.int x1), .val (.int x2), .val (.int x3), .val (.int x4), .val (.int (4 : Int32)), .val (.ref b52), .val (.long (x1.toInt64)), .second, .unset, .unset, .unset] [(.int x1), (.int (0 : Int32)), (.ref b52)])) (fun _ k => XS.iloadN X52.here hx rfl (hb hby at_20) rfl k) ?_
    obtain ⟨cl53, Ar53, q53, S53, N_53, H53, G53⟩ := id V_b52
    have hin53 : ¬ ((0 : Int32) < 0 ∨ cl53.slots.size ≤ ((0 : Int32)).toNatClampNeg) := inb_of S53 ⟨by decide, by decide⟩
    obtain ⟨T54, h54, X54, e54, W54, st54⟩ := stI X52 hx hZ e52 Ar53 (j := (0 : Int32)) hin53 (g := (mkF m 21 #[.val (.int k0), .val (.int x1), .val (.int x2), .val (.int x3), .val (.int x4), .val (.int (4 : Int32)), .val (.ref b52), .val (.long (x1.toInt64)), .second, .unset, .unset, .unset] [(.int x1), (.int (0 : Int32)), (.ref b52)])) rfl rfl (hb hby at_21)
    have V54 : Arv Z h54 b52 k52 .int (4 : Int32) [(.int x1), (.int (0 : Int32)), (.int (0 : Int32)), (.int (0 : Int32))] (.int (0 : Int32)) := Arv.set Ar53 q53 S53 N_53 H53 G53 rfl W54 0 rfl (Nat.le_of_ble_eq_true rfl)
    have K54 : Keep h0 h54 [] := Keep.wr K52 W54 (Or.inr sz_b52)
    have N54 := Fr.snoc X54 N0 g_b52
    refine own_by (T' := T54) (g' := (mkF m 22 #[.val (.int k0), .val (.int x1), .val (.int x2), .val (.int x3), .val (.int x4), .val (.int (4 : Int32)), .val (.ref b52), .val (.long (x1.toInt64)), .second, .unset, .unset, .unset] [])) (fun _ k => st54 _ k) ?_
    refine own_by (T' := T54) (g' := (mkF m 24 #[.val (.int k0), .val (.int x1), .val (.int x2), .val (.int x3), .val (.int x4), .val (.int (4 : Int32)), .val (.ref b52), .val (.long (x1.toInt64)), .second, .unset, .unset, .unset] [(.int (4 : Int32))])) (fun _ k => XS.iload X54.here hx rfl (hb hby at_22) rfl k) ?_
    refine own_by (T' := T54) (g' := (mkF m 25 #[.val (.int k0), .val (.int x1), .val (.int x2), .val (.int x3), .val (.int x4), .val (.int (4 : Int32)), .val (.ref b52), .val (.long (x1.toInt64)), .second, .unset, .unset, .unset] [(.int (1 : Int32)), (.int (4 : Int32))])) (fun _ k => XS.iconst X54.here hx rfl (hb hby at_24) k) ?_
    refine own_by (T' := T54) (g' := (mkF m 28 #[.val (.int k0), .val (.int x1), .val (.int x2), .val (.int x3), .val (.int x4), .val (.int (4 : Int32)), .val (.ref b52), .val (.long (x1.toInt64)), .second, .unset, .unset, .unset] [])) (fun _ k => XS.icmpNo X54.here hx rfl (hb hby at_25) rfl (tlt (by decide)).2.2.2 k) ?_
    refine own_by (T' := T54) (g' := (mkF m 30 #[.val (.int k0), .val (.int x1), .val (.int x2), .val (.int x3), .val (.int x4), .val (.int (4 : Int32)), .val (.ref b52), .val (.long (x1.toInt64)), .second, .unset, .unset, .unset] [(.ref b52)])) (fun _ k => XS.aload X54.here hx rfl (hb hby at_28) rfl rfl k) ?_
    refine own_by (T' := T54) (g' := (mkF m 31 #[.val (.int k0), .val (.int x1), .val (.int x2), .val (.int x3), .val (.int x4), .val (.int (4 : Int32)), .val (.ref b52), .val (.long (x1.toInt64)), .second, .unset, .unset, .unset] [(.int (1 : Int32)), (.ref b52)])) (fun _ k => XS.iconst X54.here hx rfl (hb hby at_30) k) ?_
    refine own_by (T' := T54) (g' := (mkF m 32 #[.val (.int k0), .val (.int x1), .val (.int x2), .val (.int x3), .val (.int x4), .val (.int (4 : Int32)), .val (.ref b52), .val (.long (x1.toInt64)), .second, .unset, .unset, .unset] [(.int x2), (.int (1 : Int32)), (.ref b52)])) (fun _ k => XS.iloadN X54.here hx rfl (hb hby at_31) rfl k) ?_
    obtain ⟨cl55, Ar55, q55, S55, N_55, H55, G55⟩ := id V54
    have hin55 : ¬ ((1 : Int32) < 0 ∨ cl55.slots.size ≤ ((1 : Int32)).toNatClampNeg) := inb_of S55 ⟨by decide, by decide⟩
    obtain ⟨T56, h56, X56, e56, W56, st56⟩ := stI X54 hx hZ e54 Ar55 (j := (1 : Int32)) hin55 (g := (mkF m 32 #[.val (.int k0), .val (.int x1), .val (.int x2), .val (.int x3), .val (.int x4), .val (.int (4 : Int32)), .val (.ref b52), .val (.long (x1.toInt64)), .second, .unset, .unset, .unset] [(.int x2), (.int (1 : Int32)), (.ref b52)])) rfl rfl (hb hby at_32)
    have V56 : Arv Z h56 b52 k52 .int (4 : Int32) [(.int x1), (.int x2), (.int (0 : Int32)), (.int (0 : Int32))] (.int (0 : Int32)) := Arv.set Ar55 q55 S55 N_55 H55 G55 rfl W56 1 rfl (Nat.le_of_ble_eq_true rfl)
    have K56 : Keep h0 h56 [] := Keep.wr K54 W56 (Or.inr sz_b52)
    have N56 := Fr.snoc X56 N54 g_b52
    refine own_by (T' := T56) (g' := (mkF m 33 #[.val (.int k0), .val (.int x1), .val (.int x2), .val (.int x3), .val (.int x4), .val (.int (4 : Int32)), .val (.ref b52), .val (.long (x1.toInt64)), .second, .unset, .unset, .unset] [])) (fun _ k => st56 _ k) ?_
    refine own_by (T' := T56) (g' := (mkF m 35 #[.val (.int k0), .val (.int x1), .val (.int x2), .val (.int x3), .val (.int x4), .val (.int (4 : Int32)), .val (.ref b52), .val (.long (x1.toInt64)), .second, .unset, .unset, .unset] [(.long (x1.toInt64))])) (fun _ k => XS.lload X56.here hx rfl (hb hby at_33) rfl k) ?_
    refine own_by (T' := T56) (g' := (mkF m 36 #[.val (.int k0), .val (.int x1), .val (.int x2), .val (.int x3), .val (.int x4), .val (.int (4 : Int32)), .val (.ref b52), .val (.long (x1.toInt64)), .second, .unset, .unset, .unset] [(.int x2), (.long (x1.toInt64))])) (fun _ k => XS.iloadN X56.here hx rfl (hb hby at_35) rfl k) ?_
    refine own_by (T' := T56) (g' := (mkF m 37 #[.val (.int k0), .val (.int x1), .val (.int x2), .val (.int x3), .val (.int x4), .val (.int (4 : Int32)), .val (.ref b52), .val (.long (x1.toInt64)), .second, .unset, .unset, .unset] [(.long (x2.toInt64)), (.long (x1.toInt64))])) (fun _ k => XS.i2l X56.here hx rfl (hb hby at_36) rfl k) ?_
    refine own_by (T' := T56) (g' := (mkF m 38 #[.val (.int k0), .val (.int x1), .val (.int x2), .val (.int x3), .val (.int x4), .val (.int (4 : Int32)), .val (.ref b52), .val (.long (x1.toInt64)), .second, .unset, .unset, .unset] [(.long ((x1.toInt64) + (x2.toInt64)))])) (fun _ k => XS.ladd X56.here hx rfl (hb hby at_37) rfl k) ?_
    refine own_by (T' := T56) (g' := (mkF m 40 #[.val (.int k0), .val (.int x1), .val (.int x2), .val (.int x3), .val (.int x4), .val (.int (4 : Int32)), .val (.ref b52), .val (.long ((x1.toInt64) + (x2.toInt64))), .second, .unset, .unset, .unset] [])) (fun _ k => XS.lstore X56.here hx rfl (hb hby at_38) rfl (l' := #[.val (.int k0), .val (.int x1), .val (.int x2), .val (.int x3), .val (.int x4), .val (.int (4 : Int32)), .val (.ref b52), .val (.long ((x1.toInt64) + (x2.toInt64))), .second, .unset, .unset, .unset]) rfl k) ?_
    refine own_by (T' := T56) (g' := (mkF m 42 #[.val (.int k0), .val (.int x1), .val (.int x2), .val (.int x3), .val (.int x4), .val (.int (4 : Int32)), .val (.ref b52), .val (.long ((x1.toInt64) + (x2.toInt64))), .second, .unset, .unset, .unset] [(.int (4 : Int32))])) (fun _ k => XS.iload X56.here hx rfl (hb hby at_40) rfl k) ?_
    refine own_by (T' := T56) (g' := (mkF m 43 #[.val (.int k0), .val (.int x1), .val (.int x2), .val (.int x3), .val (.int x4), .val (.int (4 : Int32)), .val (.ref b52), .val (.long ((x1.toInt64) + (x2.toInt64))), .second, .unset, .unset, .unset] [(.int (2 : Int32)), (.int (4 : Int32))])) (fun _ k => XS.iconst X56.here hx rfl (hb hby at_42) k) ?_
    refine own_by (T' := T56) (g' := (mkF m 46 #[.val (.int k0), .val (.int x1), .val (.int x2), .val (.int x3), .val (.int x4), .val (.int (4 : Int32)), .val (.ref b52), .val (.long ((x1.toInt64) + (x2.toInt64))), .second, .unset, .unset, .unset] [])) (fun _ k => XS.icmpNo X56.here hx rfl (hb hby at_43) rfl (tlt (by decide)).2.2.2 k) ?_
    refine own_by (T' := T56) (g' := (mkF m 48 #[.val (.int k0), .val (.int x1), .val (.int x2), .val (.int x3), .val (.int x4), .val (.int (4 : Int32)), .val (.ref b52), .val (.long ((x1.toInt64) + (x2.toInt64))), .second, .unset, .unset, .unset] [(.ref b52)])) (fun _ k => XS.aload X56.here hx rfl (hb hby at_46) rfl rfl k) ?_
    refine own_by (T' := T56) (g' := (mkF m 49 #[.val (.int k0), .val (.int x1), .val (.int x2), .val (.int x3), .val (.int x4), .val (.int (4 : Int32)), .val (.ref b52), .val (.long ((x1.toInt64) + (x2.toInt64))), .second, .unset, .unset, .unset] [(.int (2 : Int32)), (.ref b52)])) (fun _ k => XS.iconst X56.here hx rfl (hb hby at_48) k) ?_
    refine own_by (T' := T56) (g' := (mkF m 50 #[.val (.int k0), .val (.int x1), .val (.int x2), .val (.int x3), .val (.int x4), .val (.int (4 : Int32)), .val (.ref b52), .val (.long ((x1.toInt64) + (x2.toInt64))), .second, .unset, .unset, .unset] [(.int x3), (.int (2 : Int32)), (.ref b52)])) (fun _ k => XS.iloadN X56.here hx rfl (hb hby at_49) rfl k) ?_
    obtain ⟨cl57, Ar57, q57, S57, N_57, H57, G57⟩ := id V56
    have hin57 : ¬ ((2 : Int32) < 0 ∨ cl57.slots.size ≤ ((2 : Int32)).toNatClampNeg) := inb_of S57 ⟨by decide, by decide⟩
    obtain ⟨T58, h58, X58, e58, W58, st58⟩ := stI X56 hx hZ e56 Ar57 (j := (2 : Int32)) hin57 (g := (mkF m 50 #[.val (.int k0), .val (.int x1), .val (.int x2), .val (.int x3), .val (.int x4), .val (.int (4 : Int32)), .val (.ref b52), .val (.long ((x1.toInt64) + (x2.toInt64))), .second, .unset, .unset, .unset] [(.int x3), (.int (2 : Int32)), (.ref b52)])) rfl rfl (hb hby at_50)
    have V58 : Arv Z h58 b52 k52 .int (4 : Int32) [(.int x1), (.int x2), (.int x3), (.int (0 : Int32))] (.int (0 : Int32)) := Arv.set Ar57 q57 S57 N_57 H57 G57 rfl W58 2 rfl (Nat.le_of_ble_eq_true rfl)
    have K58 : Keep h0 h58 [] := Keep.wr K56 W58 (Or.inr sz_b52)
    have N58 := Fr.snoc X58 N56 g_b52
    refine own_by (T' := T58) (g' := (mkF m 51 #[.val (.int k0), .val (.int x1), .val (.int x2), .val (.int x3), .val (.int x4), .val (.int (4 : Int32)), .val (.ref b52), .val (.long ((x1.toInt64) + (x2.toInt64))), .second, .unset, .unset, .unset] [])) (fun _ k => st58 _ k) ?_
    refine own_by (T' := T58) (g' := (mkF m 53 #[.val (.int k0), .val (.int x1), .val (.int x2), .val (.int x3), .val (.int x4), .val (.int (4 : Int32)), .val (.ref b52), .val (.long ((x1.toInt64) + (x2.toInt64))), .second, .unset, .unset, .unset] [(.long ((x1.toInt64) + (x2.toInt64)))])) (fun _ k => XS.lload X58.here hx rfl (hb hby at_51) rfl k) ?_
    refine own_by (T' := T58) (g' := (mkF m 54 #[.val (.int k0), .val (.int x1), .val (.int x2), .val (.int x3), .val (.int x4), .val (.int (4 : Int32)), .val (.ref b52), .val (.long ((x1.toInt64) + (x2.toInt64))), .second, .unset, .unset, .unset] [(.int x3), (.long ((x1.toInt64) + (x2.toInt64)))])) (fun _ k => XS.iloadN X58.here hx rfl (hb hby at_53) rfl k) ?_
    refine own_by (T' := T58) (g' := (mkF m 55 #[.val (.int k0), .val (.int x1), .val (.int x2), .val (.int x3), .val (.int x4), .val (.int (4 : Int32)), .val (.ref b52), .val (.long ((x1.toInt64) + (x2.toInt64))), .second, .unset, .unset, .unset] [(.long (x3.toInt64)), (.long ((x1.toInt64) + (x2.toInt64)))])) (fun _ k => XS.i2l X58.here hx rfl (hb hby at_54) rfl k) ?_
    refine own_by (T' := T58) (g' := (mkF m 56 #[.val (.int k0), .val (.int x1), .val (.int x2), .val (.int x3), .val (.int x4), .val (.int (4 : Int32)), .val (.ref b52), .val (.long ((x1.toInt64) + (x2.toInt64))), .second, .unset, .unset, .unset] [(.long (((x1.toInt64) + (x2.toInt64)) + (x3.toInt64)))])) (fun _ k => XS.ladd X58.here hx rfl (hb hby at_55) rfl k) ?_
    refine own_by (T' := T58) (g' := (mkF m 58 #[.val (.int k0), .val (.int x1), .val (.int x2), .val (.int x3), .val (.int x4), .val (.int (4 : Int32)), .val (.ref b52), .val (.long (((x1.toInt64) + (x2.toInt64)) + (x3.toInt64))), .second, .unset, .unset, .unset] [])) (fun _ k => XS.lstore X58.here hx rfl (hb hby at_56) rfl (l' := #[.val (.int k0), .val (.int x1), .val (.int x2), .val (.int x3), .val (.int x4), .val (.int (4 : Int32)), .val (.ref b52), .val (.long (((x1.toInt64) + (x2.toInt64)) + (x3.toInt64))), .second, .unset, .unset, .unset]) rfl k) ?_
    refine own_by (T' := T58) (g' := (mkF m 60 #[.val (.int k0), .val (.int x1), .val (.int x2), .val (.int x3), .val (.int x4), .val (.int (4 : Int32)), .val (.ref b52), .val (.long (((x1.toInt64) + (x2.toInt64)) + (x3.toInt64))), .second, .unset, .unset, .unset] [(.int (4 : Int32))])) (fun _ k => XS.iload X58.here hx rfl (hb hby at_58) rfl k) ?_
    refine own_by (T' := T58) (g' := (mkF m 61 #[.val (.int k0), .val (.int x1), .val (.int x2), .val (.int x3), .val (.int x4), .val (.int (4 : Int32)), .val (.ref b52), .val (.long (((x1.toInt64) + (x2.toInt64)) + (x3.toInt64))), .second, .unset, .unset, .unset] [(.int (3 : Int32)), (.int (4 : Int32))])) (fun _ k => XS.iconst X58.here hx rfl (hb hby at_60) k) ?_
    refine own_by (T' := T58) (g' := (mkF m 64 #[.val (.int k0), .val (.int x1), .val (.int x2), .val (.int x3), .val (.int x4), .val (.int (4 : Int32)), .val (.ref b52), .val (.long (((x1.toInt64) + (x2.toInt64)) + (x3.toInt64))), .second, .unset, .unset, .unset] [])) (fun _ k => XS.icmpNo X58.here hx rfl (hb hby at_61) rfl (tlt (by decide)).2.2.2 k) ?_
    refine own_by (T' := T58) (g' := (mkF m 66 #[.val (.int k0), .val (.int x1), .val (.int x2), .val (.int x3), .val (.int x4), .val (.int (4 : Int32)), .val (.ref b52), .val (.long (((x1.toInt64) + (x2.toInt64)) + (x3.toInt64))), .second, .unset, .unset, .unset] [(.ref b52)])) (fun _ k => XS.aload X58.here hx rfl (hb hby at_64) rfl rfl k) ?_
    refine own_by (T' := T58) (g' := (mkF m 67 #[.val (.int k0), .val (.int x1), .val (.int x2), .val (.int x3), .val (.int x4), .val (.int (4 : Int32)), .val (.ref b52), .val (.long (((x1.toInt64) + (x2.toInt64)) + (x3.toInt64))), .second, .unset, .unset, .unset] [(.int (3 : Int32)), (.ref b52)])) (fun _ k => XS.iconst X58.here hx rfl (hb hby at_66) k) ?_
    refine own_by (T' := T58) (g' := (mkF m 69 #[.val (.int k0), .val (.int x1), .val (.int x2), .val (.int x3), .val (.int x4), .val (.int (4 : Int32)), .val (.ref b52), .val (.long (((x1.toInt64) + (x2.toInt64)) + (x3.toInt64))), .second, .unset, .unset, .unset] [(.int x4), (.int (3 : Int32)), (.ref b52)])) (fun _ k => XS.iload X58.here hx rfl (hb hby at_67) rfl k) ?_
    obtain ⟨cl59, Ar59, q59, S59, N_59, H59, G59⟩ := id V58
    have hin59 : ¬ ((3 : Int32) < 0 ∨ cl59.slots.size ≤ ((3 : Int32)).toNatClampNeg) := inb_of S59 ⟨by decide, by decide⟩
    obtain ⟨T60, h60, X60, e60, W60, st60⟩ := stI X58 hx hZ e58 Ar59 (j := (3 : Int32)) hin59 (g := (mkF m 69 #[.val (.int k0), .val (.int x1), .val (.int x2), .val (.int x3), .val (.int x4), .val (.int (4 : Int32)), .val (.ref b52), .val (.long (((x1.toInt64) + (x2.toInt64)) + (x3.toInt64))), .second, .unset, .unset, .unset] [(.int x4), (.int (3 : Int32)), (.ref b52)])) rfl rfl (hb hby at_69)
    have V60 : Arv Z h60 b52 k52 .int (4 : Int32) [(.int x1), (.int x2), (.int x3), (.int x4)] (.int (0 : Int32)) := Arv.set Ar59 q59 S59 N_59 H59 G59 rfl W60 3 rfl (Nat.le_of_ble_eq_true rfl)
    have K60 : Keep h0 h60 [] := Keep.wr K58 W60 (Or.inr sz_b52)
    have N60 := Fr.snoc X60 N58 g_b52
    refine own_by (T' := T60) (g' := (mkF m 70 #[.val (.int k0), .val (.int x1), .val (.int x2), .val (.int x3), .val (.int x4), .val (.int (4 : Int32)), .val (.ref b52), .val (.long (((x1.toInt64) + (x2.toInt64)) + (x3.toInt64))), .second, .unset, .unset, .unset] [])) (fun _ k => st60 _ k) ?_
    refine own_by (T' := T60) (g' := (mkF m 72 #[.val (.int k0), .val (.int x1), .val (.int x2), .val (.int x3), .val (.int x4), .val (.int (4 : Int32)), .val (.ref b52), .val (.long (((x1.toInt64) + (x2.toInt64)) + (x3.toInt64))), .second, .unset, .unset, .unset] [(.long (((x1.toInt64) + (x2.toInt64)) + (x3.toInt64)))])) (fun _ k => XS.lload X60.here hx rfl (hb hby at_70) rfl k) ?_
    refine own_by (T' := T60) (g' := (mkF m 74 #[.val (.int k0), .val (.int x1), .val (.int x2), .val (.int x3), .val (.int x4), .val (.int (4 : Int32)), .val (.ref b52), .val (.long (((x1.toInt64) + (x2.toInt64)) + (x3.toInt64))), .second, .unset, .unset, .unset] [(.int x4), (.long (((x1.toInt64) + (x2.toInt64)) + (x3.toInt64)))])) (fun _ k => XS.iload X60.here hx rfl (hb hby at_72) rfl k) ?_
    refine own_by (T' := T60) (g' := (mkF m 75 #[.val (.int k0), .val (.int x1), .val (.int x2), .val (.int x3), .val (.int x4), .val (.int (4 : Int32)), .val (.ref b52), .val (.long (((x1.toInt64) + (x2.toInt64)) + (x3.toInt64))), .second, .unset, .unset, .unset] [(.long (x4.toInt64)), (.long (((x1.toInt64) + (x2.toInt64)) + (x3.toInt64)))])) (fun _ k => XS.i2l X60.here hx rfl (hb hby at_74) rfl k) ?_
    refine own_by (T' := T60) (g' := (mkF m 76 #[.val (.int k0), .val (.int x1), .val (.int x2), .val (.int x3), .val (.int x4), .val (.int (4 : Int32)), .val (.ref b52), .val (.long (((x1.toInt64) + (x2.toInt64)) + (x3.toInt64))), .second, .unset, .unset, .unset] [(.long ((((x1.toInt64) + (x2.toInt64)) + (x3.toInt64)) + (x4.toInt64)))])) (fun _ k => XS.ladd X60.here hx rfl (hb hby at_75) rfl k) ?_
    refine own_by (T' := T60) (g' := (mkF m 78 #[.val (.int k0), .val (.int x1), .val (.int x2), .val (.int x3), .val (.int x4), .val (.int (4 : Int32)), .val (.ref b52), .val (.long ((((x1.toInt64) + (x2.toInt64)) + (x3.toInt64)) + (x4.toInt64))), .second, .unset, .unset, .unset] [])) (fun _ k => XS.lstore X60.here hx rfl (hb hby at_76) rfl (l' := #[.val (.int k0), .val (.int x1), .val (.int x2), .val (.int x3), .val (.int x4), .val (.int (4 : Int32)), .val (.ref b52), .val (.long ((((x1.toInt64) + (x2.toInt64)) + (x3.toInt64)) + (x4.toInt64))), .second, .unset, .unset, .unset]) rfl k) ?_
    obtain ⟨T61, h61, X61, e61, E61, A61, D61, -, st61⟩ := newO X60 hx hZ hown (hw _ (List.mem_of_getElem? (i := 1) rfl)) (hw _ (List.mem_of_getElem? (i := 2) rfl)) (hw _ (List.mem_of_getElem? (i := 3) rfl)) e60 (g := (mkF m 78 #[.val (.int k0), .val (.int x1), .val (.int x2), .val (.int x3), .val (.int x4), .val (.int (4 : Int32)), .val (.ref b52), .val (.long ((((x1.toInt64) + (x2.toInt64)) + (x3.toInt64)) + (x4.toInt64))), .second, .unset, .unset, .unset] [])) rfl (hb hby at_78) (by decide) (by decide)
    obtain ⟨b61, g61⟩ : ∃ z, z = h60.size := ⟨_, rfl⟩
    rw [← g61] at A61 D61 st61
    have E_b61 : Exa Z h61 b61 "com/example/postings/postings/index/FieldIndex" := A61
    have F_lengths_b61 : Fld Z h61 b61 "com/example/postings/postings/index/FieldIndex" "lengths" "[I" .null := D61 (Or.inr (hw _ (List.mem_of_getElem? (i := 35) rfl))) (ty := (.array .int)) (by decide)
    have F_totalLength_b61 : Fld Z h61 b61 "com/example/postings/postings/index/FieldIndex" "totalLength" "J" (.long (0 : Int64)) := D61 (Or.inr (hw _ (List.mem_of_getElem? (i := 37) rfl))) (ty := .long) (by decide)
    have F_segments_b61 : Fld Z h61 b61 "com/example/postings/postings/index/FieldIndex" "segments" "Ljava/util/List;" .null := D61 (Or.inr (hw _ (List.mem_of_getElem? (i := 39) rfl))) (ty := (.object "java/util/List")) (by decide)
    have g_b61 : n0 ≤ b61 := Nat.le_trans (Nat.le_trans (Nat.le_trans (Nat.le_trans (Nat.le_trans (Nat.le_trans Z0 E52.1) (Keep.of_wr W54).1) (Keep.of_wr W56).1) (Keep.of_wr W58).1) (Keep.of_wr W60).1) (Nat.le_of_eq g61.symm)
    have sz_b61 : h0.size ≤ b61 := Nat.le_trans K60.1 (Nat.le_of_eq g61.symm)
    have K61 : Keep h0 h61 [] := Keep.ext K60 E61
    refine own_by (T' := T61) (g' := (mkF m 81 #[.val (.int k0), .val (.int x1), .val (.int x2), .val (.int x3), .val (.int x4), .val (.int (4 : Int32)), .val (.ref b52), .val (.long ((((x1.toInt64) + (x2.toInt64)) + (x3.toInt64)) + (x4.toInt64))), .second, .unset, .unset, .unset] [(.ref b61)])) (fun _ k => st61 _ k) ?_
    refine own_by (T' := T61) (g' := (mkF m 82 #[.val (.int k0), .val (.int x1), .val (.int x2), .val (.int x3), .val (.int x4), .val (.int (4 : Int32)), .val (.ref b52), .val (.long ((((x1.toInt64) + (x2.toInt64)) + (x3.toInt64)) + (x4.toInt64))), .second, .unset, .unset, .unset] [(.ref b61), (.ref b61)])) (fun _ k => XS.dup X61.here hx rfl (hb hby at_81) rfl rfl k) ?_
    refine own_by (T' := T61) (g' := (mkF m 84 #[.val (.int k0), .val (.int x1), .val (.int x2), .val (.int x3), .val (.int x4), .val (.int (4 : Int32)), .val (.ref b52), .val (.long ((((x1.toInt64) + (x2.toInt64)) + (x3.toInt64)) + (x4.toInt64))), .second, .unset, .unset, .unset] [(.ref b52), (.ref b61), (.ref b61)])) (fun _ k => XS.aload X61.here hx rfl (hb hby at_82) rfl rfl k) ?_
    obtain ⟨T62, h62, X62, e62, E62, A62, D62, -, st62⟩ := newO X61 hx hZ hown (hw _ (List.mem_of_getElem? (i := 4) rfl)) (hw _ (List.mem_of_getElem? (i := 5) rfl)) (hw _ (List.mem_of_getElem? (i := 6) rfl)) e61 (g := (mkF m 84 #[.val (.int k0), .val (.int x1), .val (.int x2), .val (.int x3), .val (.int x4), .val (.int (4 : Int32)), .val (.ref b52), .val (.long ((((x1.toInt64) + (x2.toInt64)) + (x3.toInt64)) + (x4.toInt64))), .second, .unset, .unset, .unset] [(.ref b52), (.ref b61), (.ref b61)])) rfl (hb hby at_84) (by decide) (by decide)
    obtain ⟨b62, g62⟩ : ∃ z, z = h61.size := ⟨_, rfl⟩
    rw [← g62] at A62 D62 st62
    have E_b62 : Exa Z h62 b62 "java/util/ArrayList" := A62
    have F_modCount_b62 : Fld Z h62 b62 "java/util/AbstractList" "modCount" "I" (.int (0 : Int32)) := D62 (Or.inl (hw _ (List.mem_of_getElem? (i := 26) rfl))) (ty := .int) (by decide)
    have F_elementData_b62 : Fld Z h62 b62 "java/util/ArrayList" "elementData" "[Ljava/lang/Object;" .null := D62 (Or.inl (hw _ (List.mem_of_getElem? (i := 29) rfl))) (ty := (.array (.object "java/lang/Object"))) (by decide)
    have g_b62 : n0 ≤ b62 := Nat.le_trans (Nat.le_trans (Nat.le_trans (Nat.le_trans (Nat.le_trans (Nat.le_trans (Nat.le_trans Z0 E52.1) (Keep.of_wr W54).1) (Keep.of_wr W56).1) (Keep.of_wr W58).1) (Keep.of_wr W60).1) E61.1) (Nat.le_of_eq g62.symm)
    have sz_b62 : h0.size ≤ b62 := Nat.le_trans K61.1 (Nat.le_of_eq g62.symm)
    have K62 : Keep h0 h62 [] := Keep.ext K61 E62
    refine own_by (T' := T62) (g' := (mkF m 87 #[.val (.int k0), .val (.int x1), .val (.int x2), .val (.int x3), .val (.int x4), .val (.int (4 : Int32)), .val (.ref b52), .val (.long ((((x1.toInt64) + (x2.toInt64)) + (x3.toInt64)) + (x4.toInt64))), .second, .unset, .unset, .unset] [(.ref b62), (.ref b52), (.ref b61), (.ref b61)])) (fun _ k => st62 _ k) ?_
    refine own_by (T' := T62) (g' := (mkF m 88 #[.val (.int k0), .val (.int x1), .val (.int x2), .val (.int x3), .val (.int x4), .val (.int (4 : Int32)), .val (.ref b52), .val (.long ((((x1.toInt64) + (x2.toInt64)) + (x3.toInt64)) + (x4.toInt64))), .second, .unset, .unset, .unset] [(.ref b62), (.ref b62), (.ref b52), (.ref b61), (.ref b61)])) (fun _ k => XS.dup X62.here hx rfl (hb hby at_87) rfl rfl k) ?_
    obtain ⟨_, _, ⟨T63, L63, k63, n63⟩, -, X63, ⟨Lc63, hQ63, l63, y63, z63⟩, st63⟩ := X62.specialBack hx (y := (⟨"java/util/ArrayList", "<init>", "()V"⟩ : MethodName)) rfl hown (mvT hZ (hw _ (List.mem_of_getElem? (i := 7) rfl))) (mvT hZ (hw _ (List.mem_of_getElem? (i := 8) rfl))) (mvT hZ (hw _ (List.mem_of_getElem? (i := 9) rfl))) (by decide) (backOf (W := 4) (rm1 l Z a0 hw [] b62 de h62 n0 (Nat.le_trans (Nat.le_trans (Nat.le_trans (Nat.le_trans (Nat.le_trans (Nat.le_trans (Nat.le_trans Z0 E52.1) (Keep.of_wr W54).1) (Keep.of_wr W56).1) (Keep.of_wr W58).1) (Keep.of_wr W60).1) E61.1) E62.1) (Old.ext (Old.ext (Old.wr (Old.wr (Old.wr (Old.wr (Old.ext O0 E52) W54 g_b52) W56 g_b52) W58 g_b52) W60 g_b52) E61) E62) S_DE E_b62 F_modCount_b62 F_elementData_b62 g_b62) hZ (hw _ (List.mem_of_getElem? (i := 9) rfl)) (hw _ (List.mem_of_getElem? (i := 6) rfl)) (by decide) (by decide)) (g := (mkF m 88 #[.val (.int k0), .val (.int x1), .val (.int x2), .val (.int x3), .val (.int x4), .val (.int (4 : Int32)), .val (.ref b52), .val (.long ((((x1.toInt64) + (x2.toInt64)) + (x3.toInt64)) + (x4.toInt64))), .second, .unset, .unset, .unset] [(.ref b62), (.ref b62), (.ref b52), (.ref b61), (.ref b61)])) rfl (by rw [hml]; rfl) (Steps.refl _) (a := b62) (argsL := []) (rest := [(.ref b62), (.ref b52), (.ref b61), (.ref b61)]) (lenOf pd_0 rfl) rfl (by show 2 * 0 + _ ≤ _; exact Nat.le_of_eq rfl) (hb hby at_88) (fun _ _ => ⟨rfl, e62, (by decide : (((0 + 1) + 1) + 1) + 0 ≤ _), (by decide : (((0 + 4) + 3) + 3) + 0 ≤ _)⟩)
    dsimp only [Pt.U, Pt.locs, Pt.cells, Pt.slots] at X63 l63 y63 z63 st63 hQ63
    subst l63 y63 z63
    obtain ⟨rfl, N63q, K63⟩ := hQ63
    have N63 := Fr.app N60 N63q
    have KK63 : Keep h0 T63.heap [] := Keep.trans K62 K63 (allS (Or.inr sz_b62) all0)
    refine own_by (T' := T63) (g' := (mkF m 91 #[.val (.int k0), .val (.int x1), .val (.int x2), .val (.int x3), .val (.int x4), .val (.int (4 : Int32)), .val (.ref b52), .val (.long ((((x1.toInt64) + (x2.toInt64)) + (x3.toInt64)) + (x4.toInt64))), .second, .unset, .unset, .unset] [(.ref b62), (.ref b52), (.ref b61), (.ref b61)])) (fun _ k => st63.trans k) ?_
    obtain ⟨_, _, ⟨T64, L64, k64, n64⟩, -, X64, ⟨Lc64, hQ64, l64, y64, z64⟩, st64⟩ := X63.specialBack hx (y := (⟨"com/example/postings/postings/index/FieldIndex", "<init>", "([ILjava/util/List;)V"⟩ : MethodName)) rfl hown (mvT hZ (hw _ (List.mem_of_getElem? (i := 30) rfl))) (mvT hZ (hw _ (List.mem_of_getElem? (i := 31) rfl))) (mvT hZ (hw _ (List.mem_of_getElem? (i := 32) rfl))) (by decide) (backOf (W := 1) (fi_4 l Z a0 hw [] b61 b52 b62 k52 x1 x2 x3 x4 T63.heap n0 (Nat.le_trans (Nat.le_trans (Nat.le_trans (Nat.le_trans (Nat.le_trans (Nat.le_trans (Nat.le_trans (Nat.le_trans Z0 E52.1) (Keep.of_wr W54).1) (Keep.of_wr W56).1) (Keep.of_wr W58).1) (Keep.of_wr W60).1) E61.1) E62.1) K63.1) (Exa.keep (Exa.ext E62 E_b61) K63) (Fld.keep (Fld.ext E62 F_lengths_b61) K63 (ninS (Nat.ne_of_lt (Nat.lt_of_lt_of_le E_b61.lt (Nat.le_of_eq g62.symm))) nin0)) (Fld.keep (Fld.ext E62 F_totalLength_b61) K63 (ninS (Nat.ne_of_lt (Nat.lt_of_lt_of_le E_b61.lt (Nat.le_of_eq g62.symm))) nin0)) (Fld.keep (Fld.ext E62 F_segments_b61) K63 (ninS (Nat.ne_of_lt (Nat.lt_of_lt_of_le E_b61.lt (Nat.le_of_eq g62.symm))) nin0)) g_b61 (Arv.keep (Arv.ext (Arv.ext V60 E61) E62) K63 (ninS (Nat.ne_of_lt (Nat.lt_of_lt_of_le (Arv.ext V60 E61).lt (Nat.le_of_eq g62.symm))) nin0)) (Ne.symm (Nat.ne_of_lt (Nat.lt_of_lt_of_le V60.lt (Nat.le_of_eq g61.symm))))) hZ (hw _ (List.mem_of_getElem? (i := 32) rfl)) (hw _ (List.mem_of_getElem? (i := 3) rfl)) (by decide) (by decide)) (g := (mkF m 91 #[.val (.int k0), .val (.int x1), .val (.int x2), .val (.int x3), .val (.int x4), .val (.int (4 : Int32)), .val (.ref b52), .val (.long ((((x1.toInt64) + (x2.toInt64)) + (x3.toInt64)) + (x4.toInt64))), .second, .unset, .unset, .unset] [(.ref b62), (.ref b52), (.ref b61), (.ref b61)])) rfl (by rw [hml]; rfl) (Steps.refl _) (a := b61) (argsL := [(.ref b52), (.ref b62)]) (rest := [(.ref b61)]) (lenOf pd_1 rfl) rfl (by show 2 * 0 + _ ≤ _; exact Nat.le_of_eq rfl) (hb hby at_91) (fun _ _ => ⟨rfl, rfl, (by decide : ((((0 + 1) + 1) + 1) + 0) + 0 ≤ _), (by decide : ((((0 + 4) + 3) + 3) + 0) + 0 ≤ _)⟩)
    dsimp only [Pt.U, Pt.locs, Pt.cells, Pt.slots] at X64 l64 y64 z64 st64 hQ64
    subst l64 y64 z64
    obtain ⟨rfl, N64q, K64, Fl64, Ft64⟩ := hQ64
    have N64 := Fr.app N63 N64q
    have KK64 : Keep h0 T64.heap [] := Keep.trans KK63 K64 (allS (Or.inr sz_b61) all0)
    refine own_by (T' := T64) (g' := (mkF m 94 #[.val (.int k0), .val (.int x1), .val (.int x2), .val (.int x3), .val (.int x4), .val (.int (4 : Int32)), .val (.ref b52), .val (.long ((((x1.toInt64) + (x2.toInt64)) + (x3.toInt64)) + (x4.toInt64))), .second, .unset, .unset, .unset] [(.ref b61)])) (fun _ k => st64.trans k) ?_
    refine own_by (T' := T64) (g' := (mkF m 96 #[.val (.int k0), .val (.int x1), .val (.int x2), .val (.int x3), .val (.int x4), .val (.int (4 : Int32)), .val (.ref b52), .val (.long ((((x1.toInt64) + (x2.toInt64)) + (x3.toInt64)) + (x4.toInt64))), .second, .val (.ref b61), .unset, .unset] [])) (fun _ k => XS.astore X64.here hx rfl (hb hby at_94) rfl rfl (l' := #[.val (.int k0), .val (.int x1), .val (.int x2), .val (.int x3), .val (.int x4), .val (.int (4 : Int32)), .val (.ref b52), .val (.long ((((x1.toInt64) + (x2.toInt64)) + (x3.toInt64)) + (x4.toInt64))), .second, .val (.ref b61), .unset, .unset]) rfl k) ?_
    refine own_by (T' := T64) (g' := (mkF m 98 #[.val (.int k0), .val (.int x1), .val (.int x2), .val (.int x3), .val (.int x4), .val (.int (4 : Int32)), .val (.ref b52), .val (.long ((((x1.toInt64) + (x2.toInt64)) + (x3.toInt64)) + (x4.toInt64))), .second, .val (.ref b61), .unset, .unset] [(.long ((((x1.toInt64) + (x2.toInt64)) + (x3.toInt64)) + (x4.toInt64)))])) (fun _ k => XS.lload X64.here hx rfl (hb hby at_96) rfl k) ?_
    refine own_by (T' := T64) (g' := (mkF m 99 #[.val (.int k0), .val (.int x1), .val (.int x2), .val (.int x3), .val (.int x4), .val (.int (4 : Int32)), .val (.ref b52), .val (.long ((((x1.toInt64) + (x2.toInt64)) + (x3.toInt64)) + (x4.toInt64))), .second, .val (.ref b61), .unset, .unset] [(.double (FP.l2d ((((x1.toInt64) + (x2.toInt64)) + (x3.toInt64)) + (x4.toInt64))))])) (fun _ k => XS.l2dS X64.here hx rfl (hb hby at_98) rfl rfl k) ?_
    refine own_by (T' := T64) (g' := (mkF m 101 #[.val (.int k0), .val (.int x1), .val (.int x2), .val (.int x3), .val (.int x4), .val (.int (4 : Int32)), .val (.ref b52), .val (.long ((((x1.toInt64) + (x2.toInt64)) + (x3.toInt64)) + (x4.toInt64))), .second, .val (.ref b61), .unset, .unset] [(.int (4 : Int32)), (.double (FP.l2d ((((x1.toInt64) + (x2.toInt64)) + (x3.toInt64)) + (x4.toInt64))))])) (fun _ k => XS.iload X64.here hx rfl (hb hby at_99) rfl k) ?_
    refine own_by (T' := T64) (g' := (mkF m 102 #[.val (.int k0), .val (.int x1), .val (.int x2), .val (.int x3), .val (.int x4), .val (.int (4 : Int32)), .val (.ref b52), .val (.long ((((x1.toInt64) + (x2.toInt64)) + (x3.toInt64)) + (x4.toInt64))), .second, .val (.ref b61), .unset, .unset] [(.double (FP.i2d (4 : Int32))), (.double (FP.l2d ((((x1.toInt64) + (x2.toInt64)) + (x3.toInt64)) + (x4.toInt64))))])) (fun _ k => XS.i2dS X64.here hx rfl (hb hby at_101) rfl rfl k) ?_
    refine own_by (T' := T64) (g' := (mkF m 103 #[.val (.int k0), .val (.int x1), .val (.int x2), .val (.int x3), .val (.int x4), .val (.int (4 : Int32)), .val (.ref b52), .val (.long ((((x1.toInt64) + (x2.toInt64)) + (x3.toInt64)) + (x4.toInt64))), .second, .val (.ref b61), .unset, .unset] [(.double (FP.ddiv (FP.l2d ((((x1.toInt64) + (x2.toInt64)) + (x3.toInt64)) + (x4.toInt64))) (FP.i2d (4 : Int32))))])) (fun _ k => XS.ddivS X64.here hx rfl (hb hby at_102) rfl (own_nn _ _ (by decide)) rfl k) ?_
    refine own_by (T' := T64) (g' := (mkF m 105 #[.val (.int k0), .val (.int x1), .val (.int x2), .val (.int x3), .val (.int x4), .val (.int (4 : Int32)), .val (.ref b52), .val (.long ((((x1.toInt64) + (x2.toInt64)) + (x3.toInt64)) + (x4.toInt64))), .second, .val (.ref b61), .val (.double (FP.ddiv (FP.l2d ((((x1.toInt64) + (x2.toInt64)) + (x3.toInt64)) + (x4.toInt64))) (FP.i2d (4 : Int32)))), .second] [])) (fun _ k => XS.dstore X64.here hx rfl (hb hby at_103) rfl (l' := #[.val (.int k0), .val (.int x1), .val (.int x2), .val (.int x3), .val (.int x4), .val (.int (4 : Int32)), .val (.ref b52), .val (.long ((((x1.toInt64) + (x2.toInt64)) + (x3.toInt64)) + (x4.toInt64))), .second, .val (.ref b61), .val (.double (FP.ddiv (FP.l2d ((((x1.toInt64) + (x2.toInt64)) + (x3.toInt64)) + (x4.toInt64))) (FP.i2d (4 : Int32)))), .second]) rfl k) ?_
    refine own_by (T' := T64) (g' := (mkF m 107 #[.val (.int k0), .val (.int x1), .val (.int x2), .val (.int x3), .val (.int x4), .val (.int (4 : Int32)), .val (.ref b52), .val (.long ((((x1.toInt64) + (x2.toInt64)) + (x3.toInt64)) + (x4.toInt64))), .second, .val (.ref b61), .val (.double (FP.ddiv (FP.l2d ((((x1.toInt64) + (x2.toInt64)) + (x3.toInt64)) + (x4.toInt64))) (FP.i2d (4 : Int32)))), .second] [(.ref b61)])) (fun _ k => XS.aload X64.here hx rfl (hb hby at_105) rfl rfl k) ?_
    obtain ⟨cq65, kq65, q65a, q65b, q65c⟩ := isOf hZ rfl (Exa.keep (Exa.keep (Exa.ext E62 E_b61) K63) K64)
    obtain ⟨_, _, ⟨T65, L65, k65, n65⟩, -, X65, ⟨Lc65, hQ65, l65, y65, z65⟩, st65⟩ := X64.virtualBack hx (y := (⟨"com/example/postings/postings/index/FieldIndex", "averageLength", "()D"⟩ : MethodName)) (z := (⟨"com/example/postings/postings/index/FieldIndex", "averageLength", "()D"⟩ : MethodName)) hown (mvT hZ (hw _ (List.mem_of_getElem? (i := 40) rfl))) (mvT hZ (hw _ (List.mem_of_getElem? (i := 41) rfl))) (notFace_of_selects (args := #[]) (mvT hZ (hw _ (List.mem_of_getElem? (i := 43) rfl)))) (mvT hZ (hw _ (List.mem_of_getElem? (i := 43) rfl))) (mvT hZ (hw _ (List.mem_of_getElem? (i := 42) rfl))) (by decide) (backOf (W := 0) (av_4 l Z a0 hw [] b61 b52 k52 (((((0 : Int64) + (x1.toInt64)) + (x2.toInt64)) + (x3.toInt64)) + (x4.toInt64)) x1 x2 x3 x4 T64.heap n0 (Nat.le_trans (Nat.le_trans (Nat.le_trans (Nat.le_trans (Nat.le_trans (Nat.le_trans (Nat.le_trans (Nat.le_trans (Nat.le_trans Z0 E52.1) (Keep.of_wr W54).1) (Keep.of_wr W56).1) (Keep.of_wr W58).1) (Keep.of_wr W60).1) E61.1) E62.1) K63.1) K64.1) Fl64 Ft64 (Arv.keep (Arv.keep (Arv.ext (Arv.ext V60 E61) E62) K63 (ninS (Nat.ne_of_lt (Nat.lt_of_lt_of_le (Arv.ext V60 E61).lt (Nat.le_of_eq g62.symm))) nin0)) K64 (ninS (Nat.ne_of_lt (Nat.lt_of_lt_of_le V60.lt (Nat.le_of_eq g61.symm))) nin0))) hZ (hw _ (List.mem_of_getElem? (i := 44) rfl)) (hw _ (List.mem_of_getElem? (i := 3) rfl)) (by decide) (by decide)) q65a q65c (g := (mkF m 107 #[.val (.int k0), .val (.int x1), .val (.int x2), .val (.int x3), .val (.int x4), .val (.int (4 : Int32)), .val (.ref b52), .val (.long ((((x1.toInt64) + (x2.toInt64)) + (x3.toInt64)) + (x4.toInt64))), .second, .val (.ref b61), .val (.double (FP.ddiv (FP.l2d ((((x1.toInt64) + (x2.toInt64)) + (x3.toInt64)) + (x4.toInt64))) (FP.i2d (4 : Int32)))), .second] [(.ref b61)])) rfl (by rw [hml]; rfl) (Steps.refl _) (argsL := []) (rest := []) (lenOf pd_2 rfl) rfl (by show 2 * 0 + _ ≤ _; exact Nat.le_of_eq rfl) (hb hby at_107) (fun _ _ => ⟨rfl, rfl, (by decide : (((((0 + 1) + 1) + 1) + 0) + 0) + 0 ≤ _), (by decide : (((((0 + 4) + 3) + 3) + 0) + 0) + 0 ≤ _)⟩)
    dsimp only [Pt.U, Pt.locs, Pt.cells, Pt.slots] at X65 l65 y65 z65 st65 hQ65
    subst l65 y65 z65
    obtain ⟨rfl, N65q, e65⟩ := hQ65
    have N65 := Fr.app N64 N65q
    refine own_by (T' := T65) (g' := (mkF m 110 #[.val (.int k0), .val (.int x1), .val (.int x2), .val (.int x3), .val (.int x4), .val (.int (4 : Int32)), .val (.ref b52), .val (.long ((((x1.toInt64) + (x2.toInt64)) + (x3.toInt64)) + (x4.toInt64))), .second, .val (.ref b61), .val (.double (FP.ddiv (FP.l2d ((((x1.toInt64) + (x2.toInt64)) + (x3.toInt64)) + (x4.toInt64))) (FP.i2d (4 : Int32)))), .second] [(.double (FP.ddiv (FP.l2d (((((0 : Int64) + (x1.toInt64)) + (x2.toInt64)) + (x3.toInt64)) + (x4.toInt64))) (FP.i2d (4 : Int32))))])) (fun _ k => st65.trans k) ?_
    refine own_by (T' := T65) (g' := (mkF m 112 #[.val (.int k0), .val (.int x1), .val (.int x2), .val (.int x3), .val (.int x4), .val (.int (4 : Int32)), .val (.ref b52), .val (.long ((((x1.toInt64) + (x2.toInt64)) + (x3.toInt64)) + (x4.toInt64))), .second, .val (.ref b61), .val (.double (FP.ddiv (FP.l2d ((((x1.toInt64) + (x2.toInt64)) + (x3.toInt64)) + (x4.toInt64))) (FP.i2d (4 : Int32)))), .second] [(.double (FP.ddiv (FP.l2d ((((x1.toInt64) + (x2.toInt64)) + (x3.toInt64)) + (x4.toInt64))) (FP.i2d (4 : Int32)))), (.double (FP.ddiv (FP.l2d (((((0 : Int64) + (x1.toInt64)) + (x2.toInt64)) + (x3.toInt64)) + (x4.toInt64))) (FP.i2d (4 : Int32))))])) (fun _ k => XS.dload X65.here hx rfl (hb hby at_110) rfl k) ?_
    refine own_by (T' := T65) (g' := (mkF m 113 #[.val (.int k0), .val (.int x1), .val (.int x2), .val (.int x3), .val (.int x4), .val (.int (4 : Int32)), .val (.ref b52), .val (.long ((((x1.toInt64) + (x2.toInt64)) + (x3.toInt64)) + (x4.toInt64))), .second, .val (.ref b61), .val (.double (FP.ddiv (FP.l2d ((((x1.toInt64) + (x2.toInt64)) + (x3.toInt64)) + (x4.toInt64))) (FP.i2d (4 : Int32)))), .second] [(.int (0 : Int32))])) (fun _ k => XS.dcmpS X65.here hx rfl (hb hby at_112) rfl (own_dc _ _ _ (by decide) (by simp only [Int64.zero_add])) k) ?_
    refine own_by (T' := T65) (g' := (mkF m 116 #[.val (.int k0), .val (.int x1), .val (.int x2), .val (.int x3), .val (.int x4), .val (.int (4 : Int32)), .val (.ref b52), .val (.long ((((x1.toInt64) + (x2.toInt64)) + (x3.toInt64)) + (x4.toInt64))), .second, .val (.ref b61), .val (.double (FP.ddiv (FP.l2d ((((x1.toInt64) + (x2.toInt64)) + (x3.toInt64)) + (x4.toInt64))) (FP.i2d (4 : Int32)))), .second] [])) (fun _ k => XS.ifNo X65.here hx rfl (hb hby at_113) rfl ((if0 _ _).trans (teq (by decide)).2) k) ?_
    refine own_by (T' := T65) (g' := (mkF m 117 #[.val (.int k0), .val (.int x1), .val (.int x2), .val (.int x3), .val (.int x4), .val (.int (4 : Int32)), .val (.ref b52), .val (.long ((((x1.toInt64) + (x2.toInt64)) + (x3.toInt64)) + (x4.toInt64))), .second, .val (.ref b61), .val (.double (FP.ddiv (FP.l2d ((((x1.toInt64) + (x2.toInt64)) + (x3.toInt64)) + (x4.toInt64))) (FP.i2d (4 : Int32)))), .second] [(.int (1 : Int32))])) (fun _ k => XS.iconst X65.here hx rfl (hb hby at_116) k) ?_
    refine own_by (T' := T65) (g' := (mkF m 121 #[.val (.int k0), .val (.int x1), .val (.int x2), .val (.int x3), .val (.int x4), .val (.int (4 : Int32)), .val (.ref b52), .val (.long ((((x1.toInt64) + (x2.toInt64)) + (x3.toInt64)) + (x4.toInt64))), .second, .val (.ref b61), .val (.double (FP.ddiv (FP.l2d ((((x1.toInt64) + (x2.toInt64)) + (x3.toInt64)) + (x4.toInt64))) (FP.i2d (4 : Int32)))), .second] [(.int (1 : Int32))])) (fun _ k => XS.goto X65.here hx rfl (pc0 := 117) (pc' := 121) rfl (hb hby at_117) (by decide) (by decide) k) ?_
    refine own_ret X65 hlk (v := some (.int (1 : Int32))) (fun h => by rw [Bd.returns] at h; cases h) (fun fs hr => retN X65 hx (t := .boolean) Bd.returns (by simp) (hb hby at_121) hr) ?_ (by decide) (by decide)
    rw [e65]
    exact ⟨rfl, N65⟩
set_option maxRecDepth 65536 in
set_option maxHeartbeats 40000000 in
theorem comes_1 {Post : Tables → Env → Array Value → State → Outcome → State → Prop} (hpost : ∀ tb e args s v u, (limb_1_1.after args s (.returned v) u = true ∧ limb_1_2.after args s (.returned v) u = true ∧ True) → FrameEnd s (.returned v) u (Jvm.fieldLocs frame_1_writes args s ++ Jvm.arrayLocs frame_1_arrays args s ++ Jvm.staticLocs frame_1_statics s) 16 128 → Post tb e args s (.returned v) u) :
    ArmFor flags0 classFile x code maxLocals ret World_1 tables_1 room_1 Calls_1 rest_1 Pre_1 Post := by
  intro l hfl _ _ p e ha hc hk s m args below hf hA hF happ hP
  obtain ⟨hcalls, hrest, hpre⟩ := hP
  obtain ⟨-, -, -, hnamed, -, -, -, hat⟩ := (Spec.applies_iff hf).mp happ
  obtain ⟨hg, hn⟩ := and_e (Cond.before_iff.mp (show (Jvm.Cond.and given_1 narrow_1).before args s = true from hpre))
  obtain ⟨g1, g2⟩ := and_e hg
  obtain ⟨g3, g4⟩ := and_e g2
  obtain ⟨g5, g6⟩ := and_e g4
  obtain ⟨g7, g8⟩ := and_e g6
  obtain ⟨g9, g10⟩ := and_e g8
  obtain ⟨w0, w1, w2, w3, w4, rfl⟩ : ∃ w0 w1 w2 w3 w4 : Value, args = #[w0, w1, w2, w3, w4] := by
    have hs : args.size = 5 := by simpa [Cond.value, given_1] using g1
    obtain ⟨L⟩ := args
    match L, hs with
    | [w0, w1, w2, w3, w4], _ => exact ⟨w0, w1, w2, w3, w4, rfl⟩
  have hw := fun d (hd : d ∈ tables_1) => atoms_spec (ws := Jvm.Cond.code x code maxLocals ret :: tables_1) hat d (List.mem_cons_of_mem _ hd)
  have hfit : Fit s := fun {y c} hc i hi => by
    obtain ⟨ha, rfl⟩ := Array.getElem?_eq_some_iff.mp hc
    have q := List.all_eq_true.mp ((Array.all_eq_true_iff_forall_mem.mp hF) _ (Array.getElem_mem ha)) i (List.mem_range.mpr hi)
    simpa [Array.getElem?_eq_getElem hi] using q
  obtain ⟨hsets, hown0⟩ := atoms_of _ (rest_1_c_eq ▸ (show rest_1_c.before _ s = true from hrest))
  have hr0 := Cond.before_iff.mp hown0
  obtain ⟨i0, ei0⟩ := is_v g3
  obtain rfl : w0 = (.int i0) := Option.some.inj ei0
  obtain ⟨i1, ei1⟩ := is_v g5
  obtain rfl : w1 = (.int i1) := Option.some.inj ei1
  obtain ⟨i2, ei2⟩ := is_v g7
  obtain rfl : w2 = (.int i2) := Option.some.inj ei2
  obtain ⟨i3, ei3⟩ := is_v g9
  obtain rfl : w3 = (.int i3) := Option.some.inj ei3
  obtain ⟨i4, ei4⟩ := is_v g10
  obtain rfl : w4 = (.int i4) := Option.some.inj ei4
  obtain ⟨de, ede⟩ := exa_v (Cond.before_iff.mp (hsets _ (List.mem_of_getElem? (i := 7) rfl)))
  have S_DE : Sta s s.heap "java/util/ArrayList" "DEFAULTCAPACITY_EMPTY_ELEMENTDATA" "[Ljava/lang/Object;" (.ref de) := Sta.start ede (Or.inr ⟨(hw _ (List.mem_of_getElem? (i := 6) rfl)), (hsets _ (List.mem_of_getElem? (i := 2) rfl))⟩)
  obtain ⟨n, o, h1, h2, h3, _, L, rfl, ⟨rfl, N⟩, hq⟩ := rm0 l s _ hw tables_1 i0 i1 i2 i3 i4 de s.heap s.heap.size (Nat.le_refl _) (Old.start s) S_DE p e ha hc hk s m _ below hf ((Spec.applies_iff_loose hf).mp happ).1 ⟨rfl, State.Warmed39.refl s, rfl⟩ trivial
  refine ⟨n, _, h1, h2, h3, hpost _ _ _ _ _ _ ⟨Cond.after_iff.mpr rfl, Cond.after_iff.mpr (eq_i res_at (Term.int_eval (1)) rfl), trivial⟩ ⟨hq.1, hq.2.1, (hq.2.2.sift fun y hy => Or.inr (N y hy)).mono (by decide) (by decide)⟩⟩
theorem main_1_1 : Claimed_1_1 := comes_1 fun _ _ _ _ _ _ h hF => ⟨h.1, hF⟩
theorem main_1_2 : Claimed_1_2 := comes_1 fun _ _ _ _ _ _ h hF => ⟨h.2.1, hF⟩
end Jvm.Pilot.@@N@@
namespace Jvm.Pilot.@@N@@
open Jvm Jvm.ClassFile Sem Op Lib Jvm.Free Jvm.Stand Jvm.Pilot.@@N@@.Jvm.D
/-! MADE BY PROGRAM (witnessworld.py) out of the Statement's table words and the real class files: 18 classes; the members and pool entries that the words name. The judged class is class 1, her method 1. -/
namespace start1
open Jvm.ClassFile
def u (s : String) : CpInfo := .utf8 (stringToUtf16 s)
/-- a pool by its gaps: so many unusable entries, then the entry; so many at the end -/
def gap : Nat → List CpInfo → List CpInfo
  | 0, r => r
  | n + 1, r => .unusable :: gap n r
def poolList (es : List (Nat × CpInfo)) (last : Nat) : List CpInfo := es.foldr (fun e r => gap e.1 (e.2 :: r)) (gap last [])
def pool (es : List (Nat × CpInfo)) (last : Nat) : Array CpInfo := ⟨poolList es last⟩
def fileOf (pool : Array CpInfo) (this : Nat) (attrs : Array Attribute := #[]) (ms : Array MethodInfo := #[]) (fl : Nat := 33) (sup : Nat := 0) (ifs : Array Nat := #[]) (fds : Array FieldInfo := #[]) : ClassFile where
  minorVersion := 0
  majorVersion := 65
  constantPool := pool
  accessFlags := fl
  thisClass := this
  superClass := sup
  interfaces := ifs
  fields := fds
  methods := ms
  attributes := attrs
def plain (name : String) (sup : Option ClassId) : Class where
  name := name
  kind := .ordinary
  loader := none
  accessFlags := 33
  super := sup
  interfaces := #[]
  cf := none
  fields := #[]
  methods := #[]
  instanceTypes := #[]
  staticTypes := #[]
  resolved := #[]
  callSites := []
  init := .initialized
  statics := none
  mirror := none

def pool0 : Array CpInfo := pool [(5, u "<init>"), (0, u "()V"), (1, .class_ 10), (1, u "java/lang/Object")] 113

def k0c0 : Code := { maxStack := 0, maxLocals := 1, code := object_method_1_code, exceptionTable := #[], attributes := #[] }
def k0m0 : Method := { name := "<init>", desc := "()V", sig := { parameters := [], returnType := none }, accessFlags := 1, code := some k0c0 }
/-- java/lang/Object -/
def k0 : Class := { plain "java/lang/Object" none with
  accessFlags := 33
  interfaces := #[]
  cf := some (fileOf pool0 8 #[] #[{ accessFlags := 1, nameIndex := 5, descriptorIndex := 6, attributes := #[] }] 33 0 #[] #[])
  fields := #[]
  methods := #[k0m0]
  instanceTypes := #[]
  staticTypes := #[]
  resolved := Array.replicate 124 none
  statics := none }

def pool1 : Array CpInfo := pool [(2, .class_ 4), (0, .nameAndType 5 6), (0, u "java/lang/Object"), (0, u "<init>"), (0, u "()V"), (0, .class_ 8), (0, u "com/example/postings/postings/index/FieldIndex"), (0, .class_ 10), (0, u "java/util/ArrayList"), (0, .methodref 9 3), (0, .methodref 7 13), (0, .nameAndType 5 14), (0, u "([ILjava/util/List;)V"), (0, .methodref 7 16), (0, .nameAndType 17 18), (0, u "averageLength"), (0, u "()D"), (0, .class_ 20), (0, u "com/example/postings/postings/index/FieldIndexAverageLengthPinLaw"), (2, u "law"), (0, u "(IIIII)Z")] 5

def k1m0 : Method := { name := "<init>", desc := "()V", sig := { parameters := [], returnType := none }, accessFlags := 1, code := none }
def k1c1 : Code := { maxStack := 5, maxLocals := 12, code := code, exceptionTable := #[], attributes := #[] }
def k1m1 : Method := { name := "law", desc := "(IIIII)Z", sig := { parameters := [.int, .int, .int, .int, .int], returnType := some .boolean }, accessFlags := 9, code := some k1c1 }
/-- com/example/postings/postings/index/FieldIndexAverageLengthPinLaw -/
def k1 : Class := { plain "com/example/postings/postings/index/FieldIndexAverageLengthPinLaw" (some 0) with
  accessFlags := 49
  interfaces := #[]
  cf := some (fileOf pool1 19 #[] #[{ accessFlags := 1, nameIndex := 5, descriptorIndex := 6, attributes := #[] }, { accessFlags := 9, nameIndex := 23, descriptorIndex := 24, attributes := #[] }] 49 2 #[] #[])
  fields := #[]
  methods := #[k1m0, k1m1]
  instanceTypes := #[]
  staticTypes := #[]
  resolved := Array.replicate 30 none
  statics := none }

def pool2 : Array CpInfo := pool [(1, .methodref 2 3), (0, .class_ 4), (0, .nameAndType 5 6), (0, u "java/lang/Object"), (0, u "<init>"), (0, u "()V"), (0, .fieldref 8 9), (0, .class_ 10), (0, .nameAndType 11 12), (0, u "com/example/postings/postings/index/FieldIndex"), (0, u "lengths"), (0, u "[I"), (0, .fieldref 8 14), (0, .nameAndType 15 16), (0, u "totalLength"), (0, u "J"), (0, .fieldref 8 18), (0, .nameAndType 19 20), (0, u "segments"), (0, u "Ljava/util/List;"), (39, u "([ILjava/util/List;)V"), (7, u "averageLength"), (0, u "()D")] 7

def k2c0 : Code := { maxStack := 4, maxLocals := 9, code := prog_14_method_1_code, exceptionTable := #[], attributes := #[] }
def k2m0 : Method := { name := "<init>", desc := "([ILjava/util/List;)V", sig := { parameters := [(.array .int), (.object "java/util/List")], returnType := none }, accessFlags := 0, code := some k2c0 }
def k2c1 : Code := { maxStack := 4, maxLocals := 1, code := prog_14_method_3_code, exceptionTable := #[], attributes := #[] }
def k2m1 : Method := { name := "averageLength", desc := "()D", sig := { parameters := [], returnType := some .double }, accessFlags := 1, code := some k2c1 }
/-- com/example/postings/postings/index/FieldIndex -/
def k2 : Class := { plain "com/example/postings/postings/index/FieldIndex" (some 0) with
  accessFlags := 33
  interfaces := #[]
  cf := some (fileOf pool2 8 #[] #[{ accessFlags := 0, nameIndex := 5, descriptorIndex := 60, attributes := #[] }, { accessFlags := 1, nameIndex := 68, descriptorIndex := 69, attributes := #[] }] 33 2 #[] #[{ accessFlags := 18, nameIndex := 11, descriptorIndex := 12, attributes := #[] }, { accessFlags := 18, nameIndex := 15, descriptorIndex := 16, attributes := #[] }, { accessFlags := 18, nameIndex := 19, descriptorIndex := 20, attributes := #[] }])
  fields := #[{ name := "lengths", type := (.array .int), accessFlags := 18, slot := 0, constantValue := 0 }, { name := "totalLength", type := .long, accessFlags := 18, slot := 1, constantValue := 0 }, { name := "segments", type := (.object "java/util/List"), accessFlags := 18, slot := 2, constantValue := 0 }]
  methods := #[k2m0, k2m1]
  instanceTypes := #[(.array .int), .long, (.object "java/util/List")]
  staticTypes := #[]
  resolved := Array.replicate 77 none
  statics := none }

def pool3 : Array CpInfo := pool [(8, .class_ 10), (1, u "java/lang/Iterable"), (24, .class_ 36), (0, u "java/lang/Object")] 25

/-- java/lang/Iterable -/
def k3 : Class := { plain "java/lang/Iterable" (some 0) with
  accessFlags := 1537
  interfaces := #[]
  cf := some (fileOf pool3 8 #[] #[] 1537 35 #[] #[])
  fields := #[]
  methods := #[]
  instanceTypes := #[]
  staticTypes := #[]
  resolved := Array.replicate 62 none
  statics := none }

def pool4 : Array CpInfo := pool [(10, .class_ 12), (1, u "java/util/Collection"), (47, .class_ 61), (0, u "java/lang/Object"), (0, .class_ 63), (0, u "java/lang/Iterable")] 51

/-- java/util/Collection -/
def k4 : Class := { plain "java/util/Collection" (some 0) with
  accessFlags := 1537
  interfaces := #[3]
  cf := some (fileOf pool4 10 #[] #[] 1537 60 #[62] #[])
  fields := #[]
  methods := #[]
  instanceTypes := #[]
  staticTypes := #[]
  resolved := Array.replicate 115 none
  statics := none }

def pool5 : Array CpInfo := pool [(1, .methodref 2 3), (0, .class_ 4), (0, .nameAndType 5 6), (0, u "java/lang/Object"), (0, u "<init>"), (0, u "()V"), (1, .class_ 10), (1, u "java/util/AbstractCollection"), (66, .class_ 78), (0, u "java/util/Collection")] 81

def k5c0 : Code := { maxStack := 1, maxLocals := 1, code := jdk_22_method_1_code, exceptionTable := #[], attributes := #[] }
def k5m0 : Method := { name := "<init>", desc := "()V", sig := { parameters := [], returnType := none }, accessFlags := 4, code := some k5c0 }
/-- java/util/AbstractCollection -/
def k5 : Class := { plain "java/util/AbstractCollection" (some 0) with
  accessFlags := 1057
  interfaces := #[4]
  cf := some (fileOf pool5 8 #[] #[{ accessFlags := 4, nameIndex := 5, descriptorIndex := 6, attributes := #[] }] 1057 2 #[77] #[])
  fields := #[]
  methods := #[k5m0]
  instanceTypes := #[]
  staticTypes := #[]
  resolved := Array.replicate 160 none
  statics := none }

def pool6 : Array CpInfo := pool [(8, .class_ 10), (1, u "java/util/SequencedCollection"), (15, .class_ 27), (0, u "java/lang/Object"), (0, .class_ 29), (0, u "java/util/Collection")] 27

/-- java/util/SequencedCollection -/
def k6 : Class := { plain "java/util/SequencedCollection" (some 0) with
  accessFlags := 1537
  interfaces := #[4]
  cf := some (fileOf pool6 8 #[] #[] 1537 26 #[28] #[])
  fields := #[]
  methods := #[]
  instanceTypes := #[]
  staticTypes := #[]
  resolved := Array.replicate 57 none
  statics := none }

def pool7 : Array CpInfo := pool [(8, .class_ 10), (1, u "java/util/List"), (92, .class_ 104), (0, u "java/lang/Object"), (15, .class_ 121), (0, u "java/util/SequencedCollection")] 129

/-- java/util/List -/
def k7 : Class := { plain "java/util/List" (some 0) with
  accessFlags := 1537
  interfaces := #[6]
  cf := some (fileOf pool7 8 #[] #[] 1537 103 #[120] #[])
  fields := #[]
  methods := #[]
  instanceTypes := #[]
  staticTypes := #[]
  resolved := Array.replicate 251 none
  statics := none }

def pool8 : Array CpInfo := pool [(1, .methodref 2 3), (0, .class_ 4), (0, .nameAndType 5 6), (0, u "java/util/AbstractCollection"), (0, u "<init>"), (0, u "()V"), (0, .fieldref 8 9), (0, .class_ 10), (0, .nameAndType 11 12), (0, u "java/util/AbstractList"), (0, u "modCount"), (0, u "I"), (64, .class_ 78), (0, u "java/util/AbstractList$Itr"), (3, .class_ 83), (0, u "java/util/AbstractList$ListItr"), (9, .class_ 94), (0, u "java/util/AbstractList$RandomAccessSubList"), (3, .class_ 99), (0, u "java/util/AbstractList$SubList"), (33, .class_ 134), (0, u "java/util/List"), (73, .class_ 209), (0, u "java/util/AbstractList$SubList$1"), (0, .class_ 211), (0, u "java/util/AbstractList$RandomAccessSpliterator")] 6

def k8c0 : Code := { maxStack := 2, maxLocals := 1, code := jdk_39_method_1_code, exceptionTable := #[], attributes := #[] }
def k8m0 : Method := { name := "<init>", desc := "()V", sig := { parameters := [], returnType := none }, accessFlags := 4, code := some k8c0 }
/-- java/util/AbstractList -/
def k8 : Class := { plain "java/util/AbstractList" (some 5) with
  accessFlags := 1057
  interfaces := #[7]
  cf := some (fileOf pool8 8 #[.nestMembers #[93, 98, 208, 210, 82, 77]] #[{ accessFlags := 4, nameIndex := 5, descriptorIndex := 6, attributes := #[] }] 1057 2 #[133] #[{ accessFlags := 132, nameIndex := 11, descriptorIndex := 12, attributes := #[] }])
  fields := #[{ name := "modCount", type := .int, accessFlags := 132, slot := 0, constantValue := 0 }]
  methods := #[k8m0]
  instanceTypes := #[.int]
  staticTypes := #[]
  resolved := Array.replicate 218 none
  statics := none }

def pool9 : Array CpInfo := pool [(1, .class_ 2), (0, u "java/util/RandomAccess"), (0, .class_ 4), (0, u "java/lang/Object")] 2

/-- java/util/RandomAccess -/
def k9 : Class := { plain "java/util/RandomAccess" (some 0) with
  accessFlags := 1537
  interfaces := #[]
  cf := some (fileOf pool9 1 #[] #[] 1537 3 #[] #[])
  fields := #[]
  methods := #[]
  instanceTypes := #[]
  staticTypes := #[]
  resolved := Array.replicate 7 none
  statics := none }

def pool10 : Array CpInfo := pool [(1, .class_ 2), (0, u "java/lang/Cloneable"), (0, .class_ 4), (0, u "java/lang/Object")] 2

/-- java/lang/Cloneable -/
def k10 : Class := { plain "java/lang/Cloneable" (some 0) with
  accessFlags := 1537
  interfaces := #[]
  cf := some (fileOf pool10 1 #[] #[] 1537 3 #[] #[])
  fields := #[]
  methods := #[]
  instanceTypes := #[]
  staticTypes := #[]
  resolved := Array.replicate 7 none
  statics := none }

def pool11 : Array CpInfo := pool [(1, .class_ 2), (0, u "java/io/Serializable"), (0, .class_ 4), (0, u "java/lang/Object")] 2

/-- java/io/Serializable -/
def k11 : Class := { plain "java/io/Serializable" (some 0) with
  accessFlags := 1537
  interfaces := #[]
  cf := some (fileOf pool11 1 #[] #[] 1537 3 #[] #[])
  fields := #[]
  methods := #[]
  instanceTypes := #[]
  staticTypes := #[]
  resolved := Array.replicate 7 none
  statics := none }

def pool12 : Array CpInfo := pool [(1, .methodref 2 3), (0, .class_ 4), (0, .nameAndType 5 6), (0, u "java/util/AbstractList"), (0, u "<init>"), (0, u "()V"), (2, .fieldref 10 11), (0, .class_ 12), (0, .nameAndType 13 14), (0, u "java/util/ArrayList"), (0, u "elementData"), (0, u "[Ljava/lang/Object;"), (2, u "EMPTY_ELEMENTDATA"), (21, .fieldref 10 40), (0, .nameAndType 41 14), (0, u "DEFAULTCAPACITY_EMPTY_ELEMENTDATA"), (8, u "size"), (0, u "I"), (96, .class_ 149), (0, u "java/util/List"), (112, .class_ 263), (0, u "java/util/ArrayList$ListItr"), (3, .class_ 268), (0, u "java/util/ArrayList$Itr"), (7, .class_ 277), (0, u "java/util/ArrayList$SubList"), (12, .class_ 291), (0, u "java/util/ArrayList$ArrayListSpliterator"), (37, .class_ 330), (0, u "java/util/RandomAccess"), (0, .class_ 332), (0, u "java/lang/Cloneable"), (0, .class_ 334), (0, u "java/io/Serializable"), (0, u "serialVersionUID"), (0, u "J"), (3, u "DEFAULT_CAPACITY"), (159, .class_ 501), (0, u "java/util/ArrayList$SubList$2"), (0, .class_ 503), (0, u "java/util/ArrayList$SubList$1")] 5

def k12c0 : Code := { maxStack := 2, maxLocals := 1, code := jdk_38_method_2_code, exceptionTable := #[], attributes := #[] }
def k12m0 : Method := { name := "<init>", desc := "()V", sig := { parameters := [], returnType := none }, accessFlags := 1, code := some k12c0 }
/-- java/util/ArrayList -/
def k12 : Class := { plain "java/util/ArrayList" (some 8) with
  accessFlags := 33
  interfaces := #[7, 9, 10, 11]
  cf := some (fileOf pool12 10 #[.nestMembers #[290, 276, 500, 502, 262, 267]] #[{ accessFlags := 1, nameIndex := 5, descriptorIndex := 6, attributes := #[] }] 33 2 #[148, 329, 331, 333] #[{ accessFlags := 26, nameIndex := 335, descriptorIndex := 336, attributes := #[] }, { accessFlags := 26, nameIndex := 340, descriptorIndex := 51, attributes := #[] }, { accessFlags := 26, nameIndex := 17, descriptorIndex := 14, attributes := #[] }, { accessFlags := 26, nameIndex := 41, descriptorIndex := 14, attributes := #[] }, { accessFlags := 128, nameIndex := 13, descriptorIndex := 14, attributes := #[] }, { accessFlags := 2, nameIndex := 50, descriptorIndex := 51, attributes := #[] }])
  fields := #[{ name := "serialVersionUID", type := .long, accessFlags := 26, slot := 0, constantValue := 0 }, { name := "DEFAULT_CAPACITY", type := .int, accessFlags := 26, slot := 1, constantValue := 0 }, { name := "EMPTY_ELEMENTDATA", type := (.array (.object "java/lang/Object")), accessFlags := 26, slot := 2, constantValue := 0 }, { name := "DEFAULTCAPACITY_EMPTY_ELEMENTDATA", type := (.array (.object "java/lang/Object")), accessFlags := 26, slot := 3, constantValue := 0 }, { name := "elementData", type := (.array (.object "java/lang/Object")), accessFlags := 128, slot := 1, constantValue := 0 }, { name := "size", type := .int, accessFlags := 2, slot := 2, constantValue := 0 }]
  methods := #[k12m0]
  instanceTypes := #[.int, (.array (.object "java/lang/Object")), .int]
  staticTypes := #[.long, .int, (.array (.object "java/lang/Object")), (.array (.object "java/lang/Object"))]
  resolved := Array.replicate 509 none
  statics := some 0 }

/-- the primitive byte -/
def k13 : Class := { plain "byte" none with kind := .primitive 'B', accessFlags := 0x411 }
/-- [B -/
def k14 : Class := { plain "[B" (some 0) with kind := .array 13 .byte, interfaces := #[10, 11], accessFlags := 1041 }

/-- the primitive int -/
def k15 : Class := { plain "int" none with kind := .primitive 'I', accessFlags := 0x411 }
/-- [I -/
def k16 : Class := { plain "[I" (some 0) with kind := .array 15 .int, interfaces := #[10, 11], accessFlags := 1041 }

/-- [Ljava/lang/Object; -/
def k17 : Class := { plain "[Ljava/lang/Object;" (some 0) with kind := .array 0 (.object "java/lang/Object"), interfaces := #[10, 11], accessFlags := 1041 }

def heap : Heap := #[{ cls := 12, slots := #[.long 0, .int 0, .ref 1, .ref 2], vm := .statics 12 },
  { cls := 17, slots := #[], vm := .none },
  { cls := 17, slots := #[], vm := .none }]
def classes : Array Class := #[k0, k1, k2, k3, k4, k5, k6, k7, k8, k9, k10, k11, k12, k13, k14, k15, k16, k17]
def interned : List (Array UInt16 × Addr) := []
def slotsUsed : Nat := 4
def theMethod : MethodId := ⟨1, 1⟩
def args0 : Array Value := #[.int 0, .int 1, .int 2, .int 3, .int 4]
def aboutOver (below : List Frame) : State where
  vm := { classes := classes, interned := interned.toArray }
  heap := heap
  slotsUsed := slotsUsed
  threads := #[{ frames := .invoking theMethod args0 :: below }]
def below0 : List Frame := [.native { method := ⟨0, 0⟩, args := #[] }]
def about1 : State := aboutOver below0
def p0 : Program := .bare "" "" ""
def e0 : Env := launch0.env 0 0 0
theorem w_frames : about1.frames = Frame.invoking theMethod args0 :: below0 := rfl
set_option maxRecDepth 65536 in
theorem w_args : argsFit about1.vm theMethod args0 = true := by decide +kernel
set_option maxRecDepth 65536 in
theorem w_heap : heapFits about1 = true := by decide +kernel
set_option maxRecDepth 65536 in
theorem w_runnable : about1.curStatus? = some .runnable := by decide +kernel
set_option maxRecDepth 65536 in
theorem w_alone : about1.alone = true := by decide +kernel
set_option maxRecDepth 65536 in
theorem w_named : about1.methodNamed? x = some theMethod := by decide +kernel
set_option maxRecDepth 65536 in
theorem w_hears : about1.hears theMethod below0 = true := by decide +kernel
set_option maxRecDepth 65536 in
theorem w_ripe : about1.ripe theMethod args0 below0 = true := by decide +kernel
theorem w_running : about1.status = .running := rfl
set_option maxRecDepth 65536 in
theorem w_room : about1.hasRoom e0.platform room_1 = true :=
  launch0.hasRoom_least _ room_1 (by decide +kernel) (by decide +kernel) (by decide +kernel) (by decide +kernel) (by decide +kernel) (by decide +kernel)
theorem allAtoms_all (ts : List Jvm.Cond) (a : Array Jvm.Value) (st : Jvm.State) : (allAtoms ts).before a st = ts.all (fun c => c.before a st) := by
  induction ts with
  | nil => rfl
  | cons c t ih =>
    show (Jvm.Cond.and c (allAtoms t)).before a st = _
    rw [Jvm.Cond.before_and, ih, List.all_cons]
def words1 : List Jvm.Cond := Jvm.Cond.code x code maxLocals ret :: tables_1
/-- a 'code' word, met by the world's own term for the bytes: nothing is compared byte by byte -/
theorem code_word {y : MethodName} {bytes : ByteArray} {mx : Nat} {rt : Option FieldType} {a : Array Value} {s : State} {m : MethodId} {meth : Method} {c : Code} (h1 : s.methodNamed? y = some m) (h2 : s.vm.method? m = some meth) (h3 : meth.code = some c) (h4 : c.code = bytes)
    (h5 : (c.maxLocals == mx && c.exceptionTable.isEmpty && decide (c.maxStack ≤ mostOperands) && decide (meth.sig.returnType = rt) && !meth.locks && decide (parseMethodDescriptor y.desc = some meth.sig)) = true) : (Jvm.Cond.code y bytes mx rt).before a s = true := by
  simp only [Bool.and_eq_true, beq_iff_eq, Bool.not_eq_true', decide_eq_true_eq] at h5
  obtain ⟨⟨⟨⟨⟨g1, g2⟩, g3⟩, g4⟩, g5⟩, g6⟩ := h5
  simp [Cond.before, Cond.holds, Cond.value, h1, h2, h3, h4, g1, g2, g3, g4, g5, g6]
def isCode : Jvm.Cond → Bool
  | .code _ _ _ _ => true
  | _ => false
theorem all_split {L : List Jvm.Cond} {P : Jvm.Cond → Bool} (h1 : L.all (fun c => isCode c || P c) = true) (h2 : ∀ c ∈ L.filter isCode, P c = true) : L.all P = true := by
  refine List.all_eq_true.mpr fun c hc => ?_
  have h := List.all_eq_true.mp h1 c hc
  rcases Bool.eq_false_or_eq_true (isCode c) with hi | hi
  · exact h2 c (List.mem_filter.mpr ⟨hc, hi⟩)
  · simpa [hi] using h
set_option maxRecDepth 65536 in
theorem w_c0 : (Jvm.Cond.code x code maxLocals ret).before args0 about1 = true := code_word (m := ⟨1, 1⟩) (meth := k1m1) (c := k1c1) (by decide +kernel) rfl rfl rfl (by decide +kernel)
set_option maxRecDepth 65536 in
theorem w_c1 : (Jvm.Cond.code ({ cls := "java/util/ArrayList", name := "<init>", desc := "()V" } : Jvm.MethodName) jdk_38_method_2_code (1 : Nat) (Option.none : Option Jvm.ClassFile.FieldType)).before args0 about1 = true := code_word (m := ⟨12, 0⟩) (meth := k12m0) (c := k12c0) (by decide +kernel) rfl rfl rfl (by decide +kernel)
set_option maxRecDepth 65536 in
theorem w_c2 : (Jvm.Cond.code ({ cls := "java/util/AbstractList", name := "<init>", desc := "()V" } : Jvm.MethodName) jdk_39_method_1_code (1 : Nat) (Option.none : Option Jvm.ClassFile.FieldType)).before args0 about1 = true := code_word (m := ⟨8, 0⟩) (meth := k8m0) (c := k8c0) (by decide +kernel) rfl rfl rfl (by decide +kernel)
set_option maxRecDepth 65536 in
theorem w_c3 : (Jvm.Cond.code ({ cls := "java/util/AbstractCollection", name := "<init>", desc := "()V" } : Jvm.MethodName) jdk_22_method_1_code (1 : Nat) (Option.none : Option Jvm.ClassFile.FieldType)).before args0 about1 = true := code_word (m := ⟨5, 0⟩) (meth := k5m0) (c := k5c0) (by decide +kernel) rfl rfl rfl (by decide +kernel)
set_option maxRecDepth 65536 in
theorem w_c4 : (Jvm.Cond.code ({ cls := "java/lang/Object", name := "<init>", desc := "()V" } : Jvm.MethodName) object_method_1_code (1 : Nat) (Option.none : Option Jvm.ClassFile.FieldType)).before args0 about1 = true := code_word (m := ⟨0, 0⟩) (meth := k0m0) (c := k0c0) (by decide +kernel) rfl rfl rfl (by decide +kernel)
set_option maxRecDepth 65536 in
theorem w_c5 : (Jvm.Cond.code ({ cls := "com/example/postings/postings/index/FieldIndex", name := "<init>", desc := "([ILjava/util/List;)V" } : Jvm.MethodName) prog_14_method_1_code (9 : Nat) (Option.none : Option Jvm.ClassFile.FieldType)).before args0 about1 = true := code_word (m := ⟨2, 0⟩) (meth := k2m0) (c := k2c0) (by decide +kernel) rfl rfl rfl (by decide +kernel)
set_option maxRecDepth 65536 in
theorem w_c6 : (Jvm.Cond.code ({ cls := "com/example/postings/postings/index/FieldIndex", name := "averageLength", desc := "()D" } : Jvm.MethodName) prog_14_method_3_code (1 : Nat) (Option.some Jvm.ClassFile.FieldType.double)).before args0 about1 = true := code_word (m := ⟨2, 1⟩) (meth := k2m1) (c := k2c1) (by decide +kernel) rfl rfl rfl (by decide +kernel)
def codes1 : List Jvm.Cond := [Jvm.Cond.code x code maxLocals ret, Jvm.Cond.code ({ cls := "java/util/ArrayList", name := "<init>", desc := "()V" } : Jvm.MethodName) jdk_38_method_2_code (1 : Nat) (Option.none : Option Jvm.ClassFile.FieldType), Jvm.Cond.code ({ cls := "java/util/AbstractList", name := "<init>", desc := "()V" } : Jvm.MethodName) jdk_39_method_1_code (1 : Nat) (Option.none : Option Jvm.ClassFile.FieldType), Jvm.Cond.code ({ cls := "java/util/AbstractCollection", name := "<init>", desc := "()V" } : Jvm.MethodName) jdk_22_method_1_code (1 : Nat) (Option.none : Option Jvm.ClassFile.FieldType), Jvm.Cond.code ({ cls := "java/lang/Object", name := "<init>", desc := "()V" } : Jvm.MethodName) object_method_1_code (1 : Nat) (Option.none : Option Jvm.ClassFile.FieldType), Jvm.Cond.code ({ cls := "com/example/postings/postings/index/FieldIndex", name := "<init>", desc := "([ILjava/util/List;)V" } : Jvm.MethodName) prog_14_method_1_code (9 : Nat) (Option.none : Option Jvm.ClassFile.FieldType), Jvm.Cond.code ({ cls := "com/example/postings/postings/index/FieldIndex", name := "averageLength", desc := "()D" } : Jvm.MethodName) prog_14_method_3_code (1 : Nat) (Option.some Jvm.ClassFile.FieldType.double)]
set_option maxRecDepth 65536 in
theorem codes_eq : words1.filter isCode = codes1 := rfl
theorem w_codes : ∀ c ∈ words1.filter isCode, c.before args0 about1 = true := by
  rw [codes_eq]
  intro c hc
  simp only [codes1, List.mem_cons, List.not_mem_nil, or_false] at hc
  rcases hc with rfl | rfl | rfl | rfl | rfl | rfl | rfl
  · exact w_c0
  · exact w_c1
  · exact w_c2
  · exact w_c3
  · exact w_c4
  · exact w_c5
  · exact w_c6
set_option maxRecDepth 65536 in
theorem w_t1 : (words1.take 24).all (fun c => isCode c || c.before args0 about1) = true := by decide +kernel
set_option maxRecDepth 65536 in
theorem w_t2 : (words1.drop 24).all (fun c => isCode c || c.before args0 about1) = true := by decide +kernel
theorem w_tables : (allAtoms (Jvm.Cond.code x code maxLocals ret :: tables_1)).before args0 about1 = true := by
  rw [allAtoms_all]
  show words1.all (fun c => c.before args0 about1) = true
  refine all_split ?_ w_codes
  rw [← List.take_append_drop 24 words1, List.all_append, w_t1, w_t2]
  rfl
set_option maxRecDepth 65536 in
theorem w_rest : rest_1_c.before args0 about1 = true := by decide +kernel
set_option maxRecDepth 65536 in
theorem w_case : (Jvm.Cond.and given_1 narrow_1).before args0 about1 = true := by decide +kernel
theorem w_applies : (headSpec (Jvm.Cond.code x code maxLocals ret :: tables_1) room_1).applies x e0.platform about1 = true :=
  (Spec.applies_iff w_frames).mpr ⟨w_running, w_runnable, w_alone, w_named, w_hears, w_ripe, w_room, w_tables⟩
theorem atStart : AtStart classFile x code maxLocals ret World_1 tables_1 room_1 Calls_1 rest_1 Pre_1 launch0 p0 e0 about1 theMethod args0 below0 :=
  ⟨lists_1, trivial, launch0.admits_env _ _ _, launch0.least_env, fairChoices_fair.cas, fairChoices_fair.clock, w_frames, w_args, w_heap, w_applies, trivial, w_rest, w_case⟩
end start1
theorem witness_1 : WitnessClaimed_1 := ⟨start1.p0, start1.e0, start1.about1, start1.theMethod, start1.args0, start1.below0, start1.atStart⟩
end Jvm.Pilot.@@N@@
