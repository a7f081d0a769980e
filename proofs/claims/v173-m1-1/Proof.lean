import JvmDerived
import JvmDerived.Pilot.@@N@@Statement
import JvmDerived.Pilot.@@N@@Code
set_option linter.unusedVariables false
set_option linter.unusedSimpArgs false
namespace Jvm.RoadKit
open Sem ClassFile Op Lib Jvm.Stand Jvm.Free Jvm.LawKit
section New
variable {p : Program} {l : Launch} {e : Env} {R : Room} {s : State} {m : MethodId} {args : Array Value} {below : List Frame} {meth : Method} {c : Code} {T : State} {locs : List Loc} {cells slots : Nat}
theorem retI (X : Stand p l e R s m args below meth c T locs cells slots) (hx : p.tables.exec = Jvm.exec) {pc : Nat} {Ls : Array Slot} {z : Int32} {rest : List Value} (hret : meth.sig.returnType = some .int) (hd : decode c.code pc = .ok (.ireturn, 1)) {fs : List Frame}
    (hl : ∀ (f : JFrame) (acts : List Action), f.method = m → f.locked = none → f.entered = [] → (doReturn e (T.setTop f) acts (some (.int z))).1 = T.setFrames fs) : Steps p.tables e below (T.setTop (mkF m pc Ls (.int z :: rest))) (T.setFrames fs) := by
  have hm' : T.vm.method? m = some meth := X.method'
  have hn : narrow .int (.int z) = .int z := rfl
  show Steps p.tables e below (T.setTop { method := m, pc := pc, locals := Ls, stack := _ :: rest, locked := none }) _
  jvm_step X.here [X.here.top, hx, hd, hm', hret, hn]
  first | (intro acts; rw [hl _ acts rfl rfl rfl]) | rw [hl _ _ rfl rfl rfl]
  exact Steps.refl _
/-- from the state T with the frame g on top the run ends, returned, with Q -/
def own_Go (tb : Tables) (e : Env) (below : List Frame) (Q : Option Value → Heap → List Loc → Prop) (s : State) (C S : Nat) (T : State) (g : JFrame) : Prop :=
  ∃ t o, Steps tb e below (T.setTop g) t ∧ t.status = .running ∧ Ended t below o ∧ ∃ v L, o = .returned v ∧ Q v t.heap L ∧ FrameEnd s o t L C S
theorem own_by {tb : Tables} {Q : Option Value → Heap → List Loc → Prop} {C S : Nat} {T T' : State} {g g' : JFrame} (st : ∀ target, Steps tb e below (T'.setTop g') target → Steps tb e below (T.setTop g) target) (k : own_Go tb e below Q s C S T' g') : own_Go tb e below Q s C S T g := by
  obtain ⟨t, o, h1, h2⟩ := k
  exact ⟨t, o, st t h1, h2⟩
theorem bN {tb : Tables} {Q : Option Value → Heap → List Loc → Prop} {C S : Nat} {T : State} {g : JFrame} (T' : State) (g' : JFrame) (st : ∀ target, Steps tb e below (T'.setTop g') target → Steps tb e below (T.setTop g) target) (k : own_Go tb e below Q s C S T' g') : own_Go tb e below Q s C S T g := own_by st k
/-- the contract of a body: from the heap h0, with the arguments A, it returns, with Q -/
abbrev own_M (l : Launch) (y : MethodName) (code : ByteArray) (ml : Nat) (rt : Option FieldType) (ws : List Cond) (R : Room) (Z : State) (A : Array Value) (h0 : Heap) (Q : Option Value → Heap → List Loc → Prop) : Prop :=
  MetFree l y (head1 (Cond.code y code ml rt :: ws) R) (fun a U => a = A ∧ Z.Warmed39 U.vm ∧ U.heap = h0) (fun _ _ _ _ _ => True) (fun _ U o U' => ∃ v L, o = .returned v ∧ Q v U'.heap L ∧ FrameEnd U o U' L R.cells R.slots)
theorem own_bd {y : MethodName} {code : ByteArray} {ml : Nat} {rt : Option FieldType} {ws : List Cond} {Z : State} {A : Array Value} {h0 : Heap} {Q : Option Value → Heap → List Loc → Prop} (hpl : plainFor y = true)
    (k : ∀ p e s m below meth c s₁, BodyLoose p l y (head1 (Cond.code y code ml rt :: ws) R) code ml rt e s m A below meth c s₁ → p.tables.exec = Jvm.exec → c.code = code → c.maxLocals = ml → s.vm.findClass y.cls = some m.cls → meth.name = y.name → meth.locks = false → Z.Warmed39 s.vm → Stand p l e R s m A below meth c s₁ [] 0 0 → s₁.heap = h0 → own_Go p.tables e below Q s R.cells R.slots s₁ (entryFrame m A ml)) : own_M l y code ml rt ws R Z A h0 Q := by
  refine MetFree.of_bodySF hpl hisR ?_
  intro p e s m args below meth c s₁ Bd hml hP hK
  obtain ⟨rfl, hZ, hh⟩ := hP
  exact k p e s m below meth c s₁ Bd Bd.exec Bd.bytes hml (findClass_of_methodNamed Bd.named) (name_of_methodNamed Bd.named Bd.method).1 Bd.notSynchronized hZ (Stand.of_body Bd) (by rw [← hh, Bd.state]; rfl)
theorem own_ret {Q : Option Value → Heap → List Loc → Prop} {C S : Nat} {g : JFrame} (X : Stand p l e R s m args below meth c T locs cells slots) (hlk : meth.locks = false) {v : Option Value} (hv : meth.sig.returnType = none → v = none)
    (st : ∀ fs, (∀ (f : JFrame) (acts : List Action), f.method = m → f.locked = none → f.entered = [] → (doReturn e (T.setTop f) acts v).1 = T.setFrames fs) → Steps p.tables e below (T.setTop g) (T.setFrames fs))
    (hq : Q v T.heap locs) (hc : cells ≤ C) (hs : slots ≤ S) : own_Go p.tables e below Q s C S T g := by
  obtain ⟨fs, hr, hrun, hended, hW, hsame⟩ := X.leave (v := v) hv hlk
  exact ⟨_, _, st fs hr, hrun, hended, v, locs, rfl, hq, ⟨v, rfl⟩, hW, hsame.mono hc hs⟩
end New
end Jvm.RoadKit
namespace Jvm.Pilot.@@N@@
open Jvm Jvm.ClassFile Sem Op Lib Jvm.Free Jvm.Stand Jvm.LawKit Jvm.RoadKit Bundle Jvm.Pilot.@@N@@.Jvm.D
theorem pd_0 : parseMethodDescriptor "(IILjava/util/function/BiFunction;)I" = some ⟨[.int, .int, (.object "java/util/function/BiFunction")], some .int⟩ := by decide +kernel
theorem pd_1 : parseMethodDescriptor "(II)V" = some ⟨[.int, .int], none⟩ := by decide +kernel
theorem pd_2 : parseMethodDescriptor "()Z" = some ⟨[], some .boolean⟩ := by decide +kernel
theorem pd_3 : parseMethodDescriptor "([BI)C" = some ⟨[(.array .byte), .int], some .char⟩ := by decide +kernel
theorem pd_4 : parseMethodDescriptor "(I)Lcom/example/nisaba/nisaba/item/Comparison;" = some ⟨[.int], some (.object "com/example/nisaba/nisaba/item/Comparison")⟩ := by decide +kernel
theorem pd_5 : parseMethodDescriptor "()Ljava/lang/String;" = some ⟨[], some (.object "java/lang/String")⟩ := by decide +kernel
theorem pd_6 : parseMethodDescriptor "(I)C" = some ⟨[.int], some .char⟩ := by decide +kernel
theorem own_fld {args : Array Value} {s : State} {t : Term} {C n d : String} {a : Addr} {k : Int32} (ht : t.eval args s none [] s = some (.ref a)) (h : (Jvm.Cond.eq (.field t C n d) (.int k)).value args s none s [] = some true) : Fld s s.heap a C n d (.int k) := by
  refine Fld.start ?_
  rw [← fld_at (args := args) (first := s) (o := none) (idx := []) (s := s) (C := C) (n := n) (dd := d) ht]
  obtain ⟨x, y, e1, e2, -, -⟩ := cmp_v (Or.inl h)
  rw [Term.int_eval k] at e2
  obtain rfl : Value.int k = y := Option.some.inj e2
  cases x <;> simp [Jvm.Cond.value, e1, Term.int_eval] at h
  rw [e1, h]
theorem own_eqi {args : Array Value} {s : State} {a : Term} {k : Int32} (h : (Jvm.Cond.eq a (.int k)).value args s none s [] = some true) : a.eval args s none [] s = some (.int k) := by
  obtain ⟨x, y, e1, e2, -, -⟩ := cmp_v (Or.inl h)
  rw [Term.int_eval k] at e2
  obtain rfl : Value.int k = y := Option.some.inj e2
  cases x <;> simp [Jvm.Cond.value, e1, Term.int_eval] at h
  rw [e1, h]
theorem own_len {args : Array Value} {s : State} {t : Term} {a : Addr} {cl : Cell} {n : Int32} (ht : t.eval args s none [] s = some (.ref a)) (ha : s.arrayAt? a = some cl) (h : (Jvm.Cond.eq (.length t) (.int n)).value args s none s [] = some true) : cl.slots.size < 2 ^ 31 ∧ cl.slots.size.toInt32 = n := by
  have e := own_eqi h
  simp [Term.eval, ht, ha] at e
  exact e
theorem own_ne0 {args : Array Value} {s : State} {a : Term} {x k : Int32} (e : a.eval args s none [] s = some (.int x)) (h : (Jvm.Cond.not (.eq a (.int k))).before args s = true) : ¬ x = k := by
  have h1 := not_v (Cond.before_iff.mp h)
  intro q
  subst q
  simp [Jvm.Cond.value, e, Term.int_eval] at h1
theorem own_eqr {args : Array Value} {s : State} {a b : Term} {x : Addr} (eb : b.eval args s none [] s = some (.ref x)) (h : (Jvm.Cond.eq a b).value args s none s [] = some true) : a.eval args s none [] s = some (.ref x) := by
  obtain ⟨u, y, e1, e2, -, -⟩ := cmp_v (Or.inl h)
  rw [eb] at e2
  obtain rfl : Value.ref x = y := Option.some.inj e2
  cases u <;> simp [Jvm.Cond.value, e1, eb] at h
  rw [e1, h]
theorem own_vne {i j : Int32} (h : i ≠ j) : Value.int i ≠ Value.int j := fun q => h (Value.int.inj q)
def own_pick (i : Int32) (a0 a1 a2 a3 a4 a5 : Addr) : Addr := if i = 0 then a0 else if i = 1 then a1 else if i = 2 then a2 else if i = 3 then a3 else if i = 4 then a4 else a5
def own_by_ (a e n : Addr) : Int32 := if a = e then 0 else if a = n then 0 else 1
def own_ch (b : Int32) : Int32 := nar .char (nar .char ((b &&& (255 : Int32)).toUInt32.toUInt16.toUInt32.toInt32))
theorem own_mod6 (x : Int32) : (x &&& (2147483647 : Int32)) % (6 : Int32) = 0 ∨ (x &&& (2147483647 : Int32)) % (6 : Int32) = 1 ∨ (x &&& (2147483647 : Int32)) % (6 : Int32) = 2 ∨ (x &&& (2147483647 : Int32)) % (6 : Int32) = 3 ∨ (x &&& (2147483647 : Int32)) % (6 : Int32) = 4 ∨ (x &&& (2147483647 : Int32)) % (6 : Int32) = 5 := by
  have h := (c_and x 2147483647 (by decide)).1
  have h1 := (c_irem (x &&& 2147483647) 6 6 (by decide)).1 h
  have k0 : (0 : Int32).toInt = 0 := by decide
  have k1 : (1 : Int32).toInt = 1 := by decide
  have k2 : (2 : Int32).toInt = 2 := by decide
  have k3 : (3 : Int32).toInt = 3 := by decide
  have k4 : (4 : Int32).toInt = 4 := by decide
  have k5 : (5 : Int32).toInt = 5 := by decide
  simp only [← Int32.toInt_inj, k0, k1, k2, k3, k4, k5]
  omega
theorem d8_0 : decode jdk_41_method_11_code 0 = .ok (.iload_n 0, 1) := by decide +kernel
theorem d8_1 : decode jdk_41_method_11_code 1 = .ok (.ifCond .lt 8, 3) := by decide +kernel
theorem d8_4 : decode jdk_41_method_11_code 4 = .ok (.iload_n 0, 1) := by decide +kernel
theorem d8_5 : decode jdk_41_method_11_code 5 = .ok (.iload_n 1, 1) := by decide +kernel
theorem d8_6 : decode jdk_41_method_11_code 6 = .ok (.if_icmp .lt 10, 3) := by decide +kernel
theorem d8_16 : decode jdk_41_method_11_code 16 = .ok (.iload_n 0, 1) := by decide +kernel
theorem d8_17 : decode jdk_41_method_11_code 17 = .ok (.ireturn, 1) := by decide +kernel
theorem pn_8 : plainName "jdk/internal/util/Preconditions" = true := by first | (simp [plainName, overriddenIn]; done) | decide +kernel
theorem ef_rm8 (m : MethodId) (z : Int32) (sf : Value) (hsf : sf.isRef = true) : entryFrame m #[(.int (0 : Int32)), (.int z), sf] 3 = mkF m 0 #[.val (.int (0 : Int32)), .val (.int z), .val sf] [] := by
  rcases ref_cases hsf with rfl | ⟨_, rfl⟩ <;> rfl
def Q_rm8 (Z : State) (z : Int32) (sf : Value) (h0 : Heap) (n0 : Nat) (v : Option Value) (h : Heap) (L : List Loc) : Prop := v = some (.int (0 : Int32)) ∧ Fr n0 L ∧ h = h0
set_option maxRecDepth 65536 in
set_option maxHeartbeats 40000000 in
theorem rm8 (l : Launch) (Z : State) (a0 : Array Value) (hw : ∀ d ∈ tables_1, d.before a0 Z = true) (ws : List Jvm.Cond) (z : Int32) (sf : Value) (h0 : Heap) (n0 : Nat) (Z0 : n0 ≤ h0.size) (hsf : sf.isRef = true) (hz : (0 : Int32) < z) :
    MetFree l (⟨"jdk/internal/util/Preconditions", "checkIndex", "(IILjava/util/function/BiFunction;)I"⟩ : MethodName) (head1 (Jvm.Cond.code (⟨"jdk/internal/util/Preconditions", "checkIndex", "(IILjava/util/function/BiFunction;)I"⟩ : MethodName) jdk_41_method_11_code 3 (some .int) :: ws) ({ frames := 0, cells := 0, slots := 0, locals := 0 } : Room)) (fun zz UU => zz = #[(.int (0 : Int32)), (.int z), sf] ∧ Z.Warmed39 UU.vm ∧ UU.heap = h0) (fun _ _ _ _ _ => True) (fun _ U o U' => ∃ v L, o = .returned v ∧ Q_rm8 Z z sf h0 n0 v U'.heap L ∧ FrameEnd U o U' L ({ frames := 0, cells := 0, slots := 0, locals := 0 } : Room).cells ({ frames := 0, cells := 0, slots := 0, locals := 0 } : Room).slots) := by
  refine MetFree.of_bodySF (plainFor_of_name pn_8) hisR ?_
  intro p e s m args below meth c s₁ Bd hml0 hP hK
  obtain ⟨rfl, hZ, hh⟩ := hP
  have hx := Bd.exec
  have hby := Bd.bytes
  have hml : c.maxLocals = 3 := hml0
  have hown : s.vm.findClass "jdk/internal/util/Preconditions" = some m.cls := findClass_of_methodNamed Bd.named
  have hnm := (name_of_methodNamed Bd.named Bd.method).1
  have hlk : meth.locks = false := BodyLoose.notSynchronized Bd
  have X0 : Stand p l e ({ frames := 0, cells := 0, slots := 0, locals := 0 } : Room) s m #[(.int (0 : Int32)), (.int z), sf] below meth c s₁ [] 0 0 := Stand.of_body Bd
  have e0 : s₁.heap = h0 := by rw [← hh, Bd.state]; rfl
  have N0 := Fr.nil n0
  show own_Go p.tables e below (Q_rm8 Z z sf h0 n0) s ({ frames := 0, cells := 0, slots := 0, locals := 0 } : Room).cells ({ frames := 0, cells := 0, slots := 0, locals := 0 } : Room).slots s₁ (entryFrame m #[(.int (0 : Int32)), (.int z), sf] 3)
  rw [ef_rm8 m z sf hsf]
  refine own_by (T' := s₁) (g' := (mkF m 1 #[.val (.int (0 : Int32)), .val (.int z), .val sf] [(.int (0 : Int32))])) (fun _ k => XS.iloadN X0.here hx rfl (hb hby d8_0) rfl k) ?_
  refine own_by (T' := s₁) (g' := (mkF m 4 #[.val (.int (0 : Int32)), .val (.int z), .val sf] [])) (fun _ k => XS.ifNo X0.here hx rfl (hb hby d8_1) rfl ((if0 _ _).trans (flt (by decide)).1) k) ?_
  refine own_by (T' := s₁) (g' := (mkF m 5 #[.val (.int (0 : Int32)), .val (.int z), .val sf] [(.int (0 : Int32))])) (fun _ k => XS.iloadN X0.here hx rfl (hb hby d8_4) rfl k) ?_
  refine own_by (T' := s₁) (g' := (mkF m 6 #[.val (.int (0 : Int32)), .val (.int z), .val sf] [(.int z), (.int (0 : Int32))])) (fun _ k => XS.iloadN X0.here hx rfl (hb hby d8_5) rfl k) ?_
  refine own_by (T' := s₁) (g' := (mkF m 16 #[.val (.int (0 : Int32)), .val (.int z), .val sf] [])) (fun _ k => XS.icmpYes X0.here hx rfl (pc0 := 6) (pc' := 16) rfl (hb hby d8_6) rfl (tlt hz).1 (by decide) (by decide) k) ?_
  refine own_by (T' := s₁) (g' := (mkF m 17 #[.val (.int (0 : Int32)), .val (.int z), .val sf] [(.int (0 : Int32))])) (fun _ k => XS.iloadN X0.here hx rfl (hb hby d8_16) rfl k) ?_
  refine own_ret X0 hlk (v := some (.int (0 : Int32))) (fun h => by rw [Bd.returns] at h; cases h) (fun fs hr => retI X0 hx Bd.returns (hb hby d8_17) hr) ?_ (by decide) (by decide)
  rw [e0]
  exact ⟨rfl, N0, rfl⟩
theorem d7_0 : decode jdk_42_method_155_code 0 = .ok (.iload_n 0, 1) := by decide +kernel
theorem d7_1 : decode jdk_42_method_155_code 1 = .ok (.iload_n 1, 1) := by decide +kernel
theorem d7_2 : decode jdk_42_method_155_code 2 = .ok (.getstatic 1053, 3) := by decide +kernel
theorem d7_5 : decode jdk_42_method_155_code 5 = .ok (.invokestatic 1059, 3) := by decide +kernel
theorem d7_8 : decode jdk_42_method_155_code 8 = .ok (.pop, 1) := by decide +kernel
theorem d7_9 : decode jdk_42_method_155_code 9 = .ok (.return_, 1) := by decide +kernel
theorem pn_7 : plainName "java/lang/String" = true := by first | (simp [plainName, overriddenIn]; done) | decide +kernel
theorem ef_rm7 (m : MethodId) (z : Int32) : entryFrame m #[(.int (0 : Int32)), (.int z)] 2 = mkF m 0 #[.val (.int (0 : Int32)), .val (.int z)] [] := by first | (simp [entryFrame, mkF, argsToLocals, Value.category]; done) | rfl
def Q_rm7 (Z : State) (z : Int32) (sf : Value) (h0 : Heap) (n0 : Nat) (v : Option Value) (h : Heap) (L : List Loc) : Prop := v = none ∧ Fr n0 L ∧ h = h0
set_option maxRecDepth 65536 in
set_option maxHeartbeats 40000000 in
theorem rm7 (l : Launch) (Z : State) (a0 : Array Value) (hw : ∀ d ∈ tables_1, d.before a0 Z = true) (ws : List Jvm.Cond) (z : Int32) (sf : Value) (h0 : Heap) (n0 : Nat) (Z0 : n0 ≤ h0.size) (hsf : sf.isRef = true) (S_SF : Sta Z h0 "jdk/internal/util/Preconditions" "SIOOBE_FORMATTER" "Ljava/util/function/BiFunction;" sf) (hz : (0 : Int32) < z) :
    MetFree l (⟨"java/lang/String", "checkIndex", "(II)V"⟩ : MethodName) (head1 (Jvm.Cond.code (⟨"java/lang/String", "checkIndex", "(II)V"⟩ : MethodName) jdk_42_method_155_code 2 none :: ws) ({ frames := 1, cells := 0, slots := 0, locals := 14 } : Room)) (fun zz UU => zz = #[(.int (0 : Int32)), (.int z)] ∧ Z.Warmed39 UU.vm ∧ UU.heap = h0) (fun _ _ _ _ _ => True) (fun _ U o U' => ∃ v L, o = .returned v ∧ Q_rm7 Z z sf h0 n0 v U'.heap L ∧ FrameEnd U o U' L ({ frames := 1, cells := 0, slots := 0, locals := 14 } : Room).cells ({ frames := 1, cells := 0, slots := 0, locals := 14 } : Room).slots) := by
  refine MetFree.of_bodySF (plainFor_of_name pn_7) hisR ?_
  intro p e s m args below meth c s₁ Bd hml0 hP hK
  obtain ⟨rfl, hZ, hh⟩ := hP
  have hx := Bd.exec
  have hby := Bd.bytes
  have hml : c.maxLocals = 2 := hml0
  have hown : s.vm.findClass "java/lang/String" = some m.cls := findClass_of_methodNamed Bd.named
  have hnm := (name_of_methodNamed Bd.named Bd.method).1
  have hlk : meth.locks = false := BodyLoose.notSynchronized Bd
  have X0 : Stand p l e ({ frames := 1, cells := 0, slots := 0, locals := 14 } : Room) s m #[(.int (0 : Int32)), (.int z)] below meth c s₁ [] 0 0 := Stand.of_body Bd
  have e0 : s₁.heap = h0 := by rw [← hh, Bd.state]; rfl
  have N0 := Fr.nil n0
  show own_Go p.tables e below (Q_rm7 Z z sf h0 n0) s ({ frames := 1, cells := 0, slots := 0, locals := 14 } : Room).cells ({ frames := 1, cells := 0, slots := 0, locals := 14 } : Room).slots s₁ (entryFrame m #[(.int (0 : Int32)), (.int z)] 2)
  rw [ef_rm7 m z]
  refine own_by (T' := s₁) (g' := (mkF m 1 #[.val (.int (0 : Int32)), .val (.int z)] [(.int (0 : Int32))])) (fun _ k => XS.iloadN X0.here hx rfl (hb hby d7_0) rfl k) ?_
  refine own_by (T' := s₁) (g' := (mkF m 2 #[.val (.int (0 : Int32)), .val (.int z)] [(.int z), (.int (0 : Int32))])) (fun _ k => XS.iloadN X0.here hx rfl (hb hby d7_1) rfl k) ?_
  obtain ⟨T21, X21, e21, st21⟩ := getS2 X0 hx hZ hown (host := "") (Or.inl (hw _ (List.mem_of_getElem? (i := 47) rfl))) Via.refl e0 S_SF (g := (mkF m 2 #[.val (.int (0 : Int32)), .val (.int z)] [(.int z), (.int (0 : Int32))])) rfl (hb hby d7_2)
  refine own_by (T' := T21) (g' := (mkF m 5 #[.val (.int (0 : Int32)), .val (.int z)] [sf, (.int z), (.int (0 : Int32))])) (fun _ k => st21 _ k) ?_
  obtain ⟨_, _, ⟨T22, L22, k22, n22⟩, -, X22, ⟨Lc22, hQ22, l22, y22, z22⟩, st22⟩ := Jvm.LawKit.callS X21 hx (y := (⟨"jdk/internal/util/Preconditions", "checkIndex", "(IILjava/util/function/BiFunction;)I"⟩ : MethodName)) hown (mvT hZ (hw _ (List.mem_of_getElem? (i := 49) rfl))) (mvT hZ (hw _ (List.mem_of_getElem? (i := 50) rfl))) (mvT hZ (hw _ (List.mem_of_getElem? (i := 48) rfl))) (mvT hZ (hw _ (List.mem_of_getElem? (i := 51) rfl))) (by decide) (backOf (W := 0) (rm8 l Z a0 hw [] z sf  h0 n0 Z0 hsf hz) hZ (hw _ (List.mem_of_getElem? (i := 51) rfl)) (hw _ (List.mem_of_getElem? (i := 48) rfl)) (by decide) (by decide)) (g := (mkF m 5 #[.val (.int (0 : Int32)), .val (.int z)] [sf, (.int z), (.int (0 : Int32))])) rfl (by rw [hml]; rfl) (argsL := [(.int (0 : Int32)), (.int z), sf]) (rest := []) (lenOf pd_0 rfl) rfl (by show 2 * 0 + _ ≤ _; exact Nat.le_of_eq rfl) (hb hby d7_5) (fun _ _ => ⟨rfl, e21, (by decide : 0 + 0 ≤ _), (by decide : 0 + 0 ≤ _)⟩)
  dsimp only [Pt.U, Pt.locs, Pt.cells, Pt.slots] at X22 l22 y22 z22 st22 hQ22
  subst l22 y22 z22
  obtain ⟨rfl, N22q, e22⟩ := hQ22
  have N22 := Fr.app N0 N22q
  refine own_by (T' := T22) (g' := (mkF m 8 #[.val (.int (0 : Int32)), .val (.int z)] [(.int (0 : Int32))])) (fun _ k => st22 _ k) ?_
  refine own_by (T' := T22) (g' := (mkF m 9 #[.val (.int (0 : Int32)), .val (.int z)] [])) (fun _ k => XS.pop X22.here hx rfl (hb hby d7_8) rfl rfl k) ?_
  refine own_ret X22 hlk (v := none) (fun _ => rfl) (fun fs hr => X22.returnOut hx Bd.returns (hb hby d7_9) hr) ?_ (by decide) (by decide)
  rw [e22]
  exact ⟨rfl, N22, rfl⟩
theorem d6_0 : decode jdk_43_method_2_code 0 = .ok (.iload_n 1, 1) := by decide +kernel
theorem d6_1 : decode jdk_43_method_2_code 1 = .ok (.aload_n 0, 1) := by decide +kernel
theorem d6_2 : decode jdk_43_method_2_code 2 = .ok (.arraylength, 1) := by decide +kernel
theorem d6_3 : decode jdk_43_method_2_code 3 = .ok (.invokestatic 9, 3) := by decide +kernel
theorem d6_6 : decode jdk_43_method_2_code 6 = .ok (.aload_n 0, 1) := by decide +kernel
theorem d6_7 : decode jdk_43_method_2_code 7 = .ok (.iload_n 1, 1) := by decide +kernel
theorem d6_8 : decode jdk_43_method_2_code 8 = .ok (.baload, 1) := by decide +kernel
theorem d6_9 : decode jdk_43_method_2_code 9 = .ok (.sipush 255, 3) := by decide +kernel
theorem d6_12 : decode jdk_43_method_2_code 12 = .ok (.iand, 1) := by decide +kernel
theorem d6_13 : decode jdk_43_method_2_code 13 = .ok (.i2c, 1) := by decide +kernel
theorem d6_14 : decode jdk_43_method_2_code 14 = .ok (.ireturn, 1) := by decide +kernel
theorem pn_6 : plainName "java/lang/StringLatin1" = true := by first | (simp [plainName, overriddenIn]; done) | decide +kernel
theorem ef_rm6 (m : MethodId) (ar : Addr) : entryFrame m #[(.ref ar), (.int (0 : Int32))] 2 = mkF m 0 #[.val (.ref ar), .val (.int (0 : Int32))] [] := by first | (simp [entryFrame, mkF, argsToLocals, Value.category]; done) | rfl
def Q_rm6 (Z : State) (ar : Addr) (kk : ClassId) (b0 : Int32) (b1 : Int32) (sf : Value) (h0 : Heap) (n0 : Nat) (v : Option Value) (h : Heap) (L : List Loc) : Prop := v = some (.int (nar .char ((b0 &&& (255 : Int32)).toUInt32.toUInt16.toUInt32.toInt32))) ∧ Fr n0 L ∧ h = h0
set_option maxRecDepth 65536 in
set_option maxHeartbeats 40000000 in
theorem rm6 (l : Launch) (Z : State) (a0 : Array Value) (hw : ∀ d ∈ tables_1, d.before a0 Z = true) (ws : List Jvm.Cond) (ar : Addr) (kk : ClassId) (b0 : Int32) (b1 : Int32) (sf : Value) (h0 : Heap) (n0 : Nat) (Z0 : n0 ≤ h0.size) (V_ar : Arv Z h0 ar kk .byte (2 : Int32) [(.int b0), (.int b1)] (.int (0 : Int32))) (hsf : sf.isRef = true) (S_SF : Sta Z h0 "jdk/internal/util/Preconditions" "SIOOBE_FORMATTER" "Ljava/util/function/BiFunction;" sf) :
    MetFree l (⟨"java/lang/StringLatin1", "charAt", "([BI)C"⟩ : MethodName) (head1 (Jvm.Cond.code (⟨"java/lang/StringLatin1", "charAt", "([BI)C"⟩ : MethodName) jdk_43_method_2_code 2 (some .char) :: ws) ({ frames := 2, cells := 0, slots := 0, locals := 27 } : Room)) (fun zz UU => zz = #[(.ref ar), (.int (0 : Int32))] ∧ Z.Warmed39 UU.vm ∧ UU.heap = h0) (fun _ _ _ _ _ => True) (fun _ U o U' => ∃ v L, o = .returned v ∧ Q_rm6 Z ar kk b0 b1 sf h0 n0 v U'.heap L ∧ FrameEnd U o U' L ({ frames := 2, cells := 0, slots := 0, locals := 27 } : Room).cells ({ frames := 2, cells := 0, slots := 0, locals := 27 } : Room).slots) := by
  refine MetFree.of_bodySF (plainFor_of_name pn_6) hisR ?_
  intro p e s m args below meth c s₁ Bd hml0 hP hK
  obtain ⟨rfl, hZ, hh⟩ := hP
  have hx := Bd.exec
  have hby := Bd.bytes
  have hml : c.maxLocals = 2 := hml0
  have hown : s.vm.findClass "java/lang/StringLatin1" = some m.cls := findClass_of_methodNamed Bd.named
  have hnm := (name_of_methodNamed Bd.named Bd.method).1
  have hlk : meth.locks = false := BodyLoose.notSynchronized Bd
  have X0 : Stand p l e ({ frames := 2, cells := 0, slots := 0, locals := 27 } : Room) s m #[(.ref ar), (.int (0 : Int32))] below meth c s₁ [] 0 0 := Stand.of_body Bd
  have e0 : s₁.heap = h0 := by rw [← hh, Bd.state]; rfl
  have N0 := Fr.nil n0
  show own_Go p.tables e below (Q_rm6 Z ar kk b0 b1 sf h0 n0) s ({ frames := 2, cells := 0, slots := 0, locals := 27 } : Room).cells ({ frames := 2, cells := 0, slots := 0, locals := 27 } : Room).slots s₁ (entryFrame m #[(.ref ar), (.int (0 : Int32))] 2)
  rw [ef_rm6 m ar]
  refine own_by (T' := s₁) (g' := (mkF m 1 #[.val (.ref ar), .val (.int (0 : Int32))] [(.int (0 : Int32))])) (fun _ k => XS.iloadN X0.here hx rfl (hb hby d6_0) rfl k) ?_
  refine own_by (T' := s₁) (g' := (mkF m 2 #[.val (.ref ar), .val (.int (0 : Int32))] [(.ref ar), (.int (0 : Int32))])) (fun _ k => XS.aloadN X0.here hx rfl (hb hby d6_1) rfl rfl k) ?_
  obtain ⟨cl21, Ar21, q21, S21, N_21, H21, G21⟩ := id V_ar
  refine own_by (T' := s₁) (g' := (mkF m 3 #[.val (.ref ar), .val (.int (0 : Int32))] [(.int (2 : Int32)), (.int (0 : Int32))])) (fun _ k => X0.arraylength hx (by rw [e0]; exact Ar21.1) (State.isArrayOf_alike hZ.alike Ar21.2.1) (g := (mkF m 2 #[.val (.ref ar), .val (.int (0 : Int32))] [(.ref ar), (.int (0 : Int32))])) rfl rfl (hb hby d6_2) _ (by rw [len_of S21 N_21]; exact k)) ?_
  obtain ⟨_, _, ⟨T22, L22, k22, n22⟩, -, X22, ⟨Lc22, hQ22, l22, y22, z22⟩, st22⟩ := Jvm.LawKit.callS X0 hx (y := (⟨"java/lang/String", "checkIndex", "(II)V"⟩ : MethodName)) hown (mvT hZ (hw _ (List.mem_of_getElem? (i := 44) rfl))) (mvT hZ (hw _ (List.mem_of_getElem? (i := 45) rfl))) (mvT hZ (hw _ (List.mem_of_getElem? (i := 28) rfl))) (mvT hZ (hw _ (List.mem_of_getElem? (i := 46) rfl))) (by decide) (backOf (W := 0) (rm7 l Z a0 hw [] (2 : Int32) sf h0 n0 Z0 hsf S_SF (by decide)) hZ (hw _ (List.mem_of_getElem? (i := 46) rfl)) (hw _ (List.mem_of_getElem? (i := 28) rfl)) (by decide) (by decide)) (g := (mkF m 3 #[.val (.ref ar), .val (.int (0 : Int32))] [(.int (2 : Int32)), (.int (0 : Int32))])) rfl (by rw [hml]; rfl) (argsL := [(.int (0 : Int32)), (.int (2 : Int32))]) (rest := []) (lenOf pd_1 rfl) rfl (by show 2 * 0 + _ ≤ _; exact Nat.le_of_eq rfl) (hb hby d6_3) (fun _ _ => ⟨rfl, e0, (by decide : 0 + 0 ≤ _), (by decide : 0 + 0 ≤ _)⟩)
  dsimp only [Pt.U, Pt.locs, Pt.cells, Pt.slots] at X22 l22 y22 z22 st22 hQ22
  subst l22 y22 z22
  obtain ⟨rfl, N22q, e22⟩ := hQ22
  have N22 := Fr.app N0 N22q
  refine own_by (T' := T22) (g' := (mkF m 6 #[.val (.ref ar), .val (.int (0 : Int32))] [])) (fun _ k => st22 _ k) ?_
  refine own_by (T' := T22) (g' := (mkF m 7 #[.val (.ref ar), .val (.int (0 : Int32))] [(.ref ar)])) (fun _ k => XS.aloadN X22.here hx rfl (hb hby d6_6) rfl rfl k) ?_
  refine own_by (T' := T22) (g' := (mkF m 8 #[.val (.ref ar), .val (.int (0 : Int32))] [(.int (0 : Int32)), (.ref ar)])) (fun _ k => XS.iloadN X22.here hx rfl (hb hby d6_7) rfl k) ?_
  obtain ⟨cl23, Ar23, q23, S23, N_23, H23, G23⟩ := id V_ar
  have hin23 : ¬ ((0 : Int32) < 0 ∨ cl23.slots.size ≤ ((0 : Int32)).toNatClampNeg) := inb_of S23 ⟨by decide, by decide⟩
  refine own_by (T' := T22) (g' := (mkF m 9 #[.val (.ref ar), .val (.int (0 : Int32))] [(.int b0)])) (fun _ k => X22.baloadBytes hx (j := (0 : Int32)) (v := (.int b0)) (by rw [e22]; exact Ar23.1) (State.isArrayOf_alike hZ.alike Ar23.2.1) Ar23.2.2 hin23 (Has.at H23 hin23 rfl) (g := (mkF m 8 #[.val (.ref ar), .val (.int (0 : Int32))] [(.int (0 : Int32)), (.ref ar)])) rfl rfl (hb hby d6_8) _ k) ?_
  refine own_by (T' := T22) (g' := (mkF m 12 #[.val (.ref ar), .val (.int (0 : Int32))] [(.int (255 : Int32)), (.int b0)])) (fun _ k => XS.sipush X22.here hx rfl (hb hby d6_9) k) ?_
  refine own_by (T' := T22) (g' := (mkF m 13 #[.val (.ref ar), .val (.int (0 : Int32))] [(.int (b0 &&& (255 : Int32)))])) (fun _ k => XS.iand X22.here hx rfl (hb hby d6_12) rfl k) ?_
  refine own_by (T' := T22) (g' := (mkF m 14 #[.val (.ref ar), .val (.int (0 : Int32))] [(.int ((b0 &&& (255 : Int32)).toUInt32.toUInt16.toUInt32.toInt32))])) (fun _ k => XS.i2c X22.here hx rfl (hb hby d6_13) rfl k) ?_
  refine own_ret X22 hlk (v := some (.int (nar .char ((b0 &&& (255 : Int32)).toUInt32.toUInt16.toUInt32.toInt32)))) (fun h => by rw [Bd.returns] at h; cases h) (fun fs hr => retN X22 hx (t := .char) Bd.returns (by simp) (hb hby d6_14) hr) ?_ (by decide) (by decide)
  rw [e22]
  exact ⟨rfl, N22, rfl⟩
theorem d5_0 : decode jdk_42_method_154_code 0 = .ok (.getstatic 38, 3) := by decide +kernel
theorem d5_3 : decode jdk_42_method_154_code 3 = .ok (.ifCond .eq 14, 3) := by decide +kernel
theorem d5_6 : decode jdk_42_method_154_code 6 = .ok (.aload_n 0, 1) := by decide +kernel
theorem d5_7 : decode jdk_42_method_154_code 7 = .ok (.getfield 15, 3) := by decide +kernel
theorem d5_10 : decode jdk_42_method_154_code 10 = .ok (.ifCond .ne 7, 3) := by decide +kernel
theorem d5_13 : decode jdk_42_method_154_code 13 = .ok (.iconst 1, 1) := by decide +kernel
theorem d5_14 : decode jdk_42_method_154_code 14 = .ok (.goto 4, 3) := by decide +kernel
theorem d5_18 : decode jdk_42_method_154_code 18 = .ok (.ireturn, 1) := by decide +kernel
theorem pn_5 : plainName "java/lang/String" = true := by first | (simp [plainName, overriddenIn]; done) | decide +kernel
theorem ef_rm5 (m : MethodId) (a : Addr) : entryFrame m #[(.ref a)] 1 = mkF m 0 #[.val (.ref a)] [] := by first | (simp [entryFrame, mkF, argsToLocals, Value.category]; done) | rfl
def Q_rm5 (Z : State) (a : Addr) (cs : Int32) (h0 : Heap) (n0 : Nat) (v : Option Value) (h : Heap) (L : List Loc) : Prop := v = some (.int (1 : Int32)) ∧ Fr n0 L ∧ h = h0
set_option maxRecDepth 65536 in
set_option maxHeartbeats 40000000 in
theorem rm5 (l : Launch) (Z : State) (a0 : Array Value) (hw : ∀ d ∈ tables_1, d.before a0 Z = true) (ws : List Jvm.Cond) (a : Addr) (cs : Int32) (h0 : Heap) (n0 : Nat) (Z0 : n0 ≤ h0.size) (S_CS : Sta Z h0 "java/lang/String" "COMPACT_STRINGS" "Z" (.int cs)) (hcs : ¬ cs = (0 : Int32)) (F_coder_a : Fld Z h0 a "java/lang/String" "coder" "B" (.int (0 : Int32))) :
    MetFree l (⟨"java/lang/String", "isLatin1", "()Z"⟩ : MethodName) (head1 (Jvm.Cond.code (⟨"java/lang/String", "isLatin1", "()Z"⟩ : MethodName) jdk_42_method_154_code 1 (some .boolean) :: ws) ({ frames := 0, cells := 0, slots := 0, locals := 0 } : Room)) (fun zz UU => zz = #[(.ref a)] ∧ Z.Warmed39 UU.vm ∧ UU.heap = h0) (fun _ _ _ _ _ => True) (fun _ U o U' => ∃ v L, o = .returned v ∧ Q_rm5 Z a cs h0 n0 v U'.heap L ∧ FrameEnd U o U' L ({ frames := 0, cells := 0, slots := 0, locals := 0 } : Room).cells ({ frames := 0, cells := 0, slots := 0, locals := 0 } : Room).slots) := by
  refine MetFree.of_bodySF (plainFor_of_name pn_5) hisR ?_
  intro p e s m args below meth c s₁ Bd hml0 hP hK
  obtain ⟨rfl, hZ, hh⟩ := hP
  have hx := Bd.exec
  have hby := Bd.bytes
  have hml : c.maxLocals = 1 := hml0
  have hown : s.vm.findClass "java/lang/String" = some m.cls := findClass_of_methodNamed Bd.named
  have hnm := (name_of_methodNamed Bd.named Bd.method).1
  have hlk : meth.locks = false := BodyLoose.notSynchronized Bd
  have X0 : Stand p l e ({ frames := 0, cells := 0, slots := 0, locals := 0 } : Room) s m #[(.ref a)] below meth c s₁ [] 0 0 := Stand.of_body Bd
  have e0 : s₁.heap = h0 := by rw [← hh, Bd.state]; rfl
  have N0 := Fr.nil n0
  show own_Go p.tables e below (Q_rm5 Z a cs h0 n0) s ({ frames := 0, cells := 0, slots := 0, locals := 0 } : Room).cells ({ frames := 0, cells := 0, slots := 0, locals := 0 } : Room).slots s₁ (entryFrame m #[(.ref a)] 1)
  rw [ef_rm5 m a]
  obtain ⟨T21, X21, e21, st21⟩ := getS2 X0 hx hZ hown (host := "") (Or.inl (hw _ (List.mem_of_getElem? (i := 35) rfl))) Via.refl e0 S_CS (g := (mkF m 0 #[.val (.ref a)] [])) rfl (hb hby d5_0)
  refine own_by (T' := T21) (g' := (mkF m 3 #[.val (.ref a)] [(.int cs)])) (fun _ k => st21 _ k) ?_
  refine own_by (T' := T21) (g' := (mkF m 6 #[.val (.ref a)] [])) (fun _ k => XS.ifNo X21.here hx rfl (hb hby d5_3) rfl ((if0 _ _).trans (feq hcs).1) k) ?_
  refine own_by (T' := T21) (g' := (mkF m 7 #[.val (.ref a)] [(.ref a)])) (fun _ k => XS.aloadN X21.here hx rfl (hb hby d5_6) rfl rfl k) ?_
  obtain ⟨T22, X22, e22, st22⟩ := getF X21 hx hZ hown (host := "") (Or.inl (hw _ (List.mem_of_getElem? (i := 36) rfl))) Via.refl e21 F_coder_a (g := (mkF m 7 #[.val (.ref a)] [(.ref a)])) rfl rfl (hb hby d5_7)
  refine own_by (T' := T22) (g' := (mkF m 10 #[.val (.ref a)] [(.int (0 : Int32))])) (fun _ k => st22 _ k) ?_
  refine own_by (T' := T22) (g' := (mkF m 13 #[.val (.ref a)] [])) (fun _ k => XS.ifNo X22.here hx rfl (hb hby d5_10) rfl ((if0 _ _).trans (teq (by decide)).2) k) ?_
  refine own_by (T' := T22) (g' := (mkF m 14 #[.val (.ref a)] [(.int (1 : Int32))])) (fun _ k => XS.iconst X22.here hx rfl (hb hby d5_13) k) ?_
  refine own_by (T' := T22) (g' := (mkF m 18 #[.val (.ref a)] [(.int (1 : Int32))])) (fun _ k => XS.goto X22.here hx rfl (pc0 := 14) (pc' := 18) rfl (hb hby d5_14) (by decide) (by decide) k) ?_
  refine own_ret X22 hlk (v := some (.int (1 : Int32))) (fun h => by rw [Bd.returns] at h; cases h) (fun fs hr => retN X22 hx (t := .boolean) Bd.returns (by simp) (hb hby d5_18) hr) ?_ (by decide) (by decide)
  rw [e22]
  exact ⟨rfl, N0, rfl⟩
theorem d4_0 : decode jdk_42_method_56_code 0 = .ok (.aload_n 0, 1) := by decide +kernel
theorem d4_1 : decode jdk_42_method_56_code 1 = .ok (.invokevirtual 492, 3) := by decide +kernel
theorem d4_4 : decode jdk_42_method_56_code 4 = .ok (.ifCond .eq 12, 3) := by decide +kernel
theorem d4_7 : decode jdk_42_method_56_code 7 = .ok (.aload_n 0, 1) := by decide +kernel
theorem d4_8 : decode jdk_42_method_56_code 8 = .ok (.getfield 9, 3) := by decide +kernel
theorem d4_11 : decode jdk_42_method_56_code 11 = .ok (.iload_n 1, 1) := by decide +kernel
theorem d4_12 : decode jdk_42_method_56_code 12 = .ok (.invokestatic 495, 3) := by decide +kernel
theorem d4_15 : decode jdk_42_method_56_code 15 = .ok (.ireturn, 1) := by decide +kernel
theorem pn_4 : plainName "java/lang/String" = true := by first | (simp [plainName, overriddenIn]; done) | decide +kernel
theorem ef_rm4 (m : MethodId) (a : Addr) : entryFrame m #[(.ref a), (.int (0 : Int32))] 2 = mkF m 0 #[.val (.ref a), .val (.int (0 : Int32))] [] := by first | (simp [entryFrame, mkF, argsToLocals, Value.category]; done) | rfl
def Q_rm4 (Z : State) (a : Addr) (ar : Addr) (kk : ClassId) (b0 : Int32) (b1 : Int32) (cs : Int32) (sf : Value) (h0 : Heap) (n0 : Nat) (v : Option Value) (h : Heap) (L : List Loc) : Prop := v = some (.int (own_ch b0)) ∧ Fr n0 L ∧ h = h0
set_option maxRecDepth 65536 in
set_option maxHeartbeats 40000000 in
theorem rm4 (l : Launch) (Z : State) (a0 : Array Value) (hw : ∀ d ∈ tables_1, d.before a0 Z = true) (ws : List Jvm.Cond) (a : Addr) (ar : Addr) (kk : ClassId) (b0 : Int32) (b1 : Int32) (cs : Int32) (sf : Value) (h0 : Heap) (n0 : Nat) (Z0 : n0 ≤ h0.size) (E_a : Exa Z h0 a "java/lang/String") (F_coder_a : Fld Z h0 a "java/lang/String" "coder" "B" (.int (0 : Int32))) (F_value_a : Fld Z h0 a "java/lang/String" "value" "[B" (.ref ar)) (V_ar : Arv Z h0 ar kk .byte (2 : Int32) [(.int b0), (.int b1)] (.int (0 : Int32))) (S_CS : Sta Z h0 "java/lang/String" "COMPACT_STRINGS" "Z" (.int cs)) (hcs : ¬ cs = (0 : Int32)) (hsf : sf.isRef = true) (S_SF : Sta Z h0 "jdk/internal/util/Preconditions" "SIOOBE_FORMATTER" "Ljava/util/function/BiFunction;" sf) :
    MetFree l (⟨"java/lang/String", "charAt", "(I)C"⟩ : MethodName) (head1 (Jvm.Cond.code (⟨"java/lang/String", "charAt", "(I)C"⟩ : MethodName) jdk_42_method_56_code 2 (some .char) :: ws) ({ frames := 3, cells := 0, slots := 0, locals := 40 } : Room)) (fun zz UU => zz = #[(.ref a), (.int (0 : Int32))] ∧ Z.Warmed39 UU.vm ∧ UU.heap = h0) (fun _ _ _ _ _ => True) (fun _ U o U' => ∃ v L, o = .returned v ∧ Q_rm4 Z a ar kk b0 b1 cs sf h0 n0 v U'.heap L ∧ FrameEnd U o U' L ({ frames := 3, cells := 0, slots := 0, locals := 40 } : Room).cells ({ frames := 3, cells := 0, slots := 0, locals := 40 } : Room).slots) := by
  refine MetFree.of_bodySF (plainFor_of_name pn_4) hisR ?_
  intro p e s m args below meth c s₁ Bd hml0 hP hK
  obtain ⟨rfl, hZ, hh⟩ := hP
  have hx := Bd.exec
  have hby := Bd.bytes
  have hml : c.maxLocals = 2 := hml0
  have hown : s.vm.findClass "java/lang/String" = some m.cls := findClass_of_methodNamed Bd.named
  have hnm := (name_of_methodNamed Bd.named Bd.method).1
  have hlk : meth.locks = false := BodyLoose.notSynchronized Bd
  have X0 : Stand p l e ({ frames := 3, cells := 0, slots := 0, locals := 40 } : Room) s m #[(.ref a), (.int (0 : Int32))] below meth c s₁ [] 0 0 := Stand.of_body Bd
  have e0 : s₁.heap = h0 := by rw [← hh, Bd.state]; rfl
  have N0 := Fr.nil n0
  show own_Go p.tables e below (Q_rm4 Z a ar kk b0 b1 cs sf h0 n0) s ({ frames := 3, cells := 0, slots := 0, locals := 40 } : Room).cells ({ frames := 3, cells := 0, slots := 0, locals := 40 } : Room).slots s₁ (entryFrame m #[(.ref a), (.int (0 : Int32))] 2)
  rw [ef_rm4 m a]
  refine own_by (T' := s₁) (g' := (mkF m 1 #[.val (.ref a), .val (.int (0 : Int32))] [(.ref a)])) (fun _ k => XS.aloadN X0.here hx rfl (hb hby d4_0) rfl rfl k) ?_
  obtain ⟨cq21, kq21, q21a, q21b, q21c⟩ := isOf hZ e0 E_a
  obtain ⟨_, _, ⟨T21, L21, k21, n21⟩, -, X21, ⟨Lc21, hQ21, l21, y21, z21⟩, st21⟩ := X0.virtualBack hx (y := (⟨"java/lang/String", "isLatin1", "()Z"⟩ : MethodName)) (z := (⟨"java/lang/String", "isLatin1", "()Z"⟩ : MethodName)) hown (mvT hZ (hw _ (List.mem_of_getElem? (i := 30) rfl))) (mvT hZ (hw _ (List.mem_of_getElem? (i := 31) rfl))) (notFace_of_selects (args := #[]) (mvT hZ (hw _ (List.mem_of_getElem? (i := 33) rfl)))) (mvT hZ (hw _ (List.mem_of_getElem? (i := 33) rfl))) (mvT hZ (hw _ (List.mem_of_getElem? (i := 32) rfl))) (by decide) (backOf (W := 0) (rm5 l Z a0 hw [] a cs h0 n0 Z0 S_CS hcs F_coder_a) hZ (hw _ (List.mem_of_getElem? (i := 34) rfl)) (hw _ (List.mem_of_getElem? (i := 28) rfl)) (by decide) (by decide)) q21a q21c (g := (mkF m 1 #[.val (.ref a), .val (.int (0 : Int32))] [(.ref a)])) rfl (by rw [hml]; rfl) (Steps.refl _) (argsL := []) (rest := []) (lenOf pd_2 rfl) rfl (by show 2 * 0 + _ ≤ _; exact Nat.le_of_eq rfl) (hb hby d4_1) (fun _ _ => ⟨rfl, e0, (by decide : 0 + 0 ≤ _), (by decide : 0 + 0 ≤ _)⟩)
  dsimp only [Pt.U, Pt.locs, Pt.cells, Pt.slots] at X21 l21 y21 z21 st21 hQ21
  subst l21 y21 z21
  obtain ⟨rfl, N21q, e21⟩ := hQ21
  have N21 := Fr.app N0 N21q
  refine own_by (T' := T21) (g' := (mkF m 4 #[.val (.ref a), .val (.int (0 : Int32))] [(.int (1 : Int32))])) (fun _ k => st21.trans k) ?_
  refine own_by (T' := T21) (g' := (mkF m 7 #[.val (.ref a), .val (.int (0 : Int32))] [])) (fun _ k => XS.ifNo X21.here hx rfl (hb hby d4_4) rfl ((if0 _ _).trans (feq (by decide)).1) k) ?_
  refine own_by (T' := T21) (g' := (mkF m 8 #[.val (.ref a), .val (.int (0 : Int32))] [(.ref a)])) (fun _ k => XS.aloadN X21.here hx rfl (hb hby d4_7) rfl rfl k) ?_
  obtain ⟨T22, X22, e22, st22⟩ := getF X21 hx hZ hown (host := "") (Or.inl (hw _ (List.mem_of_getElem? (i := 38) rfl))) Via.refl e21 F_value_a (g := (mkF m 8 #[.val (.ref a), .val (.int (0 : Int32))] [(.ref a)])) rfl rfl (hb hby d4_8)
  refine own_by (T' := T22) (g' := (mkF m 11 #[.val (.ref a), .val (.int (0 : Int32))] [(.ref ar)])) (fun _ k => st22 _ k) ?_
  refine own_by (T' := T22) (g' := (mkF m 12 #[.val (.ref a), .val (.int (0 : Int32))] [(.int (0 : Int32)), (.ref ar)])) (fun _ k => XS.iloadN X22.here hx rfl (hb hby d4_11) rfl k) ?_
  obtain ⟨_, _, ⟨T23, L23, k23, n23⟩, -, X23, ⟨Lc23, hQ23, l23, y23, z23⟩, st23⟩ := Jvm.LawKit.callS X22 hx (y := (⟨"java/lang/StringLatin1", "charAt", "([BI)C"⟩ : MethodName)) hown (mvT hZ (hw _ (List.mem_of_getElem? (i := 40) rfl))) (mvT hZ (hw _ (List.mem_of_getElem? (i := 41) rfl))) (mvT hZ (hw _ (List.mem_of_getElem? (i := 42) rfl))) (mvT hZ (hw _ (List.mem_of_getElem? (i := 43) rfl))) (by decide) (backOf (W := 0) (rm6 l Z a0 hw [] ar kk b0 b1 sf h0 n0 Z0 V_ar hsf S_SF) hZ (hw _ (List.mem_of_getElem? (i := 43) rfl)) (hw _ (List.mem_of_getElem? (i := 42) rfl)) (by decide) (by decide)) (g := (mkF m 12 #[.val (.ref a), .val (.int (0 : Int32))] [(.int (0 : Int32)), (.ref ar)])) rfl (by rw [hml]; rfl) (argsL := [(.ref ar), (.int (0 : Int32))]) (rest := []) (lenOf pd_3 rfl) rfl (by show 2 * 0 + _ ≤ _; exact Nat.le_of_eq rfl) (hb hby d4_12) (fun _ _ => ⟨rfl, e22, (by decide : (0 + 0) + 0 ≤ _), (by decide : (0 + 0) + 0 ≤ _)⟩)
  dsimp only [Pt.U, Pt.locs, Pt.cells, Pt.slots] at X23 l23 y23 z23 st23 hQ23
  subst l23 y23 z23
  obtain ⟨rfl, N23q, e23⟩ := hQ23
  have N23 := Fr.app N21 N23q
  refine own_by (T' := T23) (g' := (mkF m 15 #[.val (.ref a), .val (.int (0 : Int32))] [(.int (nar .char ((b0 &&& (255 : Int32)).toUInt32.toUInt16.toUInt32.toInt32)))])) (fun _ k => st23 _ k) ?_
  refine own_ret X23 hlk (v := some (.int (nar .char (nar .char ((b0 &&& (255 : Int32)).toUInt32.toUInt16.toUInt32.toInt32))))) (fun h => by rw [Bd.returns] at h; cases h) (fun fs hr => retN X23 hx (t := .char) Bd.returns (by simp) (hb hby d4_15) hr) ?_ (by decide) (by decide)
  rw [e23]
  exact ⟨rfl, N23, rfl⟩
theorem d1_0 : decode method_2_code 0 = .ok (.iload_n 0, 1) := by decide +kernel
theorem d1_1 : decode method_2_code 1 = .ok (.ifCond .ne 7, 3) := by decide +kernel
theorem d1_4 : decode method_2_code 4 = .ok (.getstatic 7, 3) := by decide +kernel
theorem d1_7 : decode method_2_code 7 = .ok (.areturn, 1) := by decide +kernel
theorem d1_8 : decode method_2_code 8 = .ok (.iload_n 0, 1) := by decide +kernel
theorem d1_9 : decode method_2_code 9 = .ok (.iconst 1, 1) := by decide +kernel
theorem d1_10 : decode method_2_code 10 = .ok (.if_icmp .ne 7, 3) := by decide +kernel
theorem d1_13 : decode method_2_code 13 = .ok (.getstatic 13, 3) := by decide +kernel
theorem d1_16 : decode method_2_code 16 = .ok (.areturn, 1) := by decide +kernel
theorem d1_17 : decode method_2_code 17 = .ok (.iload_n 0, 1) := by decide +kernel
theorem d1_18 : decode method_2_code 18 = .ok (.iconst 2, 1) := by decide +kernel
theorem d1_19 : decode method_2_code 19 = .ok (.if_icmp .ne 7, 3) := by decide +kernel
theorem d1_22 : decode method_2_code 22 = .ok (.getstatic 16, 3) := by decide +kernel
theorem d1_25 : decode method_2_code 25 = .ok (.areturn, 1) := by decide +kernel
theorem d1_26 : decode method_2_code 26 = .ok (.iload_n 0, 1) := by decide +kernel
theorem d1_27 : decode method_2_code 27 = .ok (.iconst 3, 1) := by decide +kernel
theorem d1_28 : decode method_2_code 28 = .ok (.if_icmp .ne 7, 3) := by decide +kernel
theorem d1_31 : decode method_2_code 31 = .ok (.getstatic 19, 3) := by decide +kernel
theorem d1_34 : decode method_2_code 34 = .ok (.areturn, 1) := by decide +kernel
theorem d1_35 : decode method_2_code 35 = .ok (.iload_n 0, 1) := by decide +kernel
theorem d1_36 : decode method_2_code 36 = .ok (.iconst 4, 1) := by decide +kernel
theorem d1_37 : decode method_2_code 37 = .ok (.if_icmp .ne 7, 3) := by decide +kernel
theorem d1_40 : decode method_2_code 40 = .ok (.getstatic 22, 3) := by decide +kernel
theorem d1_43 : decode method_2_code 43 = .ok (.areturn, 1) := by decide +kernel
theorem d1_44 : decode method_2_code 44 = .ok (.getstatic 25, 3) := by decide +kernel
theorem d1_47 : decode method_2_code 47 = .ok (.areturn, 1) := by decide +kernel
theorem pn_1 : plainName "com/example/nisaba/nisaba/item/ComparisonByOrderPinLaw" = true := by first | (simp [plainName, overriddenIn]; done) | decide +kernel
theorem ef_rm1 (m : MethodId) (i : Int32) : entryFrame m #[(.int i)] 1 = mkF m 0 #[.val (.int i)] [] := by first | (simp [entryFrame, mkF, argsToLocals, Value.category]; done) | rfl
def Q_rm1 (Z : State) (i : Int32) (a_GT : Addr) (a_GE : Addr) (a_LT : Addr) (a_LE : Addr) (a_EQ : Addr) (a_NE : Addr) (h0 : Heap) (n0 : Nat) (v : Option Value) (h : Heap) (L : List Loc) : Prop := v = some (.ref (own_pick i a_GT a_GE a_LT a_LE a_EQ a_NE)) ∧ Fr n0 L ∧ h = h0
set_option maxRecDepth 65536 in
set_option maxHeartbeats 40000000 in
theorem rm1 (l : Launch) (Z : State) (a0 : Array Value) (hw : ∀ d ∈ tables_1, d.before a0 Z = true) (ws : List Jvm.Cond) (i : Int32) (a_GT : Addr) (a_GE : Addr) (a_LT : Addr) (a_LE : Addr) (a_EQ : Addr) (a_NE : Addr) (h0 : Heap) (n0 : Nat) (Z0 : n0 ≤ h0.size) (S_GT : Sta Z h0 "com/example/nisaba/nisaba/item/Comparison" "GT" "Lcom/example/nisaba/nisaba/item/Comparison;" (.ref a_GT)) (S_GE : Sta Z h0 "com/example/nisaba/nisaba/item/Comparison" "GE" "Lcom/example/nisaba/nisaba/item/Comparison;" (.ref a_GE)) (S_LT : Sta Z h0 "com/example/nisaba/nisaba/item/Comparison" "LT" "Lcom/example/nisaba/nisaba/item/Comparison;" (.ref a_LT)) (S_LE : Sta Z h0 "com/example/nisaba/nisaba/item/Comparison" "LE" "Lcom/example/nisaba/nisaba/item/Comparison;" (.ref a_LE)) (S_EQ : Sta Z h0 "com/example/nisaba/nisaba/item/Comparison" "EQ" "Lcom/example/nisaba/nisaba/item/Comparison;" (.ref a_EQ)) (S_NE : Sta Z h0 "com/example/nisaba/nisaba/item/Comparison" "NE" "Lcom/example/nisaba/nisaba/item/Comparison;" (.ref a_NE)) :
    MetFree l (⟨"com/example/nisaba/nisaba/item/ComparisonByOrderPinLaw", "pick", "(I)Lcom/example/nisaba/nisaba/item/Comparison;"⟩ : MethodName) (head1 (Jvm.Cond.code (⟨"com/example/nisaba/nisaba/item/ComparisonByOrderPinLaw", "pick", "(I)Lcom/example/nisaba/nisaba/item/Comparison;"⟩ : MethodName) method_2_code 1 (some (.object "com/example/nisaba/nisaba/item/Comparison")) :: ws) ({ frames := 0, cells := 0, slots := 0, locals := 0 } : Room)) (fun zz UU => zz = #[(.int i)] ∧ Z.Warmed39 UU.vm ∧ UU.heap = h0) (fun _ _ _ _ _ => True) (fun _ U o U' => ∃ v L, o = .returned v ∧ Q_rm1 Z i a_GT a_GE a_LT a_LE a_EQ a_NE h0 n0 v U'.heap L ∧ FrameEnd U o U' L ({ frames := 0, cells := 0, slots := 0, locals := 0 } : Room).cells ({ frames := 0, cells := 0, slots := 0, locals := 0 } : Room).slots) := by
  refine MetFree.of_bodySF (plainFor_of_name pn_1) hisR ?_
  intro p e s m args below meth c s₁ Bd hml0 hP hK
  obtain ⟨rfl, hZ, hh⟩ := hP
  have hx := Bd.exec
  have hby := Bd.bytes
  have hml : c.maxLocals = 1 := hml0
  have hown : s.vm.findClass "com/example/nisaba/nisaba/item/ComparisonByOrderPinLaw" = some m.cls := findClass_of_methodNamed Bd.named
  have hnm := (name_of_methodNamed Bd.named Bd.method).1
  have hlk : meth.locks = false := BodyLoose.notSynchronized Bd
  have X0 : Stand p l e ({ frames := 0, cells := 0, slots := 0, locals := 0 } : Room) s m #[(.int i)] below meth c s₁ [] 0 0 := Stand.of_body Bd
  have e0 : s₁.heap = h0 := by rw [← hh, Bd.state]; rfl
  have N0 := Fr.nil n0
  show own_Go p.tables e below (Q_rm1 Z i a_GT a_GE a_LT a_LE a_EQ a_NE h0 n0) s ({ frames := 0, cells := 0, slots := 0, locals := 0 } : Room).cells ({ frames := 0, cells := 0, slots := 0, locals := 0 } : Room).slots s₁ (entryFrame m #[(.int i)] 1)
  rw [ef_rm1 m i]
  refine own_by (T' := s₁) (g' := (mkF m 1 #[.val (.int i)] [(.int i)])) (fun _ k => XS.iloadN X0.here hx rfl (hb hby d1_0) rfl k) ?_
  by_cases hc1_21 : i = (0 : Int32)
  · skip
    refine own_by (T' := s₁) (g' := (mkF m 4 #[.val (.int i)] [])) (fun _ k => XS.ifNo X0.here hx rfl (hb hby d1_1) rfl ((if0 _ _).trans (teq hc1_21).2) k) ?_
    obtain ⟨T22, X22, e22, st22⟩ := getS2 X0 hx hZ hown (host := "") (Or.inl (hw _ (List.mem_of_getElem? (i := 5) rfl))) Via.refl e0 S_GT (g := (mkF m 4 #[.val (.int i)] [])) rfl (hb hby d1_4)
    refine own_by (T' := T22) (g' := (mkF m 7 #[.val (.int i)] [(.ref a_GT)])) (fun _ k => st22 _ k) ?_
    refine own_ret X22 hlk (v := some (.ref a_GT)) (fun h => by rw [Bd.returns] at h; cases h) (fun fs hr => retOut X22 hx Bd.returns rfl (Or.inr (Or.inr (Or.inr (Or.inr ⟨rfl, rfl, rfl⟩)))) (hb hby d1_7) hr) ?_ (by decide) (by decide)
    rw [e22]
    exact ⟨congrArg (fun z => some (Value.ref z)) (if_pos hc1_21).symm, N0, rfl⟩
  · skip
    refine own_by (T' := s₁) (g' := (mkF m 8 #[.val (.int i)] [])) (fun _ k => XS.ifYes X0.here hx rfl (pc0 := 1) (pc' := 8) rfl (hb hby d1_1) rfl ((if0 _ _).trans (feq hc1_21).2) (by decide) (by decide) k) ?_
    refine own_by (T' := s₁) (g' := (mkF m 9 #[.val (.int i)] [(.int i)])) (fun _ k => XS.iloadN X0.here hx rfl (hb hby d1_8) rfl k) ?_
    refine own_by (T' := s₁) (g' := (mkF m 10 #[.val (.int i)] [(.int (1 : Int32)), (.int i)])) (fun _ k => XS.iconst X0.here hx rfl (hb hby d1_9) k) ?_
    by_cases hc10_23 : i = (1 : Int32)
    · skip
      refine own_by (T' := s₁) (g' := (mkF m 13 #[.val (.int i)] [])) (fun _ k => XS.icmpNo X0.here hx rfl (hb hby d1_10) rfl (teq hc10_23).2 k) ?_
      obtain ⟨T24, X24, e24, st24⟩ := getS2 X0 hx hZ hown (host := "") (Or.inl (hw _ (List.mem_of_getElem? (i := 56) rfl))) Via.refl e0 S_GE (g := (mkF m 13 #[.val (.int i)] [])) rfl (hb hby d1_13)
      refine own_by (T' := T24) (g' := (mkF m 16 #[.val (.int i)] [(.ref a_GE)])) (fun _ k => st24 _ k) ?_
      refine own_ret X24 hlk (v := some (.ref a_GE)) (fun h => by rw [Bd.returns] at h; cases h) (fun fs hr => retOut X24 hx Bd.returns rfl (Or.inr (Or.inr (Or.inr (Or.inr ⟨rfl, rfl, rfl⟩)))) (hb hby d1_16) hr) ?_ (by decide) (by decide)
      rw [e24]
      exact ⟨congrArg (fun z => some (Value.ref z)) ((if_neg hc1_21).trans (if_pos hc10_23)).symm, N0, rfl⟩
    · skip
      refine own_by (T' := s₁) (g' := (mkF m 17 #[.val (.int i)] [])) (fun _ k => XS.icmpYes X0.here hx rfl (pc0 := 10) (pc' := 17) rfl (hb hby d1_10) rfl (feq hc10_23).2 (by decide) (by decide) k) ?_
      refine own_by (T' := s₁) (g' := (mkF m 18 #[.val (.int i)] [(.int i)])) (fun _ k => XS.iloadN X0.here hx rfl (hb hby d1_17) rfl k) ?_
      refine own_by (T' := s₁) (g' := (mkF m 19 #[.val (.int i)] [(.int (2 : Int32)), (.int i)])) (fun _ k => XS.iconst X0.here hx rfl (hb hby d1_18) k) ?_
      by_cases hc19_25 : i = (2 : Int32)
      · skip
        refine own_by (T' := s₁) (g' := (mkF m 22 #[.val (.int i)] [])) (fun _ k => XS.icmpNo X0.here hx rfl (hb hby d1_19) rfl (teq hc19_25).2 k) ?_
        obtain ⟨T26, X26, e26, st26⟩ := getS2 X0 hx hZ hown (host := "") (Or.inl (hw _ (List.mem_of_getElem? (i := 54) rfl))) Via.refl e0 S_LT (g := (mkF m 22 #[.val (.int i)] [])) rfl (hb hby d1_22)
        refine own_by (T' := T26) (g' := (mkF m 25 #[.val (.int i)] [(.ref a_LT)])) (fun _ k => st26 _ k) ?_
        refine own_ret X26 hlk (v := some (.ref a_LT)) (fun h => by rw [Bd.returns] at h; cases h) (fun fs hr => retOut X26 hx Bd.returns rfl (Or.inr (Or.inr (Or.inr (Or.inr ⟨rfl, rfl, rfl⟩)))) (hb hby d1_25) hr) ?_ (by decide) (by decide)
        rw [e26]
        exact ⟨congrArg (fun z => some (Value.ref z)) (((if_neg hc1_21).trans (if_neg hc10_23)).trans (if_pos hc19_25)).symm, N0, rfl⟩
      · skip
        refine own_by (T' := s₁) (g' := (mkF m 26 #[.val (.int i)] [])) (fun _ k => XS.icmpYes X0.here hx rfl (pc0 := 19) (pc' := 26) rfl (hb hby d1_19) rfl (feq hc19_25).2 (by decide) (by decide) k) ?_
        refine own_by (T' := s₁) (g' := (mkF m 27 #[.val (.int i)] [(.int i)])) (fun _ k => XS.iloadN X0.here hx rfl (hb hby d1_26) rfl k) ?_
        refine own_by (T' := s₁) (g' := (mkF m 28 #[.val (.int i)] [(.int (3 : Int32)), (.int i)])) (fun _ k => XS.iconst X0.here hx rfl (hb hby d1_27) k) ?_
        by_cases hc28_27 : i = (3 : Int32)
        · skip
          refine own_by (T' := s₁) (g' := (mkF m 31 #[.val (.int i)] [])) (fun _ k => XS.icmpNo X0.here hx rfl (hb hby d1_28) rfl (teq hc28_27).2 k) ?_
          obtain ⟨T28, X28, e28, st28⟩ := getS2 X0 hx hZ hown (host := "") (Or.inl (hw _ (List.mem_of_getElem? (i := 52) rfl))) Via.refl e0 S_LE (g := (mkF m 31 #[.val (.int i)] [])) rfl (hb hby d1_31)
          refine own_by (T' := T28) (g' := (mkF m 34 #[.val (.int i)] [(.ref a_LE)])) (fun _ k => st28 _ k) ?_
          refine own_ret X28 hlk (v := some (.ref a_LE)) (fun h => by rw [Bd.returns] at h; cases h) (fun fs hr => retOut X28 hx Bd.returns rfl (Or.inr (Or.inr (Or.inr (Or.inr ⟨rfl, rfl, rfl⟩)))) (hb hby d1_34) hr) ?_ (by decide) (by decide)
          rw [e28]
          exact ⟨congrArg (fun z => some (Value.ref z)) ((((if_neg hc1_21).trans (if_neg hc10_23)).trans (if_neg hc19_25)).trans (if_pos hc28_27)).symm, N0, rfl⟩
        · skip
          refine own_by (T' := s₁) (g' := (mkF m 35 #[.val (.int i)] [])) (fun _ k => XS.icmpYes X0.here hx rfl (pc0 := 28) (pc' := 35) rfl (hb hby d1_28) rfl (feq hc28_27).2 (by decide) (by decide) k) ?_
          refine own_by (T' := s₁) (g' := (mkF m 36 #[.val (.int i)] [(.int i)])) (fun _ k => XS.iloadN X0.here hx rfl (hb hby d1_35) rfl k) ?_
          refine own_by (T' := s₁) (g' := (mkF m 37 #[.val (.int i)] [(.int (4 : Int32)), (.int i)])) (fun _ k => XS.iconst X0.here hx rfl (hb hby d1_36) k) ?_
          by_cases hc37_29 : i = (4 : Int32)
          · skip
            refine own_by (T' := s₁) (g' := (mkF m 40 #[.val (.int i)] [])) (fun _ k => XS.icmpNo X0.here hx rfl (hb hby d1_37) rfl (teq hc37_29).2 k) ?_
            obtain ⟨T30, X30, e30, st30⟩ := getS2 X0 hx hZ hown (host := "") (Or.inl (hw _ (List.mem_of_getElem? (i := 59) rfl))) Via.refl e0 S_EQ (g := (mkF m 40 #[.val (.int i)] [])) rfl (hb hby d1_40)
            refine own_by (T' := T30) (g' := (mkF m 43 #[.val (.int i)] [(.ref a_EQ)])) (fun _ k => st30 _ k) ?_
            refine own_ret X30 hlk (v := some (.ref a_EQ)) (fun h => by rw [Bd.returns] at h; cases h) (fun fs hr => retOut X30 hx Bd.returns rfl (Or.inr (Or.inr (Or.inr (Or.inr ⟨rfl, rfl, rfl⟩)))) (hb hby d1_43) hr) ?_ (by decide) (by decide)
            rw [e30]
            exact ⟨congrArg (fun z => some (Value.ref z)) (((((if_neg hc1_21).trans (if_neg hc10_23)).trans (if_neg hc19_25)).trans (if_neg hc28_27)).trans (if_pos hc37_29)).symm, N0, rfl⟩
          · skip
            refine own_by (T' := s₁) (g' := (mkF m 44 #[.val (.int i)] [])) (fun _ k => XS.icmpYes X0.here hx rfl (pc0 := 37) (pc' := 44) rfl (hb hby d1_37) rfl (feq hc37_29).2 (by decide) (by decide) k) ?_
            obtain ⟨T31, X31, e31, st31⟩ := getS2 X0 hx hZ hown (host := "") (Or.inl (hw _ (List.mem_of_getElem? (i := 58) rfl))) Via.refl e0 S_NE (g := (mkF m 44 #[.val (.int i)] [])) rfl (hb hby d1_44)
            refine own_by (T' := T31) (g' := (mkF m 47 #[.val (.int i)] [(.ref a_NE)])) (fun _ k => st31 _ k) ?_
            refine own_ret X31 hlk (v := some (.ref a_NE)) (fun h => by rw [Bd.returns] at h; cases h) (fun fs hr => retOut X31 hx Bd.returns rfl (Or.inr (Or.inr (Or.inr (Or.inr ⟨rfl, rfl, rfl⟩)))) (hb hby d1_47) hr) ?_ (by decide) (by decide)
            rw [e31]
            exact ⟨congrArg (fun z => some (Value.ref z)) (((((if_neg hc1_21).trans (if_neg hc10_23)).trans (if_neg hc19_25)).trans (if_neg hc28_27)).trans (if_neg hc37_29)).symm, N0, rfl⟩
theorem d2_0 : decode prog_18_method_6_code 0 = .ok (.aload_n 0, 1) := by decide +kernel
theorem d2_1 : decode prog_18_method_6_code 1 = .ok (.getstatic 16, 3) := by decide +kernel
theorem d2_4 : decode prog_18_method_6_code 4 = .ok (.if_acmp .eq 14, 3) := by decide +kernel
theorem d2_7 : decode prog_18_method_6_code 7 = .ok (.aload_n 0, 1) := by decide +kernel
theorem d2_8 : decode prog_18_method_6_code 8 = .ok (.getstatic 19, 3) := by decide +kernel
theorem d2_11 : decode prog_18_method_6_code 11 = .ok (.if_acmp .eq 7, 3) := by decide +kernel
theorem d2_14 : decode prog_18_method_6_code 14 = .ok (.iconst 1, 1) := by decide +kernel
theorem d2_15 : decode prog_18_method_6_code 15 = .ok (.goto 4, 3) := by decide +kernel
theorem d2_18 : decode prog_18_method_6_code 18 = .ok (.iconst 0, 1) := by decide +kernel
theorem d2_19 : decode prog_18_method_6_code 19 = .ok (.ireturn, 1) := by decide +kernel
theorem pn_2 : plainName "com/example/nisaba/nisaba/item/Comparison" = true := by first | (simp [plainName, overriddenIn]; done) | decide +kernel
theorem ef_rm2 (m : MethodId) (a : Addr) : entryFrame m #[(.ref a)] 1 = mkF m 0 #[.val (.ref a)] [] := by first | (simp [entryFrame, mkF, argsToLocals, Value.category]; done) | rfl
def Q_rm2 (Z : State) (a : Addr) (a_EQ : Addr) (a_NE : Addr) (h0 : Heap) (n0 : Nat) (v : Option Value) (h : Heap) (L : List Loc) : Prop := v = some (.int (own_by_ a a_EQ a_NE)) ∧ Fr n0 L ∧ h = h0
set_option maxRecDepth 65536 in
set_option maxHeartbeats 40000000 in
theorem rm2 (l : Launch) (Z : State) (a0 : Array Value) (hw : ∀ d ∈ tables_1, d.before a0 Z = true) (ws : List Jvm.Cond) (a : Addr) (a_EQ : Addr) (a_NE : Addr) (h0 : Heap) (n0 : Nat) (Z0 : n0 ≤ h0.size) (S_EQ : Sta Z h0 "com/example/nisaba/nisaba/item/Comparison" "EQ" "Lcom/example/nisaba/nisaba/item/Comparison;" (.ref a_EQ)) (S_NE : Sta Z h0 "com/example/nisaba/nisaba/item/Comparison" "NE" "Lcom/example/nisaba/nisaba/item/Comparison;" (.ref a_NE)) :
    MetFree l (⟨"com/example/nisaba/nisaba/item/Comparison", "byOrder", "()Z"⟩ : MethodName) (head1 (Jvm.Cond.code (⟨"com/example/nisaba/nisaba/item/Comparison", "byOrder", "()Z"⟩ : MethodName) prog_18_method_6_code 1 (some .boolean) :: ws) ({ frames := 0, cells := 0, slots := 0, locals := 0 } : Room)) (fun zz UU => zz = #[(.ref a)] ∧ Z.Warmed39 UU.vm ∧ UU.heap = h0) (fun _ _ _ _ _ => True) (fun _ U o U' => ∃ v L, o = .returned v ∧ Q_rm2 Z a a_EQ a_NE h0 n0 v U'.heap L ∧ FrameEnd U o U' L ({ frames := 0, cells := 0, slots := 0, locals := 0 } : Room).cells ({ frames := 0, cells := 0, slots := 0, locals := 0 } : Room).slots) := by
  refine MetFree.of_bodySF (plainFor_of_name pn_2) hisR ?_
  intro p e s m args below meth c s₁ Bd hml0 hP hK
  obtain ⟨rfl, hZ, hh⟩ := hP
  have hx := Bd.exec
  have hby := Bd.bytes
  have hml : c.maxLocals = 1 := hml0
  have hown : s.vm.findClass "com/example/nisaba/nisaba/item/Comparison" = some m.cls := findClass_of_methodNamed Bd.named
  have hnm := (name_of_methodNamed Bd.named Bd.method).1
  have hlk : meth.locks = false := BodyLoose.notSynchronized Bd
  have X0 : Stand p l e ({ frames := 0, cells := 0, slots := 0, locals := 0 } : Room) s m #[(.ref a)] below meth c s₁ [] 0 0 := Stand.of_body Bd
  have e0 : s₁.heap = h0 := by rw [← hh, Bd.state]; rfl
  have N0 := Fr.nil n0
  show own_Go p.tables e below (Q_rm2 Z a a_EQ a_NE h0 n0) s ({ frames := 0, cells := 0, slots := 0, locals := 0 } : Room).cells ({ frames := 0, cells := 0, slots := 0, locals := 0 } : Room).slots s₁ (entryFrame m #[(.ref a)] 1)
  rw [ef_rm2 m a]
  refine own_by (T' := s₁) (g' := (mkF m 1 #[.val (.ref a)] [(.ref a)])) (fun _ k => XS.aloadN X0.here hx rfl (hb hby d2_0) rfl rfl k) ?_
  obtain ⟨T21, X21, e21, st21⟩ := getS2 X0 hx hZ hown (host := "") (Or.inl (hw _ (List.mem_of_getElem? (i := 13) rfl))) Via.refl e0 S_EQ (g := (mkF m 1 #[.val (.ref a)] [(.ref a)])) rfl (hb hby d2_1)
  refine own_by (T' := T21) (g' := (mkF m 4 #[.val (.ref a)] [(.ref a_EQ), (.ref a)])) (fun _ k => st21 _ k) ?_
  by_cases hc4_22 : a = a_EQ
  · skip
    refine own_by (T' := T21) (g' := (mkF m 18 #[.val (.ref a)] [])) (fun _ k => Jvm.RoadKit.acmp (g := (mkF m 4 #[.val (.ref a)] [(.ref a_EQ), (.ref a)])) X21 hx rfl rfl rfl (pc0 := 4) (pc' := 18) (same := true) rfl (hb hby d2_4) rfl (decide_eq_true (congrArg Value.ref hc4_22)) (by decide) (by decide) k) ?_
    refine own_by (T' := T21) (g' := (mkF m 19 #[.val (.ref a)] [(.int (0 : Int32))])) (fun _ k => XS.iconst X21.here hx rfl (hb hby d2_18) k) ?_
    refine own_ret X21 hlk (v := some (.int (0 : Int32))) (fun h => by rw [Bd.returns] at h; cases h) (fun fs hr => retN X21 hx (t := .boolean) Bd.returns (by simp) (hb hby d2_19) hr) ?_ (by decide) (by decide)
    rw [e21]
    exact ⟨congrArg (fun z => some (Value.int z)) (if_pos hc4_22).symm, N0, rfl⟩
  · skip
    refine own_by (T' := T21) (g' := (mkF m 7 #[.val (.ref a)] [])) (fun _ k => Jvm.RoadKit.acmp (g := (mkF m 4 #[.val (.ref a)] [(.ref a_EQ), (.ref a)])) X21 hx rfl rfl rfl (pc0 := 4) (pc' := 7) (same := false) rfl (hb hby d2_4) rfl (decide_eq_false fun q => hc4_22 (Value.ref.inj q)) (by decide) (by decide) k) ?_
    refine own_by (T' := T21) (g' := (mkF m 8 #[.val (.ref a)] [(.ref a)])) (fun _ k => XS.aloadN X21.here hx rfl (hb hby d2_7) rfl rfl k) ?_
    obtain ⟨T23, X23, e23, st23⟩ := getS2 X21 hx hZ hown (host := "") (Or.inl (hw _ (List.mem_of_getElem? (i := 15) rfl))) Via.refl e21 S_NE (g := (mkF m 8 #[.val (.ref a)] [(.ref a)])) rfl (hb hby d2_8)
    refine own_by (T' := T23) (g' := (mkF m 11 #[.val (.ref a)] [(.ref a_NE), (.ref a)])) (fun _ k => st23 _ k) ?_
    by_cases hc11_24 : a = a_NE
    · skip
      refine own_by (T' := T23) (g' := (mkF m 18 #[.val (.ref a)] [])) (fun _ k => Jvm.RoadKit.acmp (g := (mkF m 11 #[.val (.ref a)] [(.ref a_NE), (.ref a)])) X23 hx rfl rfl rfl (pc0 := 11) (pc' := 18) (same := true) rfl (hb hby d2_11) rfl (decide_eq_true (congrArg Value.ref hc11_24)) (by decide) (by decide) k) ?_
      refine own_by (T' := T23) (g' := (mkF m 19 #[.val (.ref a)] [(.int (0 : Int32))])) (fun _ k => XS.iconst X23.here hx rfl (hb hby d2_18) k) ?_
      refine own_ret X23 hlk (v := some (.int (0 : Int32))) (fun h => by rw [Bd.returns] at h; cases h) (fun fs hr => retN X23 hx (t := .boolean) Bd.returns (by simp) (hb hby d2_19) hr) ?_ (by decide) (by decide)
      rw [e23]
      exact ⟨congrArg (fun z => some (Value.int z)) ((if_neg hc4_22).trans (if_pos hc11_24)).symm, N0, rfl⟩
    · skip
      refine own_by (T' := T23) (g' := (mkF m 14 #[.val (.ref a)] [])) (fun _ k => Jvm.RoadKit.acmp (g := (mkF m 11 #[.val (.ref a)] [(.ref a_NE), (.ref a)])) X23 hx rfl rfl rfl (pc0 := 11) (pc' := 14) (same := false) rfl (hb hby d2_11) rfl (decide_eq_false fun q => hc11_24 (Value.ref.inj q)) (by decide) (by decide) k) ?_
      refine own_by (T' := T23) (g' := (mkF m 15 #[.val (.ref a)] [(.int (1 : Int32))])) (fun _ k => XS.iconst X23.here hx rfl (hb hby d2_14) k) ?_
      refine own_by (T' := T23) (g' := (mkF m 19 #[.val (.ref a)] [(.int (1 : Int32))])) (fun _ k => XS.goto X23.here hx rfl (pc0 := 15) (pc' := 19) rfl (hb hby d2_15) (by decide) (by decide) k) ?_
      refine own_ret X23 hlk (v := some (.int (1 : Int32))) (fun h => by rw [Bd.returns] at h; cases h) (fun fs hr => retN X23 hx (t := .boolean) Bd.returns (by simp) (hb hby d2_19) hr) ?_ (by decide) (by decide)
      rw [e23]
      exact ⟨congrArg (fun z => some (Value.int z)) ((if_neg hc4_22).trans (if_neg hc11_24)).symm, N0, rfl⟩
theorem d3_0 : decode prog_18_method_4_code 0 = .ok (.aload_n 0, 1) := by decide +kernel
theorem d3_1 : decode prog_18_method_4_code 1 = .ok (.getfield 41, 3) := by decide +kernel
theorem d3_4 : decode prog_18_method_4_code 4 = .ok (.areturn, 1) := by decide +kernel
theorem pn_3 : plainName "com/example/nisaba/nisaba/item/Comparison" = true := by first | (simp [plainName, overriddenIn]; done) | decide +kernel
theorem ef_rm3 (m : MethodId) (a : Addr) : entryFrame m #[(.ref a)] 1 = mkF m 0 #[.val (.ref a)] [] := by first | (simp [entryFrame, mkF, argsToLocals, Value.category]; done) | rfl
def Q_rm3 (Z : State) (a : Addr) (t1 : Addr) (h0 : Heap) (n0 : Nat) (v : Option Value) (h : Heap) (L : List Loc) : Prop := v = some (.ref t1) ∧ Fr n0 L ∧ h = h0
set_option maxRecDepth 65536 in
set_option maxHeartbeats 40000000 in
theorem rm3 (l : Launch) (Z : State) (a0 : Array Value) (hw : ∀ d ∈ tables_1, d.before a0 Z = true) (ws : List Jvm.Cond) (a : Addr) (t1 : Addr) (h0 : Heap) (n0 : Nat) (Z0 : n0 ≤ h0.size) (F_apiName_a : Fld Z h0 a "com/example/nisaba/nisaba/item/Comparison" "apiName" "Ljava/lang/String;" (.ref t1)) :
    MetFree l (⟨"com/example/nisaba/nisaba/item/Comparison", "apiName", "()Ljava/lang/String;"⟩ : MethodName) (head1 (Jvm.Cond.code (⟨"com/example/nisaba/nisaba/item/Comparison", "apiName", "()Ljava/lang/String;"⟩ : MethodName) prog_18_method_4_code 1 (some (.object "java/lang/String")) :: ws) ({ frames := 0, cells := 0, slots := 0, locals := 0 } : Room)) (fun zz UU => zz = #[(.ref a)] ∧ Z.Warmed39 UU.vm ∧ UU.heap = h0) (fun _ _ _ _ _ => True) (fun _ U o U' => ∃ v L, o = .returned v ∧ Q_rm3 Z a t1 h0 n0 v U'.heap L ∧ FrameEnd U o U' L ({ frames := 0, cells := 0, slots := 0, locals := 0 } : Room).cells ({ frames := 0, cells := 0, slots := 0, locals := 0 } : Room).slots) := by
  refine MetFree.of_bodySF (plainFor_of_name pn_3) hisR ?_
  intro p e s m args below meth c s₁ Bd hml0 hP hK
  obtain ⟨rfl, hZ, hh⟩ := hP
  have hx := Bd.exec
  have hby := Bd.bytes
  have hml : c.maxLocals = 1 := hml0
  have hown : s.vm.findClass "com/example/nisaba/nisaba/item/Comparison" = some m.cls := findClass_of_methodNamed Bd.named
  have hnm := (name_of_methodNamed Bd.named Bd.method).1
  have hlk : meth.locks = false := BodyLoose.notSynchronized Bd
  have X0 : Stand p l e ({ frames := 0, cells := 0, slots := 0, locals := 0 } : Room) s m #[(.ref a)] below meth c s₁ [] 0 0 := Stand.of_body Bd
  have e0 : s₁.heap = h0 := by rw [← hh, Bd.state]; rfl
  have N0 := Fr.nil n0
  show own_Go p.tables e below (Q_rm3 Z a t1 h0 n0) s ({ frames := 0, cells := 0, slots := 0, locals := 0 } : Room).cells ({ frames := 0, cells := 0, slots := 0, locals := 0 } : Room).slots s₁ (entryFrame m #[(.ref a)] 1)
  rw [ef_rm3 m a]
  refine own_by (T' := s₁) (g' := (mkF m 1 #[.val (.ref a)] [(.ref a)])) (fun _ k => XS.aloadN X0.here hx rfl (hb hby d3_0) rfl rfl k) ?_
  obtain ⟨T21, X21, e21, st21⟩ := getF X0 hx hZ hown (host := "") (Or.inl (hw _ (List.mem_of_getElem? (i := 22) rfl))) Via.refl e0 F_apiName_a (g := (mkF m 1 #[.val (.ref a)] [(.ref a)])) rfl rfl (hb hby d3_1)
  refine own_by (T' := T21) (g' := (mkF m 4 #[.val (.ref a)] [(.ref t1)])) (fun _ k => st21 _ k) ?_
  refine own_ret X21 hlk (v := some (.ref t1)) (fun h => by rw [Bd.returns] at h; cases h) (fun fs hr => retOut X21 hx Bd.returns rfl (Or.inr (Or.inr (Or.inr (Or.inr ⟨rfl, rfl, rfl⟩)))) (hb hby d3_4) hr) ?_ (by decide) (by decide)
  rw [e21]
  exact ⟨rfl, N0, rfl⟩
theorem pn_0 : plainName "com/example/nisaba/nisaba/item/ComparisonByOrderPinLaw" = true := by first | (simp [plainName, overriddenIn]; done) | decide +kernel
theorem ef_rm0 (m : MethodId) (u : Int32) : entryFrame m #[(.int u)] maxLocals = mkF m 0 #[.val (.int u), .unset, .unset, .unset, .unset, .unset, .unset, .unset] [] := by first | (simp [entryFrame, mkF, argsToLocals, Value.category, maxLocals]; done) | rfl
def Q_rm0 (Z : State) (u : Int32) (a_GT : Addr) (t_GT : Addr) (r_GT : Addr) (k_GT : ClassId) (a_GE : Addr) (t_GE : Addr) (r_GE : Addr) (k_GE : ClassId) (a_LT : Addr) (t_LT : Addr) (r_LT : Addr) (k_LT : ClassId) (a_LE : Addr) (t_LE : Addr) (r_LE : Addr) (k_LE : ClassId) (a_EQ : Addr) (t_EQ : Addr) (r_EQ : Addr) (k_EQ : ClassId) (a_NE : Addr) (t_NE : Addr) (r_NE : Addr) (k_NE : ClassId) (cs : Int32) (sf : Value) (h0 : Heap) (n0 : Nat) (v : Option Value) (h : Heap) (L : List Loc) : Prop := v = some (.int 1) ∧ Fr n0 L
set_option maxRecDepth 65536 in
set_option maxHeartbeats 40000000 in
theorem rm0 (l : Launch) (Z : State) (a0 : Array Value) (hw : ∀ d ∈ tables_1, d.before a0 Z = true) (ws : List Jvm.Cond) (u : Int32) (a_GT : Addr) (t_GT : Addr) (r_GT : Addr) (k_GT : ClassId) (a_GE : Addr) (t_GE : Addr) (r_GE : Addr) (k_GE : ClassId) (a_LT : Addr) (t_LT : Addr) (r_LT : Addr) (k_LT : ClassId) (a_LE : Addr) (t_LE : Addr) (r_LE : Addr) (k_LE : ClassId) (a_EQ : Addr) (t_EQ : Addr) (r_EQ : Addr) (k_EQ : ClassId) (a_NE : Addr) (t_NE : Addr) (r_NE : Addr) (k_NE : ClassId) (cs : Int32) (sf : Value) (h0 : Heap) (n0 : Nat) (Z0 : n0 ≤ h0.size) (S_GT : Sta Z h0 "com/example/nisaba/nisaba/item/Comparison" "GT" "Lcom/example/nisaba/nisaba/item/Comparison;" (.ref a_GT)) (S_GE : Sta Z h0 "com/example/nisaba/nisaba/item/Comparison" "GE" "Lcom/example/nisaba/nisaba/item/Comparison;" (.ref a_GE)) (S_LT : Sta Z h0 "com/example/nisaba/nisaba/item/Comparison" "LT" "Lcom/example/nisaba/nisaba/item/Comparison;" (.ref a_LT)) (S_LE : Sta Z h0 "com/example/nisaba/nisaba/item/Comparison" "LE" "Lcom/example/nisaba/nisaba/item/Comparison;" (.ref a_LE)) (S_EQ : Sta Z h0 "com/example/nisaba/nisaba/item/Comparison" "EQ" "Lcom/example/nisaba/nisaba/item/Comparison;" (.ref a_EQ)) (S_NE : Sta Z h0 "com/example/nisaba/nisaba/item/Comparison" "NE" "Lcom/example/nisaba/nisaba/item/Comparison;" (.ref a_NE)) (E_a_GT : Exa Z h0 a_GT "com/example/nisaba/nisaba/item/Comparison") (E_a_GE : Exa Z h0 a_GE "com/example/nisaba/nisaba/item/Comparison") (E_a_LT : Exa Z h0 a_LT "com/example/nisaba/nisaba/item/Comparison") (E_a_LE : Exa Z h0 a_LE "com/example/nisaba/nisaba/item/Comparison") (E_a_EQ : Exa Z h0 a_EQ "com/example/nisaba/nisaba/item/Comparison") (E_a_NE : Exa Z h0 a_NE "com/example/nisaba/nisaba/item/Comparison") (O_GT : Fld Z h0 a_GT "java/lang/Enum" "ordinal" "I" (.int (0 : Int32))) (O_GE : Fld Z h0 a_GE "java/lang/Enum" "ordinal" "I" (.int (1 : Int32))) (O_LT : Fld Z h0 a_LT "java/lang/Enum" "ordinal" "I" (.int (2 : Int32))) (O_LE : Fld Z h0 a_LE "java/lang/Enum" "ordinal" "I" (.int (3 : Int32))) (O_EQ : Fld Z h0 a_EQ "java/lang/Enum" "ordinal" "I" (.int (4 : Int32))) (O_NE : Fld Z h0 a_NE "java/lang/Enum" "ordinal" "I" (.int (5 : Int32))) (F_apiName_a_GT : Fld Z h0 a_GT "com/example/nisaba/nisaba/item/Comparison" "apiName" "Ljava/lang/String;" (.ref t_GT)) (F_apiName_a_GE : Fld Z h0 a_GE "com/example/nisaba/nisaba/item/Comparison" "apiName" "Ljava/lang/String;" (.ref t_GE)) (F_apiName_a_LT : Fld Z h0 a_LT "com/example/nisaba/nisaba/item/Comparison" "apiName" "Ljava/lang/String;" (.ref t_LT)) (F_apiName_a_LE : Fld Z h0 a_LE "com/example/nisaba/nisaba/item/Comparison" "apiName" "Ljava/lang/String;" (.ref t_LE)) (F_apiName_a_EQ : Fld Z h0 a_EQ "com/example/nisaba/nisaba/item/Comparison" "apiName" "Ljava/lang/String;" (.ref t_EQ)) (F_apiName_a_NE : Fld Z h0 a_NE "com/example/nisaba/nisaba/item/Comparison" "apiName" "Ljava/lang/String;" (.ref t_NE)) (E_t_GT : Exa Z h0 t_GT "java/lang/String") (E_t_GE : Exa Z h0 t_GE "java/lang/String") (E_t_LT : Exa Z h0 t_LT "java/lang/String") (E_t_LE : Exa Z h0 t_LE "java/lang/String") (E_t_EQ : Exa Z h0 t_EQ "java/lang/String") (E_t_NE : Exa Z h0 t_NE "java/lang/String") (F_coder_t_GT : Fld Z h0 t_GT "java/lang/String" "coder" "B" (.int (0 : Int32))) (F_coder_t_GE : Fld Z h0 t_GE "java/lang/String" "coder" "B" (.int (0 : Int32))) (F_coder_t_LT : Fld Z h0 t_LT "java/lang/String" "coder" "B" (.int (0 : Int32))) (F_coder_t_LE : Fld Z h0 t_LE "java/lang/String" "coder" "B" (.int (0 : Int32))) (F_coder_t_EQ : Fld Z h0 t_EQ "java/lang/String" "coder" "B" (.int (0 : Int32))) (F_coder_t_NE : Fld Z h0 t_NE "java/lang/String" "coder" "B" (.int (0 : Int32))) (F_value_t_GT : Fld Z h0 t_GT "java/lang/String" "value" "[B" (.ref r_GT)) (F_value_t_GE : Fld Z h0 t_GE "java/lang/String" "value" "[B" (.ref r_GE)) (F_value_t_LT : Fld Z h0 t_LT "java/lang/String" "value" "[B" (.ref r_LT)) (F_value_t_LE : Fld Z h0 t_LE "java/lang/String" "value" "[B" (.ref r_LE)) (F_value_t_EQ : Fld Z h0 t_EQ "java/lang/String" "value" "[B" (.ref r_EQ)) (F_value_t_NE : Fld Z h0 t_NE "java/lang/String" "value" "[B" (.ref r_NE)) (V_r_GT : Arv Z h0 r_GT k_GT .byte (2 : Int32) [(.int (103 : Int32)), (.int (116 : Int32))] (.int (0 : Int32))) (V_r_GE : Arv Z h0 r_GE k_GE .byte (2 : Int32) [(.int (103 : Int32)), (.int (101 : Int32))] (.int (0 : Int32))) (V_r_LT : Arv Z h0 r_LT k_LT .byte (2 : Int32) [(.int (108 : Int32)), (.int (116 : Int32))] (.int (0 : Int32))) (V_r_LE : Arv Z h0 r_LE k_LE .byte (2 : Int32) [(.int (108 : Int32)), (.int (101 : Int32))] (.int (0 : Int32))) (V_r_EQ : Arv Z h0 r_EQ k_EQ .byte (2 : Int32) [(.int (101 : Int32)), (.int (113 : Int32))] (.int (0 : Int32))) (V_r_NE : Arv Z h0 r_NE k_NE .byte (2 : Int32) [(.int (110 : Int32)), (.int (101 : Int32))] (.int (0 : Int32))) (S_CS : Sta Z h0 "java/lang/String" "COMPACT_STRINGS" "Z" (.int cs)) (hcs : ¬ cs = (0 : Int32)) (hsf : sf.isRef = true) (S_SF : Sta Z h0 "jdk/internal/util/Preconditions" "SIOOBE_FORMATTER" "Ljava/util/function/BiFunction;" sf) :
    MetFree l x (head1 (Jvm.Cond.code x code maxLocals ret :: ws) room_1) (fun zz UU => zz = #[(.int u)] ∧ Z.Warmed39 UU.vm ∧ UU.heap = h0) (fun _ _ _ _ _ => True) (fun _ U o U' => ∃ v L, o = .returned v ∧ Q_rm0 Z u a_GT t_GT r_GT k_GT a_GE t_GE r_GE k_GE a_LT t_LT r_LT k_LT a_LE t_LE r_LE k_LE a_EQ t_EQ r_EQ k_EQ a_NE t_NE r_NE k_NE cs sf h0 n0 v U'.heap L ∧ FrameEnd U o U' L 0 0) := by
  refine MetFree.of_bodySF (plainFor_of_name pn_0) hisR ?_
  intro p e s m args below meth c s₁ Bd hml0 hP hK
  obtain ⟨rfl, hZ, hh⟩ := hP
  have hx := Bd.exec
  have hby := Bd.bytes
  have hml : c.maxLocals = 8 := hml0
  have hown : s.vm.findClass "com/example/nisaba/nisaba/item/ComparisonByOrderPinLaw" = some m.cls := findClass_of_methodNamed Bd.named
  have hnm := (name_of_methodNamed Bd.named Bd.method).1
  have hlk : meth.locks = false := BodyLoose.notSynchronized Bd
  have X0 : Stand p l e room_1 s m #[(.int u)] below meth c s₁ [] 0 0 := Stand.of_body Bd
  have e0 : s₁.heap = h0 := by rw [← hh, Bd.state]; rfl
  have N0 := Fr.nil n0
  show own_Go p.tables e below (Q_rm0 Z u a_GT t_GT r_GT k_GT a_GE t_GE r_GE k_GE a_LT t_LT r_LT k_LT a_LE t_LE r_LE k_LE a_EQ t_EQ r_EQ k_EQ a_NE t_NE r_NE k_NE cs sf h0 n0) s 0 0 s₁ (entryFrame m #[(.int u)] maxLocals)
  rw [ef_rm0 m u]
  refine own_by (T' := s₁) (g' := (mkF m 1 #[.val (.int u), .unset, .unset, .unset, .unset, .unset, .unset, .unset] [(.int u)])) (fun _ k => XS.iloadN X0.here hx rfl (hb hby at_0) rfl k) ?_
  refine own_by (T' := s₁) (g' := (mkF m 3 #[.val (.int u), .unset, .unset, .unset, .unset, .unset, .unset, .unset] [(.int (2147483647 : Int32)), (.int u)])) (fun _ k => ldcI X0 hx hown (mvT hZ (hw _ (List.mem_of_getElem? (i := 0) rfl))) rfl (hb hby at_1) k) ?_
  refine own_by (T' := s₁) (g' := (mkF m 4 #[.val (.int u), .unset, .unset, .unset, .unset, .unset, .unset, .unset] [(.int (u &&& (2147483647 : Int32)))])) (fun _ k => XS.iand X0.here hx rfl (hb hby at_3) rfl k) ?_
  refine own_by (T' := s₁) (g' := (mkF m 6 #[.val (.int u), .unset, .unset, .unset, .unset, .unset, .unset, .unset] [(.int (6 : Int32)), (.int (u &&& (2147483647 : Int32)))])) (fun _ k => XS.bipush X0.here hx rfl (hb hby at_4) k) ?_
  refine own_by (T' := s₁) (g' := (mkF m 7 #[.val (.int u), .unset, .unset, .unset, .unset, .unset, .unset, .unset] [(.int ((u &&& (2147483647 : Int32)) % (6 : Int32)))])) (fun _ k => iremM X0 hx rfl (hb hby at_6) rfl (by decide) k) ?_
  refine own_by (T' := s₁) (g' := (mkF m 8 #[.val (.int u), .val (.int ((u &&& (2147483647 : Int32)) % (6 : Int32))), .unset, .unset, .unset, .unset, .unset, .unset] [])) (fun _ k => XS.istoreN X0.here hx rfl (hb hby at_7) rfl (l' := #[.val (.int u), .val (.int ((u &&& (2147483647 : Int32)) % (6 : Int32))), .unset, .unset, .unset, .unset, .unset, .unset]) rfl k) ?_
  rcases own_mod6 u with hq21 | hq21 | hq21 | hq21 | hq21 | hq21
  · skip
    rw [hq21]
    refine own_by (T' := s₁) (g' := (mkF m 9 #[.val (.int u), .val (.int (0 : Int32)), .unset, .unset, .unset, .unset, .unset, .unset] [(.int (0 : Int32))])) (fun _ k => XS.iloadN X0.here hx rfl (hb hby at_8) rfl k) ?_
    obtain ⟨_, _, ⟨T22, L22, k22, n22⟩, -, X22, ⟨Lc22, hQ22, l22, y22, z22⟩, st22⟩ := Jvm.LawKit.callS X0 hx (y := (⟨"com/example/nisaba/nisaba/item/ComparisonByOrderPinLaw", "pick", "(I)Lcom/example/nisaba/nisaba/item/Comparison;"⟩ : MethodName)) hown (mvT hZ (hw _ (List.mem_of_getElem? (i := 1) rfl))) (mvT hZ (hw _ (List.mem_of_getElem? (i := 2) rfl))) (mvT hZ (hw _ (List.mem_of_getElem? (i := 3) rfl))) (mvT hZ (hw _ (List.mem_of_getElem? (i := 4) rfl))) (by decide) (backOf (W := 0) (rm1 l Z a0 hw [] (0 : Int32) a_GT a_GE a_LT a_LE a_EQ a_NE h0 n0 Z0 S_GT S_GE S_LT S_LE S_EQ S_NE) hZ (hw _ (List.mem_of_getElem? (i := 4) rfl)) (hw _ (List.mem_of_getElem? (i := 3) rfl)) (by decide) (by decide)) (g := (mkF m 9 #[.val (.int u), .val (.int (0 : Int32)), .unset, .unset, .unset, .unset, .unset, .unset] [(.int (0 : Int32))])) rfl (by rw [hml]; rfl) (argsL := [(.int (0 : Int32))]) (rest := []) (lenOf pd_4 rfl) rfl (by show 2 * 0 + _ ≤ _; exact Nat.le_of_eq rfl) (hb hby at_9) (fun _ _ => ⟨rfl, e0, (by decide : 0 + 0 ≤ _), (by decide : 0 + 0 ≤ _)⟩)
    dsimp only [Pt.U, Pt.locs, Pt.cells, Pt.slots] at X22 l22 y22 z22 st22 hQ22
    subst l22 y22 z22
    obtain ⟨rfl, N22q, e22⟩ := hQ22
    have N22 := Fr.app N0 N22q
    refine own_by (T' := T22) (g' := (mkF m 12 #[.val (.int u), .val (.int (0 : Int32)), .unset, .unset, .unset, .unset, .unset, .unset] [(.ref a_GT)])) (fun _ k => st22 _ k) ?_
    refine own_by (T' := T22) (g' := (mkF m 13 #[.val (.int u), .val (.int (0 : Int32)), .val (.ref a_GT), .unset, .unset, .unset, .unset, .unset] [])) (fun _ k => XS.astoreN X22.here hx rfl (hb hby at_12) rfl rfl (l' := #[.val (.int u), .val (.int (0 : Int32)), .val (.ref a_GT), .unset, .unset, .unset, .unset, .unset]) rfl k) ?_
    refine own_by (T' := T22) (g' := (mkF m 14 #[.val (.int u), .val (.int (0 : Int32)), .val (.ref a_GT), .unset, .unset, .unset, .unset, .unset] [(.ref a_GT)])) (fun _ k => XS.aloadN X22.here hx rfl (hb hby at_13) rfl rfl k) ?_
    obtain ⟨cq23, kq23, q23a, q23b, q23c⟩ := isOf hZ e22 E_a_GT
    obtain ⟨_, _, ⟨T23, L23, k23, n23⟩, -, X23, ⟨Lc23, hQ23, l23, y23, z23⟩, st23⟩ := X22.virtualBack hx (y := (⟨"com/example/nisaba/nisaba/item/Comparison", "byOrder", "()Z"⟩ : MethodName)) (z := (⟨"com/example/nisaba/nisaba/item/Comparison", "byOrder", "()Z"⟩ : MethodName)) hown (mvT hZ (hw _ (List.mem_of_getElem? (i := 8) rfl))) (mvT hZ (hw _ (List.mem_of_getElem? (i := 9) rfl))) (notFace_of_selects (args := #[]) (mvT hZ (hw _ (List.mem_of_getElem? (i := 11) rfl)))) (mvT hZ (hw _ (List.mem_of_getElem? (i := 11) rfl))) (mvT hZ (hw _ (List.mem_of_getElem? (i := 10) rfl))) (by decide) (backOf (W := 0) (rm2 l Z a0 hw [] a_GT a_EQ a_NE h0 n0 Z0 S_EQ S_NE) hZ (hw _ (List.mem_of_getElem? (i := 12) rfl)) (hw _ (List.mem_of_getElem? (i := 6) rfl)) (by decide) (by decide)) q23a q23c (g := (mkF m 14 #[.val (.int u), .val (.int (0 : Int32)), .val (.ref a_GT), .unset, .unset, .unset, .unset, .unset] [(.ref a_GT)])) rfl (by rw [hml]; rfl) (Steps.refl _) (argsL := []) (rest := []) (lenOf pd_2 rfl) rfl (by show 2 * 0 + _ ≤ _; exact Nat.le_of_eq rfl) (hb hby at_14) (fun _ _ => ⟨rfl, e22, (by decide : (0 + 0) + 0 ≤ _), (by decide : (0 + 0) + 0 ≤ _)⟩)
    dsimp only [Pt.U, Pt.locs, Pt.cells, Pt.slots] at X23 l23 y23 z23 st23 hQ23
    subst l23 y23 z23
    obtain ⟨rfl, N23q, e23⟩ := hQ23
    have N23 := Fr.app N22 N23q
    refine own_by (T' := T23) (g' := (mkF m 17 #[.val (.int u), .val (.int (0 : Int32)), .val (.ref a_GT), .unset, .unset, .unset, .unset, .unset] [(.int (own_by_ a_GT a_EQ a_NE))])) (fun _ k => st23.trans k) ?_
    refine own_by (T' := T23) (g' := (mkF m 18 #[.val (.int u), .val (.int (0 : Int32)), .val (.ref a_GT), .val (.int (own_by_ a_GT a_EQ a_NE)), .unset, .unset, .unset, .unset] [])) (fun _ k => XS.istoreN X23.here hx rfl (hb hby at_17) rfl (l' := #[.val (.int u), .val (.int (0 : Int32)), .val (.ref a_GT), .val (.int (own_by_ a_GT a_EQ a_NE)), .unset, .unset, .unset, .unset]) rfl k) ?_
    refine own_by (T' := T23) (g' := (mkF m 19 #[.val (.int u), .val (.int (0 : Int32)), .val (.ref a_GT), .val (.int (own_by_ a_GT a_EQ a_NE)), .unset, .unset, .unset, .unset] [(.int (0 : Int32))])) (fun _ k => XS.iloadN X23.here hx rfl (hb hby at_18) rfl k) ?_
    refine own_by (T' := T23) (g' := (mkF m 20 #[.val (.int u), .val (.int (0 : Int32)), .val (.ref a_GT), .val (.int (own_by_ a_GT a_EQ a_NE)), .unset, .unset, .unset, .unset] [(.int (4 : Int32)), (.int (0 : Int32))])) (fun _ k => XS.iconst X23.here hx rfl (hb hby at_19) k) ?_
    refine own_by (T' := T23) (g' := (mkF m 23 #[.val (.int u), .val (.int (0 : Int32)), .val (.ref a_GT), .val (.int (own_by_ a_GT a_EQ a_NE)), .unset, .unset, .unset, .unset] [])) (fun _ k => XS.icmpNo X23.here hx rfl (hb hby at_20) rfl (tlt (by decide)).2.1 k) ?_
    refine own_by (T' := T23) (g' := (mkF m 24 #[.val (.int u), .val (.int (0 : Int32)), .val (.ref a_GT), .val (.int (own_by_ a_GT a_EQ a_NE)), .unset, .unset, .unset, .unset] [(.int (1 : Int32))])) (fun _ k => XS.iconst X23.here hx rfl (hb hby at_23) k) ?_
    refine own_by (T' := T23) (g' := (mkF m 28 #[.val (.int u), .val (.int (0 : Int32)), .val (.ref a_GT), .val (.int (own_by_ a_GT a_EQ a_NE)), .unset, .unset, .unset, .unset] [(.int (1 : Int32))])) (fun _ k => XS.goto X23.here hx rfl (pc0 := 24) (pc' := 28) rfl (hb hby at_24) (by decide) (by decide) k) ?_
    refine own_by (T' := T23) (g' := (mkF m 30 #[.val (.int u), .val (.int (0 : Int32)), .val (.ref a_GT), .val (.int (own_by_ a_GT a_EQ a_NE)), .val (.int (1 : Int32)), .unset, .unset, .unset] [])) (fun _ k => XS.istore X23.here hx rfl (hb hby at_28) rfl (l' := #[.val (.int u), .val (.int (0 : Int32)), .val (.ref a_GT), .val (.int (own_by_ a_GT a_EQ a_NE)), .val (.int (1 : Int32)), .unset, .unset, .unset]) rfl k) ?_
    refine own_by (T' := T23) (g' := (mkF m 31 #[.val (.int u), .val (.int (0 : Int32)), .val (.ref a_GT), .val (.int (own_by_ a_GT a_EQ a_NE)), .val (.int (1 : Int32)), .unset, .unset, .unset] [(.ref a_GT)])) (fun _ k => XS.aloadN X23.here hx rfl (hb hby at_30) rfl rfl k) ?_
    obtain ⟨cq24, kq24, q24a, q24b, q24c⟩ := isOf hZ e23 E_a_GT
    obtain ⟨_, _, ⟨T24, L24, k24, n24⟩, -, X24, ⟨Lc24, hQ24, l24, y24, z24⟩, st24⟩ := X23.virtualBack hx (y := (⟨"com/example/nisaba/nisaba/item/Comparison", "apiName", "()Ljava/lang/String;"⟩ : MethodName)) (z := (⟨"com/example/nisaba/nisaba/item/Comparison", "apiName", "()Ljava/lang/String;"⟩ : MethodName)) hown (mvT hZ (hw _ (List.mem_of_getElem? (i := 17) rfl))) (mvT hZ (hw _ (List.mem_of_getElem? (i := 18) rfl))) (notFace_of_selects (args := #[]) (mvT hZ (hw _ (List.mem_of_getElem? (i := 20) rfl)))) (mvT hZ (hw _ (List.mem_of_getElem? (i := 20) rfl))) (mvT hZ (hw _ (List.mem_of_getElem? (i := 19) rfl))) (by decide) (backOf (W := 0) (rm3 l Z a0 hw [] a_GT t_GT h0 n0 Z0 F_apiName_a_GT) hZ (hw _ (List.mem_of_getElem? (i := 21) rfl)) (hw _ (List.mem_of_getElem? (i := 6) rfl)) (by decide) (by decide)) q24a q24c (g := (mkF m 31 #[.val (.int u), .val (.int (0 : Int32)), .val (.ref a_GT), .val (.int (own_by_ a_GT a_EQ a_NE)), .val (.int (1 : Int32)), .unset, .unset, .unset] [(.ref a_GT)])) rfl (by rw [hml]; rfl) (Steps.refl _) (argsL := []) (rest := []) (lenOf pd_5 rfl) rfl (by show 2 * 0 + _ ≤ _; exact Nat.le_of_eq rfl) (hb hby at_31) (fun _ _ => ⟨rfl, e23, (by decide : ((0 + 0) + 0) + 0 ≤ _), (by decide : ((0 + 0) + 0) + 0 ≤ _)⟩)
    dsimp only [Pt.U, Pt.locs, Pt.cells, Pt.slots] at X24 l24 y24 z24 st24 hQ24
    subst l24 y24 z24
    obtain ⟨rfl, N24q, e24⟩ := hQ24
    have N24 := Fr.app N23 N24q
    refine own_by (T' := T24) (g' := (mkF m 34 #[.val (.int u), .val (.int (0 : Int32)), .val (.ref a_GT), .val (.int (own_by_ a_GT a_EQ a_NE)), .val (.int (1 : Int32)), .unset, .unset, .unset] [(.ref t_GT)])) (fun _ k => st24.trans k) ?_
    refine own_by (T' := T24) (g' := (mkF m 36 #[.val (.int u), .val (.int (0 : Int32)), .val (.ref a_GT), .val (.int (own_by_ a_GT a_EQ a_NE)), .val (.int (1 : Int32)), .val (.ref t_GT), .unset, .unset] [])) (fun _ k => XS.astore X24.here hx rfl (hb hby at_34) rfl rfl (l' := #[.val (.int u), .val (.int (0 : Int32)), .val (.ref a_GT), .val (.int (own_by_ a_GT a_EQ a_NE)), .val (.int (1 : Int32)), .val (.ref t_GT), .unset, .unset]) rfl k) ?_
    refine own_by (T' := T24) (g' := (mkF m 38 #[.val (.int u), .val (.int (0 : Int32)), .val (.ref a_GT), .val (.int (own_by_ a_GT a_EQ a_NE)), .val (.int (1 : Int32)), .val (.ref t_GT), .unset, .unset] [(.ref t_GT)])) (fun _ k => XS.aload X24.here hx rfl (hb hby at_36) rfl rfl k) ?_
    refine own_by (T' := T24) (g' := (mkF m 39 #[.val (.int u), .val (.int (0 : Int32)), .val (.ref a_GT), .val (.int (own_by_ a_GT a_EQ a_NE)), .val (.int (1 : Int32)), .val (.ref t_GT), .unset, .unset] [(.int (0 : Int32)), (.ref t_GT)])) (fun _ k => XS.iconst X24.here hx rfl (hb hby at_38) k) ?_
    obtain ⟨cq25, kq25, q25a, q25b, q25c⟩ := isOf hZ e24 E_t_GT
    obtain ⟨_, _, ⟨T25, L25, k25, n25⟩, -, X25, ⟨Lc25, hQ25, l25, y25, z25⟩, st25⟩ := X24.virtualBack hx (y := (⟨"java/lang/String", "charAt", "(I)C"⟩ : MethodName)) (z := (⟨"java/lang/String", "charAt", "(I)C"⟩ : MethodName)) hown (mvT hZ (hw _ (List.mem_of_getElem? (i := 24) rfl))) (mvT hZ (hw _ (List.mem_of_getElem? (i := 25) rfl))) (notFace_of_selects (args := #[]) (mvT hZ (hw _ (List.mem_of_getElem? (i := 27) rfl)))) (mvT hZ (hw _ (List.mem_of_getElem? (i := 27) rfl))) (mvT hZ (hw _ (List.mem_of_getElem? (i := 26) rfl))) (by decide) (backOf (W := 0) (rm4 l Z a0 hw [] t_GT r_GT k_GT (103 : Int32) (116 : Int32) cs sf h0 n0 Z0 E_t_GT F_coder_t_GT F_value_t_GT V_r_GT S_CS hcs hsf S_SF) hZ (hw _ (List.mem_of_getElem? (i := 29) rfl)) (hw _ (List.mem_of_getElem? (i := 28) rfl)) (by decide) (by decide)) q25a q25c (g := (mkF m 39 #[.val (.int u), .val (.int (0 : Int32)), .val (.ref a_GT), .val (.int (own_by_ a_GT a_EQ a_NE)), .val (.int (1 : Int32)), .val (.ref t_GT), .unset, .unset] [(.int (0 : Int32)), (.ref t_GT)])) rfl (by rw [hml]; rfl) (Steps.refl _) (argsL := [(.int (0 : Int32))]) (rest := []) (lenOf pd_6 rfl) rfl (by show 2 * 0 + _ ≤ _; exact Nat.le_of_eq rfl) (hb hby at_39) (fun _ _ => ⟨rfl, e24, (by decide : (((0 + 0) + 0) + 0) + 0 ≤ _), (by decide : (((0 + 0) + 0) + 0) + 0 ≤ _)⟩)
    dsimp only [Pt.U, Pt.locs, Pt.cells, Pt.slots] at X25 l25 y25 z25 st25 hQ25
    subst l25 y25 z25
    obtain ⟨rfl, N25q, e25⟩ := hQ25
    have N25 := Fr.app N24 N25q
    refine own_by (T' := T25) (g' := (mkF m 42 #[.val (.int u), .val (.int (0 : Int32)), .val (.ref a_GT), .val (.int (own_by_ a_GT a_EQ a_NE)), .val (.int (1 : Int32)), .val (.ref t_GT), .unset, .unset] [(.int (103 : Int32))])) (fun _ k => st25.trans k) ?_
    refine own_by (T' := T25) (g' := (mkF m 44 #[.val (.int u), .val (.int (0 : Int32)), .val (.ref a_GT), .val (.int (own_by_ a_GT a_EQ a_NE)), .val (.int (1 : Int32)), .val (.ref t_GT), .val (.int (103 : Int32)), .unset] [])) (fun _ k => XS.istore X25.here hx rfl (hb hby at_42) rfl (l' := #[.val (.int u), .val (.int (0 : Int32)), .val (.ref a_GT), .val (.int (own_by_ a_GT a_EQ a_NE)), .val (.int (1 : Int32)), .val (.ref t_GT), .val (.int (103 : Int32)), .unset]) rfl k) ?_
    refine own_by (T' := T25) (g' := (mkF m 46 #[.val (.int u), .val (.int (0 : Int32)), .val (.ref a_GT), .val (.int (own_by_ a_GT a_EQ a_NE)), .val (.int (1 : Int32)), .val (.ref t_GT), .val (.int (103 : Int32)), .unset] [(.int (103 : Int32))])) (fun _ k => XS.iload X25.here hx rfl (hb hby at_44) rfl k) ?_
    refine own_by (T' := T25) (g' := (mkF m 48 #[.val (.int u), .val (.int (0 : Int32)), .val (.ref a_GT), .val (.int (own_by_ a_GT a_EQ a_NE)), .val (.int (1 : Int32)), .val (.ref t_GT), .val (.int (103 : Int32)), .unset] [(.int (103 : Int32)), (.int (103 : Int32))])) (fun _ k => XS.bipush X25.here hx rfl (hb hby at_46) k) ?_
    refine own_by (T' := T25) (g' := (mkF m 58 #[.val (.int u), .val (.int (0 : Int32)), .val (.ref a_GT), .val (.int (own_by_ a_GT a_EQ a_NE)), .val (.int (1 : Int32)), .val (.ref t_GT), .val (.int (103 : Int32)), .unset] [])) (fun _ k => XS.icmpYes X25.here hx rfl (pc0 := 48) (pc' := 58) rfl (hb hby at_48) rfl (teq (by decide)).1 (by decide) (by decide) k) ?_
    refine own_by (T' := T25) (g' := (mkF m 59 #[.val (.int u), .val (.int (0 : Int32)), .val (.ref a_GT), .val (.int (own_by_ a_GT a_EQ a_NE)), .val (.int (1 : Int32)), .val (.ref t_GT), .val (.int (103 : Int32)), .unset] [(.int (1 : Int32))])) (fun _ k => XS.iconst X25.here hx rfl (hb hby at_58) k) ?_
    refine own_by (T' := T25) (g' := (mkF m 63 #[.val (.int u), .val (.int (0 : Int32)), .val (.ref a_GT), .val (.int (own_by_ a_GT a_EQ a_NE)), .val (.int (1 : Int32)), .val (.ref t_GT), .val (.int (103 : Int32)), .unset] [(.int (1 : Int32))])) (fun _ k => XS.goto X25.here hx rfl (pc0 := 59) (pc' := 63) rfl (hb hby at_59) (by decide) (by decide) k) ?_
    refine own_by (T' := T25) (g' := (mkF m 65 #[.val (.int u), .val (.int (0 : Int32)), .val (.ref a_GT), .val (.int (own_by_ a_GT a_EQ a_NE)), .val (.int (1 : Int32)), .val (.ref t_GT), .val (.int (103 : Int32)), .val (.int (1 : Int32))] [])) (fun _ k => XS.istore X25.here hx rfl (hb hby at_63) rfl (l' := #[.val (.int u), .val (.int (0 : Int32)), .val (.ref a_GT), .val (.int (own_by_ a_GT a_EQ a_NE)), .val (.int (1 : Int32)), .val (.ref t_GT), .val (.int (103 : Int32)), .val (.int (1 : Int32))]) rfl k) ?_
    refine own_by (T' := T25) (g' := (mkF m 66 #[.val (.int u), .val (.int (0 : Int32)), .val (.ref a_GT), .val (.int (own_by_ a_GT a_EQ a_NE)), .val (.int (1 : Int32)), .val (.ref t_GT), .val (.int (103 : Int32)), .val (.int (1 : Int32))] [(.int (own_by_ a_GT a_EQ a_NE))])) (fun _ k => XS.iloadN X25.here hx rfl (hb hby at_65) rfl k) ?_
    refine own_by (T' := T25) (g' := (mkF m 68 #[.val (.int u), .val (.int (0 : Int32)), .val (.ref a_GT), .val (.int (own_by_ a_GT a_EQ a_NE)), .val (.int (1 : Int32)), .val (.ref t_GT), .val (.int (103 : Int32)), .val (.int (1 : Int32))] [(.int (1 : Int32)), (.int (own_by_ a_GT a_EQ a_NE))])) (fun _ k => XS.iload X25.here hx rfl (hb hby at_66) rfl k) ?_
    refine own_by (T' := T25) (g' := (mkF m 71 #[.val (.int u), .val (.int (0 : Int32)), .val (.ref a_GT), .val (.int (own_by_ a_GT a_EQ a_NE)), .val (.int (1 : Int32)), .val (.ref t_GT), .val (.int (103 : Int32)), .val (.int (1 : Int32))] [])) (fun _ k => XS.icmpNo X25.here hx rfl (hb hby at_68) rfl (teq ((if_neg (Fld.ne O_GT O_EQ (own_vne (by decide)))).trans (if_neg (Fld.ne O_GT O_NE (own_vne (by decide)))))).2 k) ?_
    refine own_by (T' := T25) (g' := (mkF m 72 #[.val (.int u), .val (.int (0 : Int32)), .val (.ref a_GT), .val (.int (own_by_ a_GT a_EQ a_NE)), .val (.int (1 : Int32)), .val (.ref t_GT), .val (.int (103 : Int32)), .val (.int (1 : Int32))] [(.int (own_by_ a_GT a_EQ a_NE))])) (fun _ k => XS.iloadN X25.here hx rfl (hb hby at_71) rfl k) ?_
    refine own_by (T' := T25) (g' := (mkF m 74 #[.val (.int u), .val (.int (0 : Int32)), .val (.ref a_GT), .val (.int (own_by_ a_GT a_EQ a_NE)), .val (.int (1 : Int32)), .val (.ref t_GT), .val (.int (103 : Int32)), .val (.int (1 : Int32))] [(.int (1 : Int32)), (.int (own_by_ a_GT a_EQ a_NE))])) (fun _ k => XS.iload X25.here hx rfl (hb hby at_72) rfl k) ?_
    refine own_by (T' := T25) (g' := (mkF m 77 #[.val (.int u), .val (.int (0 : Int32)), .val (.ref a_GT), .val (.int (own_by_ a_GT a_EQ a_NE)), .val (.int (1 : Int32)), .val (.ref t_GT), .val (.int (103 : Int32)), .val (.int (1 : Int32))] [])) (fun _ k => XS.icmpNo X25.here hx rfl (hb hby at_74) rfl (teq ((if_neg (Fld.ne O_GT O_EQ (own_vne (by decide)))).trans (if_neg (Fld.ne O_GT O_NE (own_vne (by decide)))))).2 k) ?_
    refine own_by (T' := T25) (g' := (mkF m 78 #[.val (.int u), .val (.int (0 : Int32)), .val (.ref a_GT), .val (.int (own_by_ a_GT a_EQ a_NE)), .val (.int (1 : Int32)), .val (.ref t_GT), .val (.int (103 : Int32)), .val (.int (1 : Int32))] [(.int (1 : Int32))])) (fun _ k => XS.iconst X25.here hx rfl (hb hby at_77) k) ?_
    refine own_by (T' := T25) (g' := (mkF m 82 #[.val (.int u), .val (.int (0 : Int32)), .val (.ref a_GT), .val (.int (own_by_ a_GT a_EQ a_NE)), .val (.int (1 : Int32)), .val (.ref t_GT), .val (.int (103 : Int32)), .val (.int (1 : Int32))] [(.int (1 : Int32))])) (fun _ k => XS.goto X25.here hx rfl (pc0 := 78) (pc' := 82) rfl (hb hby at_78) (by decide) (by decide) k) ?_
    refine own_ret X25 hlk (v := some (.int (1 : Int32))) (fun h => by rw [Bd.returns] at h; cases h) (fun fs hr => retN X25 hx (t := .boolean) Bd.returns (by simp) (hb hby at_82) hr) ?_ (by decide) (by decide)
    rw [e25]
    exact ⟨rfl, N25⟩
  · skip
    rw [hq21]
    refine own_by (T' := s₁) (g' := (mkF m 9 #[.val (.int u), .val (.int (1 : Int32)), .unset, .unset, .unset, .unset, .unset, .unset] [(.int (1 : Int32))])) (fun _ k => XS.iloadN X0.here hx rfl (hb hby at_8) rfl k) ?_
    obtain ⟨_, _, ⟨T26, L26, k26, n26⟩, -, X26, ⟨Lc26, hQ26, l26, y26, z26⟩, st26⟩ := Jvm.LawKit.callS X0 hx (y := (⟨"com/example/nisaba/nisaba/item/ComparisonByOrderPinLaw", "pick", "(I)Lcom/example/nisaba/nisaba/item/Comparison;"⟩ : MethodName)) hown (mvT hZ (hw _ (List.mem_of_getElem? (i := 1) rfl))) (mvT hZ (hw _ (List.mem_of_getElem? (i := 2) rfl))) (mvT hZ (hw _ (List.mem_of_getElem? (i := 3) rfl))) (mvT hZ (hw _ (List.mem_of_getElem? (i := 4) rfl))) (by decide) (backOf (W := 0) (rm1 l Z a0 hw [] (1 : Int32) a_GT a_GE a_LT a_LE a_EQ a_NE h0 n0 Z0 S_GT S_GE S_LT S_LE S_EQ S_NE) hZ (hw _ (List.mem_of_getElem? (i := 4) rfl)) (hw _ (List.mem_of_getElem? (i := 3) rfl)) (by decide) (by decide)) (g := (mkF m 9 #[.val (.int u), .val (.int (1 : Int32)), .unset, .unset, .unset, .unset, .unset, .unset] [(.int (1 : Int32))])) rfl (by rw [hml]; rfl) (argsL := [(.int (1 : Int32))]) (rest := []) (lenOf pd_4 rfl) rfl (by show 2 * 0 + _ ≤ _; exact Nat.le_of_eq rfl) (hb hby at_9) (fun _ _ => ⟨rfl, e0, (by decide : 0 + 0 ≤ _), (by decide : 0 + 0 ≤ _)⟩)
    dsimp only [Pt.U, Pt.locs, Pt.cells, Pt.slots] at X26 l26 y26 z26 st26 hQ26
    subst l26 y26 z26
    obtain ⟨rfl, N26q, e26⟩ := hQ26
    have N26 := Fr.app N0 N26q
    refine own_by (T' := T26) (g' := (mkF m 12 #[.val (.int u), .val (.int (1 : Int32)), .unset, .unset, .unset, .unset, .unset, .unset] [(.ref a_GE)])) (fun _ k => st26 _ k) ?_
    refine own_by (T' := T26) (g' := (mkF m 13 #[.val (.int u), .val (.int (1 : Int32)), .val (.ref a_GE), .unset, .unset, .unset, .unset, .unset] [])) (fun _ k => XS.astoreN X26.here hx rfl (hb hby at_12) rfl rfl (l' := #[.val (.int u), .val (.int (1 : Int32)), .val (.ref a_GE), .unset, .unset, .unset, .unset, .unset]) rfl k) ?_
    refine own_by (T' := T26) (g' := (mkF m 14 #[.val (.int u), .val (.int (1 : Int32)), .val (.ref a_GE), .unset, .unset, .unset, .unset, .unset] [(.ref a_GE)])) (fun _ k => XS.aloadN X26.here hx rfl (hb hby at_13) rfl rfl k) ?_
    obtain ⟨cq27, kq27, q27a, q27b, q27c⟩ := isOf hZ e26 E_a_GE
    obtain ⟨_, _, ⟨T27, L27, k27, n27⟩, -, X27, ⟨Lc27, hQ27, l27, y27, z27⟩, st27⟩ := X26.virtualBack hx (y := (⟨"com/example/nisaba/nisaba/item/Comparison", "byOrder", "()Z"⟩ : MethodName)) (z := (⟨"com/example/nisaba/nisaba/item/Comparison", "byOrder", "()Z"⟩ : MethodName)) hown (mvT hZ (hw _ (List.mem_of_getElem? (i := 8) rfl))) (mvT hZ (hw _ (List.mem_of_getElem? (i := 9) rfl))) (notFace_of_selects (args := #[]) (mvT hZ (hw _ (List.mem_of_getElem? (i := 11) rfl)))) (mvT hZ (hw _ (List.mem_of_getElem? (i := 11) rfl))) (mvT hZ (hw _ (List.mem_of_getElem? (i := 10) rfl))) (by decide) (backOf (W := 0) (rm2 l Z a0 hw [] a_GE a_EQ a_NE h0 n0 Z0 S_EQ S_NE) hZ (hw _ (List.mem_of_getElem? (i := 12) rfl)) (hw _ (List.mem_of_getElem? (i := 6) rfl)) (by decide) (by decide)) q27a q27c (g := (mkF m 14 #[.val (.int u), .val (.int (1 : Int32)), .val (.ref a_GE), .unset, .unset, .unset, .unset, .unset] [(.ref a_GE)])) rfl (by rw [hml]; rfl) (Steps.refl _) (argsL := []) (rest := []) (lenOf pd_2 rfl) rfl (by show 2 * 0 + _ ≤ _; exact Nat.le_of_eq rfl) (hb hby at_14) (fun _ _ => ⟨rfl, e26, (by decide : (0 + 0) + 0 ≤ _), (by decide : (0 + 0) + 0 ≤ _)⟩)
    dsimp only [Pt.U, Pt.locs, Pt.cells, Pt.slots] at X27 l27 y27 z27 st27 hQ27
    subst l27 y27 z27
    obtain ⟨rfl, N27q, e27⟩ := hQ27
    have N27 := Fr.app N26 N27q
    refine own_by (T' := T27) (g' := (mkF m 17 #[.val (.int u), .val (.int (1 : Int32)), .val (.ref a_GE), .unset, .unset, .unset, .unset, .unset] [(.int (own_by_ a_GE a_EQ a_NE))])) (fun _ k => st27.trans k) ?_
    refine own_by (T' := T27) (g' := (mkF m 18 #[.val (.int u), .val (.int (1 : Int32)), .val (.ref a_GE), .val (.int (own_by_ a_GE a_EQ a_NE)), .unset, .unset, .unset, .unset] [])) (fun _ k => XS.istoreN X27.here hx rfl (hb hby at_17) rfl (l' := #[.val (.int u), .val (.int (1 : Int32)), .val (.ref a_GE), .val (.int (own_by_ a_GE a_EQ a_NE)), .unset, .unset, .unset, .unset]) rfl k) ?_
    refine own_by (T' := T27) (g' := (mkF m 19 #[.val (.int u), .val (.int (1 : Int32)), .val (.ref a_GE), .val (.int (own_by_ a_GE a_EQ a_NE)), .unset, .unset, .unset, .unset] [(.int (1 : Int32))])) (fun _ k => XS.iloadN X27.here hx rfl (hb hby at_18) rfl k) ?_
    refine own_by (T' := T27) (g' := (mkF m 20 #[.val (.int u), .val (.int (1 : Int32)), .val (.ref a_GE), .val (.int (own_by_ a_GE a_EQ a_NE)), .unset, .unset, .unset, .unset] [(.int (4 : Int32)), (.int (1 : Int32))])) (fun _ k => XS.iconst X27.here hx rfl (hb hby at_19) k) ?_
    refine own_by (T' := T27) (g' := (mkF m 23 #[.val (.int u), .val (.int (1 : Int32)), .val (.ref a_GE), .val (.int (own_by_ a_GE a_EQ a_NE)), .unset, .unset, .unset, .unset] [])) (fun _ k => XS.icmpNo X27.here hx rfl (hb hby at_20) rfl (tlt (by decide)).2.1 k) ?_
    refine own_by (T' := T27) (g' := (mkF m 24 #[.val (.int u), .val (.int (1 : Int32)), .val (.ref a_GE), .val (.int (own_by_ a_GE a_EQ a_NE)), .unset, .unset, .unset, .unset] [(.int (1 : Int32))])) (fun _ k => XS.iconst X27.here hx rfl (hb hby at_23) k) ?_
    refine own_by (T' := T27) (g' := (mkF m 28 #[.val (.int u), .val (.int (1 : Int32)), .val (.ref a_GE), .val (.int (own_by_ a_GE a_EQ a_NE)), .unset, .unset, .unset, .unset] [(.int (1 : Int32))])) (fun _ k => XS.goto X27.here hx rfl (pc0 := 24) (pc' := 28) rfl (hb hby at_24) (by decide) (by decide) k) ?_
    refine own_by (T' := T27) (g' := (mkF m 30 #[.val (.int u), .val (.int (1 : Int32)), .val (.ref a_GE), .val (.int (own_by_ a_GE a_EQ a_NE)), .val (.int (1 : Int32)), .unset, .unset, .unset] [])) (fun _ k => XS.istore X27.here hx rfl (hb hby at_28) rfl (l' := #[.val (.int u), .val (.int (1 : Int32)), .val (.ref a_GE), .val (.int (own_by_ a_GE a_EQ a_NE)), .val (.int (1 : Int32)), .unset, .unset, .unset]) rfl k) ?_
    refine own_by (T' := T27) (g' := (mkF m 31 #[.val (.int u), .val (.int (1 : Int32)), .val (.ref a_GE), .val (.int (own_by_ a_GE a_EQ a_NE)), .val (.int (1 : Int32)), .unset, .unset, .unset] [(.ref a_GE)])) (fun _ k => XS.aloadN X27.here hx rfl (hb hby at_30) rfl rfl k) ?_
    obtain ⟨cq28, kq28, q28a, q28b, q28c⟩ := isOf hZ e27 E_a_GE
    obtain ⟨_, _, ⟨T28, L28, k28, n28⟩, -, X28, ⟨Lc28, hQ28, l28, y28, z28⟩, st28⟩ := X27.virtualBack hx (y := (⟨"com/example/nisaba/nisaba/item/Comparison", "apiName", "()Ljava/lang/String;"⟩ : MethodName)) (z := (⟨"com/example/nisaba/nisaba/item/Comparison", "apiName", "()Ljava/lang/String;"⟩ : MethodName)) hown (mvT hZ (hw _ (List.mem_of_getElem? (i := 17) rfl))) (mvT hZ (hw _ (List.mem_of_getElem? (i := 18) rfl))) (notFace_of_selects (args := #[]) (mvT hZ (hw _ (List.mem_of_getElem? (i := 20) rfl)))) (mvT hZ (hw _ (List.mem_of_getElem? (i := 20) rfl))) (mvT hZ (hw _ (List.mem_of_getElem? (i := 19) rfl))) (by decide) (backOf (W := 0) (rm3 l Z a0 hw [] a_GE t_GE h0 n0 Z0 F_apiName_a_GE) hZ (hw _ (List.mem_of_getElem? (i := 21) rfl)) (hw _ (List.mem_of_getElem? (i := 6) rfl)) (by decide) (by decide)) q28a q28c (g := (mkF m 31 #[.val (.int u), .val (.int (1 : Int32)), .val (.ref a_GE), .val (.int (own_by_ a_GE a_EQ a_NE)), .val (.int (1 : Int32)), .unset, .unset, .unset] [(.ref a_GE)])) rfl (by rw [hml]; rfl) (Steps.refl _) (argsL := []) (rest := []) (lenOf pd_5 rfl) rfl (by show 2 * 0 + _ ≤ _; exact Nat.le_of_eq rfl) (hb hby at_31) (fun _ _ => ⟨rfl, e27, (by decide : ((0 + 0) + 0) + 0 ≤ _), (by decide : ((0 + 0) + 0) + 0 ≤ _)⟩)
    dsimp only [Pt.U, Pt.locs, Pt.cells, Pt.slots] at X28 l28 y28 z28 st28 hQ28
    subst l28 y28 z28
    obtain ⟨rfl, N28q, e28⟩ := hQ28
    have N28 := Fr.app N27 N28q
    refine own_by (T' := T28) (g' := (mkF m 34 #[.val (.int u), .val (.int (1 : Int32)), .val (.ref a_GE), .val (.int (own_by_ a_GE a_EQ a_NE)), .val (.int (1 : Int32)), .unset, .unset, .unset] [(.ref t_GE)])) (fun _ k => st28.trans k) ?_
    refine own_by (T' := T28) (g' := (mkF m 36 #[.val (.int u), .val (.int (1 : Int32)), .val (.ref a_GE), .val (.int (own_by_ a_GE a_EQ a_NE)), .val (.int (1 : Int32)), .val (.ref t_GE), .unset, .unset] [])) (fun _ k => XS.astore X28.here hx rfl (hb hby at_34) rfl rfl (l' := #[.val (.int u), .val (.int (1 : Int32)), .val (.ref a_GE), .val (.int (own_by_ a_GE a_EQ a_NE)), .val (.int (1 : Int32)), .val (.ref t_GE), .unset, .unset]) rfl k) ?_
    refine own_by (T' := T28) (g' := (mkF m 38 #[.val (.int u), .val (.int (1 : Int32)), .val (.ref a_GE), .val (.int (own_by_ a_GE a_EQ a_NE)), .val (.int (1 : Int32)), .val (.ref t_GE), .unset, .unset] [(.ref t_GE)])) (fun _ k => XS.aload X28.here hx rfl (hb hby at_36) rfl rfl k) ?_
    refine own_by (T' := T28) (g' := (mkF m 39 #[.val (.int u), .val (.int (1 : Int32)), .val (.ref a_GE), .val (.int (own_by_ a_GE a_EQ a_NE)), .val (.int (1 : Int32)), .val (.ref t_GE), .unset, .unset] [(.int (0 : Int32)), (.ref t_GE)])) (fun _ k => XS.iconst X28.here hx rfl (hb hby at_38) k) ?_
    obtain ⟨cq29, kq29, q29a, q29b, q29c⟩ := isOf hZ e28 E_t_GE
    obtain ⟨_, _, ⟨T29, L29, k29, n29⟩, -, X29, ⟨Lc29, hQ29, l29, y29, z29⟩, st29⟩ := X28.virtualBack hx (y := (⟨"java/lang/String", "charAt", "(I)C"⟩ : MethodName)) (z := (⟨"java/lang/String", "charAt", "(I)C"⟩ : MethodName)) hown (mvT hZ (hw _ (List.mem_of_getElem? (i := 24) rfl))) (mvT hZ (hw _ (List.mem_of_getElem? (i := 25) rfl))) (notFace_of_selects (args := #[]) (mvT hZ (hw _ (List.mem_of_getElem? (i := 27) rfl)))) (mvT hZ (hw _ (List.mem_of_getElem? (i := 27) rfl))) (mvT hZ (hw _ (List.mem_of_getElem? (i := 26) rfl))) (by decide) (backOf (W := 0) (rm4 l Z a0 hw [] t_GE r_GE k_GE (103 : Int32) (101 : Int32) cs sf h0 n0 Z0 E_t_GE F_coder_t_GE F_value_t_GE V_r_GE S_CS hcs hsf S_SF) hZ (hw _ (List.mem_of_getElem? (i := 29) rfl)) (hw _ (List.mem_of_getElem? (i := 28) rfl)) (by decide) (by decide)) q29a q29c (g := (mkF m 39 #[.val (.int u), .val (.int (1 : Int32)), .val (.ref a_GE), .val (.int (own_by_ a_GE a_EQ a_NE)), .val (.int (1 : Int32)), .val (.ref t_GE), .unset, .unset] [(.int (0 : Int32)), (.ref t_GE)])) rfl (by rw [hml]; rfl) (Steps.refl _) (argsL := [(.int (0 : Int32))]) (rest := []) (lenOf pd_6 rfl) rfl (by show 2 * 0 + _ ≤ _; exact Nat.le_of_eq rfl) (hb hby at_39) (fun _ _ => ⟨rfl, e28, (by decide : (((0 + 0) + 0) + 0) + 0 ≤ _), (by decide : (((0 + 0) + 0) + 0) + 0 ≤ _)⟩)
    dsimp only [Pt.U, Pt.locs, Pt.cells, Pt.slots] at X29 l29 y29 z29 st29 hQ29
    subst l29 y29 z29
    obtain ⟨rfl, N29q, e29⟩ := hQ29
    have N29 := Fr.app N28 N29q
    refine own_by (T' := T29) (g' := (mkF m 42 #[.val (.int u), .val (.int (1 : Int32)), .val (.ref a_GE), .val (.int (own_by_ a_GE a_EQ a_NE)), .val (.int (1 : Int32)), .val (.ref t_GE), .unset, .unset] [(.int (103 : Int32))])) (fun _ k => st29.trans k) ?_
    refine own_by (T' := T29) (g' := (mkF m 44 #[.val (.int u), .val (.int (1 : Int32)), .val (.ref a_GE), .val (.int (own_by_ a_GE a_EQ a_NE)), .val (.int (1 : Int32)), .val (.ref t_GE), .val (.int (103 : Int32)), .unset] [])) (fun _ k => XS.istore X29.here hx rfl (hb hby at_42) rfl (l' := #[.val (.int u), .val (.int (1 : Int32)), .val (.ref a_GE), .val (.int (own_by_ a_GE a_EQ a_NE)), .val (.int (1 : Int32)), .val (.ref t_GE), .val (.int (103 : Int32)), .unset]) rfl k) ?_
    refine own_by (T' := T29) (g' := (mkF m 46 #[.val (.int u), .val (.int (1 : Int32)), .val (.ref a_GE), .val (.int (own_by_ a_GE a_EQ a_NE)), .val (.int (1 : Int32)), .val (.ref t_GE), .val (.int (103 : Int32)), .unset] [(.int (103 : Int32))])) (fun _ k => XS.iload X29.here hx rfl (hb hby at_44) rfl k) ?_
    refine own_by (T' := T29) (g' := (mkF m 48 #[.val (.int u), .val (.int (1 : Int32)), .val (.ref a_GE), .val (.int (own_by_ a_GE a_EQ a_NE)), .val (.int (1 : Int32)), .val (.ref t_GE), .val (.int (103 : Int32)), .unset] [(.int (103 : Int32)), (.int (103 : Int32))])) (fun _ k => XS.bipush X29.here hx rfl (hb hby at_46) k) ?_
    refine own_by (T' := T29) (g' := (mkF m 58 #[.val (.int u), .val (.int (1 : Int32)), .val (.ref a_GE), .val (.int (own_by_ a_GE a_EQ a_NE)), .val (.int (1 : Int32)), .val (.ref t_GE), .val (.int (103 : Int32)), .unset] [])) (fun _ k => XS.icmpYes X29.here hx rfl (pc0 := 48) (pc' := 58) rfl (hb hby at_48) rfl (teq (by decide)).1 (by decide) (by decide) k) ?_
    refine own_by (T' := T29) (g' := (mkF m 59 #[.val (.int u), .val (.int (1 : Int32)), .val (.ref a_GE), .val (.int (own_by_ a_GE a_EQ a_NE)), .val (.int (1 : Int32)), .val (.ref t_GE), .val (.int (103 : Int32)), .unset] [(.int (1 : Int32))])) (fun _ k => XS.iconst X29.here hx rfl (hb hby at_58) k) ?_
    refine own_by (T' := T29) (g' := (mkF m 63 #[.val (.int u), .val (.int (1 : Int32)), .val (.ref a_GE), .val (.int (own_by_ a_GE a_EQ a_NE)), .val (.int (1 : Int32)), .val (.ref t_GE), .val (.int (103 : Int32)), .unset] [(.int (1 : Int32))])) (fun _ k => XS.goto X29.here hx rfl (pc0 := 59) (pc' := 63) rfl (hb hby at_59) (by decide) (by decide) k) ?_
    refine own_by (T' := T29) (g' := (mkF m 65 #[.val (.int u), .val (.int (1 : Int32)), .val (.ref a_GE), .val (.int (own_by_ a_GE a_EQ a_NE)), .val (.int (1 : Int32)), .val (.ref t_GE), .val (.int (103 : Int32)), .val (.int (1 : Int32))] [])) (fun _ k => XS.istore X29.here hx rfl (hb hby at_63) rfl (l' := #[.val (.int u), .val (.int (1 : Int32)), .val (.ref a_GE), .val (.int (own_by_ a_GE a_EQ a_NE)), .val (.int (1 : Int32)), .val (.ref t_GE), .val (.int (103 : Int32)), .val (.int (1 : Int32))]) rfl k) ?_
    refine own_by (T' := T29) (g' := (mkF m 66 #[.val (.int u), .val (.int (1 : Int32)), .val (.ref a_GE), .val (.int (own_by_ a_GE a_EQ a_NE)), .val (.int (1 : Int32)), .val (.ref t_GE), .val (.int (103 : Int32)), .val (.int (1 : Int32))] [(.int (own_by_ a_GE a_EQ a_NE))])) (fun _ k => XS.iloadN X29.here hx rfl (hb hby at_65) rfl k) ?_
    refine own_by (T' := T29) (g' := (mkF m 68 #[.val (.int u), .val (.int (1 : Int32)), .val (.ref a_GE), .val (.int (own_by_ a_GE a_EQ a_NE)), .val (.int (1 : Int32)), .val (.ref t_GE), .val (.int (103 : Int32)), .val (.int (1 : Int32))] [(.int (1 : Int32)), (.int (own_by_ a_GE a_EQ a_NE))])) (fun _ k => XS.iload X29.here hx rfl (hb hby at_66) rfl k) ?_
    refine own_by (T' := T29) (g' := (mkF m 71 #[.val (.int u), .val (.int (1 : Int32)), .val (.ref a_GE), .val (.int (own_by_ a_GE a_EQ a_NE)), .val (.int (1 : Int32)), .val (.ref t_GE), .val (.int (103 : Int32)), .val (.int (1 : Int32))] [])) (fun _ k => XS.icmpNo X29.here hx rfl (hb hby at_68) rfl (teq ((if_neg (Fld.ne O_GE O_EQ (own_vne (by decide)))).trans (if_neg (Fld.ne O_GE O_NE (own_vne (by decide)))))).2 k) ?_
    refine own_by (T' := T29) (g' := (mkF m 72 #[.val (.int u), .val (.int (1 : Int32)), .val (.ref a_GE), .val (.int (own_by_ a_GE a_EQ a_NE)), .val (.int (1 : Int32)), .val (.ref t_GE), .val (.int (103 : Int32)), .val (.int (1 : Int32))] [(.int (own_by_ a_GE a_EQ a_NE))])) (fun _ k => XS.iloadN X29.here hx rfl (hb hby at_71) rfl k) ?_
    refine own_by (T' := T29) (g' := (mkF m 74 #[.val (.int u), .val (.int (1 : Int32)), .val (.ref a_GE), .val (.int (own_by_ a_GE a_EQ a_NE)), .val (.int (1 : Int32)), .val (.ref t_GE), .val (.int (103 : Int32)), .val (.int (1 : Int32))] [(.int (1 : Int32)), (.int (own_by_ a_GE a_EQ a_NE))])) (fun _ k => XS.iload X29.here hx rfl (hb hby at_72) rfl k) ?_
    refine own_by (T' := T29) (g' := (mkF m 77 #[.val (.int u), .val (.int (1 : Int32)), .val (.ref a_GE), .val (.int (own_by_ a_GE a_EQ a_NE)), .val (.int (1 : Int32)), .val (.ref t_GE), .val (.int (103 : Int32)), .val (.int (1 : Int32))] [])) (fun _ k => XS.icmpNo X29.here hx rfl (hb hby at_74) rfl (teq ((if_neg (Fld.ne O_GE O_EQ (own_vne (by decide)))).trans (if_neg (Fld.ne O_GE O_NE (own_vne (by decide)))))).2 k) ?_
    refine own_by (T' := T29) (g' := (mkF m 78 #[.val (.int u), .val (.int (1 : Int32)), .val (.ref a_GE), .val (.int (own_by_ a_GE a_EQ a_NE)), .val (.int (1 : Int32)), .val (.ref t_GE), .val (.int (103 : Int32)), .val (.int (1 : Int32))] [(.int (1 : Int32))])) (fun _ k => XS.iconst X29.here hx rfl (hb hby at_77) k) ?_
    refine own_by (T' := T29) (g' := (mkF m 82 #[.val (.int u), .val (.int (1 : Int32)), .val (.ref a_GE), .val (.int (own_by_ a_GE a_EQ a_NE)), .val (.int (1 : Int32)), .val (.ref t_GE), .val (.int (103 : Int32)), .val (.int (1 : Int32))] [(.int (1 : Int32))])) (fun _ k => XS.goto X29.here hx rfl (pc0 := 78) (pc' := 82) rfl (hb hby at_78) (by decide) (by decide) k) ?_
    refine own_ret X29 hlk (v := some (.int (1 : Int32))) (fun h => by rw [Bd.returns] at h; cases h) (fun fs hr => retN X29 hx (t := .boolean) Bd.returns (by simp) (hb hby at_82) hr) ?_ (by decide) (by decide)
    rw [e29]
    exact ⟨rfl, N29⟩
  · skip
    rw [hq21]
    refine own_by (T' := s₁) (g' := (mkF m 9 #[.val (.int u), .val (.int (2 : Int32)), .unset, .unset, .unset, .unset, .unset, .unset] [(.int (2 : Int32))])) (fun _ k => XS.iloadN X0.here hx rfl (hb hby at_8) rfl k) ?_
    obtain ⟨_, _, ⟨T30, L30, k30, n30⟩, -, X30, ⟨Lc30, hQ30, l30, y30, z30⟩, st30⟩ := Jvm.LawKit.callS X0 hx (y := (⟨"com/example/nisaba/nisaba/item/ComparisonByOrderPinLaw", "pick", "(I)Lcom/example/nisaba/nisaba/item/Comparison;"⟩ : MethodName)) hown (mvT hZ (hw _ (List.mem_of_getElem? (i := 1) rfl))) (mvT hZ (hw _ (List.mem_of_getElem? (i := 2) rfl))) (mvT hZ (hw _ (List.mem_of_getElem? (i := 3) rfl))) (mvT hZ (hw _ (List.mem_of_getElem? (i := 4) rfl))) (by decide) (backOf (W := 0) (rm1 l Z a0 hw [] (2 : Int32) a_GT a_GE a_LT a_LE a_EQ a_NE h0 n0 Z0 S_GT S_GE S_LT S_LE S_EQ S_NE) hZ (hw _ (List.mem_of_getElem? (i := 4) rfl)) (hw _ (List.mem_of_getElem? (i := 3) rfl)) (by decide) (by decide)) (g := (mkF m 9 #[.val (.int u), .val (.int (2 : Int32)), .unset, .unset, .unset, .unset, .unset, .unset] [(.int (2 : Int32))])) rfl (by rw [hml]; rfl) (argsL := [(.int (2 : Int32))]) (rest := []) (lenOf pd_4 rfl) rfl (by show 2 * 0 + _ ≤ _; exact Nat.le_of_eq rfl) (hb hby at_9) (fun _ _ => ⟨rfl, e0, (by decide : 0 + 0 ≤ _), (by decide : 0 + 0 ≤ _)⟩)
    dsimp only [Pt.U, Pt.locs, Pt.cells, Pt.slots] at X30 l30 y30 z30 st30 hQ30
    subst l30 y30 z30
    obtain ⟨rfl, N30q, e30⟩ := hQ30
    have N30 := Fr.app N0 N30q
    refine own_by (T' := T30) (g' := (mkF m 12 #[.val (.int u), .val (.int (2 : Int32)), .unset, .unset, .unset, .unset, .unset, .unset] [(.ref a_LT)])) (fun _ k => st30 _ k) ?_
    refine own_by (T' := T30) (g' := (mkF m 13 #[.val (.int u), .val (.int (2 : Int32)), .val (.ref a_LT), .unset, .unset, .unset, .unset, .unset] [])) (fun _ k => XS.astoreN X30.here hx rfl (hb hby at_12) rfl rfl (l' := #[.val (.int u), .val (.int (2 : Int32)), .val (.ref a_LT), .unset, .unset, .unset, .unset, .unset]) rfl k) ?_
    refine own_by (T' := T30) (g' := (mkF m 14 #[.val (.int u), .val (.int (2 : Int32)), .val (.ref a_LT), .unset, .unset, .unset, .unset, .unset] [(.ref a_LT)])) (fun _ k => XS.aloadN X30.here hx rfl (hb hby at_13) rfl rfl k) ?_
    obtain ⟨cq31, kq31, q31a, q31b, q31c⟩ := isOf hZ e30 E_a_LT
    obtain ⟨_, _, ⟨T31, L31, k31, n31⟩, -, X31, ⟨Lc31, hQ31, l31, y31, z31⟩, st31⟩ := X30.virtualBack hx (y := (⟨"com/example/nisaba/nisaba/item/Comparison", "byOrder", "()Z"⟩ : MethodName)) (z := (⟨"com/example/nisaba/nisaba/item/Comparison", "byOrder", "()Z"⟩ : MethodName)) hown (mvT hZ (hw _ (List.mem_of_getElem? (i := 8) rfl))) (mvT hZ (hw _ (List.mem_of_getElem? (i := 9) rfl))) (notFace_of_selects (args := #[]) (mvT hZ (hw _ (List.mem_of_getElem? (i := 11) rfl)))) (mvT hZ (hw _ (List.mem_of_getElem? (i := 11) rfl))) (mvT hZ (hw _ (List.mem_of_getElem? (i := 10) rfl))) (by decide) (backOf (W := 0) (rm2 l Z a0 hw [] a_LT a_EQ a_NE h0 n0 Z0 S_EQ S_NE) hZ (hw _ (List.mem_of_getElem? (i := 12) rfl)) (hw _ (List.mem_of_getElem? (i := 6) rfl)) (by decide) (by decide)) q31a q31c (g := (mkF m 14 #[.val (.int u), .val (.int (2 : Int32)), .val (.ref a_LT), .unset, .unset, .unset, .unset, .unset] [(.ref a_LT)])) rfl (by rw [hml]; rfl) (Steps.refl _) (argsL := []) (rest := []) (lenOf pd_2 rfl) rfl (by show 2 * 0 + _ ≤ _; exact Nat.le_of_eq rfl) (hb hby at_14) (fun _ _ => ⟨rfl, e30, (by decide : (0 + 0) + 0 ≤ _), (by decide : (0 + 0) + 0 ≤ _)⟩)
    dsimp only [Pt.U, Pt.locs, Pt.cells, Pt.slots] at X31 l31 y31 z31 st31 hQ31
    subst l31 y31 z31
    obtain ⟨rfl, N31q, e31⟩ := hQ31
    have N31 := Fr.app N30 N31q
    refine own_by (T' := T31) (g' := (mkF m 17 #[.val (.int u), .val (.int (2 : Int32)), .val (.ref a_LT), .unset, .unset, .unset, .unset, .unset] [(.int (own_by_ a_LT a_EQ a_NE))])) (fun _ k => st31.trans k) ?_
    refine own_by (T' := T31) (g' := (mkF m 18 #[.val (.int u), .val (.int (2 : Int32)), .val (.ref a_LT), .val (.int (own_by_ a_LT a_EQ a_NE)), .unset, .unset, .unset, .unset] [])) (fun _ k => XS.istoreN X31.here hx rfl (hb hby at_17) rfl (l' := #[.val (.int u), .val (.int (2 : Int32)), .val (.ref a_LT), .val (.int (own_by_ a_LT a_EQ a_NE)), .unset, .unset, .unset, .unset]) rfl k) ?_
    refine own_by (T' := T31) (g' := (mkF m 19 #[.val (.int u), .val (.int (2 : Int32)), .val (.ref a_LT), .val (.int (own_by_ a_LT a_EQ a_NE)), .unset, .unset, .unset, .unset] [(.int (2 : Int32))])) (fun _ k => XS.iloadN X31.here hx rfl (hb hby at_18) rfl k) ?_
    refine own_by (T' := T31) (g' := (mkF m 20 #[.val (.int u), .val (.int (2 : Int32)), .val (.ref a_LT), .val (.int (own_by_ a_LT a_EQ a_NE)), .unset, .unset, .unset, .unset] [(.int (4 : Int32)), (.int (2 : Int32))])) (fun _ k => XS.iconst X31.here hx rfl (hb hby at_19) k) ?_
    refine own_by (T' := T31) (g' := (mkF m 23 #[.val (.int u), .val (.int (2 : Int32)), .val (.ref a_LT), .val (.int (own_by_ a_LT a_EQ a_NE)), .unset, .unset, .unset, .unset] [])) (fun _ k => XS.icmpNo X31.here hx rfl (hb hby at_20) rfl (tlt (by decide)).2.1 k) ?_
    refine own_by (T' := T31) (g' := (mkF m 24 #[.val (.int u), .val (.int (2 : Int32)), .val (.ref a_LT), .val (.int (own_by_ a_LT a_EQ a_NE)), .unset, .unset, .unset, .unset] [(.int (1 : Int32))])) (fun _ k => XS.iconst X31.here hx rfl (hb hby at_23) k) ?_
    refine own_by (T' := T31) (g' := (mkF m 28 #[.val (.int u), .val (.int (2 : Int32)), .val (.ref a_LT), .val (.int (own_by_ a_LT a_EQ a_NE)), .unset, .unset, .unset, .unset] [(.int (1 : Int32))])) (fun _ k => XS.goto X31.here hx rfl (pc0 := 24) (pc' := 28) rfl (hb hby at_24) (by decide) (by decide) k) ?_
    refine own_by (T' := T31) (g' := (mkF m 30 #[.val (.int u), .val (.int (2 : Int32)), .val (.ref a_LT), .val (.int (own_by_ a_LT a_EQ a_NE)), .val (.int (1 : Int32)), .unset, .unset, .unset] [])) (fun _ k => XS.istore X31.here hx rfl (hb hby at_28) rfl (l' := #[.val (.int u), .val (.int (2 : Int32)), .val (.ref a_LT), .val (.int (own_by_ a_LT a_EQ a_NE)), .val (.int (1 : Int32)), .unset, .unset, .unset]) rfl k) ?_
    refine own_by (T' := T31) (g' := (mkF m 31 #[.val (.int u), .val (.int (2 : Int32)), .val (.ref a_LT), .val (.int (own_by_ a_LT a_EQ a_NE)), .val (.int (1 : Int32)), .unset, .unset, .unset] [(.ref a_LT)])) (fun _ k => XS.aloadN X31.here hx rfl (hb hby at_30) rfl rfl k) ?_
    obtain ⟨cq32, kq32, q32a, q32b, q32c⟩ := isOf hZ e31 E_a_LT
    obtain ⟨_, _, ⟨T32, L32, k32, n32⟩, -, X32, ⟨Lc32, hQ32, l32, y32, z32⟩, st32⟩ := X31.virtualBack hx (y := (⟨"com/example/nisaba/nisaba/item/Comparison", "apiName", "()Ljava/lang/String;"⟩ : MethodName)) (z := (⟨"com/example/nisaba/nisaba/item/Comparison", "apiName", "()Ljava/lang/String;"⟩ : MethodName)) hown (mvT hZ (hw _ (List.mem_of_getElem? (i := 17) rfl))) (mvT hZ (hw _ (List.mem_of_getElem? (i := 18) rfl))) (notFace_of_selects (args := #[]) (mvT hZ (hw _ (List.mem_of_getElem? (i := 20) rfl)))) (mvT hZ (hw _ (List.mem_of_getElem? (i := 20) rfl))) (mvT hZ (hw _ (List.mem_of_getElem? (i := 19) rfl))) (by decide) (backOf (W := 0) (rm3 l Z a0 hw [] a_LT t_LT h0 n0 Z0 F_apiName_a_LT) hZ (hw _ (List.mem_of_getElem? (i := 21) rfl)) (hw _ (List.mem_of_getElem? (i := 6) rfl)) (by decide) (by decide)) q32a q32c (g := (mkF m 31 #[.val (.int u), .val (.int (2 : Int32)), .val (.ref a_LT), .val (.int (own_by_ a_LT a_EQ a_NE)), .val (.int (1 : Int32)), .unset, .unset, .unset] [(.ref a_LT)])) rfl (by rw [hml]; rfl) (Steps.refl _) (argsL := []) (rest := []) (lenOf pd_5 rfl) rfl (by show 2 * 0 + _ ≤ _; exact Nat.le_of_eq rfl) (hb hby at_31) (fun _ _ => ⟨rfl, e31, (by decide : ((0 + 0) + 0) + 0 ≤ _), (by decide : ((0 + 0) + 0) + 0 ≤ _)⟩)
    dsimp only [Pt.U, Pt.locs, Pt.cells, Pt.slots] at X32 l32 y32 z32 st32 hQ32
    subst l32 y32 z32
    obtain ⟨rfl, N32q, e32⟩ := hQ32
    have N32 := Fr.app N31 N32q
    refine own_by (T' := T32) (g' := (mkF m 34 #[.val (.int u), .val (.int (2 : Int32)), .val (.ref a_LT), .val (.int (own_by_ a_LT a_EQ a_NE)), .val (.int (1 : Int32)), .unset, .unset, .unset] [(.ref t_LT)])) (fun _ k => st32.trans k) ?_
    refine own_by (T' := T32) (g' := (mkF m 36 #[.val (.int u), .val (.int (2 : Int32)), .val (.ref a_LT), .val (.int (own_by_ a_LT a_EQ a_NE)), .val (.int (1 : Int32)), .val (.ref t_LT), .unset, .unset] [])) (fun _ k => XS.astore X32.here hx rfl (hb hby at_34) rfl rfl (l' := #[.val (.int u), .val (.int (2 : Int32)), .val (.ref a_LT), .val (.int (own_by_ a_LT a_EQ a_NE)), .val (.int (1 : Int32)), .val (.ref t_LT), .unset, .unset]) rfl k) ?_
    refine own_by (T' := T32) (g' := (mkF m 38 #[.val (.int u), .val (.int (2 : Int32)), .val (.ref a_LT), .val (.int (own_by_ a_LT a_EQ a_NE)), .val (.int (1 : Int32)), .val (.ref t_LT), .unset, .unset] [(.ref t_LT)])) (fun _ k => XS.aload X32.here hx rfl (hb hby at_36) rfl rfl k) ?_
    refine own_by (T' := T32) (g' := (mkF m 39 #[.val (.int u), .val (.int (2 : Int32)), .val (.ref a_LT), .val (.int (own_by_ a_LT a_EQ a_NE)), .val (.int (1 : Int32)), .val (.ref t_LT), .unset, .unset] [(.int (0 : Int32)), (.ref t_LT)])) (fun _ k => XS.iconst X32.here hx rfl (hb hby at_38) k) ?_
    obtain ⟨cq33, kq33, q33a, q33b, q33c⟩ := isOf hZ e32 E_t_LT
    obtain ⟨_, _, ⟨T33, L33, k33, n33⟩, -, X33, ⟨Lc33, hQ33, l33, y33, z33⟩, st33⟩ := X32.virtualBack hx (y := (⟨"java/lang/String", "charAt", "(I)C"⟩ : MethodName)) (z := (⟨"java/lang/String", "charAt", "(I)C"⟩ : MethodName)) hown (mvT hZ (hw _ (List.mem_of_getElem? (i := 24) rfl))) (mvT hZ (hw _ (List.mem_of_getElem? (i := 25) rfl))) (notFace_of_selects (args := #[]) (mvT hZ (hw _ (List.mem_of_getElem? (i := 27) rfl)))) (mvT hZ (hw _ (List.mem_of_getElem? (i := 27) rfl))) (mvT hZ (hw _ (List.mem_of_getElem? (i := 26) rfl))) (by decide) (backOf (W := 0) (rm4 l Z a0 hw [] t_LT r_LT k_LT (108 : Int32) (116 : Int32) cs sf h0 n0 Z0 E_t_LT F_coder_t_LT F_value_t_LT V_r_LT S_CS hcs hsf S_SF) hZ (hw _ (List.mem_of_getElem? (i := 29) rfl)) (hw _ (List.mem_of_getElem? (i := 28) rfl)) (by decide) (by decide)) q33a q33c (g := (mkF m 39 #[.val (.int u), .val (.int (2 : Int32)), .val (.ref a_LT), .val (.int (own_by_ a_LT a_EQ a_NE)), .val (.int (1 : Int32)), .val (.ref t_LT), .unset, .unset] [(.int (0 : Int32)), (.ref t_LT)])) rfl (by rw [hml]; rfl) (Steps.refl _) (argsL := [(.int (0 : Int32))]) (rest := []) (lenOf pd_6 rfl) rfl (by show 2 * 0 + _ ≤ _; exact Nat.le_of_eq rfl) (hb hby at_39) (fun _ _ => ⟨rfl, e32, (by decide : (((0 + 0) + 0) + 0) + 0 ≤ _), (by decide : (((0 + 0) + 0) + 0) + 0 ≤ _)⟩)
    dsimp only [Pt.U, Pt.locs, Pt.cells, Pt.slots] at X33 l33 y33 z33 st33 hQ33
    subst l33 y33 z33
    obtain ⟨rfl, N33q, e33⟩ := hQ33
    have N33 := Fr.app N32 N33q
    refine own_by (T' := T33) (g' := (mkF m 42 #[.val (.int u), .val (.int (2 : Int32)), .val (.ref a_LT), .val (.int (own_by_ a_LT a_EQ a_NE)), .val (.int (1 : Int32)), .val (.ref t_LT), .unset, .unset] [(.int (108 : Int32))])) (fun _ k => st33.trans k) ?_
    refine own_by (T' := T33) (g' := (mkF m 44 #[.val (.int u), .val (.int (2 : Int32)), .val (.ref a_LT), .val (.int (own_by_ a_LT a_EQ a_NE)), .val (.int (1 : Int32)), .val (.ref t_LT), .val (.int (108 : Int32)), .unset] [])) (fun _ k => XS.istore X33.here hx rfl (hb hby at_42) rfl (l' := #[.val (.int u), .val (.int (2 : Int32)), .val (.ref a_LT), .val (.int (own_by_ a_LT a_EQ a_NE)), .val (.int (1 : Int32)), .val (.ref t_LT), .val (.int (108 : Int32)), .unset]) rfl k) ?_
    refine own_by (T' := T33) (g' := (mkF m 46 #[.val (.int u), .val (.int (2 : Int32)), .val (.ref a_LT), .val (.int (own_by_ a_LT a_EQ a_NE)), .val (.int (1 : Int32)), .val (.ref t_LT), .val (.int (108 : Int32)), .unset] [(.int (108 : Int32))])) (fun _ k => XS.iload X33.here hx rfl (hb hby at_44) rfl k) ?_
    refine own_by (T' := T33) (g' := (mkF m 48 #[.val (.int u), .val (.int (2 : Int32)), .val (.ref a_LT), .val (.int (own_by_ a_LT a_EQ a_NE)), .val (.int (1 : Int32)), .val (.ref t_LT), .val (.int (108 : Int32)), .unset] [(.int (103 : Int32)), (.int (108 : Int32))])) (fun _ k => XS.bipush X33.here hx rfl (hb hby at_46) k) ?_
    refine own_by (T' := T33) (g' := (mkF m 51 #[.val (.int u), .val (.int (2 : Int32)), .val (.ref a_LT), .val (.int (own_by_ a_LT a_EQ a_NE)), .val (.int (1 : Int32)), .val (.ref t_LT), .val (.int (108 : Int32)), .unset] [])) (fun _ k => XS.icmpNo X33.here hx rfl (hb hby at_48) rfl (feq (by decide)).1 k) ?_
    refine own_by (T' := T33) (g' := (mkF m 53 #[.val (.int u), .val (.int (2 : Int32)), .val (.ref a_LT), .val (.int (own_by_ a_LT a_EQ a_NE)), .val (.int (1 : Int32)), .val (.ref t_LT), .val (.int (108 : Int32)), .unset] [(.int (108 : Int32))])) (fun _ k => XS.iload X33.here hx rfl (hb hby at_51) rfl k) ?_
    refine own_by (T' := T33) (g' := (mkF m 55 #[.val (.int u), .val (.int (2 : Int32)), .val (.ref a_LT), .val (.int (own_by_ a_LT a_EQ a_NE)), .val (.int (1 : Int32)), .val (.ref t_LT), .val (.int (108 : Int32)), .unset] [(.int (108 : Int32)), (.int (108 : Int32))])) (fun _ k => XS.bipush X33.here hx rfl (hb hby at_53) k) ?_
    refine own_by (T' := T33) (g' := (mkF m 58 #[.val (.int u), .val (.int (2 : Int32)), .val (.ref a_LT), .val (.int (own_by_ a_LT a_EQ a_NE)), .val (.int (1 : Int32)), .val (.ref t_LT), .val (.int (108 : Int32)), .unset] [])) (fun _ k => XS.icmpNo X33.here hx rfl (hb hby at_55) rfl (teq (by decide)).2 k) ?_
    refine own_by (T' := T33) (g' := (mkF m 59 #[.val (.int u), .val (.int (2 : Int32)), .val (.ref a_LT), .val (.int (own_by_ a_LT a_EQ a_NE)), .val (.int (1 : Int32)), .val (.ref t_LT), .val (.int (108 : Int32)), .unset] [(.int (1 : Int32))])) (fun _ k => XS.iconst X33.here hx rfl (hb hby at_58) k) ?_
    refine own_by (T' := T33) (g' := (mkF m 63 #[.val (.int u), .val (.int (2 : Int32)), .val (.ref a_LT), .val (.int (own_by_ a_LT a_EQ a_NE)), .val (.int (1 : Int32)), .val (.ref t_LT), .val (.int (108 : Int32)), .unset] [(.int (1 : Int32))])) (fun _ k => XS.goto X33.here hx rfl (pc0 := 59) (pc' := 63) rfl (hb hby at_59) (by decide) (by decide) k) ?_
    refine own_by (T' := T33) (g' := (mkF m 65 #[.val (.int u), .val (.int (2 : Int32)), .val (.ref a_LT), .val (.int (own_by_ a_LT a_EQ a_NE)), .val (.int (1 : Int32)), .val (.ref t_LT), .val (.int (108 : Int32)), .val (.int (1 : Int32))] [])) (fun _ k => XS.istore X33.here hx rfl (hb hby at_63) rfl (l' := #[.val (.int u), .val (.int (2 : Int32)), .val (.ref a_LT), .val (.int (own_by_ a_LT a_EQ a_NE)), .val (.int (1 : Int32)), .val (.ref t_LT), .val (.int (108 : Int32)), .val (.int (1 : Int32))]) rfl k) ?_
    refine own_by (T' := T33) (g' := (mkF m 66 #[.val (.int u), .val (.int (2 : Int32)), .val (.ref a_LT), .val (.int (own_by_ a_LT a_EQ a_NE)), .val (.int (1 : Int32)), .val (.ref t_LT), .val (.int (108 : Int32)), .val (.int (1 : Int32))] [(.int (own_by_ a_LT a_EQ a_NE))])) (fun _ k => XS.iloadN X33.here hx rfl (hb hby at_65) rfl k) ?_
    refine own_by (T' := T33) (g' := (mkF m 68 #[.val (.int u), .val (.int (2 : Int32)), .val (.ref a_LT), .val (.int (own_by_ a_LT a_EQ a_NE)), .val (.int (1 : Int32)), .val (.ref t_LT), .val (.int (108 : Int32)), .val (.int (1 : Int32))] [(.int (1 : Int32)), (.int (own_by_ a_LT a_EQ a_NE))])) (fun _ k => XS.iload X33.here hx rfl (hb hby at_66) rfl k) ?_
    refine own_by (T' := T33) (g' := (mkF m 71 #[.val (.int u), .val (.int (2 : Int32)), .val (.ref a_LT), .val (.int (own_by_ a_LT a_EQ a_NE)), .val (.int (1 : Int32)), .val (.ref t_LT), .val (.int (108 : Int32)), .val (.int (1 : Int32))] [])) (fun _ k => XS.icmpNo X33.here hx rfl (hb hby at_68) rfl (teq ((if_neg (Fld.ne O_LT O_EQ (own_vne (by decide)))).trans (if_neg (Fld.ne O_LT O_NE (own_vne (by decide)))))).2 k) ?_
    refine own_by (T' := T33) (g' := (mkF m 72 #[.val (.int u), .val (.int (2 : Int32)), .val (.ref a_LT), .val (.int (own_by_ a_LT a_EQ a_NE)), .val (.int (1 : Int32)), .val (.ref t_LT), .val (.int (108 : Int32)), .val (.int (1 : Int32))] [(.int (own_by_ a_LT a_EQ a_NE))])) (fun _ k => XS.iloadN X33.here hx rfl (hb hby at_71) rfl k) ?_
    refine own_by (T' := T33) (g' := (mkF m 74 #[.val (.int u), .val (.int (2 : Int32)), .val (.ref a_LT), .val (.int (own_by_ a_LT a_EQ a_NE)), .val (.int (1 : Int32)), .val (.ref t_LT), .val (.int (108 : Int32)), .val (.int (1 : Int32))] [(.int (1 : Int32)), (.int (own_by_ a_LT a_EQ a_NE))])) (fun _ k => XS.iload X33.here hx rfl (hb hby at_72) rfl k) ?_
    refine own_by (T' := T33) (g' := (mkF m 77 #[.val (.int u), .val (.int (2 : Int32)), .val (.ref a_LT), .val (.int (own_by_ a_LT a_EQ a_NE)), .val (.int (1 : Int32)), .val (.ref t_LT), .val (.int (108 : Int32)), .val (.int (1 : Int32))] [])) (fun _ k => XS.icmpNo X33.here hx rfl (hb hby at_74) rfl (teq ((if_neg (Fld.ne O_LT O_EQ (own_vne (by decide)))).trans (if_neg (Fld.ne O_LT O_NE (own_vne (by decide)))))).2 k) ?_
    refine own_by (T' := T33) (g' := (mkF m 78 #[.val (.int u), .val (.int (2 : Int32)), .val (.ref a_LT), .val (.int (own_by_ a_LT a_EQ a_NE)), .val (.int (1 : Int32)), .val (.ref t_LT), .val (.int (108 : Int32)), .val (.int (1 : Int32))] [(.int (1 : Int32))])) (fun _ k => XS.iconst X33.here hx rfl (hb hby at_77) k) ?_
    refine own_by (T' := T33) (g' := (mkF m 82 #[.val (.int u), .val (.int (2 : Int32)), .val (.ref a_LT), .val (.int (own_by_ a_LT a_EQ a_NE)), .val (.int (1 : Int32)), .val (.ref t_LT), .val (.int (108 : Int32)), .val (.int (1 : Int32))] [(.int (1 : Int32))])) (fun _ k => XS.goto X33.here hx rfl (pc0 := 78) (pc' := 82) rfl (hb hby at_78) (by decide) (by decide) k) ?_
    refine own_ret X33 hlk (v := some (.int (1 : Int32))) (fun h => by rw [Bd.returns] at h; cases h) (fun fs hr => retN X33 hx (t := .boolean) Bd.returns (by simp) (hb hby at_82) hr) ?_ (by decide) (by decide)
    rw [e33]
    exact ⟨rfl, N33⟩
  · skip
    rw [hq21]
    refine own_by (T' := s₁) (g' := (mkF m 9 #[.val (.int u), .val (.int (3 : Int32)), .unset, .unset, .unset, .unset, .unset, .unset] [(.int (3 : Int32))])) (fun _ k => XS.iloadN X0.here hx rfl (hb hby at_8) rfl k) ?_
    obtain ⟨_, _, ⟨T34, L34, k34, n34⟩, -, X34, ⟨Lc34, hQ34, l34, y34, z34⟩, st34⟩ := Jvm.LawKit.callS X0 hx (y := (⟨"com/example/nisaba/nisaba/item/ComparisonByOrderPinLaw", "pick", "(I)Lcom/example/nisaba/nisaba/item/Comparison;"⟩ : MethodName)) hown (mvT hZ (hw _ (List.mem_of_getElem? (i := 1) rfl))) (mvT hZ (hw _ (List.mem_of_getElem? (i := 2) rfl))) (mvT hZ (hw _ (List.mem_of_getElem? (i := 3) rfl))) (mvT hZ (hw _ (List.mem_of_getElem? (i := 4) rfl))) (by decide) (backOf (W := 0) (rm1 l Z a0 hw [] (3 : Int32) a_GT a_GE a_LT a_LE a_EQ a_NE h0 n0 Z0 S_GT S_GE S_LT S_LE S_EQ S_NE) hZ (hw _ (List.mem_of_getElem? (i := 4) rfl)) (hw _ (List.mem_of_getElem? (i := 3) rfl)) (by decide) (by decide)) (g := (mkF m 9 #[.val (.int u), .val (.int (3 : Int32)), .unset, .unset, .unset, .unset, .unset, .unset] [(.int (3 : Int32))])) rfl (by rw [hml]; rfl) (argsL := [(.int (3 : Int32))]) (rest := []) (lenOf pd_4 rfl) rfl (by show 2 * 0 + _ ≤ _; exact Nat.le_of_eq rfl) (hb hby at_9) (fun _ _ => ⟨rfl, e0, (by decide : 0 + 0 ≤ _), (by decide : 0 + 0 ≤ _)⟩)
    dsimp only [Pt.U, Pt.locs, Pt.cells, Pt.slots] at X34 l34 y34 z34 st34 hQ34
    subst l34 y34 z34
    obtain ⟨rfl, N34q, e34⟩ := hQ34
    have N34 := Fr.app N0 N34q
    refine own_by (T' := T34) (g' := (mkF m 12 #[.val (.int u), .val (.int (3 : Int32)), .unset, .unset, .unset, .unset, .unset, .unset] [(.ref a_LE)])) (fun _ k => st34 _ k) ?_
    refine own_by (T' := T34) (g' := (mkF m 13 #[.val (.int u), .val (.int (3 : Int32)), .val (.ref a_LE), .unset, .unset, .unset, .unset, .unset] [])) (fun _ k => XS.astoreN X34.here hx rfl (hb hby at_12) rfl rfl (l' := #[.val (.int u), .val (.int (3 : Int32)), .val (.ref a_LE), .unset, .unset, .unset, .unset, .unset]) rfl k) ?_
    refine own_by (T' := T34) (g' := (mkF m 14 #[.val (.int u), .val (.int (3 : Int32)), .val (.ref a_LE), .unset, .unset, .unset, .unset, .unset] [(.ref a_LE)])) (fun _ k => XS.aloadN X34.here hx rfl (hb hby at_13) rfl rfl k) ?_
    obtain ⟨cq35, kq35, q35a, q35b, q35c⟩ := isOf hZ e34 E_a_LE
    obtain ⟨_, _, ⟨T35, L35, k35, n35⟩, -, X35, ⟨Lc35, hQ35, l35, y35, z35⟩, st35⟩ := X34.virtualBack hx (y := (⟨"com/example/nisaba/nisaba/item/Comparison", "byOrder", "()Z"⟩ : MethodName)) (z := (⟨"com/example/nisaba/nisaba/item/Comparison", "byOrder", "()Z"⟩ : MethodName)) hown (mvT hZ (hw _ (List.mem_of_getElem? (i := 8) rfl))) (mvT hZ (hw _ (List.mem_of_getElem? (i := 9) rfl))) (notFace_of_selects (args := #[]) (mvT hZ (hw _ (List.mem_of_getElem? (i := 11) rfl)))) (mvT hZ (hw _ (List.mem_of_getElem? (i := 11) rfl))) (mvT hZ (hw _ (List.mem_of_getElem? (i := 10) rfl))) (by decide) (backOf (W := 0) (rm2 l Z a0 hw [] a_LE a_EQ a_NE h0 n0 Z0 S_EQ S_NE) hZ (hw _ (List.mem_of_getElem? (i := 12) rfl)) (hw _ (List.mem_of_getElem? (i := 6) rfl)) (by decide) (by decide)) q35a q35c (g := (mkF m 14 #[.val (.int u), .val (.int (3 : Int32)), .val (.ref a_LE), .unset, .unset, .unset, .unset, .unset] [(.ref a_LE)])) rfl (by rw [hml]; rfl) (Steps.refl _) (argsL := []) (rest := []) (lenOf pd_2 rfl) rfl (by show 2 * 0 + _ ≤ _; exact Nat.le_of_eq rfl) (hb hby at_14) (fun _ _ => ⟨rfl, e34, (by decide : (0 + 0) + 0 ≤ _), (by decide : (0 + 0) + 0 ≤ _)⟩)
    dsimp only [Pt.U, Pt.locs, Pt.cells, Pt.slots] at X35 l35 y35 z35 st35 hQ35
    subst l35 y35 z35
    obtain ⟨rfl, N35q, e35⟩ := hQ35
    have N35 := Fr.app N34 N35q
    refine own_by (T' := T35) (g' := (mkF m 17 #[.val (.int u), .val (.int (3 : Int32)), .val (.ref a_LE), .unset, .unset, .unset, .unset, .unset] [(.int (own_by_ a_LE a_EQ a_NE))])) (fun _ k => st35.trans k) ?_
    refine own_by (T' := T35) (g' := (mkF m 18 #[.val (.int u), .val (.int (3 : Int32)), .val (.ref a_LE), .val (.int (own_by_ a_LE a_EQ a_NE)), .unset, .unset, .unset, .unset] [])) (fun _ k => XS.istoreN X35.here hx rfl (hb hby at_17) rfl (l' := #[.val (.int u), .val (.int (3 : Int32)), .val (.ref a_LE), .val (.int (own_by_ a_LE a_EQ a_NE)), .unset, .unset, .unset, .unset]) rfl k) ?_
    refine own_by (T' := T35) (g' := (mkF m 19 #[.val (.int u), .val (.int (3 : Int32)), .val (.ref a_LE), .val (.int (own_by_ a_LE a_EQ a_NE)), .unset, .unset, .unset, .unset] [(.int (3 : Int32))])) (fun _ k => XS.iloadN X35.here hx rfl (hb hby at_18) rfl k) ?_
    refine own_by (T' := T35) (g' := (mkF m 20 #[.val (.int u), .val (.int (3 : Int32)), .val (.ref a_LE), .val (.int (own_by_ a_LE a_EQ a_NE)), .unset, .unset, .unset, .unset] [(.int (4 : Int32)), (.int (3 : Int32))])) (fun _ k => XS.iconst X35.here hx rfl (hb hby at_19) k) ?_
    refine own_by (T' := T35) (g' := (mkF m 23 #[.val (.int u), .val (.int (3 : Int32)), .val (.ref a_LE), .val (.int (own_by_ a_LE a_EQ a_NE)), .unset, .unset, .unset, .unset] [])) (fun _ k => XS.icmpNo X35.here hx rfl (hb hby at_20) rfl (tlt (by decide)).2.1 k) ?_
    refine own_by (T' := T35) (g' := (mkF m 24 #[.val (.int u), .val (.int (3 : Int32)), .val (.ref a_LE), .val (.int (own_by_ a_LE a_EQ a_NE)), .unset, .unset, .unset, .unset] [(.int (1 : Int32))])) (fun _ k => XS.iconst X35.here hx rfl (hb hby at_23) k) ?_
    refine own_by (T' := T35) (g' := (mkF m 28 #[.val (.int u), .val (.int (3 : Int32)), .val (.ref a_LE), .val (.int (own_by_ a_LE a_EQ a_NE)), .unset, .unset, .unset, .unset] [(.int (1 : Int32))])) (fun _ k => XS.goto X35.here hx rfl (pc0 := 24) (pc' := 28) rfl (hb hby at_24) (by decide) (by decide) k) ?_
    refine own_by (T' := T35) (g' := (mkF m 30 #[.val (.int u), .val (.int (3 : Int32)), .val (.ref a_LE), .val (.int (own_by_ a_LE a_EQ a_NE)), .val (.int (1 : Int32)), .unset, .unset, .unset] [])) (fun _ k => XS.istore X35.here hx rfl (hb hby at_28) rfl (l' := #[.val (.int u), .val (.int (3 : Int32)), .val (.ref a_LE), .val (.int (own_by_ a_LE a_EQ a_NE)), .val (.int (1 : Int32)), .unset, .unset, .unset]) rfl k) ?_
    refine own_by (T' := T35) (g' := (mkF m 31 #[.val (.int u), .val (.int (3 : Int32)), .val (.ref a_LE), .val (.int (own_by_ a_LE a_EQ a_NE)), .val (.int (1 : Int32)), .unset, .unset, .unset] [(.ref a_LE)])) (fun _ k => XS.aloadN X35.here hx rfl (hb hby at_30) rfl rfl k) ?_
    obtain ⟨cq36, kq36, q36a, q36b, q36c⟩ := isOf hZ e35 E_a_LE
    obtain ⟨_, _, ⟨T36, L36, k36, n36⟩, -, X36, ⟨Lc36, hQ36, l36, y36, z36⟩, st36⟩ := X35.virtualBack hx (y := (⟨"com/example/nisaba/nisaba/item/Comparison", "apiName", "()Ljava/lang/String;"⟩ : MethodName)) (z := (⟨"com/example/nisaba/nisaba/item/Comparison", "apiName", "()Ljava/lang/String;"⟩ : MethodName)) hown (mvT hZ (hw _ (List.mem_of_getElem? (i := 17) rfl))) (mvT hZ (hw _ (List.mem_of_getElem? (i := 18) rfl))) (notFace_of_selects (args := #[]) (mvT hZ (hw _ (List.mem_of_getElem? (i := 20) rfl)))) (mvT hZ (hw _ (List.mem_of_getElem? (i := 20) rfl))) (mvT hZ (hw _ (List.mem_of_getElem? (i := 19) rfl))) (by decide) (backOf (W := 0) (rm3 l Z a0 hw [] a_LE t_LE h0 n0 Z0 F_apiName_a_LE) hZ (hw _ (List.mem_of_getElem? (i := 21) rfl)) (hw _ (List.mem_of_getElem? (i := 6) rfl)) (by decide) (by decide)) q36a q36c (g := (mkF m 31 #[.val (.int u), .val (.int (3 : Int32)), .val (.ref a_LE), .val (.int (own_by_ a_LE a_EQ a_NE)), .val (.int (1 : Int32)), .unset, .unset, .unset] [(.ref a_LE)])) rfl (by rw [hml]; rfl) (Steps.refl _) (argsL := []) (rest := []) (lenOf pd_5 rfl) rfl (by show 2 * 0 + _ ≤ _; exact Nat.le_of_eq rfl) (hb hby at_31) (fun _ _ => ⟨rfl, e35, (by decide : ((0 + 0) + 0) + 0 ≤ _), (by decide : ((0 + 0) + 0) + 0 ≤ _)⟩)
    dsimp only [Pt.U, Pt.locs, Pt.cells, Pt.slots] at X36 l36 y36 z36 st36 hQ36
    subst l36 y36 z36
    obtain ⟨rfl, N36q, e36⟩ := hQ36
    have N36 := Fr.app N35 N36q
    refine own_by (T' := T36) (g' := (mkF m 34 #[.val (.int u), .val (.int (3 : Int32)), .val (.ref a_LE), .val (.int (own_by_ a_LE a_EQ a_NE)), .val (.int (1 : Int32)), .unset, .unset, .unset] [(.ref t_LE)])) (fun _ k => st36.trans k) ?_
    refine own_by (T' := T36) (g' := (mkF m 36 #[.val (.int u), .val (.int (3 : Int32)), .val (.ref a_LE), .val (.int (own_by_ a_LE a_EQ a_NE)), .val (.int (1 : Int32)), .val (.ref t_LE), .unset, .unset] [])) (fun _ k => XS.astore X36.here hx rfl (hb hby at_34) rfl rfl (l' := #[.val (.int u), .val (.int (3 : Int32)), .val (.ref a_LE), .val (.int (own_by_ a_LE a_EQ a_NE)), .val (.int (1 : Int32)), .val (.ref t_LE), .unset, .unset]) rfl k) ?_
    refine own_by (T' := T36) (g' := (mkF m 38 #[.val (.int u), .val (.int (3 : Int32)), .val (.ref a_LE), .val (.int (own_by_ a_LE a_EQ a_NE)), .val (.int (1 : Int32)), .val (.ref t_LE), .unset, .unset] [(.ref t_LE)])) (fun _ k => XS.aload X36.here hx rfl (hb hby at_36) rfl rfl k) ?_
    refine own_by (T' := T36) (g' := (mkF m 39 #[.val (.int u), .val (.int (3 : Int32)), .val (.ref a_LE), .val (.int (own_by_ a_LE a_EQ a_NE)), .val (.int (1 : Int32)), .val (.ref t_LE), .unset, .unset] [(.int (0 : Int32)), (.ref t_LE)])) (fun _ k => XS.iconst X36.here hx rfl (hb hby at_38) k) ?_
    obtain ⟨cq37, kq37, q37a, q37b, q37c⟩ := isOf hZ e36 E_t_LE
    obtain ⟨_, _, ⟨T37, L37, k37, n37⟩, -, X37, ⟨Lc37, hQ37, l37, y37, z37⟩, st37⟩ := X36.virtualBack hx (y := (⟨"java/lang/String", "charAt", "(I)C"⟩ : MethodName)) (z := (⟨"java/lang/String", "charAt", "(I)C"⟩ : MethodName)) hown (mvT hZ (hw _ (List.mem_of_getElem? (i := 24) rfl))) (mvT hZ (hw _ (List.mem_of_getElem? (i := 25) rfl))) (notFace_of_selects (args := #[]) (mvT hZ (hw _ (List.mem_of_getElem? (i := 27) rfl)))) (mvT hZ (hw _ (List.mem_of_getElem? (i := 27) rfl))) (mvT hZ (hw _ (List.mem_of_getElem? (i := 26) rfl))) (by decide) (backOf (W := 0) (rm4 l Z a0 hw [] t_LE r_LE k_LE (108 : Int32) (101 : Int32) cs sf h0 n0 Z0 E_t_LE F_coder_t_LE F_value_t_LE V_r_LE S_CS hcs hsf S_SF) hZ (hw _ (List.mem_of_getElem? (i := 29) rfl)) (hw _ (List.mem_of_getElem? (i := 28) rfl)) (by decide) (by decide)) q37a q37c (g := (mkF m 39 #[.val (.int u), .val (.int (3 : Int32)), .val (.ref a_LE), .val (.int (own_by_ a_LE a_EQ a_NE)), .val (.int (1 : Int32)), .val (.ref t_LE), .unset, .unset] [(.int (0 : Int32)), (.ref t_LE)])) rfl (by rw [hml]; rfl) (Steps.refl _) (argsL := [(.int (0 : Int32))]) (rest := []) (lenOf pd_6 rfl) rfl (by show 2 * 0 + _ ≤ _; exact Nat.le_of_eq rfl) (hb hby at_39) (fun _ _ => ⟨rfl, e36, (by decide : (((0 + 0) + 0) + 0) + 0 ≤ _), (by decide : (((0 + 0) + 0) + 0) + 0 ≤ _)⟩)
    dsimp only [Pt.U, Pt.locs, Pt.cells, Pt.slots] at X37 l37 y37 z37 st37 hQ37
    subst l37 y37 z37
    obtain ⟨rfl, N37q, e37⟩ := hQ37
    have N37 := Fr.app N36 N37q
    refine own_by (T' := T37) (g' := (mkF m 42 #[.val (.int u), .val (.int (3 : Int32)), .val (.ref a_LE), .val (.int (own_by_ a_LE a_EQ a_NE)), .val (.int (1 : Int32)), .val (.ref t_LE), .unset, .unset] [(.int (108 : Int32))])) (fun _ k => st37.trans k) ?_
    refine own_by (T' := T37) (g' := (mkF m 44 #[.val (.int u), .val (.int (3 : Int32)), .val (.ref a_LE), .val (.int (own_by_ a_LE a_EQ a_NE)), .val (.int (1 : Int32)), .val (.ref t_LE), .val (.int (108 : Int32)), .unset] [])) (fun _ k => XS.istore X37.here hx rfl (hb hby at_42) rfl (l' := #[.val (.int u), .val (.int (3 : Int32)), .val (.ref a_LE), .val (.int (own_by_ a_LE a_EQ a_NE)), .val (.int (1 : Int32)), .val (.ref t_LE), .val (.int (108 : Int32)), .unset]) rfl k) ?_
    refine own_by (T' := T37) (g' := (mkF m 46 #[.val (.int u), .val (.int (3 : Int32)), .val (.ref a_LE), .val (.int (own_by_ a_LE a_EQ a_NE)), .val (.int (1 : Int32)), .val (.ref t_LE), .val (.int (108 : Int32)), .unset] [(.int (108 : Int32))])) (fun _ k => XS.iload X37.here hx rfl (hb hby at_44) rfl k) ?_
    refine own_by (T' := T37) (g' := (mkF m 48 #[.val (.int u), .val (.int (3 : Int32)), .val (.ref a_LE), .val (.int (own_by_ a_LE a_EQ a_NE)), .val (.int (1 : Int32)), .val (.ref t_LE), .val (.int (108 : Int32)), .unset] [(.int (103 : Int32)), (.int (108 : Int32))])) (fun _ k => XS.bipush X37.here hx rfl (hb hby at_46) k) ?_
    refine own_by (T' := T37) (g' := (mkF m 51 #[.val (.int u), .val (.int (3 : Int32)), .val (.ref a_LE), .val (.int (own_by_ a_LE a_EQ a_NE)), .val (.int (1 : Int32)), .val (.ref t_LE), .val (.int (108 : Int32)), .unset] [])) (fun _ k => XS.icmpNo X37.here hx rfl (hb hby at_48) rfl (feq (by decide)).1 k) ?_
    refine own_by (T' := T37) (g' := (mkF m 53 #[.val (.int u), .val (.int (3 : Int32)), .val (.ref a_LE), .val (.int (own_by_ a_LE a_EQ a_NE)), .val (.int (1 : Int32)), .val (.ref t_LE), .val (.int (108 : Int32)), .unset] [(.int (108 : Int32))])) (fun _ k => XS.iload X37.here hx rfl (hb hby at_51) rfl k) ?_
    refine own_by (T' := T37) (g' := (mkF m 55 #[.val (.int u), .val (.int (3 : Int32)), .val (.ref a_LE), .val (.int (own_by_ a_LE a_EQ a_NE)), .val (.int (1 : Int32)), .val (.ref t_LE), .val (.int (108 : Int32)), .unset] [(.int (108 : Int32)), (.int (108 : Int32))])) (fun _ k => XS.bipush X37.here hx rfl (hb hby at_53) k) ?_
    refine own_by (T' := T37) (g' := (mkF m 58 #[.val (.int u), .val (.int (3 : Int32)), .val (.ref a_LE), .val (.int (own_by_ a_LE a_EQ a_NE)), .val (.int (1 : Int32)), .val (.ref t_LE), .val (.int (108 : Int32)), .unset] [])) (fun _ k => XS.icmpNo X37.here hx rfl (hb hby at_55) rfl (teq (by decide)).2 k) ?_
    refine own_by (T' := T37) (g' := (mkF m 59 #[.val (.int u), .val (.int (3 : Int32)), .val (.ref a_LE), .val (.int (own_by_ a_LE a_EQ a_NE)), .val (.int (1 : Int32)), .val (.ref t_LE), .val (.int (108 : Int32)), .unset] [(.int (1 : Int32))])) (fun _ k => XS.iconst X37.here hx rfl (hb hby at_58) k) ?_
    refine own_by (T' := T37) (g' := (mkF m 63 #[.val (.int u), .val (.int (3 : Int32)), .val (.ref a_LE), .val (.int (own_by_ a_LE a_EQ a_NE)), .val (.int (1 : Int32)), .val (.ref t_LE), .val (.int (108 : Int32)), .unset] [(.int (1 : Int32))])) (fun _ k => XS.goto X37.here hx rfl (pc0 := 59) (pc' := 63) rfl (hb hby at_59) (by decide) (by decide) k) ?_
    refine own_by (T' := T37) (g' := (mkF m 65 #[.val (.int u), .val (.int (3 : Int32)), .val (.ref a_LE), .val (.int (own_by_ a_LE a_EQ a_NE)), .val (.int (1 : Int32)), .val (.ref t_LE), .val (.int (108 : Int32)), .val (.int (1 : Int32))] [])) (fun _ k => XS.istore X37.here hx rfl (hb hby at_63) rfl (l' := #[.val (.int u), .val (.int (3 : Int32)), .val (.ref a_LE), .val (.int (own_by_ a_LE a_EQ a_NE)), .val (.int (1 : Int32)), .val (.ref t_LE), .val (.int (108 : Int32)), .val (.int (1 : Int32))]) rfl k) ?_
    refine own_by (T' := T37) (g' := (mkF m 66 #[.val (.int u), .val (.int (3 : Int32)), .val (.ref a_LE), .val (.int (own_by_ a_LE a_EQ a_NE)), .val (.int (1 : Int32)), .val (.ref t_LE), .val (.int (108 : Int32)), .val (.int (1 : Int32))] [(.int (own_by_ a_LE a_EQ a_NE))])) (fun _ k => XS.iloadN X37.here hx rfl (hb hby at_65) rfl k) ?_
    refine own_by (T' := T37) (g' := (mkF m 68 #[.val (.int u), .val (.int (3 : Int32)), .val (.ref a_LE), .val (.int (own_by_ a_LE a_EQ a_NE)), .val (.int (1 : Int32)), .val (.ref t_LE), .val (.int (108 : Int32)), .val (.int (1 : Int32))] [(.int (1 : Int32)), (.int (own_by_ a_LE a_EQ a_NE))])) (fun _ k => XS.iload X37.here hx rfl (hb hby at_66) rfl k) ?_
    refine own_by (T' := T37) (g' := (mkF m 71 #[.val (.int u), .val (.int (3 : Int32)), .val (.ref a_LE), .val (.int (own_by_ a_LE a_EQ a_NE)), .val (.int (1 : Int32)), .val (.ref t_LE), .val (.int (108 : Int32)), .val (.int (1 : Int32))] [])) (fun _ k => XS.icmpNo X37.here hx rfl (hb hby at_68) rfl (teq ((if_neg (Fld.ne O_LE O_EQ (own_vne (by decide)))).trans (if_neg (Fld.ne O_LE O_NE (own_vne (by decide)))))).2 k) ?_
    refine own_by (T' := T37) (g' := (mkF m 72 #[.val (.int u), .val (.int (3 : Int32)), .val (.ref a_LE), .val (.int (own_by_ a_LE a_EQ a_NE)), .val (.int (1 : Int32)), .val (.ref t_LE), .val (.int (108 : Int32)), .val (.int (1 : Int32))] [(.int (own_by_ a_LE a_EQ a_NE))])) (fun _ k => XS.iloadN X37.here hx rfl (hb hby at_71) rfl k) ?_
    refine own_by (T' := T37) (g' := (mkF m 74 #[.val (.int u), .val (.int (3 : Int32)), .val (.ref a_LE), .val (.int (own_by_ a_LE a_EQ a_NE)), .val (.int (1 : Int32)), .val (.ref t_LE), .val (.int (108 : Int32)), .val (.int (1 : Int32))] [(.int (1 : Int32)), (.int (own_by_ a_LE a_EQ a_NE))])) (fun _ k => XS.iload X37.here hx rfl (hb hby at_72) rfl k) ?_
    refine own_by (T' := T37) (g' := (mkF m 77 #[.val (.int u), .val (.int (3 : Int32)), .val (.ref a_LE), .val (.int (own_by_ a_LE a_EQ a_NE)), .val (.int (1 : Int32)), .val (.ref t_LE), .val (.int (108 : Int32)), .val (.int (1 : Int32))] [])) (fun _ k => XS.icmpNo X37.here hx rfl (hb hby at_74) rfl (teq ((if_neg (Fld.ne O_LE O_EQ (own_vne (by decide)))).trans (if_neg (Fld.ne O_LE O_NE (own_vne (by decide)))))).2 k) ?_
    refine own_by (T' := T37) (g' := (mkF m 78 #[.val (.int u), .val (.int (3 : Int32)), .val (.ref a_LE), .val (.int (own_by_ a_LE a_EQ a_NE)), .val (.int (1 : Int32)), .val (.ref t_LE), .val (.int (108 : Int32)), .val (.int (1 : Int32))] [(.int (1 : Int32))])) (fun _ k => XS.iconst X37.here hx rfl (hb hby at_77) k) ?_
    refine own_by (T' := T37) (g' := (mkF m 82 #[.val (.int u), .val (.int (3 : Int32)), .val (.ref a_LE), .val (.int (own_by_ a_LE a_EQ a_NE)), .val (.int (1 : Int32)), .val (.ref t_LE), .val (.int (108 : Int32)), .val (.int (1 : Int32))] [(.int (1 : Int32))])) (fun _ k => XS.goto X37.here hx rfl (pc0 := 78) (pc' := 82) rfl (hb hby at_78) (by decide) (by decide) k) ?_
    refine own_ret X37 hlk (v := some (.int (1 : Int32))) (fun h => by rw [Bd.returns] at h; cases h) (fun fs hr => retN X37 hx (t := .boolean) Bd.returns (by simp) (hb hby at_82) hr) ?_ (by decide) (by decide)
    rw [e37]
    exact ⟨rfl, N37⟩
  · skip
    rw [hq21]
    refine own_by (T' := s₁) (g' := (mkF m 9 #[.val (.int u), .val (.int (4 : Int32)), .unset, .unset, .unset, .unset, .unset, .unset] [(.int (4 : Int32))])) (fun _ k => XS.iloadN X0.here hx rfl (hb hby at_8) rfl k) ?_
    obtain ⟨_, _, ⟨T38, L38, k38, n38⟩, -, X38, ⟨Lc38, hQ38, l38, y38, z38⟩, st38⟩ := Jvm.LawKit.callS X0 hx (y := (⟨"com/example/nisaba/nisaba/item/ComparisonByOrderPinLaw", "pick", "(I)Lcom/example/nisaba/nisaba/item/Comparison;"⟩ : MethodName)) hown (mvT hZ (hw _ (List.mem_of_getElem? (i := 1) rfl))) (mvT hZ (hw _ (List.mem_of_getElem? (i := 2) rfl))) (mvT hZ (hw _ (List.mem_of_getElem? (i := 3) rfl))) (mvT hZ (hw _ (List.mem_of_getElem? (i := 4) rfl))) (by decide) (backOf (W := 0) (rm1 l Z a0 hw [] (4 : Int32) a_GT a_GE a_LT a_LE a_EQ a_NE h0 n0 Z0 S_GT S_GE S_LT S_LE S_EQ S_NE) hZ (hw _ (List.mem_of_getElem? (i := 4) rfl)) (hw _ (List.mem_of_getElem? (i := 3) rfl)) (by decide) (by decide)) (g := (mkF m 9 #[.val (.int u), .val (.int (4 : Int32)), .unset, .unset, .unset, .unset, .unset, .unset] [(.int (4 : Int32))])) rfl (by rw [hml]; rfl) (argsL := [(.int (4 : Int32))]) (rest := []) (lenOf pd_4 rfl) rfl (by show 2 * 0 + _ ≤ _; exact Nat.le_of_eq rfl) (hb hby at_9) (fun _ _ => ⟨rfl, e0, (by decide : 0 + 0 ≤ _), (by decide : 0 + 0 ≤ _)⟩)
    dsimp only [Pt.U, Pt.locs, Pt.cells, Pt.slots] at X38 l38 y38 z38 st38 hQ38
    subst l38 y38 z38
    obtain ⟨rfl, N38q, e38⟩ := hQ38
    have N38 := Fr.app N0 N38q
    refine own_by (T' := T38) (g' := (mkF m 12 #[.val (.int u), .val (.int (4 : Int32)), .unset, .unset, .unset, .unset, .unset, .unset] [(.ref a_EQ)])) (fun _ k => st38 _ k) ?_
    refine own_by (T' := T38) (g' := (mkF m 13 #[.val (.int u), .val (.int (4 : Int32)), .val (.ref a_EQ), .unset, .unset, .unset, .unset, .unset] [])) (fun _ k => XS.astoreN X38.here hx rfl (hb hby at_12) rfl rfl (l' := #[.val (.int u), .val (.int (4 : Int32)), .val (.ref a_EQ), .unset, .unset, .unset, .unset, .unset]) rfl k) ?_
    refine own_by (T' := T38) (g' := (mkF m 14 #[.val (.int u), .val (.int (4 : Int32)), .val (.ref a_EQ), .unset, .unset, .unset, .unset, .unset] [(.ref a_EQ)])) (fun _ k => XS.aloadN X38.here hx rfl (hb hby at_13) rfl rfl k) ?_
    obtain ⟨cq39, kq39, q39a, q39b, q39c⟩ := isOf hZ e38 E_a_EQ
    obtain ⟨_, _, ⟨T39, L39, k39, n39⟩, -, X39, ⟨Lc39, hQ39, l39, y39, z39⟩, st39⟩ := X38.virtualBack hx (y := (⟨"com/example/nisaba/nisaba/item/Comparison", "byOrder", "()Z"⟩ : MethodName)) (z := (⟨"com/example/nisaba/nisaba/item/Comparison", "byOrder", "()Z"⟩ : MethodName)) hown (mvT hZ (hw _ (List.mem_of_getElem? (i := 8) rfl))) (mvT hZ (hw _ (List.mem_of_getElem? (i := 9) rfl))) (notFace_of_selects (args := #[]) (mvT hZ (hw _ (List.mem_of_getElem? (i := 11) rfl)))) (mvT hZ (hw _ (List.mem_of_getElem? (i := 11) rfl))) (mvT hZ (hw _ (List.mem_of_getElem? (i := 10) rfl))) (by decide) (backOf (W := 0) (rm2 l Z a0 hw [] a_EQ a_EQ a_NE h0 n0 Z0 S_EQ S_NE) hZ (hw _ (List.mem_of_getElem? (i := 12) rfl)) (hw _ (List.mem_of_getElem? (i := 6) rfl)) (by decide) (by decide)) q39a q39c (g := (mkF m 14 #[.val (.int u), .val (.int (4 : Int32)), .val (.ref a_EQ), .unset, .unset, .unset, .unset, .unset] [(.ref a_EQ)])) rfl (by rw [hml]; rfl) (Steps.refl _) (argsL := []) (rest := []) (lenOf pd_2 rfl) rfl (by show 2 * 0 + _ ≤ _; exact Nat.le_of_eq rfl) (hb hby at_14) (fun _ _ => ⟨rfl, e38, (by decide : (0 + 0) + 0 ≤ _), (by decide : (0 + 0) + 0 ≤ _)⟩)
    dsimp only [Pt.U, Pt.locs, Pt.cells, Pt.slots] at X39 l39 y39 z39 st39 hQ39
    subst l39 y39 z39
    obtain ⟨rfl, N39q, e39⟩ := hQ39
    have N39 := Fr.app N38 N39q
    refine own_by (T' := T39) (g' := (mkF m 17 #[.val (.int u), .val (.int (4 : Int32)), .val (.ref a_EQ), .unset, .unset, .unset, .unset, .unset] [(.int (own_by_ a_EQ a_EQ a_NE))])) (fun _ k => st39.trans k) ?_
    refine own_by (T' := T39) (g' := (mkF m 18 #[.val (.int u), .val (.int (4 : Int32)), .val (.ref a_EQ), .val (.int (own_by_ a_EQ a_EQ a_NE)), .unset, .unset, .unset, .unset] [])) (fun _ k => XS.istoreN X39.here hx rfl (hb hby at_17) rfl (l' := #[.val (.int u), .val (.int (4 : Int32)), .val (.ref a_EQ), .val (.int (own_by_ a_EQ a_EQ a_NE)), .unset, .unset, .unset, .unset]) rfl k) ?_
    refine own_by (T' := T39) (g' := (mkF m 19 #[.val (.int u), .val (.int (4 : Int32)), .val (.ref a_EQ), .val (.int (own_by_ a_EQ a_EQ a_NE)), .unset, .unset, .unset, .unset] [(.int (4 : Int32))])) (fun _ k => XS.iloadN X39.here hx rfl (hb hby at_18) rfl k) ?_
    refine own_by (T' := T39) (g' := (mkF m 20 #[.val (.int u), .val (.int (4 : Int32)), .val (.ref a_EQ), .val (.int (own_by_ a_EQ a_EQ a_NE)), .unset, .unset, .unset, .unset] [(.int (4 : Int32)), (.int (4 : Int32))])) (fun _ k => XS.iconst X39.here hx rfl (hb hby at_19) k) ?_
    refine own_by (T' := T39) (g' := (mkF m 27 #[.val (.int u), .val (.int (4 : Int32)), .val (.ref a_EQ), .val (.int (own_by_ a_EQ a_EQ a_NE)), .unset, .unset, .unset, .unset] [])) (fun _ k => XS.icmpYes X39.here hx rfl (pc0 := 20) (pc' := 27) rfl (hb hby at_20) rfl (flt (by decide)).2.1 (by decide) (by decide) k) ?_
    refine own_by (T' := T39) (g' := (mkF m 28 #[.val (.int u), .val (.int (4 : Int32)), .val (.ref a_EQ), .val (.int (own_by_ a_EQ a_EQ a_NE)), .unset, .unset, .unset, .unset] [(.int (0 : Int32))])) (fun _ k => XS.iconst X39.here hx rfl (hb hby at_27) k) ?_
    refine own_by (T' := T39) (g' := (mkF m 30 #[.val (.int u), .val (.int (4 : Int32)), .val (.ref a_EQ), .val (.int (own_by_ a_EQ a_EQ a_NE)), .val (.int (0 : Int32)), .unset, .unset, .unset] [])) (fun _ k => XS.istore X39.here hx rfl (hb hby at_28) rfl (l' := #[.val (.int u), .val (.int (4 : Int32)), .val (.ref a_EQ), .val (.int (own_by_ a_EQ a_EQ a_NE)), .val (.int (0 : Int32)), .unset, .unset, .unset]) rfl k) ?_
    refine own_by (T' := T39) (g' := (mkF m 31 #[.val (.int u), .val (.int (4 : Int32)), .val (.ref a_EQ), .val (.int (own_by_ a_EQ a_EQ a_NE)), .val (.int (0 : Int32)), .unset, .unset, .unset] [(.ref a_EQ)])) (fun _ k => XS.aloadN X39.here hx rfl (hb hby at_30) rfl rfl k) ?_
    obtain ⟨cq40, kq40, q40a, q40b, q40c⟩ := isOf hZ e39 E_a_EQ
    obtain ⟨_, _, ⟨T40, L40, k40, n40⟩, -, X40, ⟨Lc40, hQ40, l40, y40, z40⟩, st40⟩ := X39.virtualBack hx (y := (⟨"com/example/nisaba/nisaba/item/Comparison", "apiName", "()Ljava/lang/String;"⟩ : MethodName)) (z := (⟨"com/example/nisaba/nisaba/item/Comparison", "apiName", "()Ljava/lang/String;"⟩ : MethodName)) hown (mvT hZ (hw _ (List.mem_of_getElem? (i := 17) rfl))) (mvT hZ (hw _ (List.mem_of_getElem? (i := 18) rfl))) (notFace_of_selects (args := #[]) (mvT hZ (hw _ (List.mem_of_getElem? (i := 20) rfl)))) (mvT hZ (hw _ (List.mem_of_getElem? (i := 20) rfl))) (mvT hZ (hw _ (List.mem_of_getElem? (i := 19) rfl))) (by decide) (backOf (W := 0) (rm3 l Z a0 hw [] a_EQ t_EQ h0 n0 Z0 F_apiName_a_EQ) hZ (hw _ (List.mem_of_getElem? (i := 21) rfl)) (hw _ (List.mem_of_getElem? (i := 6) rfl)) (by decide) (by decide)) q40a q40c (g := (mkF m 31 #[.val (.int u), .val (.int (4 : Int32)), .val (.ref a_EQ), .val (.int (own_by_ a_EQ a_EQ a_NE)), .val (.int (0 : Int32)), .unset, .unset, .unset] [(.ref a_EQ)])) rfl (by rw [hml]; rfl) (Steps.refl _) (argsL := []) (rest := []) (lenOf pd_5 rfl) rfl (by show 2 * 0 + _ ≤ _; exact Nat.le_of_eq rfl) (hb hby at_31) (fun _ _ => ⟨rfl, e39, (by decide : ((0 + 0) + 0) + 0 ≤ _), (by decide : ((0 + 0) + 0) + 0 ≤ _)⟩)
    dsimp only [Pt.U, Pt.locs, Pt.cells, Pt.slots] at X40 l40 y40 z40 st40 hQ40
    subst l40 y40 z40
    obtain ⟨rfl, N40q, e40⟩ := hQ40
    have N40 := Fr.app N39 N40q
    refine own_by (T' := T40) (g' := (mkF m 34 #[.val (.int u), .val (.int (4 : Int32)), .val (.ref a_EQ), .val (.int (own_by_ a_EQ a_EQ a_NE)), .val (.int (0 : Int32)), .unset, .unset, .unset] [(.ref t_EQ)])) (fun _ k => st40.trans k) ?_
    refine own_by (T' := T40) (g' := (mkF m 36 #[.val (.int u), .val (.int (4 : Int32)), .val (.ref a_EQ), .val (.int (own_by_ a_EQ a_EQ a_NE)), .val (.int (0 : Int32)), .val (.ref t_EQ), .unset, .unset] [])) (fun _ k => XS.astore X40.here hx rfl (hb hby at_34) rfl rfl (l' := #[.val (.int u), .val (.int (4 : Int32)), .val (.ref a_EQ), .val (.int (own_by_ a_EQ a_EQ a_NE)), .val (.int (0 : Int32)), .val (.ref t_EQ), .unset, .unset]) rfl k) ?_
    refine own_by (T' := T40) (g' := (mkF m 38 #[.val (.int u), .val (.int (4 : Int32)), .val (.ref a_EQ), .val (.int (own_by_ a_EQ a_EQ a_NE)), .val (.int (0 : Int32)), .val (.ref t_EQ), .unset, .unset] [(.ref t_EQ)])) (fun _ k => XS.aload X40.here hx rfl (hb hby at_36) rfl rfl k) ?_
    refine own_by (T' := T40) (g' := (mkF m 39 #[.val (.int u), .val (.int (4 : Int32)), .val (.ref a_EQ), .val (.int (own_by_ a_EQ a_EQ a_NE)), .val (.int (0 : Int32)), .val (.ref t_EQ), .unset, .unset] [(.int (0 : Int32)), (.ref t_EQ)])) (fun _ k => XS.iconst X40.here hx rfl (hb hby at_38) k) ?_
    obtain ⟨cq41, kq41, q41a, q41b, q41c⟩ := isOf hZ e40 E_t_EQ
    obtain ⟨_, _, ⟨T41, L41, k41, n41⟩, -, X41, ⟨Lc41, hQ41, l41, y41, z41⟩, st41⟩ := X40.virtualBack hx (y := (⟨"java/lang/String", "charAt", "(I)C"⟩ : MethodName)) (z := (⟨"java/lang/String", "charAt", "(I)C"⟩ : MethodName)) hown (mvT hZ (hw _ (List.mem_of_getElem? (i := 24) rfl))) (mvT hZ (hw _ (List.mem_of_getElem? (i := 25) rfl))) (notFace_of_selects (args := #[]) (mvT hZ (hw _ (List.mem_of_getElem? (i := 27) rfl)))) (mvT hZ (hw _ (List.mem_of_getElem? (i := 27) rfl))) (mvT hZ (hw _ (List.mem_of_getElem? (i := 26) rfl))) (by decide) (backOf (W := 0) (rm4 l Z a0 hw [] t_EQ r_EQ k_EQ (101 : Int32) (113 : Int32) cs sf h0 n0 Z0 E_t_EQ F_coder_t_EQ F_value_t_EQ V_r_EQ S_CS hcs hsf S_SF) hZ (hw _ (List.mem_of_getElem? (i := 29) rfl)) (hw _ (List.mem_of_getElem? (i := 28) rfl)) (by decide) (by decide)) q41a q41c (g := (mkF m 39 #[.val (.int u), .val (.int (4 : Int32)), .val (.ref a_EQ), .val (.int (own_by_ a_EQ a_EQ a_NE)), .val (.int (0 : Int32)), .val (.ref t_EQ), .unset, .unset] [(.int (0 : Int32)), (.ref t_EQ)])) rfl (by rw [hml]; rfl) (Steps.refl _) (argsL := [(.int (0 : Int32))]) (rest := []) (lenOf pd_6 rfl) rfl (by show 2 * 0 + _ ≤ _; exact Nat.le_of_eq rfl) (hb hby at_39) (fun _ _ => ⟨rfl, e40, (by decide : (((0 + 0) + 0) + 0) + 0 ≤ _), (by decide : (((0 + 0) + 0) + 0) + 0 ≤ _)⟩)
    dsimp only [Pt.U, Pt.locs, Pt.cells, Pt.slots] at X41 l41 y41 z41 st41 hQ41
    subst l41 y41 z41
    obtain ⟨rfl, N41q, e41⟩ := hQ41
    have N41 := Fr.app N40 N41q
    refine own_by (T' := T41) (g' := (mkF m 42 #[.val (.int u), .val (.int (4 : Int32)), .val (.ref a_EQ), .val (.int (own_by_ a_EQ a_EQ a_NE)), .val (.int (0 : Int32)), .val (.ref t_EQ), .unset, .unset] [(.int (101 : Int32))])) (fun _ k => st41.trans k) ?_
    refine own_by (T' := T41) (g' := (mkF m 44 #[.val (.int u), .val (.int (4 : Int32)), .val (.ref a_EQ), .val (.int (own_by_ a_EQ a_EQ a_NE)), .val (.int (0 : Int32)), .val (.ref t_EQ), .val (.int (101 : Int32)), .unset] [])) (fun _ k => XS.istore X41.here hx rfl (hb hby at_42) rfl (l' := #[.val (.int u), .val (.int (4 : Int32)), .val (.ref a_EQ), .val (.int (own_by_ a_EQ a_EQ a_NE)), .val (.int (0 : Int32)), .val (.ref t_EQ), .val (.int (101 : Int32)), .unset]) rfl k) ?_
    refine own_by (T' := T41) (g' := (mkF m 46 #[.val (.int u), .val (.int (4 : Int32)), .val (.ref a_EQ), .val (.int (own_by_ a_EQ a_EQ a_NE)), .val (.int (0 : Int32)), .val (.ref t_EQ), .val (.int (101 : Int32)), .unset] [(.int (101 : Int32))])) (fun _ k => XS.iload X41.here hx rfl (hb hby at_44) rfl k) ?_
    refine own_by (T' := T41) (g' := (mkF m 48 #[.val (.int u), .val (.int (4 : Int32)), .val (.ref a_EQ), .val (.int (own_by_ a_EQ a_EQ a_NE)), .val (.int (0 : Int32)), .val (.ref t_EQ), .val (.int (101 : Int32)), .unset] [(.int (103 : Int32)), (.int (101 : Int32))])) (fun _ k => XS.bipush X41.here hx rfl (hb hby at_46) k) ?_
    refine own_by (T' := T41) (g' := (mkF m 51 #[.val (.int u), .val (.int (4 : Int32)), .val (.ref a_EQ), .val (.int (own_by_ a_EQ a_EQ a_NE)), .val (.int (0 : Int32)), .val (.ref t_EQ), .val (.int (101 : Int32)), .unset] [])) (fun _ k => XS.icmpNo X41.here hx rfl (hb hby at_48) rfl (feq (by decide)).1 k) ?_
    refine own_by (T' := T41) (g' := (mkF m 53 #[.val (.int u), .val (.int (4 : Int32)), .val (.ref a_EQ), .val (.int (own_by_ a_EQ a_EQ a_NE)), .val (.int (0 : Int32)), .val (.ref t_EQ), .val (.int (101 : Int32)), .unset] [(.int (101 : Int32))])) (fun _ k => XS.iload X41.here hx rfl (hb hby at_51) rfl k) ?_
    refine own_by (T' := T41) (g' := (mkF m 55 #[.val (.int u), .val (.int (4 : Int32)), .val (.ref a_EQ), .val (.int (own_by_ a_EQ a_EQ a_NE)), .val (.int (0 : Int32)), .val (.ref t_EQ), .val (.int (101 : Int32)), .unset] [(.int (108 : Int32)), (.int (101 : Int32))])) (fun _ k => XS.bipush X41.here hx rfl (hb hby at_53) k) ?_
    refine own_by (T' := T41) (g' := (mkF m 62 #[.val (.int u), .val (.int (4 : Int32)), .val (.ref a_EQ), .val (.int (own_by_ a_EQ a_EQ a_NE)), .val (.int (0 : Int32)), .val (.ref t_EQ), .val (.int (101 : Int32)), .unset] [])) (fun _ k => XS.icmpYes X41.here hx rfl (pc0 := 55) (pc' := 62) rfl (hb hby at_55) rfl (feq (by decide)).2 (by decide) (by decide) k) ?_
    refine own_by (T' := T41) (g' := (mkF m 63 #[.val (.int u), .val (.int (4 : Int32)), .val (.ref a_EQ), .val (.int (own_by_ a_EQ a_EQ a_NE)), .val (.int (0 : Int32)), .val (.ref t_EQ), .val (.int (101 : Int32)), .unset] [(.int (0 : Int32))])) (fun _ k => XS.iconst X41.here hx rfl (hb hby at_62) k) ?_
    refine own_by (T' := T41) (g' := (mkF m 65 #[.val (.int u), .val (.int (4 : Int32)), .val (.ref a_EQ), .val (.int (own_by_ a_EQ a_EQ a_NE)), .val (.int (0 : Int32)), .val (.ref t_EQ), .val (.int (101 : Int32)), .val (.int (0 : Int32))] [])) (fun _ k => XS.istore X41.here hx rfl (hb hby at_63) rfl (l' := #[.val (.int u), .val (.int (4 : Int32)), .val (.ref a_EQ), .val (.int (own_by_ a_EQ a_EQ a_NE)), .val (.int (0 : Int32)), .val (.ref t_EQ), .val (.int (101 : Int32)), .val (.int (0 : Int32))]) rfl k) ?_
    refine own_by (T' := T41) (g' := (mkF m 66 #[.val (.int u), .val (.int (4 : Int32)), .val (.ref a_EQ), .val (.int (own_by_ a_EQ a_EQ a_NE)), .val (.int (0 : Int32)), .val (.ref t_EQ), .val (.int (101 : Int32)), .val (.int (0 : Int32))] [(.int (own_by_ a_EQ a_EQ a_NE))])) (fun _ k => XS.iloadN X41.here hx rfl (hb hby at_65) rfl k) ?_
    refine own_by (T' := T41) (g' := (mkF m 68 #[.val (.int u), .val (.int (4 : Int32)), .val (.ref a_EQ), .val (.int (own_by_ a_EQ a_EQ a_NE)), .val (.int (0 : Int32)), .val (.ref t_EQ), .val (.int (101 : Int32)), .val (.int (0 : Int32))] [(.int (0 : Int32)), (.int (own_by_ a_EQ a_EQ a_NE))])) (fun _ k => XS.iload X41.here hx rfl (hb hby at_66) rfl k) ?_
    refine own_by (T' := T41) (g' := (mkF m 71 #[.val (.int u), .val (.int (4 : Int32)), .val (.ref a_EQ), .val (.int (own_by_ a_EQ a_EQ a_NE)), .val (.int (0 : Int32)), .val (.ref t_EQ), .val (.int (101 : Int32)), .val (.int (0 : Int32))] [])) (fun _ k => XS.icmpNo X41.here hx rfl (hb hby at_68) rfl (teq (if_pos rfl)).2 k) ?_
    refine own_by (T' := T41) (g' := (mkF m 72 #[.val (.int u), .val (.int (4 : Int32)), .val (.ref a_EQ), .val (.int (own_by_ a_EQ a_EQ a_NE)), .val (.int (0 : Int32)), .val (.ref t_EQ), .val (.int (101 : Int32)), .val (.int (0 : Int32))] [(.int (own_by_ a_EQ a_EQ a_NE))])) (fun _ k => XS.iloadN X41.here hx rfl (hb hby at_71) rfl k) ?_
    refine own_by (T' := T41) (g' := (mkF m 74 #[.val (.int u), .val (.int (4 : Int32)), .val (.ref a_EQ), .val (.int (own_by_ a_EQ a_EQ a_NE)), .val (.int (0 : Int32)), .val (.ref t_EQ), .val (.int (101 : Int32)), .val (.int (0 : Int32))] [(.int (0 : Int32)), (.int (own_by_ a_EQ a_EQ a_NE))])) (fun _ k => XS.iload X41.here hx rfl (hb hby at_72) rfl k) ?_
    refine own_by (T' := T41) (g' := (mkF m 77 #[.val (.int u), .val (.int (4 : Int32)), .val (.ref a_EQ), .val (.int (own_by_ a_EQ a_EQ a_NE)), .val (.int (0 : Int32)), .val (.ref t_EQ), .val (.int (101 : Int32)), .val (.int (0 : Int32))] [])) (fun _ k => XS.icmpNo X41.here hx rfl (hb hby at_74) rfl (teq (if_pos rfl)).2 k) ?_
    refine own_by (T' := T41) (g' := (mkF m 78 #[.val (.int u), .val (.int (4 : Int32)), .val (.ref a_EQ), .val (.int (own_by_ a_EQ a_EQ a_NE)), .val (.int (0 : Int32)), .val (.ref t_EQ), .val (.int (101 : Int32)), .val (.int (0 : Int32))] [(.int (1 : Int32))])) (fun _ k => XS.iconst X41.here hx rfl (hb hby at_77) k) ?_
    refine own_by (T' := T41) (g' := (mkF m 82 #[.val (.int u), .val (.int (4 : Int32)), .val (.ref a_EQ), .val (.int (own_by_ a_EQ a_EQ a_NE)), .val (.int (0 : Int32)), .val (.ref t_EQ), .val (.int (101 : Int32)), .val (.int (0 : Int32))] [(.int (1 : Int32))])) (fun _ k => XS.goto X41.here hx rfl (pc0 := 78) (pc' := 82) rfl (hb hby at_78) (by decide) (by decide) k) ?_
    refine own_ret X41 hlk (v := some (.int (1 : Int32))) (fun h => by rw [Bd.returns] at h; cases h) (fun fs hr => retN X41 hx (t := .boolean) Bd.returns (by simp) (hb hby at_82) hr) ?_ (by decide) (by decide)
    rw [e41]
    exact ⟨rfl, N41⟩
  · skip
    rw [hq21]
    refine own_by (T' := s₁) (g' := (mkF m 9 #[.val (.int u), .val (.int (5 : Int32)), .unset, .unset, .unset, .unset, .unset, .unset] [(.int (5 : Int32))])) (fun _ k => XS.iloadN X0.here hx rfl (hb hby at_8) rfl k) ?_
    obtain ⟨_, _, ⟨T42, L42, k42, n42⟩, -, X42, ⟨Lc42, hQ42, l42, y42, z42⟩, st42⟩ := Jvm.LawKit.callS X0 hx (y := (⟨"com/example/nisaba/nisaba/item/ComparisonByOrderPinLaw", "pick", "(I)Lcom/example/nisaba/nisaba/item/Comparison;"⟩ : MethodName)) hown (mvT hZ (hw _ (List.mem_of_getElem? (i := 1) rfl))) (mvT hZ (hw _ (List.mem_of_getElem? (i := 2) rfl))) (mvT hZ (hw _ (List.mem_of_getElem? (i := 3) rfl))) (mvT hZ (hw _ (List.mem_of_getElem? (i := 4) rfl))) (by decide) (backOf (W := 0) (rm1 l Z a0 hw [] (5 : Int32) a_GT a_GE a_LT a_LE a_EQ a_NE h0 n0 Z0 S_GT S_GE S_LT S_LE S_EQ S_NE) hZ (hw _ (List.mem_of_getElem? (i := 4) rfl)) (hw _ (List.mem_of_getElem? (i := 3) rfl)) (by decide) (by decide)) (g := (mkF m 9 #[.val (.int u), .val (.int (5 : Int32)), .unset, .unset, .unset, .unset, .unset, .unset] [(.int (5 : Int32))])) rfl (by rw [hml]; rfl) (argsL := [(.int (5 : Int32))]) (rest := []) (lenOf pd_4 rfl) rfl (by show 2 * 0 + _ ≤ _; exact Nat.le_of_eq rfl) (hb hby at_9) (fun _ _ => ⟨rfl, e0, (by decide : 0 + 0 ≤ _), (by decide : 0 + 0 ≤ _)⟩)
    dsimp only [Pt.U, Pt.locs, Pt.cells, Pt.slots] at X42 l42 y42 z42 st42 hQ42
    subst l42 y42 z42
    obtain ⟨rfl, N42q, e42⟩ := hQ42
    have N42 := Fr.app N0 N42q
    refine own_by (T' := T42) (g' := (mkF m 12 #[.val (.int u), .val (.int (5 : Int32)), .unset, .unset, .unset, .unset, .unset, .unset] [(.ref a_NE)])) (fun _ k => st42 _ k) ?_
    refine own_by (T' := T42) (g' := (mkF m 13 #[.val (.int u), .val (.int (5 : Int32)), .val (.ref a_NE), .unset, .unset, .unset, .unset, .unset] [])) (fun _ k => XS.astoreN X42.here hx rfl (hb hby at_12) rfl rfl (l' := #[.val (.int u), .val (.int (5 : Int32)), .val (.ref a_NE), .unset, .unset, .unset, .unset, .unset]) rfl k) ?_
    refine own_by (T' := T42) (g' := (mkF m 14 #[.val (.int u), .val (.int (5 : Int32)), .val (.ref a_NE), .unset, .unset, .unset, .unset, .unset] [(.ref a_NE)])) (fun _ k => XS.aloadN X42.here hx rfl (hb hby at_13) rfl rfl k) ?_
    obtain ⟨cq43, kq43, q43a, q43b, q43c⟩ := isOf hZ e42 E_a_NE
    obtain ⟨_, _, ⟨T43, L43, k43, n43⟩, -, X43, ⟨Lc43, hQ43, l43, y43, z43⟩, st43⟩ := X42.virtualBack hx (y := (⟨"com/example/nisaba/nisaba/item/Comparison", "byOrder", "()Z"⟩ : MethodName)) (z := (⟨"com/example/nisaba/nisaba/item/Comparison", "byOrder", "()Z"⟩ : MethodName)) hown (mvT hZ (hw _ (List.mem_of_getElem? (i := 8) rfl))) (mvT hZ (hw _ (List.mem_of_getElem? (i := 9) rfl))) (notFace_of_selects (args := #[]) (mvT hZ (hw _ (List.mem_of_getElem? (i := 11) rfl)))) (mvT hZ (hw _ (List.mem_of_getElem? (i := 11) rfl))) (mvT hZ (hw _ (List.mem_of_getElem? (i := 10) rfl))) (by decide) (backOf (W := 0) (rm2 l Z a0 hw [] a_NE a_EQ a_NE h0 n0 Z0 S_EQ S_NE) hZ (hw _ (List.mem_of_getElem? (i := 12) rfl)) (hw _ (List.mem_of_getElem? (i := 6) rfl)) (by decide) (by decide)) q43a q43c (g := (mkF m 14 #[.val (.int u), .val (.int (5 : Int32)), .val (.ref a_NE), .unset, .unset, .unset, .unset, .unset] [(.ref a_NE)])) rfl (by rw [hml]; rfl) (Steps.refl _) (argsL := []) (rest := []) (lenOf pd_2 rfl) rfl (by show 2 * 0 + _ ≤ _; exact Nat.le_of_eq rfl) (hb hby at_14) (fun _ _ => ⟨rfl, e42, (by decide : (0 + 0) + 0 ≤ _), (by decide : (0 + 0) + 0 ≤ _)⟩)
    dsimp only [Pt.U, Pt.locs, Pt.cells, Pt.slots] at X43 l43 y43 z43 st43 hQ43
    subst l43 y43 z43
    obtain ⟨rfl, N43q, e43⟩ := hQ43
    have N43 := Fr.app N42 N43q
    refine own_by (T' := T43) (g' := (mkF m 17 #[.val (.int u), .val (.int (5 : Int32)), .val (.ref a_NE), .unset, .unset, .unset, .unset, .unset] [(.int (own_by_ a_NE a_EQ a_NE))])) (fun _ k => st43.trans k) ?_
    refine own_by (T' := T43) (g' := (mkF m 18 #[.val (.int u), .val (.int (5 : Int32)), .val (.ref a_NE), .val (.int (own_by_ a_NE a_EQ a_NE)), .unset, .unset, .unset, .unset] [])) (fun _ k => XS.istoreN X43.here hx rfl (hb hby at_17) rfl (l' := #[.val (.int u), .val (.int (5 : Int32)), .val (.ref a_NE), .val (.int (own_by_ a_NE a_EQ a_NE)), .unset, .unset, .unset, .unset]) rfl k) ?_
    refine own_by (T' := T43) (g' := (mkF m 19 #[.val (.int u), .val (.int (5 : Int32)), .val (.ref a_NE), .val (.int (own_by_ a_NE a_EQ a_NE)), .unset, .unset, .unset, .unset] [(.int (5 : Int32))])) (fun _ k => XS.iloadN X43.here hx rfl (hb hby at_18) rfl k) ?_
    refine own_by (T' := T43) (g' := (mkF m 20 #[.val (.int u), .val (.int (5 : Int32)), .val (.ref a_NE), .val (.int (own_by_ a_NE a_EQ a_NE)), .unset, .unset, .unset, .unset] [(.int (4 : Int32)), (.int (5 : Int32))])) (fun _ k => XS.iconst X43.here hx rfl (hb hby at_19) k) ?_
    refine own_by (T' := T43) (g' := (mkF m 27 #[.val (.int u), .val (.int (5 : Int32)), .val (.ref a_NE), .val (.int (own_by_ a_NE a_EQ a_NE)), .unset, .unset, .unset, .unset] [])) (fun _ k => XS.icmpYes X43.here hx rfl (pc0 := 20) (pc' := 27) rfl (hb hby at_20) rfl (flt (by decide)).2.1 (by decide) (by decide) k) ?_
    refine own_by (T' := T43) (g' := (mkF m 28 #[.val (.int u), .val (.int (5 : Int32)), .val (.ref a_NE), .val (.int (own_by_ a_NE a_EQ a_NE)), .unset, .unset, .unset, .unset] [(.int (0 : Int32))])) (fun _ k => XS.iconst X43.here hx rfl (hb hby at_27) k) ?_
    refine own_by (T' := T43) (g' := (mkF m 30 #[.val (.int u), .val (.int (5 : Int32)), .val (.ref a_NE), .val (.int (own_by_ a_NE a_EQ a_NE)), .val (.int (0 : Int32)), .unset, .unset, .unset] [])) (fun _ k => XS.istore X43.here hx rfl (hb hby at_28) rfl (l' := #[.val (.int u), .val (.int (5 : Int32)), .val (.ref a_NE), .val (.int (own_by_ a_NE a_EQ a_NE)), .val (.int (0 : Int32)), .unset, .unset, .unset]) rfl k) ?_
    refine own_by (T' := T43) (g' := (mkF m 31 #[.val (.int u), .val (.int (5 : Int32)), .val (.ref a_NE), .val (.int (own_by_ a_NE a_EQ a_NE)), .val (.int (0 : Int32)), .unset, .unset, .unset] [(.ref a_NE)])) (fun _ k => XS.aloadN X43.here hx rfl (hb hby at_30) rfl rfl k) ?_
    obtain ⟨cq44, kq44, q44a, q44b, q44c⟩ := isOf hZ e43 E_a_NE
    obtain ⟨_, _, ⟨T44, L44, k44, n44⟩, -, X44, ⟨Lc44, hQ44, l44, y44, z44⟩, st44⟩ := X43.virtualBack hx (y := (⟨"com/example/nisaba/nisaba/item/Comparison", "apiName", "()Ljava/lang/String;"⟩ : MethodName)) (z := (⟨"com/example/nisaba/nisaba/item/Comparison", "apiName", "()Ljava/lang/String;"⟩ : MethodName)) hown (mvT hZ (hw _ (List.mem_of_getElem? (i := 17) rfl))) (mvT hZ (hw _ (List.mem_of_getElem? (i := 18) rfl))) (notFace_of_selects (args := #[]) (mvT hZ (hw _ (List.mem_of_getElem? (i := 20) rfl)))) (mvT hZ (hw _ (List.mem_of_getElem? (i := 20) rfl))) (mvT hZ (hw _ (List.mem_of_getElem? (i := 19) rfl))) (by decide) (backOf (W := 0) (rm3 l Z a0 hw [] a_NE t_NE h0 n0 Z0 F_apiName_a_NE) hZ (hw _ (List.mem_of_getElem? (i := 21) rfl)) (hw _ (List.mem_of_getElem? (i := 6) rfl)) (by decide) (by decide)) q44a q44c (g := (mkF m 31 #[.val (.int u), .val (.int (5 : Int32)), .val (.ref a_NE), .val (.int (own_by_ a_NE a_EQ a_NE)), .val (.int (0 : Int32)), .unset, .unset, .unset] [(.ref a_NE)])) rfl (by rw [hml]; rfl) (Steps.refl _) (argsL := []) (rest := []) (lenOf pd_5 rfl) rfl (by show 2 * 0 + _ ≤ _; exact Nat.le_of_eq rfl) (hb hby at_31) (fun _ _ => ⟨rfl, e43, (by decide : ((0 + 0) + 0) + 0 ≤ _), (by decide : ((0 + 0) + 0) + 0 ≤ _)⟩)
    dsimp only [Pt.U, Pt.locs, Pt.cells, Pt.slots] at X44 l44 y44 z44 st44 hQ44
    subst l44 y44 z44
    obtain ⟨rfl, N44q, e44⟩ := hQ44
    have N44 := Fr.app N43 N44q
    refine own_by (T' := T44) (g' := (mkF m 34 #[.val (.int u), .val (.int (5 : Int32)), .val (.ref a_NE), .val (.int (own_by_ a_NE a_EQ a_NE)), .val (.int (0 : Int32)), .unset, .unset, .unset] [(.ref t_NE)])) (fun _ k => st44.trans k) ?_
    refine own_by (T' := T44) (g' := (mkF m 36 #[.val (.int u), .val (.int (5 : Int32)), .val (.ref a_NE), .val (.int (own_by_ a_NE a_EQ a_NE)), .val (.int (0 : Int32)), .val (.ref t_NE), .unset, .unset] [])) (fun _ k => XS.astore X44.here hx rfl (hb hby at_34) rfl rfl (l' := #[.val (.int u), .val (.int (5 : Int32)), .val (.ref a_NE), .val (.int (own_by_ a_NE a_EQ a_NE)), .val (.int (0 : Int32)), .val (.ref t_NE), .unset, .unset]) rfl k) ?_
    refine own_by (T' := T44) (g' := (mkF m 38 #[.val (.int u), .val (.int (5 : Int32)), .val (.ref a_NE), .val (.int (own_by_ a_NE a_EQ a_NE)), .val (.int (0 : Int32)), .val (.ref t_NE), .unset, .unset] [(.ref t_NE)])) (fun _ k => XS.aload X44.here hx rfl (hb hby at_36) rfl rfl k) ?_
    refine own_by (T' := T44) (g' := (mkF m 39 #[.val (.int u), .val (.int (5 : Int32)), .val (.ref a_NE), .val (.int (own_by_ a_NE a_EQ a_NE)), .val (.int (0 : Int32)), .val (.ref t_NE), .unset, .unset] [(.int (0 : Int32)), (.ref t_NE)])) (fun _ k => XS.iconst X44.here hx rfl (hb hby at_38) k) ?_
    obtain ⟨cq45, kq45, q45a, q45b, q45c⟩ := isOf hZ e44 E_t_NE
    obtain ⟨_, _, ⟨T45, L45, k45, n45⟩, -, X45, ⟨Lc45, hQ45, l45, y45, z45⟩, st45⟩ := X44.virtualBack hx (y := (⟨"java/lang/String", "charAt", "(I)C"⟩ : MethodName)) (z := (⟨"java/lang/String", "charAt", "(I)C"⟩ : MethodName)) hown (mvT hZ (hw _ (List.mem_of_getElem? (i := 24) rfl))) (mvT hZ (hw _ (List.mem_of_getElem? (i := 25) rfl))) (notFace_of_selects (args := #[]) (mvT hZ (hw _ (List.mem_of_getElem? (i := 27) rfl)))) (mvT hZ (hw _ (List.mem_of_getElem? (i := 27) rfl))) (mvT hZ (hw _ (List.mem_of_getElem? (i := 26) rfl))) (by decide) (backOf (W := 0) (rm4 l Z a0 hw [] t_NE r_NE k_NE (110 : Int32) (101 : Int32) cs sf h0 n0 Z0 E_t_NE F_coder_t_NE F_value_t_NE V_r_NE S_CS hcs hsf S_SF) hZ (hw _ (List.mem_of_getElem? (i := 29) rfl)) (hw _ (List.mem_of_getElem? (i := 28) rfl)) (by decide) (by decide)) q45a q45c (g := (mkF m 39 #[.val (.int u), .val (.int (5 : Int32)), .val (.ref a_NE), .val (.int (own_by_ a_NE a_EQ a_NE)), .val (.int (0 : Int32)), .val (.ref t_NE), .unset, .unset] [(.int (0 : Int32)), (.ref t_NE)])) rfl (by rw [hml]; rfl) (Steps.refl _) (argsL := [(.int (0 : Int32))]) (rest := []) (lenOf pd_6 rfl) rfl (by show 2 * 0 + _ ≤ _; exact Nat.le_of_eq rfl) (hb hby at_39) (fun _ _ => ⟨rfl, e44, (by decide : (((0 + 0) + 0) + 0) + 0 ≤ _), (by decide : (((0 + 0) + 0) + 0) + 0 ≤ _)⟩)
    dsimp only [Pt.U, Pt.locs, Pt.cells, Pt.slots] at X45 l45 y45 z45 st45 hQ45
    subst l45 y45 z45
    obtain ⟨rfl, N45q, e45⟩ := hQ45
    have N45 := Fr.app N44 N45q
    refine own_by (T' := T45) (g' := (mkF m 42 #[.val (.int u), .val (.int (5 : Int32)), .val (.ref a_NE), .val (.int (own_by_ a_NE a_EQ a_NE)), .val (.int (0 : Int32)), .val (.ref t_NE), .unset, .unset] [(.int (110 : Int32))])) (fun _ k => st45.trans k) ?_
    refine own_by (T' := T45) (g' := (mkF m 44 #[.val (.int u), .val (.int (5 : Int32)), .val (.ref a_NE), .val (.int (own_by_ a_NE a_EQ a_NE)), .val (.int (0 : Int32)), .val (.ref t_NE), .val (.int (110 : Int32)), .unset] [])) (fun _ k => XS.istore X45.here hx rfl (hb hby at_42) rfl (l' := #[.val (.int u), .val (.int (5 : Int32)), .val (.ref a_NE), .val (.int (own_by_ a_NE a_EQ a_NE)), .val (.int (0 : Int32)), .val (.ref t_NE), .val (.int (110 : Int32)), .unset]) rfl k) ?_
    refine own_by (T' := T45) (g' := (mkF m 46 #[.val (.int u), .val (.int (5 : Int32)), .val (.ref a_NE), .val (.int (own_by_ a_NE a_EQ a_NE)), .val (.int (0 : Int32)), .val (.ref t_NE), .val (.int (110 : Int32)), .unset] [(.int (110 : Int32))])) (fun _ k => XS.iload X45.here hx rfl (hb hby at_44) rfl k) ?_
    refine own_by (T' := T45) (g' := (mkF m 48 #[.val (.int u), .val (.int (5 : Int32)), .val (.ref a_NE), .val (.int (own_by_ a_NE a_EQ a_NE)), .val (.int (0 : Int32)), .val (.ref t_NE), .val (.int (110 : Int32)), .unset] [(.int (103 : Int32)), (.int (110 : Int32))])) (fun _ k => XS.bipush X45.here hx rfl (hb hby at_46) k) ?_
    refine own_by (T' := T45) (g' := (mkF m 51 #[.val (.int u), .val (.int (5 : Int32)), .val (.ref a_NE), .val (.int (own_by_ a_NE a_EQ a_NE)), .val (.int (0 : Int32)), .val (.ref t_NE), .val (.int (110 : Int32)), .unset] [])) (fun _ k => XS.icmpNo X45.here hx rfl (hb hby at_48) rfl (feq (by decide)).1 k) ?_
    refine own_by (T' := T45) (g' := (mkF m 53 #[.val (.int u), .val (.int (5 : Int32)), .val (.ref a_NE), .val (.int (own_by_ a_NE a_EQ a_NE)), .val (.int (0 : Int32)), .val (.ref t_NE), .val (.int (110 : Int32)), .unset] [(.int (110 : Int32))])) (fun _ k => XS.iload X45.here hx rfl (hb hby at_51) rfl k) ?_
    refine own_by (T' := T45) (g' := (mkF m 55 #[.val (.int u), .val (.int (5 : Int32)), .val (.ref a_NE), .val (.int (own_by_ a_NE a_EQ a_NE)), .val (.int (0 : Int32)), .val (.ref t_NE), .val (.int (110 : Int32)), .unset] [(.int (108 : Int32)), (.int (110 : Int32))])) (fun _ k => XS.bipush X45.here hx rfl (hb hby at_53) k) ?_
    refine own_by (T' := T45) (g' := (mkF m 62 #[.val (.int u), .val (.int (5 : Int32)), .val (.ref a_NE), .val (.int (own_by_ a_NE a_EQ a_NE)), .val (.int (0 : Int32)), .val (.ref t_NE), .val (.int (110 : Int32)), .unset] [])) (fun _ k => XS.icmpYes X45.here hx rfl (pc0 := 55) (pc' := 62) rfl (hb hby at_55) rfl (feq (by decide)).2 (by decide) (by decide) k) ?_
    refine own_by (T' := T45) (g' := (mkF m 63 #[.val (.int u), .val (.int (5 : Int32)), .val (.ref a_NE), .val (.int (own_by_ a_NE a_EQ a_NE)), .val (.int (0 : Int32)), .val (.ref t_NE), .val (.int (110 : Int32)), .unset] [(.int (0 : Int32))])) (fun _ k => XS.iconst X45.here hx rfl (hb hby at_62) k) ?_
    refine own_by (T' := T45) (g' := (mkF m 65 #[.val (.int u), .val (.int (5 : Int32)), .val (.ref a_NE), .val (.int (own_by_ a_NE a_EQ a_NE)), .val (.int (0 : Int32)), .val (.ref t_NE), .val (.int (110 : Int32)), .val (.int (0 : Int32))] [])) (fun _ k => XS.istore X45.here hx rfl (hb hby at_63) rfl (l' := #[.val (.int u), .val (.int (5 : Int32)), .val (.ref a_NE), .val (.int (own_by_ a_NE a_EQ a_NE)), .val (.int (0 : Int32)), .val (.ref t_NE), .val (.int (110 : Int32)), .val (.int (0 : Int32))]) rfl k) ?_
    refine own_by (T' := T45) (g' := (mkF m 66 #[.val (.int u), .val (.int (5 : Int32)), .val (.ref a_NE), .val (.int (own_by_ a_NE a_EQ a_NE)), .val (.int (0 : Int32)), .val (.ref t_NE), .val (.int (110 : Int32)), .val (.int (0 : Int32))] [(.int (own_by_ a_NE a_EQ a_NE))])) (fun _ k => XS.iloadN X45.here hx rfl (hb hby at_65) rfl k) ?_
    refine own_by (T' := T45) (g' := (mkF m 68 #[.val (.int u), .val (.int (5 : Int32)), .val (.ref a_NE), .val (.int (own_by_ a_NE a_EQ a_NE)), .val (.int (0 : Int32)), .val (.ref t_NE), .val (.int (110 : Int32)), .val (.int (0 : Int32))] [(.int (0 : Int32)), (.int (own_by_ a_NE a_EQ a_NE))])) (fun _ k => XS.iload X45.here hx rfl (hb hby at_66) rfl k) ?_
    refine own_by (T' := T45) (g' := (mkF m 71 #[.val (.int u), .val (.int (5 : Int32)), .val (.ref a_NE), .val (.int (own_by_ a_NE a_EQ a_NE)), .val (.int (0 : Int32)), .val (.ref t_NE), .val (.int (110 : Int32)), .val (.int (0 : Int32))] [])) (fun _ k => XS.icmpNo X45.here hx rfl (hb hby at_68) rfl (teq ((if_neg (Fld.ne O_NE O_EQ (own_vne (by decide)))).trans (if_pos rfl))).2 k) ?_
    refine own_by (T' := T45) (g' := (mkF m 72 #[.val (.int u), .val (.int (5 : Int32)), .val (.ref a_NE), .val (.int (own_by_ a_NE a_EQ a_NE)), .val (.int (0 : Int32)), .val (.ref t_NE), .val (.int (110 : Int32)), .val (.int (0 : Int32))] [(.int (own_by_ a_NE a_EQ a_NE))])) (fun _ k => XS.iloadN X45.here hx rfl (hb hby at_71) rfl k) ?_
    refine own_by (T' := T45) (g' := (mkF m 74 #[.val (.int u), .val (.int (5 : Int32)), .val (.ref a_NE), .val (.int (own_by_ a_NE a_EQ a_NE)), .val (.int (0 : Int32)), .val (.ref t_NE), .val (.int (110 : Int32)), .val (.int (0 : Int32))] [(.int (0 : Int32)), (.int (own_by_ a_NE a_EQ a_NE))])) (fun _ k => XS.iload X45.here hx rfl (hb hby at_72) rfl k) ?_
    refine own_by (T' := T45) (g' := (mkF m 77 #[.val (.int u), .val (.int (5 : Int32)), .val (.ref a_NE), .val (.int (own_by_ a_NE a_EQ a_NE)), .val (.int (0 : Int32)), .val (.ref t_NE), .val (.int (110 : Int32)), .val (.int (0 : Int32))] [])) (fun _ k => XS.icmpNo X45.here hx rfl (hb hby at_74) rfl (teq ((if_neg (Fld.ne O_NE O_EQ (own_vne (by decide)))).trans (if_pos rfl))).2 k) ?_
    refine own_by (T' := T45) (g' := (mkF m 78 #[.val (.int u), .val (.int (5 : Int32)), .val (.ref a_NE), .val (.int (own_by_ a_NE a_EQ a_NE)), .val (.int (0 : Int32)), .val (.ref t_NE), .val (.int (110 : Int32)), .val (.int (0 : Int32))] [(.int (1 : Int32))])) (fun _ k => XS.iconst X45.here hx rfl (hb hby at_77) k) ?_
    refine own_by (T' := T45) (g' := (mkF m 82 #[.val (.int u), .val (.int (5 : Int32)), .val (.ref a_NE), .val (.int (own_by_ a_NE a_EQ a_NE)), .val (.int (0 : Int32)), .val (.ref t_NE), .val (.int (110 : Int32)), .val (.int (0 : Int32))] [(.int (1 : Int32))])) (fun _ k => XS.goto X45.here hx rfl (pc0 := 78) (pc' := 82) rfl (hb hby at_78) (by decide) (by decide) k) ?_
    refine own_ret X45 hlk (v := some (.int (1 : Int32))) (fun h => by rw [Bd.returns] at h; cases h) (fun fs hr => retN X45 hx (t := .boolean) Bd.returns (by simp) (hb hby at_82) hr) ?_ (by decide) (by decide)
    rw [e45]
    exact ⟨rfl, N45⟩
set_option maxRecDepth 65536 in
set_option maxHeartbeats 40000000 in
theorem comes_1 {Post : Tables → Env → Array Value → State → Outcome → State → Prop} (hpost : ∀ tb e args s v u, (limb_1_1.after args s (.returned v) u = true ∧ limb_1_2.after args s (.returned v) u = true ∧ True) → FrameEnd s (.returned v) u (Jvm.fieldLocs frame_1_writes args s ++ Jvm.arrayLocs frame_1_arrays args s ++ Jvm.staticLocs frame_1_statics s) 0 0 → Post tb e args s (.returned v) u) :
    ArmFor flags0 classFile x code maxLocals ret World_1 tables_1 room_1 Calls_1 rest_1 Pre_1 Post := by
  intro l hfl _ _ p e ha hc hk s m args below hf hA hF happ hP
  obtain ⟨hcalls, hrest, hpre⟩ := hP
  obtain ⟨-, -, -, hnamed, -, -, -, hat⟩ := (Spec.applies_iff hf).mp happ
  obtain ⟨hg, hn⟩ := and_e (Cond.before_iff.mp (show (Jvm.Cond.and given_1 narrow_1).before args s = true from hpre))
  obtain ⟨g1, g2⟩ := and_e hg
  obtain ⟨w0, rfl⟩ : ∃ w0 : Value, args = #[w0] := by
    have hs : args.size = 1 := by simpa [Cond.value, given_1] using g1
    obtain ⟨L⟩ := args
    match L, hs with
    | [w0], _ => exact ⟨w0, rfl⟩
  have hw := fun d (hd : d ∈ tables_1) => atoms_spec (ws := Jvm.Cond.code x code maxLocals ret :: tables_1) hat d (List.mem_cons_of_mem _ hd)
  have hfit : Fit s := fun {y c} hc i hi => by
    obtain ⟨ha, rfl⟩ := Array.getElem?_eq_some_iff.mp hc
    have q := List.all_eq_true.mp ((Array.all_eq_true_iff_forall_mem.mp hF) _ (Array.getElem_mem ha)) i (List.mem_range.mpr hi)
    simpa [Array.getElem?_eq_getElem hi] using q
  obtain ⟨hsets, hown0⟩ := atoms_of _ (rest_1_c_eq ▸ (show rest_1_c.before _ s = true from hrest))
  have hr0 := Cond.before_iff.mp hown0
  obtain ⟨i0, ei0⟩ := is_v g2
  obtain rfl : w0 = (.int i0) := Option.some.inj ei0
  obtain ⟨n1, n2⟩ := and_e hn
  obtain ⟨n3, n4⟩ := and_e n2
  obtain ⟨n5, n6⟩ := and_e n4
  obtain ⟨n7, n8⟩ := and_e n6
  obtain ⟨n9, n10⟩ := and_e n8
  obtain ⟨n11, n12⟩ := and_e n10
  obtain ⟨n13, n14⟩ := and_e n12
  obtain ⟨n15, n16⟩ := and_e n14
  obtain ⟨n17, n18⟩ := and_e n16
  obtain ⟨n19, n20⟩ := and_e n18
  obtain ⟨n21, n22⟩ := and_e n20
  obtain ⟨n23, n24⟩ := and_e n22
  obtain ⟨n25, n26⟩ := and_e n24
  obtain ⟨n27, n28⟩ := and_e n26
  obtain ⟨n29, n30⟩ := and_e n28
  obtain ⟨n31, n32⟩ := and_e n30
  obtain ⟨n33, n34⟩ := and_e n32
  obtain ⟨n35, n36⟩ := and_e n34
  obtain ⟨n37, n38⟩ := and_e n36
  obtain ⟨n39, n40⟩ := and_e n38
  obtain ⟨n41, n42⟩ := and_e n40
  obtain ⟨n43, n44⟩ := and_e n42
  obtain ⟨n45, n46⟩ := and_e n44
  obtain ⟨n47, n48⟩ := and_e n46
  obtain ⟨n49, n50⟩ := and_e n48
  obtain ⟨n51, n52⟩ := and_e n50
  obtain ⟨n53, n54⟩ := and_e n52
  obtain ⟨n55, n56⟩ := and_e n54
  obtain ⟨n57, n58⟩ := and_e n56
  obtain ⟨n59, n60⟩ := and_e n58
  obtain ⟨n61, n62⟩ := and_e n60
  obtain ⟨n63, n64⟩ := and_e n62
  obtain ⟨n65, n66⟩ := and_e n64
  obtain ⟨n67, n68⟩ := and_e n66
  obtain ⟨n69, n70⟩ := and_e n68
  obtain ⟨n71, n72⟩ := and_e n70
  obtain ⟨n73, n74⟩ := and_e n72
  obtain ⟨n75, n76⟩ := and_e n74
  obtain ⟨n77, n78⟩ := and_e n76
  obtain ⟨n79, n80⟩ := and_e n78
  obtain ⟨n81, n82⟩ := and_e n80
  obtain ⟨n83, n84⟩ := and_e n82
  obtain ⟨n85, n86⟩ := and_e n84
  obtain ⟨n87, n88⟩ := and_e n86
  obtain ⟨n89, n90⟩ := and_e n88
  obtain ⟨n91, n92⟩ := and_e n90
  obtain ⟨n93, n94⟩ := and_e n92
  obtain ⟨a_GT, ev_GT⟩ := exa_v n1
  have E_GT : Exa s s.heap a_GT "com/example/nisaba/nisaba/item/Comparison" := Exa.start ev_GT n1
  have S_GT : Sta s s.heap "com/example/nisaba/nisaba/item/Comparison" "GT" "Lcom/example/nisaba/nisaba/item/Comparison;" (.ref a_GT) := Sta.start ev_GT (Or.inr ⟨(hw _ (List.mem_of_getElem? (i := 6) rfl)), (hw _ (List.mem_of_getElem? (i := 7) rfl))⟩)
  obtain ⟨a_EQ, ev_EQ⟩ := exa_v n3
  have E_EQ : Exa s s.heap a_EQ "com/example/nisaba/nisaba/item/Comparison" := Exa.start ev_EQ n3
  have S_EQ : Sta s s.heap "com/example/nisaba/nisaba/item/Comparison" "EQ" "Lcom/example/nisaba/nisaba/item/Comparison;" (.ref a_EQ) := Sta.start ev_EQ (Or.inr ⟨(hw _ (List.mem_of_getElem? (i := 6) rfl)), (hw _ (List.mem_of_getElem? (i := 14) rfl))⟩)
  obtain ⟨a_NE, ev_NE⟩ := exa_v n9
  have E_NE : Exa s s.heap a_NE "com/example/nisaba/nisaba/item/Comparison" := Exa.start ev_NE n9
  have S_NE : Sta s s.heap "com/example/nisaba/nisaba/item/Comparison" "NE" "Lcom/example/nisaba/nisaba/item/Comparison;" (.ref a_NE) := Sta.start ev_NE (Or.inr ⟨(hw _ (List.mem_of_getElem? (i := 6) rfl)), (hw _ (List.mem_of_getElem? (i := 16) rfl))⟩)
  obtain ⟨a_LE, ev_LE⟩ := exa_v n23
  have E_LE : Exa s s.heap a_LE "com/example/nisaba/nisaba/item/Comparison" := Exa.start ev_LE n23
  have S_LE : Sta s s.heap "com/example/nisaba/nisaba/item/Comparison" "LE" "Lcom/example/nisaba/nisaba/item/Comparison;" (.ref a_LE) := Sta.start ev_LE (Or.inr ⟨(hw _ (List.mem_of_getElem? (i := 6) rfl)), (hw _ (List.mem_of_getElem? (i := 53) rfl))⟩)
  obtain ⟨a_LT, ev_LT⟩ := exa_v n37
  have E_LT : Exa s s.heap a_LT "com/example/nisaba/nisaba/item/Comparison" := Exa.start ev_LT n37
  have S_LT : Sta s s.heap "com/example/nisaba/nisaba/item/Comparison" "LT" "Lcom/example/nisaba/nisaba/item/Comparison;" (.ref a_LT) := Sta.start ev_LT (Or.inr ⟨(hw _ (List.mem_of_getElem? (i := 6) rfl)), (hw _ (List.mem_of_getElem? (i := 55) rfl))⟩)
  obtain ⟨a_GE, ev_GE⟩ := exa_v n51
  have E_GE : Exa s s.heap a_GE "com/example/nisaba/nisaba/item/Comparison" := Exa.start ev_GE n51
  have S_GE : Sta s s.heap "com/example/nisaba/nisaba/item/Comparison" "GE" "Lcom/example/nisaba/nisaba/item/Comparison;" (.ref a_GE) := Sta.start ev_GE (Or.inr ⟨(hw _ (List.mem_of_getElem? (i := 6) rfl)), (hw _ (List.mem_of_getElem? (i := 57) rfl))⟩)
  have F_GT_ordinal : Fld s s.heap a_GT "java/lang/Enum" "ordinal" "I" (.int (0 : Int32)) := own_fld ev_GT n5
  have F_EQ_ordinal : Fld s s.heap a_EQ "java/lang/Enum" "ordinal" "I" (.int (4 : Int32)) := own_fld ev_EQ n7
  have F_NE_ordinal : Fld s s.heap a_NE "java/lang/Enum" "ordinal" "I" (.int (5 : Int32)) := own_fld ev_NE n11
  have F_LE_ordinal : Fld s s.heap a_LE "java/lang/Enum" "ordinal" "I" (.int (3 : Int32)) := own_fld ev_LE n25
  have F_LT_ordinal : Fld s s.heap a_LT "java/lang/Enum" "ordinal" "I" (.int (2 : Int32)) := own_fld ev_LT n39
  have F_GE_ordinal : Fld s s.heap a_GE "java/lang/Enum" "ordinal" "I" (.int (1 : Int32)) := own_fld ev_GE n53
  obtain ⟨t_GT, et_GT⟩ := exa_v n13
  have Et_GT : Exa s s.heap t_GT "java/lang/String" := Exa.start et_GT n13
  have Fn_GT : Fld s s.heap a_GT "com/example/nisaba/nisaba/item/Comparison" "apiName" "Ljava/lang/String;" (.ref t_GT) := Fld.start ((fld_at ev_GT).symm.trans et_GT)
  have Fc_GT := own_fld et_GT n15
  obtain ⟨r_GT, er_GT⟩ := arr_v n17
  have Fv_GT : Fld s s.heap t_GT "java/lang/String" "value" "[B" (.ref r_GT) := Fld.start ((fld_at et_GT).symm.trans er_GT)
  obtain ⟨cl_GT, A_GT⟩ := Arr.start er_GT n17
  have L_GT := own_len er_GT (Arr.fin (Vm.Alike.refl _) A_GT) n19
  have B0_GT := (elem_in (own_eqi n21) er_GT (Term.int_eval 0) A_GT.1).2
  have B1_GT := (elem_in (own_eqi n85) er_GT (Term.int_eval 1) A_GT.1).2
  have V_GT : Arv s s.heap r_GT cl_GT.cls .byte (2 : Int32) [.int (103 : Int32), .int (116 : Int32)] (.int (0 : Int32)) := Arv.start hfit A_GT L_GT.1 L_GT.2 (by decide) rfl ⟨B0_GT, B1_GT, trivial⟩
  obtain ⟨t_GE, et_GE⟩ := exa_v n55
  have Et_GE : Exa s s.heap t_GE "java/lang/String" := Exa.start et_GE n55
  have Fn_GE : Fld s s.heap a_GE "com/example/nisaba/nisaba/item/Comparison" "apiName" "Ljava/lang/String;" (.ref t_GE) := Fld.start ((fld_at ev_GE).symm.trans et_GE)
  have Fc_GE := own_fld et_GE n57
  obtain ⟨r_GE, er_GE⟩ := arr_v n59
  have Fv_GE : Fld s s.heap t_GE "java/lang/String" "value" "[B" (.ref r_GE) := Fld.start ((fld_at et_GE).symm.trans er_GE)
  obtain ⟨cl_GE, A_GE⟩ := Arr.start er_GE n59
  have L_GE := own_len er_GE (Arr.fin (Vm.Alike.refl _) A_GE) n61
  have B0_GE := (elem_in (own_eqi n63) er_GE (Term.int_eval 0) A_GE.1).2
  have B1_GE := (elem_in (own_eqi n91) er_GE (Term.int_eval 1) A_GE.1).2
  have V_GE : Arv s s.heap r_GE cl_GE.cls .byte (2 : Int32) [.int (103 : Int32), .int (101 : Int32)] (.int (0 : Int32)) := Arv.start hfit A_GE L_GE.1 L_GE.2 (by decide) rfl ⟨B0_GE, B1_GE, trivial⟩
  obtain ⟨t_LT, et_LT⟩ := exa_v n41
  have Et_LT : Exa s s.heap t_LT "java/lang/String" := Exa.start et_LT n41
  have Fn_LT : Fld s s.heap a_LT "com/example/nisaba/nisaba/item/Comparison" "apiName" "Ljava/lang/String;" (.ref t_LT) := Fld.start ((fld_at ev_LT).symm.trans et_LT)
  have Fc_LT := own_fld et_LT n43
  obtain ⟨r_LT, er_LT⟩ := arr_v n45
  have Fv_LT : Fld s s.heap t_LT "java/lang/String" "value" "[B" (.ref r_LT) := Fld.start ((fld_at et_LT).symm.trans er_LT)
  obtain ⟨cl_LT, A_LT⟩ := Arr.start er_LT n45
  have L_LT := own_len er_LT (Arr.fin (Vm.Alike.refl _) A_LT) n47
  have B0_LT := (elem_in (own_eqi n49) er_LT (Term.int_eval 0) A_LT.1).2
  have B1_LT := (elem_in (own_eqi n89) er_LT (Term.int_eval 1) A_LT.1).2
  have V_LT : Arv s s.heap r_LT cl_LT.cls .byte (2 : Int32) [.int (108 : Int32), .int (116 : Int32)] (.int (0 : Int32)) := Arv.start hfit A_LT L_LT.1 L_LT.2 (by decide) rfl ⟨B0_LT, B1_LT, trivial⟩
  obtain ⟨t_LE, et_LE⟩ := exa_v n27
  have Et_LE : Exa s s.heap t_LE "java/lang/String" := Exa.start et_LE n27
  have Fn_LE : Fld s s.heap a_LE "com/example/nisaba/nisaba/item/Comparison" "apiName" "Ljava/lang/String;" (.ref t_LE) := Fld.start ((fld_at ev_LE).symm.trans et_LE)
  have Fc_LE := own_fld et_LE n29
  obtain ⟨r_LE, er_LE⟩ := arr_v n31
  have Fv_LE : Fld s s.heap t_LE "java/lang/String" "value" "[B" (.ref r_LE) := Fld.start ((fld_at et_LE).symm.trans er_LE)
  obtain ⟨cl_LE, A_LE⟩ := Arr.start er_LE n31
  have L_LE := own_len er_LE (Arr.fin (Vm.Alike.refl _) A_LE) n33
  have B0_LE := (elem_in (own_eqi n35) er_LE (Term.int_eval 0) A_LE.1).2
  have B1_LE := (elem_in (own_eqi n87) er_LE (Term.int_eval 1) A_LE.1).2
  have V_LE : Arv s s.heap r_LE cl_LE.cls .byte (2 : Int32) [.int (108 : Int32), .int (101 : Int32)] (.int (0 : Int32)) := Arv.start hfit A_LE L_LE.1 L_LE.2 (by decide) rfl ⟨B0_LE, B1_LE, trivial⟩
  obtain ⟨t_EQ, et_EQ⟩ := exa_v n75
  have Et_EQ : Exa s s.heap t_EQ "java/lang/String" := Exa.start et_EQ n75
  have Fn_EQ : Fld s s.heap a_EQ "com/example/nisaba/nisaba/item/Comparison" "apiName" "Ljava/lang/String;" (.ref t_EQ) := Fld.start ((fld_at ev_EQ).symm.trans et_EQ)
  have Fc_EQ := own_fld et_EQ n77
  obtain ⟨r_EQ, er_EQ⟩ := arr_v n79
  have Fv_EQ : Fld s s.heap t_EQ "java/lang/String" "value" "[B" (.ref r_EQ) := Fld.start ((fld_at et_EQ).symm.trans er_EQ)
  obtain ⟨cl_EQ, A_EQ⟩ := Arr.start er_EQ n79
  have L_EQ := own_len er_EQ (Arr.fin (Vm.Alike.refl _) A_EQ) n81
  have B0_EQ := (elem_in (own_eqi n83) er_EQ (Term.int_eval 0) A_EQ.1).2
  have B1_EQ := (elem_in (own_eqi n94) er_EQ (Term.int_eval 1) A_EQ.1).2
  have V_EQ : Arv s s.heap r_EQ cl_EQ.cls .byte (2 : Int32) [.int (101 : Int32), .int (113 : Int32)] (.int (0 : Int32)) := Arv.start hfit A_EQ L_EQ.1 L_EQ.2 (by decide) rfl ⟨B0_EQ, B1_EQ, trivial⟩
  obtain ⟨t_NE, et_NE⟩ := exa_v n65
  have Et_NE : Exa s s.heap t_NE "java/lang/String" := Exa.start et_NE n65
  have Fn_NE : Fld s s.heap a_NE "com/example/nisaba/nisaba/item/Comparison" "apiName" "Ljava/lang/String;" (.ref t_NE) := Fld.start ((fld_at ev_NE).symm.trans et_NE)
  have Fc_NE := own_fld et_NE n67
  obtain ⟨r_NE, er_NE⟩ := arr_v n69
  have Fv_NE : Fld s s.heap t_NE "java/lang/String" "value" "[B" (.ref r_NE) := Fld.start ((fld_at et_NE).symm.trans er_NE)
  obtain ⟨cl_NE, A_NE⟩ := Arr.start er_NE n69
  have L_NE := own_len er_NE (Arr.fin (Vm.Alike.refl _) A_NE) n71
  have B0_NE := (elem_in (own_eqi n73) er_NE (Term.int_eval 0) A_NE.1).2
  have B1_NE := (elem_in (own_eqi n93) er_NE (Term.int_eval 1) A_NE.1).2
  have V_NE : Arv s s.heap r_NE cl_NE.cls .byte (2 : Int32) [.int (110 : Int32), .int (101 : Int32)] (.int (0 : Int32)) := Arv.start hfit A_NE L_NE.1 L_NE.2 (by decide) rfl ⟨B0_NE, B1_NE, trivial⟩
  obtain ⟨cs, ecs⟩ := is_v (Cond.before_iff.mp (hsets _ (List.mem_of_getElem? (i := 1) rfl)))
  have S_CS : Sta s s.heap "java/lang/String" "COMPACT_STRINGS" "Z" (.int cs) := Sta.start ecs (Or.inl (hsets _ (List.mem_of_getElem? (i := 0) rfl)))
  have hcs : ¬ cs = (0 : Int32) := own_ne0 ecs (hsets _ (List.mem_of_getElem? (i := 2) rfl))
  obtain ⟨sf, esf, hsf⟩ := isR_v (Cond.before_iff.mp (hsets _ (List.mem_of_getElem? (i := 8) rfl)))
  have S_SF : Sta s s.heap "jdk/internal/util/Preconditions" "SIOOBE_FORMATTER" "Ljava/util/function/BiFunction;" sf := Sta.start esf (Or.inl (hsets _ (List.mem_of_getElem? (i := 7) rfl)))
  obtain ⟨n, o, h1, h2, h3, _, L, rfl, ⟨rfl, N⟩, hq⟩ := rm0 l s _ hw tables_1 i0 a_GT t_GT r_GT cl_GT.cls a_GE t_GE r_GE cl_GE.cls a_LT t_LT r_LT cl_LT.cls a_LE t_LE r_LE cl_LE.cls a_EQ t_EQ r_EQ cl_EQ.cls a_NE t_NE r_NE cl_NE.cls cs sf s.heap s.heap.size (Nat.le_refl _) S_GT S_GE S_LT S_LE S_EQ S_NE E_GT E_GE E_LT E_LE E_EQ E_NE F_GT_ordinal F_GE_ordinal F_LT_ordinal F_LE_ordinal F_EQ_ordinal F_NE_ordinal Fn_GT Fn_GE Fn_LT Fn_LE Fn_EQ Fn_NE Et_GT Et_GE Et_LT Et_LE Et_EQ Et_NE Fc_GT Fc_GE Fc_LT Fc_LE Fc_EQ Fc_NE Fv_GT Fv_GE Fv_LT Fv_LE Fv_EQ Fv_NE V_GT V_GE V_LT V_LE V_EQ V_NE S_CS hcs hsf S_SF p e ha hc hk s m _ below hf ((Spec.applies_iff_loose hf).mp happ).1 ⟨rfl, State.Warmed39.refl s, rfl⟩ trivial
  refine ⟨n, _, h1, h2, h3, hpost _ _ _ _ _ _ ⟨Cond.after_iff.mpr rfl, Cond.after_iff.mpr (eq_i res_at (Term.int_eval (1)) rfl), trivial⟩ ⟨hq.1, hq.2.1, (hq.2.2.sift fun y hy => Or.inr (N y hy)).mono (by decide) (by decide)⟩⟩
theorem main_1_1 : Claimed_1_1 := comes_1 fun _ _ _ _ _ _ h hF => ⟨h.1, hF⟩
theorem main_1_2 : Claimed_1_2 := comes_1 fun _ _ _ _ _ _ h hF => ⟨h.2.1, hF⟩
end Jvm.Pilot.@@N@@
namespace Jvm.Pilot.@@N@@
open Jvm Jvm.ClassFile Sem Op Lib Jvm.Free Jvm.Stand Jvm.Pilot.@@N@@.Jvm.D
/-! MADE BY PROGRAM (witnessworld.py) out of the Statement's table words and the real class files: 18 classes; the members and pool entries that the words name. The judged class is class 1, her method 2. -/
namespace start1
open Jvm.ClassFile
def u (s : String) : CpInfo := .utf8 (stringToUtf16 s)
/-- a pool by its gaps: so many unusable entries, then the entry; so many at the end -/
def gap : Nat → List CpInfo → List CpInfo
  | 0, r => r
  | n + 1, r => .unusable :: gap n r
def poolList (es : List (Nat × CpInfo)) (last : Nat) : List CpInfo := es.foldr (fun e r => gap e.1 (e.2 :: r)) (gap last [])
def pool (es : List (Nat × CpInfo)) (last : Nat) : Array CpInfo := ⟨poolList es last⟩
def fileOf (pool : Array CpInfo) (this : Nat) (attrs : Array Attribute := #[]) (ms : Array MethodInfo := #[]) (fl : Nat := 33) (sup : Nat := 0) (ifs : Array Nat := #[]) (fds : Array FieldInfo := #[]) : ClassFile where
  minorVersion := 0
  majorVersion := 65
  constantPool := pool
  accessFlags := fl
  thisClass := this
  superClass := sup
  interfaces := ifs
  fields := fds
  methods := ms
  attributes := attrs
def plain (name : String) (sup : Option ClassId) : Class where
  name := name
  kind := .ordinary
  loader := none
  accessFlags := 33
  super := sup
  interfaces := #[]
  cf := none
  fields := #[]
  methods := #[]
  instanceTypes := #[]
  staticTypes := #[]
  resolved := #[]
  callSites := []
  init := .initialized
  statics := none
  mirror := none

def pool0 : Array CpInfo := pool [(5, u "<init>"), (0, u "()V"), (1, .class_ 10), (1, u "java/lang/Object")] 113

def k0m0 : Method := { name := "<init>", desc := "()V", sig := { parameters := [], returnType := none }, accessFlags := 1, code := none }
/-- java/lang/Object -/
def k0 : Class := { plain "java/lang/Object" none with
  accessFlags := 33
  interfaces := #[]
  cf := some (fileOf pool0 8 #[] #[{ accessFlags := 1, nameIndex := 5, descriptorIndex := 6, attributes := #[] }] 33 0 #[] #[])
  fields := #[]
  methods := #[k0m0]
  instanceTypes := #[]
  staticTypes := #[]
  resolved := Array.replicate 124 none
  statics := none }

def pool1 : Array CpInfo := pool [(2, .class_ 4), (1, u "java/lang/Object"), (0, u "<init>"), (0, u "()V"), (0, .fieldref 8 9), (0, .class_ 10), (0, .nameAndType 11 12), (0, u "com/example/nisaba/nisaba/item/Comparison"), (0, u "GT"), (0, u "Lcom/example/nisaba/nisaba/item/Comparison;"), (0, .fieldref 8 14), (0, .nameAndType 15 12), (0, u "GE"), (0, .fieldref 8 17), (0, .nameAndType 18 12), (0, u "LT"), (0, .fieldref 8 20), (0, .nameAndType 21 12), (0, u "LE"), (0, .fieldref 8 23), (0, .nameAndType 24 12), (0, u "EQ"), (0, .fieldref 8 26), (0, .nameAndType 27 12), (0, u "NE"), (0, .integer 2147483647), (0, .methodref 30 31), (0, .class_ 32), (0, .nameAndType 33 34), (0, u "com/example/nisaba/nisaba/item/ComparisonByOrderPinLaw"), (0, u "pick"), (0, u "(I)Lcom/example/nisaba/nisaba/item/Comparison;"), (0, .methodref 8 36), (0, .nameAndType 37 38), (0, u "byOrder"), (0, u "()Z"), (0, .methodref 8 40), (0, .nameAndType 41 42), (0, u "apiName"), (0, u "()Ljava/lang/String;"), (0, .methodref 44 45), (0, .class_ 46), (0, .nameAndType 47 48), (0, u "java/lang/String"), (0, u "charAt"), (0, u "(I)C"), (3, u "law"), (0, u "(I)Z")] 2

def k1m0 : Method := { name := "<init>", desc := "()V", sig := { parameters := [], returnType := none }, accessFlags := 2, code := none }
def k1c1 : Code := { maxStack := 2, maxLocals := 1, code := method_2_code, exceptionTable := #[], attributes := #[] }
def k1m1 : Method := { name := "pick", desc := "(I)Lcom/example/nisaba/nisaba/item/Comparison;", sig := { parameters := [.int], returnType := some (.object "com/example/nisaba/nisaba/item/Comparison") }, accessFlags := 10, code := some k1c1 }
def k1c2 : Code := { maxStack := 2, maxLocals := 8, code := code, exceptionTable := #[], attributes := #[] }
def k1m2 : Method := { name := "law", desc := "(I)Z", sig := { parameters := [.int], returnType := some .boolean }, accessFlags := 9, code := some k1c2 }
/-- com/example/nisaba/nisaba/item/ComparisonByOrderPinLaw -/
def k1 : Class := { plain "com/example/nisaba/nisaba/item/ComparisonByOrderPinLaw" (some 0) with
  accessFlags := 49
  interfaces := #[]
  cf := some (fileOf pool1 30 #[] #[{ accessFlags := 2, nameIndex := 5, descriptorIndex := 6, attributes := #[] }, { accessFlags := 10, nameIndex := 33, descriptorIndex := 34, attributes := #[] }, { accessFlags := 9, nameIndex := 52, descriptorIndex := 53, attributes := #[] }] 49 2 #[] #[])
  fields := #[]
  methods := #[k1m0, k1m1, k1m2]
  instanceTypes := #[]
  staticTypes := #[]
  resolved := Array.replicate 56 none
  statics := none }

def pool2 : Array CpInfo := pool [(1, .class_ 2), (0, u "java/lang/constant/Constable"), (0, .class_ 4), (0, u "java/lang/Object")] 6

/-- java/lang/constant/Constable -/
def k2 : Class := { plain "java/lang/constant/Constable" (some 0) with
  accessFlags := 1537
  interfaces := #[]
  cf := some (fileOf pool2 1 #[] #[] 1537 3 #[] #[])
  fields := #[]
  methods := #[]
  instanceTypes := #[]
  staticTypes := #[]
  resolved := Array.replicate 11 none
  statics := none }

def pool3 : Array CpInfo := pool [(1, .class_ 2), (0, u "java/lang/Comparable"), (0, .class_ 4), (0, u "java/lang/Object")] 7

/-- java/lang/Comparable -/
def k3 : Class := { plain "java/lang/Comparable" (some 0) with
  accessFlags := 1537
  interfaces := #[]
  cf := some (fileOf pool3 1 #[] #[] 1537 3 #[] #[])
  fields := #[]
  methods := #[]
  instanceTypes := #[]
  staticTypes := #[]
  resolved := Array.replicate 12 none
  statics := none }

def pool4 : Array CpInfo := pool [(1, .class_ 2), (0, u "java/io/Serializable"), (0, .class_ 4), (0, u "java/lang/Object")] 2

/-- java/io/Serializable -/
def k4 : Class := { plain "java/io/Serializable" (some 0) with
  accessFlags := 1537
  interfaces := #[]
  cf := some (fileOf pool4 1 #[] #[] 1537 3 #[] #[])
  fields := #[]
  methods := #[]
  instanceTypes := #[]
  staticTypes := #[]
  resolved := Array.replicate 7 none
  statics := none }

def pool5 : Array CpInfo := pool [(2, .class_ 4), (1, u "java/lang/Enum"), (0, u "name"), (0, u "Ljava/lang/String;"), (2, u "ordinal"), (0, u "I"), (1, .class_ 14), (1, u "java/lang/Object"), (4, u "hash"), (86, .class_ 108), (1, u "java/lang/Enum$EnumDesc"), (2, .class_ 112), (0, u "java/lang/constant/Constable"), (0, .class_ 114), (0, u "java/lang/Comparable"), (0, .class_ 116), (0, u "java/io/Serializable")] 87

/-- java/lang/Enum -/
def k5 : Class := { plain "java/lang/Enum" (some 0) with
  accessFlags := 1057
  interfaces := #[2, 3, 4]
  cf := some (fileOf pool5 2 #[.nestMembers #[106]] #[] 1057 12 #[111, 113, 115] #[{ accessFlags := 18, nameIndex := 5, descriptorIndex := 6, attributes := #[] }, { accessFlags := 18, nameIndex := 9, descriptorIndex := 10, attributes := #[] }, { accessFlags := 2, nameIndex := 19, descriptorIndex := 10, attributes := #[] }])
  fields := #[{ name := "name", type := (.object "java/lang/String"), accessFlags := 18, slot := 0, constantValue := 0 }, { name := "ordinal", type := .int, accessFlags := 18, slot := 1, constantValue := 0 }, { name := "hash", type := .int, accessFlags := 2, slot := 2, constantValue := 0 }]
  methods := #[]
  instanceTypes := #[(.object "java/lang/String"), .int, .int]
  staticTypes := #[]
  resolved := Array.replicate 204 none
  statics := none }

def pool6 : Array CpInfo := pool [(1, .class_ 2), (0, u "com/example/nisaba/nisaba/item/Comparison"), (2, u "GT"), (0, u "Lcom/example/nisaba/nisaba/item/Comparison;"), (2, u "GE"), (2, u "LT"), (2, u "LE"), (0, .fieldref 1 17), (0, .nameAndType 18 6), (0, u "EQ"), (0, .fieldref 1 20), (0, .nameAndType 21 6), (0, u "NE"), (2, u "$VALUES"), (0, u "[Lcom/example/nisaba/nisaba/item/Comparison;"), (6, .class_ 34), (1, u "java/lang/Enum"), (6, .fieldref 1 42), (0, .nameAndType 43 44), (0, u "apiName"), (0, u "Ljava/lang/String;"), (2, u "operator"), (97, u "()Ljava/lang/String;"), (1, u "byOrder"), (0, u "()Z")] 45

def k6c0 : Code := { maxStack := 1, maxLocals := 1, code := prog_18_method_4_code, exceptionTable := #[], attributes := #[] }
def k6m0 : Method := { name := "apiName", desc := "()Ljava/lang/String;", sig := { parameters := [], returnType := some (.object "java/lang/String") }, accessFlags := 1, code := some k6c0 }
def k6c1 : Code := { maxStack := 2, maxLocals := 1, code := prog_18_method_6_code, exceptionTable := #[], attributes := #[] }
def k6m1 : Method := { name := "byOrder", desc := "()Z", sig := { parameters := [], returnType := some .boolean }, accessFlags := 0, code := some k6c1 }
/-- com/example/nisaba/nisaba/item/Comparison -/
def k6 : Class := { plain "com/example/nisaba/nisaba/item/Comparison" (some 5) with
  accessFlags := 16433
  interfaces := #[]
  cf := some (fileOf pool6 1 #[] #[{ accessFlags := 1, nameIndex := 43, descriptorIndex := 145, attributes := #[] }, { accessFlags := 0, nameIndex := 147, descriptorIndex := 148, attributes := #[] }] 16433 32 #[] #[{ accessFlags := 16409, nameIndex := 5, descriptorIndex := 6, attributes := #[] }, { accessFlags := 16409, nameIndex := 9, descriptorIndex := 6, attributes := #[] }, { accessFlags := 16409, nameIndex := 12, descriptorIndex := 6, attributes := #[] }, { accessFlags := 16409, nameIndex := 15, descriptorIndex := 6, attributes := #[] }, { accessFlags := 16409, nameIndex := 18, descriptorIndex := 6, attributes := #[] }, { accessFlags := 16409, nameIndex := 21, descriptorIndex := 6, attributes := #[] }, { accessFlags := 18, nameIndex := 43, descriptorIndex := 44, attributes := #[] }, { accessFlags := 18, nameIndex := 47, descriptorIndex := 44, attributes := #[] }, { accessFlags := 4122, nameIndex := 24, descriptorIndex := 25, attributes := #[] }])
  fields := #[{ name := "GT", type := (.object "com/example/nisaba/nisaba/item/Comparison"), accessFlags := 16409, slot := 0, constantValue := 0 }, { name := "GE", type := (.object "com/example/nisaba/nisaba/item/Comparison"), accessFlags := 16409, slot := 1, constantValue := 0 }, { name := "LT", type := (.object "com/example/nisaba/nisaba/item/Comparison"), accessFlags := 16409, slot := 2, constantValue := 0 }, { name := "LE", type := (.object "com/example/nisaba/nisaba/item/Comparison"), accessFlags := 16409, slot := 3, constantValue := 0 }, { name := "EQ", type := (.object "com/example/nisaba/nisaba/item/Comparison"), accessFlags := 16409, slot := 4, constantValue := 0 }, { name := "NE", type := (.object "com/example/nisaba/nisaba/item/Comparison"), accessFlags := 16409, slot := 5, constantValue := 0 }, { name := "apiName", type := (.object "java/lang/String"), accessFlags := 18, slot := 3, constantValue := 0 }, { name := "operator", type := (.object "java/lang/String"), accessFlags := 18, slot := 4, constantValue := 0 }, { name := "$VALUES", type := (.array (.object "com/example/nisaba/nisaba/item/Comparison")), accessFlags := 4122, slot := 6, constantValue := 0 }]
  methods := #[k6m0, k6m1]
  instanceTypes := #[(.object "java/lang/String"), .int, .int, (.object "java/lang/String"), (.object "java/lang/String")]
  staticTypes := #[(.object "com/example/nisaba/nisaba/item/Comparison"), (.object "com/example/nisaba/nisaba/item/Comparison"), (.object "com/example/nisaba/nisaba/item/Comparison"), (.object "com/example/nisaba/nisaba/item/Comparison"), (.object "com/example/nisaba/nisaba/item/Comparison"), (.object "com/example/nisaba/nisaba/item/Comparison"), (.array (.object "com/example/nisaba/nisaba/item/Comparison"))]
  resolved := Array.replicate 194 none
  statics := some 0 }

def pool7 : Array CpInfo := pool [(2, .class_ 4), (1, u "java/lang/CharSequence"), (42, .class_ 48), (0, u "java/lang/CharSequence$1CodePointIterator"), (10, .class_ 60), (0, u "java/lang/CharSequence$1CharIterator"), (5, .class_ 67), (0, u "java/lang/Object")] 63

/-- java/lang/CharSequence -/
def k7 : Class := { plain "java/lang/CharSequence" (some 0) with
  accessFlags := 1537
  interfaces := #[]
  cf := some (fileOf pool7 2 #[.nestMembers #[47, 59]] #[] 1537 66 #[] #[])
  fields := #[]
  methods := #[]
  instanceTypes := #[]
  staticTypes := #[]
  resolved := Array.replicate 131 none
  statics := none }

def pool8 : Array CpInfo := pool [(1, .class_ 2), (0, u "java/lang/constant/ConstantDesc"), (0, .class_ 4), (0, u "java/lang/Object")] 32

/-- java/lang/constant/ConstantDesc -/
def k8 : Class := { plain "java/lang/constant/ConstantDesc" (some 0) with
  accessFlags := 1537
  interfaces := #[]
  cf := some (fileOf pool8 1 #[] #[] 1537 3 #[] #[])
  fields := #[]
  methods := #[]
  instanceTypes := #[]
  staticTypes := #[]
  resolved := Array.replicate 37 none
  statics := none }

def pool9 : Array CpInfo := pool [(2, .class_ 4), (1, u "java/lang/Object"), (0, u "<init>"), (0, u "()V"), (2, .fieldref 10 11), (0, .class_ 12), (0, .nameAndType 13 14), (0, u "java/lang/String"), (0, u "value"), (0, u "[B"), (0, .fieldref 10 16), (0, .nameAndType 17 18), (0, u "coder"), (0, u "B"), (2, u "hash"), (0, u "I"), (2, u "hashIsZero"), (0, u "Z"), (11, .fieldref 10 39), (0, .nameAndType 40 26), (0, u "COMPACT_STRINGS"), (66, .class_ 109), (1, u "java/lang/StringLatin1"), (32, u "()Z"), (220, u "([BI)C"), (27, u "(II)V"), (35, u "(I)C"), (64, .methodref 10 493), (0, .nameAndType 494 142), (0, u "isLatin1"), (0, .methodref 107 496), (0, .nameAndType 497 363), (0, u "charAt"), (3, u "checkIndex"), (73, .class_ 576), (0, u "java/lang/CharSequence"), (22, u "CASE_INSENSITIVE_ORDER"), (0, u "Ljava/util/Comparator;"), (452, .fieldref 1054 1055), (0, .class_ 1056), (0, .nameAndType 1057 1058), (0, u "jdk/internal/util/Preconditions"), (0, u "SIOOBE_FORMATTER"), (0, u "Ljava/util/function/BiFunction;"), (0, .methodref 1054 1060), (0, .nameAndType 501 1061), (0, u "(IILjava/util/function/BiFunction;)I"), (39, u "serialPersistentFields"), (0, u "[Ljava/io/ObjectStreamField;"), (0, .class_ 1104), (0, u "java/lang/String$CaseInsensitiveComparator"), (1, .class_ 1107), (0, u "java/io/Serializable"), (0, .class_ 1109), (0, u "java/lang/Comparable"), (0, .class_ 1111), (0, u "java/lang/constant/Constable"), (0, .class_ 1113), (0, u "java/lang/constant/ConstantDesc"), (2, u "serialVersionUID"), (0, u "J"), (3, u "REPL"), (0, u "C"), (2, u "LATIN1"), (1, u "UTF16")] 323

def k9m0 : Method := { name := "<init>", desc := "()V", sig := { parameters := [], returnType := none }, accessFlags := 1, code := none }
def k9c1 : Code := { maxStack := 2, maxLocals := 2, code := jdk_42_method_56_code, exceptionTable := #[], attributes := #[] }
def k9m1 : Method := { name := "charAt", desc := "(I)C", sig := { parameters := [.int], returnType := some .char }, accessFlags := 1, code := some k9c1 }
def k9c2 : Code := { maxStack := 1, maxLocals := 1, code := jdk_42_method_154_code, exceptionTable := #[], attributes := #[] }
def k9m2 : Method := { name := "isLatin1", desc := "()Z", sig := { parameters := [], returnType := some .boolean }, accessFlags := 0, code := some k9c2 }
def k9c3 : Code := { maxStack := 3, maxLocals := 2, code := jdk_42_method_155_code, exceptionTable := #[], attributes := #[] }
def k9m3 : Method := { name := "checkIndex", desc := "(II)V", sig := { parameters := [.int, .int], returnType := none }, accessFlags := 8, code := some k9c3 }
/-- java/lang/String -/
def k9 : Class := { plain "java/lang/String" (some 0) with
  accessFlags := 49
  interfaces := #[4, 3, 7, 2, 8]
  cf := some (fileOf pool9 10 #[.nestMembers #[1103]] #[{ accessFlags := 1, nameIndex := 5, descriptorIndex := 6, attributes := #[] }, { accessFlags := 1, nameIndex := 497, descriptorIndex := 427, attributes := #[] }, { accessFlags := 0, nameIndex := 494, descriptorIndex := 142, attributes := #[] }, { accessFlags := 8, nameIndex := 501, descriptorIndex := 391, attributes := #[] }] 49 2 #[1106, 1108, 575, 1110, 1112] #[{ accessFlags := 18, nameIndex := 13, descriptorIndex := 14, attributes := #[] }, { accessFlags := 18, nameIndex := 17, descriptorIndex := 18, attributes := #[] }, { accessFlags := 2, nameIndex := 21, descriptorIndex := 22, attributes := #[] }, { accessFlags := 2, nameIndex := 25, descriptorIndex := 26, attributes := #[] }, { accessFlags := 26, nameIndex := 1116, descriptorIndex := 1117, attributes := #[] }, { accessFlags := 24, nameIndex := 40, descriptorIndex := 26, attributes := #[] }, { accessFlags := 26, nameIndex := 1101, descriptorIndex := 1102, attributes := #[] }, { accessFlags := 26, nameIndex := 1121, descriptorIndex := 1122, attributes := #[] }, { accessFlags := 25, nameIndex := 599, descriptorIndex := 600, attributes := #[] }, { accessFlags := 24, nameIndex := 1125, descriptorIndex := 18, attributes := #[] }, { accessFlags := 24, nameIndex := 1127, descriptorIndex := 18, attributes := #[] }])
  fields := #[{ name := "value", type := (.array .byte), accessFlags := 18, slot := 0, constantValue := 0 }, { name := "coder", type := .byte, accessFlags := 18, slot := 1, constantValue := 0 }, { name := "hash", type := .int, accessFlags := 2, slot := 2, constantValue := 0 }, { name := "hashIsZero", type := .boolean, accessFlags := 2, slot := 3, constantValue := 0 }, { name := "serialVersionUID", type := .long, accessFlags := 26, slot := 0, constantValue := 0 }, { name := "COMPACT_STRINGS", type := .boolean, accessFlags := 24, slot := 1, constantValue := 0 }, { name := "serialPersistentFields", type := (.array (.object "java/io/ObjectStreamField")), accessFlags := 26, slot := 2, constantValue := 0 }, { name := "REPL", type := .char, accessFlags := 26, slot := 3, constantValue := 0 }, { name := "CASE_INSENSITIVE_ORDER", type := (.object "java/util/Comparator"), accessFlags := 25, slot := 4, constantValue := 0 }, { name := "LATIN1", type := .byte, accessFlags := 24, slot := 5, constantValue := 0 }, { name := "UTF16", type := .byte, accessFlags := 24, slot := 6, constantValue := 0 }]
  methods := #[k9m0, k9m1, k9m2, k9m3]
  instanceTypes := #[(.array .byte), .byte, .int, .boolean]
  staticTypes := #[.long, .boolean, (.array (.object "java/io/ObjectStreamField")), .char, (.object "java/util/Comparator"), .byte, .byte]
  resolved := Array.replicate 1451 none
  statics := some 1 }

def pool10 : Array CpInfo := pool [(1, .class_ 2), (0, u "java/lang/String"), (1, .class_ 6), (1, u "java/lang/Object"), (0, u "<init>"), (0, u "()V"), (0, .methodref 1 10), (0, .nameAndType 11 12), (0, u "checkIndex"), (0, u "(II)V"), (1, .class_ 16), (1, u "java/lang/StringLatin1"), (36, u "([BI)C"), (67, u "$assertionsDisabled"), (0, u "Z"), (98, .class_ 223), (1, u "java/lang/StringLatin1$LinesSpliterator"), (28, u "charAt"), (137, .class_ 391), (0, u "java/lang/StringLatin1$CharsSpliterator")] 3

def k10m0 : Method := { name := "<init>", desc := "()V", sig := { parameters := [], returnType := none }, accessFlags := 0, code := none }
def k10c1 : Code := { maxStack := 2, maxLocals := 2, code := jdk_43_method_2_code, exceptionTable := #[], attributes := #[] }
def k10m1 : Method := { name := "charAt", desc := "([BI)C", sig := { parameters := [(.array .byte), .int], returnType := some .char }, accessFlags := 9, code := some k10c1 }
/-- java/lang/StringLatin1 -/
def k10 : Class := { plain "java/lang/StringLatin1" (some 0) with
  accessFlags := 48
  interfaces := #[]
  cf := some (fileOf pool10 14 #[.nestMembers #[390, 221]] #[{ accessFlags := 0, nameIndex := 7, descriptorIndex := 8, attributes := #[] }, { accessFlags := 9, nameIndex := 252, descriptorIndex := 53, attributes := #[] }] 48 4 #[] #[{ accessFlags := 4120, nameIndex := 121, descriptorIndex := 122, attributes := #[] }])
  fields := #[{ name := "$assertionsDisabled", type := .boolean, accessFlags := 4120, slot := 0, constantValue := 0 }]
  methods := #[k10m0, k10m1]
  instanceTypes := #[]
  staticTypes := #[.boolean]
  resolved := Array.replicate 395 none
  statics := none }

def pool11 : Array CpInfo := pool [(2, .class_ 4), (1, u "java/lang/Object"), (0, u "<init>"), (0, u "()V"), (17, .class_ 26), (1, u "jdk/internal/util/Preconditions"), (6, u "checkIndex"), (21, .class_ 56), (0, u "jdk/internal/util/Preconditions$4"), (57, .class_ 115), (0, u "jdk/internal/util/Preconditions$1"), (7, u "SIOOBE_FORMATTER"), (0, u "Ljava/util/function/BiFunction;"), (0, .class_ 126), (0, u "jdk/internal/util/Preconditions$2"), (3, u "AIOOBE_FORMATTER"), (0, .class_ 132), (0, u "jdk/internal/util/Preconditions$3"), (3, u "IOOBE_FORMATTER"), (41, u "(IILjava/util/function/BiFunction;)I")] 15

def k11m0 : Method := { name := "<init>", desc := "()V", sig := { parameters := [], returnType := none }, accessFlags := 1, code := none }
def k11c1 : Code := { maxStack := 3, maxLocals := 3, code := jdk_41_method_11_code, exceptionTable := #[], attributes := #[] }
def k11m1 : Method := { name := "checkIndex", desc := "(IILjava/util/function/BiFunction;)I", sig := { parameters := [.int, .int, (.object "java/util/function/BiFunction")], returnType := some .int }, accessFlags := 9, code := some k11c1 }
/-- jdk/internal/util/Preconditions -/
def k11 : Class := { plain "jdk/internal/util/Preconditions" (some 0) with
  accessFlags := 33
  interfaces := #[]
  cf := some (fileOf pool11 24 #[.nestMembers #[55, 131, 125, 114]] #[{ accessFlags := 1, nameIndex := 5, descriptorIndex := 6, attributes := #[] }, { accessFlags := 9, nameIndex := 33, descriptorIndex := 178, attributes := #[] }] 33 2 #[] #[{ accessFlags := 25, nameIndex := 123, descriptorIndex := 124, attributes := #[] }, { accessFlags := 25, nameIndex := 130, descriptorIndex := 124, attributes := #[] }, { accessFlags := 25, nameIndex := 136, descriptorIndex := 124, attributes := #[] }])
  fields := #[{ name := "SIOOBE_FORMATTER", type := (.object "java/util/function/BiFunction"), accessFlags := 25, slot := 0, constantValue := 0 }, { name := "AIOOBE_FORMATTER", type := (.object "java/util/function/BiFunction"), accessFlags := 25, slot := 1, constantValue := 0 }, { name := "IOOBE_FORMATTER", type := (.object "java/util/function/BiFunction"), accessFlags := 25, slot := 2, constantValue := 0 }]
  methods := #[k11m0, k11m1]
  instanceTypes := #[]
  staticTypes := #[(.object "java/util/function/BiFunction"), (.object "java/util/function/BiFunction"), (.object "java/util/function/BiFunction")]
  resolved := Array.replicate 194 none
  statics := some 2 }

def pool12 : Array CpInfo := pool [(9, u "<init>"), (6, .class_ 18), (1, u "java/lang/Object"), (0, u "()V"), (1, .class_ 23), (1, u "jdk/internal/util/ArraysSupport"), (0, u "LOG2_ARRAY_LONG_INDEX_SCALE"), (0, u "I"), (2, u "U"), (0, u "Ljdk/internal/misc/Unsafe;"), (8, u "BIG_ENDIAN"), (0, u "Z"), (8, u "LOG2_BYTE_BIT_SIZE"), (4, u "LOG2_ARRAY_INT_INDEX_SCALE"), (54, u "JLA"), (0, u "Ljdk/internal/access/JavaLangAccess;"), (11, u "LOG2_ARRAY_BOOLEAN_INDEX_SCALE"), (9, u "LOG2_ARRAY_BYTE_INDEX_SCALE"), (5, u "LOG2_ARRAY_CHAR_INDEX_SCALE"), (5, u "LOG2_ARRAY_SHORT_INDEX_SCALE"), (18, u "LOG2_ARRAY_FLOAT_INDEX_SCALE"), (24, u "LOG2_ARRAY_DOUBLE_INDEX_SCALE"), (89, u "T_BOOLEAN"), (2, u "T_CHAR"), (1, u "T_FLOAT"), (1, u "T_DOUBLE"), (1, u "T_BYTE"), (1, u "T_SHORT"), (1, u "T_INT"), (1, u "T_LONG"), (1, u "SOFT_MAX_ARRAY_LENGTH")] 83

def k12m0 : Method := { name := "<init>", desc := "()V", sig := { parameters := [], returnType := none }, accessFlags := 2, code := none }
/-- jdk/internal/util/ArraysSupport -/
def k12 : Class := { plain "jdk/internal/util/ArraysSupport" (some 0) with
  accessFlags := 33
  interfaces := #[]
  cf := some (fileOf pool12 21 #[] #[{ accessFlags := 2, nameIndex := 9, descriptorIndex := 19, attributes := #[] }] 33 16 #[] #[{ accessFlags := 24, nameIndex := 28, descriptorIndex := 29, attributes := #[] }, { accessFlags := 26, nameIndex := 38, descriptorIndex := 39, attributes := #[] }, { accessFlags := 25, nameIndex := 121, descriptorIndex := 25, attributes := #[] }, { accessFlags := 25, nameIndex := 131, descriptorIndex := 25, attributes := #[] }, { accessFlags := 25, nameIndex := 137, descriptorIndex := 25, attributes := #[] }, { accessFlags := 25, nameIndex := 143, descriptorIndex := 25, attributes := #[] }, { accessFlags := 25, nameIndex := 53, descriptorIndex := 25, attributes := #[] }, { accessFlags := 25, nameIndex := 24, descriptorIndex := 25, attributes := #[] }, { accessFlags := 25, nameIndex := 162, descriptorIndex := 25, attributes := #[] }, { accessFlags := 25, nameIndex := 187, descriptorIndex := 25, attributes := #[] }, { accessFlags := 26, nameIndex := 48, descriptorIndex := 25, attributes := #[] }, { accessFlags := 25, nameIndex := 277, descriptorIndex := 25, attributes := #[] }, { accessFlags := 25, nameIndex := 280, descriptorIndex := 25, attributes := #[] }, { accessFlags := 25, nameIndex := 282, descriptorIndex := 25, attributes := #[] }, { accessFlags := 25, nameIndex := 284, descriptorIndex := 25, attributes := #[] }, { accessFlags := 25, nameIndex := 286, descriptorIndex := 25, attributes := #[] }, { accessFlags := 25, nameIndex := 288, descriptorIndex := 25, attributes := #[] }, { accessFlags := 25, nameIndex := 290, descriptorIndex := 25, attributes := #[] }, { accessFlags := 25, nameIndex := 292, descriptorIndex := 25, attributes := #[] }, { accessFlags := 26, nameIndex := 108, descriptorIndex := 109, attributes := #[] }, { accessFlags := 25, nameIndex := 294, descriptorIndex := 25, attributes := #[] }])
  fields := #[{ name := "U", type := (.object "jdk/internal/misc/Unsafe"), accessFlags := 24, slot := 0, constantValue := 0 }, { name := "BIG_ENDIAN", type := .boolean, accessFlags := 26, slot := 1, constantValue := 0 }, { name := "LOG2_ARRAY_BOOLEAN_INDEX_SCALE", type := .int, accessFlags := 25, slot := 2, constantValue := 0 }, { name := "LOG2_ARRAY_BYTE_INDEX_SCALE", type := .int, accessFlags := 25, slot := 3, constantValue := 0 }, { name := "LOG2_ARRAY_CHAR_INDEX_SCALE", type := .int, accessFlags := 25, slot := 4, constantValue := 0 }, { name := "LOG2_ARRAY_SHORT_INDEX_SCALE", type := .int, accessFlags := 25, slot := 5, constantValue := 0 }, { name := "LOG2_ARRAY_INT_INDEX_SCALE", type := .int, accessFlags := 25, slot := 6, constantValue := 0 }, { name := "LOG2_ARRAY_LONG_INDEX_SCALE", type := .int, accessFlags := 25, slot := 7, constantValue := 0 }, { name := "LOG2_ARRAY_FLOAT_INDEX_SCALE", type := .int, accessFlags := 25, slot := 8, constantValue := 0 }, { name := "LOG2_ARRAY_DOUBLE_INDEX_SCALE", type := .int, accessFlags := 25, slot := 9, constantValue := 0 }, { name := "LOG2_BYTE_BIT_SIZE", type := .int, accessFlags := 26, slot := 10, constantValue := 0 }, { name := "T_BOOLEAN", type := .int, accessFlags := 25, slot := 11, constantValue := 0 }, { name := "T_CHAR", type := .int, accessFlags := 25, slot := 12, constantValue := 0 }, { name := "T_FLOAT", type := .int, accessFlags := 25, slot := 13, constantValue := 0 }, { name := "T_DOUBLE", type := .int, accessFlags := 25, slot := 14, constantValue := 0 }, { name := "T_BYTE", type := .int, accessFlags := 25, slot := 15, constantValue := 0 }, { name := "T_SHORT", type := .int, accessFlags := 25, slot := 16, constantValue := 0 }, { name := "T_INT", type := .int, accessFlags := 25, slot := 17, constantValue := 0 }, { name := "T_LONG", type := .int, accessFlags := 25, slot := 18, constantValue := 0 }, { name := "JLA", type := (.object "jdk/internal/access/JavaLangAccess"), accessFlags := 26, slot := 19, constantValue := 0 }, { name := "SOFT_MAX_ARRAY_LENGTH", type := .int, accessFlags := 25, slot := 20, constantValue := 0 }]
  methods := #[k12m0]
  instanceTypes := #[]
  staticTypes := #[(.object "jdk/internal/misc/Unsafe"), .boolean, .int, .int, .int, .int, .int, .int, .int, .int, .int, .int, .int, .int, .int, .int, .int, .int, .int, (.object "jdk/internal/access/JavaLangAccess"), .int]
  resolved := Array.replicate 378 none
  statics := none }

def pool13 : Array CpInfo := pool [(1, u "java/lang/Cloneable"), (0, .class_ 1), (0, u "java/lang/Object"), (0, .class_ 3)] 3

/-- java/lang/Cloneable -/
def k13 : Class := { plain "java/lang/Cloneable" (some 0) with
  accessFlags := 1537
  interfaces := #[]
  cf := some (fileOf pool13 2 #[] #[] 1537 4 #[] #[])
  fields := #[]
  methods := #[]
  instanceTypes := #[]
  staticTypes := #[]
  resolved := Array.replicate 8 none
  statics := none }

/-- the primitive byte -/
def k14 : Class := { plain "byte" none with kind := .primitive 'B', accessFlags := 0x411 }
/-- [B -/
def k15 : Class := { plain "[B" (some 0) with kind := .array 14 .byte, interfaces := #[13, 4], accessFlags := 1041 }

/-- the primitive int -/
def k16 : Class := { plain "int" none with kind := .primitive 'I', accessFlags := 0x411 }
/-- [I -/
def k17 : Class := { plain "[I" (some 0) with kind := .array 16 .int, interfaces := #[13, 4], accessFlags := 1041 }

def heap : Heap := #[{ cls := 6, slots := #[.ref 3, .ref 4, .ref 5, .ref 6, .ref 7, .ref 8, .null], vm := .statics 6 },
  { cls := 9, slots := #[.long 0, .int 1, .null, .int 0, .null, .int 0, .int 0], vm := .statics 9 },
  { cls := 11, slots := #[.null, .null, .null], vm := .statics 11 },
  { cls := 6, slots := #[.null, .int 0, .int 0, .ref 9, .null], vm := .none },
  { cls := 6, slots := #[.null, .int 1, .int 0, .ref 11, .null], vm := .none },
  { cls := 6, slots := #[.null, .int 2, .int 0, .ref 13, .null], vm := .none },
  { cls := 6, slots := #[.null, .int 3, .int 0, .ref 15, .null], vm := .none },
  { cls := 6, slots := #[.null, .int 4, .int 0, .ref 17, .null], vm := .none },
  { cls := 6, slots := #[.null, .int 5, .int 0, .ref 19, .null], vm := .none },
  { cls := 9, slots := #[.ref 10, .int 0, .int 0, .int 0], vm := .none },
  { cls := 15, slots := #[.int 103, .int 116], vm := .none },
  { cls := 9, slots := #[.ref 12, .int 0, .int 0, .int 0], vm := .none },
  { cls := 15, slots := #[.int 103, .int 101], vm := .none },
  { cls := 9, slots := #[.ref 14, .int 0, .int 0, .int 0], vm := .none },
  { cls := 15, slots := #[.int 108, .int 116], vm := .none },
  { cls := 9, slots := #[.ref 16, .int 0, .int 0, .int 0], vm := .none },
  { cls := 15, slots := #[.int 108, .int 101], vm := .none },
  { cls := 9, slots := #[.ref 18, .int 0, .int 0, .int 0], vm := .none },
  { cls := 15, slots := #[.int 101, .int 113], vm := .none },
  { cls := 9, slots := #[.ref 20, .int 0, .int 0, .int 0], vm := .none },
  { cls := 15, slots := #[.int 110, .int 101], vm := .none }]
def classes : Array Class := #[k0, k1, k2, k3, k4, k5, k6, k7, k8, k9, k10, k11, k12, k13, k14, k15, k16, k17]
def interned : List (Array UInt16 × Addr) := []
def slotsUsed : Nat := 83
def theMethod : MethodId := ⟨1, 2⟩
def args0 : Array Value := #[.int 5]
def aboutOver (below : List Frame) : State where
  vm := { classes := classes, interned := interned.toArray }
  heap := heap
  slotsUsed := slotsUsed
  threads := #[{ frames := .invoking theMethod args0 :: below }]
def below0 : List Frame := [.native { method := ⟨0, 0⟩, args := #[] }]
def about1 : State := aboutOver below0
def p0 : Program := .bare "" "" ""
def e0 : Env := launch0.env 0 0 0
theorem w_frames : about1.frames = Frame.invoking theMethod args0 :: below0 := rfl
set_option maxRecDepth 65536 in
theorem w_args : argsFit about1.vm theMethod args0 = true := by decide +kernel
set_option maxRecDepth 65536 in
theorem w_heap : heapFits about1 = true := by decide +kernel
set_option maxRecDepth 65536 in
theorem w_runnable : about1.curStatus? = some .runnable := by decide +kernel
set_option maxRecDepth 65536 in
theorem w_alone : about1.alone = true := by decide +kernel
set_option maxRecDepth 65536 in
theorem w_named : about1.methodNamed? x = some theMethod := by decide +kernel
set_option maxRecDepth 65536 in
theorem w_hears : about1.hears theMethod below0 = true := by decide +kernel
set_option maxRecDepth 65536 in
theorem w_ripe : about1.ripe theMethod args0 below0 = true := by decide +kernel
theorem w_running : about1.status = .running := rfl
set_option maxRecDepth 65536 in
theorem w_room : about1.hasRoom e0.platform room_1 = true :=
  launch0.hasRoom_least _ room_1 (by decide +kernel) (by decide +kernel) (by decide +kernel) (by decide +kernel) (by decide +kernel) (by decide +kernel)
theorem allAtoms_all (ts : List Jvm.Cond) (a : Array Jvm.Value) (st : Jvm.State) : (allAtoms ts).before a st = ts.all (fun c => c.before a st) := by
  induction ts with
  | nil => rfl
  | cons c t ih =>
    show (Jvm.Cond.and c (allAtoms t)).before a st = _
    rw [Jvm.Cond.before_and, ih, List.all_cons]
def words1 : List Jvm.Cond := Jvm.Cond.code x code maxLocals ret :: tables_1
/-- a 'code' word, met by the world's own term for the bytes: nothing is compared byte by byte -/
theorem code_word {y : MethodName} {bytes : ByteArray} {mx : Nat} {rt : Option FieldType} {a : Array Value} {s : State} {m : MethodId} {meth : Method} {c : Code} (h1 : s.methodNamed? y = some m) (h2 : s.vm.method? m = some meth) (h3 : meth.code = some c) (h4 : c.code = bytes)
    (h5 : (c.maxLocals == mx && c.exceptionTable.isEmpty && decide (c.maxStack ≤ mostOperands) && decide (meth.sig.returnType = rt) && !meth.locks && decide (parseMethodDescriptor y.desc = some meth.sig)) = true) : (Jvm.Cond.code y bytes mx rt).before a s = true := by
  simp only [Bool.and_eq_true, beq_iff_eq, Bool.not_eq_true', decide_eq_true_eq] at h5
  obtain ⟨⟨⟨⟨⟨g1, g2⟩, g3⟩, g4⟩, g5⟩, g6⟩ := h5
  simp [Cond.before, Cond.holds, Cond.value, h1, h2, h3, h4, g1, g2, g3, g4, g5, g6]
def isCode : Jvm.Cond → Bool
  | .code _ _ _ _ => true
  | _ => false
theorem all_split {L : List Jvm.Cond} {P : Jvm.Cond → Bool} (h1 : L.all (fun c => isCode c || P c) = true) (h2 : ∀ c ∈ L.filter isCode, P c = true) : L.all P = true := by
  refine List.all_eq_true.mpr fun c hc => ?_
  have h := List.all_eq_true.mp h1 c hc
  rcases Bool.eq_false_or_eq_true (isCode c) with hi | hi
  · exact h2 c (List.mem_filter.mpr ⟨hc, hi⟩)
  · simpa [hi] using h
set_option maxRecDepth 65536 in
theorem w_c0 : (Jvm.Cond.code x code maxLocals ret).before args0 about1 = true := code_word (m := ⟨1, 2⟩) (meth := k1m2) (c := k1c2) (by decide +kernel) rfl rfl rfl (by decide +kernel)
set_option maxRecDepth 65536 in
theorem w_c1 : (Jvm.Cond.code ({ cls := "com/example/nisaba/nisaba/item/ComparisonByOrderPinLaw", name := "pick", desc := "(I)Lcom/example/nisaba/nisaba/item/Comparison;" } : Jvm.MethodName) method_2_code (1 : Nat) (Option.some (Jvm.ClassFile.FieldType.object "com/example/nisaba/nisaba/item/Comparison"))).before args0 about1 = true := code_word (m := ⟨1, 1⟩) (meth := k1m1) (c := k1c1) (by decide +kernel) rfl rfl rfl (by decide +kernel)
set_option maxRecDepth 65536 in
theorem w_c2 : (Jvm.Cond.code ({ cls := "com/example/nisaba/nisaba/item/Comparison", name := "byOrder", desc := "()Z" } : Jvm.MethodName) prog_18_method_6_code (1 : Nat) (Option.some Jvm.ClassFile.FieldType.boolean)).before args0 about1 = true := code_word (m := ⟨6, 1⟩) (meth := k6m1) (c := k6c1) (by decide +kernel) rfl rfl rfl (by decide +kernel)
set_option maxRecDepth 65536 in
theorem w_c3 : (Jvm.Cond.code ({ cls := "com/example/nisaba/nisaba/item/Comparison", name := "apiName", desc := "()Ljava/lang/String;" } : Jvm.MethodName) prog_18_method_4_code (1 : Nat) (Option.some (Jvm.ClassFile.FieldType.object "java/lang/String"))).before args0 about1 = true := code_word (m := ⟨6, 0⟩) (meth := k6m0) (c := k6c0) (by decide +kernel) rfl rfl rfl (by decide +kernel)
set_option maxRecDepth 65536 in
theorem w_c4 : (Jvm.Cond.code ({ cls := "java/lang/String", name := "charAt", desc := "(I)C" } : Jvm.MethodName) jdk_42_method_56_code (2 : Nat) (Option.some Jvm.ClassFile.FieldType.char)).before args0 about1 = true := code_word (m := ⟨9, 1⟩) (meth := k9m1) (c := k9c1) (by decide +kernel) rfl rfl rfl (by decide +kernel)
set_option maxRecDepth 65536 in
theorem w_c5 : (Jvm.Cond.code ({ cls := "java/lang/String", name := "isLatin1", desc := "()Z" } : Jvm.MethodName) jdk_42_method_154_code (1 : Nat) (Option.some Jvm.ClassFile.FieldType.boolean)).before args0 about1 = true := code_word (m := ⟨9, 2⟩) (meth := k9m2) (c := k9c2) (by decide +kernel) rfl rfl rfl (by decide +kernel)
set_option maxRecDepth 65536 in
theorem w_c6 : (Jvm.Cond.code ({ cls := "java/lang/StringLatin1", name := "charAt", desc := "([BI)C" } : Jvm.MethodName) jdk_43_method_2_code (2 : Nat) (Option.some Jvm.ClassFile.FieldType.char)).before args0 about1 = true := code_word (m := ⟨10, 1⟩) (meth := k10m1) (c := k10c1) (by decide +kernel) rfl rfl rfl (by decide +kernel)
set_option maxRecDepth 65536 in
theorem w_c7 : (Jvm.Cond.code ({ cls := "java/lang/String", name := "checkIndex", desc := "(II)V" } : Jvm.MethodName) jdk_42_method_155_code (2 : Nat) (Option.none : Option Jvm.ClassFile.FieldType)).before args0 about1 = true := code_word (m := ⟨9, 3⟩) (meth := k9m3) (c := k9c3) (by decide +kernel) rfl rfl rfl (by decide +kernel)
set_option maxRecDepth 65536 in
theorem w_c8 : (Jvm.Cond.code ({ cls := "jdk/internal/util/Preconditions", name := "checkIndex", desc := "(IILjava/util/function/BiFunction;)I" } : Jvm.MethodName) jdk_41_method_11_code (3 : Nat) (Option.some Jvm.ClassFile.FieldType.int)).before args0 about1 = true := code_word (m := ⟨11, 1⟩) (meth := k11m1) (c := k11c1) (by decide +kernel) rfl rfl rfl (by decide +kernel)
def codes1 : List Jvm.Cond := [Jvm.Cond.code x code maxLocals ret, Jvm.Cond.code ({ cls := "com/example/nisaba/nisaba/item/ComparisonByOrderPinLaw", name := "pick", desc := "(I)Lcom/example/nisaba/nisaba/item/Comparison;" } : Jvm.MethodName) method_2_code (1 : Nat) (Option.some (Jvm.ClassFile.FieldType.object "com/example/nisaba/nisaba/item/Comparison")), Jvm.Cond.code ({ cls := "com/example/nisaba/nisaba/item/Comparison", name := "byOrder", desc := "()Z" } : Jvm.MethodName) prog_18_method_6_code (1 : Nat) (Option.some Jvm.ClassFile.FieldType.boolean), Jvm.Cond.code ({ cls := "com/example/nisaba/nisaba/item/Comparison", name := "apiName", desc := "()Ljava/lang/String;" } : Jvm.MethodName) prog_18_method_4_code (1 : Nat) (Option.some (Jvm.ClassFile.FieldType.object "java/lang/String")), Jvm.Cond.code ({ cls := "java/lang/String", name := "charAt", desc := "(I)C" } : Jvm.MethodName) jdk_42_method_56_code (2 : Nat) (Option.some Jvm.ClassFile.FieldType.char), Jvm.Cond.code ({ cls := "java/lang/String", name := "isLatin1", desc := "()Z" } : Jvm.MethodName) jdk_42_method_154_code (1 : Nat) (Option.some Jvm.ClassFile.FieldType.boolean), Jvm.Cond.code ({ cls := "java/lang/StringLatin1", name := "charAt", desc := "([BI)C" } : Jvm.MethodName) jdk_43_method_2_code (2 : Nat) (Option.some Jvm.ClassFile.FieldType.char), Jvm.Cond.code ({ cls := "java/lang/String", name := "checkIndex", desc := "(II)V" } : Jvm.MethodName) jdk_42_method_155_code (2 : Nat) (Option.none : Option Jvm.ClassFile.FieldType), Jvm.Cond.code ({ cls := "jdk/internal/util/Preconditions", name := "checkIndex", desc := "(IILjava/util/function/BiFunction;)I" } : Jvm.MethodName) jdk_41_method_11_code (3 : Nat) (Option.some Jvm.ClassFile.FieldType.int)]
set_option maxRecDepth 65536 in
theorem codes_eq : words1.filter isCode = codes1 := rfl
theorem w_codes : ∀ c ∈ words1.filter isCode, c.before args0 about1 = true := by
  rw [codes_eq]
  intro c hc
  simp only [codes1, List.mem_cons, List.not_mem_nil, or_false] at hc
  rcases hc with rfl | rfl | rfl | rfl | rfl | rfl | rfl | rfl | rfl
  · exact w_c0
  · exact w_c1
  · exact w_c2
  · exact w_c3
  · exact w_c4
  · exact w_c5
  · exact w_c6
  · exact w_c7
  · exact w_c8
set_option maxRecDepth 65536 in
theorem w_t1 : (words1.take 24).all (fun c => isCode c || c.before args0 about1) = true := by decide +kernel
set_option maxRecDepth 65536 in
theorem w_t2 : ((words1.drop 24).take 24).all (fun c => isCode c || c.before args0 about1) = true := by decide +kernel
set_option maxRecDepth 65536 in
theorem w_t3 : ((words1.drop 24).drop 24).all (fun c => isCode c || c.before args0 about1) = true := by decide +kernel
theorem w_tables : (allAtoms (Jvm.Cond.code x code maxLocals ret :: tables_1)).before args0 about1 = true := by
  rw [allAtoms_all]
  show words1.all (fun c => c.before args0 about1) = true
  refine all_split ?_ w_codes
  rw [← List.take_append_drop 24 words1, List.all_append, w_t1, ← List.take_append_drop 24 (words1.drop 24), List.all_append, w_t2, w_t3]
  rfl
set_option maxRecDepth 65536 in
theorem w_rest : rest_1_c.before args0 about1 = true := by decide +kernel
set_option maxRecDepth 65536 in
theorem w_case : (Jvm.Cond.and given_1 narrow_1).before args0 about1 = true := by decide +kernel
theorem w_applies : (headSpec (Jvm.Cond.code x code maxLocals ret :: tables_1) room_1).applies x e0.platform about1 = true :=
  (Spec.applies_iff w_frames).mpr ⟨w_running, w_runnable, w_alone, w_named, w_hears, w_ripe, w_room, w_tables⟩
theorem atStart : AtStart classFile x code maxLocals ret World_1 tables_1 room_1 Calls_1 rest_1 Pre_1 launch0 p0 e0 about1 theMethod args0 below0 :=
  ⟨lists_1, trivial, launch0.admits_env _ _ _, launch0.least_env, fairChoices_fair.cas, fairChoices_fair.clock, w_frames, w_args, w_heap, w_applies, trivial, w_rest, w_case⟩
end start1
theorem witness_1 : WitnessClaimed_1 := ⟨start1.p0, start1.e0, start1.about1, start1.theMethod, start1.args0, start1.below0, start1.atStart⟩
end Jvm.Pilot.@@N@@
