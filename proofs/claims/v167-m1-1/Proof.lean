import JvmDerived
import JvmDerived.Pilot.@@N@@Statement
import JvmDerived.Pilot.@@N@@Code
set_option linter.unusedVariables false
set_option linter.unusedSimpArgs false
namespace Jvm.RoadKit
open Sem ClassFile Op Lib Jvm.Stand Jvm.Free Jvm.LawKit
section New
variable {p : Program} {l : Launch} {e : Env} {R : Room} {s : State} {m : MethodId} {args : Array Value} {below : List Frame} {meth : Method} {c : Code} {T : State} {locs : List Loc} {cells slots : Nat}
theorem retI (X : Stand p l e R s m args below meth c T locs cells slots) (hx : p.tables.exec = Jvm.exec) {pc : Nat} {Ls : Array Slot} {z : Int32} {rest : List Value} (hret : meth.sig.returnType = some .int) (hd : decode c.code pc = .ok (.ireturn, 1)) {fs : List Frame}
    (hl : ∀ (f : JFrame) (acts : List Action), f.method = m → f.locked = none → f.entered = [] → (doReturn e (T.setTop f) acts (some (.int z))).1 = T.setFrames fs) : Steps p.tables e below (T.setTop (mkF m pc Ls (.int z :: rest))) (T.setFrames fs) := by
  have hm' : T.vm.method? m = some meth := X.method'
  have hn : narrow .int (.int z) = .int z := rfl
  show Steps p.tables e below (T.setTop { method := m, pc := pc, locals := Ls, stack := _ :: rest, locked := none }) _
  jvm_step X.here [X.here.top, hx, hd, hm', hret, hn]
  first | (intro acts; rw [hl _ acts rfl rfl rfl]) | rw [hl _ _ rfl rfl rfl]
  exact Steps.refl _
/-- from the state T with the frame g on top the run ends, returned, with Q -/
def own_Go (tb : Tables) (e : Env) (below : List Frame) (Q : Option Value → Heap → List Loc → Prop) (s : State) (C S : Nat) (T : State) (g : JFrame) : Prop :=
  ∃ t o, Steps tb e below (T.setTop g) t ∧ t.status = .running ∧ Ended t below o ∧ ∃ v L, o = .returned v ∧ Q v t.heap L ∧ FrameEnd s o t L C S
theorem own_by {tb : Tables} {Q : Option Value → Heap → List Loc → Prop} {C S : Nat} {T T' : State} {g g' : JFrame} (st : ∀ target, Steps tb e below (T'.setTop g') target → Steps tb e below (T.setTop g) target) (k : own_Go tb e below Q s C S T' g') : own_Go tb e below Q s C S T g := by
  obtain ⟨t, o, h1, h2⟩ := k
  exact ⟨t, o, st t h1, h2⟩
theorem bN {tb : Tables} {Q : Option Value → Heap → List Loc → Prop} {C S : Nat} {T : State} {g : JFrame} (T' : State) (g' : JFrame) (st : ∀ target, Steps tb e below (T'.setTop g') target → Steps tb e below (T.setTop g) target) (k : own_Go tb e below Q s C S T' g') : own_Go tb e below Q s C S T g := own_by st k
/-- the contract of a body: from the heap h0, with the arguments A, it returns, with Q -/
abbrev own_M (l : Launch) (y : MethodName) (code : ByteArray) (ml : Nat) (rt : Option FieldType) (ws : List Cond) (R : Room) (Z : State) (A : Array Value) (h0 : Heap) (Q : Option Value → Heap → List Loc → Prop) : Prop :=
  MetFree l y (head1 (Cond.code y code ml rt :: ws) R) (fun a U => a = A ∧ Z.Warmed39 U.vm ∧ U.heap = h0) (fun _ _ _ _ _ => True) (fun _ U o U' => ∃ v L, o = .returned v ∧ Q v U'.heap L ∧ FrameEnd U o U' L R.cells R.slots)
theorem own_bd {y : MethodName} {code : ByteArray} {ml : Nat} {rt : Option FieldType} {ws : List Cond} {Z : State} {A : Array Value} {h0 : Heap} {Q : Option Value → Heap → List Loc → Prop} (hpl : plainFor y = true)
    (k : ∀ p e s m below meth c s₁, BodyLoose p l y (head1 (Cond.code y code ml rt :: ws) R) code ml rt e s m A below meth c s₁ → p.tables.exec = Jvm.exec → c.code = code → c.maxLocals = ml → s.vm.findClass y.cls = some m.cls → meth.name = y.name → meth.locks = false → Z.Warmed39 s.vm → Stand p l e R s m A below meth c s₁ [] 0 0 → s₁.heap = h0 → own_Go p.tables e below Q s R.cells R.slots s₁ (entryFrame m A ml)) : own_M l y code ml rt ws R Z A h0 Q := by
  refine MetFree.of_bodySF hpl hisR ?_
  intro p e s m args below meth c s₁ Bd hml hP hK
  obtain ⟨rfl, hZ, hh⟩ := hP
  exact k p e s m below meth c s₁ Bd Bd.exec Bd.bytes hml (findClass_of_methodNamed Bd.named) (name_of_methodNamed Bd.named Bd.method).1 Bd.notSynchronized hZ (Stand.of_body Bd) (by rw [← hh, Bd.state]; rfl)
theorem own_ret {Q : Option Value → Heap → List Loc → Prop} {C S : Nat} {g : JFrame} (X : Stand p l e R s m args below meth c T locs cells slots) (hlk : meth.locks = false) {v : Option Value} (hv : meth.sig.returnType = none → v = none)
    (st : ∀ fs, (∀ (f : JFrame) (acts : List Action), f.method = m → f.locked = none → f.entered = [] → (doReturn e (T.setTop f) acts v).1 = T.setFrames fs) → Steps p.tables e below (T.setTop g) (T.setFrames fs))
    (hq : Q v T.heap locs) (hc : cells ≤ C) (hs : slots ≤ S) : own_Go p.tables e below Q s C S T g := by
  obtain ⟨fs, hr, hrun, hended, hW, hsame⟩ := X.leave (v := v) hv hlk
  exact ⟨_, _, st fs hr, hrun, hended, v, locs, rfl, hq, ⟨v, rfl⟩, hW, hsame.mono hc hs⟩
end New
end Jvm.RoadKit
namespace Jvm.Pilot.@@N@@
open Jvm Jvm.ClassFile Sem Op Lib Jvm.Free Jvm.Stand Jvm.LawKit Jvm.RoadKit Bundle Jvm.Pilot.@@N@@.Jvm.D
theorem pd_0 : parseMethodDescriptor "(I)I" = some ⟨[.int], some .int⟩ := by decide +kernel
def own_S (x : Int32) : Int32 := (x.toUInt32 >>> ((7 : Int32) &&& 31).toUInt32).toInt32
def own_size (u : Int32) : Int32 := if u < 128 then 1 else if u < 16384 then 2 else if u < 2097152 then 3 else if u < 268435456 then 4 else 5
theorem own_ltI (x y : Int32) : x < y ↔ x.toInt < y.toInt := Int32.lt_iff_toInt_lt
theorem own_SI (x : Int32) : (own_S x).toInt = (x.toInt % 4294967296) / 128 := c_iushr x 7 7 (by decide) (by decide)
theorem own_l1 : (128 : Int32).toInt = 128 := by decide
theorem own_l2 : (16384 : Int32).toInt = 16384 := by decide
theorem own_l3 : (2097152 : Int32).toInt = 2097152 := by decide
theorem own_l4 : (268435456 : Int32).toInt = 268435456 := by decide
theorem own_five (u : Int32) (h1 : ¬ u < 128) (h2 : ¬ (own_S u) < 128) (h3 : ¬ (own_S (own_S u)) < 128) (h4 : ¬ (own_S (own_S (own_S u))) < 128) : (own_S (own_S (own_S (own_S u)))) < 128 := by
  have r := rng32 u
  have a1 := own_SI u
  have a2 := own_SI (own_S u)
  have a3 := own_SI (own_S (own_S u))
  have a4 := own_SI (own_S (own_S (own_S u)))
  have b1 := own_l1
  have b2 := own_l2
  have b3 := own_l3
  have b4 := own_l4
  simp only [own_ltI] at *
  omega
theorem own_leaf1 (u : Int32)  (h1 : u < 128) : (1 : Int32) = own_size u := by
  have r := rng32 u
  have a1 := own_SI u
  have a2 := own_SI (own_S u)
  have a3 := own_SI (own_S (own_S u))
  have a4 := own_SI (own_S (own_S (own_S u)))
  have b1 := own_l1
  have b2 := own_l2
  have b3 := own_l3
  have b4 := own_l4
  simp only [own_ltI] at *
  unfold own_size
  simp only [own_ltI]
  (repeat' split) <;> first | rfl | (exfalso; omega)
theorem own_leaf2 (u : Int32) (h1 : ¬ u < 128) (h2 : (own_S u) < 128) : ((1 : Int32) + (1 : Int32)) = own_size u := by
  have r := rng32 u
  have a1 := own_SI u
  have a2 := own_SI (own_S u)
  have a3 := own_SI (own_S (own_S u))
  have a4 := own_SI (own_S (own_S (own_S u)))
  have b1 := own_l1
  have b2 := own_l2
  have b3 := own_l3
  have b4 := own_l4
  simp only [own_ltI] at *
  unfold own_size
  simp only [own_ltI]
  (repeat' split) <;> first | rfl | (exfalso; omega)
theorem own_leaf3 (u : Int32) (h1 : ¬ u < 128) (h2 : ¬ (own_S u) < 128) (h3 : (own_S (own_S u)) < 128) : (((1 : Int32) + (1 : Int32)) + (1 : Int32)) = own_size u := by
  have r := rng32 u
  have a1 := own_SI u
  have a2 := own_SI (own_S u)
  have a3 := own_SI (own_S (own_S u))
  have a4 := own_SI (own_S (own_S (own_S u)))
  have b1 := own_l1
  have b2 := own_l2
  have b3 := own_l3
  have b4 := own_l4
  simp only [own_ltI] at *
  unfold own_size
  simp only [own_ltI]
  (repeat' split) <;> first | rfl | (exfalso; omega)
theorem own_leaf4 (u : Int32) (h1 : ¬ u < 128) (h2 : ¬ (own_S u) < 128) (h3 : ¬ (own_S (own_S u)) < 128) (h4 : (own_S (own_S (own_S u))) < 128) : ((((1 : Int32) + (1 : Int32)) + (1 : Int32)) + (1 : Int32)) = own_size u := by
  have r := rng32 u
  have a1 := own_SI u
  have a2 := own_SI (own_S u)
  have a3 := own_SI (own_S (own_S u))
  have a4 := own_SI (own_S (own_S (own_S u)))
  have b1 := own_l1
  have b2 := own_l2
  have b3 := own_l3
  have b4 := own_l4
  simp only [own_ltI] at *
  unfold own_size
  simp only [own_ltI]
  (repeat' split) <;> first | rfl | (exfalso; omega)
theorem own_leaf5 (u : Int32) (h1 : ¬ u < 128) (h2 : ¬ (own_S u) < 128) (h3 : ¬ (own_S (own_S u)) < 128) (h4 : ¬ (own_S (own_S (own_S u))) < 128) : (((((1 : Int32) + (1 : Int32)) + (1 : Int32)) + (1 : Int32)) + (1 : Int32)) = own_size u := by
  have r := rng32 u
  have a1 := own_SI u
  have a2 := own_SI (own_S u)
  have a3 := own_SI (own_S (own_S u))
  have a4 := own_SI (own_S (own_S (own_S u)))
  have b1 := own_l1
  have b2 := own_l2
  have b3 := own_l3
  have b4 := own_l4
  simp only [own_ltI] at *
  unfold own_size
  simp only [own_ltI]
  (repeat' split) <;> first | rfl | (exfalso; omega)
theorem own_ref1 (u : Int32)  (h1 : u < 128) : (1 : Int32) = own_size u := by simp [own_size, h1]
theorem own_ref2 (u : Int32) (h1 : ¬ u < 128) (h2 : u < 16384) : (2 : Int32) = own_size u := by simp [own_size, h1, h2]
theorem own_ref3 (u : Int32) (h1 : ¬ u < 128) (h2 : ¬ u < 16384) (h3 : u < 2097152) : (3 : Int32) = own_size u := by simp [own_size, h1, h2, h3]
theorem own_ref4 (u : Int32) (h1 : ¬ u < 128) (h2 : ¬ u < 16384) (h3 : ¬ u < 2097152) (h4 : u < 268435456) : (4 : Int32) = own_size u := by simp [own_size, h1, h2, h3, h4]
theorem own_ref5 (u : Int32) (h1 : ¬ u < 128) (h2 : ¬ u < 16384) (h3 : ¬ u < 2097152) (h4 : ¬ u < 268435456) : (5 : Int32) = own_size u := by simp [own_size, h1, h2, h3, h4]
theorem d1_0 : decode prog_49_method_4_code 0 = .ok (.iconst 1, 1) := by decide +kernel
theorem d1_1 : decode prog_49_method_4_code 1 = .ok (.istore_n 1, 1) := by decide +kernel
theorem d1_2 : decode prog_49_method_4_code 2 = .ok (.iload_n 0, 1) := by decide +kernel
theorem d1_3 : decode prog_49_method_4_code 3 = .ok (.istore_n 2, 1) := by decide +kernel
theorem d1_4 : decode prog_49_method_4_code 4 = .ok (.iload_n 2, 1) := by decide +kernel
theorem d1_5 : decode prog_49_method_4_code 5 = .ok (.sipush 128, 3) := by decide +kernel
theorem d1_8 : decode prog_49_method_4_code 8 = .ok (.if_icmp .lt 14, 3) := by decide +kernel
theorem d1_11 : decode prog_49_method_4_code 11 = .ok (.iload_n 2, 1) := by decide +kernel
theorem d1_12 : decode prog_49_method_4_code 12 = .ok (.bipush 7, 2) := by decide +kernel
theorem d1_14 : decode prog_49_method_4_code 14 = .ok (.iushr, 1) := by decide +kernel
theorem d1_15 : decode prog_49_method_4_code 15 = .ok (.istore_n 2, 1) := by decide +kernel
theorem d1_16 : decode prog_49_method_4_code 16 = .ok (.iinc 1 1, 3) := by decide +kernel
theorem d1_19 : decode prog_49_method_4_code 19 = .ok (.goto (-15), 3) := by decide +kernel
theorem d1_22 : decode prog_49_method_4_code 22 = .ok (.iload_n 1, 1) := by decide +kernel
theorem d1_23 : decode prog_49_method_4_code 23 = .ok (.ireturn, 1) := by decide +kernel
theorem pn_1 : plainName "com/example/postings/postings/store/DataFileWriter" = true := by first | (simp [plainName, overriddenIn]; done) | decide +kernel
theorem ef_rm1 (m : MethodId) (u : Int32) : entryFrame m #[(.int u)] 3 = mkF m 0 #[.val (.int u), .unset, .unset] [] := by first | (simp [entryFrame, mkF, argsToLocals, Value.category]; done) | rfl
def Q_rm1 (Z : State) (u : Int32) (h0 : Heap) (n0 : Nat) (v : Option Value) (h : Heap) (L : List Loc) : Prop := v = some (.int (own_size u)) ∧ Fr n0 L ∧ h = h0
set_option maxRecDepth 65536 in
set_option maxHeartbeats 40000000 in
theorem rm1 (l : Launch) (Z : State) (a0 : Array Value) (hw : ∀ d ∈ tables_1, d.before a0 Z = true) (ws : List Jvm.Cond) (u : Int32) (h0 : Heap) (n0 : Nat) (Z0 : n0 ≤ h0.size) :
    MetFree l (⟨"com/example/postings/postings/store/DataFileWriter", "varIntSize", "(I)I"⟩ : MethodName) (head1 (Jvm.Cond.code (⟨"com/example/postings/postings/store/DataFileWriter", "varIntSize", "(I)I"⟩ : MethodName) prog_49_method_4_code 3 (some .int) :: ws) ({ frames := 0, cells := 0, slots := 0, locals := 0 } : Room)) (fun zz UU => zz = #[(.int u)] ∧ Z.Warmed39 UU.vm ∧ UU.heap = h0) (fun _ _ _ _ _ => True) (fun _ U o U' => ∃ v L, o = .returned v ∧ Q_rm1 Z u h0 n0 v U'.heap L ∧ FrameEnd U o U' L ({ frames := 0, cells := 0, slots := 0, locals := 0 } : Room).cells ({ frames := 0, cells := 0, slots := 0, locals := 0 } : Room).slots) := by
  refine MetFree.of_bodySF (plainFor_of_name pn_1) hisR ?_
  intro p e s m args below meth c s₁ Bd hml0 hP hK
  obtain ⟨rfl, hZ, hh⟩ := hP
  have hx := Bd.exec
  have hby := Bd.bytes
  have hml : c.maxLocals = 3 := hml0
  have hown : s.vm.findClass "com/example/postings/postings/store/DataFileWriter" = some m.cls := findClass_of_methodNamed Bd.named
  have hnm := (name_of_methodNamed Bd.named Bd.method).1
  have hlk : meth.locks = false := BodyLoose.notSynchronized Bd
  have X0 : Stand p l e ({ frames := 0, cells := 0, slots := 0, locals := 0 } : Room) s m #[(.int u)] below meth c s₁ [] 0 0 := Stand.of_body Bd
  have e0 : s₁.heap = h0 := by rw [← hh, Bd.state]; rfl
  have N0 := Fr.nil n0
  show own_Go p.tables e below (Q_rm1 Z u h0 n0) s ({ frames := 0, cells := 0, slots := 0, locals := 0 } : Room).cells ({ frames := 0, cells := 0, slots := 0, locals := 0 } : Room).slots s₁ (entryFrame m #[(.int u)] 3)
  rw [ef_rm1 m u]
  refine own_by (T' := s₁) (g' := (mkF m 1 #[.val (.int u), .unset, .unset] [(.int (1 : Int32))])) (fun _ k => XS.iconst X0.here hx rfl (hb hby d1_0) k) ?_
  refine own_by (T' := s₁) (g' := (mkF m 2 #[.val (.int u), .val (.int (1 : Int32)), .unset] [])) (fun _ k => XS.istoreN X0.here hx rfl (hb hby d1_1) rfl (l' := #[.val (.int u), .val (.int (1 : Int32)), .unset]) rfl k) ?_
  refine own_by (T' := s₁) (g' := (mkF m 3 #[.val (.int u), .val (.int (1 : Int32)), .unset] [(.int u)])) (fun _ k => XS.iloadN X0.here hx rfl (hb hby d1_2) rfl k) ?_
  refine own_by (T' := s₁) (g' := (mkF m 4 #[.val (.int u), .val (.int (1 : Int32)), .val (.int u)] [])) (fun _ k => XS.istoreN X0.here hx rfl (hb hby d1_3) rfl (l' := #[.val (.int u), .val (.int (1 : Int32)), .val (.int u)]) rfl k) ?_
  refine own_by (T' := s₁) (g' := (mkF m 5 #[.val (.int u), .val (.int (1 : Int32)), .val (.int u)] [(.int u)])) (fun _ k => XS.iloadN X0.here hx rfl (hb hby d1_4) rfl k) ?_
  refine own_by (T' := s₁) (g' := (mkF m 8 #[.val (.int u), .val (.int (1 : Int32)), .val (.int u)] [(.int (128 : Int32)), (.int u)])) (fun _ k => XS.sipush X0.here hx rfl (hb hby d1_5) k) ?_
  by_cases hc8_1 : u < (128 : Int32)
  · skip
    refine own_by (T' := s₁) (g' := (mkF m 22 #[.val (.int u), .val (.int (1 : Int32)), .val (.int u)] [])) (fun _ k => XS.icmpYes X0.here hx rfl (pc0 := 8) (pc' := 22) rfl (hb hby d1_8) rfl (tlt hc8_1).1 (by decide) (by decide) k) ?_
    refine own_by (T' := s₁) (g' := (mkF m 23 #[.val (.int u), .val (.int (1 : Int32)), .val (.int u)] [(.int (1 : Int32))])) (fun _ k => XS.iloadN X0.here hx rfl (hb hby d1_22) rfl k) ?_
    refine own_ret X0 hlk (v := some (.int (1 : Int32))) (fun h => by rw [Bd.returns] at h; cases h) (fun fs hr => retI X0 hx Bd.returns (hb hby d1_23) hr) ?_ (by decide) (by decide)
    rw [e0]
    exact ⟨congrArg (fun z => some (Value.int z)) (own_leaf1 u hc8_1), N0, rfl⟩
  · skip
    refine own_by (T' := s₁) (g' := (mkF m 11 #[.val (.int u), .val (.int (1 : Int32)), .val (.int u)] [])) (fun _ k => XS.icmpNo X0.here hx rfl (hb hby d1_8) rfl (flt hc8_1).1 k) ?_
    refine own_by (T' := s₁) (g' := (mkF m 12 #[.val (.int u), .val (.int (1 : Int32)), .val (.int u)] [(.int u)])) (fun _ k => XS.iloadN X0.here hx rfl (hb hby d1_11) rfl k) ?_
    refine own_by (T' := s₁) (g' := (mkF m 14 #[.val (.int u), .val (.int (1 : Int32)), .val (.int u)] [(.int (7 : Int32)), (.int u)])) (fun _ k => XS.bipush X0.here hx rfl (hb hby d1_12) k) ?_
    refine own_by (T' := s₁) (g' := (mkF m 15 #[.val (.int u), .val (.int (1 : Int32)), .val (.int u)] [(.int ((u.toUInt32 >>> ((7 : Int32) &&& 31).toUInt32).toInt32))])) (fun _ k => XS.iushr X0.here hx rfl (hb hby d1_14) rfl k) ?_
    refine own_by (T' := s₁) (g' := (mkF m 16 #[.val (.int u), .val (.int (1 : Int32)), .val (.int ((u.toUInt32 >>> ((7 : Int32) &&& 31).toUInt32).toInt32))] [])) (fun _ k => XS.istoreN X0.here hx rfl (hb hby d1_15) rfl (l' := #[.val (.int u), .val (.int (1 : Int32)), .val (.int ((u.toUInt32 >>> ((7 : Int32) &&& 31).toUInt32).toInt32))]) rfl k) ?_
    refine own_by (T' := s₁) (g' := (mkF m 19 #[.val (.int u), .val (.int (2 : Int32)), .val (.int ((u.toUInt32 >>> ((7 : Int32) &&& 31).toUInt32).toInt32))] [])) (fun _ k => XS.iinc X0.here hx rfl (hb hby d1_16) rfl (l' := #[.val (.int u), .val (.int (2 : Int32)), .val (.int ((u.toUInt32 >>> ((7 : Int32) &&& 31).toUInt32).toInt32))]) rfl k) ?_
    refine own_by (T' := s₁) (g' := (mkF m 4 #[.val (.int u), .val (.int (2 : Int32)), .val (.int ((u.toUInt32 >>> ((7 : Int32) &&& 31).toUInt32).toInt32))] [])) (fun _ k => XS.goto X0.here hx rfl (pc0 := 19) (pc' := 4) rfl (hb hby d1_19) (by decide) (by decide) k) ?_
    refine own_by (T' := s₁) (g' := (mkF m 5 #[.val (.int u), .val (.int (2 : Int32)), .val (.int ((u.toUInt32 >>> ((7 : Int32) &&& 31).toUInt32).toInt32))] [(.int ((u.toUInt32 >>> ((7 : Int32) &&& 31).toUInt32).toInt32))])) (fun _ k => XS.iloadN X0.here hx rfl (hb hby d1_4) rfl k) ?_
    refine own_by (T' := s₁) (g' := (mkF m 8 #[.val (.int u), .val (.int (2 : Int32)), .val (.int ((u.toUInt32 >>> ((7 : Int32) &&& 31).toUInt32).toInt32))] [(.int (128 : Int32)), (.int ((u.toUInt32 >>> ((7 : Int32) &&& 31).toUInt32).toInt32))])) (fun _ k => XS.sipush X0.here hx rfl (hb hby d1_5) k) ?_
    by_cases hc8_2 : ((u.toUInt32 >>> ((7 : Int32) &&& 31).toUInt32).toInt32) < (128 : Int32)
    · skip
      refine own_by (T' := s₁) (g' := (mkF m 22 #[.val (.int u), .val (.int (2 : Int32)), .val (.int ((u.toUInt32 >>> ((7 : Int32) &&& 31).toUInt32).toInt32))] [])) (fun _ k => XS.icmpYes X0.here hx rfl (pc0 := 8) (pc' := 22) rfl (hb hby d1_8) rfl (tlt hc8_2).1 (by decide) (by decide) k) ?_
      refine own_by (T' := s₁) (g' := (mkF m 23 #[.val (.int u), .val (.int (2 : Int32)), .val (.int ((u.toUInt32 >>> ((7 : Int32) &&& 31).toUInt32).toInt32))] [(.int (2 : Int32))])) (fun _ k => XS.iloadN X0.here hx rfl (hb hby d1_22) rfl k) ?_
      refine own_ret X0 hlk (v := some (.int (2 : Int32))) (fun h => by rw [Bd.returns] at h; cases h) (fun fs hr => retI X0 hx Bd.returns (hb hby d1_23) hr) ?_ (by decide) (by decide)
      rw [e0]
      exact ⟨congrArg (fun z => some (Value.int z)) (own_leaf2 u hc8_1 hc8_2), N0, rfl⟩
    · skip
      refine own_by (T' := s₁) (g' := (mkF m 11 #[.val (.int u), .val (.int (2 : Int32)), .val (.int ((u.toUInt32 >>> ((7 : Int32) &&& 31).toUInt32).toInt32))] [])) (fun _ k => XS.icmpNo X0.here hx rfl (hb hby d1_8) rfl (flt hc8_2).1 k) ?_
      refine own_by (T' := s₁) (g' := (mkF m 12 #[.val (.int u), .val (.int (2 : Int32)), .val (.int ((u.toUInt32 >>> ((7 : Int32) &&& 31).toUInt32).toInt32))] [(.int ((u.toUInt32 >>> ((7 : Int32) &&& 31).toUInt32).toInt32))])) (fun _ k => XS.iloadN X0.here hx rfl (hb hby d1_11) rfl k) ?_
      refine own_by (T' := s₁) (g' := (mkF m 14 #[.val (.int u), .val (.int (2 : Int32)), .val (.int ((u.toUInt32 >>> ((7 : Int32) &&& 31).toUInt32).toInt32))] [(.int (7 : Int32)), (.int ((u.toUInt32 >>> ((7 : Int32) &&& 31).toUInt32).toInt32))])) (fun _ k => XS.bipush X0.here hx rfl (hb hby d1_12) k) ?_
      refine own_by (T' := s₁) (g' := (mkF m 15 #[.val (.int u), .val (.int (2 : Int32)), .val (.int ((u.toUInt32 >>> ((7 : Int32) &&& 31).toUInt32).toInt32))] [(.int ((((u.toUInt32 >>> ((7 : Int32) &&& 31).toUInt32).toInt32).toUInt32 >>> ((7 : Int32) &&& 31).toUInt32).toInt32))])) (fun _ k => XS.iushr X0.here hx rfl (hb hby d1_14) rfl k) ?_
      refine own_by (T' := s₁) (g' := (mkF m 16 #[.val (.int u), .val (.int (2 : Int32)), .val (.int ((((u.toUInt32 >>> ((7 : Int32) &&& 31).toUInt32).toInt32).toUInt32 >>> ((7 : Int32) &&& 31).toUInt32).toInt32))] [])) (fun _ k => XS.istoreN X0.here hx rfl (hb hby d1_15) rfl (l' := #[.val (.int u), .val (.int (2 : Int32)), .val (.int ((((u.toUInt32 >>> ((7 : Int32) &&& 31).toUInt32).toInt32).toUInt32 >>> ((7 : Int32) &&& 31).toUInt32).toInt32))]) rfl k) ?_
      refine own_by (T' := s₁) (g' := (mkF m 19 #[.val (.int u), .val (.int (3 : Int32)), .val (.int ((((u.toUInt32 >>> ((7 : Int32) &&& 31).toUInt32).toInt32).toUInt32 >>> ((7 : Int32) &&& 31).toUInt32).toInt32))] [])) (fun _ k => XS.iinc X0.here hx rfl (hb hby d1_16) rfl (l' := #[.val (.int u), .val (.int (3 : Int32)), .val (.int ((((u.toUInt32 >>> ((7 : Int32) &&& 31).toUInt32).toInt32).toUInt32 >>> ((7 : Int32) &&& 31).toUInt32).toInt32))]) rfl k) ?_
      refine own_by (T' := s₁) (g' := (mkF m 4 #[.val (.int u), .val (.int (3 : Int32)), .val (.int ((((u.toUInt32 >>> ((7 : Int32) &&& 31).toUInt32).toInt32).toUInt32 >>> ((7 : Int32) &&& 31).toUInt32).toInt32))] [])) (fun _ k => XS.goto X0.here hx rfl (pc0 := 19) (pc' := 4) rfl (hb hby d1_19) (by decide) (by decide) k) ?_
      refine own_by (T' := s₁) (g' := (mkF m 5 #[.val (.int u), .val (.int (3 : Int32)), .val (.int ((((u.toUInt32 >>> ((7 : Int32) &&& 31).toUInt32).toInt32).toUInt32 >>> ((7 : Int32) &&& 31).toUInt32).toInt32))] [(.int ((((u.toUInt32 >>> ((7 : Int32) &&& 31).toUInt32).toInt32).toUInt32 >>> ((7 : Int32) &&& 31).toUInt32).toInt32))])) (fun _ k => XS.iloadN X0.here hx rfl (hb hby d1_4) rfl k) ?_
      refine own_by (T' := s₁) (g' := (mkF m 8 #[.val (.int u), .val (.int (3 : Int32)), .val (.int ((((u.toUInt32 >>> ((7 : Int32) &&& 31).toUInt32).toInt32).toUInt32 >>> ((7 : Int32) &&& 31).toUInt32).toInt32))] [(.int (128 : Int32)), (.int ((((u.toUInt32 >>> ((7 : Int32) &&& 31).toUInt32).toInt32).toUInt32 >>> ((7 : Int32) &&& 31).toUInt32).toInt32))])) (fun _ k => XS.sipush X0.here hx rfl (hb hby d1_5) k) ?_
      by_cases hc8_3 : ((((u.toUInt32 >>> ((7 : Int32) &&& 31).toUInt32).toInt32).toUInt32 >>> ((7 : Int32) &&& 31).toUInt32).toInt32) < (128 : Int32)
      · skip
        refine own_by (T' := s₁) (g' := (mkF m 22 #[.val (.int u), .val (.int (3 : Int32)), .val (.int ((((u.toUInt32 >>> ((7 : Int32) &&& 31).toUInt32).toInt32).toUInt32 >>> ((7 : Int32) &&& 31).toUInt32).toInt32))] [])) (fun _ k => XS.icmpYes X0.here hx rfl (pc0 := 8) (pc' := 22) rfl (hb hby d1_8) rfl (tlt hc8_3).1 (by decide) (by decide) k) ?_
        refine own_by (T' := s₁) (g' := (mkF m 23 #[.val (.int u), .val (.int (3 : Int32)), .val (.int ((((u.toUInt32 >>> ((7 : Int32) &&& 31).toUInt32).toInt32).toUInt32 >>> ((7 : Int32) &&& 31).toUInt32).toInt32))] [(.int (3 : Int32))])) (fun _ k => XS.iloadN X0.here hx rfl (hb hby d1_22) rfl k) ?_
        refine own_ret X0 hlk (v := some (.int (3 : Int32))) (fun h => by rw [Bd.returns] at h; cases h) (fun fs hr => retI X0 hx Bd.returns (hb hby d1_23) hr) ?_ (by decide) (by decide)
        rw [e0]
        exact ⟨congrArg (fun z => some (Value.int z)) (own_leaf3 u hc8_1 hc8_2 hc8_3), N0, rfl⟩
      · skip
        refine own_by (T' := s₁) (g' := (mkF m 11 #[.val (.int u), .val (.int (3 : Int32)), .val (.int ((((u.toUInt32 >>> ((7 : Int32) &&& 31).toUInt32).toInt32).toUInt32 >>> ((7 : Int32) &&& 31).toUInt32).toInt32))] [])) (fun _ k => XS.icmpNo X0.here hx rfl (hb hby d1_8) rfl (flt hc8_3).1 k) ?_
        refine own_by (T' := s₁) (g' := (mkF m 12 #[.val (.int u), .val (.int (3 : Int32)), .val (.int ((((u.toUInt32 >>> ((7 : Int32) &&& 31).toUInt32).toInt32).toUInt32 >>> ((7 : Int32) &&& 31).toUInt32).toInt32))] [(.int ((((u.toUInt32 >>> ((7 : Int32) &&& 31).toUInt32).toInt32).toUInt32 >>> ((7 : Int32) &&& 31).toUInt32).toInt32))])) (fun _ k => XS.iloadN X0.here hx rfl (hb hby d1_11) rfl k) ?_
        refine own_by (T' := s₁) (g' := (mkF m 14 #[.val (.int u), .val (.int (3 : Int32)), .val (.int ((((u.toUInt32 >>> ((7 : Int32) &&& 31).toUInt32).toInt32).toUInt32 >>> ((7 : Int32) &&& 31).toUInt32).toInt32))] [(.int (7 : Int32)), (.int ((((u.toUInt32 >>> ((7 : Int32) &&& 31).toUInt32).toInt32).toUInt32 >>> ((7 : Int32) &&& 31).toUInt32).toInt32))])) (fun _ k => XS.bipush X0.here hx rfl (hb hby d1_12) k) ?_
        refine own_by (T' := s₁) (g' := (mkF m 15 #[.val (.int u), .val (.int (3 : Int32)), .val (.int ((((u.toUInt32 >>> ((7 : Int32) &&& 31).toUInt32).toInt32).toUInt32 >>> ((7 : Int32) &&& 31).toUInt32).toInt32))] [(.int ((((((u.toUInt32 >>> ((7 : Int32) &&& 31).toUInt32).toInt32).toUInt32 >>> ((7 : Int32) &&& 31).toUInt32).toInt32).toUInt32 >>> ((7 : Int32) &&& 31).toUInt32).toInt32))])) (fun _ k => XS.iushr X0.here hx rfl (hb hby d1_14) rfl k) ?_
        refine own_by (T' := s₁) (g' := (mkF m 16 #[.val (.int u), .val (.int (3 : Int32)), .val (.int ((((((u.toUInt32 >>> ((7 : Int32) &&& 31).toUInt32).toInt32).toUInt32 >>> ((7 : Int32) &&& 31).toUInt32).toInt32).toUInt32 >>> ((7 : Int32) &&& 31).toUInt32).toInt32))] [])) (fun _ k => XS.istoreN X0.here hx rfl (hb hby d1_15) rfl (l' := #[.val (.int u), .val (.int (3 : Int32)), .val (.int ((((((u.toUInt32 >>> ((7 : Int32) &&& 31).toUInt32).toInt32).toUInt32 >>> ((7 : Int32) &&& 31).toUInt32).toInt32).toUInt32 >>> ((7 : Int32) &&& 31).toUInt32).toInt32))]) rfl k) ?_
        refine own_by (T' := s₁) (g' := (mkF m 19 #[.val (.int u), .val (.int (4 : Int32)), .val (.int ((((((u.toUInt32 >>> ((7 : Int32) &&& 31).toUInt32).toInt32).toUInt32 >>> ((7 : Int32) &&& 31).toUInt32).toInt32).toUInt32 >>> ((7 : Int32) &&& 31).toUInt32).toInt32))] [])) (fun _ k => XS.iinc X0.here hx rfl (hb hby d1_16) rfl (l' := #[.val (.int u), .val (.int (4 : Int32)), .val (.int ((((((u.toUInt32 >>> ((7 : Int32) &&& 31).toUInt32).toInt32).toUInt32 >>> ((7 : Int32) &&& 31).toUInt32).toInt32).toUInt32 >>> ((7 : Int32) &&& 31).toUInt32).toInt32))]) rfl k) ?_
        refine own_by (T' := s₁) (g' := (mkF m 4 #[.val (.int u), .val (.int (4 : Int32)), .val (.int ((((((u.toUInt32 >>> ((7 : Int32) &&& 31).toUInt32).toInt32).toUInt32 >>> ((7 : Int32) &&& 31).toUInt32).toInt32).toUInt32 >>> ((7 : Int32) &&& 31).toUInt32).toInt32))] [])) (fun _ k => XS.goto X0.here hx rfl (pc0 := 19) (pc' := 4) rfl (hb hby d1_19) (by decide) (by decide) k) ?_
        refine own_by (T' := s₁) (g' := (mkF m 5 #[.val (.int u), .val (.int (4 : Int32)), .val (.int ((((((u.toUInt32 >>> ((7 : Int32) &&& 31).toUInt32).toInt32).toUInt32 >>> ((7 : Int32) &&& 31).toUInt32).toInt32).toUInt32 >>> ((7 : Int32) &&& 31).toUInt32).toInt32))] [(.int ((((((u.toUInt32 >>> ((7 : Int32) &&& 31).toUInt32).toInt32).toUInt32 >>> ((7 : Int32) &&& 31).toUInt32).toInt32).toUInt32 >>> ((7 : Int32) &&& 31).toUInt32).toInt32))])) (fun _ k => XS.iloadN X0.here hx rfl (hb hby d1_4) rfl k) ?_
        refine own_by (T' := s₁) (g' := (mkF m 8 #[.val (.int u), .val (.int (4 : Int32)), .val (.int ((((((u.toUInt32 >>> ((7 : Int32) &&& 31).toUInt32).toInt32).toUInt32 >>> ((7 : Int32) &&& 31).toUInt32).toInt32).toUInt32 >>> ((7 : Int32) &&& 31).toUInt32).toInt32))] [(.int (128 : Int32)), (.int ((((((u.toUInt32 >>> ((7 : Int32) &&& 31).toUInt32).toInt32).toUInt32 >>> ((7 : Int32) &&& 31).toUInt32).toInt32).toUInt32 >>> ((7 : Int32) &&& 31).toUInt32).toInt32))])) (fun _ k => XS.sipush X0.here hx rfl (hb hby d1_5) k) ?_
        by_cases hc8_4 : ((((((u.toUInt32 >>> ((7 : Int32) &&& 31).toUInt32).toInt32).toUInt32 >>> ((7 : Int32) &&& 31).toUInt32).toInt32).toUInt32 >>> ((7 : Int32) &&& 31).toUInt32).toInt32) < (128 : Int32)
        · skip
          refine own_by (T' := s₁) (g' := (mkF m 22 #[.val (.int u), .val (.int (4 : Int32)), .val (.int ((((((u.toUInt32 >>> ((7 : Int32) &&& 31).toUInt32).toInt32).toUInt32 >>> ((7 : Int32) &&& 31).toUInt32).toInt32).toUInt32 >>> ((7 : Int32) &&& 31).toUInt32).toInt32))] [])) (fun _ k => XS.icmpYes X0.here hx rfl (pc0 := 8) (pc' := 22) rfl (hb hby d1_8) rfl (tlt hc8_4).1 (by decide) (by decide) k) ?_
          refine own_by (T' := s₁) (g' := (mkF m 23 #[.val (.int u), .val (.int (4 : Int32)), .val (.int ((((((u.toUInt32 >>> ((7 : Int32) &&& 31).toUInt32).toInt32).toUInt32 >>> ((7 : Int32) &&& 31).toUInt32).toInt32).toUInt32 >>> ((7 : Int32) &&& 31).toUInt32).toInt32))] [(.int (4 : Int32))])) (fun _ k => XS.iloadN X0.here hx rfl (hb hby d1_22) rfl k) ?_
          refine own_ret X0 hlk (v := some (.int (4 : Int32))) (fun h => by rw [Bd.returns] at h; cases h) (fun fs hr => retI X0 hx Bd.returns (hb hby d1_23) hr) ?_ (by decide) (by decide)
          rw [e0]
          exact ⟨congrArg (fun z => some (Value.int z)) (own_leaf4 u hc8_1 hc8_2 hc8_3 hc8_4), N0, rfl⟩
        · skip
          refine own_by (T' := s₁) (g' := (mkF m 11 #[.val (.int u), .val (.int (4 : Int32)), .val (.int ((((((u.toUInt32 >>> ((7 : Int32) &&& 31).toUInt32).toInt32).toUInt32 >>> ((7 : Int32) &&& 31).toUInt32).toInt32).toUInt32 >>> ((7 : Int32) &&& 31).toUInt32).toInt32))] [])) (fun _ k => XS.icmpNo X0.here hx rfl (hb hby d1_8) rfl (flt hc8_4).1 k) ?_
          refine own_by (T' := s₁) (g' := (mkF m 12 #[.val (.int u), .val (.int (4 : Int32)), .val (.int ((((((u.toUInt32 >>> ((7 : Int32) &&& 31).toUInt32).toInt32).toUInt32 >>> ((7 : Int32) &&& 31).toUInt32).toInt32).toUInt32 >>> ((7 : Int32) &&& 31).toUInt32).toInt32))] [(.int ((((((u.toUInt32 >>> ((7 : Int32) &&& 31).toUInt32).toInt32).toUInt32 >>> ((7 : Int32) &&& 31).toUInt32).toInt32).toUInt32 >>> ((7 : Int32) &&& 31).toUInt32).toInt32))])) (fun _ k => XS.iloadN X0.here hx rfl (hb hby d1_11) rfl k) ?_
          refine own_by (T' := s₁) (g' := (mkF m 14 #[.val (.int u), .val (.int (4 : Int32)), .val (.int ((((((u.toUInt32 >>> ((7 : Int32) &&& 31).toUInt32).toInt32).toUInt32 >>> ((7 : Int32) &&& 31).toUInt32).toInt32).toUInt32 >>> ((7 : Int32) &&& 31).toUInt32).toInt32))] [(.int (7 : Int32)), (.int ((((((u.toUInt32 >>> ((7 : Int32) &&& 31).toUInt32).toInt32).toUInt32 >>> ((7 : Int32) &&& 31).toUInt32).toInt32).toUInt32 >>> ((7 : Int32) &&& 31).toUInt32).toInt32))])) (fun _ k => XS.bipush X0.here hx rfl (hb hby d1_12) k) ?_
          refine own_by (T' := s₁) (g' := (mkF m 15 #[.val (.int u), .val (.int (4 : Int32)), .val (.int ((((((u.toUInt32 >>> ((7 : Int32) &&& 31).toUInt32).toInt32).toUInt32 >>> ((7 : Int32) &&& 31).toUInt32).toInt32).toUInt32 >>> ((7 : Int32) &&& 31).toUInt32).toInt32))] [(.int ((((((((u.toUInt32 >>> ((7 : Int32) &&& 31).toUInt32).toInt32).toUInt32 >>> ((7 : Int32) &&& 31).toUInt32).toInt32).toUInt32 >>> ((7 : Int32) &&& 31).toUInt32).toInt32).toUInt32 >>> ((7 : Int32) &&& 31).toUInt32).toInt32))])) (fun _ k => XS.iushr X0.here hx rfl (hb hby d1_14) rfl k) ?_
          refine own_by (T' := s₁) (g' := (mkF m 16 #[.val (.int u), .val (.int (4 : Int32)), .val (.int ((((((((u.toUInt32 >>> ((7 : Int32) &&& 31).toUInt32).toInt32).toUInt32 >>> ((7 : Int32) &&& 31).toUInt32).toInt32).toUInt32 >>> ((7 : Int32) &&& 31).toUInt32).toInt32).toUInt32 >>> ((7 : Int32) &&& 31).toUInt32).toInt32))] [])) (fun _ k => XS.istoreN X0.here hx rfl (hb hby d1_15) rfl (l' := #[.val (.int u), .val (.int (4 : Int32)), .val (.int ((((((((u.toUInt32 >>> ((7 : Int32) &&& 31).toUInt32).toInt32).toUInt32 >>> ((7 : Int32) &&& 31).toUInt32).toInt32).toUInt32 >>> ((7 : Int32) &&& 31).toUInt32).toInt32).toUInt32 >>> ((7 : Int32) &&& 31).toUInt32).toInt32))]) rfl k) ?_
          refine own_by (T' := s₁) (g' := (mkF m 19 #[.val (.int u), .val (.int (5 : Int32)), .val (.int ((((((((u.toUInt32 >>> ((7 : Int32) &&& 31).toUInt32).toInt32).toUInt32 >>> ((7 : Int32) &&& 31).toUInt32).toInt32).toUInt32 >>> ((7 : Int32) &&& 31).toUInt32).toInt32).toUInt32 >>> ((7 : Int32) &&& 31).toUInt32).toInt32))] [])) (fun _ k => XS.iinc X0.here hx rfl (hb hby d1_16) rfl (l' := #[.val (.int u), .val (.int (5 : Int32)), .val (.int ((((((((u.toUInt32 >>> ((7 : Int32) &&& 31).toUInt32).toInt32).toUInt32 >>> ((7 : Int32) &&& 31).toUInt32).toInt32).toUInt32 >>> ((7 : Int32) &&& 31).toUInt32).toInt32).toUInt32 >>> ((7 : Int32) &&& 31).toUInt32).toInt32))]) rfl k) ?_
          refine own_by (T' := s₁) (g' := (mkF m 4 #[.val (.int u), .val (.int (5 : Int32)), .val (.int ((((((((u.toUInt32 >>> ((7 : Int32) &&& 31).toUInt32).toInt32).toUInt32 >>> ((7 : Int32) &&& 31).toUInt32).toInt32).toUInt32 >>> ((7 : Int32) &&& 31).toUInt32).toInt32).toUInt32 >>> ((7 : Int32) &&& 31).toUInt32).toInt32))] [])) (fun _ k => XS.goto X0.here hx rfl (pc0 := 19) (pc' := 4) rfl (hb hby d1_19) (by decide) (by decide) k) ?_
          refine own_by (T' := s₁) (g' := (mkF m 5 #[.val (.int u), .val (.int (5 : Int32)), .val (.int ((((((((u.toUInt32 >>> ((7 : Int32) &&& 31).toUInt32).toInt32).toUInt32 >>> ((7 : Int32) &&& 31).toUInt32).toInt32).toUInt32 >>> ((7 : Int32) &&& 31).toUInt32).toInt32).toUInt32 >>> ((7 : Int32) &&& 31).toUInt32).toInt32))] [(.int ((((((((u.toUInt32 >>> ((7 : Int32) &&& 31).toUInt32).toInt32).toUInt32 >>> ((7 : Int32) &&& 31).toUInt32).toInt32).toUInt32 >>> ((7 : Int32) &&& 31).toUInt32).toInt32).toUInt32 >>> ((7 : Int32) &&& 31).toUInt32).toInt32))])) (fun _ k => XS.iloadN X0.here hx rfl (hb hby d1_4) rfl k) ?_
          refine own_by (T' := s₁) (g' := (mkF m 8 #[.val (.int u), .val (.int (5 : Int32)), .val (.int ((((((((u.toUInt32 >>> ((7 : Int32) &&& 31).toUInt32).toInt32).toUInt32 >>> ((7 : Int32) &&& 31).toUInt32).toInt32).toUInt32 >>> ((7 : Int32) &&& 31).toUInt32).toInt32).toUInt32 >>> ((7 : Int32) &&& 31).toUInt32).toInt32))] [(.int (128 : Int32)), (.int ((((((((u.toUInt32 >>> ((7 : Int32) &&& 31).toUInt32).toInt32).toUInt32 >>> ((7 : Int32) &&& 31).toUInt32).toInt32).toUInt32 >>> ((7 : Int32) &&& 31).toUInt32).toInt32).toUInt32 >>> ((7 : Int32) &&& 31).toUInt32).toInt32))])) (fun _ k => XS.sipush X0.here hx rfl (hb hby d1_5) k) ?_
          refine own_by (T' := s₁) (g' := (mkF m 22 #[.val (.int u), .val (.int (5 : Int32)), .val (.int ((((((((u.toUInt32 >>> ((7 : Int32) &&& 31).toUInt32).toInt32).toUInt32 >>> ((7 : Int32) &&& 31).toUInt32).toInt32).toUInt32 >>> ((7 : Int32) &&& 31).toUInt32).toInt32).toUInt32 >>> ((7 : Int32) &&& 31).toUInt32).toInt32))] [])) (fun _ k => XS.icmpYes X0.here hx rfl (pc0 := 8) (pc' := 22) rfl (hb hby d1_8) rfl (tlt (own_five u hc8_1 hc8_2 hc8_3 hc8_4)).1 (by decide) (by decide) k) ?_
          refine own_by (T' := s₁) (g' := (mkF m 23 #[.val (.int u), .val (.int (5 : Int32)), .val (.int ((((((((u.toUInt32 >>> ((7 : Int32) &&& 31).toUInt32).toInt32).toUInt32 >>> ((7 : Int32) &&& 31).toUInt32).toInt32).toUInt32 >>> ((7 : Int32) &&& 31).toUInt32).toInt32).toUInt32 >>> ((7 : Int32) &&& 31).toUInt32).toInt32))] [(.int (5 : Int32))])) (fun _ k => XS.iloadN X0.here hx rfl (hb hby d1_22) rfl k) ?_
          refine own_ret X0 hlk (v := some (.int (5 : Int32))) (fun h => by rw [Bd.returns] at h; cases h) (fun fs hr => retI X0 hx Bd.returns (hb hby d1_23) hr) ?_ (by decide) (by decide)
          rw [e0]
          exact ⟨congrArg (fun z => some (Value.int z)) (own_leaf5 u hc8_1 hc8_2 hc8_3 hc8_4), N0, rfl⟩
theorem d2_0 : decode method_2_code 0 = .ok (.iload_n 0, 1) := by decide +kernel
theorem d2_1 : decode method_2_code 1 = .ok (.sipush 128, 3) := by decide +kernel
theorem d2_4 : decode method_2_code 4 = .ok (.if_icmp .ge 5, 3) := by decide +kernel
theorem d2_7 : decode method_2_code 7 = .ok (.iconst 1, 1) := by decide +kernel
theorem d2_8 : decode method_2_code 8 = .ok (.ireturn, 1) := by decide +kernel
theorem d2_9 : decode method_2_code 9 = .ok (.iload_n 0, 1) := by decide +kernel
theorem d2_10 : decode method_2_code 10 = .ok (.sipush 16384, 3) := by decide +kernel
theorem d2_13 : decode method_2_code 13 = .ok (.if_icmp .ge 5, 3) := by decide +kernel
theorem d2_16 : decode method_2_code 16 = .ok (.iconst 2, 1) := by decide +kernel
theorem d2_17 : decode method_2_code 17 = .ok (.ireturn, 1) := by decide +kernel
theorem d2_18 : decode method_2_code 18 = .ok (.iload_n 0, 1) := by decide +kernel
theorem d2_19 : decode method_2_code 19 = .ok (.ldc 7, 2) := by decide +kernel
theorem d2_21 : decode method_2_code 21 = .ok (.if_icmp .ge 5, 3) := by decide +kernel
theorem d2_24 : decode method_2_code 24 = .ok (.iconst 3, 1) := by decide +kernel
theorem d2_25 : decode method_2_code 25 = .ok (.ireturn, 1) := by decide +kernel
theorem d2_26 : decode method_2_code 26 = .ok (.iload_n 0, 1) := by decide +kernel
theorem d2_27 : decode method_2_code 27 = .ok (.ldc 8, 2) := by decide +kernel
theorem d2_29 : decode method_2_code 29 = .ok (.if_icmp .ge 5, 3) := by decide +kernel
theorem d2_32 : decode method_2_code 32 = .ok (.iconst 4, 1) := by decide +kernel
theorem d2_33 : decode method_2_code 33 = .ok (.ireturn, 1) := by decide +kernel
theorem d2_34 : decode method_2_code 34 = .ok (.iconst 5, 1) := by decide +kernel
theorem d2_35 : decode method_2_code 35 = .ok (.ireturn, 1) := by decide +kernel
theorem pn_2 : plainName "com/example/postings/postings/store/DataFileWriterVarIntSizePinLaw" = true := by first | (simp [plainName, overriddenIn]; done) | decide +kernel
theorem ef_rm2 (m : MethodId) (u : Int32) : entryFrame m #[(.int u)] 1 = mkF m 0 #[.val (.int u)] [] := by first | (simp [entryFrame, mkF, argsToLocals, Value.category]; done) | rfl
def Q_rm2 (Z : State) (u : Int32) (h0 : Heap) (n0 : Nat) (v : Option Value) (h : Heap) (L : List Loc) : Prop := v = some (.int (own_size u)) ∧ Fr n0 L ∧ h = h0
set_option maxRecDepth 65536 in
set_option maxHeartbeats 40000000 in
theorem rm2 (l : Launch) (Z : State) (a0 : Array Value) (hw : ∀ d ∈ tables_1, d.before a0 Z = true) (ws : List Jvm.Cond) (u : Int32) (h0 : Heap) (n0 : Nat) (Z0 : n0 ≤ h0.size) :
    MetFree l (⟨"com/example/postings/postings/store/DataFileWriterVarIntSizePinLaw", "reference", "(I)I"⟩ : MethodName) (head1 (Jvm.Cond.code (⟨"com/example/postings/postings/store/DataFileWriterVarIntSizePinLaw", "reference", "(I)I"⟩ : MethodName) method_2_code 1 (some .int) :: ws) ({ frames := 0, cells := 0, slots := 0, locals := 0 } : Room)) (fun zz UU => zz = #[(.int u)] ∧ Z.Warmed39 UU.vm ∧ UU.heap = h0) (fun _ _ _ _ _ => True) (fun _ U o U' => ∃ v L, o = .returned v ∧ Q_rm2 Z u h0 n0 v U'.heap L ∧ FrameEnd U o U' L ({ frames := 0, cells := 0, slots := 0, locals := 0 } : Room).cells ({ frames := 0, cells := 0, slots := 0, locals := 0 } : Room).slots) := by
  refine MetFree.of_bodySF (plainFor_of_name pn_2) hisR ?_
  intro p e s m args below meth c s₁ Bd hml0 hP hK
  obtain ⟨rfl, hZ, hh⟩ := hP
  have hx := Bd.exec
  have hby := Bd.bytes
  have hml : c.maxLocals = 1 := hml0
  have hown : s.vm.findClass "com/example/postings/postings/store/DataFileWriterVarIntSizePinLaw" = some m.cls := findClass_of_methodNamed Bd.named
  have hnm := (name_of_methodNamed Bd.named Bd.method).1
  have hlk : meth.locks = false := BodyLoose.notSynchronized Bd
  have X0 : Stand p l e ({ frames := 0, cells := 0, slots := 0, locals := 0 } : Room) s m #[(.int u)] below meth c s₁ [] 0 0 := Stand.of_body Bd
  have e0 : s₁.heap = h0 := by rw [← hh, Bd.state]; rfl
  have N0 := Fr.nil n0
  show own_Go p.tables e below (Q_rm2 Z u h0 n0) s ({ frames := 0, cells := 0, slots := 0, locals := 0 } : Room).cells ({ frames := 0, cells := 0, slots := 0, locals := 0 } : Room).slots s₁ (entryFrame m #[(.int u)] 1)
  rw [ef_rm2 m u]
  refine own_by (T' := s₁) (g' := (mkF m 1 #[.val (.int u)] [(.int u)])) (fun _ k => XS.iloadN X0.here hx rfl (hb hby d2_0) rfl k) ?_
  refine own_by (T' := s₁) (g' := (mkF m 4 #[.val (.int u)] [(.int (128 : Int32)), (.int u)])) (fun _ k => XS.sipush X0.here hx rfl (hb hby d2_1) k) ?_
  by_cases hc4_1 : u < (128 : Int32)
  · skip
    refine own_by (T' := s₁) (g' := (mkF m 7 #[.val (.int u)] [])) (fun _ k => XS.icmpNo X0.here hx rfl (hb hby d2_4) rfl (tlt hc4_1).2.1 k) ?_
    refine own_by (T' := s₁) (g' := (mkF m 8 #[.val (.int u)] [(.int (1 : Int32))])) (fun _ k => XS.iconst X0.here hx rfl (hb hby d2_7) k) ?_
    refine own_ret X0 hlk (v := some (.int (1 : Int32))) (fun h => by rw [Bd.returns] at h; cases h) (fun fs hr => retI X0 hx Bd.returns (hb hby d2_8) hr) ?_ (by decide) (by decide)
    rw [e0]
    exact ⟨congrArg (fun z => some (Value.int z)) (own_ref1 u hc4_1), N0, rfl⟩
  · skip
    refine own_by (T' := s₁) (g' := (mkF m 9 #[.val (.int u)] [])) (fun _ k => XS.icmpYes X0.here hx rfl (pc0 := 4) (pc' := 9) rfl (hb hby d2_4) rfl (flt hc4_1).2.1 (by decide) (by decide) k) ?_
    refine own_by (T' := s₁) (g' := (mkF m 10 #[.val (.int u)] [(.int u)])) (fun _ k => XS.iloadN X0.here hx rfl (hb hby d2_9) rfl k) ?_
    refine own_by (T' := s₁) (g' := (mkF m 13 #[.val (.int u)] [(.int (16384 : Int32)), (.int u)])) (fun _ k => XS.sipush X0.here hx rfl (hb hby d2_10) k) ?_
    by_cases hc13_2 : u < (16384 : Int32)
    · skip
      refine own_by (T' := s₁) (g' := (mkF m 16 #[.val (.int u)] [])) (fun _ k => XS.icmpNo X0.here hx rfl (hb hby d2_13) rfl (tlt hc13_2).2.1 k) ?_
      refine own_by (T' := s₁) (g' := (mkF m 17 #[.val (.int u)] [(.int (2 : Int32))])) (fun _ k => XS.iconst X0.here hx rfl (hb hby d2_16) k) ?_
      refine own_ret X0 hlk (v := some (.int (2 : Int32))) (fun h => by rw [Bd.returns] at h; cases h) (fun fs hr => retI X0 hx Bd.returns (hb hby d2_17) hr) ?_ (by decide) (by decide)
      rw [e0]
      exact ⟨congrArg (fun z => some (Value.int z)) (own_ref2 u hc4_1 hc13_2), N0, rfl⟩
    · skip
      refine own_by (T' := s₁) (g' := (mkF m 18 #[.val (.int u)] [])) (fun _ k => XS.icmpYes X0.here hx rfl (pc0 := 13) (pc' := 18) rfl (hb hby d2_13) rfl (flt hc13_2).2.1 (by decide) (by decide) k) ?_
      refine own_by (T' := s₁) (g' := (mkF m 19 #[.val (.int u)] [(.int u)])) (fun _ k => XS.iloadN X0.here hx rfl (hb hby d2_18) rfl k) ?_
      refine own_by (T' := s₁) (g' := (mkF m 21 #[.val (.int u)] [(.int (2097152 : Int32)), (.int u)])) (fun _ k => ldcI X0 hx hown (mvT hZ (hw _ (List.mem_of_getElem? (i := 9) rfl))) rfl (hb hby d2_19) k) ?_
      by_cases hc21_3 : u < (2097152 : Int32)
      · skip
        refine own_by (T' := s₁) (g' := (mkF m 24 #[.val (.int u)] [])) (fun _ k => XS.icmpNo X0.here hx rfl (hb hby d2_21) rfl (tlt hc21_3).2.1 k) ?_
        refine own_by (T' := s₁) (g' := (mkF m 25 #[.val (.int u)] [(.int (3 : Int32))])) (fun _ k => XS.iconst X0.here hx rfl (hb hby d2_24) k) ?_
        refine own_ret X0 hlk (v := some (.int (3 : Int32))) (fun h => by rw [Bd.returns] at h; cases h) (fun fs hr => retI X0 hx Bd.returns (hb hby d2_25) hr) ?_ (by decide) (by decide)
        rw [e0]
        exact ⟨congrArg (fun z => some (Value.int z)) (own_ref3 u hc4_1 hc13_2 hc21_3), N0, rfl⟩
      · skip
        refine own_by (T' := s₁) (g' := (mkF m 26 #[.val (.int u)] [])) (fun _ k => XS.icmpYes X0.here hx rfl (pc0 := 21) (pc' := 26) rfl (hb hby d2_21) rfl (flt hc21_3).2.1 (by decide) (by decide) k) ?_
        refine own_by (T' := s₁) (g' := (mkF m 27 #[.val (.int u)] [(.int u)])) (fun _ k => XS.iloadN X0.here hx rfl (hb hby d2_26) rfl k) ?_
        refine own_by (T' := s₁) (g' := (mkF m 29 #[.val (.int u)] [(.int (268435456 : Int32)), (.int u)])) (fun _ k => ldcI X0 hx hown (mvT hZ (hw _ (List.mem_of_getElem? (i := 10) rfl))) rfl (hb hby d2_27) k) ?_
        by_cases hc29_4 : u < (268435456 : Int32)
        · skip
          refine own_by (T' := s₁) (g' := (mkF m 32 #[.val (.int u)] [])) (fun _ k => XS.icmpNo X0.here hx rfl (hb hby d2_29) rfl (tlt hc29_4).2.1 k) ?_
          refine own_by (T' := s₁) (g' := (mkF m 33 #[.val (.int u)] [(.int (4 : Int32))])) (fun _ k => XS.iconst X0.here hx rfl (hb hby d2_32) k) ?_
          refine own_ret X0 hlk (v := some (.int (4 : Int32))) (fun h => by rw [Bd.returns] at h; cases h) (fun fs hr => retI X0 hx Bd.returns (hb hby d2_33) hr) ?_ (by decide) (by decide)
          rw [e0]
          exact ⟨congrArg (fun z => some (Value.int z)) (own_ref4 u hc4_1 hc13_2 hc21_3 hc29_4), N0, rfl⟩
        · skip
          refine own_by (T' := s₁) (g' := (mkF m 34 #[.val (.int u)] [])) (fun _ k => XS.icmpYes X0.here hx rfl (pc0 := 29) (pc' := 34) rfl (hb hby d2_29) rfl (flt hc29_4).2.1 (by decide) (by decide) k) ?_
          refine own_by (T' := s₁) (g' := (mkF m 35 #[.val (.int u)] [(.int (5 : Int32))])) (fun _ k => XS.iconst X0.here hx rfl (hb hby d2_34) k) ?_
          refine own_ret X0 hlk (v := some (.int (5 : Int32))) (fun h => by rw [Bd.returns] at h; cases h) (fun fs hr => retI X0 hx Bd.returns (hb hby d2_35) hr) ?_ (by decide) (by decide)
          rw [e0]
          exact ⟨congrArg (fun z => some (Value.int z)) (own_ref5 u hc4_1 hc13_2 hc21_3 hc29_4), N0, rfl⟩
theorem pn_0 : plainName "com/example/postings/postings/store/DataFileWriterVarIntSizePinLaw" = true := by first | (simp [plainName, overriddenIn]; done) | decide +kernel
theorem ef_rm0 (m : MethodId) (a : Int32) (b : Int32) (d : Int32) : entryFrame m #[(.int a), (.int b), (.int d)] maxLocals = mkF m 0 #[.val (.int a), .val (.int b), .val (.int d), .unset, .unset, .unset] [] := by first | (simp [entryFrame, mkF, argsToLocals, Value.category, maxLocals]; done) | rfl
def Q_rm0 (Z : State) (a : Int32) (b : Int32) (d : Int32) (h0 : Heap) (n0 : Nat) (v : Option Value) (h : Heap) (L : List Loc) : Prop := v = some (.int 1) ∧ Fr n0 L
set_option maxRecDepth 65536 in
set_option maxHeartbeats 40000000 in
theorem rm0 (l : Launch) (Z : State) (a0 : Array Value) (hw : ∀ d ∈ tables_1, d.before a0 Z = true) (ws : List Jvm.Cond) (a : Int32) (b : Int32) (d : Int32) (h0 : Heap) (n0 : Nat) (Z0 : n0 ≤ h0.size) :
    MetFree l x (head1 (Jvm.Cond.code x code maxLocals ret :: ws) room_1) (fun zz UU => zz = #[(.int a), (.int b), (.int d)] ∧ Z.Warmed39 UU.vm ∧ UU.heap = h0) (fun _ _ _ _ _ => True) (fun _ U o U' => ∃ v L, o = .returned v ∧ Q_rm0 Z a b d h0 n0 v U'.heap L ∧ FrameEnd U o U' L 0 0) := by
  refine MetFree.of_bodySF (plainFor_of_name pn_0) hisR ?_
  intro p e s m args below meth c s₁ Bd hml0 hP hK
  obtain ⟨rfl, hZ, hh⟩ := hP
  have hx := Bd.exec
  have hby := Bd.bytes
  have hml : c.maxLocals = 6 := hml0
  have hown : s.vm.findClass "com/example/postings/postings/store/DataFileWriterVarIntSizePinLaw" = some m.cls := findClass_of_methodNamed Bd.named
  have hnm := (name_of_methodNamed Bd.named Bd.method).1
  have hlk : meth.locks = false := BodyLoose.notSynchronized Bd
  have X0 : Stand p l e room_1 s m #[(.int a), (.int b), (.int d)] below meth c s₁ [] 0 0 := Stand.of_body Bd
  have e0 : s₁.heap = h0 := by rw [← hh, Bd.state]; rfl
  have N0 := Fr.nil n0
  show own_Go p.tables e below (Q_rm0 Z a b d h0 n0) s 0 0 s₁ (entryFrame m #[(.int a), (.int b), (.int d)] maxLocals)
  rw [ef_rm0 m a b d]
  refine own_by (T' := s₁) (g' := (mkF m 1 #[.val (.int a), .val (.int b), .val (.int d), .unset, .unset, .unset] [(.int a)])) (fun _ k => XS.iloadN X0.here hx rfl (hb hby at_0) rfl k) ?_
  refine own_by (T' := s₁) (g' := (mkF m 3 #[.val (.int a), .val (.int b), .val (.int d), .unset, .unset, .unset] [(.int (2147483647 : Int32)), (.int a)])) (fun _ k => ldcI X0 hx hown (mvT hZ (hw _ (List.mem_of_getElem? (i := 0) rfl))) rfl (hb hby at_1) k) ?_
  refine own_by (T' := s₁) (g' := (mkF m 4 #[.val (.int a), .val (.int b), .val (.int d), .unset, .unset, .unset] [(.int (a &&& (2147483647 : Int32)))])) (fun _ k => XS.iand X0.here hx rfl (hb hby at_3) rfl k) ?_
  refine own_by (T' := s₁) (g' := (mkF m 5 #[.val (.int a), .val (.int b), .val (.int d), .val (.int (a &&& (2147483647 : Int32))), .unset, .unset] [])) (fun _ k => XS.istoreN X0.here hx rfl (hb hby at_4) rfl (l' := #[.val (.int a), .val (.int b), .val (.int d), .val (.int (a &&& (2147483647 : Int32))), .unset, .unset]) rfl k) ?_
  refine own_by (T' := s₁) (g' := (mkF m 6 #[.val (.int a), .val (.int b), .val (.int d), .val (.int (a &&& (2147483647 : Int32))), .unset, .unset] [(.int b)])) (fun _ k => XS.iloadN X0.here hx rfl (hb hby at_5) rfl k) ?_
  refine own_by (T' := s₁) (g' := (mkF m 8 #[.val (.int a), .val (.int b), .val (.int d), .val (.int (a &&& (2147483647 : Int32))), .unset, .unset] [(.int (2147483647 : Int32)), (.int b)])) (fun _ k => ldcI X0 hx hown (mvT hZ (hw _ (List.mem_of_getElem? (i := 0) rfl))) rfl (hb hby at_6) k) ?_
  refine own_by (T' := s₁) (g' := (mkF m 9 #[.val (.int a), .val (.int b), .val (.int d), .val (.int (a &&& (2147483647 : Int32))), .unset, .unset] [(.int (b &&& (2147483647 : Int32)))])) (fun _ k => XS.iand X0.here hx rfl (hb hby at_8) rfl k) ?_
  refine own_by (T' := s₁) (g' := (mkF m 11 #[.val (.int a), .val (.int b), .val (.int d), .val (.int (a &&& (2147483647 : Int32))), .unset, .unset] [(.int (31 : Int32)), (.int (b &&& (2147483647 : Int32)))])) (fun _ k => XS.bipush X0.here hx rfl (hb hby at_9) k) ?_
  refine own_by (T' := s₁) (g' := (mkF m 12 #[.val (.int a), .val (.int b), .val (.int d), .val (.int (a &&& (2147483647 : Int32))), .unset, .unset] [(.int ((b &&& (2147483647 : Int32)) % (31 : Int32)))])) (fun _ k => iremM X0 hx rfl (hb hby at_11) rfl (by decide) k) ?_
  refine own_by (T' := s₁) (g' := (mkF m 14 #[.val (.int a), .val (.int b), .val (.int d), .val (.int (a &&& (2147483647 : Int32))), .val (.int ((b &&& (2147483647 : Int32)) % (31 : Int32))), .unset] [])) (fun _ k => XS.istore X0.here hx rfl (hb hby at_12) rfl (l' := #[.val (.int a), .val (.int b), .val (.int d), .val (.int (a &&& (2147483647 : Int32))), .val (.int ((b &&& (2147483647 : Int32)) % (31 : Int32))), .unset]) rfl k) ?_
  refine own_by (T' := s₁) (g' := (mkF m 15 #[.val (.int a), .val (.int b), .val (.int d), .val (.int (a &&& (2147483647 : Int32))), .val (.int ((b &&& (2147483647 : Int32)) % (31 : Int32))), .unset] [(.int (1 : Int32))])) (fun _ k => XS.iconst X0.here hx rfl (hb hby at_14) k) ?_
  refine own_by (T' := s₁) (g' := (mkF m 17 #[.val (.int a), .val (.int b), .val (.int d), .val (.int (a &&& (2147483647 : Int32))), .val (.int ((b &&& (2147483647 : Int32)) % (31 : Int32))), .unset] [(.int ((b &&& (2147483647 : Int32)) % (31 : Int32))), (.int (1 : Int32))])) (fun _ k => XS.iload X0.here hx rfl (hb hby at_15) rfl k) ?_
  refine own_by (T' := s₁) (g' := (mkF m 18 #[.val (.int a), .val (.int b), .val (.int d), .val (.int (a &&& (2147483647 : Int32))), .val (.int ((b &&& (2147483647 : Int32)) % (31 : Int32))), .unset] [(.int ((1 : Int32) <<< (((b &&& (2147483647 : Int32)) % (31 : Int32)) &&& 31)))])) (fun _ k => XS.ishl X0.here hx rfl (hb hby at_17) rfl k) ?_
  refine own_by (T' := s₁) (g' := (mkF m 19 #[.val (.int a), .val (.int b), .val (.int d), .val (.int (a &&& (2147483647 : Int32))), .val (.int ((b &&& (2147483647 : Int32)) % (31 : Int32))), .unset] [(.int (1 : Int32)), (.int ((1 : Int32) <<< (((b &&& (2147483647 : Int32)) % (31 : Int32)) &&& 31)))])) (fun _ k => XS.iconst X0.here hx rfl (hb hby at_18) k) ?_
  refine own_by (T' := s₁) (g' := (mkF m 20 #[.val (.int a), .val (.int b), .val (.int d), .val (.int (a &&& (2147483647 : Int32))), .val (.int ((b &&& (2147483647 : Int32)) % (31 : Int32))), .unset] [(.int (((1 : Int32) <<< (((b &&& (2147483647 : Int32)) % (31 : Int32)) &&& 31)) - (1 : Int32)))])) (fun _ k => XS.isub X0.here hx rfl (hb hby at_19) rfl k) ?_
  refine own_by (T' := s₁) (g' := (mkF m 21 #[.val (.int a), .val (.int b), .val (.int d), .val (.int (a &&& (2147483647 : Int32))), .val (.int ((b &&& (2147483647 : Int32)) % (31 : Int32))), .unset] [(.int d), (.int (((1 : Int32) <<< (((b &&& (2147483647 : Int32)) % (31 : Int32)) &&& 31)) - (1 : Int32)))])) (fun _ k => XS.iloadN X0.here hx rfl (hb hby at_20) rfl k) ?_
  refine own_by (T' := s₁) (g' := (mkF m 22 #[.val (.int a), .val (.int b), .val (.int d), .val (.int (a &&& (2147483647 : Int32))), .val (.int ((b &&& (2147483647 : Int32)) % (31 : Int32))), .unset] [(.int (1 : Int32)), (.int d), (.int (((1 : Int32) <<< (((b &&& (2147483647 : Int32)) % (31 : Int32)) &&& 31)) - (1 : Int32)))])) (fun _ k => XS.iconst X0.here hx rfl (hb hby at_21) k) ?_
  refine own_by (T' := s₁) (g' := (mkF m 23 #[.val (.int a), .val (.int b), .val (.int d), .val (.int (a &&& (2147483647 : Int32))), .val (.int ((b &&& (2147483647 : Int32)) % (31 : Int32))), .unset] [(.int (d &&& (1 : Int32))), (.int (((1 : Int32) <<< (((b &&& (2147483647 : Int32)) % (31 : Int32)) &&& 31)) - (1 : Int32)))])) (fun _ k => XS.iand X0.here hx rfl (hb hby at_22) rfl k) ?_
  refine own_by (T' := s₁) (g' := (mkF m 24 #[.val (.int a), .val (.int b), .val (.int d), .val (.int (a &&& (2147483647 : Int32))), .val (.int ((b &&& (2147483647 : Int32)) % (31 : Int32))), .unset] [(.int ((((1 : Int32) <<< (((b &&& (2147483647 : Int32)) % (31 : Int32)) &&& 31)) - (1 : Int32)) + (d &&& (1 : Int32))))])) (fun _ k => XS.iadd X0.here hx rfl (hb hby at_23) rfl k) ?_
  refine own_by (T' := s₁) (g' := (mkF m 26 #[.val (.int a), .val (.int b), .val (.int d), .val (.int (a &&& (2147483647 : Int32))), .val (.int ((b &&& (2147483647 : Int32)) % (31 : Int32))), .val (.int ((((1 : Int32) <<< (((b &&& (2147483647 : Int32)) % (31 : Int32)) &&& 31)) - (1 : Int32)) + (d &&& (1 : Int32))))] [])) (fun _ k => XS.istore X0.here hx rfl (hb hby at_24) rfl (l' := #[.val (.int a), .val (.int b), .val (.int d), .val (.int (a &&& (2147483647 : Int32))), .val (.int ((b &&& (2147483647 : Int32)) % (31 : Int32))), .val (.int ((((1 : Int32) <<< (((b &&& (2147483647 : Int32)) % (31 : Int32)) &&& 31)) - (1 : Int32)) + (d &&& (1 : Int32))))]) rfl k) ?_
  refine own_by (T' := s₁) (g' := (mkF m 27 #[.val (.int a), .val (.int b), .val (.int d), .val (.int (a &&& (2147483647 : Int32))), .val (.int ((b &&& (2147483647 : Int32)) % (31 : Int32))), .val (.int ((((1 : Int32) <<< (((b &&& (2147483647 : Int32)) % (31 : Int32)) &&& 31)) - (1 : Int32)) + (d &&& (1 : Int32))))] [(.int (a &&& (2147483647 : Int32)))])) (fun _ k => XS.iloadN X0.here hx rfl (hb hby at_26) rfl k) ?_
  obtain ⟨_, _, ⟨T1, L1, k1, n1⟩, -, X1, ⟨Lc1, hQ1, l1, y1, z1⟩, st1⟩ := Jvm.LawKit.callS X0 hx (y := (⟨"com/example/postings/postings/store/DataFileWriter", "varIntSize", "(I)I"⟩ : MethodName)) hown (mvT hZ (hw _ (List.mem_of_getElem? (i := 1) rfl))) (mvT hZ (hw _ (List.mem_of_getElem? (i := 2) rfl))) (mvT hZ (hw _ (List.mem_of_getElem? (i := 3) rfl))) (mvT hZ (hw _ (List.mem_of_getElem? (i := 4) rfl))) (by decide) (backOf (W := 0) (rm1 l Z a0 hw [] (a &&& (2147483647 : Int32))  h0 n0 Z0 ) hZ (hw _ (List.mem_of_getElem? (i := 4) rfl)) (hw _ (List.mem_of_getElem? (i := 3) rfl)) (by decide) (by decide)) (g := (mkF m 27 #[.val (.int a), .val (.int b), .val (.int d), .val (.int (a &&& (2147483647 : Int32))), .val (.int ((b &&& (2147483647 : Int32)) % (31 : Int32))), .val (.int ((((1 : Int32) <<< (((b &&& (2147483647 : Int32)) % (31 : Int32)) &&& 31)) - (1 : Int32)) + (d &&& (1 : Int32))))] [(.int (a &&& (2147483647 : Int32)))])) rfl (by rw [hml]; rfl) (argsL := [(.int (a &&& (2147483647 : Int32)))]) (rest := []) (lenOf pd_0 rfl) rfl (by show 2 * 0 + _ ≤ _; exact Nat.le_of_eq rfl) (hb hby at_27) (fun _ _ => ⟨rfl, e0, (by decide : 0 + 0 ≤ _), (by decide : 0 + 0 ≤ _)⟩)
  dsimp only [Pt.U, Pt.locs, Pt.cells, Pt.slots] at X1 l1 y1 z1 st1 hQ1
  subst l1 y1 z1
  obtain ⟨rfl, N1q, e1⟩ := hQ1
  have N1 := Fr.app N0 N1q
  refine own_by (T' := T1) (g' := (mkF m 30 #[.val (.int a), .val (.int b), .val (.int d), .val (.int (a &&& (2147483647 : Int32))), .val (.int ((b &&& (2147483647 : Int32)) % (31 : Int32))), .val (.int ((((1 : Int32) <<< (((b &&& (2147483647 : Int32)) % (31 : Int32)) &&& 31)) - (1 : Int32)) + (d &&& (1 : Int32))))] [(.int (own_size (a &&& (2147483647 : Int32))))])) (fun _ k => st1 _ k) ?_
  refine own_by (T' := T1) (g' := (mkF m 31 #[.val (.int a), .val (.int b), .val (.int d), .val (.int (a &&& (2147483647 : Int32))), .val (.int ((b &&& (2147483647 : Int32)) % (31 : Int32))), .val (.int ((((1 : Int32) <<< (((b &&& (2147483647 : Int32)) % (31 : Int32)) &&& 31)) - (1 : Int32)) + (d &&& (1 : Int32))))] [(.int (a &&& (2147483647 : Int32))), (.int (own_size (a &&& (2147483647 : Int32))))])) (fun _ k => XS.iloadN X1.here hx rfl (hb hby at_30) rfl k) ?_
  obtain ⟨_, _, ⟨T2, L2, k2, n2⟩, -, X2, ⟨Lc2, hQ2, l2, y2, z2⟩, st2⟩ := Jvm.LawKit.callS X1 hx (y := (⟨"com/example/postings/postings/store/DataFileWriterVarIntSizePinLaw", "reference", "(I)I"⟩ : MethodName)) hown (mvT hZ (hw _ (List.mem_of_getElem? (i := 5) rfl))) (mvT hZ (hw _ (List.mem_of_getElem? (i := 6) rfl))) (mvT hZ (hw _ (List.mem_of_getElem? (i := 7) rfl))) (mvT hZ (hw _ (List.mem_of_getElem? (i := 8) rfl))) (by decide) (backOf (W := 1) (rm2 l Z a0 hw [] (a &&& (2147483647 : Int32))  h0 n0 Z0 ) hZ (hw _ (List.mem_of_getElem? (i := 8) rfl)) (hw _ (List.mem_of_getElem? (i := 7) rfl)) (by decide) (by decide)) (g := (mkF m 31 #[.val (.int a), .val (.int b), .val (.int d), .val (.int (a &&& (2147483647 : Int32))), .val (.int ((b &&& (2147483647 : Int32)) % (31 : Int32))), .val (.int ((((1 : Int32) <<< (((b &&& (2147483647 : Int32)) % (31 : Int32)) &&& 31)) - (1 : Int32)) + (d &&& (1 : Int32))))] [(.int (a &&& (2147483647 : Int32))), (.int (own_size (a &&& (2147483647 : Int32))))])) rfl (by rw [hml]; rfl) (argsL := [(.int (a &&& (2147483647 : Int32)))]) (rest := [(.int (own_size (a &&& (2147483647 : Int32))))]) (lenOf pd_0 rfl) rfl (by show 2 * 0 + _ ≤ _; exact Nat.le_of_eq rfl) (hb hby at_31) (fun _ _ => ⟨rfl, e1, (by decide : (0 + 0) + 0 ≤ _), (by decide : (0 + 0) + 0 ≤ _)⟩)
  dsimp only [Pt.U, Pt.locs, Pt.cells, Pt.slots] at X2 l2 y2 z2 st2 hQ2
  subst l2 y2 z2
  obtain ⟨rfl, N2q, e2⟩ := hQ2
  have N2 := Fr.app N1 N2q
  refine own_by (T' := T2) (g' := (mkF m 34 #[.val (.int a), .val (.int b), .val (.int d), .val (.int (a &&& (2147483647 : Int32))), .val (.int ((b &&& (2147483647 : Int32)) % (31 : Int32))), .val (.int ((((1 : Int32) <<< (((b &&& (2147483647 : Int32)) % (31 : Int32)) &&& 31)) - (1 : Int32)) + (d &&& (1 : Int32))))] [(.int (own_size (a &&& (2147483647 : Int32)))), (.int (own_size (a &&& (2147483647 : Int32))))])) (fun _ k => st2 _ k) ?_
  refine own_by (T' := T2) (g' := (mkF m 37 #[.val (.int a), .val (.int b), .val (.int d), .val (.int (a &&& (2147483647 : Int32))), .val (.int ((b &&& (2147483647 : Int32)) % (31 : Int32))), .val (.int ((((1 : Int32) <<< (((b &&& (2147483647 : Int32)) % (31 : Int32)) &&& 31)) - (1 : Int32)) + (d &&& (1 : Int32))))] [])) (fun _ k => XS.icmpNo X2.here hx rfl (hb hby at_34) rfl (teq rfl).2 k) ?_
  refine own_by (T' := T2) (g' := (mkF m 39 #[.val (.int a), .val (.int b), .val (.int d), .val (.int (a &&& (2147483647 : Int32))), .val (.int ((b &&& (2147483647 : Int32)) % (31 : Int32))), .val (.int ((((1 : Int32) <<< (((b &&& (2147483647 : Int32)) % (31 : Int32)) &&& 31)) - (1 : Int32)) + (d &&& (1 : Int32))))] [(.int ((((1 : Int32) <<< (((b &&& (2147483647 : Int32)) % (31 : Int32)) &&& 31)) - (1 : Int32)) + (d &&& (1 : Int32))))])) (fun _ k => XS.iload X2.here hx rfl (hb hby at_37) rfl k) ?_
  obtain ⟨_, _, ⟨T3, L3, k3, n3⟩, -, X3, ⟨Lc3, hQ3, l3, y3, z3⟩, st3⟩ := Jvm.LawKit.callS X2 hx (y := (⟨"com/example/postings/postings/store/DataFileWriter", "varIntSize", "(I)I"⟩ : MethodName)) hown (mvT hZ (hw _ (List.mem_of_getElem? (i := 1) rfl))) (mvT hZ (hw _ (List.mem_of_getElem? (i := 2) rfl))) (mvT hZ (hw _ (List.mem_of_getElem? (i := 3) rfl))) (mvT hZ (hw _ (List.mem_of_getElem? (i := 4) rfl))) (by decide) (backOf (W := 0) (rm1 l Z a0 hw [] ((((1 : Int32) <<< (((b &&& (2147483647 : Int32)) % (31 : Int32)) &&& 31)) - (1 : Int32)) + (d &&& (1 : Int32)))  h0 n0 Z0 ) hZ (hw _ (List.mem_of_getElem? (i := 4) rfl)) (hw _ (List.mem_of_getElem? (i := 3) rfl)) (by decide) (by decide)) (g := (mkF m 39 #[.val (.int a), .val (.int b), .val (.int d), .val (.int (a &&& (2147483647 : Int32))), .val (.int ((b &&& (2147483647 : Int32)) % (31 : Int32))), .val (.int ((((1 : Int32) <<< (((b &&& (2147483647 : Int32)) % (31 : Int32)) &&& 31)) - (1 : Int32)) + (d &&& (1 : Int32))))] [(.int ((((1 : Int32) <<< (((b &&& (2147483647 : Int32)) % (31 : Int32)) &&& 31)) - (1 : Int32)) + (d &&& (1 : Int32))))])) rfl (by rw [hml]; rfl) (argsL := [(.int ((((1 : Int32) <<< (((b &&& (2147483647 : Int32)) % (31 : Int32)) &&& 31)) - (1 : Int32)) + (d &&& (1 : Int32))))]) (rest := []) (lenOf pd_0 rfl) rfl (by show 2 * 0 + _ ≤ _; exact Nat.le_of_eq rfl) (hb hby at_39) (fun _ _ => ⟨rfl, e2, (by decide : ((0 + 0) + 0) + 0 ≤ _), (by decide : ((0 + 0) + 0) + 0 ≤ _)⟩)
  dsimp only [Pt.U, Pt.locs, Pt.cells, Pt.slots] at X3 l3 y3 z3 st3 hQ3
  subst l3 y3 z3
  obtain ⟨rfl, N3q, e3⟩ := hQ3
  have N3 := Fr.app N2 N3q
  refine own_by (T' := T3) (g' := (mkF m 42 #[.val (.int a), .val (.int b), .val (.int d), .val (.int (a &&& (2147483647 : Int32))), .val (.int ((b &&& (2147483647 : Int32)) % (31 : Int32))), .val (.int ((((1 : Int32) <<< (((b &&& (2147483647 : Int32)) % (31 : Int32)) &&& 31)) - (1 : Int32)) + (d &&& (1 : Int32))))] [(.int (own_size ((((1 : Int32) <<< (((b &&& (2147483647 : Int32)) % (31 : Int32)) &&& 31)) - (1 : Int32)) + (d &&& (1 : Int32)))))])) (fun _ k => st3 _ k) ?_
  refine own_by (T' := T3) (g' := (mkF m 44 #[.val (.int a), .val (.int b), .val (.int d), .val (.int (a &&& (2147483647 : Int32))), .val (.int ((b &&& (2147483647 : Int32)) % (31 : Int32))), .val (.int ((((1 : Int32) <<< (((b &&& (2147483647 : Int32)) % (31 : Int32)) &&& 31)) - (1 : Int32)) + (d &&& (1 : Int32))))] [(.int ((((1 : Int32) <<< (((b &&& (2147483647 : Int32)) % (31 : Int32)) &&& 31)) - (1 : Int32)) + (d &&& (1 : Int32)))), (.int (own_size ((((1 : Int32) <<< (((b &&& (2147483647 : Int32)) % (31 : Int32)) &&& 31)) - (1 : Int32)) + (d &&& (1 : Int32)))))])) (fun _ k => XS.iload X3.here hx rfl (hb hby at_42) rfl k) ?_
  obtain ⟨_, _, ⟨T4, L4, k4, n4⟩, -, X4, ⟨Lc4, hQ4, l4, y4, z4⟩, st4⟩ := Jvm.LawKit.callS X3 hx (y := (⟨"com/example/postings/postings/store/DataFileWriterVarIntSizePinLaw", "reference", "(I)I"⟩ : MethodName)) hown (mvT hZ (hw _ (List.mem_of_getElem? (i := 5) rfl))) (mvT hZ (hw _ (List.mem_of_getElem? (i := 6) rfl))) (mvT hZ (hw _ (List.mem_of_getElem? (i := 7) rfl))) (mvT hZ (hw _ (List.mem_of_getElem? (i := 8) rfl))) (by decide) (backOf (W := 1) (rm2 l Z a0 hw [] ((((1 : Int32) <<< (((b &&& (2147483647 : Int32)) % (31 : Int32)) &&& 31)) - (1 : Int32)) + (d &&& (1 : Int32)))  h0 n0 Z0 ) hZ (hw _ (List.mem_of_getElem? (i := 8) rfl)) (hw _ (List.mem_of_getElem? (i := 7) rfl)) (by decide) (by decide)) (g := (mkF m 44 #[.val (.int a), .val (.int b), .val (.int d), .val (.int (a &&& (2147483647 : Int32))), .val (.int ((b &&& (2147483647 : Int32)) % (31 : Int32))), .val (.int ((((1 : Int32) <<< (((b &&& (2147483647 : Int32)) % (31 : Int32)) &&& 31)) - (1 : Int32)) + (d &&& (1 : Int32))))] [(.int ((((1 : Int32) <<< (((b &&& (2147483647 : Int32)) % (31 : Int32)) &&& 31)) - (1 : Int32)) + (d &&& (1 : Int32)))), (.int (own_size ((((1 : Int32) <<< (((b &&& (2147483647 : Int32)) % (31 : Int32)) &&& 31)) - (1 : Int32)) + (d &&& (1 : Int32)))))])) rfl (by rw [hml]; rfl) (argsL := [(.int ((((1 : Int32) <<< (((b &&& (2147483647 : Int32)) % (31 : Int32)) &&& 31)) - (1 : Int32)) + (d &&& (1 : Int32))))]) (rest := [(.int (own_size ((((1 : Int32) <<< (((b &&& (2147483647 : Int32)) % (31 : Int32)) &&& 31)) - (1 : Int32)) + (d &&& (1 : Int32)))))]) (lenOf pd_0 rfl) rfl (by show 2 * 0 + _ ≤ _; exact Nat.le_of_eq rfl) (hb hby at_44) (fun _ _ => ⟨rfl, e3, (by decide : (((0 + 0) + 0) + 0) + 0 ≤ _), (by decide : (((0 + 0) + 0) + 0) + 0 ≤ _)⟩)
  dsimp only [Pt.U, Pt.locs, Pt.cells, Pt.slots] at X4 l4 y4 z4 st4 hQ4
  subst l4 y4 z4
  obtain ⟨rfl, N4q, e4⟩ := hQ4
  have N4 := Fr.app N3 N4q
  refine own_by (T' := T4) (g' := (mkF m 47 #[.val (.int a), .val (.int b), .val (.int d), .val (.int (a &&& (2147483647 : Int32))), .val (.int ((b &&& (2147483647 : Int32)) % (31 : Int32))), .val (.int ((((1 : Int32) <<< (((b &&& (2147483647 : Int32)) % (31 : Int32)) &&& 31)) - (1 : Int32)) + (d &&& (1 : Int32))))] [(.int (own_size ((((1 : Int32) <<< (((b &&& (2147483647 : Int32)) % (31 : Int32)) &&& 31)) - (1 : Int32)) + (d &&& (1 : Int32))))), (.int (own_size ((((1 : Int32) <<< (((b &&& (2147483647 : Int32)) % (31 : Int32)) &&& 31)) - (1 : Int32)) + (d &&& (1 : Int32)))))])) (fun _ k => st4 _ k) ?_
  refine own_by (T' := T4) (g' := (mkF m 50 #[.val (.int a), .val (.int b), .val (.int d), .val (.int (a &&& (2147483647 : Int32))), .val (.int ((b &&& (2147483647 : Int32)) % (31 : Int32))), .val (.int ((((1 : Int32) <<< (((b &&& (2147483647 : Int32)) % (31 : Int32)) &&& 31)) - (1 : Int32)) + (d &&& (1 : Int32))))] [])) (fun _ k => XS.icmpNo X4.here hx rfl (hb hby at_47) rfl (teq rfl).2 k) ?_
  refine own_by (T' := T4) (g' := (mkF m 51 #[.val (.int a), .val (.int b), .val (.int d), .val (.int (a &&& (2147483647 : Int32))), .val (.int ((b &&& (2147483647 : Int32)) % (31 : Int32))), .val (.int ((((1 : Int32) <<< (((b &&& (2147483647 : Int32)) % (31 : Int32)) &&& 31)) - (1 : Int32)) + (d &&& (1 : Int32))))] [(.int (1 : Int32))])) (fun _ k => XS.iconst X4.here hx rfl (hb hby at_50) k) ?_
  refine own_by (T' := T4) (g' := (mkF m 55 #[.val (.int a), .val (.int b), .val (.int d), .val (.int (a &&& (2147483647 : Int32))), .val (.int ((b &&& (2147483647 : Int32)) % (31 : Int32))), .val (.int ((((1 : Int32) <<< (((b &&& (2147483647 : Int32)) % (31 : Int32)) &&& 31)) - (1 : Int32)) + (d &&& (1 : Int32))))] [(.int (1 : Int32))])) (fun _ k => XS.goto X4.here hx rfl (pc0 := 51) (pc' := 55) rfl (hb hby at_51) (by decide) (by decide) k) ?_
  refine own_ret X4 hlk (v := some (.int (1 : Int32))) (fun h => by rw [Bd.returns] at h; cases h) (fun fs hr => retN X4 hx (t := .boolean) Bd.returns (by simp) (hb hby at_55) hr) ?_ (by decide) (by decide)
  rw [e4]
  exact ⟨rfl, N4⟩
set_option maxRecDepth 65536 in
set_option maxHeartbeats 40000000 in
theorem comes_1 {Post : Tables → Env → Array Value → State → Outcome → State → Prop} (hpost : ∀ tb e args s v u, (limb_1_1.after args s (.returned v) u = true ∧ limb_1_2.after args s (.returned v) u = true ∧ True) → FrameEnd s (.returned v) u (Jvm.fieldLocs frame_1_writes args s ++ Jvm.arrayLocs frame_1_arrays args s ++ Jvm.staticLocs frame_1_statics s) 0 0 → Post tb e args s (.returned v) u) :
    ArmFor flags0 classFile x code maxLocals ret World_1 tables_1 room_1 Calls_1 rest_1 Pre_1 Post := by
  intro l hfl _ _ p e ha hc hk s m args below hf hA hF happ hP
  obtain ⟨hcalls, hrest, hpre⟩ := hP
  obtain ⟨-, -, -, hnamed, -, -, -, hat⟩ := (Spec.applies_iff hf).mp happ
  obtain ⟨hg, hn⟩ := and_e (Cond.before_iff.mp (show (Jvm.Cond.and given_1 narrow_1).before args s = true from hpre))
  obtain ⟨g1, g2⟩ := and_e hg
  obtain ⟨g3, g4⟩ := and_e g2
  obtain ⟨g5, g6⟩ := and_e g4
  obtain ⟨w0, w1, w2, rfl⟩ : ∃ w0 w1 w2 : Value, args = #[w0, w1, w2] := by
    have hs : args.size = 3 := by simpa [Cond.value, given_1] using g1
    obtain ⟨L⟩ := args
    match L, hs with
    | [w0, w1, w2], _ => exact ⟨w0, w1, w2, rfl⟩
  have hw := fun d (hd : d ∈ tables_1) => atoms_spec (ws := Jvm.Cond.code x code maxLocals ret :: tables_1) hat d (List.mem_cons_of_mem _ hd)
  have hfit : Fit s := fun {y c} hc i hi => by
    obtain ⟨ha, rfl⟩ := Array.getElem?_eq_some_iff.mp hc
    have q := List.all_eq_true.mp ((Array.all_eq_true_iff_forall_mem.mp hF) _ (Array.getElem_mem ha)) i (List.mem_range.mpr hi)
    simpa [Array.getElem?_eq_getElem hi] using q
  obtain ⟨i0, ei0⟩ := is_v g3
  obtain rfl : w0 = (.int i0) := Option.some.inj ei0
  obtain ⟨i1, ei1⟩ := is_v g5
  obtain rfl : w1 = (.int i1) := Option.some.inj ei1
  obtain ⟨i2, ei2⟩ := is_v g6
  obtain rfl : w2 = (.int i2) := Option.some.inj ei2
  obtain ⟨n, o, h1, h2, h3, _, L, rfl, ⟨rfl, N⟩, hq⟩ := rm0 l s _ hw tables_1 i0 i1 i2 s.heap s.heap.size (Nat.le_refl _)  p e ha hc hk s m _ below hf ((Spec.applies_iff_loose hf).mp happ).1 ⟨rfl, State.Warmed39.refl s, rfl⟩ trivial
  refine ⟨n, _, h1, h2, h3, hpost _ _ _ _ _ _ ⟨Cond.after_iff.mpr rfl, Cond.after_iff.mpr (eq_i res_at (Term.int_eval (1)) rfl), trivial⟩ ⟨hq.1, hq.2.1, (hq.2.2.sift fun y hy => Or.inr (N y hy)).mono (by decide) (by decide)⟩⟩
theorem main_1_1 : Claimed_1_1 := comes_1 fun _ _ _ _ _ _ h hF => ⟨h.1, hF⟩
theorem main_1_2 : Claimed_1_2 := comes_1 fun _ _ _ _ _ _ h hF => ⟨h.2.1, hF⟩
end Jvm.Pilot.@@N@@
namespace Jvm.Pilot.@@N@@
open Jvm Jvm.ClassFile Sem Op Lib Jvm.Free Jvm.Stand Jvm.Pilot.@@N@@.Jvm.D
/-! MADE BY PROGRAM (witnessworld.py) out of the Statement's table words and the real class files: 11 classes; the members and pool entries that the words name. The judged class is class 1, her method 2. -/
namespace start1
open Jvm.ClassFile
def u (s : String) : CpInfo := .utf8 (stringToUtf16 s)
/-- a pool by its gaps: so many unusable entries, then the entry; so many at the end -/
def gap : Nat → List CpInfo → List CpInfo
  | 0, r => r
  | n + 1, r => .unusable :: gap n r
def poolList (es : List (Nat × CpInfo)) (last : Nat) : List CpInfo := es.foldr (fun e r => gap e.1 (e.2 :: r)) (gap last [])
def pool (es : List (Nat × CpInfo)) (last : Nat) : Array CpInfo := ⟨poolList es last⟩
def fileOf (pool : Array CpInfo) (this : Nat) (attrs : Array Attribute := #[]) (ms : Array MethodInfo := #[]) (fl : Nat := 33) (sup : Nat := 0) (ifs : Array Nat := #[]) (fds : Array FieldInfo := #[]) : ClassFile where
  minorVersion := 0
  majorVersion := 65
  constantPool := pool
  accessFlags := fl
  thisClass := this
  superClass := sup
  interfaces := ifs
  fields := fds
  methods := ms
  attributes := attrs
def plain (name : String) (sup : Option ClassId) : Class where
  name := name
  kind := .ordinary
  loader := none
  accessFlags := 33
  super := sup
  interfaces := #[]
  cf := none
  fields := #[]
  methods := #[]
  instanceTypes := #[]
  staticTypes := #[]
  resolved := #[]
  callSites := []
  init := .initialized
  statics := none
  mirror := none

def pool0 : Array CpInfo := pool [(5, u "<init>"), (0, u "()V"), (1, .class_ 10), (1, u "java/lang/Object")] 113

def k0m0 : Method := { name := "<init>", desc := "()V", sig := { parameters := [], returnType := none }, accessFlags := 1, code := none }
/-- java/lang/Object -/
def k0 : Class := { plain "java/lang/Object" none with
  accessFlags := 33
  interfaces := #[]
  cf := some (fileOf pool0 8 #[] #[{ accessFlags := 1, nameIndex := 5, descriptorIndex := 6, attributes := #[] }] 33 0 #[] #[])
  fields := #[]
  methods := #[k0m0]
  instanceTypes := #[]
  staticTypes := #[]
  resolved := Array.replicate 124 none
  statics := none }

def pool1 : Array CpInfo := pool [(2, .class_ 4), (1, u "java/lang/Object"), (0, u "<init>"), (0, u "()V"), (0, .integer 2097152), (0, .integer 268435456), (0, .integer 2147483647), (0, .methodref 11 12), (0, .class_ 13), (0, .nameAndType 14 15), (0, u "com/example/postings/postings/store/DataFileWriter"), (0, u "varIntSize"), (0, u "(I)I"), (0, .methodref 17 18), (0, .class_ 19), (0, .nameAndType 20 15), (0, u "com/example/postings/postings/store/DataFileWriterVarIntSizePinLaw"), (0, u "reference"), (3, u "law"), (0, u "(III)Z")] 2

def k1m0 : Method := { name := "<init>", desc := "()V", sig := { parameters := [], returnType := none }, accessFlags := 2, code := none }
def k1c1 : Code := { maxStack := 2, maxLocals := 1, code := method_2_code, exceptionTable := #[], attributes := #[] }
def k1m1 : Method := { name := "reference", desc := "(I)I", sig := { parameters := [.int], returnType := some .int }, accessFlags := 10, code := some k1c1 }
def k1c2 : Code := { maxStack := 3, maxLocals := 6, code := code, exceptionTable := #[], attributes := #[] }
def k1m2 : Method := { name := "law", desc := "(III)Z", sig := { parameters := [.int, .int, .int], returnType := some .boolean }, accessFlags := 9, code := some k1c2 }
/-- com/example/postings/postings/store/DataFileWriterVarIntSizePinLaw -/
def k1 : Class := { plain "com/example/postings/postings/store/DataFileWriterVarIntSizePinLaw" (some 0) with
  accessFlags := 49
  interfaces := #[]
  cf := some (fileOf pool1 17 #[] #[{ accessFlags := 2, nameIndex := 5, descriptorIndex := 6, attributes := #[] }, { accessFlags := 10, nameIndex := 20, descriptorIndex := 15, attributes := #[] }, { accessFlags := 9, nameIndex := 24, descriptorIndex := 25, attributes := #[] }] 49 2 #[] #[])
  fields := #[]
  methods := #[k1m0, k1m1, k1m2]
  instanceTypes := #[]
  staticTypes := #[]
  resolved := Array.replicate 28 none
  statics := none }

def pool2 : Array CpInfo := pool [(1, .class_ 2), (0, u "java/lang/AutoCloseable"), (0, .class_ 4), (0, u "java/lang/Object")] 7

/-- java/lang/AutoCloseable -/
def k2 : Class := { plain "java/lang/AutoCloseable" (some 0) with
  accessFlags := 1537
  interfaces := #[]
  cf := some (fileOf pool2 1 #[] #[] 1537 3 #[] #[])
  fields := #[]
  methods := #[]
  instanceTypes := #[]
  staticTypes := #[]
  resolved := Array.replicate 12 none
  statics := none }

def pool3 : Array CpInfo := pool [(1, .class_ 2), (0, u "java/io/Closeable"), (0, .class_ 4), (0, u "java/lang/Object"), (0, .class_ 6), (0, u "java/lang/AutoCloseable")] 7

/-- java/io/Closeable -/
def k3 : Class := { plain "java/io/Closeable" (some 0) with
  accessFlags := 1537
  interfaces := #[2]
  cf := some (fileOf pool3 1 #[] #[] 1537 3 #[5] #[])
  fields := #[]
  methods := #[]
  instanceTypes := #[]
  staticTypes := #[]
  resolved := Array.replicate 14 none
  statics := none }

def pool4 : Array CpInfo := pool [(2, .class_ 4), (1, u "java/lang/Object"), (10, .class_ 17), (1, u "com/example/postings/postings/store/DataFileWriter"), (0, u "buffer"), (0, u "Ljava/nio/ByteBuffer;"), (5, u "checksum"), (0, u "Ljava/util/zip/CRC32;"), (14, u "encoder"), (0, u "Ljava/nio/charset/CharsetEncoder;"), (2, u "target"), (0, u "Ljava/nio/file/Path;"), (2, u "temporary"), (2, u "channel"), (0, u "Ljava/nio/channels/FileChannel;"), (48, u "size"), (0, u "J"), (99, u "committed"), (0, u "Z"), (55, .class_ 261), (0, u "java/io/Closeable"), (6, u "varIntSize"), (0, u "(I)I")] 23

def k4c0 : Code := { maxStack := 2, maxLocals := 3, code := prog_49_method_4_code, exceptionTable := #[], attributes := #[] }
def k4m0 : Method := { name := "varIntSize", desc := "(I)I", sig := { parameters := [.int], returnType := some .int }, accessFlags := 9, code := some k4c0 }
/-- com/example/postings/postings/store/DataFileWriter -/
def k4 : Class := { plain "com/example/postings/postings/store/DataFileWriter" (some 0) with
  accessFlags := 33
  interfaces := #[3]
  cf := some (fileOf pool4 15 #[] #[{ accessFlags := 9, nameIndex := 268, descriptorIndex := 269, attributes := #[] }] 33 2 #[260] #[{ accessFlags := 18, nameIndex := 45, descriptorIndex := 46, attributes := #[] }, { accessFlags := 18, nameIndex := 49, descriptorIndex := 46, attributes := #[] }, { accessFlags := 18, nameIndex := 52, descriptorIndex := 53, attributes := #[] }, { accessFlags := 18, nameIndex := 18, descriptorIndex := 19, attributes := #[] }, { accessFlags := 18, nameIndex := 25, descriptorIndex := 26, attributes := #[] }, { accessFlags := 18, nameIndex := 41, descriptorIndex := 42, attributes := #[] }, { accessFlags := 2, nameIndex := 102, descriptorIndex := 103, attributes := #[] }, { accessFlags := 2, nameIndex := 203, descriptorIndex := 204, attributes := #[] }])
  fields := #[{ name := "target", type := (.object "java/nio/file/Path"), accessFlags := 18, slot := 0, constantValue := 0 }, { name := "temporary", type := (.object "java/nio/file/Path"), accessFlags := 18, slot := 1, constantValue := 0 }, { name := "channel", type := (.object "java/nio/channels/FileChannel"), accessFlags := 18, slot := 2, constantValue := 0 }, { name := "buffer", type := (.object "java/nio/ByteBuffer"), accessFlags := 18, slot := 3, constantValue := 0 }, { name := "checksum", type := (.object "java/util/zip/CRC32"), accessFlags := 18, slot := 4, constantValue := 0 }, { name := "encoder", type := (.object "java/nio/charset/CharsetEncoder"), accessFlags := 18, slot := 5, constantValue := 0 }, { name := "size", type := .long, accessFlags := 2, slot := 6, constantValue := 0 }, { name := "committed", type := .boolean, accessFlags := 2, slot := 7, constantValue := 0 }]
  methods := #[k4m0]
  instanceTypes := #[(.object "java/nio/file/Path"), (.object "java/nio/file/Path"), (.object "java/nio/channels/FileChannel"), (.object "java/nio/ByteBuffer"), (.object "java/util/zip/CRC32"), (.object "java/nio/charset/CharsetEncoder"), .long, .boolean]
  staticTypes := #[]
  resolved := Array.replicate 293 none
  statics := none }

def pool5 : Array CpInfo := pool [(1, u "java/lang/Cloneable"), (0, .class_ 1), (0, u "java/lang/Object"), (0, .class_ 3)] 3

/-- java/lang/Cloneable -/
def k5 : Class := { plain "java/lang/Cloneable" (some 0) with
  accessFlags := 1537
  interfaces := #[]
  cf := some (fileOf pool5 2 #[] #[] 1537 4 #[] #[])
  fields := #[]
  methods := #[]
  instanceTypes := #[]
  staticTypes := #[]
  resolved := Array.replicate 8 none
  statics := none }

def pool6 : Array CpInfo := pool [(1, u "java/io/Serializable"), (0, .class_ 1), (0, u "java/lang/Object"), (0, .class_ 3)] 3

/-- java/io/Serializable -/
def k6 : Class := { plain "java/io/Serializable" (some 0) with
  accessFlags := 1537
  interfaces := #[]
  cf := some (fileOf pool6 2 #[] #[] 1537 4 #[] #[])
  fields := #[]
  methods := #[]
  instanceTypes := #[]
  staticTypes := #[]
  resolved := Array.replicate 8 none
  statics := none }

/-- the primitive byte -/
def k7 : Class := { plain "byte" none with kind := .primitive 'B', accessFlags := 0x411 }
/-- [B -/
def k8 : Class := { plain "[B" (some 0) with kind := .array 7 .byte, interfaces := #[5, 6], accessFlags := 1041 }

/-- the primitive int -/
def k9 : Class := { plain "int" none with kind := .primitive 'I', accessFlags := 0x411 }
/-- [I -/
def k10 : Class := { plain "[I" (some 0) with kind := .array 9 .int, interfaces := #[5, 6], accessFlags := 1041 }

def heap : Heap := #[]
def classes : Array Class := #[k0, k1, k2, k3, k4, k5, k6, k7, k8, k9, k10]
def interned : List (Array UInt16 × Addr) := []
def slotsUsed : Nat := 0
def theMethod : MethodId := ⟨1, 2⟩
def args0 : Array Value := #[.int 65, .int 1, .int 3]
def aboutOver (below : List Frame) : State where
  vm := { classes := classes, interned := interned.toArray }
  heap := heap
  slotsUsed := slotsUsed
  threads := #[{ frames := .invoking theMethod args0 :: below }]
def below0 : List Frame := [.native { method := ⟨0, 0⟩, args := #[] }]
def about1 : State := aboutOver below0
def p0 : Program := .bare "" "" ""
def e0 : Env := launch0.env 0 0 0
theorem w_frames : about1.frames = Frame.invoking theMethod args0 :: below0 := rfl
set_option maxRecDepth 65536 in
theorem w_args : argsFit about1.vm theMethod args0 = true := by decide +kernel
set_option maxRecDepth 65536 in
theorem w_heap : heapFits about1 = true := by decide +kernel
set_option maxRecDepth 65536 in
theorem w_runnable : about1.curStatus? = some .runnable := by decide +kernel
set_option maxRecDepth 65536 in
theorem w_alone : about1.alone = true := by decide +kernel
set_option maxRecDepth 65536 in
theorem w_named : about1.methodNamed? x = some theMethod := by decide +kernel
set_option maxRecDepth 65536 in
theorem w_hears : about1.hears theMethod below0 = true := by decide +kernel
set_option maxRecDepth 65536 in
theorem w_ripe : about1.ripe theMethod args0 below0 = true := by decide +kernel
theorem w_running : about1.status = .running := rfl
set_option maxRecDepth 65536 in
theorem w_room : about1.hasRoom e0.platform room_1 = true :=
  launch0.hasRoom_least _ room_1 (by decide +kernel) (by decide +kernel) (by decide +kernel) (by decide +kernel) (by decide +kernel) (by decide +kernel)
theorem allAtoms_all (ts : List Jvm.Cond) (a : Array Jvm.Value) (st : Jvm.State) : (allAtoms ts).before a st = ts.all (fun c => c.before a st) := by
  induction ts with
  | nil => rfl
  | cons c t ih =>
    show (Jvm.Cond.and c (allAtoms t)).before a st = _
    rw [Jvm.Cond.before_and, ih, List.all_cons]
def words1 : List Jvm.Cond := Jvm.Cond.code x code maxLocals ret :: tables_1
/-- a 'code' word, met by the world's own term for the bytes: nothing is compared byte by byte -/
theorem code_word {y : MethodName} {bytes : ByteArray} {mx : Nat} {rt : Option FieldType} {a : Array Value} {s : State} {m : MethodId} {meth : Method} {c : Code} (h1 : s.methodNamed? y = some m) (h2 : s.vm.method? m = some meth) (h3 : meth.code = some c) (h4 : c.code = bytes)
    (h5 : (c.maxLocals == mx && c.exceptionTable.isEmpty && decide (c.maxStack ≤ mostOperands) && decide (meth.sig.returnType = rt) && !meth.locks && decide (parseMethodDescriptor y.desc = some meth.sig)) = true) : (Jvm.Cond.code y bytes mx rt).before a s = true := by
  simp only [Bool.and_eq_true, beq_iff_eq, Bool.not_eq_true', decide_eq_true_eq] at h5
  obtain ⟨⟨⟨⟨⟨g1, g2⟩, g3⟩, g4⟩, g5⟩, g6⟩ := h5
  simp [Cond.before, Cond.holds, Cond.value, h1, h2, h3, h4, g1, g2, g3, g4, g5, g6]
def isCode : Jvm.Cond → Bool
  | .code _ _ _ _ => true
  | _ => false
theorem all_split {L : List Jvm.Cond} {P : Jvm.Cond → Bool} (h1 : L.all (fun c => isCode c || P c) = true) (h2 : ∀ c ∈ L.filter isCode, P c = true) : L.all P = true := by
  refine List.all_eq_true.mpr fun c hc => ?_
  have h := List.all_eq_true.mp h1 c hc
  rcases Bool.eq_false_or_eq_true (isCode c) with hi | hi
  · exact h2 c (List.mem_filter.mpr ⟨hc, hi⟩)
  · simpa [hi] using h
set_option maxRecDepth 65536 in
theorem w_c0 : (Jvm.Cond.code x code maxLocals ret).before args0 about1 = true := code_word (m := ⟨1, 2⟩) (meth := k1m2) (c := k1c2) (by decide +kernel) rfl rfl rfl (by decide +kernel)
set_option maxRecDepth 65536 in
theorem w_c1 : (Jvm.Cond.code ({ cls := "com/example/postings/postings/store/DataFileWriter", name := "varIntSize", desc := "(I)I" } : Jvm.MethodName) prog_49_method_4_code (3 : Nat) (Option.some Jvm.ClassFile.FieldType.int)).before args0 about1 = true := code_word (m := ⟨4, 0⟩) (meth := k4m0) (c := k4c0) (by decide +kernel) rfl rfl rfl (by decide +kernel)
set_option maxRecDepth 65536 in
theorem w_c2 : (Jvm.Cond.code ({ cls := "com/example/postings/postings/store/DataFileWriterVarIntSizePinLaw", name := "reference", desc := "(I)I" } : Jvm.MethodName) method_2_code (1 : Nat) (Option.some Jvm.ClassFile.FieldType.int)).before args0 about1 = true := code_word (m := ⟨1, 1⟩) (meth := k1m1) (c := k1c1) (by decide +kernel) rfl rfl rfl (by decide +kernel)
def codes1 : List Jvm.Cond := [Jvm.Cond.code x code maxLocals ret, Jvm.Cond.code ({ cls := "com/example/postings/postings/store/DataFileWriter", name := "varIntSize", desc := "(I)I" } : Jvm.MethodName) prog_49_method_4_code (3 : Nat) (Option.some Jvm.ClassFile.FieldType.int), Jvm.Cond.code ({ cls := "com/example/postings/postings/store/DataFileWriterVarIntSizePinLaw", name := "reference", desc := "(I)I" } : Jvm.MethodName) method_2_code (1 : Nat) (Option.some Jvm.ClassFile.FieldType.int)]
set_option maxRecDepth 65536 in
theorem codes_eq : words1.filter isCode = codes1 := rfl
theorem w_codes : ∀ c ∈ words1.filter isCode, c.before args0 about1 = true := by
  rw [codes_eq]
  intro c hc
  simp only [codes1, List.mem_cons, List.not_mem_nil, or_false] at hc
  rcases hc with rfl | rfl | rfl
  · exact w_c0
  · exact w_c1
  · exact w_c2
set_option maxRecDepth 65536 in
theorem w_t1 : words1.all (fun c => isCode c || c.before args0 about1) = true := by decide +kernel
theorem w_tables : (allAtoms (Jvm.Cond.code x code maxLocals ret :: tables_1)).before args0 about1 = true := by
  rw [allAtoms_all]
  show words1.all (fun c => c.before args0 about1) = true
  refine all_split ?_ w_codes
  rw [w_t1]
set_option maxRecDepth 65536 in
theorem w_case : (Jvm.Cond.and given_1 narrow_1).before args0 about1 = true := by decide +kernel
theorem w_applies : (headSpec (Jvm.Cond.code x code maxLocals ret :: tables_1) room_1).applies x e0.platform about1 = true :=
  (Spec.applies_iff w_frames).mpr ⟨w_running, w_runnable, w_alone, w_named, w_hears, w_ripe, w_room, w_tables⟩
theorem atStart : AtStart classFile x code maxLocals ret World_1 tables_1 room_1 Calls_1 rest_1 Pre_1 launch0 p0 e0 about1 theMethod args0 below0 :=
  ⟨lists_1, trivial, launch0.admits_env _ _ _, launch0.least_env, fairChoices_fair.cas, fairChoices_fair.clock, w_frames, w_args, w_heap, w_applies, trivial, trivial, w_case⟩
end start1
theorem witness_1 : WitnessClaimed_1 := ⟨start1.p0, start1.e0, start1.about1, start1.theMethod, start1.args0, start1.below0, start1.atStart⟩
end Jvm.Pilot.@@N@@
