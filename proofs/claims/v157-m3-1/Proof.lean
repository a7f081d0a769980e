import JvmDerived
import JvmDerived.Pilot.@@N@@Statement
import JvmDerived.Pilot.@@N@@Code
set_option linter.unusedVariables false
set_option linter.unusedSimpArgs false
namespace Jvm.RoadKit
open Sem ClassFile Op Lib Jvm.Stand Jvm.Free Jvm.LawKit
section New
variable {p : Program} {l : Launch} {e : Env} {R : Room} {s : State} {m : MethodId} {args : Array Value} {below : List Frame} {meth : Method} {c : Code} {T : State} {locs : List Loc} {cells slots : Nat}
theorem retI (X : Stand p l e R s m args below meth c T locs cells slots) (hx : p.tables.exec = Jvm.exec) {pc : Nat} {Ls : Array Slot} {z : Int32} {rest : List Value} (hret : meth.sig.returnType = some .int) (hd : decode c.code pc = .ok (.ireturn, 1)) {fs : List Frame}
    (hl : ∀ (f : JFrame) (acts : List Action), f.method = m → f.locked = none → f.entered = [] → (doReturn e (T.setTop f) acts (some (.int z))).1 = T.setFrames fs) : Steps p.tables e below (T.setTop (mkF m pc Ls (.int z :: rest))) (T.setFrames fs) := by
  have hm' : T.vm.method? m = some meth := X.method'
  have hn : narrow .int (.int z) = .int z := rfl
  show Steps p.tables e below (T.setTop { method := m, pc := pc, locals := Ls, stack := _ :: rest, locked := none }) _
  jvm_step X.here [X.here.top, hx, hd, hm', hret, hn]
  first | (intro acts; rw [hl _ acts rfl rfl rfl]) | rw [hl _ _ rfl rfl rfl]
  exact Steps.refl _
/-- from the state T with the frame g on top the run ends, returned, with Q -/
def own_Go (tb : Tables) (e : Env) (below : List Frame) (Q : Option Value → Heap → List Loc → Prop) (s : State) (C S : Nat) (T : State) (g : JFrame) : Prop :=
  ∃ t o, Steps tb e below (T.setTop g) t ∧ t.status = .running ∧ Ended t below o ∧ ∃ v L, o = .returned v ∧ Q v t.heap L ∧ FrameEnd s o t L C S
theorem own_by {tb : Tables} {Q : Option Value → Heap → List Loc → Prop} {C S : Nat} {T T' : State} {g g' : JFrame} (st : ∀ target, Steps tb e below (T'.setTop g') target → Steps tb e below (T.setTop g) target) (k : own_Go tb e below Q s C S T' g') : own_Go tb e below Q s C S T g := by
  obtain ⟨t, o, h1, h2⟩ := k
  exact ⟨t, o, st t h1, h2⟩
theorem bN {tb : Tables} {Q : Option Value → Heap → List Loc → Prop} {C S : Nat} {T : State} {g : JFrame} (T' : State) (g' : JFrame) (st : ∀ target, Steps tb e below (T'.setTop g') target → Steps tb e below (T.setTop g) target) (k : own_Go tb e below Q s C S T' g') : own_Go tb e below Q s C S T g := own_by st k
/-- the contract of a body: from the heap h0, with the arguments A, it returns, with Q -/
abbrev own_M (l : Launch) (y : MethodName) (code : ByteArray) (ml : Nat) (rt : Option FieldType) (ws : List Cond) (R : Room) (Z : State) (A : Array Value) (h0 : Heap) (Q : Option Value → Heap → List Loc → Prop) : Prop :=
  MetFree l y (head1 (Cond.code y code ml rt :: ws) R) (fun a U => a = A ∧ Z.Warmed39 U.vm ∧ U.heap = h0) (fun _ _ _ _ _ => True) (fun _ U o U' => ∃ v L, o = .returned v ∧ Q v U'.heap L ∧ FrameEnd U o U' L R.cells R.slots)
theorem own_bd {y : MethodName} {code : ByteArray} {ml : Nat} {rt : Option FieldType} {ws : List Cond} {Z : State} {A : Array Value} {h0 : Heap} {Q : Option Value → Heap → List Loc → Prop} (hpl : plainFor y = true)
    (k : ∀ p e s m below meth c s₁, BodyLoose p l y (head1 (Cond.code y code ml rt :: ws) R) code ml rt e s m A below meth c s₁ → p.tables.exec = Jvm.exec → c.code = code → c.maxLocals = ml → s.vm.findClass y.cls = some m.cls → meth.name = y.name → meth.locks = false → Z.Warmed39 s.vm → Stand p l e R s m A below meth c s₁ [] 0 0 → s₁.heap = h0 → own_Go p.tables e below Q s R.cells R.slots s₁ (entryFrame m A ml)) : own_M l y code ml rt ws R Z A h0 Q := by
  refine MetFree.of_bodySF hpl hisR ?_
  intro p e s m args below meth c s₁ Bd hml hP hK
  obtain ⟨rfl, hZ, hh⟩ := hP
  exact k p e s m below meth c s₁ Bd Bd.exec Bd.bytes hml (findClass_of_methodNamed Bd.named) (name_of_methodNamed Bd.named Bd.method).1 Bd.notSynchronized hZ (Stand.of_body Bd) (by rw [← hh, Bd.state]; rfl)
theorem own_ret {Q : Option Value → Heap → List Loc → Prop} {C S : Nat} {g : JFrame} (X : Stand p l e R s m args below meth c T locs cells slots) (hlk : meth.locks = false) {v : Option Value} (hv : meth.sig.returnType = none → v = none)
    (st : ∀ fs, (∀ (f : JFrame) (acts : List Action), f.method = m → f.locked = none → f.entered = [] → (doReturn e (T.setTop f) acts v).1 = T.setFrames fs) → Steps p.tables e below (T.setTop g) (T.setFrames fs))
    (hq : Q v T.heap locs) (hc : cells ≤ C) (hs : slots ≤ S) : own_Go p.tables e below Q s C S T g := by
  obtain ⟨fs, hr, hrun, hended, hW, hsame⟩ := X.leave (v := v) hv hlk
  exact ⟨_, _, st fs hr, hrun, hended, v, locs, rfl, hq, ⟨v, rfl⟩, hW, hsame.mono hc hs⟩
end New
end Jvm.RoadKit
namespace Jvm.Pilot.@@N@@
open Jvm Jvm.ClassFile Sem Op Lib Jvm.Free Jvm.Stand Jvm.LawKit Jvm.RoadKit Bundle Jvm.Pilot.@@N@@.Jvm.D
theorem pd_0 : parseMethodDescriptor "(I)Lcom/example/temporalis/temporalis/Operator$Endpoint;" = some ⟨[.int], some (.object "com/example/temporalis/temporalis/Operator$Endpoint")⟩ := by decide +kernel
theorem pd_1 : parseMethodDescriptor "()Z" = some ⟨[], some .boolean⟩ := by decide +kernel
theorem own_fld {args : Array Value} {s : State} {t : Term} {C n d : String} {a : Addr} {k : Int32} (ht : t.eval args s none [] s = some (.ref a)) (h : (Jvm.Cond.eq (.field t C n d) (.int k)).value args s none s [] = some true) : Fld s s.heap a C n d (.int k) := by
  refine Fld.start ?_
  rw [← fld_at (args := args) (first := s) (o := none) (idx := []) (s := s) (C := C) (n := n) (dd := d) ht]
  obtain ⟨x, y, e1, e2, -, -⟩ := cmp_v (Or.inl h)
  rw [Term.int_eval k] at e2
  obtain rfl : Value.int k = y := Option.some.inj e2
  cases x <;> simp [Jvm.Cond.value, e1, Term.int_eval] at h
  rw [e1, h]
theorem own_vne {i j : Int32} (h : i ≠ j) : Value.int i ≠ Value.int j := fun q => h (Value.int.inj q)
def own_pick (i : Int32) (a b c d : Addr) : Addr := if i = 0 then a else if i = 1 then b else if i = 2 then c else d
theorem own_and3 (x : Int32) : x &&& 3 = 0 ∨ x &&& 3 = 1 ∨ x &&& 3 = 2 ∨ x &&& 3 = 3 := by
  have h := c_mask x 3 2 (by decide) (by decide)
  have h1 := Int.emod_nonneg x.toInt (b := ((2 ^ 2 : Nat) : Int)) (by decide)
  have h2 := Int.emod_lt_of_pos x.toInt (b := ((2 ^ 2 : Nat) : Int)) (by decide)
  rw [← h] at h1 h2
  have k0 : (0 : Int32).toInt = 0 := by decide
  have k1 : (1 : Int32).toInt = 1 := by decide
  have k2 : (2 : Int32).toInt = 2 := by decide
  have k3 : (3 : Int32).toInt = 3 := by decide
  simp only [← Int32.toInt_inj, k0, k1, k2, k3]
  omega
theorem d1_0 : decode method_2_code 0 = .ok (.iload_n 0, 1) := by decide +kernel
theorem d1_1 : decode method_2_code 1 = .ok (.ifCond .ne 10, 3) := by decide +kernel
theorem d1_4 : decode method_2_code 4 = .ok (.getstatic 7, 3) := by decide +kernel
theorem d1_7 : decode method_2_code 7 = .ok (.astore_n 1, 1) := by decide +kernel
theorem d1_8 : decode method_2_code 8 = .ok (.goto 31, 3) := by decide +kernel
theorem d1_11 : decode method_2_code 11 = .ok (.iload_n 0, 1) := by decide +kernel
theorem d1_12 : decode method_2_code 12 = .ok (.iconst 1, 1) := by decide +kernel
theorem d1_13 : decode method_2_code 13 = .ok (.if_icmp .ne 10, 3) := by decide +kernel
theorem d1_16 : decode method_2_code 16 = .ok (.getstatic 13, 3) := by decide +kernel
theorem d1_19 : decode method_2_code 19 = .ok (.astore_n 1, 1) := by decide +kernel
theorem d1_20 : decode method_2_code 20 = .ok (.goto 19, 3) := by decide +kernel
theorem d1_23 : decode method_2_code 23 = .ok (.iload_n 0, 1) := by decide +kernel
theorem d1_24 : decode method_2_code 24 = .ok (.iconst 2, 1) := by decide +kernel
theorem d1_25 : decode method_2_code 25 = .ok (.if_icmp .ne 10, 3) := by decide +kernel
theorem d1_28 : decode method_2_code 28 = .ok (.getstatic 16, 3) := by decide +kernel
theorem d1_31 : decode method_2_code 31 = .ok (.astore_n 1, 1) := by decide +kernel
theorem d1_32 : decode method_2_code 32 = .ok (.goto 7, 3) := by decide +kernel
theorem d1_35 : decode method_2_code 35 = .ok (.getstatic 19, 3) := by decide +kernel
theorem d1_38 : decode method_2_code 38 = .ok (.astore_n 1, 1) := by decide +kernel
theorem d1_39 : decode method_2_code 39 = .ok (.aload_n 1, 1) := by decide +kernel
theorem d1_40 : decode method_2_code 40 = .ok (.areturn, 1) := by decide +kernel
theorem pn_1 : plainName "com/example/temporalis/temporalis/EndpointOfAPinLaw" = true := by first | (simp [plainName, overriddenIn]; done) | decide +kernel
theorem ef_rm1 (m : MethodId) (i : Int32) : entryFrame m #[(.int i)] 2 = mkF m 0 #[.val (.int i), .unset] [] := by first | (simp [entryFrame, mkF, argsToLocals, Value.category]; done) | rfl
def Q_rm1 (Z : State) (i : Int32) (a_A_START : Addr) (a_A_END : Addr) (a_B_START : Addr) (a_B_END : Addr) (h0 : Heap) (n0 : Nat) (v : Option Value) (h : Heap) (L : List Loc) : Prop := v = some (.ref (own_pick i a_A_START a_A_END a_B_START a_B_END)) ∧ Fr n0 L ∧ h = h0
set_option maxRecDepth 65536 in
set_option maxHeartbeats 40000000 in
theorem rm1 (l : Launch) (Z : State) (a0 : Array Value) (hw : ∀ d ∈ tables_1, d.before a0 Z = true) (ws : List Jvm.Cond) (i : Int32) (a_A_START : Addr) (a_A_END : Addr) (a_B_START : Addr) (a_B_END : Addr) (h0 : Heap) (n0 : Nat) (Z0 : n0 ≤ h0.size) (S_A_START : Sta Z h0 "com/example/temporalis/temporalis/Operator$Endpoint" "A_START" "Lcom/example/temporalis/temporalis/Operator$Endpoint;" (.ref a_A_START)) (S_A_END : Sta Z h0 "com/example/temporalis/temporalis/Operator$Endpoint" "A_END" "Lcom/example/temporalis/temporalis/Operator$Endpoint;" (.ref a_A_END)) (S_B_START : Sta Z h0 "com/example/temporalis/temporalis/Operator$Endpoint" "B_START" "Lcom/example/temporalis/temporalis/Operator$Endpoint;" (.ref a_B_START)) (S_B_END : Sta Z h0 "com/example/temporalis/temporalis/Operator$Endpoint" "B_END" "Lcom/example/temporalis/temporalis/Operator$Endpoint;" (.ref a_B_END)) :
    MetFree l (⟨"com/example/temporalis/temporalis/EndpointOfAPinLaw", "pick", "(I)Lcom/example/temporalis/temporalis/Operator$Endpoint;"⟩ : MethodName) (head1 (Jvm.Cond.code (⟨"com/example/temporalis/temporalis/EndpointOfAPinLaw", "pick", "(I)Lcom/example/temporalis/temporalis/Operator$Endpoint;"⟩ : MethodName) method_2_code 2 (some (.object "com/example/temporalis/temporalis/Operator$Endpoint")) :: ws) ({ frames := 0, cells := 0, slots := 0, locals := 0 } : Room)) (fun zz UU => zz = #[(.int i)] ∧ Z.Warmed39 UU.vm ∧ UU.heap = h0) (fun _ _ _ _ _ => True) (fun _ U o U' => ∃ v L, o = .returned v ∧ Q_rm1 Z i a_A_START a_A_END a_B_START a_B_END h0 n0 v U'.heap L ∧ FrameEnd U o U' L ({ frames := 0, cells := 0, slots := 0, locals := 0 } : Room).cells ({ frames := 0, cells := 0, slots := 0, locals := 0 } : Room).slots) := by
  refine MetFree.of_bodySF (plainFor_of_name pn_1) hisR ?_
  intro p e s m args below meth c s₁ Bd hml0 hP hK
  obtain ⟨rfl, hZ, hh⟩ := hP
  have hx := Bd.exec
  have hby := Bd.bytes
  have hml : c.maxLocals = 2 := hml0
  have hown : s.vm.findClass "com/example/temporalis/temporalis/EndpointOfAPinLaw" = some m.cls := findClass_of_methodNamed Bd.named
  have hnm := (name_of_methodNamed Bd.named Bd.method).1
  have hlk : meth.locks = false := BodyLoose.notSynchronized Bd
  have X0 : Stand p l e ({ frames := 0, cells := 0, slots := 0, locals := 0 } : Room) s m #[(.int i)] below meth c s₁ [] 0 0 := Stand.of_body Bd
  have e0 : s₁.heap = h0 := by rw [← hh, Bd.state]; rfl
  have N0 := Fr.nil n0
  show own_Go p.tables e below (Q_rm1 Z i a_A_START a_A_END a_B_START a_B_END h0 n0) s ({ frames := 0, cells := 0, slots := 0, locals := 0 } : Room).cells ({ frames := 0, cells := 0, slots := 0, locals := 0 } : Room).slots s₁ (entryFrame m #[(.int i)] 2)
  rw [ef_rm1 m i]
  refine own_by (T' := s₁) (g' := (mkF m 1 #[.val (.int i), .unset] [(.int i)])) (fun _ k => XS.iloadN X0.here hx rfl (hb hby d1_0) rfl k) ?_
  by_cases hc1_1 : i = (0 : Int32)
  · skip
    refine own_by (T' := s₁) (g' := (mkF m 4 #[.val (.int i), .unset] [])) (fun _ k => XS.ifNo X0.here hx rfl (hb hby d1_1) rfl ((if0 _ _).trans (teq hc1_1).2) k) ?_
    obtain ⟨T2, X2, e2, st2⟩ := getS2 X0 hx hZ hown (host := "") (Or.inl (hw _ (List.mem_of_getElem? (i := 4) rfl))) Via.refl e0 S_A_START (g := (mkF m 4 #[.val (.int i), .unset] [])) rfl (hb hby d1_4)
    refine own_by (T' := T2) (g' := (mkF m 7 #[.val (.int i), .unset] [(.ref a_A_START)])) (fun _ k => st2 _ k) ?_
    refine own_by (T' := T2) (g' := (mkF m 8 #[.val (.int i), .val (.ref a_A_START)] [])) (fun _ k => XS.astoreN X2.here hx rfl (hb hby d1_7) rfl rfl (l' := #[.val (.int i), .val (.ref a_A_START)]) rfl k) ?_
    refine own_by (T' := T2) (g' := (mkF m 39 #[.val (.int i), .val (.ref a_A_START)] [])) (fun _ k => XS.goto X2.here hx rfl (pc0 := 8) (pc' := 39) rfl (hb hby d1_8) (by decide) (by decide) k) ?_
    refine own_by (T' := T2) (g' := (mkF m 40 #[.val (.int i), .val (.ref a_A_START)] [(.ref a_A_START)])) (fun _ k => XS.aloadN X2.here hx rfl (hb hby d1_39) rfl rfl k) ?_
    refine own_ret X2 hlk (v := some (.ref a_A_START)) (fun h => by rw [Bd.returns] at h; cases h) (fun fs hr => retOut X2 hx Bd.returns rfl (Or.inr (Or.inr (Or.inr (Or.inr ⟨rfl, rfl, rfl⟩)))) (hb hby d1_40) hr) ?_ (by decide) (by decide)
    rw [e2]
    exact ⟨congrArg (fun z => some (Value.ref z)) ((if_pos hc1_1)).symm, N0, rfl⟩
  · skip
    refine own_by (T' := s₁) (g' := (mkF m 11 #[.val (.int i), .unset] [])) (fun _ k => XS.ifYes X0.here hx rfl (pc0 := 1) (pc' := 11) rfl (hb hby d1_1) rfl ((if0 _ _).trans (feq hc1_1).2) (by decide) (by decide) k) ?_
    refine own_by (T' := s₁) (g' := (mkF m 12 #[.val (.int i), .unset] [(.int i)])) (fun _ k => XS.iloadN X0.here hx rfl (hb hby d1_11) rfl k) ?_
    refine own_by (T' := s₁) (g' := (mkF m 13 #[.val (.int i), .unset] [(.int (1 : Int32)), (.int i)])) (fun _ k => XS.iconst X0.here hx rfl (hb hby d1_12) k) ?_
    by_cases hc13_3 : i = (1 : Int32)
    · skip
      refine own_by (T' := s₁) (g' := (mkF m 16 #[.val (.int i), .unset] [])) (fun _ k => XS.icmpNo X0.here hx rfl (hb hby d1_13) rfl (teq hc13_3).2 k) ?_
      obtain ⟨T4, X4, e4, st4⟩ := getS2 X0 hx hZ hown (host := "") (Or.inl (hw _ (List.mem_of_getElem? (i := 19) rfl))) Via.refl e0 S_A_END (g := (mkF m 16 #[.val (.int i), .unset] [])) rfl (hb hby d1_16)
      refine own_by (T' := T4) (g' := (mkF m 19 #[.val (.int i), .unset] [(.ref a_A_END)])) (fun _ k => st4 _ k) ?_
      refine own_by (T' := T4) (g' := (mkF m 20 #[.val (.int i), .val (.ref a_A_END)] [])) (fun _ k => XS.astoreN X4.here hx rfl (hb hby d1_19) rfl rfl (l' := #[.val (.int i), .val (.ref a_A_END)]) rfl k) ?_
      refine own_by (T' := T4) (g' := (mkF m 39 #[.val (.int i), .val (.ref a_A_END)] [])) (fun _ k => XS.goto X4.here hx rfl (pc0 := 20) (pc' := 39) rfl (hb hby d1_20) (by decide) (by decide) k) ?_
      refine own_by (T' := T4) (g' := (mkF m 40 #[.val (.int i), .val (.ref a_A_END)] [(.ref a_A_END)])) (fun _ k => XS.aloadN X4.here hx rfl (hb hby d1_39) rfl rfl k) ?_
      refine own_ret X4 hlk (v := some (.ref a_A_END)) (fun h => by rw [Bd.returns] at h; cases h) (fun fs hr => retOut X4 hx Bd.returns rfl (Or.inr (Or.inr (Or.inr (Or.inr ⟨rfl, rfl, rfl⟩)))) (hb hby d1_40) hr) ?_ (by decide) (by decide)
      rw [e4]
      exact ⟨congrArg (fun z => some (Value.ref z)) (((if_neg hc1_1).trans (if_pos hc13_3))).symm, N0, rfl⟩
    · skip
      refine own_by (T' := s₁) (g' := (mkF m 23 #[.val (.int i), .unset] [])) (fun _ k => XS.icmpYes X0.here hx rfl (pc0 := 13) (pc' := 23) rfl (hb hby d1_13) rfl (feq hc13_3).2 (by decide) (by decide) k) ?_
      refine own_by (T' := s₁) (g' := (mkF m 24 #[.val (.int i), .unset] [(.int i)])) (fun _ k => XS.iloadN X0.here hx rfl (hb hby d1_23) rfl k) ?_
      refine own_by (T' := s₁) (g' := (mkF m 25 #[.val (.int i), .unset] [(.int (2 : Int32)), (.int i)])) (fun _ k => XS.iconst X0.here hx rfl (hb hby d1_24) k) ?_
      by_cases hc25_5 : i = (2 : Int32)
      · skip
        refine own_by (T' := s₁) (g' := (mkF m 28 #[.val (.int i), .unset] [])) (fun _ k => XS.icmpNo X0.here hx rfl (hb hby d1_25) rfl (teq hc25_5).2 k) ?_
        obtain ⟨T6, X6, e6, st6⟩ := getS2 X0 hx hZ hown (host := "") (Or.inl (hw _ (List.mem_of_getElem? (i := 17) rfl))) Via.refl e0 S_B_START (g := (mkF m 28 #[.val (.int i), .unset] [])) rfl (hb hby d1_28)
        refine own_by (T' := T6) (g' := (mkF m 31 #[.val (.int i), .unset] [(.ref a_B_START)])) (fun _ k => st6 _ k) ?_
        refine own_by (T' := T6) (g' := (mkF m 32 #[.val (.int i), .val (.ref a_B_START)] [])) (fun _ k => XS.astoreN X6.here hx rfl (hb hby d1_31) rfl rfl (l' := #[.val (.int i), .val (.ref a_B_START)]) rfl k) ?_
        refine own_by (T' := T6) (g' := (mkF m 39 #[.val (.int i), .val (.ref a_B_START)] [])) (fun _ k => XS.goto X6.here hx rfl (pc0 := 32) (pc' := 39) rfl (hb hby d1_32) (by decide) (by decide) k) ?_
        refine own_by (T' := T6) (g' := (mkF m 40 #[.val (.int i), .val (.ref a_B_START)] [(.ref a_B_START)])) (fun _ k => XS.aloadN X6.here hx rfl (hb hby d1_39) rfl rfl k) ?_
        refine own_ret X6 hlk (v := some (.ref a_B_START)) (fun h => by rw [Bd.returns] at h; cases h) (fun fs hr => retOut X6 hx Bd.returns rfl (Or.inr (Or.inr (Or.inr (Or.inr ⟨rfl, rfl, rfl⟩)))) (hb hby d1_40) hr) ?_ (by decide) (by decide)
        rw [e6]
        exact ⟨congrArg (fun z => some (Value.ref z)) ((((if_neg hc1_1).trans (if_neg hc13_3)).trans (if_pos hc25_5))).symm, N0, rfl⟩
      · skip
        refine own_by (T' := s₁) (g' := (mkF m 35 #[.val (.int i), .unset] [])) (fun _ k => XS.icmpYes X0.here hx rfl (pc0 := 25) (pc' := 35) rfl (hb hby d1_25) rfl (feq hc25_5).2 (by decide) (by decide) k) ?_
        obtain ⟨T7, X7, e7, st7⟩ := getS2 X0 hx hZ hown (host := "") (Or.inl (hw _ (List.mem_of_getElem? (i := 13) rfl))) Via.refl e0 S_B_END (g := (mkF m 35 #[.val (.int i), .unset] [])) rfl (hb hby d1_35)
        refine own_by (T' := T7) (g' := (mkF m 38 #[.val (.int i), .unset] [(.ref a_B_END)])) (fun _ k => st7 _ k) ?_
        refine own_by (T' := T7) (g' := (mkF m 39 #[.val (.int i), .val (.ref a_B_END)] [])) (fun _ k => XS.astoreN X7.here hx rfl (hb hby d1_38) rfl rfl (l' := #[.val (.int i), .val (.ref a_B_END)]) rfl k) ?_
        refine own_by (T' := T7) (g' := (mkF m 40 #[.val (.int i), .val (.ref a_B_END)] [(.ref a_B_END)])) (fun _ k => XS.aloadN X7.here hx rfl (hb hby d1_39) rfl rfl k) ?_
        refine own_ret X7 hlk (v := some (.ref a_B_END)) (fun h => by rw [Bd.returns] at h; cases h) (fun fs hr => retOut X7 hx Bd.returns rfl (Or.inr (Or.inr (Or.inr (Or.inr ⟨rfl, rfl, rfl⟩)))) (hb hby d1_40) hr) ?_ (by decide) (by decide)
        rw [e7]
        exact ⟨congrArg (fun z => some (Value.ref z)) ((((if_neg hc1_1).trans (if_neg hc13_3)).trans (if_neg hc25_5))).symm, N0, rfl⟩
theorem d2_0 : decode prog_54_method_5_code 0 = .ok (.aload_n 0, 1) := by decide +kernel
theorem d2_1 : decode prog_54_method_5_code 1 = .ok (.getstatic 3, 3) := by decide +kernel
theorem d2_4 : decode prog_54_method_5_code 4 = .ok (.if_acmp .eq 10, 3) := by decide +kernel
theorem d2_7 : decode prog_54_method_5_code 7 = .ok (.aload_n 0, 1) := by decide +kernel
theorem d2_8 : decode prog_54_method_5_code 8 = .ok (.getstatic 7, 3) := by decide +kernel
theorem d2_11 : decode prog_54_method_5_code 11 = .ok (.if_acmp .ne 7, 3) := by decide +kernel
theorem d2_14 : decode prog_54_method_5_code 14 = .ok (.iconst 1, 1) := by decide +kernel
theorem d2_15 : decode prog_54_method_5_code 15 = .ok (.goto 4, 3) := by decide +kernel
theorem d2_18 : decode prog_54_method_5_code 18 = .ok (.iconst 0, 1) := by decide +kernel
theorem d2_19 : decode prog_54_method_5_code 19 = .ok (.ireturn, 1) := by decide +kernel
theorem pn_2 : plainName "com/example/temporalis/temporalis/Operator$Endpoint" = true := by first | (simp [plainName, overriddenIn]; done) | decide +kernel
theorem ef_rm2 (m : MethodId) (this : Addr) : entryFrame m #[(.ref this)] 1 = mkF m 0 #[.val (.ref this)] [] := by first | (simp [entryFrame, mkF, argsToLocals, Value.category]; done) | rfl
def Q_rm2 (Z : State) (this : Addr) (a_A_START : Addr) (a_A_END : Addr) (h0 : Heap) (n0 : Nat) (v : Option Value) (h : Heap) (L : List Loc) : Prop := v = some (.int (if this = a_A_START then 1 else if this = a_A_END then 1 else 0)) ∧ Fr n0 L ∧ h = h0
set_option maxRecDepth 65536 in
set_option maxHeartbeats 40000000 in
theorem rm2 (l : Launch) (Z : State) (a0 : Array Value) (hw : ∀ d ∈ tables_1, d.before a0 Z = true) (ws : List Jvm.Cond) (this : Addr) (a_A_START : Addr) (a_A_END : Addr) (h0 : Heap) (n0 : Nat) (Z0 : n0 ≤ h0.size) (S_A_START : Sta Z h0 "com/example/temporalis/temporalis/Operator$Endpoint" "A_START" "Lcom/example/temporalis/temporalis/Operator$Endpoint;" (.ref a_A_START)) (S_A_END : Sta Z h0 "com/example/temporalis/temporalis/Operator$Endpoint" "A_END" "Lcom/example/temporalis/temporalis/Operator$Endpoint;" (.ref a_A_END)) :
    MetFree l (⟨"com/example/temporalis/temporalis/Operator$Endpoint", "ofA", "()Z"⟩ : MethodName) (head1 (Jvm.Cond.code (⟨"com/example/temporalis/temporalis/Operator$Endpoint", "ofA", "()Z"⟩ : MethodName) prog_54_method_5_code 1 (some .boolean) :: ws) ({ frames := 0, cells := 0, slots := 0, locals := 0 } : Room)) (fun zz UU => zz = #[(.ref this)] ∧ Z.Warmed39 UU.vm ∧ UU.heap = h0) (fun _ _ _ _ _ => True) (fun _ U o U' => ∃ v L, o = .returned v ∧ Q_rm2 Z this a_A_START a_A_END h0 n0 v U'.heap L ∧ FrameEnd U o U' L ({ frames := 0, cells := 0, slots := 0, locals := 0 } : Room).cells ({ frames := 0, cells := 0, slots := 0, locals := 0 } : Room).slots) := by
  refine MetFree.of_bodySF (plainFor_of_name pn_2) hisR ?_
  intro p e s m args below meth c s₁ Bd hml0 hP hK
  obtain ⟨rfl, hZ, hh⟩ := hP
  have hx := Bd.exec
  have hby := Bd.bytes
  have hml : c.maxLocals = 1 := hml0
  have hown : s.vm.findClass "com/example/temporalis/temporalis/Operator$Endpoint" = some m.cls := findClass_of_methodNamed Bd.named
  have hnm := (name_of_methodNamed Bd.named Bd.method).1
  have hlk : meth.locks = false := BodyLoose.notSynchronized Bd
  have X0 : Stand p l e ({ frames := 0, cells := 0, slots := 0, locals := 0 } : Room) s m #[(.ref this)] below meth c s₁ [] 0 0 := Stand.of_body Bd
  have e0 : s₁.heap = h0 := by rw [← hh, Bd.state]; rfl
  have N0 := Fr.nil n0
  show own_Go p.tables e below (Q_rm2 Z this a_A_START a_A_END h0 n0) s ({ frames := 0, cells := 0, slots := 0, locals := 0 } : Room).cells ({ frames := 0, cells := 0, slots := 0, locals := 0 } : Room).slots s₁ (entryFrame m #[(.ref this)] 1)
  rw [ef_rm2 m this]
  refine own_by (T' := s₁) (g' := (mkF m 1 #[.val (.ref this)] [(.ref this)])) (fun _ k => XS.aloadN X0.here hx rfl (hb hby d2_0) rfl rfl k) ?_
  obtain ⟨T1, X1, e1, st1⟩ := getS2 X0 hx hZ hown (host := "") (Or.inl (hw _ (List.mem_of_getElem? (i := 12) rfl))) Via.refl e0 S_A_START (g := (mkF m 1 #[.val (.ref this)] [(.ref this)])) rfl (hb hby d2_1)
  refine own_by (T' := T1) (g' := (mkF m 4 #[.val (.ref this)] [(.ref a_A_START), (.ref this)])) (fun _ k => st1 _ k) ?_
  by_cases hc4_2 : this = a_A_START
  · skip
    refine own_by (T' := T1) (g' := (mkF m 14 #[.val (.ref this)] [])) (fun _ k => Jvm.RoadKit.acmp (g := (mkF m 4 #[.val (.ref this)] [(.ref a_A_START), (.ref this)])) X1 hx rfl rfl rfl (pc0 := 4) (pc' := 14) (same := true) rfl (hb hby d2_4) rfl (decide_eq_true (congrArg Value.ref hc4_2)) (by decide) (by decide) k) ?_
    refine own_by (T' := T1) (g' := (mkF m 15 #[.val (.ref this)] [(.int (1 : Int32))])) (fun _ k => XS.iconst X1.here hx rfl (hb hby d2_14) k) ?_
    refine own_by (T' := T1) (g' := (mkF m 19 #[.val (.ref this)] [(.int (1 : Int32))])) (fun _ k => XS.goto X1.here hx rfl (pc0 := 15) (pc' := 19) rfl (hb hby d2_15) (by decide) (by decide) k) ?_
    refine own_ret X1 hlk (v := some (.int (1 : Int32))) (fun h => by rw [Bd.returns] at h; cases h) (fun fs hr => retN X1 hx (t := .boolean) Bd.returns (by simp) (hb hby d2_19) hr) ?_ (by decide) (by decide)
    rw [e1]
    exact ⟨congrArg (fun z => some (Value.int z)) (if_pos hc4_2).symm, N0, rfl⟩
  · skip
    refine own_by (T' := T1) (g' := (mkF m 7 #[.val (.ref this)] [])) (fun _ k => Jvm.RoadKit.acmp (g := (mkF m 4 #[.val (.ref this)] [(.ref a_A_START), (.ref this)])) X1 hx rfl rfl rfl (pc0 := 4) (pc' := 7) (same := false) rfl (hb hby d2_4) rfl (decide_eq_false fun q => hc4_2 (Value.ref.inj q)) (by decide) (by decide) k) ?_
    refine own_by (T' := T1) (g' := (mkF m 8 #[.val (.ref this)] [(.ref this)])) (fun _ k => XS.aloadN X1.here hx rfl (hb hby d2_7) rfl rfl k) ?_
    obtain ⟨T3, X3, e3, st3⟩ := getS2 X1 hx hZ hown (host := "") (Or.inl (hw _ (List.mem_of_getElem? (i := 15) rfl))) Via.refl e1 S_A_END (g := (mkF m 8 #[.val (.ref this)] [(.ref this)])) rfl (hb hby d2_8)
    refine own_by (T' := T3) (g' := (mkF m 11 #[.val (.ref this)] [(.ref a_A_END), (.ref this)])) (fun _ k => st3 _ k) ?_
    by_cases hc11_4 : this = a_A_END
    · skip
      refine own_by (T' := T3) (g' := (mkF m 14 #[.val (.ref this)] [])) (fun _ k => Jvm.RoadKit.acmp (g := (mkF m 11 #[.val (.ref this)] [(.ref a_A_END), (.ref this)])) X3 hx rfl rfl rfl (pc0 := 11) (pc' := 14) (same := true) rfl (hb hby d2_11) rfl (decide_eq_true (congrArg Value.ref hc11_4)) (by decide) (by decide) k) ?_
      refine own_by (T' := T3) (g' := (mkF m 15 #[.val (.ref this)] [(.int (1 : Int32))])) (fun _ k => XS.iconst X3.here hx rfl (hb hby d2_14) k) ?_
      refine own_by (T' := T3) (g' := (mkF m 19 #[.val (.ref this)] [(.int (1 : Int32))])) (fun _ k => XS.goto X3.here hx rfl (pc0 := 15) (pc' := 19) rfl (hb hby d2_15) (by decide) (by decide) k) ?_
      refine own_ret X3 hlk (v := some (.int (1 : Int32))) (fun h => by rw [Bd.returns] at h; cases h) (fun fs hr => retN X3 hx (t := .boolean) Bd.returns (by simp) (hb hby d2_19) hr) ?_ (by decide) (by decide)
      rw [e3]
      exact ⟨congrArg (fun z => some (Value.int z)) ((if_neg hc4_2).trans (if_pos hc11_4)).symm, N0, rfl⟩
    · skip
      refine own_by (T' := T3) (g' := (mkF m 18 #[.val (.ref this)] [])) (fun _ k => Jvm.RoadKit.acmp (g := (mkF m 11 #[.val (.ref this)] [(.ref a_A_END), (.ref this)])) X3 hx rfl rfl rfl (pc0 := 11) (pc' := 18) (same := false) rfl (hb hby d2_11) rfl (decide_eq_false fun q => hc11_4 (Value.ref.inj q)) (by decide) (by decide) k) ?_
      refine own_by (T' := T3) (g' := (mkF m 19 #[.val (.ref this)] [(.int (0 : Int32))])) (fun _ k => XS.iconst X3.here hx rfl (hb hby d2_18) k) ?_
      refine own_ret X3 hlk (v := some (.int (0 : Int32))) (fun h => by rw [Bd.returns] at h; cases h) (fun fs hr => retN X3 hx (t := .boolean) Bd.returns (by simp) (hb hby d2_19) hr) ?_ (by decide) (by decide)
      rw [e3]
      exact ⟨congrArg (fun z => some (Value.int z)) ((if_neg hc4_2).trans (if_neg hc11_4)).symm, N0, rfl⟩
theorem pn_0 : plainName "com/example/temporalis/temporalis/EndpointOfAPinLaw" = true := by first | (simp [plainName, overriddenIn]; done) | decide +kernel
theorem ef_rm0 (m : MethodId) (u : Int32) : entryFrame m #[(.int u)] maxLocals = mkF m 0 #[.val (.int u), .unset, .unset, .unset] [] := by first | (simp [entryFrame, mkF, argsToLocals, Value.category, maxLocals]; done) | rfl
def Q_rm0 (Z : State) (u : Int32) (a_A_START : Addr) (a_A_END : Addr) (a_B_START : Addr) (a_B_END : Addr) (h0 : Heap) (n0 : Nat) (v : Option Value) (h : Heap) (L : List Loc) : Prop := v = some (.int 1) ∧ Fr n0 L
set_option maxRecDepth 65536 in
set_option maxHeartbeats 40000000 in
theorem rm0 (l : Launch) (Z : State) (a0 : Array Value) (hw : ∀ d ∈ tables_1, d.before a0 Z = true) (ws : List Jvm.Cond) (u : Int32) (a_A_START : Addr) (a_A_END : Addr) (a_B_START : Addr) (a_B_END : Addr) (h0 : Heap) (n0 : Nat) (Z0 : n0 ≤ h0.size) (S_A_START : Sta Z h0 "com/example/temporalis/temporalis/Operator$Endpoint" "A_START" "Lcom/example/temporalis/temporalis/Operator$Endpoint;" (.ref a_A_START)) (S_A_END : Sta Z h0 "com/example/temporalis/temporalis/Operator$Endpoint" "A_END" "Lcom/example/temporalis/temporalis/Operator$Endpoint;" (.ref a_A_END)) (S_B_START : Sta Z h0 "com/example/temporalis/temporalis/Operator$Endpoint" "B_START" "Lcom/example/temporalis/temporalis/Operator$Endpoint;" (.ref a_B_START)) (S_B_END : Sta Z h0 "com/example/temporalis/temporalis/Operator$Endpoint" "B_END" "Lcom/example/temporalis/temporalis/Operator$Endpoint;" (.ref a_B_END)) (E_A_START : Exa Z h0 a_A_START "com/example/temporalis/temporalis/Operator$Endpoint") (E_A_END : Exa Z h0 a_A_END "com/example/temporalis/temporalis/Operator$Endpoint") (E_B_START : Exa Z h0 a_B_START "com/example/temporalis/temporalis/Operator$Endpoint") (E_B_END : Exa Z h0 a_B_END "com/example/temporalis/temporalis/Operator$Endpoint") (ne_AE_AS : ¬ a_A_END = a_A_START) (ne_BS_AS : ¬ a_B_START = a_A_START) (ne_BS_AE : ¬ a_B_START = a_A_END) (ne_BE_AS : ¬ a_B_END = a_A_START) (ne_BE_AE : ¬ a_B_END = a_A_END) :
    MetFree l x (head1 (Jvm.Cond.code x code maxLocals ret :: ws) room_1) (fun zz UU => zz = #[(.int u)] ∧ Z.Warmed39 UU.vm ∧ UU.heap = h0) (fun _ _ _ _ _ => True) (fun _ U o U' => ∃ v L, o = .returned v ∧ Q_rm0 Z u a_A_START a_A_END a_B_START a_B_END h0 n0 v U'.heap L ∧ FrameEnd U o U' L 0 0) := by
  refine MetFree.of_bodySF (plainFor_of_name pn_0) hisR ?_
  intro p e s m args below meth c s₁ Bd hml0 hP hK
  obtain ⟨rfl, hZ, hh⟩ := hP
  have hx := Bd.exec
  have hby := Bd.bytes
  have hml : c.maxLocals = 4 := hml0
  have hown : s.vm.findClass "com/example/temporalis/temporalis/EndpointOfAPinLaw" = some m.cls := findClass_of_methodNamed Bd.named
  have hnm := (name_of_methodNamed Bd.named Bd.method).1
  have hlk : meth.locks = false := BodyLoose.notSynchronized Bd
  have X0 : Stand p l e room_1 s m #[(.int u)] below meth c s₁ [] 0 0 := Stand.of_body Bd
  have e0 : s₁.heap = h0 := by rw [← hh, Bd.state]; rfl
  have N0 := Fr.nil n0
  show own_Go p.tables e below (Q_rm0 Z u a_A_START a_A_END a_B_START a_B_END h0 n0) s 0 0 s₁ (entryFrame m #[(.int u)] maxLocals)
  rw [ef_rm0 m u]
  refine own_by (T' := s₁) (g' := (mkF m 1 #[.val (.int u), .unset, .unset, .unset] [(.int u)])) (fun _ k => XS.iloadN X0.here hx rfl (hb hby at_0) rfl k) ?_
  refine own_by (T' := s₁) (g' := (mkF m 2 #[.val (.int u), .unset, .unset, .unset] [(.int (3 : Int32)), (.int u)])) (fun _ k => XS.iconst X0.here hx rfl (hb hby at_1) k) ?_
  refine own_by (T' := s₁) (g' := (mkF m 3 #[.val (.int u), .unset, .unset, .unset] [(.int (u &&& (3 : Int32)))])) (fun _ k => XS.iand X0.here hx rfl (hb hby at_2) rfl k) ?_
  refine own_by (T' := s₁) (g' := (mkF m 4 #[.val (.int u), .val (.int (u &&& (3 : Int32))), .unset, .unset] [])) (fun _ k => XS.istoreN X0.here hx rfl (hb hby at_3) rfl (l' := #[.val (.int u), .val (.int (u &&& (3 : Int32))), .unset, .unset]) rfl k) ?_
  rcases own_and3 u with hq1 | hq1 | hq1 | hq1
  · skip
    rw [hq1]
    refine own_by (T' := s₁) (g' := (mkF m 5 #[.val (.int u), .val (.int (0 : Int32)), .unset, .unset] [(.int (0 : Int32))])) (fun _ k => XS.iloadN X0.here hx rfl (hb hby at_4) rfl k) ?_
    obtain ⟨_, _, ⟨T2, L2, k2, n2⟩, -, X2, ⟨Lc2, hQ2, l2, y2, z2⟩, st2⟩ := Jvm.LawKit.callS X0 hx (y := (⟨"com/example/temporalis/temporalis/EndpointOfAPinLaw", "pick", "(I)Lcom/example/temporalis/temporalis/Operator$Endpoint;"⟩ : MethodName)) hown (mvT hZ (hw _ (List.mem_of_getElem? (i := 0) rfl))) (mvT hZ (hw _ (List.mem_of_getElem? (i := 1) rfl))) (mvT hZ (hw _ (List.mem_of_getElem? (i := 2) rfl))) (mvT hZ (hw _ (List.mem_of_getElem? (i := 3) rfl))) (by decide) (backOf (W := 0) (rm1 l Z a0 hw [] (0 : Int32) a_A_START a_A_END a_B_START a_B_END h0 n0 Z0 S_A_START S_A_END S_B_START S_B_END) hZ (hw _ (List.mem_of_getElem? (i := 3) rfl)) (hw _ (List.mem_of_getElem? (i := 2) rfl)) (by decide) (by decide)) (g := (mkF m 5 #[.val (.int u), .val (.int (0 : Int32)), .unset, .unset] [(.int (0 : Int32))])) rfl (by rw [hml]; rfl) (argsL := [(.int (0 : Int32))]) (rest := []) (lenOf pd_0 rfl) rfl (by show 2 * 0 + _ ≤ _; exact Nat.le_of_eq rfl) (hb hby at_5) (fun _ _ => ⟨rfl, e0, (by decide : 0 + 0 ≤ _), (by decide : 0 + 0 ≤ _)⟩)
    dsimp only [Pt.U, Pt.locs, Pt.cells, Pt.slots] at X2 l2 y2 z2 st2 hQ2
    subst l2 y2 z2
    obtain ⟨rfl, N2q, e2⟩ := hQ2
    have N2 := Fr.app N0 N2q
    refine own_by (T' := T2) (g' := (mkF m 8 #[.val (.int u), .val (.int (0 : Int32)), .unset, .unset] [(.ref a_A_START)])) (fun _ k => st2 _ k) ?_
    refine own_by (T' := T2) (g' := (mkF m 9 #[.val (.int u), .val (.int (0 : Int32)), .val (.ref a_A_START), .unset] [])) (fun _ k => XS.astoreN X2.here hx rfl (hb hby at_8) rfl rfl (l' := #[.val (.int u), .val (.int (0 : Int32)), .val (.ref a_A_START), .unset]) rfl k) ?_
    refine own_by (T' := T2) (g' := (mkF m 10 #[.val (.int u), .val (.int (0 : Int32)), .val (.ref a_A_START), .unset] [(.int (0 : Int32))])) (fun _ k => XS.iloadN X2.here hx rfl (hb hby at_9) rfl k) ?_
    refine own_by (T' := T2) (g' := (mkF m 18 #[.val (.int u), .val (.int (0 : Int32)), .val (.ref a_A_START), .unset] [])) (fun _ k => XS.ifYes X2.here hx rfl (pc0 := 10) (pc' := 18) rfl (hb hby at_10) rfl ((if0 _ _).trans (teq (by decide)).1) (by decide) (by decide) k) ?_
    refine own_by (T' := T2) (g' := (mkF m 19 #[.val (.int u), .val (.int (0 : Int32)), .val (.ref a_A_START), .unset] [(.int (1 : Int32))])) (fun _ k => XS.iconst X2.here hx rfl (hb hby at_18) k) ?_
    refine own_by (T' := T2) (g' := (mkF m 23 #[.val (.int u), .val (.int (0 : Int32)), .val (.ref a_A_START), .unset] [(.int (1 : Int32))])) (fun _ k => XS.goto X2.here hx rfl (pc0 := 19) (pc' := 23) rfl (hb hby at_19) (by decide) (by decide) k) ?_
    refine own_by (T' := T2) (g' := (mkF m 24 #[.val (.int u), .val (.int (0 : Int32)), .val (.ref a_A_START), .val (.int (1 : Int32))] [])) (fun _ k => XS.istoreN X2.here hx rfl (hb hby at_23) rfl (l' := #[.val (.int u), .val (.int (0 : Int32)), .val (.ref a_A_START), .val (.int (1 : Int32))]) rfl k) ?_
    refine own_by (T' := T2) (g' := (mkF m 25 #[.val (.int u), .val (.int (0 : Int32)), .val (.ref a_A_START), .val (.int (1 : Int32))] [(.ref a_A_START)])) (fun _ k => XS.aloadN X2.here hx rfl (hb hby at_24) rfl rfl k) ?_
    obtain ⟨cq3, kq3, q3a, q3b, q3c⟩ := isOf hZ e2 E_A_START
    obtain ⟨_, _, ⟨T3, L3, k3, n3⟩, -, X3, ⟨Lc3, hQ3, l3, y3, z3⟩, st3⟩ := X2.virtualBack hx (y := (⟨"com/example/temporalis/temporalis/Operator$Endpoint", "ofA", "()Z"⟩ : MethodName)) (z := (⟨"com/example/temporalis/temporalis/Operator$Endpoint", "ofA", "()Z"⟩ : MethodName)) hown (mvT hZ (hw _ (List.mem_of_getElem? (i := 7) rfl))) (mvT hZ (hw _ (List.mem_of_getElem? (i := 8) rfl))) (notFace_of_selects (args := #[]) (mvT hZ (hw _ (List.mem_of_getElem? (i := 10) rfl)))) (mvT hZ (hw _ (List.mem_of_getElem? (i := 10) rfl))) (mvT hZ (hw _ (List.mem_of_getElem? (i := 9) rfl))) (by decide) (backOf (W := 0) (rm2 l Z a0 hw [] a_A_START a_A_START a_A_END h0 n0 Z0 S_A_START S_A_END) hZ (hw _ (List.mem_of_getElem? (i := 11) rfl)) (hw _ (List.mem_of_getElem? (i := 5) rfl)) (by decide) (by decide)) q3a q3c (g := (mkF m 25 #[.val (.int u), .val (.int (0 : Int32)), .val (.ref a_A_START), .val (.int (1 : Int32))] [(.ref a_A_START)])) rfl (by rw [hml]; rfl) (Steps.refl _) (argsL := []) (rest := []) (lenOf pd_1 rfl) rfl (by show 2 * 0 + _ ≤ _; exact Nat.le_of_eq rfl) (hb hby at_25) (fun _ _ => ⟨rfl, e2, (by decide : (0 + 0) + 0 ≤ _), (by decide : (0 + 0) + 0 ≤ _)⟩)
    dsimp only [Pt.U, Pt.locs, Pt.cells, Pt.slots] at X3 l3 y3 z3 st3 hQ3
    subst l3 y3 z3
    obtain ⟨rfl, N3q, e3⟩ := hQ3
    have N3 := Fr.app N2 N3q
    refine own_by (T' := T3) (g' := (mkF m 28 #[.val (.int u), .val (.int (0 : Int32)), .val (.ref a_A_START), .val (.int (1 : Int32))] [(.int (if a_A_START = a_A_START then (1 : Int32) else if a_A_START = a_A_END then (1 : Int32) else (0 : Int32)))])) (fun _ k => st3.trans k) ?_
    refine own_by (T' := T3) (g' := (mkF m 29 #[.val (.int u), .val (.int (0 : Int32)), .val (.ref a_A_START), .val (.int (1 : Int32))] [(.int (1 : Int32)), (.int (if a_A_START = a_A_START then (1 : Int32) else if a_A_START = a_A_END then (1 : Int32) else (0 : Int32)))])) (fun _ k => XS.iloadN X3.here hx rfl (hb hby at_28) rfl k) ?_
    refine own_by (T' := T3) (g' := (mkF m 32 #[.val (.int u), .val (.int (0 : Int32)), .val (.ref a_A_START), .val (.int (1 : Int32))] [])) (fun _ k => XS.icmpNo X3.here hx rfl (hb hby at_29) rfl (teq (if_pos rfl)).2 k) ?_
    refine own_by (T' := T3) (g' := (mkF m 33 #[.val (.int u), .val (.int (0 : Int32)), .val (.ref a_A_START), .val (.int (1 : Int32))] [(.int (1 : Int32))])) (fun _ k => XS.iconst X3.here hx rfl (hb hby at_32) k) ?_
    refine own_by (T' := T3) (g' := (mkF m 37 #[.val (.int u), .val (.int (0 : Int32)), .val (.ref a_A_START), .val (.int (1 : Int32))] [(.int (1 : Int32))])) (fun _ k => XS.goto X3.here hx rfl (pc0 := 33) (pc' := 37) rfl (hb hby at_33) (by decide) (by decide) k) ?_
    refine own_ret X3 hlk (v := some (.int (1 : Int32))) (fun h => by rw [Bd.returns] at h; cases h) (fun fs hr => retN X3 hx (t := .boolean) Bd.returns (by simp) (hb hby at_37) hr) ?_ (by decide) (by decide)
    rw [e3]
    exact ⟨rfl, N3⟩
  · skip
    rw [hq1]
    refine own_by (T' := s₁) (g' := (mkF m 5 #[.val (.int u), .val (.int (1 : Int32)), .unset, .unset] [(.int (1 : Int32))])) (fun _ k => XS.iloadN X0.here hx rfl (hb hby at_4) rfl k) ?_
    obtain ⟨_, _, ⟨T4, L4, k4, n4⟩, -, X4, ⟨Lc4, hQ4, l4, y4, z4⟩, st4⟩ := Jvm.LawKit.callS X0 hx (y := (⟨"com/example/temporalis/temporalis/EndpointOfAPinLaw", "pick", "(I)Lcom/example/temporalis/temporalis/Operator$Endpoint;"⟩ : MethodName)) hown (mvT hZ (hw _ (List.mem_of_getElem? (i := 0) rfl))) (mvT hZ (hw _ (List.mem_of_getElem? (i := 1) rfl))) (mvT hZ (hw _ (List.mem_of_getElem? (i := 2) rfl))) (mvT hZ (hw _ (List.mem_of_getElem? (i := 3) rfl))) (by decide) (backOf (W := 0) (rm1 l Z a0 hw [] (1 : Int32) a_A_START a_A_END a_B_START a_B_END h0 n0 Z0 S_A_START S_A_END S_B_START S_B_END) hZ (hw _ (List.mem_of_getElem? (i := 3) rfl)) (hw _ (List.mem_of_getElem? (i := 2) rfl)) (by decide) (by decide)) (g := (mkF m 5 #[.val (.int u), .val (.int (1 : Int32)), .unset, .unset] [(.int (1 : Int32))])) rfl (by rw [hml]; rfl) (argsL := [(.int (1 : Int32))]) (rest := []) (lenOf pd_0 rfl) rfl (by show 2 * 0 + _ ≤ _; exact Nat.le_of_eq rfl) (hb hby at_5) (fun _ _ => ⟨rfl, e0, (by decide : 0 + 0 ≤ _), (by decide : 0 + 0 ≤ _)⟩)
    dsimp only [Pt.U, Pt.locs, Pt.cells, Pt.slots] at X4 l4 y4 z4 st4 hQ4
    subst l4 y4 z4
    obtain ⟨rfl, N4q, e4⟩ := hQ4
    have N4 := Fr.app N0 N4q
    refine own_by (T' := T4) (g' := (mkF m 8 #[.val (.int u), .val (.int (1 : Int32)), .unset, .unset] [(.ref a_A_END)])) (fun _ k => st4 _ k) ?_
    refine own_by (T' := T4) (g' := (mkF m 9 #[.val (.int u), .val (.int (1 : Int32)), .val (.ref a_A_END), .unset] [])) (fun _ k => XS.astoreN X4.here hx rfl (hb hby at_8) rfl rfl (l' := #[.val (.int u), .val (.int (1 : Int32)), .val (.ref a_A_END), .unset]) rfl k) ?_
    refine own_by (T' := T4) (g' := (mkF m 10 #[.val (.int u), .val (.int (1 : Int32)), .val (.ref a_A_END), .unset] [(.int (1 : Int32))])) (fun _ k => XS.iloadN X4.here hx rfl (hb hby at_9) rfl k) ?_
    refine own_by (T' := T4) (g' := (mkF m 13 #[.val (.int u), .val (.int (1 : Int32)), .val (.ref a_A_END), .unset] [])) (fun _ k => XS.ifNo X4.here hx rfl (hb hby at_10) rfl ((if0 _ _).trans (feq (by decide)).1) k) ?_
    refine own_by (T' := T4) (g' := (mkF m 14 #[.val (.int u), .val (.int (1 : Int32)), .val (.ref a_A_END), .unset] [(.int (1 : Int32))])) (fun _ k => XS.iloadN X4.here hx rfl (hb hby at_13) rfl k) ?_
    refine own_by (T' := T4) (g' := (mkF m 15 #[.val (.int u), .val (.int (1 : Int32)), .val (.ref a_A_END), .unset] [(.int (1 : Int32)), (.int (1 : Int32))])) (fun _ k => XS.iconst X4.here hx rfl (hb hby at_14) k) ?_
    refine own_by (T' := T4) (g' := (mkF m 18 #[.val (.int u), .val (.int (1 : Int32)), .val (.ref a_A_END), .unset] [])) (fun _ k => XS.icmpNo X4.here hx rfl (hb hby at_15) rfl (teq (by decide)).2 k) ?_
    refine own_by (T' := T4) (g' := (mkF m 19 #[.val (.int u), .val (.int (1 : Int32)), .val (.ref a_A_END), .unset] [(.int (1 : Int32))])) (fun _ k => XS.iconst X4.here hx rfl (hb hby at_18) k) ?_
    refine own_by (T' := T4) (g' := (mkF m 23 #[.val (.int u), .val (.int (1 : Int32)), .val (.ref a_A_END), .unset] [(.int (1 : Int32))])) (fun _ k => XS.goto X4.here hx rfl (pc0 := 19) (pc' := 23) rfl (hb hby at_19) (by decide) (by decide) k) ?_
    refine own_by (T' := T4) (g' := (mkF m 24 #[.val (.int u), .val (.int (1 : Int32)), .val (.ref a_A_END), .val (.int (1 : Int32))] [])) (fun _ k => XS.istoreN X4.here hx rfl (hb hby at_23) rfl (l' := #[.val (.int u), .val (.int (1 : Int32)), .val (.ref a_A_END), .val (.int (1 : Int32))]) rfl k) ?_
    refine own_by (T' := T4) (g' := (mkF m 25 #[.val (.int u), .val (.int (1 : Int32)), .val (.ref a_A_END), .val (.int (1 : Int32))] [(.ref a_A_END)])) (fun _ k => XS.aloadN X4.here hx rfl (hb hby at_24) rfl rfl k) ?_
    obtain ⟨cq5, kq5, q5a, q5b, q5c⟩ := isOf hZ e4 E_A_END
    obtain ⟨_, _, ⟨T5, L5, k5, n5⟩, -, X5, ⟨Lc5, hQ5, l5, y5, z5⟩, st5⟩ := X4.virtualBack hx (y := (⟨"com/example/temporalis/temporalis/Operator$Endpoint", "ofA", "()Z"⟩ : MethodName)) (z := (⟨"com/example/temporalis/temporalis/Operator$Endpoint", "ofA", "()Z"⟩ : MethodName)) hown (mvT hZ (hw _ (List.mem_of_getElem? (i := 7) rfl))) (mvT hZ (hw _ (List.mem_of_getElem? (i := 8) rfl))) (notFace_of_selects (args := #[]) (mvT hZ (hw _ (List.mem_of_getElem? (i := 10) rfl)))) (mvT hZ (hw _ (List.mem_of_getElem? (i := 10) rfl))) (mvT hZ (hw _ (List.mem_of_getElem? (i := 9) rfl))) (by decide) (backOf (W := 0) (rm2 l Z a0 hw [] a_A_END a_A_START a_A_END h0 n0 Z0 S_A_START S_A_END) hZ (hw _ (List.mem_of_getElem? (i := 11) rfl)) (hw _ (List.mem_of_getElem? (i := 5) rfl)) (by decide) (by decide)) q5a q5c (g := (mkF m 25 #[.val (.int u), .val (.int (1 : Int32)), .val (.ref a_A_END), .val (.int (1 : Int32))] [(.ref a_A_END)])) rfl (by rw [hml]; rfl) (Steps.refl _) (argsL := []) (rest := []) (lenOf pd_1 rfl) rfl (by show 2 * 0 + _ ≤ _; exact Nat.le_of_eq rfl) (hb hby at_25) (fun _ _ => ⟨rfl, e4, (by decide : (0 + 0) + 0 ≤ _), (by decide : (0 + 0) + 0 ≤ _)⟩)
    dsimp only [Pt.U, Pt.locs, Pt.cells, Pt.slots] at X5 l5 y5 z5 st5 hQ5
    subst l5 y5 z5
    obtain ⟨rfl, N5q, e5⟩ := hQ5
    have N5 := Fr.app N4 N5q
    refine own_by (T' := T5) (g' := (mkF m 28 #[.val (.int u), .val (.int (1 : Int32)), .val (.ref a_A_END), .val (.int (1 : Int32))] [(.int (if a_A_END = a_A_START then (1 : Int32) else if a_A_END = a_A_END then (1 : Int32) else (0 : Int32)))])) (fun _ k => st5.trans k) ?_
    refine own_by (T' := T5) (g' := (mkF m 29 #[.val (.int u), .val (.int (1 : Int32)), .val (.ref a_A_END), .val (.int (1 : Int32))] [(.int (1 : Int32)), (.int (if a_A_END = a_A_START then (1 : Int32) else if a_A_END = a_A_END then (1 : Int32) else (0 : Int32)))])) (fun _ k => XS.iloadN X5.here hx rfl (hb hby at_28) rfl k) ?_
    refine own_by (T' := T5) (g' := (mkF m 32 #[.val (.int u), .val (.int (1 : Int32)), .val (.ref a_A_END), .val (.int (1 : Int32))] [])) (fun _ k => XS.icmpNo X5.here hx rfl (hb hby at_29) rfl (teq ((if_neg ne_AE_AS).trans (if_pos rfl))).2 k) ?_
    refine own_by (T' := T5) (g' := (mkF m 33 #[.val (.int u), .val (.int (1 : Int32)), .val (.ref a_A_END), .val (.int (1 : Int32))] [(.int (1 : Int32))])) (fun _ k => XS.iconst X5.here hx rfl (hb hby at_32) k) ?_
    refine own_by (T' := T5) (g' := (mkF m 37 #[.val (.int u), .val (.int (1 : Int32)), .val (.ref a_A_END), .val (.int (1 : Int32))] [(.int (1 : Int32))])) (fun _ k => XS.goto X5.here hx rfl (pc0 := 33) (pc' := 37) rfl (hb hby at_33) (by decide) (by decide) k) ?_
    refine own_ret X5 hlk (v := some (.int (1 : Int32))) (fun h => by rw [Bd.returns] at h; cases h) (fun fs hr => retN X5 hx (t := .boolean) Bd.returns (by simp) (hb hby at_37) hr) ?_ (by decide) (by decide)
    rw [e5]
    exact ⟨rfl, N5⟩
  · skip
    rw [hq1]
    refine own_by (T' := s₁) (g' := (mkF m 5 #[.val (.int u), .val (.int (2 : Int32)), .unset, .unset] [(.int (2 : Int32))])) (fun _ k => XS.iloadN X0.here hx rfl (hb hby at_4) rfl k) ?_
    obtain ⟨_, _, ⟨T6, L6, k6, n6⟩, -, X6, ⟨Lc6, hQ6, l6, y6, z6⟩, st6⟩ := Jvm.LawKit.callS X0 hx (y := (⟨"com/example/temporalis/temporalis/EndpointOfAPinLaw", "pick", "(I)Lcom/example/temporalis/temporalis/Operator$Endpoint;"⟩ : MethodName)) hown (mvT hZ (hw _ (List.mem_of_getElem? (i := 0) rfl))) (mvT hZ (hw _ (List.mem_of_getElem? (i := 1) rfl))) (mvT hZ (hw _ (List.mem_of_getElem? (i := 2) rfl))) (mvT hZ (hw _ (List.mem_of_getElem? (i := 3) rfl))) (by decide) (backOf (W := 0) (rm1 l Z a0 hw [] (2 : Int32) a_A_START a_A_END a_B_START a_B_END h0 n0 Z0 S_A_START S_A_END S_B_START S_B_END) hZ (hw _ (List.mem_of_getElem? (i := 3) rfl)) (hw _ (List.mem_of_getElem? (i := 2) rfl)) (by decide) (by decide)) (g := (mkF m 5 #[.val (.int u), .val (.int (2 : Int32)), .unset, .unset] [(.int (2 : Int32))])) rfl (by rw [hml]; rfl) (argsL := [(.int (2 : Int32))]) (rest := []) (lenOf pd_0 rfl) rfl (by show 2 * 0 + _ ≤ _; exact Nat.le_of_eq rfl) (hb hby at_5) (fun _ _ => ⟨rfl, e0, (by decide : 0 + 0 ≤ _), (by decide : 0 + 0 ≤ _)⟩)
    dsimp only [Pt.U, Pt.locs, Pt.cells, Pt.slots] at X6 l6 y6 z6 st6 hQ6
    subst l6 y6 z6
    obtain ⟨rfl, N6q, e6⟩ := hQ6
    have N6 := Fr.app N0 N6q
    refine own_by (T' := T6) (g' := (mkF m 8 #[.val (.int u), .val (.int (2 : Int32)), .unset, .unset] [(.ref a_B_START)])) (fun _ k => st6 _ k) ?_
    refine own_by (T' := T6) (g' := (mkF m 9 #[.val (.int u), .val (.int (2 : Int32)), .val (.ref a_B_START), .unset] [])) (fun _ k => XS.astoreN X6.here hx rfl (hb hby at_8) rfl rfl (l' := #[.val (.int u), .val (.int (2 : Int32)), .val (.ref a_B_START), .unset]) rfl k) ?_
    refine own_by (T' := T6) (g' := (mkF m 10 #[.val (.int u), .val (.int (2 : Int32)), .val (.ref a_B_START), .unset] [(.int (2 : Int32))])) (fun _ k => XS.iloadN X6.here hx rfl (hb hby at_9) rfl k) ?_
    refine own_by (T' := T6) (g' := (mkF m 13 #[.val (.int u), .val (.int (2 : Int32)), .val (.ref a_B_START), .unset] [])) (fun _ k => XS.ifNo X6.here hx rfl (hb hby at_10) rfl ((if0 _ _).trans (feq (by decide)).1) k) ?_
    refine own_by (T' := T6) (g' := (mkF m 14 #[.val (.int u), .val (.int (2 : Int32)), .val (.ref a_B_START), .unset] [(.int (2 : Int32))])) (fun _ k => XS.iloadN X6.here hx rfl (hb hby at_13) rfl k) ?_
    refine own_by (T' := T6) (g' := (mkF m 15 #[.val (.int u), .val (.int (2 : Int32)), .val (.ref a_B_START), .unset] [(.int (1 : Int32)), (.int (2 : Int32))])) (fun _ k => XS.iconst X6.here hx rfl (hb hby at_14) k) ?_
    refine own_by (T' := T6) (g' := (mkF m 22 #[.val (.int u), .val (.int (2 : Int32)), .val (.ref a_B_START), .unset] [])) (fun _ k => XS.icmpYes X6.here hx rfl (pc0 := 15) (pc' := 22) rfl (hb hby at_15) rfl (feq (by decide)).2 (by decide) (by decide) k) ?_
    refine own_by (T' := T6) (g' := (mkF m 23 #[.val (.int u), .val (.int (2 : Int32)), .val (.ref a_B_START), .unset] [(.int (0 : Int32))])) (fun _ k => XS.iconst X6.here hx rfl (hb hby at_22) k) ?_
    refine own_by (T' := T6) (g' := (mkF m 24 #[.val (.int u), .val (.int (2 : Int32)), .val (.ref a_B_START), .val (.int (0 : Int32))] [])) (fun _ k => XS.istoreN X6.here hx rfl (hb hby at_23) rfl (l' := #[.val (.int u), .val (.int (2 : Int32)), .val (.ref a_B_START), .val (.int (0 : Int32))]) rfl k) ?_
    refine own_by (T' := T6) (g' := (mkF m 25 #[.val (.int u), .val (.int (2 : Int32)), .val (.ref a_B_START), .val (.int (0 : Int32))] [(.ref a_B_START)])) (fun _ k => XS.aloadN X6.here hx rfl (hb hby at_24) rfl rfl k) ?_
    obtain ⟨cq7, kq7, q7a, q7b, q7c⟩ := isOf hZ e6 E_B_START
    obtain ⟨_, _, ⟨T7, L7, k7, n7⟩, -, X7, ⟨Lc7, hQ7, l7, y7, z7⟩, st7⟩ := X6.virtualBack hx (y := (⟨"com/example/temporalis/temporalis/Operator$Endpoint", "ofA", "()Z"⟩ : MethodName)) (z := (⟨"com/example/temporalis/temporalis/Operator$Endpoint", "ofA", "()Z"⟩ : MethodName)) hown (mvT hZ (hw _ (List.mem_of_getElem? (i := 7) rfl))) (mvT hZ (hw _ (List.mem_of_getElem? (i := 8) rfl))) (notFace_of_selects (args := #[]) (mvT hZ (hw _ (List.mem_of_getElem? (i := 10) rfl)))) (mvT hZ (hw _ (List.mem_of_getElem? (i := 10) rfl))) (mvT hZ (hw _ (List.mem_of_getElem? (i := 9) rfl))) (by decide) (backOf (W := 0) (rm2 l Z a0 hw [] a_B_START a_A_START a_A_END h0 n0 Z0 S_A_START S_A_END) hZ (hw _ (List.mem_of_getElem? (i := 11) rfl)) (hw _ (List.mem_of_getElem? (i := 5) rfl)) (by decide) (by decide)) q7a q7c (g := (mkF m 25 #[.val (.int u), .val (.int (2 : Int32)), .val (.ref a_B_START), .val (.int (0 : Int32))] [(.ref a_B_START)])) rfl (by rw [hml]; rfl) (Steps.refl _) (argsL := []) (rest := []) (lenOf pd_1 rfl) rfl (by show 2 * 0 + _ ≤ _; exact Nat.le_of_eq rfl) (hb hby at_25) (fun _ _ => ⟨rfl, e6, (by decide : (0 + 0) + 0 ≤ _), (by decide : (0 + 0) + 0 ≤ _)⟩)
    dsimp only [Pt.U, Pt.locs, Pt.cells, Pt.slots] at X7 l7 y7 z7 st7 hQ7
    subst l7 y7 z7
    obtain ⟨rfl, N7q, e7⟩ := hQ7
    have N7 := Fr.app N6 N7q
    refine own_by (T' := T7) (g' := (mkF m 28 #[.val (.int u), .val (.int (2 : Int32)), .val (.ref a_B_START), .val (.int (0 : Int32))] [(.int (if a_B_START = a_A_START then (1 : Int32) else if a_B_START = a_A_END then (1 : Int32) else (0 : Int32)))])) (fun _ k => st7.trans k) ?_
    refine own_by (T' := T7) (g' := (mkF m 29 #[.val (.int u), .val (.int (2 : Int32)), .val (.ref a_B_START), .val (.int (0 : Int32))] [(.int (0 : Int32)), (.int (if a_B_START = a_A_START then (1 : Int32) else if a_B_START = a_A_END then (1 : Int32) else (0 : Int32)))])) (fun _ k => XS.iloadN X7.here hx rfl (hb hby at_28) rfl k) ?_
    refine own_by (T' := T7) (g' := (mkF m 32 #[.val (.int u), .val (.int (2 : Int32)), .val (.ref a_B_START), .val (.int (0 : Int32))] [])) (fun _ k => XS.icmpNo X7.here hx rfl (hb hby at_29) rfl (teq ((if_neg ne_BS_AS).trans (if_neg ne_BS_AE))).2 k) ?_
    refine own_by (T' := T7) (g' := (mkF m 33 #[.val (.int u), .val (.int (2 : Int32)), .val (.ref a_B_START), .val (.int (0 : Int32))] [(.int (1 : Int32))])) (fun _ k => XS.iconst X7.here hx rfl (hb hby at_32) k) ?_
    refine own_by (T' := T7) (g' := (mkF m 37 #[.val (.int u), .val (.int (2 : Int32)), .val (.ref a_B_START), .val (.int (0 : Int32))] [(.int (1 : Int32))])) (fun _ k => XS.goto X7.here hx rfl (pc0 := 33) (pc' := 37) rfl (hb hby at_33) (by decide) (by decide) k) ?_
    refine own_ret X7 hlk (v := some (.int (1 : Int32))) (fun h => by rw [Bd.returns] at h; cases h) (fun fs hr => retN X7 hx (t := .boolean) Bd.returns (by simp) (hb hby at_37) hr) ?_ (by decide) (by decide)
    rw [e7]
    exact ⟨rfl, N7⟩
  · skip
    rw [hq1]
    refine own_by (T' := s₁) (g' := (mkF m 5 #[.val (.int u), .val (.int (3 : Int32)), .unset, .unset] [(.int (3 : Int32))])) (fun _ k => XS.iloadN X0.here hx rfl (hb hby at_4) rfl k) ?_
    obtain ⟨_, _, ⟨T8, L8, k8, n8⟩, -, X8, ⟨Lc8, hQ8, l8, y8, z8⟩, st8⟩ := Jvm.LawKit.callS X0 hx (y := (⟨"com/example/temporalis/temporalis/EndpointOfAPinLaw", "pick", "(I)Lcom/example/temporalis/temporalis/Operator$Endpoint;"⟩ : MethodName)) hown (mvT hZ (hw _ (List.mem_of_getElem? (i := 0) rfl))) (mvT hZ (hw _ (List.mem_of_getElem? (i := 1) rfl))) (mvT hZ (hw _ (List.mem_of_getElem? (i := 2) rfl))) (mvT hZ (hw _ (List.mem_of_getElem? (i := 3) rfl))) (by decide) (backOf (W := 0) (rm1 l Z a0 hw [] (3 : Int32) a_A_START a_A_END a_B_START a_B_END h0 n0 Z0 S_A_START S_A_END S_B_START S_B_END) hZ (hw _ (List.mem_of_getElem? (i := 3) rfl)) (hw _ (List.mem_of_getElem? (i := 2) rfl)) (by decide) (by decide)) (g := (mkF m 5 #[.val (.int u), .val (.int (3 : Int32)), .unset, .unset] [(.int (3 : Int32))])) rfl (by rw [hml]; rfl) (argsL := [(.int (3 : Int32))]) (rest := []) (lenOf pd_0 rfl) rfl (by show 2 * 0 + _ ≤ _; exact Nat.le_of_eq rfl) (hb hby at_5) (fun _ _ => ⟨rfl, e0, (by decide : 0 + 0 ≤ _), (by decide : 0 + 0 ≤ _)⟩)
    dsimp only [Pt.U, Pt.locs, Pt.cells, Pt.slots] at X8 l8 y8 z8 st8 hQ8
    subst l8 y8 z8
    obtain ⟨rfl, N8q, e8⟩ := hQ8
    have N8 := Fr.app N0 N8q
    refine own_by (T' := T8) (g' := (mkF m 8 #[.val (.int u), .val (.int (3 : Int32)), .unset, .unset] [(.ref a_B_END)])) (fun _ k => st8 _ k) ?_
    refine own_by (T' := T8) (g' := (mkF m 9 #[.val (.int u), .val (.int (3 : Int32)), .val (.ref a_B_END), .unset] [])) (fun _ k => XS.astoreN X8.here hx rfl (hb hby at_8) rfl rfl (l' := #[.val (.int u), .val (.int (3 : Int32)), .val (.ref a_B_END), .unset]) rfl k) ?_
    refine own_by (T' := T8) (g' := (mkF m 10 #[.val (.int u), .val (.int (3 : Int32)), .val (.ref a_B_END), .unset] [(.int (3 : Int32))])) (fun _ k => XS.iloadN X8.here hx rfl (hb hby at_9) rfl k) ?_
    refine own_by (T' := T8) (g' := (mkF m 13 #[.val (.int u), .val (.int (3 : Int32)), .val (.ref a_B_END), .unset] [])) (fun _ k => XS.ifNo X8.here hx rfl (hb hby at_10) rfl ((if0 _ _).trans (feq (by decide)).1) k) ?_
    refine own_by (T' := T8) (g' := (mkF m 14 #[.val (.int u), .val (.int (3 : Int32)), .val (.ref a_B_END), .unset] [(.int (3 : Int32))])) (fun _ k => XS.iloadN X8.here hx rfl (hb hby at_13) rfl k) ?_
    refine own_by (T' := T8) (g' := (mkF m 15 #[.val (.int u), .val (.int (3 : Int32)), .val (.ref a_B_END), .unset] [(.int (1 : Int32)), (.int (3 : Int32))])) (fun _ k => XS.iconst X8.here hx rfl (hb hby at_14) k) ?_
    refine own_by (T' := T8) (g' := (mkF m 22 #[.val (.int u), .val (.int (3 : Int32)), .val (.ref a_B_END), .unset] [])) (fun _ k => XS.icmpYes X8.here hx rfl (pc0 := 15) (pc' := 22) rfl (hb hby at_15) rfl (feq (by decide)).2 (by decide) (by decide) k) ?_
    refine own_by (T' := T8) (g' := (mkF m 23 #[.val (.int u), .val (.int (3 : Int32)), .val (.ref a_B_END), .unset] [(.int (0 : Int32))])) (fun _ k => XS.iconst X8.here hx rfl (hb hby at_22) k) ?_
    refine own_by (T' := T8) (g' := (mkF m 24 #[.val (.int u), .val (.int (3 : Int32)), .val (.ref a_B_END), .val (.int (0 : Int32))] [])) (fun _ k => XS.istoreN X8.here hx rfl (hb hby at_23) rfl (l' := #[.val (.int u), .val (.int (3 : Int32)), .val (.ref a_B_END), .val (.int (0 : Int32))]) rfl k) ?_
    refine own_by (T' := T8) (g' := (mkF m 25 #[.val (.int u), .val (.int (3 : Int32)), .val (.ref a_B_END), .val (.int (0 : Int32))] [(.ref a_B_END)])) (fun _ k => XS.aloadN X8.here hx rfl (hb hby at_24) rfl rfl k) ?_
    obtain ⟨cq9, kq9, q9a, q9b, q9c⟩ := isOf hZ e8 E_B_END
    obtain ⟨_, _, ⟨T9, L9, k9, n9⟩, -, X9, ⟨Lc9, hQ9, l9, y9, z9⟩, st9⟩ := X8.virtualBack hx (y := (⟨"com/example/temporalis/temporalis/Operator$Endpoint", "ofA", "()Z"⟩ : MethodName)) (z := (⟨"com/example/temporalis/temporalis/Operator$Endpoint", "ofA", "()Z"⟩ : MethodName)) hown (mvT hZ (hw _ (List.mem_of_getElem? (i := 7) rfl))) (mvT hZ (hw _ (List.mem_of_getElem? (i := 8) rfl))) (notFace_of_selects (args := #[]) (mvT hZ (hw _ (List.mem_of_getElem? (i := 10) rfl)))) (mvT hZ (hw _ (List.mem_of_getElem? (i := 10) rfl))) (mvT hZ (hw _ (List.mem_of_getElem? (i := 9) rfl))) (by decide) (backOf (W := 0) (rm2 l Z a0 hw [] a_B_END a_A_START a_A_END h0 n0 Z0 S_A_START S_A_END) hZ (hw _ (List.mem_of_getElem? (i := 11) rfl)) (hw _ (List.mem_of_getElem? (i := 5) rfl)) (by decide) (by decide)) q9a q9c (g := (mkF m 25 #[.val (.int u), .val (.int (3 : Int32)), .val (.ref a_B_END), .val (.int (0 : Int32))] [(.ref a_B_END)])) rfl (by rw [hml]; rfl) (Steps.refl _) (argsL := []) (rest := []) (lenOf pd_1 rfl) rfl (by show 2 * 0 + _ ≤ _; exact Nat.le_of_eq rfl) (hb hby at_25) (fun _ _ => ⟨rfl, e8, (by decide : (0 + 0) + 0 ≤ _), (by decide : (0 + 0) + 0 ≤ _)⟩)
    dsimp only [Pt.U, Pt.locs, Pt.cells, Pt.slots] at X9 l9 y9 z9 st9 hQ9
    subst l9 y9 z9
    obtain ⟨rfl, N9q, e9⟩ := hQ9
    have N9 := Fr.app N8 N9q
    refine own_by (T' := T9) (g' := (mkF m 28 #[.val (.int u), .val (.int (3 : Int32)), .val (.ref a_B_END), .val (.int (0 : Int32))] [(.int (if a_B_END = a_A_START then (1 : Int32) else if a_B_END = a_A_END then (1 : Int32) else (0 : Int32)))])) (fun _ k => st9.trans k) ?_
    refine own_by (T' := T9) (g' := (mkF m 29 #[.val (.int u), .val (.int (3 : Int32)), .val (.ref a_B_END), .val (.int (0 : Int32))] [(.int (0 : Int32)), (.int (if a_B_END = a_A_START then (1 : Int32) else if a_B_END = a_A_END then (1 : Int32) else (0 : Int32)))])) (fun _ k => XS.iloadN X9.here hx rfl (hb hby at_28) rfl k) ?_
    refine own_by (T' := T9) (g' := (mkF m 32 #[.val (.int u), .val (.int (3 : Int32)), .val (.ref a_B_END), .val (.int (0 : Int32))] [])) (fun _ k => XS.icmpNo X9.here hx rfl (hb hby at_29) rfl (teq ((if_neg ne_BE_AS).trans (if_neg ne_BE_AE))).2 k) ?_
    refine own_by (T' := T9) (g' := (mkF m 33 #[.val (.int u), .val (.int (3 : Int32)), .val (.ref a_B_END), .val (.int (0 : Int32))] [(.int (1 : Int32))])) (fun _ k => XS.iconst X9.here hx rfl (hb hby at_32) k) ?_
    refine own_by (T' := T9) (g' := (mkF m 37 #[.val (.int u), .val (.int (3 : Int32)), .val (.ref a_B_END), .val (.int (0 : Int32))] [(.int (1 : Int32))])) (fun _ k => XS.goto X9.here hx rfl (pc0 := 33) (pc' := 37) rfl (hb hby at_33) (by decide) (by decide) k) ?_
    refine own_ret X9 hlk (v := some (.int (1 : Int32))) (fun h => by rw [Bd.returns] at h; cases h) (fun fs hr => retN X9 hx (t := .boolean) Bd.returns (by simp) (hb hby at_37) hr) ?_ (by decide) (by decide)
    rw [e9]
    exact ⟨rfl, N9⟩
set_option maxRecDepth 65536 in
set_option maxHeartbeats 40000000 in
theorem comes_1 {Post : Tables → Env → Array Value → State → Outcome → State → Prop} (hpost : ∀ tb e args s v u, (limb_1_1.after args s (.returned v) u = true ∧ limb_1_2.after args s (.returned v) u = true ∧ True) → FrameEnd s (.returned v) u (Jvm.fieldLocs frame_1_writes args s ++ Jvm.arrayLocs frame_1_arrays args s ++ Jvm.staticLocs frame_1_statics s) 0 0 → Post tb e args s (.returned v) u) :
    ArmFor flags0 classFile x code maxLocals ret World_1 tables_1 room_1 Calls_1 rest_1 Pre_1 Post := by
  intro l hfl _ _ p e ha hc hk s m args below hf hA hF happ hP
  obtain ⟨hcalls, hrest, hpre⟩ := hP
  obtain ⟨-, -, -, hnamed, -, -, -, hat⟩ := (Spec.applies_iff hf).mp happ
  obtain ⟨hg, hn⟩ := and_e (Cond.before_iff.mp (show (Jvm.Cond.and given_1 narrow_1).before args s = true from hpre))
  obtain ⟨g1, g2⟩ := and_e hg
  obtain ⟨w0, rfl⟩ : ∃ w0 : Value, args = #[w0] := by
    have hs : args.size = 1 := by simpa [Cond.value, given_1] using g1
    obtain ⟨L⟩ := args
    match L, hs with
    | [w0], _ => exact ⟨w0, rfl⟩
  have hw := fun d (hd : d ∈ tables_1) => atoms_spec (ws := Jvm.Cond.code x code maxLocals ret :: tables_1) hat d (List.mem_cons_of_mem _ hd)
  have hfit : Fit s := fun {y c} hc i hi => by
    obtain ⟨ha, rfl⟩ := Array.getElem?_eq_some_iff.mp hc
    have q := List.all_eq_true.mp ((Array.all_eq_true_iff_forall_mem.mp hF) _ (Array.getElem_mem ha)) i (List.mem_range.mpr hi)
    simpa [Array.getElem?_eq_getElem hi] using q
  obtain ⟨i0, ei0⟩ := is_v g2
  obtain rfl : w0 = (.int i0) := Option.some.inj ei0
  obtain ⟨n1, n2⟩ := and_e hn
  obtain ⟨n3, n4⟩ := and_e n2
  obtain ⟨n5, n6⟩ := and_e n4
  obtain ⟨n7, n8⟩ := and_e n6
  obtain ⟨n9, n10⟩ := and_e n8
  obtain ⟨n11, n12⟩ := and_e n10
  obtain ⟨n13, n14⟩ := and_e n12
  obtain ⟨a_A_START, ev_A_START⟩ := exa_v n1
  have E_A_START : Exa s s.heap a_A_START "com/example/temporalis/temporalis/Operator$Endpoint" := Exa.start ev_A_START n1
  have S_A_START : Sta s s.heap "com/example/temporalis/temporalis/Operator$Endpoint" "A_START" "Lcom/example/temporalis/temporalis/Operator$Endpoint;" (.ref a_A_START) := Sta.start ev_A_START (Or.inr ⟨(hw _ (List.mem_of_getElem? (i := 5) rfl)), (hw _ (List.mem_of_getElem? (i := 6) rfl))⟩)
  obtain ⟨a_B_END, ev_B_END⟩ := exa_v n3
  have E_B_END : Exa s s.heap a_B_END "com/example/temporalis/temporalis/Operator$Endpoint" := Exa.start ev_B_END n3
  have S_B_END : Sta s s.heap "com/example/temporalis/temporalis/Operator$Endpoint" "B_END" "Lcom/example/temporalis/temporalis/Operator$Endpoint;" (.ref a_B_END) := Sta.start ev_B_END (Or.inr ⟨(hw _ (List.mem_of_getElem? (i := 5) rfl)), (hw _ (List.mem_of_getElem? (i := 14) rfl))⟩)
  obtain ⟨a_A_END, ev_A_END⟩ := exa_v n9
  have E_A_END : Exa s s.heap a_A_END "com/example/temporalis/temporalis/Operator$Endpoint" := Exa.start ev_A_END n9
  have S_A_END : Sta s s.heap "com/example/temporalis/temporalis/Operator$Endpoint" "A_END" "Lcom/example/temporalis/temporalis/Operator$Endpoint;" (.ref a_A_END) := Sta.start ev_A_END (Or.inr ⟨(hw _ (List.mem_of_getElem? (i := 5) rfl)), (hw _ (List.mem_of_getElem? (i := 16) rfl))⟩)
  obtain ⟨a_B_START, ev_B_START⟩ := exa_v n13
  have E_B_START : Exa s s.heap a_B_START "com/example/temporalis/temporalis/Operator$Endpoint" := Exa.start ev_B_START n13
  have S_B_START : Sta s s.heap "com/example/temporalis/temporalis/Operator$Endpoint" "B_START" "Lcom/example/temporalis/temporalis/Operator$Endpoint;" (.ref a_B_START) := Sta.start ev_B_START (Or.inr ⟨(hw _ (List.mem_of_getElem? (i := 5) rfl)), (hw _ (List.mem_of_getElem? (i := 18) rfl))⟩)
  have F_B_END_ordinal : Fld s s.heap a_B_END "java/lang/Enum" "ordinal" "I" (.int (3 : Int32)) := own_fld ev_B_END n5
  have F_A_START_ordinal : Fld s s.heap a_A_START "java/lang/Enum" "ordinal" "I" (.int (0 : Int32)) := own_fld ev_A_START n7
  have F_A_END_ordinal : Fld s s.heap a_A_END "java/lang/Enum" "ordinal" "I" (.int (1 : Int32)) := own_fld ev_A_END n11
  have F_B_START_ordinal : Fld s s.heap a_B_START "java/lang/Enum" "ordinal" "I" (.int (2 : Int32)) := own_fld ev_B_START n14
  have ne_AE_AS : ¬ a_A_END = a_A_START := Fld.ne F_A_END_ordinal F_A_START_ordinal (own_vne (by decide))
  have ne_BS_AS : ¬ a_B_START = a_A_START := Fld.ne F_B_START_ordinal F_A_START_ordinal (own_vne (by decide))
  have ne_BS_AE : ¬ a_B_START = a_A_END := Fld.ne F_B_START_ordinal F_A_END_ordinal (own_vne (by decide))
  have ne_BE_AS : ¬ a_B_END = a_A_START := Fld.ne F_B_END_ordinal F_A_START_ordinal (own_vne (by decide))
  have ne_BE_AE : ¬ a_B_END = a_A_END := Fld.ne F_B_END_ordinal F_A_END_ordinal (own_vne (by decide))
  obtain ⟨n, o, h1, h2, h3, _, L, rfl, ⟨rfl, N⟩, hq⟩ := rm0 l s _ hw tables_1 i0 a_A_START a_A_END a_B_START a_B_END s.heap s.heap.size (Nat.le_refl _) S_A_START S_A_END S_B_START S_B_END E_A_START E_A_END E_B_START E_B_END ne_AE_AS ne_BS_AS ne_BS_AE ne_BE_AS ne_BE_AE p e ha hc hk s m _ below hf ((Spec.applies_iff_loose hf).mp happ).1 ⟨rfl, State.Warmed39.refl s, rfl⟩ trivial
  refine ⟨n, _, h1, h2, h3, hpost _ _ _ _ _ _ ⟨Cond.after_iff.mpr rfl, Cond.after_iff.mpr (eq_i res_at (Term.int_eval (1)) rfl), trivial⟩ ⟨hq.1, hq.2.1, (hq.2.2.sift fun y hy => Or.inr (N y hy)).mono (by decide) (by decide)⟩⟩
theorem main_1_1 : Claimed_1_1 := comes_1 fun _ _ _ _ _ _ h hF => ⟨h.1, hF⟩
theorem main_1_2 : Claimed_1_2 := comes_1 fun _ _ _ _ _ _ h hF => ⟨h.2.1, hF⟩
end Jvm.Pilot.@@N@@
namespace Jvm.Pilot.@@N@@
open Jvm Jvm.ClassFile Sem Op Lib Jvm.Free Jvm.Stand Jvm.Pilot.@@N@@.Jvm.D
/-! MADE BY PROGRAM (witnessworld.py) out of the Statement's table words and the real class files: 12 classes; the members and pool entries that the words name. The judged class is class 1, her method 2. -/
namespace start1
open Jvm.ClassFile
def u (s : String) : CpInfo := .utf8 (stringToUtf16 s)
/-- a pool by its gaps: so many unusable entries, then the entry; so many at the end -/
def gap : Nat → List CpInfo → List CpInfo
  | 0, r => r
  | n + 1, r => .unusable :: gap n r
def poolList (es : List (Nat × CpInfo)) (last : Nat) : List CpInfo := es.foldr (fun e r => gap e.1 (e.2 :: r)) (gap last [])
def pool (es : List (Nat × CpInfo)) (last : Nat) : Array CpInfo := ⟨poolList es last⟩
def fileOf (pool : Array CpInfo) (this : Nat) (attrs : Array Attribute := #[]) (ms : Array MethodInfo := #[]) (fl : Nat := 33) (sup : Nat := 0) (ifs : Array Nat := #[]) (fds : Array FieldInfo := #[]) : ClassFile where
  minorVersion := 0
  majorVersion := 65
  constantPool := pool
  accessFlags := fl
  thisClass := this
  superClass := sup
  interfaces := ifs
  fields := fds
  methods := ms
  attributes := attrs
def plain (name : String) (sup : Option ClassId) : Class where
  name := name
  kind := .ordinary
  loader := none
  accessFlags := 33
  super := sup
  interfaces := #[]
  cf := none
  fields := #[]
  methods := #[]
  instanceTypes := #[]
  staticTypes := #[]
  resolved := #[]
  callSites := []
  init := .initialized
  statics := none
  mirror := none

def pool0 : Array CpInfo := pool [(5, u "<init>"), (0, u "()V"), (1, .class_ 10), (1, u "java/lang/Object")] 113

def k0m0 : Method := { name := "<init>", desc := "()V", sig := { parameters := [], returnType := none }, accessFlags := 1, code := none }
/-- java/lang/Object -/
def k0 : Class := { plain "java/lang/Object" none with
  accessFlags := 33
  interfaces := #[]
  cf := some (fileOf pool0 8 #[] #[{ accessFlags := 1, nameIndex := 5, descriptorIndex := 6, attributes := #[] }] 33 0 #[] #[])
  fields := #[]
  methods := #[k0m0]
  instanceTypes := #[]
  staticTypes := #[]
  resolved := Array.replicate 124 none
  statics := none }

def pool1 : Array CpInfo := pool [(2, .class_ 4), (1, u "java/lang/Object"), (0, u "<init>"), (0, u "()V"), (0, .fieldref 8 9), (0, .class_ 10), (0, .nameAndType 11 12), (0, u "com/example/temporalis/temporalis/Operator$Endpoint"), (0, u "A_START"), (0, u "Lcom/example/temporalis/temporalis/Operator$Endpoint;"), (0, .fieldref 8 14), (0, .nameAndType 15 12), (0, u "A_END"), (0, .fieldref 8 17), (0, .nameAndType 18 12), (0, u "B_START"), (0, .fieldref 8 20), (0, .nameAndType 21 12), (0, u "B_END"), (0, .methodref 23 24), (0, .class_ 25), (0, .nameAndType 26 27), (0, u "com/example/temporalis/temporalis/EndpointOfAPinLaw"), (0, u "pick"), (0, u "(I)Lcom/example/temporalis/temporalis/Operator$Endpoint;"), (0, .methodref 8 29), (0, .nameAndType 30 31), (0, u "ofA"), (0, u "()Z"), (3, u "law"), (0, u "(I)Z")] 6

def k1m0 : Method := { name := "<init>", desc := "()V", sig := { parameters := [], returnType := none }, accessFlags := 2, code := none }
def k1c1 : Code := { maxStack := 2, maxLocals := 2, code := method_2_code, exceptionTable := #[], attributes := #[] }
def k1m1 : Method := { name := "pick", desc := "(I)Lcom/example/temporalis/temporalis/Operator$Endpoint;", sig := { parameters := [.int], returnType := some (.object "com/example/temporalis/temporalis/Operator$Endpoint") }, accessFlags := 10, code := some k1c1 }
def k1c2 : Code := { maxStack := 2, maxLocals := 4, code := code, exceptionTable := #[], attributes := #[] }
def k1m2 : Method := { name := "law", desc := "(I)Z", sig := { parameters := [.int], returnType := some .boolean }, accessFlags := 9, code := some k1c2 }
/-- com/example/temporalis/temporalis/EndpointOfAPinLaw -/
def k1 : Class := { plain "com/example/temporalis/temporalis/EndpointOfAPinLaw" (some 0) with
  accessFlags := 49
  interfaces := #[]
  cf := some (fileOf pool1 23 #[] #[{ accessFlags := 2, nameIndex := 5, descriptorIndex := 6, attributes := #[] }, { accessFlags := 10, nameIndex := 26, descriptorIndex := 27, attributes := #[] }, { accessFlags := 9, nameIndex := 35, descriptorIndex := 36, attributes := #[] }] 49 2 #[] #[])
  fields := #[]
  methods := #[k1m0, k1m1, k1m2]
  instanceTypes := #[]
  staticTypes := #[]
  resolved := Array.replicate 43 none
  statics := none }

def pool2 : Array CpInfo := pool [(1, .class_ 2), (0, u "java/lang/constant/Constable"), (0, .class_ 4), (0, u "java/lang/Object")] 6

/-- java/lang/constant/Constable -/
def k2 : Class := { plain "java/lang/constant/Constable" (some 0) with
  accessFlags := 1537
  interfaces := #[]
  cf := some (fileOf pool2 1 #[] #[] 1537 3 #[] #[])
  fields := #[]
  methods := #[]
  instanceTypes := #[]
  staticTypes := #[]
  resolved := Array.replicate 11 none
  statics := none }

def pool3 : Array CpInfo := pool [(1, .class_ 2), (0, u "java/lang/Comparable"), (0, .class_ 4), (0, u "java/lang/Object")] 7

/-- java/lang/Comparable -/
def k3 : Class := { plain "java/lang/Comparable" (some 0) with
  accessFlags := 1537
  interfaces := #[]
  cf := some (fileOf pool3 1 #[] #[] 1537 3 #[] #[])
  fields := #[]
  methods := #[]
  instanceTypes := #[]
  staticTypes := #[]
  resolved := Array.replicate 12 none
  statics := none }

def pool4 : Array CpInfo := pool [(1, .class_ 2), (0, u "java/io/Serializable"), (0, .class_ 4), (0, u "java/lang/Object")] 2

/-- java/io/Serializable -/
def k4 : Class := { plain "java/io/Serializable" (some 0) with
  accessFlags := 1537
  interfaces := #[]
  cf := some (fileOf pool4 1 #[] #[] 1537 3 #[] #[])
  fields := #[]
  methods := #[]
  instanceTypes := #[]
  staticTypes := #[]
  resolved := Array.replicate 7 none
  statics := none }

def pool5 : Array CpInfo := pool [(2, .class_ 4), (1, u "java/lang/Enum"), (0, u "name"), (0, u "Ljava/lang/String;"), (2, u "ordinal"), (0, u "I"), (1, .class_ 14), (1, u "java/lang/Object"), (4, u "hash"), (86, .class_ 108), (1, u "java/lang/Enum$EnumDesc"), (2, .class_ 112), (0, u "java/lang/constant/Constable"), (0, .class_ 114), (0, u "java/lang/Comparable"), (0, .class_ 116), (0, u "java/io/Serializable")] 87

/-- java/lang/Enum -/
def k5 : Class := { plain "java/lang/Enum" (some 0) with
  accessFlags := 1057
  interfaces := #[2, 3, 4]
  cf := some (fileOf pool5 2 #[.nestMembers #[106]] #[] 1057 12 #[111, 113, 115] #[{ accessFlags := 18, nameIndex := 5, descriptorIndex := 6, attributes := #[] }, { accessFlags := 18, nameIndex := 9, descriptorIndex := 10, attributes := #[] }, { accessFlags := 2, nameIndex := 19, descriptorIndex := 10, attributes := #[] }])
  fields := #[{ name := "name", type := (.object "java/lang/String"), accessFlags := 18, slot := 0, constantValue := 0 }, { name := "ordinal", type := .int, accessFlags := 18, slot := 1, constantValue := 0 }, { name := "hash", type := .int, accessFlags := 2, slot := 2, constantValue := 0 }]
  methods := #[]
  instanceTypes := #[(.object "java/lang/String"), .int, .int]
  staticTypes := #[]
  resolved := Array.replicate 204 none
  statics := none }

def pool6 : Array CpInfo := pool [(1, .class_ 2), (0, u "com/example/temporalis/temporalis/Operator$Endpoint"), (0, .fieldref 1 4), (0, .nameAndType 5 6), (0, u "A_START"), (0, u "Lcom/example/temporalis/temporalis/Operator$Endpoint;"), (0, .fieldref 1 8), (0, .nameAndType 9 6), (0, u "A_END"), (2, u "B_START"), (2, u "B_END"), (2, u "$VALUES"), (0, u "[Lcom/example/temporalis/temporalis/Operator$Endpoint;"), (6, .class_ 28), (1, u "java/lang/Enum"), (50, u "ofA"), (0, u "()Z"), (8, .class_ 90), (0, u "com/example/temporalis/temporalis/Operator")] 3

def k6c0 : Code := { maxStack := 2, maxLocals := 1, code := prog_54_method_5_code, exceptionTable := #[], attributes := #[] }
def k6m0 : Method := { name := "ofA", desc := "()Z", sig := { parameters := [], returnType := some .boolean }, accessFlags := 0, code := some k6c0 }
/-- com/example/temporalis/temporalis/Operator$Endpoint -/
def k6 : Class := { plain "com/example/temporalis/temporalis/Operator$Endpoint" (some 5) with
  accessFlags := 16432
  interfaces := #[]
  cf := some (fileOf pool6 1 #[.nestHost 89] #[{ accessFlags := 0, nameIndex := 79, descriptorIndex := 80, attributes := #[] }] 16432 26 #[] #[{ accessFlags := 16409, nameIndex := 5, descriptorIndex := 6, attributes := #[] }, { accessFlags := 16409, nameIndex := 9, descriptorIndex := 6, attributes := #[] }, { accessFlags := 16409, nameIndex := 12, descriptorIndex := 6, attributes := #[] }, { accessFlags := 16409, nameIndex := 15, descriptorIndex := 6, attributes := #[] }, { accessFlags := 4122, nameIndex := 18, descriptorIndex := 19, attributes := #[] }])
  fields := #[{ name := "A_START", type := (.object "com/example/temporalis/temporalis/Operator$Endpoint"), accessFlags := 16409, slot := 0, constantValue := 0 }, { name := "A_END", type := (.object "com/example/temporalis/temporalis/Operator$Endpoint"), accessFlags := 16409, slot := 1, constantValue := 0 }, { name := "B_START", type := (.object "com/example/temporalis/temporalis/Operator$Endpoint"), accessFlags := 16409, slot := 2, constantValue := 0 }, { name := "B_END", type := (.object "com/example/temporalis/temporalis/Operator$Endpoint"), accessFlags := 16409, slot := 3, constantValue := 0 }, { name := "$VALUES", type := (.array (.object "com/example/temporalis/temporalis/Operator$Endpoint")), accessFlags := 4122, slot := 4, constantValue := 0 }]
  methods := #[k6m0]
  instanceTypes := #[(.object "java/lang/String"), .int, .int]
  staticTypes := #[(.object "com/example/temporalis/temporalis/Operator$Endpoint"), (.object "com/example/temporalis/temporalis/Operator$Endpoint"), (.object "com/example/temporalis/temporalis/Operator$Endpoint"), (.object "com/example/temporalis/temporalis/Operator$Endpoint"), (.array (.object "com/example/temporalis/temporalis/Operator$Endpoint"))]
  resolved := Array.replicate 94 none
  statics := some 0 }

def pool7 : Array CpInfo := pool [(1, u "java/lang/Cloneable"), (0, .class_ 1), (0, u "java/lang/Object"), (0, .class_ 3)] 3

/-- java/lang/Cloneable -/
def k7 : Class := { plain "java/lang/Cloneable" (some 0) with
  accessFlags := 1537
  interfaces := #[]
  cf := some (fileOf pool7 2 #[] #[] 1537 4 #[] #[])
  fields := #[]
  methods := #[]
  instanceTypes := #[]
  staticTypes := #[]
  resolved := Array.replicate 8 none
  statics := none }

/-- the primitive byte -/
def k8 : Class := { plain "byte" none with kind := .primitive 'B', accessFlags := 0x411 }
/-- [B -/
def k9 : Class := { plain "[B" (some 0) with kind := .array 8 .byte, interfaces := #[7, 4], accessFlags := 1041 }

/-- the primitive int -/
def k10 : Class := { plain "int" none with kind := .primitive 'I', accessFlags := 0x411 }
/-- [I -/
def k11 : Class := { plain "[I" (some 0) with kind := .array 10 .int, interfaces := #[7, 4], accessFlags := 1041 }

def heap : Heap := #[{ cls := 6, slots := #[.ref 1, .ref 2, .ref 3, .ref 4, .null], vm := .statics 6 },
  { cls := 6, slots := #[.null, .int 0, .int 0], vm := .none },
  { cls := 6, slots := #[.null, .int 1, .int 0], vm := .none },
  { cls := 6, slots := #[.null, .int 2, .int 0], vm := .none },
  { cls := 6, slots := #[.null, .int 3, .int 0], vm := .none }]
def classes : Array Class := #[k0, k1, k2, k3, k4, k5, k6, k7, k8, k9, k10, k11]
def interned : List (Array UInt16 × Addr) := []
def slotsUsed : Nat := 17
def theMethod : MethodId := ⟨1, 2⟩
def args0 : Array Value := #[.int 5]
def aboutOver (below : List Frame) : State where
  vm := { classes := classes, interned := interned.toArray }
  heap := heap
  slotsUsed := slotsUsed
  threads := #[{ frames := .invoking theMethod args0 :: below }]
def below0 : List Frame := [.native { method := ⟨0, 0⟩, args := #[] }]
def about1 : State := aboutOver below0
def p0 : Program := .bare "" "" ""
def e0 : Env := launch0.env 0 0 0
theorem w_frames : about1.frames = Frame.invoking theMethod args0 :: below0 := rfl
set_option maxRecDepth 65536 in
theorem w_args : argsFit about1.vm theMethod args0 = true := by decide +kernel
set_option maxRecDepth 65536 in
theorem w_heap : heapFits about1 = true := by decide +kernel
set_option maxRecDepth 65536 in
theorem w_runnable : about1.curStatus? = some .runnable := by decide +kernel
set_option maxRecDepth 65536 in
theorem w_alone : about1.alone = true := by decide +kernel
set_option maxRecDepth 65536 in
theorem w_named : about1.methodNamed? x = some theMethod := by decide +kernel
set_option maxRecDepth 65536 in
theorem w_hears : about1.hears theMethod below0 = true := by decide +kernel
set_option maxRecDepth 65536 in
theorem w_ripe : about1.ripe theMethod args0 below0 = true := by decide +kernel
theorem w_running : about1.status = .running := rfl
set_option maxRecDepth 65536 in
theorem w_room : about1.hasRoom e0.platform room_1 = true :=
  launch0.hasRoom_least _ room_1 (by decide +kernel) (by decide +kernel) (by decide +kernel) (by decide +kernel) (by decide +kernel) (by decide +kernel)
theorem allAtoms_all (ts : List Jvm.Cond) (a : Array Jvm.Value) (st : Jvm.State) : (allAtoms ts).before a st = ts.all (fun c => c.before a st) := by
  induction ts with
  | nil => rfl
  | cons c t ih =>
    show (Jvm.Cond.and c (allAtoms t)).before a st = _
    rw [Jvm.Cond.before_and, ih, List.all_cons]
def words1 : List Jvm.Cond := Jvm.Cond.code x code maxLocals ret :: tables_1
/-- a 'code' word, met by the world's own term for the bytes: nothing is compared byte by byte -/
theorem code_word {y : MethodName} {bytes : ByteArray} {mx : Nat} {rt : Option FieldType} {a : Array Value} {s : State} {m : MethodId} {meth : Method} {c : Code} (h1 : s.methodNamed? y = some m) (h2 : s.vm.method? m = some meth) (h3 : meth.code = some c) (h4 : c.code = bytes)
    (h5 : (c.maxLocals == mx && c.exceptionTable.isEmpty && decide (c.maxStack ≤ mostOperands) && decide (meth.sig.returnType = rt) && !meth.locks && decide (parseMethodDescriptor y.desc = some meth.sig)) = true) : (Jvm.Cond.code y bytes mx rt).before a s = true := by
  simp only [Bool.and_eq_true, beq_iff_eq, Bool.not_eq_true', decide_eq_true_eq] at h5
  obtain ⟨⟨⟨⟨⟨g1, g2⟩, g3⟩, g4⟩, g5⟩, g6⟩ := h5
  simp [Cond.before, Cond.holds, Cond.value, h1, h2, h3, h4, g1, g2, g3, g4, g5, g6]
def isCode : Jvm.Cond → Bool
  | .code _ _ _ _ => true
  | _ => false
theorem all_split {L : List Jvm.Cond} {P : Jvm.Cond → Bool} (h1 : L.all (fun c => isCode c || P c) = true) (h2 : ∀ c ∈ L.filter isCode, P c = true) : L.all P = true := by
  refine List.all_eq_true.mpr fun c hc => ?_
  have h := List.all_eq_true.mp h1 c hc
  rcases Bool.eq_false_or_eq_true (isCode c) with hi | hi
  · exact h2 c (List.mem_filter.mpr ⟨hc, hi⟩)
  · simpa [hi] using h
set_option maxRecDepth 65536 in
theorem w_c0 : (Jvm.Cond.code x code maxLocals ret).before args0 about1 = true := code_word (m := ⟨1, 2⟩) (meth := k1m2) (c := k1c2) (by decide +kernel) rfl rfl rfl (by decide +kernel)
set_option maxRecDepth 65536 in
theorem w_c1 : (Jvm.Cond.code ({ cls := "com/example/temporalis/temporalis/EndpointOfAPinLaw", name := "pick", desc := "(I)Lcom/example/temporalis/temporalis/Operator$Endpoint;" } : Jvm.MethodName) method_2_code (2 : Nat) (Option.some (Jvm.ClassFile.FieldType.object "com/example/temporalis/temporalis/Operator$Endpoint"))).before args0 about1 = true := code_word (m := ⟨1, 1⟩) (meth := k1m1) (c := k1c1) (by decide +kernel) rfl rfl rfl (by decide +kernel)
set_option maxRecDepth 65536 in
theorem w_c2 : (Jvm.Cond.code ({ cls := "com/example/temporalis/temporalis/Operator$Endpoint", name := "ofA", desc := "()Z" } : Jvm.MethodName) prog_54_method_5_code (1 : Nat) (Option.some Jvm.ClassFile.FieldType.boolean)).before args0 about1 = true := code_word (m := ⟨6, 0⟩) (meth := k6m0) (c := k6c0) (by decide +kernel) rfl rfl rfl (by decide +kernel)
def codes1 : List Jvm.Cond := [Jvm.Cond.code x code maxLocals ret, Jvm.Cond.code ({ cls := "com/example/temporalis/temporalis/EndpointOfAPinLaw", name := "pick", desc := "(I)Lcom/example/temporalis/temporalis/Operator$Endpoint;" } : Jvm.MethodName) method_2_code (2 : Nat) (Option.some (Jvm.ClassFile.FieldType.object "com/example/temporalis/temporalis/Operator$Endpoint")), Jvm.Cond.code ({ cls := "com/example/temporalis/temporalis/Operator$Endpoint", name := "ofA", desc := "()Z" } : Jvm.MethodName) prog_54_method_5_code (1 : Nat) (Option.some Jvm.ClassFile.FieldType.boolean)]
set_option maxRecDepth 65536 in
theorem codes_eq : words1.filter isCode = codes1 := rfl
theorem w_codes : ∀ c ∈ words1.filter isCode, c.before args0 about1 = true := by
  rw [codes_eq]
  intro c hc
  simp only [codes1, List.mem_cons, List.not_mem_nil, or_false] at hc
  rcases hc with rfl | rfl | rfl
  · exact w_c0
  · exact w_c1
  · exact w_c2
set_option maxRecDepth 65536 in
theorem w_t1 : words1.all (fun c => isCode c || c.before args0 about1) = true := by decide +kernel
theorem w_tables : (allAtoms (Jvm.Cond.code x code maxLocals ret :: tables_1)).before args0 about1 = true := by
  rw [allAtoms_all]
  show words1.all (fun c => c.before args0 about1) = true
  refine all_split ?_ w_codes
  rw [w_t1]
set_option maxRecDepth 65536 in
theorem w_case : (Jvm.Cond.and given_1 narrow_1).before args0 about1 = true := by decide +kernel
theorem w_applies : (headSpec (Jvm.Cond.code x code maxLocals ret :: tables_1) room_1).applies x e0.platform about1 = true :=
  (Spec.applies_iff w_frames).mpr ⟨w_running, w_runnable, w_alone, w_named, w_hears, w_ripe, w_room, w_tables⟩
theorem atStart : AtStart classFile x code maxLocals ret World_1 tables_1 room_1 Calls_1 rest_1 Pre_1 launch0 p0 e0 about1 theMethod args0 below0 :=
  ⟨lists_1, trivial, launch0.admits_env _ _ _, launch0.least_env, fairChoices_fair.cas, fairChoices_fair.clock, w_frames, w_args, w_heap, w_applies, trivial, trivial, w_case⟩
end start1
theorem witness_1 : WitnessClaimed_1 := ⟨start1.p0, start1.e0, start1.about1, start1.theMethod, start1.args0, start1.below0, start1.atStart⟩
end Jvm.Pilot.@@N@@
