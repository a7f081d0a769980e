import JvmDerived
import JvmDerived.Pilot.@@N@@Statement
import JvmDerived.Pilot.@@N@@Code
set_option linter.unusedVariables false
set_option linter.unusedSimpArgs false
namespace Jvm.RoadKit
open Sem ClassFile Op Lib Jvm.Stand Jvm.Free Jvm.LawKit
section New
variable {p : Program} {l : Launch} {e : Env} {R : Room} {s : State} {m : MethodId} {args : Array Value} {below : List Frame} {meth : Method} {c : Code} {T : State} {locs : List Loc} {cells slots : Nat}
theorem retI (X : Stand p l e R s m args below meth c T locs cells slots) (hx : p.tables.exec = Jvm.exec) {pc : Nat} {Ls : Array Slot} {z : Int32} {rest : List Value} (hret : meth.sig.returnType = some .int) (hd : decode c.code pc = .ok (.ireturn, 1)) {fs : List Frame}
    (hl : ∀ (f : JFrame) (acts : List Action), f.method = m → f.locked = none → f.entered = [] → (doReturn e (T.setTop f) acts (some (.int z))).1 = T.setFrames fs) : Steps p.tables e below (T.setTop (mkF m pc Ls (.int z :: rest))) (T.setFrames fs) := by
  have hm' : T.vm.method? m = some meth := X.method'
  have hn : narrow .int (.int z) = .int z := rfl
  show Steps p.tables e below (T.setTop { method := m, pc := pc, locals := Ls, stack := _ :: rest, locked := none }) _
  jvm_step X.here [X.here.top, hx, hd, hm', hret, hn]
  first | (intro acts; rw [hl _ acts rfl rfl rfl]) | rw [hl _ _ rfl rfl rfl]
  exact Steps.refl _
/-- from the state T with the frame g on top the run ends, returned, with Q -/
def own_Go (tb : Tables) (e : Env) (below : List Frame) (Q : Option Value → Heap → List Loc → Prop) (s : State) (C S : Nat) (T : State) (g : JFrame) : Prop :=
  ∃ t o, Steps tb e below (T.setTop g) t ∧ t.status = .running ∧ Ended t below o ∧ ∃ v L, o = .returned v ∧ Q v t.heap L ∧ FrameEnd s o t L C S
theorem own_by {tb : Tables} {Q : Option Value → Heap → List Loc → Prop} {C S : Nat} {T T' : State} {g g' : JFrame} (st : ∀ target, Steps tb e below (T'.setTop g') target → Steps tb e below (T.setTop g) target) (k : own_Go tb e below Q s C S T' g') : own_Go tb e below Q s C S T g := by
  obtain ⟨t, o, h1, h2⟩ := k
  exact ⟨t, o, st t h1, h2⟩
theorem own_ret {Q : Option Value → Heap → List Loc → Prop} {C S : Nat} {g : JFrame} (X : Stand p l e R s m args below meth c T locs cells slots) (hlk : meth.locks = false) {v : Option Value} (hv : meth.sig.returnType = none → v = none)
    (st : ∀ fs, (∀ (f : JFrame) (acts : List Action), f.method = m → f.locked = none → f.entered = [] → (doReturn e (T.setTop f) acts v).1 = T.setFrames fs) → Steps p.tables e below (T.setTop g) (T.setFrames fs))
    (hq : Q v T.heap locs) (hc : cells ≤ C) (hs : slots ≤ S) : own_Go p.tables e below Q s C S T g := by
  obtain ⟨fs, hr, hrun, hended, hW, hsame⟩ := X.leave (v := v) hv hlk
  exact ⟨_, _, st fs hr, hrun, hended, v, locs, rfl, hq, ⟨v, rfl⟩, hW, hsame.mono hc hs⟩
end New
end Jvm.RoadKit
namespace Jvm.Pilot.@@N@@
open Jvm Jvm.ClassFile Sem Op Lib Jvm.Free Jvm.Stand Jvm.LawKit Jvm.RoadKit Bundle Jvm.Pilot.@@N@@.Jvm.D
theorem pd_0 : parseMethodDescriptor "()Z" = some ⟨[], some .boolean⟩ := by decide +kernel
theorem own_fld {args : Array Value} {s : State} {t : Term} {C n d : String} {a : Addr} {k : Int32} (ht : t.eval args s none [] s = some (.ref a)) (h : (Jvm.Cond.eq (.field t C n d) (.int k)).value args s none s [] = some true) : Fld s s.heap a C n d (.int k) := by
  refine Fld.start ?_
  rw [← fld_at (args := args) (first := s) (o := none) (idx := []) (s := s) (C := C) (n := n) (dd := d) ht]
  obtain ⟨x, y, e1, e2, -, -⟩ := cmp_v (Or.inl h)
  rw [Term.int_eval k] at e2
  obtain rfl : Value.int k = y := Option.some.inj e2
  cases x <;> simp [Jvm.Cond.value, e1, Term.int_eval] at h
  rw [e1, h]
theorem own_vne {i j : Int32} (h : i ≠ j) : Value.int i ≠ Value.int j := fun q => h (Value.int.inj q)
theorem d1_0 : decode prog_54_method_6_code 0 = .ok (.aload_n 0, 1) := by decide +kernel
theorem d1_1 : decode prog_54_method_6_code 1 = .ok (.getstatic 3, 3) := by decide +kernel
theorem d1_4 : decode prog_54_method_6_code 4 = .ok (.if_acmp .eq 10, 3) := by decide +kernel
theorem d1_7 : decode prog_54_method_6_code 7 = .ok (.aload_n 0, 1) := by decide +kernel
theorem d1_8 : decode prog_54_method_6_code 8 = .ok (.getstatic 10, 3) := by decide +kernel
theorem d1_11 : decode prog_54_method_6_code 11 = .ok (.if_acmp .ne 7, 3) := by decide +kernel
theorem d1_14 : decode prog_54_method_6_code 14 = .ok (.iconst 1, 1) := by decide +kernel
theorem d1_15 : decode prog_54_method_6_code 15 = .ok (.goto 4, 3) := by decide +kernel
theorem d1_18 : decode prog_54_method_6_code 18 = .ok (.iconst 0, 1) := by decide +kernel
theorem d1_19 : decode prog_54_method_6_code 19 = .ok (.ireturn, 1) := by decide +kernel
theorem pn_1 : plainName "com/example/temporalis/temporalis/Operator$Endpoint" = true := by first | (simp [plainName, overriddenIn]; done) | decide +kernel
theorem ef_rm1 (m : MethodId) (this : Addr) : entryFrame m #[(.ref this)] 1 = mkF m 0 #[.val (.ref this)] [] := by first | (simp [entryFrame, mkF, argsToLocals, Value.category]; done) | rfl
def Q_rm1 (Z : State) (this : Addr) (a_A_START : Addr) (a_B_START : Addr) (h0 : Heap) (n0 : Nat) (v : Option Value) (h : Heap) (L : List Loc) : Prop := v = some (.int (if this = a_A_START then 1 else if this = a_B_START then 1 else 0)) ∧ Fr n0 L ∧ h = h0
set_option maxRecDepth 65536 in
set_option maxHeartbeats 40000000 in
theorem rm1 (l : Launch) (Z : State) (a0 : Array Value) (hw : ∀ d ∈ tables_1, d.before a0 Z = true) (ws : List Jvm.Cond) (this : Addr) (a_A_START : Addr) (a_B_START : Addr) (h0 : Heap) (n0 : Nat) (Z0 : n0 ≤ h0.size) (S_A_START : Sta Z h0 "com/example/temporalis/temporalis/Operator$Endpoint" "A_START" "Lcom/example/temporalis/temporalis/Operator$Endpoint;" (.ref a_A_START)) (S_B_START : Sta Z h0 "com/example/temporalis/temporalis/Operator$Endpoint" "B_START" "Lcom/example/temporalis/temporalis/Operator$Endpoint;" (.ref a_B_START)) :
    MetFree l (⟨"com/example/temporalis/temporalis/Operator$Endpoint", "isStart", "()Z"⟩ : MethodName) (head1 (Jvm.Cond.code (⟨"com/example/temporalis/temporalis/Operator$Endpoint", "isStart", "()Z"⟩ : MethodName) prog_54_method_6_code 1 (some .boolean) :: ws) ({ frames := 0, cells := 0, slots := 0, locals := 0 } : Room)) (fun a U => a = #[(.ref this)] ∧ Z.Warmed39 U.vm ∧ U.heap = h0) (fun _ _ _ _ _ => True) (fun _ U o U' => ∃ v L, o = .returned v ∧ Q_rm1 Z this a_A_START a_B_START h0 n0 v U'.heap L ∧ FrameEnd U o U' L ({ frames := 0, cells := 0, slots := 0, locals := 0 } : Room).cells ({ frames := 0, cells := 0, slots := 0, locals := 0 } : Room).slots) := by
  refine MetFree.of_bodySF (plainFor_of_name pn_1) hisR ?_
  intro p e s m args below meth c s₁ Bd hml0 hP hK
  obtain ⟨rfl, hZ, hh⟩ := hP
  have hx := Bd.exec
  have hby := Bd.bytes
  have hml : c.maxLocals = 1 := hml0
  have hown : s.vm.findClass "com/example/temporalis/temporalis/Operator$Endpoint" = some m.cls := findClass_of_methodNamed Bd.named
  have hnm := (name_of_methodNamed Bd.named Bd.method).1
  have hlk : meth.locks = false := BodyLoose.notSynchronized Bd
  have X0 : Stand p l e ({ frames := 0, cells := 0, slots := 0, locals := 0 } : Room) s m #[(.ref this)] below meth c s₁ [] 0 0 := Stand.of_body Bd
  have e0 : s₁.heap = h0 := by rw [← hh, Bd.state]; rfl
  have N0 := Fr.nil n0
  show own_Go p.tables e below (Q_rm1 Z this a_A_START a_B_START h0 n0) s ({ frames := 0, cells := 0, slots := 0, locals := 0 } : Room).cells ({ frames := 0, cells := 0, slots := 0, locals := 0 } : Room).slots s₁ (entryFrame m #[(.ref this)] 1)
  rw [ef_rm1 m this]
  refine own_by (T' := s₁) (g' := (mkF m 1 #[.val (.ref this)] [(.ref this)])) (fun _ k => XS.aloadN X0.here hx rfl (hb hby d1_0) rfl rfl k) ?_
  obtain ⟨T1, X1, e1, st1⟩ := getS2 X0 hx hZ hown (host := "") (Or.inl (hw _ (List.mem_of_getElem? (i := 8) rfl))) Via.refl e0 S_A_START (g := (mkF m 1 #[.val (.ref this)] [(.ref this)])) rfl (hb hby d1_1)
  refine own_by (T' := T1) (g' := (mkF m 4 #[.val (.ref this)] [(.ref a_A_START), (.ref this)])) (fun _ k => st1 _ k) ?_
  by_cases hc4_2 : this = a_A_START
  · skip
    refine own_by (T' := T1) (g' := (mkF m 14 #[.val (.ref this)] [])) (fun _ k => Jvm.RoadKit.acmp (g := (mkF m 4 #[.val (.ref this)] [(.ref a_A_START), (.ref this)])) X1 hx rfl rfl rfl (pc0 := 4) (pc' := 14) (same := true) rfl (hb hby d1_4) rfl (decide_eq_true (congrArg Value.ref hc4_2)) (by decide) (by decide) k) ?_
    refine own_by (T' := T1) (g' := (mkF m 15 #[.val (.ref this)] [(.int (1 : Int32))])) (fun _ k => XS.iconst X1.here hx rfl (hb hby d1_14) k) ?_
    refine own_by (T' := T1) (g' := (mkF m 19 #[.val (.ref this)] [(.int (1 : Int32))])) (fun _ k => XS.goto X1.here hx rfl (pc0 := 15) (pc' := 19) rfl (hb hby d1_15) (by decide) (by decide) k) ?_
    refine own_ret X1 hlk (v := some (.int (1 : Int32))) (fun h => by rw [Bd.returns] at h; cases h) (fun fs hr => retN X1 hx (t := .boolean) Bd.returns (by simp) (hb hby d1_19) hr) ?_ (by decide) (by decide)
    rw [e1]
    exact ⟨congrArg (fun z => some (Value.int z)) (if_pos hc4_2).symm, N0, rfl⟩
  · skip
    refine own_by (T' := T1) (g' := (mkF m 7 #[.val (.ref this)] [])) (fun _ k => Jvm.RoadKit.acmp (g := (mkF m 4 #[.val (.ref this)] [(.ref a_A_START), (.ref this)])) X1 hx rfl rfl rfl (pc0 := 4) (pc' := 7) (same := false) rfl (hb hby d1_4) rfl (decide_eq_false fun q => hc4_2 (Value.ref.inj q)) (by decide) (by decide) k) ?_
    refine own_by (T' := T1) (g' := (mkF m 8 #[.val (.ref this)] [(.ref this)])) (fun _ k => XS.aloadN X1.here hx rfl (hb hby d1_7) rfl rfl k) ?_
    obtain ⟨T3, X3, e3, st3⟩ := getS2 X1 hx hZ hown (host := "") (Or.inl (hw _ (List.mem_of_getElem? (i := 11) rfl))) Via.refl e1 S_B_START (g := (mkF m 8 #[.val (.ref this)] [(.ref this)])) rfl (hb hby d1_8)
    refine own_by (T' := T3) (g' := (mkF m 11 #[.val (.ref this)] [(.ref a_B_START), (.ref this)])) (fun _ k => st3 _ k) ?_
    by_cases hc11_4 : this = a_B_START
    · skip
      refine own_by (T' := T3) (g' := (mkF m 14 #[.val (.ref this)] [])) (fun _ k => Jvm.RoadKit.acmp (g := (mkF m 11 #[.val (.ref this)] [(.ref a_B_START), (.ref this)])) X3 hx rfl rfl rfl (pc0 := 11) (pc' := 14) (same := true) rfl (hb hby d1_11) rfl (decide_eq_true (congrArg Value.ref hc11_4)) (by decide) (by decide) k) ?_
      refine own_by (T' := T3) (g' := (mkF m 15 #[.val (.ref this)] [(.int (1 : Int32))])) (fun _ k => XS.iconst X3.here hx rfl (hb hby d1_14) k) ?_
      refine own_by (T' := T3) (g' := (mkF m 19 #[.val (.ref this)] [(.int (1 : Int32))])) (fun _ k => XS.goto X3.here hx rfl (pc0 := 15) (pc' := 19) rfl (hb hby d1_15) (by decide) (by decide) k) ?_
      refine own_ret X3 hlk (v := some (.int (1 : Int32))) (fun h => by rw [Bd.returns] at h; cases h) (fun fs hr => retN X3 hx (t := .boolean) Bd.returns (by simp) (hb hby d1_19) hr) ?_ (by decide) (by decide)
      rw [e3]
      exact ⟨congrArg (fun z => some (Value.int z)) ((if_neg hc4_2).trans (if_pos hc11_4)).symm, N0, rfl⟩
    · skip
      refine own_by (T' := T3) (g' := (mkF m 18 #[.val (.ref this)] [])) (fun _ k => Jvm.RoadKit.acmp (g := (mkF m 11 #[.val (.ref this)] [(.ref a_B_START), (.ref this)])) X3 hx rfl rfl rfl (pc0 := 11) (pc' := 18) (same := false) rfl (hb hby d1_11) rfl (decide_eq_false fun q => hc11_4 (Value.ref.inj q)) (by decide) (by decide) k) ?_
      refine own_by (T' := T3) (g' := (mkF m 19 #[.val (.ref this)] [(.int (0 : Int32))])) (fun _ k => XS.iconst X3.here hx rfl (hb hby d1_18) k) ?_
      refine own_ret X3 hlk (v := some (.int (0 : Int32))) (fun h => by rw [Bd.returns] at h; cases h) (fun fs hr => retN X3 hx (t := .boolean) Bd.returns (by simp) (hb hby d1_19) hr) ?_ (by decide) (by decide)
      rw [e3]
      exact ⟨congrArg (fun z => some (Value.int z)) ((if_neg hc4_2).trans (if_neg hc11_4)).symm, N0, rfl⟩
theorem pn_0 : plainName "com/example/temporalis/temporalis/EndpointIsStartPinLaw" = true := by first | (simp [plainName, overriddenIn]; done) | decide +kernel
theorem ef_rm0 (m : MethodId) (u : Int32) : entryFrame m #[(.int u)] maxLocals = mkF m 0 #[.val (.int u), .unset, .unset, .unset] [] := by first | (simp [entryFrame, mkF, argsToLocals, Value.category, maxLocals]; done) | rfl
def Q_rm0 (Z : State) (u : Int32) (a_A_START : Addr) (a_A_END : Addr) (a_B_START : Addr) (a_B_END : Addr) (h0 : Heap) (n0 : Nat) (v : Option Value) (h : Heap) (L : List Loc) : Prop := v = some (.int 1) ∧ Fr n0 L
set_option maxRecDepth 65536 in
set_option maxHeartbeats 40000000 in
theorem rm0 (l : Launch) (Z : State) (a0 : Array Value) (hw : ∀ d ∈ tables_1, d.before a0 Z = true) (ws : List Jvm.Cond) (u : Int32) (a_A_START : Addr) (a_A_END : Addr) (a_B_START : Addr) (a_B_END : Addr) (h0 : Heap) (n0 : Nat) (Z0 : n0 ≤ h0.size) (S_A_START : Sta Z h0 "com/example/temporalis/temporalis/Operator$Endpoint" "A_START" "Lcom/example/temporalis/temporalis/Operator$Endpoint;" (.ref a_A_START)) (S_A_END : Sta Z h0 "com/example/temporalis/temporalis/Operator$Endpoint" "A_END" "Lcom/example/temporalis/temporalis/Operator$Endpoint;" (.ref a_A_END)) (S_B_START : Sta Z h0 "com/example/temporalis/temporalis/Operator$Endpoint" "B_START" "Lcom/example/temporalis/temporalis/Operator$Endpoint;" (.ref a_B_START)) (S_B_END : Sta Z h0 "com/example/temporalis/temporalis/Operator$Endpoint" "B_END" "Lcom/example/temporalis/temporalis/Operator$Endpoint;" (.ref a_B_END)) (E_A_START : Exa Z h0 a_A_START "com/example/temporalis/temporalis/Operator$Endpoint") (E_A_END : Exa Z h0 a_A_END "com/example/temporalis/temporalis/Operator$Endpoint") (E_B_START : Exa Z h0 a_B_START "com/example/temporalis/temporalis/Operator$Endpoint") (E_B_END : Exa Z h0 a_B_END "com/example/temporalis/temporalis/Operator$Endpoint") (ne_AE_AS : ¬ a_A_END = a_A_START) (ne_AE_BS : ¬ a_A_END = a_B_START) (ne_BS_AS : ¬ a_B_START = a_A_START) (ne_BE_AS : ¬ a_B_END = a_A_START) (ne_BE_BS : ¬ a_B_END = a_B_START) :
    MetFree l x (head1 (Jvm.Cond.code x code maxLocals ret :: ws) room_1) (fun a U => a = #[(.int u)] ∧ Z.Warmed39 U.vm ∧ U.heap = h0) (fun _ _ _ _ _ => True) (fun _ U o U' => ∃ v L, o = .returned v ∧ Q_rm0 Z u a_A_START a_A_END a_B_START a_B_END h0 n0 v U'.heap L ∧ FrameEnd U o U' L 0 0) := by
  refine MetFree.of_bodySF (plainFor_of_name pn_0) hisR ?_
  intro p e s m args below meth c s₁ Bd hml0 hP hK
  obtain ⟨rfl, hZ, hh⟩ := hP
  have hx := Bd.exec
  have hby := Bd.bytes
  have hml : c.maxLocals = 4 := hml0
  have hown : s.vm.findClass "com/example/temporalis/temporalis/EndpointIsStartPinLaw" = some m.cls := findClass_of_methodNamed Bd.named
  have hnm := (name_of_methodNamed Bd.named Bd.method).1
  have hlk : meth.locks = false := BodyLoose.notSynchronized Bd
  have X0 : Stand p l e room_1 s m #[(.int u)] below meth c s₁ [] 0 0 := Stand.of_body Bd
  have e0 : s₁.heap = h0 := by rw [← hh, Bd.state]; rfl
  have N0 := Fr.nil n0
  show own_Go p.tables e below (Q_rm0 Z u a_A_START a_A_END a_B_START a_B_END h0 n0) s 0 0 s₁ (entryFrame m #[(.int u)] maxLocals)
  rw [ef_rm0 m u]
  refine own_by (T' := s₁) (g' := (mkF m 1 #[.val (.int u), .unset, .unset, .unset] [(.int u)])) (fun _ k => XS.iloadN X0.here hx rfl (hb hby at_0) rfl k) ?_
  refine own_by (T' := s₁) (g' := (mkF m 2 #[.val (.int u), .unset, .unset, .unset] [(.int (3 : Int32)), (.int u)])) (fun _ k => XS.iconst X0.here hx rfl (hb hby at_1) k) ?_
  refine own_by (T' := s₁) (g' := (mkF m 3 #[.val (.int u), .unset, .unset, .unset] [(.int (u &&& (3 : Int32)))])) (fun _ k => XS.iand X0.here hx rfl (hb hby at_2) rfl k) ?_
  refine own_by (T' := s₁) (g' := (mkF m 4 #[.val (.int u), .val (.int (u &&& (3 : Int32))), .unset, .unset] [])) (fun _ k => XS.istoreN X0.here hx rfl (hb hby at_3) rfl (l' := #[.val (.int u), .val (.int (u &&& (3 : Int32))), .unset, .unset]) rfl k) ?_
  refine own_by (T' := s₁) (g' := (mkF m 5 #[.val (.int u), .val (.int (u &&& (3 : Int32))), .unset, .unset] [(.int (u &&& (3 : Int32)))])) (fun _ k => XS.iloadN X0.here hx rfl (hb hby at_4) rfl k) ?_
  by_cases hc5_1 : (u &&& (3 : Int32)) = (0 : Int32)
  · skip
    refine own_by (T' := s₁) (g' := (mkF m 8 #[.val (.int u), .val (.int (u &&& (3 : Int32))), .unset, .unset] [])) (fun _ k => XS.ifNo X0.here hx rfl (hb hby at_5) rfl ((if0 _ _).trans (teq hc5_1).2) k) ?_
    obtain ⟨T2, X2, e2, st2⟩ := getS2 X0 hx hZ hown (host := "") (Or.inl (hw _ (List.mem_of_getElem? (i := 0) rfl))) Via.refl e0 S_A_START (g := (mkF m 8 #[.val (.int u), .val (.int (u &&& (3 : Int32))), .unset, .unset] [])) rfl (hb hby at_8)
    refine own_by (T' := T2) (g' := (mkF m 11 #[.val (.int u), .val (.int (u &&& (3 : Int32))), .unset, .unset] [(.ref a_A_START)])) (fun _ k => st2 _ k) ?_
    refine own_by (T' := T2) (g' := (mkF m 12 #[.val (.int u), .val (.int (u &&& (3 : Int32))), .val (.ref a_A_START), .unset] [])) (fun _ k => XS.astoreN X2.here hx rfl (hb hby at_11) rfl rfl (l' := #[.val (.int u), .val (.int (u &&& (3 : Int32))), .val (.ref a_A_START), .unset]) rfl k) ?_
    refine own_by (T' := T2) (g' := (mkF m 13 #[.val (.int u), .val (.int (u &&& (3 : Int32))), .val (.ref a_A_START), .unset] [(.int (1 : Int32))])) (fun _ k => XS.iconst X2.here hx rfl (hb hby at_12) k) ?_
    refine own_by (T' := T2) (g' := (mkF m 14 #[.val (.int u), .val (.int (u &&& (3 : Int32))), .val (.ref a_A_START), .val (.int (1 : Int32))] [])) (fun _ k => XS.istoreN X2.here hx rfl (hb hby at_13) rfl (l' := #[.val (.int u), .val (.int (u &&& (3 : Int32))), .val (.ref a_A_START), .val (.int (1 : Int32))]) rfl k) ?_
    refine own_by (T' := T2) (g' := (mkF m 51 #[.val (.int u), .val (.int (u &&& (3 : Int32))), .val (.ref a_A_START), .val (.int (1 : Int32))] [])) (fun _ k => XS.goto X2.here hx rfl (pc0 := 14) (pc' := 51) rfl (hb hby at_14) (by decide) (by decide) k) ?_
    refine own_by (T' := T2) (g' := (mkF m 52 #[.val (.int u), .val (.int (u &&& (3 : Int32))), .val (.ref a_A_START), .val (.int (1 : Int32))] [(.ref a_A_START)])) (fun _ k => XS.aloadN X2.here hx rfl (hb hby at_51) rfl rfl k) ?_
    obtain ⟨cq3, kq3, q3a, q3b, q3c⟩ := isOf hZ e2 E_A_START
    obtain ⟨_, _, ⟨T3, L3, k3, n3⟩, -, X3, ⟨Lc3, hQ3, l3, y3, z3⟩, st3⟩ := X2.virtualBack hx (y := (⟨"com/example/temporalis/temporalis/Operator$Endpoint", "isStart", "()Z"⟩ : MethodName)) (z := (⟨"com/example/temporalis/temporalis/Operator$Endpoint", "isStart", "()Z"⟩ : MethodName)) hown (mvT hZ (hw _ (List.mem_of_getElem? (i := 3) rfl))) (mvT hZ (hw _ (List.mem_of_getElem? (i := 4) rfl))) (notFace_of_selects (args := #[]) (mvT hZ (hw _ (List.mem_of_getElem? (i := 6) rfl)))) (mvT hZ (hw _ (List.mem_of_getElem? (i := 6) rfl))) (mvT hZ (hw _ (List.mem_of_getElem? (i := 5) rfl))) (by decide) (backOf (W := 0) (rm1 l Z a0 hw [] a_A_START a_A_START a_B_START h0 n0 Z0 S_A_START S_B_START) hZ (hw _ (List.mem_of_getElem? (i := 7) rfl)) (hw _ (List.mem_of_getElem? (i := 1) rfl)) (by decide) (by decide)) q3a q3c (g := (mkF m 52 #[.val (.int u), .val (.int (u &&& (3 : Int32))), .val (.ref a_A_START), .val (.int (1 : Int32))] [(.ref a_A_START)])) rfl (by rw [hml]; rfl) (Steps.refl _) (argsL := []) (rest := []) (lenOf pd_0 rfl) rfl (by show 2 * 0 + _ ≤ _; exact Nat.le_of_eq rfl) (hb hby at_52) (fun _ _ => ⟨rfl, e2, (by decide : 0 + 0 ≤ _), (by decide : 0 + 0 ≤ _)⟩)
    dsimp only [Pt.U, Pt.locs, Pt.cells, Pt.slots] at X3 l3 y3 z3 st3 hQ3
    subst l3 y3 z3
    obtain ⟨rfl, N3q, e3⟩ := hQ3
    have N3 := Fr.app N0 N3q
    refine own_by (T' := T3) (g' := (mkF m 55 #[.val (.int u), .val (.int (u &&& (3 : Int32))), .val (.ref a_A_START), .val (.int (1 : Int32))] [(.int (if a_A_START = a_A_START then (1 : Int32) else if a_A_START = a_B_START then (1 : Int32) else (0 : Int32)))])) (fun _ k => st3.trans k) ?_
    refine own_by (T' := T3) (g' := (mkF m 56 #[.val (.int u), .val (.int (u &&& (3 : Int32))), .val (.ref a_A_START), .val (.int (1 : Int32))] [(.int (1 : Int32)), (.int (if a_A_START = a_A_START then (1 : Int32) else if a_A_START = a_B_START then (1 : Int32) else (0 : Int32)))])) (fun _ k => XS.iloadN X3.here hx rfl (hb hby at_55) rfl k) ?_
    refine own_by (T' := T3) (g' := (mkF m 59 #[.val (.int u), .val (.int (u &&& (3 : Int32))), .val (.ref a_A_START), .val (.int (1 : Int32))] [])) (fun _ k => XS.icmpNo X3.here hx rfl (hb hby at_56) rfl (teq (if_pos rfl)).2 k) ?_
    refine own_by (T' := T3) (g' := (mkF m 60 #[.val (.int u), .val (.int (u &&& (3 : Int32))), .val (.ref a_A_START), .val (.int (1 : Int32))] [(.int (1 : Int32))])) (fun _ k => XS.iconst X3.here hx rfl (hb hby at_59) k) ?_
    refine own_by (T' := T3) (g' := (mkF m 64 #[.val (.int u), .val (.int (u &&& (3 : Int32))), .val (.ref a_A_START), .val (.int (1 : Int32))] [(.int (1 : Int32))])) (fun _ k => XS.goto X3.here hx rfl (pc0 := 60) (pc' := 64) rfl (hb hby at_60) (by decide) (by decide) k) ?_
    refine own_ret X3 hlk (v := some (.int (1 : Int32))) (fun h => by rw [Bd.returns] at h; cases h) (fun fs hr => retN X3 hx (t := .boolean) Bd.returns (by simp) (hb hby at_64) hr) ?_ (by decide) (by decide)
    rw [e3]
    exact ⟨rfl, N3⟩
  · skip
    refine own_by (T' := s₁) (g' := (mkF m 17 #[.val (.int u), .val (.int (u &&& (3 : Int32))), .unset, .unset] [])) (fun _ k => XS.ifYes X0.here hx rfl (pc0 := 5) (pc' := 17) rfl (hb hby at_5) rfl ((if0 _ _).trans (feq hc5_1).2) (by decide) (by decide) k) ?_
    refine own_by (T' := s₁) (g' := (mkF m 18 #[.val (.int u), .val (.int (u &&& (3 : Int32))), .unset, .unset] [(.int (u &&& (3 : Int32)))])) (fun _ k => XS.iloadN X0.here hx rfl (hb hby at_17) rfl k) ?_
    refine own_by (T' := s₁) (g' := (mkF m 19 #[.val (.int u), .val (.int (u &&& (3 : Int32))), .unset, .unset] [(.int (1 : Int32)), (.int (u &&& (3 : Int32)))])) (fun _ k => XS.iconst X0.here hx rfl (hb hby at_18) k) ?_
    by_cases hc19_4 : (u &&& (3 : Int32)) = (1 : Int32)
    · skip
      refine own_by (T' := s₁) (g' := (mkF m 22 #[.val (.int u), .val (.int (u &&& (3 : Int32))), .unset, .unset] [])) (fun _ k => XS.icmpNo X0.here hx rfl (hb hby at_19) rfl (teq hc19_4).2 k) ?_
      obtain ⟨T5, X5, e5, st5⟩ := getS2 X0 hx hZ hown (host := "") (Or.inl (hw _ (List.mem_of_getElem? (i := 14) rfl))) Via.refl e0 S_A_END (g := (mkF m 22 #[.val (.int u), .val (.int (u &&& (3 : Int32))), .unset, .unset] [])) rfl (hb hby at_22)
      refine own_by (T' := T5) (g' := (mkF m 25 #[.val (.int u), .val (.int (u &&& (3 : Int32))), .unset, .unset] [(.ref a_A_END)])) (fun _ k => st5 _ k) ?_
      refine own_by (T' := T5) (g' := (mkF m 26 #[.val (.int u), .val (.int (u &&& (3 : Int32))), .val (.ref a_A_END), .unset] [])) (fun _ k => XS.astoreN X5.here hx rfl (hb hby at_25) rfl rfl (l' := #[.val (.int u), .val (.int (u &&& (3 : Int32))), .val (.ref a_A_END), .unset]) rfl k) ?_
      refine own_by (T' := T5) (g' := (mkF m 27 #[.val (.int u), .val (.int (u &&& (3 : Int32))), .val (.ref a_A_END), .unset] [(.int (0 : Int32))])) (fun _ k => XS.iconst X5.here hx rfl (hb hby at_26) k) ?_
      refine own_by (T' := T5) (g' := (mkF m 28 #[.val (.int u), .val (.int (u &&& (3 : Int32))), .val (.ref a_A_END), .val (.int (0 : Int32))] [])) (fun _ k => XS.istoreN X5.here hx rfl (hb hby at_27) rfl (l' := #[.val (.int u), .val (.int (u &&& (3 : Int32))), .val (.ref a_A_END), .val (.int (0 : Int32))]) rfl k) ?_
      refine own_by (T' := T5) (g' := (mkF m 51 #[.val (.int u), .val (.int (u &&& (3 : Int32))), .val (.ref a_A_END), .val (.int (0 : Int32))] [])) (fun _ k => XS.goto X5.here hx rfl (pc0 := 28) (pc' := 51) rfl (hb hby at_28) (by decide) (by decide) k) ?_
      refine own_by (T' := T5) (g' := (mkF m 52 #[.val (.int u), .val (.int (u &&& (3 : Int32))), .val (.ref a_A_END), .val (.int (0 : Int32))] [(.ref a_A_END)])) (fun _ k => XS.aloadN X5.here hx rfl (hb hby at_51) rfl rfl k) ?_
      obtain ⟨cq6, kq6, q6a, q6b, q6c⟩ := isOf hZ e5 E_A_END
      obtain ⟨_, _, ⟨T6, L6, k6, n6⟩, -, X6, ⟨Lc6, hQ6, l6, y6, z6⟩, st6⟩ := X5.virtualBack hx (y := (⟨"com/example/temporalis/temporalis/Operator$Endpoint", "isStart", "()Z"⟩ : MethodName)) (z := (⟨"com/example/temporalis/temporalis/Operator$Endpoint", "isStart", "()Z"⟩ : MethodName)) hown (mvT hZ (hw _ (List.mem_of_getElem? (i := 3) rfl))) (mvT hZ (hw _ (List.mem_of_getElem? (i := 4) rfl))) (notFace_of_selects (args := #[]) (mvT hZ (hw _ (List.mem_of_getElem? (i := 6) rfl)))) (mvT hZ (hw _ (List.mem_of_getElem? (i := 6) rfl))) (mvT hZ (hw _ (List.mem_of_getElem? (i := 5) rfl))) (by decide) (backOf (W := 0) (rm1 l Z a0 hw [] a_A_END a_A_START a_B_START h0 n0 Z0 S_A_START S_B_START) hZ (hw _ (List.mem_of_getElem? (i := 7) rfl)) (hw _ (List.mem_of_getElem? (i := 1) rfl)) (by decide) (by decide)) q6a q6c (g := (mkF m 52 #[.val (.int u), .val (.int (u &&& (3 : Int32))), .val (.ref a_A_END), .val (.int (0 : Int32))] [(.ref a_A_END)])) rfl (by rw [hml]; rfl) (Steps.refl _) (argsL := []) (rest := []) (lenOf pd_0 rfl) rfl (by show 2 * 0 + _ ≤ _; exact Nat.le_of_eq rfl) (hb hby at_52) (fun _ _ => ⟨rfl, e5, (by decide : 0 + 0 ≤ _), (by decide : 0 + 0 ≤ _)⟩)
      dsimp only [Pt.U, Pt.locs, Pt.cells, Pt.slots] at X6 l6 y6 z6 st6 hQ6
      subst l6 y6 z6
      obtain ⟨rfl, N6q, e6⟩ := hQ6
      have N6 := Fr.app N0 N6q
      refine own_by (T' := T6) (g' := (mkF m 55 #[.val (.int u), .val (.int (u &&& (3 : Int32))), .val (.ref a_A_END), .val (.int (0 : Int32))] [(.int (if a_A_END = a_A_START then (1 : Int32) else if a_A_END = a_B_START then (1 : Int32) else (0 : Int32)))])) (fun _ k => st6.trans k) ?_
      refine own_by (T' := T6) (g' := (mkF m 56 #[.val (.int u), .val (.int (u &&& (3 : Int32))), .val (.ref a_A_END), .val (.int (0 : Int32))] [(.int (0 : Int32)), (.int (if a_A_END = a_A_START then (1 : Int32) else if a_A_END = a_B_START then (1 : Int32) else (0 : Int32)))])) (fun _ k => XS.iloadN X6.here hx rfl (hb hby at_55) rfl k) ?_
      refine own_by (T' := T6) (g' := (mkF m 59 #[.val (.int u), .val (.int (u &&& (3 : Int32))), .val (.ref a_A_END), .val (.int (0 : Int32))] [])) (fun _ k => XS.icmpNo X6.here hx rfl (hb hby at_56) rfl (teq ((if_neg ne_AE_AS).trans (if_neg ne_AE_BS))).2 k) ?_
      refine own_by (T' := T6) (g' := (mkF m 60 #[.val (.int u), .val (.int (u &&& (3 : Int32))), .val (.ref a_A_END), .val (.int (0 : Int32))] [(.int (1 : Int32))])) (fun _ k => XS.iconst X6.here hx rfl (hb hby at_59) k) ?_
      refine own_by (T' := T6) (g' := (mkF m 64 #[.val (.int u), .val (.int (u &&& (3 : Int32))), .val (.ref a_A_END), .val (.int (0 : Int32))] [(.int (1 : Int32))])) (fun _ k => XS.goto X6.here hx rfl (pc0 := 60) (pc' := 64) rfl (hb hby at_60) (by decide) (by decide) k) ?_
      refine own_ret X6 hlk (v := some (.int (1 : Int32))) (fun h => by rw [Bd.returns] at h; cases h) (fun fs hr => retN X6 hx (t := .boolean) Bd.returns (by simp) (hb hby at_64) hr) ?_ (by decide) (by decide)
      rw [e6]
      exact ⟨rfl, N6⟩
    · skip
      refine own_by (T' := s₁) (g' := (mkF m 31 #[.val (.int u), .val (.int (u &&& (3 : Int32))), .unset, .unset] [])) (fun _ k => XS.icmpYes X0.here hx rfl (pc0 := 19) (pc' := 31) rfl (hb hby at_19) rfl (feq hc19_4).2 (by decide) (by decide) k) ?_
      refine own_by (T' := s₁) (g' := (mkF m 32 #[.val (.int u), .val (.int (u &&& (3 : Int32))), .unset, .unset] [(.int (u &&& (3 : Int32)))])) (fun _ k => XS.iloadN X0.here hx rfl (hb hby at_31) rfl k) ?_
      refine own_by (T' := s₁) (g' := (mkF m 33 #[.val (.int u), .val (.int (u &&& (3 : Int32))), .unset, .unset] [(.int (2 : Int32)), (.int (u &&& (3 : Int32)))])) (fun _ k => XS.iconst X0.here hx rfl (hb hby at_32) k) ?_
      by_cases hc33_7 : (u &&& (3 : Int32)) = (2 : Int32)
      · skip
        refine own_by (T' := s₁) (g' := (mkF m 36 #[.val (.int u), .val (.int (u &&& (3 : Int32))), .unset, .unset] [])) (fun _ k => XS.icmpNo X0.here hx rfl (hb hby at_33) rfl (teq hc33_7).2 k) ?_
        obtain ⟨T8, X8, e8, st8⟩ := getS2 X0 hx hZ hown (host := "") (Or.inl (hw _ (List.mem_of_getElem? (i := 13) rfl))) Via.refl e0 S_B_START (g := (mkF m 36 #[.val (.int u), .val (.int (u &&& (3 : Int32))), .unset, .unset] [])) rfl (hb hby at_36)
        refine own_by (T' := T8) (g' := (mkF m 39 #[.val (.int u), .val (.int (u &&& (3 : Int32))), .unset, .unset] [(.ref a_B_START)])) (fun _ k => st8 _ k) ?_
        refine own_by (T' := T8) (g' := (mkF m 40 #[.val (.int u), .val (.int (u &&& (3 : Int32))), .val (.ref a_B_START), .unset] [])) (fun _ k => XS.astoreN X8.here hx rfl (hb hby at_39) rfl rfl (l' := #[.val (.int u), .val (.int (u &&& (3 : Int32))), .val (.ref a_B_START), .unset]) rfl k) ?_
        refine own_by (T' := T8) (g' := (mkF m 41 #[.val (.int u), .val (.int (u &&& (3 : Int32))), .val (.ref a_B_START), .unset] [(.int (1 : Int32))])) (fun _ k => XS.iconst X8.here hx rfl (hb hby at_40) k) ?_
        refine own_by (T' := T8) (g' := (mkF m 42 #[.val (.int u), .val (.int (u &&& (3 : Int32))), .val (.ref a_B_START), .val (.int (1 : Int32))] [])) (fun _ k => XS.istoreN X8.here hx rfl (hb hby at_41) rfl (l' := #[.val (.int u), .val (.int (u &&& (3 : Int32))), .val (.ref a_B_START), .val (.int (1 : Int32))]) rfl k) ?_
        refine own_by (T' := T8) (g' := (mkF m 51 #[.val (.int u), .val (.int (u &&& (3 : Int32))), .val (.ref a_B_START), .val (.int (1 : Int32))] [])) (fun _ k => XS.goto X8.here hx rfl (pc0 := 42) (pc' := 51) rfl (hb hby at_42) (by decide) (by decide) k) ?_
        refine own_by (T' := T8) (g' := (mkF m 52 #[.val (.int u), .val (.int (u &&& (3 : Int32))), .val (.ref a_B_START), .val (.int (1 : Int32))] [(.ref a_B_START)])) (fun _ k => XS.aloadN X8.here hx rfl (hb hby at_51) rfl rfl k) ?_
        obtain ⟨cq9, kq9, q9a, q9b, q9c⟩ := isOf hZ e8 E_B_START
        obtain ⟨_, _, ⟨T9, L9, k9, n9⟩, -, X9, ⟨Lc9, hQ9, l9, y9, z9⟩, st9⟩ := X8.virtualBack hx (y := (⟨"com/example/temporalis/temporalis/Operator$Endpoint", "isStart", "()Z"⟩ : MethodName)) (z := (⟨"com/example/temporalis/temporalis/Operator$Endpoint", "isStart", "()Z"⟩ : MethodName)) hown (mvT hZ (hw _ (List.mem_of_getElem? (i := 3) rfl))) (mvT hZ (hw _ (List.mem_of_getElem? (i := 4) rfl))) (notFace_of_selects (args := #[]) (mvT hZ (hw _ (List.mem_of_getElem? (i := 6) rfl)))) (mvT hZ (hw _ (List.mem_of_getElem? (i := 6) rfl))) (mvT hZ (hw _ (List.mem_of_getElem? (i := 5) rfl))) (by decide) (backOf (W := 0) (rm1 l Z a0 hw [] a_B_START a_A_START a_B_START h0 n0 Z0 S_A_START S_B_START) hZ (hw _ (List.mem_of_getElem? (i := 7) rfl)) (hw _ (List.mem_of_getElem? (i := 1) rfl)) (by decide) (by decide)) q9a q9c (g := (mkF m 52 #[.val (.int u), .val (.int (u &&& (3 : Int32))), .val (.ref a_B_START), .val (.int (1 : Int32))] [(.ref a_B_START)])) rfl (by rw [hml]; rfl) (Steps.refl _) (argsL := []) (rest := []) (lenOf pd_0 rfl) rfl (by show 2 * 0 + _ ≤ _; exact Nat.le_of_eq rfl) (hb hby at_52) (fun _ _ => ⟨rfl, e8, (by decide : 0 + 0 ≤ _), (by decide : 0 + 0 ≤ _)⟩)
        dsimp only [Pt.U, Pt.locs, Pt.cells, Pt.slots] at X9 l9 y9 z9 st9 hQ9
        subst l9 y9 z9
        obtain ⟨rfl, N9q, e9⟩ := hQ9
        have N9 := Fr.app N0 N9q
        refine own_by (T' := T9) (g' := (mkF m 55 #[.val (.int u), .val (.int (u &&& (3 : Int32))), .val (.ref a_B_START), .val (.int (1 : Int32))] [(.int (if a_B_START = a_A_START then (1 : Int32) else if a_B_START = a_B_START then (1 : Int32) else (0 : Int32)))])) (fun _ k => st9.trans k) ?_
        refine own_by (T' := T9) (g' := (mkF m 56 #[.val (.int u), .val (.int (u &&& (3 : Int32))), .val (.ref a_B_START), .val (.int (1 : Int32))] [(.int (1 : Int32)), (.int (if a_B_START = a_A_START then (1 : Int32) else if a_B_START = a_B_START then (1 : Int32) else (0 : Int32)))])) (fun _ k => XS.iloadN X9.here hx rfl (hb hby at_55) rfl k) ?_
        refine own_by (T' := T9) (g' := (mkF m 59 #[.val (.int u), .val (.int (u &&& (3 : Int32))), .val (.ref a_B_START), .val (.int (1 : Int32))] [])) (fun _ k => XS.icmpNo X9.here hx rfl (hb hby at_56) rfl (teq ((if_neg ne_BS_AS).trans (if_pos rfl))).2 k) ?_
        refine own_by (T' := T9) (g' := (mkF m 60 #[.val (.int u), .val (.int (u &&& (3 : Int32))), .val (.ref a_B_START), .val (.int (1 : Int32))] [(.int (1 : Int32))])) (fun _ k => XS.iconst X9.here hx rfl (hb hby at_59) k) ?_
        refine own_by (T' := T9) (g' := (mkF m 64 #[.val (.int u), .val (.int (u &&& (3 : Int32))), .val (.ref a_B_START), .val (.int (1 : Int32))] [(.int (1 : Int32))])) (fun _ k => XS.goto X9.here hx rfl (pc0 := 60) (pc' := 64) rfl (hb hby at_60) (by decide) (by decide) k) ?_
        refine own_ret X9 hlk (v := some (.int (1 : Int32))) (fun h => by rw [Bd.returns] at h; cases h) (fun fs hr => retN X9 hx (t := .boolean) Bd.returns (by simp) (hb hby at_64) hr) ?_ (by decide) (by decide)
        rw [e9]
        exact ⟨rfl, N9⟩
      · skip
        refine own_by (T' := s₁) (g' := (mkF m 45 #[.val (.int u), .val (.int (u &&& (3 : Int32))), .unset, .unset] [])) (fun _ k => XS.icmpYes X0.here hx rfl (pc0 := 33) (pc' := 45) rfl (hb hby at_33) rfl (feq hc33_7).2 (by decide) (by decide) k) ?_
        obtain ⟨T10, X10, e10, st10⟩ := getS2 X0 hx hZ hown (host := "") (Or.inl (hw _ (List.mem_of_getElem? (i := 9) rfl))) Via.refl e0 S_B_END (g := (mkF m 45 #[.val (.int u), .val (.int (u &&& (3 : Int32))), .unset, .unset] [])) rfl (hb hby at_45)
        refine own_by (T' := T10) (g' := (mkF m 48 #[.val (.int u), .val (.int (u &&& (3 : Int32))), .unset, .unset] [(.ref a_B_END)])) (fun _ k => st10 _ k) ?_
        refine own_by (T' := T10) (g' := (mkF m 49 #[.val (.int u), .val (.int (u &&& (3 : Int32))), .val (.ref a_B_END), .unset] [])) (fun _ k => XS.astoreN X10.here hx rfl (hb hby at_48) rfl rfl (l' := #[.val (.int u), .val (.int (u &&& (3 : Int32))), .val (.ref a_B_END), .unset]) rfl k) ?_
        refine own_by (T' := T10) (g' := (mkF m 50 #[.val (.int u), .val (.int (u &&& (3 : Int32))), .val (.ref a_B_END), .unset] [(.int (0 : Int32))])) (fun _ k => XS.iconst X10.here hx rfl (hb hby at_49) k) ?_
        refine own_by (T' := T10) (g' := (mkF m 51 #[.val (.int u), .val (.int (u &&& (3 : Int32))), .val (.ref a_B_END), .val (.int (0 : Int32))] [])) (fun _ k => XS.istoreN X10.here hx rfl (hb hby at_50) rfl (l' := #[.val (.int u), .val (.int (u &&& (3 : Int32))), .val (.ref a_B_END), .val (.int (0 : Int32))]) rfl k) ?_
        refine own_by (T' := T10) (g' := (mkF m 52 #[.val (.int u), .val (.int (u &&& (3 : Int32))), .val (.ref a_B_END), .val (.int (0 : Int32))] [(.ref a_B_END)])) (fun _ k => XS.aloadN X10.here hx rfl (hb hby at_51) rfl rfl k) ?_
        obtain ⟨cq11, kq11, q11a, q11b, q11c⟩ := isOf hZ e10 E_B_END
        obtain ⟨_, _, ⟨T11, L11, k11, n11⟩, -, X11, ⟨Lc11, hQ11, l11, y11, z11⟩, st11⟩ := X10.virtualBack hx (y := (⟨"com/example/temporalis/temporalis/Operator$Endpoint", "isStart", "()Z"⟩ : MethodName)) (z := (⟨"com/example/temporalis/temporalis/Operator$Endpoint", "isStart", "()Z"⟩ : MethodName)) hown (mvT hZ (hw _ (List.mem_of_getElem? (i := 3) rfl))) (mvT hZ (hw _ (List.mem_of_getElem? (i := 4) rfl))) (notFace_of_selects (args := #[]) (mvT hZ (hw _ (List.mem_of_getElem? (i := 6) rfl)))) (mvT hZ (hw _ (List.mem_of_getElem? (i := 6) rfl))) (mvT hZ (hw _ (List.mem_of_getElem? (i := 5) rfl))) (by decide) (backOf (W := 0) (rm1 l Z a0 hw [] a_B_END a_A_START a_B_START h0 n0 Z0 S_A_START S_B_START) hZ (hw _ (List.mem_of_getElem? (i := 7) rfl)) (hw _ (List.mem_of_getElem? (i := 1) rfl)) (by decide) (by decide)) q11a q11c (g := (mkF m 52 #[.val (.int u), .val (.int (u &&& (3 : Int32))), .val (.ref a_B_END), .val (.int (0 : Int32))] [(.ref a_B_END)])) rfl (by rw [hml]; rfl) (Steps.refl _) (argsL := []) (rest := []) (lenOf pd_0 rfl) rfl (by show 2 * 0 + _ ≤ _; exact Nat.le_of_eq rfl) (hb hby at_52) (fun _ _ => ⟨rfl, e10, (by decide : 0 + 0 ≤ _), (by decide : 0 + 0 ≤ _)⟩)
        dsimp only [Pt.U, Pt.locs, Pt.cells, Pt.slots] at X11 l11 y11 z11 st11 hQ11
        subst l11 y11 z11
        obtain ⟨rfl, N11q, e11⟩ := hQ11
        have N11 := Fr.app N0 N11q
        refine own_by (T' := T11) (g' := (mkF m 55 #[.val (.int u), .val (.int (u &&& (3 : Int32))), .val (.ref a_B_END), .val (.int (0 : Int32))] [(.int (if a_B_END = a_A_START then (1 : Int32) else if a_B_END = a_B_START then (1 : Int32) else (0 : Int32)))])) (fun _ k => st11.trans k) ?_
        refine own_by (T' := T11) (g' := (mkF m 56 #[.val (.int u), .val (.int (u &&& (3 : Int32))), .val (.ref a_B_END), .val (.int (0 : Int32))] [(.int (0 : Int32)), (.int (if a_B_END = a_A_START then (1 : Int32) else if a_B_END = a_B_START then (1 : Int32) else (0 : Int32)))])) (fun _ k => XS.iloadN X11.here hx rfl (hb hby at_55) rfl k) ?_
        refine own_by (T' := T11) (g' := (mkF m 59 #[.val (.int u), .val (.int (u &&& (3 : Int32))), .val (.ref a_B_END), .val (.int (0 : Int32))] [])) (fun _ k => XS.icmpNo X11.here hx rfl (hb hby at_56) rfl (teq ((if_neg ne_BE_AS).trans (if_neg ne_BE_BS))).2 k) ?_
        refine own_by (T' := T11) (g' := (mkF m 60 #[.val (.int u), .val (.int (u &&& (3 : Int32))), .val (.ref a_B_END), .val (.int (0 : Int32))] [(.int (1 : Int32))])) (fun _ k => XS.iconst X11.here hx rfl (hb hby at_59) k) ?_
        refine own_by (T' := T11) (g' := (mkF m 64 #[.val (.int u), .val (.int (u &&& (3 : Int32))), .val (.ref a_B_END), .val (.int (0 : Int32))] [(.int (1 : Int32))])) (fun _ k => XS.goto X11.here hx rfl (pc0 := 60) (pc' := 64) rfl (hb hby at_60) (by decide) (by decide) k) ?_
        refine own_ret X11 hlk (v := some (.int (1 : Int32))) (fun h => by rw [Bd.returns] at h; cases h) (fun fs hr => retN X11 hx (t := .boolean) Bd.returns (by simp) (hb hby at_64) hr) ?_ (by decide) (by decide)
        rw [e11]
        exact ⟨rfl, N11⟩
set_option maxRecDepth 65536 in
set_option maxHeartbeats 40000000 in
theorem comes_1 {Post : Tables → Env → Array Value → State → Outcome → State → Prop} (hpost : ∀ tb e args s v u, (limb_1_1.after args s (.returned v) u = true ∧ limb_1_2.after args s (.returned v) u = true ∧ True) → FrameEnd s (.returned v) u (Jvm.fieldLocs frame_1_writes args s ++ Jvm.arrayLocs frame_1_arrays args s ++ Jvm.staticLocs frame_1_statics s) 0 0 → Post tb e args s (.returned v) u) :
    ArmFor flags0 classFile x code maxLocals ret World_1 tables_1 room_1 Calls_1 rest_1 Pre_1 Post := by
  intro l hfl _ _ p e ha hc hk s m args below hf hA hF happ hP
  obtain ⟨hcalls, hrest, hpre⟩ := hP
  obtain ⟨-, -, -, hnamed, -, -, -, hat⟩ := (Spec.applies_iff hf).mp happ
  obtain ⟨hg, hn⟩ := and_e (Cond.before_iff.mp (show (Jvm.Cond.and given_1 narrow_1).before args s = true from hpre))
  obtain ⟨g1, g2⟩ := and_e hg
  obtain ⟨w0, rfl⟩ : ∃ w0 : Value, args = #[w0] := by
    have hs : args.size = 1 := by simpa [Cond.value, given_1] using g1
    obtain ⟨L⟩ := args
    match L, hs with
    | [w0], _ => exact ⟨w0, rfl⟩
  have hw := fun d (hd : d ∈ tables_1) => atoms_spec (ws := Jvm.Cond.code x code maxLocals ret :: tables_1) hat d (List.mem_cons_of_mem _ hd)
  have hfit : Fit s := fun {y c} hc i hi => by
    obtain ⟨ha, rfl⟩ := Array.getElem?_eq_some_iff.mp hc
    have q := List.all_eq_true.mp ((Array.all_eq_true_iff_forall_mem.mp hF) _ (Array.getElem_mem ha)) i (List.mem_range.mpr hi)
    simpa [Array.getElem?_eq_getElem hi] using q
  obtain ⟨i0, ei0⟩ := is_v g2
  obtain rfl : w0 = (.int i0) := Option.some.inj ei0
  obtain ⟨n1, n2⟩ := and_e hn
  obtain ⟨n3, n4⟩ := and_e n2
  obtain ⟨n5, n6⟩ := and_e n4
  obtain ⟨n7, n8⟩ := and_e n6
  obtain ⟨n9, n10⟩ := and_e n8
  obtain ⟨n11, n12⟩ := and_e n10
  obtain ⟨n13, n14⟩ := and_e n12
  obtain ⟨a_A_START, ev_A_START⟩ := exa_v n1
  have E_A_START : Exa s s.heap a_A_START "com/example/temporalis/temporalis/Operator$Endpoint" := Exa.start ev_A_START n1
  have S_A_START : Sta s s.heap "com/example/temporalis/temporalis/Operator$Endpoint" "A_START" "Lcom/example/temporalis/temporalis/Operator$Endpoint;" (.ref a_A_START) := Sta.start ev_A_START (Or.inr ⟨(hw _ (List.mem_of_getElem? (i := 1) rfl)), (hw _ (List.mem_of_getElem? (i := 2) rfl))⟩)
  obtain ⟨a_B_END, ev_B_END⟩ := exa_v n3
  have E_B_END : Exa s s.heap a_B_END "com/example/temporalis/temporalis/Operator$Endpoint" := Exa.start ev_B_END n3
  have S_B_END : Sta s s.heap "com/example/temporalis/temporalis/Operator$Endpoint" "B_END" "Lcom/example/temporalis/temporalis/Operator$Endpoint;" (.ref a_B_END) := Sta.start ev_B_END (Or.inr ⟨(hw _ (List.mem_of_getElem? (i := 1) rfl)), (hw _ (List.mem_of_getElem? (i := 10) rfl))⟩)
  obtain ⟨a_B_START, ev_B_START⟩ := exa_v n9
  have E_B_START : Exa s s.heap a_B_START "com/example/temporalis/temporalis/Operator$Endpoint" := Exa.start ev_B_START n9
  have S_B_START : Sta s s.heap "com/example/temporalis/temporalis/Operator$Endpoint" "B_START" "Lcom/example/temporalis/temporalis/Operator$Endpoint;" (.ref a_B_START) := Sta.start ev_B_START (Or.inr ⟨(hw _ (List.mem_of_getElem? (i := 1) rfl)), (hw _ (List.mem_of_getElem? (i := 12) rfl))⟩)
  obtain ⟨a_A_END, ev_A_END⟩ := exa_v n13
  have E_A_END : Exa s s.heap a_A_END "com/example/temporalis/temporalis/Operator$Endpoint" := Exa.start ev_A_END n13
  have S_A_END : Sta s s.heap "com/example/temporalis/temporalis/Operator$Endpoint" "A_END" "Lcom/example/temporalis/temporalis/Operator$Endpoint;" (.ref a_A_END) := Sta.start ev_A_END (Or.inr ⟨(hw _ (List.mem_of_getElem? (i := 1) rfl)), (hw _ (List.mem_of_getElem? (i := 15) rfl))⟩)
  have F_B_END_ordinal : Fld s s.heap a_B_END "java/lang/Enum" "ordinal" "I" (.int (3 : Int32)) := own_fld ev_B_END n5
  have F_A_START_ordinal : Fld s s.heap a_A_START "java/lang/Enum" "ordinal" "I" (.int (0 : Int32)) := own_fld ev_A_START n7
  have F_B_START_ordinal : Fld s s.heap a_B_START "java/lang/Enum" "ordinal" "I" (.int (2 : Int32)) := own_fld ev_B_START n11
  have F_A_END_ordinal : Fld s s.heap a_A_END "java/lang/Enum" "ordinal" "I" (.int (1 : Int32)) := own_fld ev_A_END n14
  have ne_AE_AS : ¬ a_A_END = a_A_START := Fld.ne F_A_END_ordinal F_A_START_ordinal (own_vne (by decide))
  have ne_AE_BS : ¬ a_A_END = a_B_START := Fld.ne F_A_END_ordinal F_B_START_ordinal (own_vne (by decide))
  have ne_BS_AS : ¬ a_B_START = a_A_START := Fld.ne F_B_START_ordinal F_A_START_ordinal (own_vne (by decide))
  have ne_BE_AS : ¬ a_B_END = a_A_START := Fld.ne F_B_END_ordinal F_A_START_ordinal (own_vne (by decide))
  have ne_BE_BS : ¬ a_B_END = a_B_START := Fld.ne F_B_END_ordinal F_B_START_ordinal (own_vne (by decide))
  obtain ⟨n, o, h1, h2, h3, _, L, rfl, ⟨rfl, N⟩, hq⟩ := rm0 l s _ hw tables_1 i0 a_A_START a_A_END a_B_START a_B_END s.heap s.heap.size (Nat.le_refl _) S_A_START S_A_END S_B_START S_B_END E_A_START E_A_END E_B_START E_B_END ne_AE_AS ne_AE_BS ne_BS_AS ne_BE_AS ne_BE_BS p e ha hc hk s m _ below hf ((Spec.applies_iff_loose hf).mp happ).1 ⟨rfl, State.Warmed39.refl s, rfl⟩ trivial
  refine ⟨n, _, h1, h2, h3, hpost _ _ _ _ _ _ ⟨Cond.after_iff.mpr rfl, Cond.after_iff.mpr (eq_i res_at (Term.int_eval (1)) rfl), trivial⟩ ⟨hq.1, hq.2.1, (hq.2.2.sift fun y hy => Or.inr (N y hy)).mono (by decide) (by decide)⟩⟩
theorem main_1_1 : Claimed_1_1 := comes_1 fun _ _ _ _ _ _ h hF => ⟨h.1, hF⟩
theorem main_1_2 : Claimed_1_2 := comes_1 fun _ _ _ _ _ _ h hF => ⟨h.2.1, hF⟩
end Jvm.Pilot.@@N@@
namespace Jvm.Pilot.@@N@@
open Jvm Jvm.ClassFile Sem Op Lib Jvm.Free Jvm.Stand Jvm.Pilot.@@N@@.Jvm.D
/-! MADE BY PROGRAM (witnessworld.py) out of the Statement's table words and the real class files: 10 classes; the members and pool entries that the words name. The judged class is class 1, her method 1. -/
namespace start1
open Jvm.ClassFile
def u (s : String) : CpInfo := .utf8 (stringToUtf16 s)
/-- a pool by its gaps: so many unusable entries, then the entry; so many at the end -/
def gap : Nat → List CpInfo → List CpInfo
  | 0, r => r
  | n + 1, r => .unusable :: gap n r
def poolList (es : List (Nat × CpInfo)) (last : Nat) : List CpInfo := es.foldr (fun e r => gap e.1 (e.2 :: r)) (gap last [])
def pool (es : List (Nat × CpInfo)) (last : Nat) : Array CpInfo := ⟨poolList es last⟩
def fileOf (pool : Array CpInfo) (this : Nat) (attrs : Array Attribute := #[]) (ms : Array MethodInfo := #[]) (fl : Nat := 33) (sup : Nat := 0) (ifs : Array Nat := #[]) (fds : Array FieldInfo := #[]) : ClassFile where
  minorVersion := 0
  majorVersion := 65
  constantPool := pool
  accessFlags := fl
  thisClass := this
  superClass := sup
  interfaces := ifs
  fields := fds
  methods := ms
  attributes := attrs
def plain (name : String) (sup : Option ClassId) : Class where
  name := name
  kind := .ordinary
  loader := none
  accessFlags := 33
  super := sup
  interfaces := #[]
  cf := none
  fields := #[]
  methods := #[]
  instanceTypes := #[]
  staticTypes := #[]
  resolved := #[]
  callSites := []
  init := .initialized
  statics := none
  mirror := none

def pool0 : Array CpInfo := pool [(5, u "<init>"), (0, u "()V"), (1, .class_ 10), (1, u "java/lang/Object")] 113

def k0m0 : Method := { name := "<init>", desc := "()V", sig := { parameters := [], returnType := none }, accessFlags := 1, code := none }
/-- java/lang/Object -/
def k0 : Class := { plain "java/lang/Object" none with
  accessFlags := 33
  interfaces := #[]
  cf := some (fileOf pool0 8 #[] #[{ accessFlags := 1, nameIndex := 5, descriptorIndex := 6, attributes := #[] }] 33 0 #[] #[])
  fields := #[]
  methods := #[k0m0]
  instanceTypes := #[]
  staticTypes := #[]
  resolved := Array.replicate 124 none
  statics := none }

def pool1 : Array CpInfo := pool [(2, .class_ 4), (1, u "java/lang/Object"), (0, u "<init>"), (0, u "()V"), (0, .fieldref 8 9), (0, .class_ 10), (0, .nameAndType 11 12), (0, u "com/example/temporalis/temporalis/Operator$Endpoint"), (0, u "A_START"), (0, u "Lcom/example/temporalis/temporalis/Operator$Endpoint;"), (0, .fieldref 8 14), (0, .nameAndType 15 12), (0, u "A_END"), (0, .fieldref 8 17), (0, .nameAndType 18 12), (0, u "B_START"), (0, .fieldref 8 20), (0, .nameAndType 21 12), (0, u "B_END"), (0, .methodref 8 23), (0, .nameAndType 24 25), (0, u "isStart"), (0, u "()Z"), (0, .class_ 27), (0, u "com/example/temporalis/temporalis/EndpointIsStartPinLaw"), (2, u "law"), (0, u "(I)Z")] 7

def k1m0 : Method := { name := "<init>", desc := "()V", sig := { parameters := [], returnType := none }, accessFlags := 2, code := none }
def k1c1 : Code := { maxStack := 2, maxLocals := 4, code := code, exceptionTable := #[], attributes := #[] }
def k1m1 : Method := { name := "law", desc := "(I)Z", sig := { parameters := [.int], returnType := some .boolean }, accessFlags := 9, code := some k1c1 }
/-- com/example/temporalis/temporalis/EndpointIsStartPinLaw -/
def k1 : Class := { plain "com/example/temporalis/temporalis/EndpointIsStartPinLaw" (some 0) with
  accessFlags := 49
  interfaces := #[]
  cf := some (fileOf pool1 26 #[] #[{ accessFlags := 2, nameIndex := 5, descriptorIndex := 6, attributes := #[] }, { accessFlags := 9, nameIndex := 30, descriptorIndex := 31, attributes := #[] }] 49 2 #[] #[])
  fields := #[]
  methods := #[k1m0, k1m1]
  instanceTypes := #[]
  staticTypes := #[]
  resolved := Array.replicate 39 none
  statics := none }

def pool2 : Array CpInfo := pool [(1, .class_ 2), (0, u "java/lang/constant/Constable"), (0, .class_ 4), (0, u "java/lang/Object")] 6

/-- java/lang/constant/Constable -/
def k2 : Class := { plain "java/lang/constant/Constable" (some 0) with
  accessFlags := 1537
  interfaces := #[]
  cf := some (fileOf pool2 1 #[] #[] 1537 3 #[] #[])
  fields := #[]
  methods := #[]
  instanceTypes := #[]
  staticTypes := #[]
  resolved := Array.replicate 11 none
  statics := none }

def pool3 : Array CpInfo := pool [(1, .class_ 2), (0, u "java/lang/Comparable"), (0, .class_ 4), (0, u "java/lang/Object")] 7

/-- java/lang/Comparable -/
def k3 : Class := { plain "java/lang/Comparable" (some 0) with
  accessFlags := 1537
  interfaces := #[]
  cf := some (fileOf pool3 1 #[] #[] 1537 3 #[] #[])
  fields := #[]
  methods := #[]
  instanceTypes := #[]
  staticTypes := #[]
  resolved := Array.replicate 12 none
  statics := none }

def pool4 : Array CpInfo := pool [(1, .class_ 2), (0, u "java/io/Serializable"), (0, .class_ 4), (0, u "java/lang/Object")] 2

/-- java/io/Serializable -/
def k4 : Class := { plain "java/io/Serializable" (some 0) with
  accessFlags := 1537
  interfaces := #[]
  cf := some (fileOf pool4 1 #[] #[] 1537 3 #[] #[])
  fields := #[]
  methods := #[]
  instanceTypes := #[]
  staticTypes := #[]
  resolved := Array.replicate 7 none
  statics := none }

def pool5 : Array CpInfo := pool [(2, .class_ 4), (1, u "java/lang/Enum"), (0, u "name"), (0, u "Ljava/lang/String;"), (2, u "ordinal"), (0, u "I"), (1, .class_ 14), (1, u "java/lang/Object"), (4, u "hash"), (86, .class_ 108), (1, u "java/lang/Enum$EnumDesc"), (2, .class_ 112), (0, u "java/lang/constant/Constable"), (0, .class_ 114), (0, u "java/lang/Comparable"), (0, .class_ 116), (0, u "java/io/Serializable")] 87

/-- java/lang/Enum -/
def k5 : Class := { plain "java/lang/Enum" (some 0) with
  accessFlags := 1057
  interfaces := #[2, 3, 4]
  cf := some (fileOf pool5 2 #[.nestMembers #[106]] #[] 1057 12 #[111, 113, 115] #[{ accessFlags := 18, nameIndex := 5, descriptorIndex := 6, attributes := #[] }, { accessFlags := 18, nameIndex := 9, descriptorIndex := 10, attributes := #[] }, { accessFlags := 2, nameIndex := 19, descriptorIndex := 10, attributes := #[] }])
  fields := #[{ name := "name", type := (.object "java/lang/String"), accessFlags := 18, slot := 0, constantValue := 0 }, { name := "ordinal", type := .int, accessFlags := 18, slot := 1, constantValue := 0 }, { name := "hash", type := .int, accessFlags := 2, slot := 2, constantValue := 0 }]
  methods := #[]
  instanceTypes := #[(.object "java/lang/String"), .int, .int]
  staticTypes := #[]
  resolved := Array.replicate 204 none
  statics := none }

def pool6 : Array CpInfo := pool [(1, .class_ 2), (0, u "com/example/temporalis/temporalis/Operator$Endpoint"), (0, .fieldref 1 4), (0, .nameAndType 5 6), (0, u "A_START"), (0, u "Lcom/example/temporalis/temporalis/Operator$Endpoint;"), (2, u "A_END"), (0, .fieldref 1 11), (0, .nameAndType 12 6), (0, u "B_START"), (2, u "B_END"), (2, u "$VALUES"), (0, u "[Lcom/example/temporalis/temporalis/Operator$Endpoint;"), (6, .class_ 28), (1, u "java/lang/Enum"), (51, u "()Z"), (0, u "isStart"), (7, .class_ 90), (0, u "com/example/temporalis/temporalis/Operator")] 3

def k6c0 : Code := { maxStack := 2, maxLocals := 1, code := prog_54_method_6_code, exceptionTable := #[], attributes := #[] }
def k6m0 : Method := { name := "isStart", desc := "()Z", sig := { parameters := [], returnType := some .boolean }, accessFlags := 0, code := some k6c0 }
/-- com/example/temporalis/temporalis/Operator$Endpoint -/
def k6 : Class := { plain "com/example/temporalis/temporalis/Operator$Endpoint" (some 5) with
  accessFlags := 16432
  interfaces := #[]
  cf := some (fileOf pool6 1 #[.nestHost 89] #[{ accessFlags := 0, nameIndex := 81, descriptorIndex := 80, attributes := #[] }] 16432 26 #[] #[{ accessFlags := 16409, nameIndex := 5, descriptorIndex := 6, attributes := #[] }, { accessFlags := 16409, nameIndex := 9, descriptorIndex := 6, attributes := #[] }, { accessFlags := 16409, nameIndex := 12, descriptorIndex := 6, attributes := #[] }, { accessFlags := 16409, nameIndex := 15, descriptorIndex := 6, attributes := #[] }, { accessFlags := 4122, nameIndex := 18, descriptorIndex := 19, attributes := #[] }])
  fields := #[{ name := "A_START", type := (.object "com/example/temporalis/temporalis/Operator$Endpoint"), accessFlags := 16409, slot := 0, constantValue := 0 }, { name := "A_END", type := (.object "com/example/temporalis/temporalis/Operator$Endpoint"), accessFlags := 16409, slot := 1, constantValue := 0 }, { name := "B_START", type := (.object "com/example/temporalis/temporalis/Operator$Endpoint"), accessFlags := 16409, slot := 2, constantValue := 0 }, { name := "B_END", type := (.object "com/example/temporalis/temporalis/Operator$Endpoint"), accessFlags := 16409, slot := 3, constantValue := 0 }, { name := "$VALUES", type := (.array (.object "com/example/temporalis/temporalis/Operator$Endpoint")), accessFlags := 4122, slot := 4, constantValue := 0 }]
  methods := #[k6m0]
  instanceTypes := #[(.object "java/lang/String"), .int, .int]
  staticTypes := #[(.object "com/example/temporalis/temporalis/Operator$Endpoint"), (.object "com/example/temporalis/temporalis/Operator$Endpoint"), (.object "com/example/temporalis/temporalis/Operator$Endpoint"), (.object "com/example/temporalis/temporalis/Operator$Endpoint"), (.array (.object "com/example/temporalis/temporalis/Operator$Endpoint"))]
  resolved := Array.replicate 94 none
  statics := some 0 }

def pool7 : Array CpInfo := pool [(1, u "java/lang/Cloneable"), (0, .class_ 1), (0, u "java/lang/Object"), (0, .class_ 3)] 3

/-- java/lang/Cloneable -/
def k7 : Class := { plain "java/lang/Cloneable" (some 0) with
  accessFlags := 1537
  interfaces := #[]
  cf := some (fileOf pool7 2 #[] #[] 1537 4 #[] #[])
  fields := #[]
  methods := #[]
  instanceTypes := #[]
  staticTypes := #[]
  resolved := Array.replicate 8 none
  statics := none }

/-- the primitive byte -/
def k8 : Class := { plain "byte" none with kind := .primitive 'B', accessFlags := 0x411 }
/-- [B -/
def k9 : Class := { plain "[B" (some 0) with kind := .array 8 .byte, interfaces := #[7, 4], accessFlags := 1041 }

def heap : Heap := #[{ cls := 6, slots := #[.ref 1, .ref 2, .ref 3, .ref 4, .null], vm := .statics 6 },
  { cls := 6, slots := #[.null, .int 0, .int 0], vm := .none },
  { cls := 6, slots := #[.null, .int 1, .int 0], vm := .none },
  { cls := 6, slots := #[.null, .int 2, .int 0], vm := .none },
  { cls := 6, slots := #[.null, .int 3, .int 0], vm := .none }]
def classes : Array Class := #[k0, k1, k2, k3, k4, k5, k6, k7, k8, k9]
def interned : List (Array UInt16 × Addr) := []
def slotsUsed : Nat := 17
def theMethod : MethodId := ⟨1, 1⟩
def args0 : Array Value := #[.int 5]
def aboutOver (below : List Frame) : State where
  vm := { classes := classes, interned := interned.toArray }
  heap := heap
  slotsUsed := slotsUsed
  threads := #[{ frames := .invoking theMethod args0 :: below }]
def below0 : List Frame := [.native { method := ⟨0, 0⟩, args := #[] }]
def about1 : State := aboutOver below0
def p0 : Program := .bare "" "" ""
def e0 : Env := launch0.env 0 0 0
theorem w_frames : about1.frames = Frame.invoking theMethod args0 :: below0 := rfl
set_option maxRecDepth 65536 in
theorem w_args : argsFit about1.vm theMethod args0 = true := by decide +kernel
set_option maxRecDepth 65536 in
theorem w_heap : heapFits about1 = true := by decide +kernel
set_option maxRecDepth 65536 in
theorem w_runnable : about1.curStatus? = some .runnable := by decide +kernel
set_option maxRecDepth 65536 in
theorem w_alone : about1.alone = true := by decide +kernel
set_option maxRecDepth 65536 in
theorem w_named : about1.methodNamed? x = some theMethod := by decide +kernel
set_option maxRecDepth 65536 in
theorem w_hears : about1.hears theMethod below0 = true := by decide +kernel
set_option maxRecDepth 65536 in
theorem w_ripe : about1.ripe theMethod args0 below0 = true := by decide +kernel
theorem w_running : about1.status = .running := rfl
set_option maxRecDepth 65536 in
theorem w_room : about1.hasRoom e0.platform room_1 = true :=
  launch0.hasRoom_least _ room_1 (by decide +kernel) (by decide +kernel) (by decide +kernel) (by decide +kernel) (by decide +kernel) (by decide +kernel)
theorem allAtoms_all (ts : List Jvm.Cond) (a : Array Jvm.Value) (st : Jvm.State) : (allAtoms ts).before a st = ts.all (fun c => c.before a st) := by
  induction ts with
  | nil => rfl
  | cons c t ih =>
    show (Jvm.Cond.and c (allAtoms t)).before a st = _
    rw [Jvm.Cond.before_and, ih, List.all_cons]
def words1 : List Jvm.Cond := Jvm.Cond.code x code maxLocals ret :: tables_1
/-- a 'code' word, met by the world's own term for the bytes: nothing is compared byte by byte -/
theorem code_word {y : MethodName} {bytes : ByteArray} {mx : Nat} {rt : Option FieldType} {a : Array Value} {s : State} {m : MethodId} {meth : Method} {c : Code} (h1 : s.methodNamed? y = some m) (h2 : s.vm.method? m = some meth) (h3 : meth.code = some c) (h4 : c.code = bytes)
    (h5 : (c.maxLocals == mx && c.exceptionTable.isEmpty && decide (c.maxStack ≤ mostOperands) && decide (meth.sig.returnType = rt) && !meth.locks && decide (parseMethodDescriptor y.desc = some meth.sig)) = true) : (Jvm.Cond.code y bytes mx rt).before a s = true := by
  simp only [Bool.and_eq_true, beq_iff_eq, Bool.not_eq_true', decide_eq_true_eq] at h5
  obtain ⟨⟨⟨⟨⟨g1, g2⟩, g3⟩, g4⟩, g5⟩, g6⟩ := h5
  simp [Cond.before, Cond.holds, Cond.value, h1, h2, h3, h4, g1, g2, g3, g4, g5, g6]
def isCode : Jvm.Cond → Bool
  | .code _ _ _ _ => true
  | _ => false
theorem all_split {L : List Jvm.Cond} {P : Jvm.Cond → Bool} (h1 : L.all (fun c => isCode c || P c) = true) (h2 : ∀ c ∈ L.filter isCode, P c = true) : L.all P = true := by
  refine List.all_eq_true.mpr fun c hc => ?_
  have h := List.all_eq_true.mp h1 c hc
  rcases Bool.eq_false_or_eq_true (isCode c) with hi | hi
  · exact h2 c (List.mem_filter.mpr ⟨hc, hi⟩)
  · simpa [hi] using h
set_option maxRecDepth 65536 in
theorem w_c0 : (Jvm.Cond.code x code maxLocals ret).before args0 about1 = true := code_word (m := ⟨1, 1⟩) (meth := k1m1) (c := k1c1) (by decide +kernel) rfl rfl rfl (by decide +kernel)
set_option maxRecDepth 65536 in
theorem w_c1 : (Jvm.Cond.code ({ cls := "com/example/temporalis/temporalis/Operator$Endpoint", name := "isStart", desc := "()Z" } : Jvm.MethodName) prog_54_method_6_code (1 : Nat) (Option.some Jvm.ClassFile.FieldType.boolean)).before args0 about1 = true := code_word (m := ⟨6, 0⟩) (meth := k6m0) (c := k6c0) (by decide +kernel) rfl rfl rfl (by decide +kernel)
def codes1 : List Jvm.Cond := [Jvm.Cond.code x code maxLocals ret, Jvm.Cond.code ({ cls := "com/example/temporalis/temporalis/Operator$Endpoint", name := "isStart", desc := "()Z" } : Jvm.MethodName) prog_54_method_6_code (1 : Nat) (Option.some Jvm.ClassFile.FieldType.boolean)]
set_option maxRecDepth 65536 in
theorem codes_eq : words1.filter isCode = codes1 := rfl
theorem w_codes : ∀ c ∈ words1.filter isCode, c.before args0 about1 = true := by
  rw [codes_eq]
  intro c hc
  simp only [codes1, List.mem_cons, List.not_mem_nil, or_false] at hc
  rcases hc with rfl | rfl
  · exact w_c0
  · exact w_c1
set_option maxRecDepth 65536 in
theorem w_t1 : words1.all (fun c => isCode c || c.before args0 about1) = true := by decide +kernel
theorem w_tables : (allAtoms (Jvm.Cond.code x code maxLocals ret :: tables_1)).before args0 about1 = true := by
  rw [allAtoms_all]
  show words1.all (fun c => c.before args0 about1) = true
  refine all_split ?_ w_codes
  rw [w_t1]
set_option maxRecDepth 65536 in
theorem w_case : (Jvm.Cond.and given_1 narrow_1).before args0 about1 = true := by decide +kernel
theorem w_applies : (headSpec (Jvm.Cond.code x code maxLocals ret :: tables_1) room_1).applies x e0.platform about1 = true :=
  (Spec.applies_iff w_frames).mpr ⟨w_running, w_runnable, w_alone, w_named, w_hears, w_ripe, w_room, w_tables⟩
theorem atStart : AtStart classFile x code maxLocals ret World_1 tables_1 room_1 Calls_1 rest_1 Pre_1 launch0 p0 e0 about1 theMethod args0 below0 :=
  ⟨lists_1, trivial, launch0.admits_env _ _ _, launch0.least_env, fairChoices_fair.cas, fairChoices_fair.clock, w_frames, w_args, w_heap, w_applies, trivial, trivial, w_case⟩
end start1
theorem witness_1 : WitnessClaimed_1 := ⟨start1.p0, start1.e0, start1.about1, start1.theMethod, start1.args0, start1.below0, start1.atStart⟩
end Jvm.Pilot.@@N@@
