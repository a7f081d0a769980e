import JvmDerived
import JvmDerived.Pilot.@@N@@Statement
import JvmDerived.Pilot.@@N@@Code
set_option linter.unusedVariables false
set_option linter.unusedSimpArgs false
namespace Jvm.RoadKit
open Sem ClassFile Op Lib Jvm.Stand Jvm.Free Jvm.LawKit
section New
variable {p : Program} {l : Launch} {e : Env} {R : Room} {s : State} {m : MethodId} {args : Array Value} {below : List Frame} {meth : Method} {c : Code} {T : State} {locs : List Loc} {cells slots : Nat}
theorem retI (X : Stand p l e R s m args below meth c T locs cells slots) (hx : p.tables.exec = Jvm.exec) {pc : Nat} {Ls : Array Slot} {z : Int32} {rest : List Value} (hret : meth.sig.returnType = some .int) (hd : decode c.code pc = .ok (.ireturn, 1)) {fs : List Frame}
    (hl : ∀ (f : JFrame) (acts : List Action), f.method = m → f.locked = none → f.entered = [] → (doReturn e (T.setTop f) acts (some (.int z))).1 = T.setFrames fs) : Steps p.tables e below (T.setTop (mkF m pc Ls (.int z :: rest))) (T.setFrames fs) := by
  have hm' : T.vm.method? m = some meth := X.method'
  have hn : narrow .int (.int z) = .int z := rfl
  show Steps p.tables e below (T.setTop { method := m, pc := pc, locals := Ls, stack := _ :: rest, locked := none }) _
  jvm_step X.here [X.here.top, hx, hd, hm', hret, hn]
  first | (intro acts; rw [hl _ acts rfl rfl rfl]) | rw [hl _ _ rfl rfl rfl]
  exact Steps.refl _
/-- from the state T with the frame g on top the run ends, returned, with Q -/
def own_Go (tb : Tables) (e : Env) (below : List Frame) (Q : Option Value → Heap → List Loc → Prop) (s : State) (C S : Nat) (T : State) (g : JFrame) : Prop :=
  ∃ t o, Steps tb e below (T.setTop g) t ∧ t.status = .running ∧ Ended t below o ∧ ∃ v L, o = .returned v ∧ Q v t.heap L ∧ FrameEnd s o t L C S
theorem own_by {tb : Tables} {Q : Option Value → Heap → List Loc → Prop} {C S : Nat} {T T' : State} {g g' : JFrame} (st : ∀ target, Steps tb e below (T'.setTop g') target → Steps tb e below (T.setTop g) target) (k : own_Go tb e below Q s C S T' g') : own_Go tb e below Q s C S T g := by
  obtain ⟨t, o, h1, h2⟩ := k
  exact ⟨t, o, st t h1, h2⟩
theorem bN {tb : Tables} {Q : Option Value → Heap → List Loc → Prop} {C S : Nat} {T : State} {g : JFrame} (T' : State) (g' : JFrame) (st : ∀ target, Steps tb e below (T'.setTop g') target → Steps tb e below (T.setTop g) target) (k : own_Go tb e below Q s C S T' g') : own_Go tb e below Q s C S T g := own_by st k
/-- the contract of a body: from the heap h0, with the arguments A, it returns, with Q -/
abbrev own_M (l : Launch) (y : MethodName) (code : ByteArray) (ml : Nat) (rt : Option FieldType) (ws : List Cond) (R : Room) (Z : State) (A : Array Value) (h0 : Heap) (Q : Option Value → Heap → List Loc → Prop) : Prop :=
  MetFree l y (head1 (Cond.code y code ml rt :: ws) R) (fun a U => a = A ∧ Z.Warmed39 U.vm ∧ U.heap = h0) (fun _ _ _ _ _ => True) (fun _ U o U' => ∃ v L, o = .returned v ∧ Q v U'.heap L ∧ FrameEnd U o U' L R.cells R.slots)
theorem own_bd {y : MethodName} {code : ByteArray} {ml : Nat} {rt : Option FieldType} {ws : List Cond} {Z : State} {A : Array Value} {h0 : Heap} {Q : Option Value → Heap → List Loc → Prop} (hpl : plainFor y = true)
    (k : ∀ p e s m below meth c s₁, BodyLoose p l y (head1 (Cond.code y code ml rt :: ws) R) code ml rt e s m A below meth c s₁ → p.tables.exec = Jvm.exec → c.code = code → c.maxLocals = ml → s.vm.findClass y.cls = some m.cls → meth.name = y.name → meth.locks = false → Z.Warmed39 s.vm → Stand p l e R s m A below meth c s₁ [] 0 0 → s₁.heap = h0 → own_Go p.tables e below Q s R.cells R.slots s₁ (entryFrame m A ml)) : own_M l y code ml rt ws R Z A h0 Q := by
  refine MetFree.of_bodySF hpl hisR ?_
  intro p e s m args below meth c s₁ Bd hml hP hK
  obtain ⟨rfl, hZ, hh⟩ := hP
  exact k p e s m below meth c s₁ Bd Bd.exec Bd.bytes hml (findClass_of_methodNamed Bd.named) (name_of_methodNamed Bd.named Bd.method).1 Bd.notSynchronized hZ (Stand.of_body Bd) (by rw [← hh, Bd.state]; rfl)
theorem own_ret {Q : Option Value → Heap → List Loc → Prop} {C S : Nat} {g : JFrame} (X : Stand p l e R s m args below meth c T locs cells slots) (hlk : meth.locks = false) {v : Option Value} (hv : meth.sig.returnType = none → v = none)
    (st : ∀ fs, (∀ (f : JFrame) (acts : List Action), f.method = m → f.locked = none → f.entered = [] → (doReturn e (T.setTop f) acts v).1 = T.setFrames fs) → Steps p.tables e below (T.setTop g) (T.setFrames fs))
    (hq : Q v T.heap locs) (hc : cells ≤ C) (hs : slots ≤ S) : own_Go p.tables e below Q s C S T g := by
  obtain ⟨fs, hr, hrun, hended, hW, hsame⟩ := X.leave (v := v) hv hlk
  exact ⟨_, _, st fs hr, hrun, hended, v, locs, rfl, hq, ⟨v, rfl⟩, hW, hsame.mono hc hs⟩
end New
end Jvm.RoadKit
namespace Jvm.Pilot.@@N@@
open Jvm Jvm.ClassFile Sem Op Lib Jvm.Free Jvm.Stand Jvm.LawKit Jvm.RoadKit Bundle Jvm.Pilot.@@N@@.Jvm.D
theorem pd_0 : parseMethodDescriptor "(C)Z" = some ⟨[.char], some .boolean⟩ := by decide +kernel
def own_code (u : Int32) : Int32 := if 31 < u ∧ u < 127 then 1 else 0
theorem own_nar (u : Int32) : nar .boolean (own_code u) = own_code u := by unfold own_code; split <;> rfl
theorem own_eqI (x y : Int32) : x = y ↔ x.toInt = y.toInt := Int32.toInt_inj.symm
theorem own_ltI (x y : Int32) : x < y ↔ x.toInt < y.toInt := Int32.lt_iff_toInt_lt
theorem d1_0 : decode prog_12_method_5_code 0 = .ok (.iload_n 0, 1) := by decide +kernel
theorem d1_1 : decode prog_12_method_5_code 1 = .ok (.bipush 32, 2) := by decide +kernel
theorem d1_3 : decode prog_12_method_5_code 3 = .ok (.if_icmp .lt 13, 3) := by decide +kernel
theorem d1_6 : decode prog_12_method_5_code 6 = .ok (.iload_n 0, 1) := by decide +kernel
theorem d1_7 : decode prog_12_method_5_code 7 = .ok (.bipush 126, 2) := by decide +kernel
theorem d1_9 : decode prog_12_method_5_code 9 = .ok (.if_icmp .gt 7, 3) := by decide +kernel
theorem d1_12 : decode prog_12_method_5_code 12 = .ok (.iconst 1, 1) := by decide +kernel
theorem d1_13 : decode prog_12_method_5_code 13 = .ok (.goto 4, 3) := by decide +kernel
theorem d1_16 : decode prog_12_method_5_code 16 = .ok (.iconst 0, 1) := by decide +kernel
theorem d1_17 : decode prog_12_method_5_code 17 = .ok (.ireturn, 1) := by decide +kernel
theorem pn_1 : plainName "com/example/shelfgraph/shelfgraph/ingest/Field" = true := by first | (simp [plainName, overriddenIn]; done) | decide +kernel
theorem ef_rm1 (m : MethodId) (u : Int32) : entryFrame m #[(.int u)] 1 = mkF m 0 #[.val (.int u)] [] := by first | (simp [entryFrame, mkF, argsToLocals, Value.category]; done) | rfl
theorem own_k1 (u : Int32) : (if u < (32 : Int32) then (0 : Int32) else (if (126 : Int32) < u then (0 : Int32) else (1 : Int32))) = own_code u := by
  unfold own_code
  (repeat' split) <;> first | rfl | (exfalso; simp [own_eqI, own_ltI] at *; omega)
def Q_rm1 (Z : State) (u : Int32) (h0 : Heap) (n0 : Nat) (v : Option Value) (h : Heap) (L : List Loc) : Prop := v = some (.int (own_code u)) ∧ Fr n0 L ∧ h = h0
set_option maxRecDepth 65536 in
set_option maxHeartbeats 40000000 in
theorem rm1 (l : Launch) (Z : State) (a0 : Array Value) (hw : ∀ d ∈ tables_1, d.before a0 Z = true) (ws : List Jvm.Cond) (u : Int32) (h0 : Heap) (n0 : Nat) (Z0 : n0 ≤ h0.size) :
    MetFree l (⟨"com/example/shelfgraph/shelfgraph/ingest/Field", "isCode", "(C)Z"⟩ : MethodName) (head1 (Jvm.Cond.code (⟨"com/example/shelfgraph/shelfgraph/ingest/Field", "isCode", "(C)Z"⟩ : MethodName) prog_12_method_5_code 1 (some .boolean) :: ws) ({ frames := 0, cells := 0, slots := 0, locals := 0 } : Room)) (fun zz UU => zz = #[(.int u)] ∧ Z.Warmed39 UU.vm ∧ UU.heap = h0) (fun _ _ _ _ _ => True) (fun _ U o U' => ∃ v L, o = .returned v ∧ Q_rm1 Z u h0 n0 v U'.heap L ∧ FrameEnd U o U' L ({ frames := 0, cells := 0, slots := 0, locals := 0 } : Room).cells ({ frames := 0, cells := 0, slots := 0, locals := 0 } : Room).slots) := by
  refine MetFree.of_bodySF (plainFor_of_name pn_1) hisR ?_
  intro p e s m args below meth c s₁ Bd hml0 hP hK
  obtain ⟨rfl, hZ, hh⟩ := hP
  have hx := Bd.exec
  have hby := Bd.bytes
  have hml : c.maxLocals = 1 := hml0
  have hown : s.vm.findClass "com/example/shelfgraph/shelfgraph/ingest/Field" = some m.cls := findClass_of_methodNamed Bd.named
  have hnm := (name_of_methodNamed Bd.named Bd.method).1
  have hlk : meth.locks = false := BodyLoose.notSynchronized Bd
  have X0 : Stand p l e ({ frames := 0, cells := 0, slots := 0, locals := 0 } : Room) s m #[(.int u)] below meth c s₁ [] 0 0 := Stand.of_body Bd
  have e0 : s₁.heap = h0 := by rw [← hh, Bd.state]; rfl
  have N0 := Fr.nil n0
  show own_Go p.tables e below (Q_rm1 Z u h0 n0) s ({ frames := 0, cells := 0, slots := 0, locals := 0 } : Room).cells ({ frames := 0, cells := 0, slots := 0, locals := 0 } : Room).slots s₁ (entryFrame m #[(.int u)] 1)
  rw [ef_rm1 m u]
  refine own_by (T' := s₁) (g' := (mkF m 1 #[.val (.int u)] [(.int u)])) (fun _ k => XS.iloadN X0.here hx rfl (hb hby d1_0) rfl k) ?_
  refine own_by (T' := s₁) (g' := (mkF m 3 #[.val (.int u)] [(.int (32 : Int32)), (.int u)])) (fun _ k => XS.bipush X0.here hx rfl (hb hby d1_1) k) ?_
  have J2 : ∀ (j1 : Int32) (hv_j1 : j1 = (if u < (32 : Int32) then (0 : Int32) else (if (126 : Int32) < u then (0 : Int32) else (1 : Int32)))) (T3 : State) (_ : Stand p l e ({ frames := 0, cells := 0, slots := 0, locals := 0 } : Room) s m #[(.int u)] below meth c T3 [] 0 0) (_ : T3.heap = h0), own_Go p.tables e below (Q_rm1 Z u h0 n0) s ({ frames := 0, cells := 0, slots := 0, locals := 0 } : Room).cells ({ frames := 0, cells := 0, slots := 0, locals := 0 } : Room).slots T3 (mkF m 17 #[.val (.int u)] [(.int j1)]) := by
    intro j1 hv_j1 T3 X3 e3
    have k_j1 : j1 = own_code u := hv_j1.trans (own_k1 u)
    refine own_ret X3 hlk (v := some (.int (nar .boolean j1))) (fun h => by rw [Bd.returns] at h; cases h) (fun fs hr => retN X3 hx (t := .boolean) Bd.returns (by simp) (hb hby d1_17) hr) ?_ (by decide) (by decide)
    rw [e3]
    exact ⟨congrArg (fun z => some (Value.int z)) ((congrArg (nar .boolean) k_j1).trans (own_nar u)), N0, rfl⟩
  by_cases hc3_4 : u < (32 : Int32)
  · skip
    refine own_by (T' := s₁) (g' := (mkF m 16 #[.val (.int u)] [])) (fun _ k => XS.icmpYes X0.here hx rfl (pc0 := 3) (pc' := 16) rfl (hb hby d1_3) rfl (tlt hc3_4).1 (by decide) (by decide) k) ?_
    refine own_by (T' := s₁) (g' := (mkF m 17 #[.val (.int u)] [(.int (0 : Int32))])) (fun _ k => XS.iconst X0.here hx rfl (hb hby d1_16) k) ?_
    exact J2 _ (if_pos hc3_4).symm s₁ X0 e0
  · skip
    refine own_by (T' := s₁) (g' := (mkF m 6 #[.val (.int u)] [])) (fun _ k => XS.icmpNo X0.here hx rfl (hb hby d1_3) rfl (flt hc3_4).1 k) ?_
    refine own_by (T' := s₁) (g' := (mkF m 7 #[.val (.int u)] [(.int u)])) (fun _ k => XS.iloadN X0.here hx rfl (hb hby d1_6) rfl k) ?_
    refine own_by (T' := s₁) (g' := (mkF m 9 #[.val (.int u)] [(.int (126 : Int32)), (.int u)])) (fun _ k => XS.bipush X0.here hx rfl (hb hby d1_7) k) ?_
    by_cases hc9_5 : (126 : Int32) < u
    · skip
      refine own_by (T' := s₁) (g' := (mkF m 16 #[.val (.int u)] [])) (fun _ k => XS.icmpYes X0.here hx rfl (pc0 := 9) (pc' := 16) rfl (hb hby d1_9) rfl (tlt hc9_5).2.2.1 (by decide) (by decide) k) ?_
      refine own_by (T' := s₁) (g' := (mkF m 17 #[.val (.int u)] [(.int (0 : Int32))])) (fun _ k => XS.iconst X0.here hx rfl (hb hby d1_16) k) ?_
      exact J2 _ ((if_neg hc3_4).trans (if_pos hc9_5)).symm s₁ X0 e0
    · skip
      refine own_by (T' := s₁) (g' := (mkF m 12 #[.val (.int u)] [])) (fun _ k => XS.icmpNo X0.here hx rfl (hb hby d1_9) rfl (flt hc9_5).2.2.1 k) ?_
      refine own_by (T' := s₁) (g' := (mkF m 13 #[.val (.int u)] [(.int (1 : Int32))])) (fun _ k => XS.iconst X0.here hx rfl (hb hby d1_12) k) ?_
      refine own_by (T' := s₁) (g' := (mkF m 17 #[.val (.int u)] [(.int (1 : Int32))])) (fun _ k => XS.goto X0.here hx rfl (pc0 := 13) (pc' := 17) rfl (hb hby d1_13) (by decide) (by decide) k) ?_
      exact J2 _ ((if_neg hc3_4).trans (if_neg hc9_5)).symm s₁ X0 e0
theorem d2_0 : decode method_3_code 0 = .ok (.iload_n 0, 1) := by decide +kernel
theorem d2_1 : decode method_3_code 1 = .ok (.bipush 32, 2) := by decide +kernel
theorem d2_3 : decode method_3_code 3 = .ok (.if_icmp .ne 7, 3) := by decide +kernel
theorem d2_6 : decode method_3_code 6 = .ok (.iconst 1, 1) := by decide +kernel
theorem d2_7 : decode method_3_code 7 = .ok (.goto 4, 3) := by decide +kernel
theorem d2_10 : decode method_3_code 10 = .ok (.iconst 0, 1) := by decide +kernel
theorem d2_11 : decode method_3_code 11 = .ok (.istore_n 1, 1) := by decide +kernel
theorem d2_12 : decode method_3_code 12 = .ok (.iload_n 0, 1) := by decide +kernel
theorem d2_13 : decode method_3_code 13 = .ok (.bipush 48, 2) := by decide +kernel
theorem d2_15 : decode method_3_code 15 = .ok (.if_icmp .lt 13, 3) := by decide +kernel
theorem d2_18 : decode method_3_code 18 = .ok (.iload_n 0, 1) := by decide +kernel
theorem d2_19 : decode method_3_code 19 = .ok (.bipush 57, 2) := by decide +kernel
theorem d2_21 : decode method_3_code 21 = .ok (.if_icmp .gt 7, 3) := by decide +kernel
theorem d2_24 : decode method_3_code 24 = .ok (.iconst 1, 1) := by decide +kernel
theorem d2_25 : decode method_3_code 25 = .ok (.goto 4, 3) := by decide +kernel
theorem d2_28 : decode method_3_code 28 = .ok (.iconst 0, 1) := by decide +kernel
theorem d2_29 : decode method_3_code 29 = .ok (.istore_n 2, 1) := by decide +kernel
theorem d2_30 : decode method_3_code 30 = .ok (.iload_n 0, 1) := by decide +kernel
theorem d2_31 : decode method_3_code 31 = .ok (.bipush 65, 2) := by decide +kernel
theorem d2_33 : decode method_3_code 33 = .ok (.if_icmp .lt 13, 3) := by decide +kernel
theorem d2_36 : decode method_3_code 36 = .ok (.iload_n 0, 1) := by decide +kernel
theorem d2_37 : decode method_3_code 37 = .ok (.bipush 90, 2) := by decide +kernel
theorem d2_39 : decode method_3_code 39 = .ok (.if_icmp .gt 7, 3) := by decide +kernel
theorem d2_42 : decode method_3_code 42 = .ok (.iconst 1, 1) := by decide +kernel
theorem d2_43 : decode method_3_code 43 = .ok (.goto 4, 3) := by decide +kernel
theorem d2_46 : decode method_3_code 46 = .ok (.iconst 0, 1) := by decide +kernel
theorem d2_47 : decode method_3_code 47 = .ok (.istore_n 3, 1) := by decide +kernel
theorem d2_48 : decode method_3_code 48 = .ok (.iload_n 0, 1) := by decide +kernel
theorem d2_49 : decode method_3_code 49 = .ok (.bipush 97, 2) := by decide +kernel
theorem d2_51 : decode method_3_code 51 = .ok (.if_icmp .lt 13, 3) := by decide +kernel
theorem d2_54 : decode method_3_code 54 = .ok (.iload_n 0, 1) := by decide +kernel
theorem d2_55 : decode method_3_code 55 = .ok (.bipush 122, 2) := by decide +kernel
theorem d2_57 : decode method_3_code 57 = .ok (.if_icmp .gt 7, 3) := by decide +kernel
theorem d2_60 : decode method_3_code 60 = .ok (.iconst 1, 1) := by decide +kernel
theorem d2_61 : decode method_3_code 61 = .ok (.goto 4, 3) := by decide +kernel
theorem d2_64 : decode method_3_code 64 = .ok (.iconst 0, 1) := by decide +kernel
theorem d2_65 : decode method_3_code 65 = .ok (.istore 4, 2) := by decide +kernel
theorem d2_67 : decode method_3_code 67 = .ok (.iload_n 0, 1) := by decide +kernel
theorem d2_68 : decode method_3_code 68 = .ok (.bipush 33, 2) := by decide +kernel
theorem d2_70 : decode method_3_code 70 = .ok (.if_icmp .lt 9, 3) := by decide +kernel
theorem d2_73 : decode method_3_code 73 = .ok (.iload_n 0, 1) := by decide +kernel
theorem d2_74 : decode method_3_code 74 = .ok (.bipush 47, 2) := by decide +kernel
theorem d2_76 : decode method_3_code 76 = .ok (.if_icmp .le 39, 3) := by decide +kernel
theorem d2_79 : decode method_3_code 79 = .ok (.iload_n 0, 1) := by decide +kernel
theorem d2_80 : decode method_3_code 80 = .ok (.bipush 58, 2) := by decide +kernel
theorem d2_82 : decode method_3_code 82 = .ok (.if_icmp .lt 9, 3) := by decide +kernel
theorem d2_85 : decode method_3_code 85 = .ok (.iload_n 0, 1) := by decide +kernel
theorem d2_86 : decode method_3_code 86 = .ok (.bipush 64, 2) := by decide +kernel
theorem d2_88 : decode method_3_code 88 = .ok (.if_icmp .le 27, 3) := by decide +kernel
theorem d2_91 : decode method_3_code 91 = .ok (.iload_n 0, 1) := by decide +kernel
theorem d2_92 : decode method_3_code 92 = .ok (.bipush 91, 2) := by decide +kernel
theorem d2_94 : decode method_3_code 94 = .ok (.if_icmp .lt 9, 3) := by decide +kernel
theorem d2_97 : decode method_3_code 97 = .ok (.iload_n 0, 1) := by decide +kernel
theorem d2_98 : decode method_3_code 98 = .ok (.bipush 96, 2) := by decide +kernel
theorem d2_100 : decode method_3_code 100 = .ok (.if_icmp .le 15, 3) := by decide +kernel
theorem d2_103 : decode method_3_code 103 = .ok (.iload_n 0, 1) := by decide +kernel
theorem d2_104 : decode method_3_code 104 = .ok (.bipush 123, 2) := by decide +kernel
theorem d2_106 : decode method_3_code 106 = .ok (.if_icmp .lt 13, 3) := by decide +kernel
theorem d2_109 : decode method_3_code 109 = .ok (.iload_n 0, 1) := by decide +kernel
theorem d2_110 : decode method_3_code 110 = .ok (.bipush 126, 2) := by decide +kernel
theorem d2_112 : decode method_3_code 112 = .ok (.if_icmp .gt 7, 3) := by decide +kernel
theorem d2_115 : decode method_3_code 115 = .ok (.iconst 1, 1) := by decide +kernel
theorem d2_116 : decode method_3_code 116 = .ok (.goto 4, 3) := by decide +kernel
theorem d2_119 : decode method_3_code 119 = .ok (.iconst 0, 1) := by decide +kernel
theorem d2_120 : decode method_3_code 120 = .ok (.istore 5, 2) := by decide +kernel
theorem d2_122 : decode method_3_code 122 = .ok (.iload_n 1, 1) := by decide +kernel
theorem d2_123 : decode method_3_code 123 = .ok (.ifCond .ne 21, 3) := by decide +kernel
theorem d2_126 : decode method_3_code 126 = .ok (.iload_n 2, 1) := by decide +kernel
theorem d2_127 : decode method_3_code 127 = .ok (.ifCond .ne 17, 3) := by decide +kernel
theorem d2_130 : decode method_3_code 130 = .ok (.iload_n 3, 1) := by decide +kernel
theorem d2_131 : decode method_3_code 131 = .ok (.ifCond .ne 13, 3) := by decide +kernel
theorem d2_134 : decode method_3_code 134 = .ok (.iload 4, 2) := by decide +kernel
theorem d2_136 : decode method_3_code 136 = .ok (.ifCond .ne 8, 3) := by decide +kernel
theorem d2_139 : decode method_3_code 139 = .ok (.iload 5, 2) := by decide +kernel
theorem d2_141 : decode method_3_code 141 = .ok (.ifCond .eq 7, 3) := by decide +kernel
theorem d2_144 : decode method_3_code 144 = .ok (.iconst 1, 1) := by decide +kernel
theorem d2_145 : decode method_3_code 145 = .ok (.goto 4, 3) := by decide +kernel
theorem d2_148 : decode method_3_code 148 = .ok (.iconst 0, 1) := by decide +kernel
theorem d2_149 : decode method_3_code 149 = .ok (.ireturn, 1) := by decide +kernel
theorem pn_2 : plainName "com/example/shelfgraph/shelfgraph/ingest/FieldIsCodePinLaw" = true := by first | (simp [plainName, overriddenIn]; done) | decide +kernel
theorem ef_rm2 (m : MethodId) (u : Int32) : entryFrame m #[(.int u)] 6 = mkF m 0 #[.val (.int u), .unset, .unset, .unset, .unset, .unset] [] := by first | (simp [entryFrame, mkF, argsToLocals, Value.category]; done) | rfl
theorem own_j11 (u : Int32) : (if u = (32 : Int32) then (1 : Int32) else (0 : Int32)) = 0 ↔ (¬ u = 32) := by
  (repeat' split) <;> simp [own_eqI, own_ltI] at * <;> omega
theorem own_j29 (u : Int32) : (if u < (48 : Int32) then (0 : Int32) else (if (57 : Int32) < u then (0 : Int32) else (1 : Int32))) = 0 ↔ (u < 48 ∨ 57 < u) := by
  (repeat' split) <;> simp [own_eqI, own_ltI] at * <;> omega
theorem own_j47 (u : Int32) : (if u < (65 : Int32) then (0 : Int32) else (if (90 : Int32) < u then (0 : Int32) else (1 : Int32))) = 0 ↔ (u < 65 ∨ 90 < u) := by
  (repeat' split) <;> simp [own_eqI, own_ltI] at * <;> omega
theorem own_j65 (u : Int32) : (if u < (97 : Int32) then (0 : Int32) else (if (122 : Int32) < u then (0 : Int32) else (1 : Int32))) = 0 ↔ (u < 97 ∨ 122 < u) := by
  (repeat' split) <;> simp [own_eqI, own_ltI] at * <;> omega
theorem own_j120 (u : Int32) : (if u < (33 : Int32) then (if u < (58 : Int32) then (if u < (91 : Int32) then (if u < (123 : Int32) then (0 : Int32) else (if (126 : Int32) < u then (0 : Int32) else (1 : Int32))) else (if (96 : Int32) < u then (if u < (123 : Int32) then (0 : Int32) else (if (126 : Int32) < u then (0 : Int32) else (1 : Int32))) else (1 : Int32))) else (if (64 : Int32) < u then (if u < (91 : Int32) then (if u < (123 : Int32) then (0 : Int32) else (if (126 : Int32) < u then (0 : Int32) else (1 : Int32))) else (if (96 : Int32) < u then (if u < (123 : Int32) then (0 : Int32) else (if (126 : Int32) < u then (0 : Int32) else (1 : Int32))) else (1 : Int32))) else (1 : Int32))) else (if (47 : Int32) < u then (if u < (58 : Int32) then (if u < (91 : Int32) then (if u < (123 : Int32) then (0 : Int32) else (if (126 : Int32) < u then (0 : Int32) else (1 : Int32))) else (if (96 : Int32) < u then (if u < (123 : Int32) then (0 : Int32) else (if (126 : Int32) < u then (0 : Int32) else (1 : Int32))) else (1 : Int32))) else (if (64 : Int32) < u then (if u < (91 : Int32) then (if u < (123 : Int32) then (0 : Int32) else (if (126 : Int32) < u then (0 : Int32) else (1 : Int32))) else (if (96 : Int32) < u then (if u < (123 : Int32) then (0 : Int32) else (if (126 : Int32) < u then (0 : Int32) else (1 : Int32))) else (1 : Int32))) else (1 : Int32))) else (1 : Int32))) = 0 ↔ ((u < 33 ∨ 47 < u) ∧ (u < 58 ∨ 64 < u) ∧ (u < 91 ∨ 96 < u) ∧ (u < 123 ∨ 126 < u)) := by
  (repeat' split) <;> simp [own_eqI, own_ltI] at * <;> omega
theorem own_last (u : Int32) (j1 : Int32) (j4 : Int32) (j7 : Int32) (j10 : Int32) (j13 : Int32) (k_j1 : j1 = 0 ↔ (¬ u = 32)) (k_j4 : j4 = 0 ↔ (u < 48 ∨ 57 < u)) (k_j7 : j7 = 0 ↔ (u < 65 ∨ 90 < u)) (k_j10 : j10 = 0 ↔ (u < 97 ∨ 122 < u)) (k_j13 : j13 = 0 ↔ ((u < 33 ∨ 47 < u) ∧ (u < 58 ∨ 64 < u) ∧ (u < 91 ∨ 96 < u) ∧ (u < 123 ∨ 126 < u))) : (if j1 = (0 : Int32) then (if j4 = (0 : Int32) then (if j7 = (0 : Int32) then (if j10 = (0 : Int32) then (if j13 = (0 : Int32) then (0 : Int32) else (1 : Int32)) else (1 : Int32)) else (1 : Int32)) else (1 : Int32)) else (1 : Int32)) = own_code u := by
  unfold own_code
  simp only [k_j1, k_j4, k_j7, k_j10, k_j13]
  (repeat' split) <;> first | rfl | (exfalso; simp [own_eqI, own_ltI] at *; omega)
def Q_rm2 (Z : State) (u : Int32) (h0 : Heap) (n0 : Nat) (v : Option Value) (h : Heap) (L : List Loc) : Prop := v = some (.int (own_code u)) ∧ Fr n0 L ∧ h = h0
set_option maxRecDepth 65536 in
set_option maxHeartbeats 40000000 in
theorem rm2 (l : Launch) (Z : State) (a0 : Array Value) (hw : ∀ d ∈ tables_1, d.before a0 Z = true) (ws : List Jvm.Cond) (u : Int32) (h0 : Heap) (n0 : Nat) (Z0 : n0 ≤ h0.size) :
    MetFree l (⟨"com/example/shelfgraph/shelfgraph/ingest/FieldIsCodePinLaw", "expected", "(C)Z"⟩ : MethodName) (head1 (Jvm.Cond.code (⟨"com/example/shelfgraph/shelfgraph/ingest/FieldIsCodePinLaw", "expected", "(C)Z"⟩ : MethodName) method_3_code 6 (some .boolean) :: ws) ({ frames := 0, cells := 0, slots := 0, locals := 0 } : Room)) (fun zz UU => zz = #[(.int u)] ∧ Z.Warmed39 UU.vm ∧ UU.heap = h0) (fun _ _ _ _ _ => True) (fun _ U o U' => ∃ v L, o = .returned v ∧ Q_rm2 Z u h0 n0 v U'.heap L ∧ FrameEnd U o U' L ({ frames := 0, cells := 0, slots := 0, locals := 0 } : Room).cells ({ frames := 0, cells := 0, slots := 0, locals := 0 } : Room).slots) := by
  refine MetFree.of_bodySF (plainFor_of_name pn_2) hisR ?_
  intro p e s m args below meth c s₁ Bd hml0 hP hK
  obtain ⟨rfl, hZ, hh⟩ := hP
  have hx := Bd.exec
  have hby := Bd.bytes
  have hml : c.maxLocals = 6 := hml0
  have hown : s.vm.findClass "com/example/shelfgraph/shelfgraph/ingest/FieldIsCodePinLaw" = some m.cls := findClass_of_methodNamed Bd.named
  have hnm := (name_of_methodNamed Bd.named Bd.method).1
  have hlk : meth.locks = false := BodyLoose.notSynchronized Bd
  have X0 : Stand p l e ({ frames := 0, cells := 0, slots := 0, locals := 0 } : Room) s m #[(.int u)] below meth c s₁ [] 0 0 := Stand.of_body Bd
  have e0 : s₁.heap = h0 := by rw [← hh, Bd.state]; rfl
  have N0 := Fr.nil n0
  show own_Go p.tables e below (Q_rm2 Z u h0 n0) s ({ frames := 0, cells := 0, slots := 0, locals := 0 } : Room).cells ({ frames := 0, cells := 0, slots := 0, locals := 0 } : Room).slots s₁ (entryFrame m #[(.int u)] 6)
  rw [ef_rm2 m u]
  refine own_by (T' := s₁) (g' := (mkF m 1 #[.val (.int u), .unset, .unset, .unset, .unset, .unset] [(.int u)])) (fun _ k => XS.iloadN X0.here hx rfl (hb hby d2_0) rfl k) ?_
  refine own_by (T' := s₁) (g' := (mkF m 3 #[.val (.int u), .unset, .unset, .unset, .unset, .unset] [(.int (32 : Int32)), (.int u)])) (fun _ k => XS.bipush X0.here hx rfl (hb hby d2_1) k) ?_
  have J2 : ∀ (j1 : Int32) (hv_j1 : j1 = (if u = (32 : Int32) then (1 : Int32) else (0 : Int32))) (T3 : State) (_ : Stand p l e ({ frames := 0, cells := 0, slots := 0, locals := 0 } : Room) s m #[(.int u)] below meth c T3 [] 0 0) (_ : T3.heap = h0), own_Go p.tables e below (Q_rm2 Z u h0 n0) s ({ frames := 0, cells := 0, slots := 0, locals := 0 } : Room).cells ({ frames := 0, cells := 0, slots := 0, locals := 0 } : Room).slots T3 (mkF m 11 #[.val (.int u), .unset, .unset, .unset, .unset, .unset] [(.int j1)]) := by
    intro j1 hv_j1 T3 X3 e3
    have k_j1 : j1 = 0 ↔ (¬ u = 32) := by rw [hv_j1]; exact own_j11 u
    refine own_by (T' := T3) (g' := (mkF m 12 #[.val (.int u), .val (.int j1), .unset, .unset, .unset, .unset] [])) (fun _ k => XS.istoreN X3.here hx rfl (hb hby d2_11) rfl (l' := #[.val (.int u), .val (.int j1), .unset, .unset, .unset, .unset]) rfl k) ?_
    refine own_by (T' := T3) (g' := (mkF m 13 #[.val (.int u), .val (.int j1), .unset, .unset, .unset, .unset] [(.int u)])) (fun _ k => XS.iloadN X3.here hx rfl (hb hby d2_12) rfl k) ?_
    refine own_by (T' := T3) (g' := (mkF m 15 #[.val (.int u), .val (.int j1), .unset, .unset, .unset, .unset] [(.int (48 : Int32)), (.int u)])) (fun _ k => XS.bipush X3.here hx rfl (hb hby d2_13) k) ?_
    have J5 : ∀ (j4 : Int32) (hv_j4 : j4 = (if u < (48 : Int32) then (0 : Int32) else (if (57 : Int32) < u then (0 : Int32) else (1 : Int32)))) (T6 : State) (_ : Stand p l e ({ frames := 0, cells := 0, slots := 0, locals := 0 } : Room) s m #[(.int u)] below meth c T6 [] 0 0) (_ : T6.heap = h0), own_Go p.tables e below (Q_rm2 Z u h0 n0) s ({ frames := 0, cells := 0, slots := 0, locals := 0 } : Room).cells ({ frames := 0, cells := 0, slots := 0, locals := 0 } : Room).slots T6 (mkF m 29 #[.val (.int u), .val (.int j1), .unset, .unset, .unset, .unset] [(.int j4)]) := by
      intro j4 hv_j4 T6 X6 e6
      have k_j4 : j4 = 0 ↔ (u < 48 ∨ 57 < u) := by rw [hv_j4]; exact own_j29 u
      refine own_by (T' := T6) (g' := (mkF m 30 #[.val (.int u), .val (.int j1), .val (.int j4), .unset, .unset, .unset] [])) (fun _ k => XS.istoreN X6.here hx rfl (hb hby d2_29) rfl (l' := #[.val (.int u), .val (.int j1), .val (.int j4), .unset, .unset, .unset]) rfl k) ?_
      refine own_by (T' := T6) (g' := (mkF m 31 #[.val (.int u), .val (.int j1), .val (.int j4), .unset, .unset, .unset] [(.int u)])) (fun _ k => XS.iloadN X6.here hx rfl (hb hby d2_30) rfl k) ?_
      refine own_by (T' := T6) (g' := (mkF m 33 #[.val (.int u), .val (.int j1), .val (.int j4), .unset, .unset, .unset] [(.int (65 : Int32)), (.int u)])) (fun _ k => XS.bipush X6.here hx rfl (hb hby d2_31) k) ?_
      have J8 : ∀ (j7 : Int32) (hv_j7 : j7 = (if u < (65 : Int32) then (0 : Int32) else (if (90 : Int32) < u then (0 : Int32) else (1 : Int32)))) (T9 : State) (_ : Stand p l e ({ frames := 0, cells := 0, slots := 0, locals := 0 } : Room) s m #[(.int u)] below meth c T9 [] 0 0) (_ : T9.heap = h0), own_Go p.tables e below (Q_rm2 Z u h0 n0) s ({ frames := 0, cells := 0, slots := 0, locals := 0 } : Room).cells ({ frames := 0, cells := 0, slots := 0, locals := 0 } : Room).slots T9 (mkF m 47 #[.val (.int u), .val (.int j1), .val (.int j4), .unset, .unset, .unset] [(.int j7)]) := by
        intro j7 hv_j7 T9 X9 e9
        have k_j7 : j7 = 0 ↔ (u < 65 ∨ 90 < u) := by rw [hv_j7]; exact own_j47 u
        refine own_by (T' := T9) (g' := (mkF m 48 #[.val (.int u), .val (.int j1), .val (.int j4), .val (.int j7), .unset, .unset] [])) (fun _ k => XS.istoreN X9.here hx rfl (hb hby d2_47) rfl (l' := #[.val (.int u), .val (.int j1), .val (.int j4), .val (.int j7), .unset, .unset]) rfl k) ?_
        refine own_by (T' := T9) (g' := (mkF m 49 #[.val (.int u), .val (.int j1), .val (.int j4), .val (.int j7), .unset, .unset] [(.int u)])) (fun _ k => XS.iloadN X9.here hx rfl (hb hby d2_48) rfl k) ?_
        refine own_by (T' := T9) (g' := (mkF m 51 #[.val (.int u), .val (.int j1), .val (.int j4), .val (.int j7), .unset, .unset] [(.int (97 : Int32)), (.int u)])) (fun _ k => XS.bipush X9.here hx rfl (hb hby d2_49) k) ?_
        have J11 : ∀ (j10 : Int32) (hv_j10 : j10 = (if u < (97 : Int32) then (0 : Int32) else (if (122 : Int32) < u then (0 : Int32) else (1 : Int32)))) (T12 : State) (_ : Stand p l e ({ frames := 0, cells := 0, slots := 0, locals := 0 } : Room) s m #[(.int u)] below meth c T12 [] 0 0) (_ : T12.heap = h0), own_Go p.tables e below (Q_rm2 Z u h0 n0) s ({ frames := 0, cells := 0, slots := 0, locals := 0 } : Room).cells ({ frames := 0, cells := 0, slots := 0, locals := 0 } : Room).slots T12 (mkF m 65 #[.val (.int u), .val (.int j1), .val (.int j4), .val (.int j7), .unset, .unset] [(.int j10)]) := by
          intro j10 hv_j10 T12 X12 e12
          have k_j10 : j10 = 0 ↔ (u < 97 ∨ 122 < u) := by rw [hv_j10]; exact own_j65 u
          refine own_by (T' := T12) (g' := (mkF m 67 #[.val (.int u), .val (.int j1), .val (.int j4), .val (.int j7), .val (.int j10), .unset] [])) (fun _ k => XS.istore X12.here hx rfl (hb hby d2_65) rfl (l' := #[.val (.int u), .val (.int j1), .val (.int j4), .val (.int j7), .val (.int j10), .unset]) rfl k) ?_
          refine own_by (T' := T12) (g' := (mkF m 68 #[.val (.int u), .val (.int j1), .val (.int j4), .val (.int j7), .val (.int j10), .unset] [(.int u)])) (fun _ k => XS.iloadN X12.here hx rfl (hb hby d2_67) rfl k) ?_
          refine own_by (T' := T12) (g' := (mkF m 70 #[.val (.int u), .val (.int j1), .val (.int j4), .val (.int j7), .val (.int j10), .unset] [(.int (33 : Int32)), (.int u)])) (fun _ k => XS.bipush X12.here hx rfl (hb hby d2_68) k) ?_
          have J14 : ∀ (j13 : Int32) (hv_j13 : j13 = (if u < (33 : Int32) then (if u < (58 : Int32) then (if u < (91 : Int32) then (if u < (123 : Int32) then (0 : Int32) else (if (126 : Int32) < u then (0 : Int32) else (1 : Int32))) else (if (96 : Int32) < u then (if u < (123 : Int32) then (0 : Int32) else (if (126 : Int32) < u then (0 : Int32) else (1 : Int32))) else (1 : Int32))) else (if (64 : Int32) < u then (if u < (91 : Int32) then (if u < (123 : Int32) then (0 : Int32) else (if (126 : Int32) < u then (0 : Int32) else (1 : Int32))) else (if (96 : Int32) < u then (if u < (123 : Int32) then (0 : Int32) else (if (126 : Int32) < u then (0 : Int32) else (1 : Int32))) else (1 : Int32))) else (1 : Int32))) else (if (47 : Int32) < u then (if u < (58 : Int32) then (if u < (91 : Int32) then (if u < (123 : Int32) then (0 : Int32) else (if (126 : Int32) < u then (0 : Int32) else (1 : Int32))) else (if (96 : Int32) < u then (if u < (123 : Int32) then (0 : Int32) else (if (126 : Int32) < u then (0 : Int32) else (1 : Int32))) else (1 : Int32))) else (if (64 : Int32) < u then (if u < (91 : Int32) then (if u < (123 : Int32) then (0 : Int32) else (if (126 : Int32) < u then (0 : Int32) else (1 : Int32))) else (if (96 : Int32) < u then (if u < (123 : Int32) then (0 : Int32) else (if (126 : Int32) < u then (0 : Int32) else (1 : Int32))) else (1 : Int32))) else (1 : Int32))) else (1 : Int32)))) (T15 : State) (_ : Stand p l e ({ frames := 0, cells := 0, slots := 0, locals := 0 } : Room) s m #[(.int u)] below meth c T15 [] 0 0) (_ : T15.heap = h0), own_Go p.tables e below (Q_rm2 Z u h0 n0) s ({ frames := 0, cells := 0, slots := 0, locals := 0 } : Room).cells ({ frames := 0, cells := 0, slots := 0, locals := 0 } : Room).slots T15 (mkF m 120 #[.val (.int u), .val (.int j1), .val (.int j4), .val (.int j7), .val (.int j10), .unset] [(.int j13)]) := by
            intro j13 hv_j13 T15 X15 e15
            have k_j13 : j13 = 0 ↔ ((u < 33 ∨ 47 < u) ∧ (u < 58 ∨ 64 < u) ∧ (u < 91 ∨ 96 < u) ∧ (u < 123 ∨ 126 < u)) := by rw [hv_j13]; exact own_j120 u
            refine own_by (T' := T15) (g' := (mkF m 122 #[.val (.int u), .val (.int j1), .val (.int j4), .val (.int j7), .val (.int j10), .val (.int j13)] [])) (fun _ k => XS.istore X15.here hx rfl (hb hby d2_120) rfl (l' := #[.val (.int u), .val (.int j1), .val (.int j4), .val (.int j7), .val (.int j10), .val (.int j13)]) rfl k) ?_
            refine own_by (T' := T15) (g' := (mkF m 123 #[.val (.int u), .val (.int j1), .val (.int j4), .val (.int j7), .val (.int j10), .val (.int j13)] [(.int j1)])) (fun _ k => XS.iloadN X15.here hx rfl (hb hby d2_122) rfl k) ?_
            have J17 : ∀ (j16 : Int32) (hv_j16 : j16 = (if j1 = (0 : Int32) then (if j4 = (0 : Int32) then (if j7 = (0 : Int32) then (if j10 = (0 : Int32) then (if j13 = (0 : Int32) then (0 : Int32) else (1 : Int32)) else (1 : Int32)) else (1 : Int32)) else (1 : Int32)) else (1 : Int32))) (T18 : State) (_ : Stand p l e ({ frames := 0, cells := 0, slots := 0, locals := 0 } : Room) s m #[(.int u)] below meth c T18 [] 0 0) (_ : T18.heap = h0), own_Go p.tables e below (Q_rm2 Z u h0 n0) s ({ frames := 0, cells := 0, slots := 0, locals := 0 } : Room).cells ({ frames := 0, cells := 0, slots := 0, locals := 0 } : Room).slots T18 (mkF m 149 #[.val (.int u), .val (.int j1), .val (.int j4), .val (.int j7), .val (.int j10), .val (.int j13)] [(.int j16)]) := by
              intro j16 hv_j16 T18 X18 e18
              have k_j16 : j16 = own_code u := hv_j16.trans (own_last u j1 j4 j7 j10 j13 k_j1 k_j4 k_j7 k_j10 k_j13)
              refine own_ret X18 hlk (v := some (.int (nar .boolean j16))) (fun h => by rw [Bd.returns] at h; cases h) (fun fs hr => retN X18 hx (t := .boolean) Bd.returns (by simp) (hb hby d2_149) hr) ?_ (by decide) (by decide)
              rw [e18]
              exact ⟨congrArg (fun z => some (Value.int z)) ((congrArg (nar .boolean) k_j16).trans (own_nar u)), N0, rfl⟩
            by_cases hc123_19 : j1 = (0 : Int32)
            · skip
              refine own_by (T' := T15) (g' := (mkF m 126 #[.val (.int u), .val (.int j1), .val (.int j4), .val (.int j7), .val (.int j10), .val (.int j13)] [])) (fun _ k => XS.ifNo X15.here hx rfl (hb hby d2_123) rfl ((if0 _ _).trans (teq hc123_19).2) k) ?_
              refine own_by (T' := T15) (g' := (mkF m 127 #[.val (.int u), .val (.int j1), .val (.int j4), .val (.int j7), .val (.int j10), .val (.int j13)] [(.int j4)])) (fun _ k => XS.iloadN X15.here hx rfl (hb hby d2_126) rfl k) ?_
              by_cases hc127_20 : j4 = (0 : Int32)
              · skip
                refine own_by (T' := T15) (g' := (mkF m 130 #[.val (.int u), .val (.int j1), .val (.int j4), .val (.int j7), .val (.int j10), .val (.int j13)] [])) (fun _ k => XS.ifNo X15.here hx rfl (hb hby d2_127) rfl ((if0 _ _).trans (teq hc127_20).2) k) ?_
                refine own_by (T' := T15) (g' := (mkF m 131 #[.val (.int u), .val (.int j1), .val (.int j4), .val (.int j7), .val (.int j10), .val (.int j13)] [(.int j7)])) (fun _ k => XS.iloadN X15.here hx rfl (hb hby d2_130) rfl k) ?_
                by_cases hc131_21 : j7 = (0 : Int32)
                · skip
                  refine own_by (T' := T15) (g' := (mkF m 134 #[.val (.int u), .val (.int j1), .val (.int j4), .val (.int j7), .val (.int j10), .val (.int j13)] [])) (fun _ k => XS.ifNo X15.here hx rfl (hb hby d2_131) rfl ((if0 _ _).trans (teq hc131_21).2) k) ?_
                  refine own_by (T' := T15) (g' := (mkF m 136 #[.val (.int u), .val (.int j1), .val (.int j4), .val (.int j7), .val (.int j10), .val (.int j13)] [(.int j10)])) (fun _ k => XS.iload X15.here hx rfl (hb hby d2_134) rfl k) ?_
                  by_cases hc136_22 : j10 = (0 : Int32)
                  · skip
                    refine own_by (T' := T15) (g' := (mkF m 139 #[.val (.int u), .val (.int j1), .val (.int j4), .val (.int j7), .val (.int j10), .val (.int j13)] [])) (fun _ k => XS.ifNo X15.here hx rfl (hb hby d2_136) rfl ((if0 _ _).trans (teq hc136_22).2) k) ?_
                    refine own_by (T' := T15) (g' := (mkF m 141 #[.val (.int u), .val (.int j1), .val (.int j4), .val (.int j7), .val (.int j10), .val (.int j13)] [(.int j13)])) (fun _ k => XS.iload X15.here hx rfl (hb hby d2_139) rfl k) ?_
                    by_cases hc141_23 : j13 = (0 : Int32)
                    · skip
                      refine own_by (T' := T15) (g' := (mkF m 148 #[.val (.int u), .val (.int j1), .val (.int j4), .val (.int j7), .val (.int j10), .val (.int j13)] [])) (fun _ k => XS.ifYes X15.here hx rfl (pc0 := 141) (pc' := 148) rfl (hb hby d2_141) rfl ((if0 _ _).trans (teq hc141_23).1) (by decide) (by decide) k) ?_
                      refine own_by (T' := T15) (g' := (mkF m 149 #[.val (.int u), .val (.int j1), .val (.int j4), .val (.int j7), .val (.int j10), .val (.int j13)] [(.int (0 : Int32))])) (fun _ k => XS.iconst X15.here hx rfl (hb hby d2_148) k) ?_
                      exact J17 _ (((((if_pos hc123_19).trans (if_pos hc127_20)).trans (if_pos hc131_21)).trans (if_pos hc136_22)).trans (if_pos hc141_23)).symm T15 X15 e15
                    · skip
                      refine own_by (T' := T15) (g' := (mkF m 144 #[.val (.int u), .val (.int j1), .val (.int j4), .val (.int j7), .val (.int j10), .val (.int j13)] [])) (fun _ k => XS.ifNo X15.here hx rfl (hb hby d2_141) rfl ((if0 _ _).trans (feq hc141_23).1) k) ?_
                      refine own_by (T' := T15) (g' := (mkF m 145 #[.val (.int u), .val (.int j1), .val (.int j4), .val (.int j7), .val (.int j10), .val (.int j13)] [(.int (1 : Int32))])) (fun _ k => XS.iconst X15.here hx rfl (hb hby d2_144) k) ?_
                      refine own_by (T' := T15) (g' := (mkF m 149 #[.val (.int u), .val (.int j1), .val (.int j4), .val (.int j7), .val (.int j10), .val (.int j13)] [(.int (1 : Int32))])) (fun _ k => XS.goto X15.here hx rfl (pc0 := 145) (pc' := 149) rfl (hb hby d2_145) (by decide) (by decide) k) ?_
                      exact J17 _ (((((if_pos hc123_19).trans (if_pos hc127_20)).trans (if_pos hc131_21)).trans (if_pos hc136_22)).trans (if_neg hc141_23)).symm T15 X15 e15
                  · skip
                    refine own_by (T' := T15) (g' := (mkF m 144 #[.val (.int u), .val (.int j1), .val (.int j4), .val (.int j7), .val (.int j10), .val (.int j13)] [])) (fun _ k => XS.ifYes X15.here hx rfl (pc0 := 136) (pc' := 144) rfl (hb hby d2_136) rfl ((if0 _ _).trans (feq hc136_22).2) (by decide) (by decide) k) ?_
                    refine own_by (T' := T15) (g' := (mkF m 145 #[.val (.int u), .val (.int j1), .val (.int j4), .val (.int j7), .val (.int j10), .val (.int j13)] [(.int (1 : Int32))])) (fun _ k => XS.iconst X15.here hx rfl (hb hby d2_144) k) ?_
                    refine own_by (T' := T15) (g' := (mkF m 149 #[.val (.int u), .val (.int j1), .val (.int j4), .val (.int j7), .val (.int j10), .val (.int j13)] [(.int (1 : Int32))])) (fun _ k => XS.goto X15.here hx rfl (pc0 := 145) (pc' := 149) rfl (hb hby d2_145) (by decide) (by decide) k) ?_
                    exact J17 _ ((((if_pos hc123_19).trans (if_pos hc127_20)).trans (if_pos hc131_21)).trans (if_neg hc136_22)).symm T15 X15 e15
                · skip
                  refine own_by (T' := T15) (g' := (mkF m 144 #[.val (.int u), .val (.int j1), .val (.int j4), .val (.int j7), .val (.int j10), .val (.int j13)] [])) (fun _ k => XS.ifYes X15.here hx rfl (pc0 := 131) (pc' := 144) rfl (hb hby d2_131) rfl ((if0 _ _).trans (feq hc131_21).2) (by decide) (by decide) k) ?_
                  refine own_by (T' := T15) (g' := (mkF m 145 #[.val (.int u), .val (.int j1), .val (.int j4), .val (.int j7), .val (.int j10), .val (.int j13)] [(.int (1 : Int32))])) (fun _ k => XS.iconst X15.here hx rfl (hb hby d2_144) k) ?_
                  refine own_by (T' := T15) (g' := (mkF m 149 #[.val (.int u), .val (.int j1), .val (.int j4), .val (.int j7), .val (.int j10), .val (.int j13)] [(.int (1 : Int32))])) (fun _ k => XS.goto X15.here hx rfl (pc0 := 145) (pc' := 149) rfl (hb hby d2_145) (by decide) (by decide) k) ?_
                  exact J17 _ (((if_pos hc123_19).trans (if_pos hc127_20)).trans (if_neg hc131_21)).symm T15 X15 e15
              · skip
                refine own_by (T' := T15) (g' := (mkF m 144 #[.val (.int u), .val (.int j1), .val (.int j4), .val (.int j7), .val (.int j10), .val (.int j13)] [])) (fun _ k => XS.ifYes X15.here hx rfl (pc0 := 127) (pc' := 144) rfl (hb hby d2_127) rfl ((if0 _ _).trans (feq hc127_20).2) (by decide) (by decide) k) ?_
                refine own_by (T' := T15) (g' := (mkF m 145 #[.val (.int u), .val (.int j1), .val (.int j4), .val (.int j7), .val (.int j10), .val (.int j13)] [(.int (1 : Int32))])) (fun _ k => XS.iconst X15.here hx rfl (hb hby d2_144) k) ?_
                refine own_by (T' := T15) (g' := (mkF m 149 #[.val (.int u), .val (.int j1), .val (.int j4), .val (.int j7), .val (.int j10), .val (.int j13)] [(.int (1 : Int32))])) (fun _ k => XS.goto X15.here hx rfl (pc0 := 145) (pc' := 149) rfl (hb hby d2_145) (by decide) (by decide) k) ?_
                exact J17 _ ((if_pos hc123_19).trans (if_neg hc127_20)).symm T15 X15 e15
            · skip
              refine own_by (T' := T15) (g' := (mkF m 144 #[.val (.int u), .val (.int j1), .val (.int j4), .val (.int j7), .val (.int j10), .val (.int j13)] [])) (fun _ k => XS.ifYes X15.here hx rfl (pc0 := 123) (pc' := 144) rfl (hb hby d2_123) rfl ((if0 _ _).trans (feq hc123_19).2) (by decide) (by decide) k) ?_
              refine own_by (T' := T15) (g' := (mkF m 145 #[.val (.int u), .val (.int j1), .val (.int j4), .val (.int j7), .val (.int j10), .val (.int j13)] [(.int (1 : Int32))])) (fun _ k => XS.iconst X15.here hx rfl (hb hby d2_144) k) ?_
              refine own_by (T' := T15) (g' := (mkF m 149 #[.val (.int u), .val (.int j1), .val (.int j4), .val (.int j7), .val (.int j10), .val (.int j13)] [(.int (1 : Int32))])) (fun _ k => XS.goto X15.here hx rfl (pc0 := 145) (pc' := 149) rfl (hb hby d2_145) (by decide) (by decide) k) ?_
              exact J17 _ (if_neg hc123_19).symm T15 X15 e15
          by_cases hc70_24 : u < (33 : Int32)
          · skip
            refine own_by (T' := T12) (g' := (mkF m 79 #[.val (.int u), .val (.int j1), .val (.int j4), .val (.int j7), .val (.int j10), .unset] [])) (fun _ k => XS.icmpYes X12.here hx rfl (pc0 := 70) (pc' := 79) rfl (hb hby d2_70) rfl (tlt hc70_24).1 (by decide) (by decide) k) ?_
            refine own_by (T' := T12) (g' := (mkF m 80 #[.val (.int u), .val (.int j1), .val (.int j4), .val (.int j7), .val (.int j10), .unset] [(.int u)])) (fun _ k => XS.iloadN X12.here hx rfl (hb hby d2_79) rfl k) ?_
            refine own_by (T' := T12) (g' := (mkF m 82 #[.val (.int u), .val (.int j1), .val (.int j4), .val (.int j7), .val (.int j10), .unset] [(.int (58 : Int32)), (.int u)])) (fun _ k => XS.bipush X12.here hx rfl (hb hby d2_80) k) ?_
            by_cases hc82_25 : u < (58 : Int32)
            · skip
              refine own_by (T' := T12) (g' := (mkF m 91 #[.val (.int u), .val (.int j1), .val (.int j4), .val (.int j7), .val (.int j10), .unset] [])) (fun _ k => XS.icmpYes X12.here hx rfl (pc0 := 82) (pc' := 91) rfl (hb hby d2_82) rfl (tlt hc82_25).1 (by decide) (by decide) k) ?_
              refine own_by (T' := T12) (g' := (mkF m 92 #[.val (.int u), .val (.int j1), .val (.int j4), .val (.int j7), .val (.int j10), .unset] [(.int u)])) (fun _ k => XS.iloadN X12.here hx rfl (hb hby d2_91) rfl k) ?_
              refine own_by (T' := T12) (g' := (mkF m 94 #[.val (.int u), .val (.int j1), .val (.int j4), .val (.int j7), .val (.int j10), .unset] [(.int (91 : Int32)), (.int u)])) (fun _ k => XS.bipush X12.here hx rfl (hb hby d2_92) k) ?_
              by_cases hc94_26 : u < (91 : Int32)
              · skip
                refine own_by (T' := T12) (g' := (mkF m 103 #[.val (.int u), .val (.int j1), .val (.int j4), .val (.int j7), .val (.int j10), .unset] [])) (fun _ k => XS.icmpYes X12.here hx rfl (pc0 := 94) (pc' := 103) rfl (hb hby d2_94) rfl (tlt hc94_26).1 (by decide) (by decide) k) ?_
                refine own_by (T' := T12) (g' := (mkF m 104 #[.val (.int u), .val (.int j1), .val (.int j4), .val (.int j7), .val (.int j10), .unset] [(.int u)])) (fun _ k => XS.iloadN X12.here hx rfl (hb hby d2_103) rfl k) ?_
                refine own_by (T' := T12) (g' := (mkF m 106 #[.val (.int u), .val (.int j1), .val (.int j4), .val (.int j7), .val (.int j10), .unset] [(.int (123 : Int32)), (.int u)])) (fun _ k => XS.bipush X12.here hx rfl (hb hby d2_104) k) ?_
                by_cases hc106_27 : u < (123 : Int32)
                · skip
                  refine own_by (T' := T12) (g' := (mkF m 119 #[.val (.int u), .val (.int j1), .val (.int j4), .val (.int j7), .val (.int j10), .unset] [])) (fun _ k => XS.icmpYes X12.here hx rfl (pc0 := 106) (pc' := 119) rfl (hb hby d2_106) rfl (tlt hc106_27).1 (by decide) (by decide) k) ?_
                  refine own_by (T' := T12) (g' := (mkF m 120 #[.val (.int u), .val (.int j1), .val (.int j4), .val (.int j7), .val (.int j10), .unset] [(.int (0 : Int32))])) (fun _ k => XS.iconst X12.here hx rfl (hb hby d2_119) k) ?_
                  exact J14 _ ((((if_pos hc70_24).trans (if_pos hc82_25)).trans (if_pos hc94_26)).trans (if_pos hc106_27)).symm T12 X12 e12
                · skip
                  refine own_by (T' := T12) (g' := (mkF m 109 #[.val (.int u), .val (.int j1), .val (.int j4), .val (.int j7), .val (.int j10), .unset] [])) (fun _ k => XS.icmpNo X12.here hx rfl (hb hby d2_106) rfl (flt hc106_27).1 k) ?_
                  refine own_by (T' := T12) (g' := (mkF m 110 #[.val (.int u), .val (.int j1), .val (.int j4), .val (.int j7), .val (.int j10), .unset] [(.int u)])) (fun _ k => XS.iloadN X12.here hx rfl (hb hby d2_109) rfl k) ?_
                  refine own_by (T' := T12) (g' := (mkF m 112 #[.val (.int u), .val (.int j1), .val (.int j4), .val (.int j7), .val (.int j10), .unset] [(.int (126 : Int32)), (.int u)])) (fun _ k => XS.bipush X12.here hx rfl (hb hby d2_110) k) ?_
                  by_cases hc112_28 : (126 : Int32) < u
                  · skip
                    refine own_by (T' := T12) (g' := (mkF m 119 #[.val (.int u), .val (.int j1), .val (.int j4), .val (.int j7), .val (.int j10), .unset] [])) (fun _ k => XS.icmpYes X12.here hx rfl (pc0 := 112) (pc' := 119) rfl (hb hby d2_112) rfl (tlt hc112_28).2.2.1 (by decide) (by decide) k) ?_
                    refine own_by (T' := T12) (g' := (mkF m 120 #[.val (.int u), .val (.int j1), .val (.int j4), .val (.int j7), .val (.int j10), .unset] [(.int (0 : Int32))])) (fun _ k => XS.iconst X12.here hx rfl (hb hby d2_119) k) ?_
                    exact J14 _ (((((if_pos hc70_24).trans (if_pos hc82_25)).trans (if_pos hc94_26)).trans (if_neg hc106_27)).trans (if_pos hc112_28)).symm T12 X12 e12
                  · skip
                    refine own_by (T' := T12) (g' := (mkF m 115 #[.val (.int u), .val (.int j1), .val (.int j4), .val (.int j7), .val (.int j10), .unset] [])) (fun _ k => XS.icmpNo X12.here hx rfl (hb hby d2_112) rfl (flt hc112_28).2.2.1 k) ?_
                    refine own_by (T' := T12) (g' := (mkF m 116 #[.val (.int u), .val (.int j1), .val (.int j4), .val (.int j7), .val (.int j10), .unset] [(.int (1 : Int32))])) (fun _ k => XS.iconst X12.here hx rfl (hb hby d2_115) k) ?_
                    refine own_by (T' := T12) (g' := (mkF m 120 #[.val (.int u), .val (.int j1), .val (.int j4), .val (.int j7), .val (.int j10), .unset] [(.int (1 : Int32))])) (fun _ k => XS.goto X12.here hx rfl (pc0 := 116) (pc' := 120) rfl (hb hby d2_116) (by decide) (by decide) k) ?_
                    exact J14 _ (((((if_pos hc70_24).trans (if_pos hc82_25)).trans (if_pos hc94_26)).trans (if_neg hc106_27)).trans (if_neg hc112_28)).symm T12 X12 e12
              · skip
                refine own_by (T' := T12) (g' := (mkF m 97 #[.val (.int u), .val (.int j1), .val (.int j4), .val (.int j7), .val (.int j10), .unset] [])) (fun _ k => XS.icmpNo X12.here hx rfl (hb hby d2_94) rfl (flt hc94_26).1 k) ?_
                refine own_by (T' := T12) (g' := (mkF m 98 #[.val (.int u), .val (.int j1), .val (.int j4), .val (.int j7), .val (.int j10), .unset] [(.int u)])) (fun _ k => XS.iloadN X12.here hx rfl (hb hby d2_97) rfl k) ?_
                refine own_by (T' := T12) (g' := (mkF m 100 #[.val (.int u), .val (.int j1), .val (.int j4), .val (.int j7), .val (.int j10), .unset] [(.int (96 : Int32)), (.int u)])) (fun _ k => XS.bipush X12.here hx rfl (hb hby d2_98) k) ?_
                by_cases hc100_29 : (96 : Int32) < u
                · skip
                  refine own_by (T' := T12) (g' := (mkF m 103 #[.val (.int u), .val (.int j1), .val (.int j4), .val (.int j7), .val (.int j10), .unset] [])) (fun _ k => XS.icmpNo X12.here hx rfl (hb hby d2_100) rfl (tlt hc100_29).2.2.2 k) ?_
                  refine own_by (T' := T12) (g' := (mkF m 104 #[.val (.int u), .val (.int j1), .val (.int j4), .val (.int j7), .val (.int j10), .unset] [(.int u)])) (fun _ k => XS.iloadN X12.here hx rfl (hb hby d2_103) rfl k) ?_
                  refine own_by (T' := T12) (g' := (mkF m 106 #[.val (.int u), .val (.int j1), .val (.int j4), .val (.int j7), .val (.int j10), .unset] [(.int (123 : Int32)), (.int u)])) (fun _ k => XS.bipush X12.here hx rfl (hb hby d2_104) k) ?_
                  by_cases hc106_30 : u < (123 : Int32)
                  · skip
                    refine own_by (T' := T12) (g' := (mkF m 119 #[.val (.int u), .val (.int j1), .val (.int j4), .val (.int j7), .val (.int j10), .unset] [])) (fun _ k => XS.icmpYes X12.here hx rfl (pc0 := 106) (pc' := 119) rfl (hb hby d2_106) rfl (tlt hc106_30).1 (by decide) (by decide) k) ?_
                    refine own_by (T' := T12) (g' := (mkF m 120 #[.val (.int u), .val (.int j1), .val (.int j4), .val (.int j7), .val (.int j10), .unset] [(.int (0 : Int32))])) (fun _ k => XS.iconst X12.here hx rfl (hb hby d2_119) k) ?_
                    exact J14 _ (((((if_pos hc70_24).trans (if_pos hc82_25)).trans (if_neg hc94_26)).trans (if_pos hc100_29)).trans (if_pos hc106_30)).symm T12 X12 e12
                  · skip
                    refine own_by (T' := T12) (g' := (mkF m 109 #[.val (.int u), .val (.int j1), .val (.int j4), .val (.int j7), .val (.int j10), .unset] [])) (fun _ k => XS.icmpNo X12.here hx rfl (hb hby d2_106) rfl (flt hc106_30).1 k) ?_
                    refine own_by (T' := T12) (g' := (mkF m 110 #[.val (.int u), .val (.int j1), .val (.int j4), .val (.int j7), .val (.int j10), .unset] [(.int u)])) (fun _ k => XS.iloadN X12.here hx rfl (hb hby d2_109) rfl k) ?_
                    refine own_by (T' := T12) (g' := (mkF m 112 #[.val (.int u), .val (.int j1), .val (.int j4), .val (.int j7), .val (.int j10), .unset] [(.int (126 : Int32)), (.int u)])) (fun _ k => XS.bipush X12.here hx rfl (hb hby d2_110) k) ?_
                    by_cases hc112_31 : (126 : Int32) < u
                    · skip
                      refine own_by (T' := T12) (g' := (mkF m 119 #[.val (.int u), .val (.int j1), .val (.int j4), .val (.int j7), .val (.int j10), .unset] [])) (fun _ k => XS.icmpYes X12.here hx rfl (pc0 := 112) (pc' := 119) rfl (hb hby d2_112) rfl (tlt hc112_31).2.2.1 (by decide) (by decide) k) ?_
                      refine own_by (T' := T12) (g' := (mkF m 120 #[.val (.int u), .val (.int j1), .val (.int j4), .val (.int j7), .val (.int j10), .unset] [(.int (0 : Int32))])) (fun _ k => XS.iconst X12.here hx rfl (hb hby d2_119) k) ?_
                      exact J14 _ ((((((if_pos hc70_24).trans (if_pos hc82_25)).trans (if_neg hc94_26)).trans (if_pos hc100_29)).trans (if_neg hc106_30)).trans (if_pos hc112_31)).symm T12 X12 e12
                    · skip
                      refine own_by (T' := T12) (g' := (mkF m 115 #[.val (.int u), .val (.int j1), .val (.int j4), .val (.int j7), .val (.int j10), .unset] [])) (fun _ k => XS.icmpNo X12.here hx rfl (hb hby d2_112) rfl (flt hc112_31).2.2.1 k) ?_
                      refine own_by (T' := T12) (g' := (mkF m 116 #[.val (.int u), .val (.int j1), .val (.int j4), .val (.int j7), .val (.int j10), .unset] [(.int (1 : Int32))])) (fun _ k => XS.iconst X12.here hx rfl (hb hby d2_115) k) ?_
                      refine own_by (T' := T12) (g' := (mkF m 120 #[.val (.int u), .val (.int j1), .val (.int j4), .val (.int j7), .val (.int j10), .unset] [(.int (1 : Int32))])) (fun _ k => XS.goto X12.here hx rfl (pc0 := 116) (pc' := 120) rfl (hb hby d2_116) (by decide) (by decide) k) ?_
                      exact J14 _ ((((((if_pos hc70_24).trans (if_pos hc82_25)).trans (if_neg hc94_26)).trans (if_pos hc100_29)).trans (if_neg hc106_30)).trans (if_neg hc112_31)).symm T12 X12 e12
                · skip
                  refine own_by (T' := T12) (g' := (mkF m 115 #[.val (.int u), .val (.int j1), .val (.int j4), .val (.int j7), .val (.int j10), .unset] [])) (fun _ k => XS.icmpYes X12.here hx rfl (pc0 := 100) (pc' := 115) rfl (hb hby d2_100) rfl (flt hc100_29).2.2.2 (by decide) (by decide) k) ?_
                  refine own_by (T' := T12) (g' := (mkF m 116 #[.val (.int u), .val (.int j1), .val (.int j4), .val (.int j7), .val (.int j10), .unset] [(.int (1 : Int32))])) (fun _ k => XS.iconst X12.here hx rfl (hb hby d2_115) k) ?_
                  refine own_by (T' := T12) (g' := (mkF m 120 #[.val (.int u), .val (.int j1), .val (.int j4), .val (.int j7), .val (.int j10), .unset] [(.int (1 : Int32))])) (fun _ k => XS.goto X12.here hx rfl (pc0 := 116) (pc' := 120) rfl (hb hby d2_116) (by decide) (by decide) k) ?_
                  exact J14 _ ((((if_pos hc70_24).trans (if_pos hc82_25)).trans (if_neg hc94_26)).trans (if_neg hc100_29)).symm T12 X12 e12
            · skip
              refine own_by (T' := T12) (g' := (mkF m 85 #[.val (.int u), .val (.int j1), .val (.int j4), .val (.int j7), .val (.int j10), .unset] [])) (fun _ k => XS.icmpNo X12.here hx rfl (hb hby d2_82) rfl (flt hc82_25).1 k) ?_
              refine own_by (T' := T12) (g' := (mkF m 86 #[.val (.int u), .val (.int j1), .val (.int j4), .val (.int j7), .val (.int j10), .unset] [(.int u)])) (fun _ k => XS.iloadN X12.here hx rfl (hb hby d2_85) rfl k) ?_
              refine own_by (T' := T12) (g' := (mkF m 88 #[.val (.int u), .val (.int j1), .val (.int j4), .val (.int j7), .val (.int j10), .unset] [(.int (64 : Int32)), (.int u)])) (fun _ k => XS.bipush X12.here hx rfl (hb hby d2_86) k) ?_
              by_cases hc88_32 : (64 : Int32) < u
              · skip
                refine own_by (T' := T12) (g' := (mkF m 91 #[.val (.int u), .val (.int j1), .val (.int j4), .val (.int j7), .val (.int j10), .unset] [])) (fun _ k => XS.icmpNo X12.here hx rfl (hb hby d2_88) rfl (tlt hc88_32).2.2.2 k) ?_
                refine own_by (T' := T12) (g' := (mkF m 92 #[.val (.int u), .val (.int j1), .val (.int j4), .val (.int j7), .val (.int j10), .unset] [(.int u)])) (fun _ k => XS.iloadN X12.here hx rfl (hb hby d2_91) rfl k) ?_
                refine own_by (T' := T12) (g' := (mkF m 94 #[.val (.int u), .val (.int j1), .val (.int j4), .val (.int j7), .val (.int j10), .unset] [(.int (91 : Int32)), (.int u)])) (fun _ k => XS.bipush X12.here hx rfl (hb hby d2_92) k) ?_
                by_cases hc94_33 : u < (91 : Int32)
                · skip
                  refine own_by (T' := T12) (g' := (mkF m 103 #[.val (.int u), .val (.int j1), .val (.int j4), .val (.int j7), .val (.int j10), .unset] [])) (fun _ k => XS.icmpYes X12.here hx rfl (pc0 := 94) (pc' := 103) rfl (hb hby d2_94) rfl (tlt hc94_33).1 (by decide) (by decide) k) ?_
                  refine own_by (T' := T12) (g' := (mkF m 104 #[.val (.int u), .val (.int j1), .val (.int j4), .val (.int j7), .val (.int j10), .unset] [(.int u)])) (fun _ k => XS.iloadN X12.here hx rfl (hb hby d2_103) rfl k) ?_
                  refine own_by (T' := T12) (g' := (mkF m 106 #[.val (.int u), .val (.int j1), .val (.int j4), .val (.int j7), .val (.int j10), .unset] [(.int (123 : Int32)), (.int u)])) (fun _ k => XS.bipush X12.here hx rfl (hb hby d2_104) k) ?_
                  by_cases hc106_34 : u < (123 : Int32)
                  · skip
                    refine own_by (T' := T12) (g' := (mkF m 119 #[.val (.int u), .val (.int j1), .val (.int j4), .val (.int j7), .val (.int j10), .unset] [])) (fun _ k => XS.icmpYes X12.here hx rfl (pc0 := 106) (pc' := 119) rfl (hb hby d2_106) rfl (tlt hc106_34).1 (by decide) (by decide) k) ?_
                    refine own_by (T' := T12) (g' := (mkF m 120 #[.val (.int u), .val (.int j1), .val (.int j4), .val (.int j7), .val (.int j10), .unset] [(.int (0 : Int32))])) (fun _ k => XS.iconst X12.here hx rfl (hb hby d2_119) k) ?_
                    exact J14 _ (((((if_pos hc70_24).trans (if_neg hc82_25)).trans (if_pos hc88_32)).trans (if_pos hc94_33)).trans (if_pos hc106_34)).symm T12 X12 e12
                  · skip
                    refine own_by (T' := T12) (g' := (mkF m 109 #[.val (.int u), .val (.int j1), .val (.int j4), .val (.int j7), .val (.int j10), .unset] [])) (fun _ k => XS.icmpNo X12.here hx rfl (hb hby d2_106) rfl (flt hc106_34).1 k) ?_
                    refine own_by (T' := T12) (g' := (mkF m 110 #[.val (.int u), .val (.int j1), .val (.int j4), .val (.int j7), .val (.int j10), .unset] [(.int u)])) (fun _ k => XS.iloadN X12.here hx rfl (hb hby d2_109) rfl k) ?_
                    refine own_by (T' := T12) (g' := (mkF m 112 #[.val (.int u), .val (.int j1), .val (.int j4), .val (.int j7), .val (.int j10), .unset] [(.int (126 : Int32)), (.int u)])) (fun _ k => XS.bipush X12.here hx rfl (hb hby d2_110) k) ?_
                    by_cases hc112_35 : (126 : Int32) < u
                    · skip
                      refine own_by (T' := T12) (g' := (mkF m 119 #[.val (.int u), .val (.int j1), .val (.int j4), .val (.int j7), .val (.int j10), .unset] [])) (fun _ k => XS.icmpYes X12.here hx rfl (pc0 := 112) (pc' := 119) rfl (hb hby d2_112) rfl (tlt hc112_35).2.2.1 (by decide) (by decide) k) ?_
                      refine own_by (T' := T12) (g' := (mkF m 120 #[.val (.int u), .val (.int j1), .val (.int j4), .val (.int j7), .val (.int j10), .unset] [(.int (0 : Int32))])) (fun _ k => XS.iconst X12.here hx rfl (hb hby d2_119) k) ?_
                      exact J14 _ ((((((if_pos hc70_24).trans (if_neg hc82_25)).trans (if_pos hc88_32)).trans (if_pos hc94_33)).trans (if_neg hc106_34)).trans (if_pos hc112_35)).symm T12 X12 e12
                    · skip
                      refine own_by (T' := T12) (g' := (mkF m 115 #[.val (.int u), .val (.int j1), .val (.int j4), .val (.int j7), .val (.int j10), .unset] [])) (fun _ k => XS.icmpNo X12.here hx rfl (hb hby d2_112) rfl (flt hc112_35).2.2.1 k) ?_
                      refine own_by (T' := T12) (g' := (mkF m 116 #[.val (.int u), .val (.int j1), .val (.int j4), .val (.int j7), .val (.int j10), .unset] [(.int (1 : Int32))])) (fun _ k => XS.iconst X12.here hx rfl (hb hby d2_115) k) ?_
                      refine own_by (T' := T12) (g' := (mkF m 120 #[.val (.int u), .val (.int j1), .val (.int j4), .val (.int j7), .val (.int j10), .unset] [(.int (1 : Int32))])) (fun _ k => XS.goto X12.here hx rfl (pc0 := 116) (pc' := 120) rfl (hb hby d2_116) (by decide) (by decide) k) ?_
                      exact J14 _ ((((((if_pos hc70_24).trans (if_neg hc82_25)).trans (if_pos hc88_32)).trans (if_pos hc94_33)).trans (if_neg hc106_34)).trans (if_neg hc112_35)).symm T12 X12 e12
                · skip
                  refine own_by (T' := T12) (g' := (mkF m 97 #[.val (.int u), .val (.int j1), .val (.int j4), .val (.int j7), .val (.int j10), .unset] [])) (fun _ k => XS.icmpNo X12.here hx rfl (hb hby d2_94) rfl (flt hc94_33).1 k) ?_
                  refine own_by (T' := T12) (g' := (mkF m 98 #[.val (.int u), .val (.int j1), .val (.int j4), .val (.int j7), .val (.int j10), .unset] [(.int u)])) (fun _ k => XS.iloadN X12.here hx rfl (hb hby d2_97) rfl k) ?_
                  refine own_by (T' := T12) (g' := (mkF m 100 #[.val (.int u), .val (.int j1), .val (.int j4), .val (.int j7), .val (.int j10), .unset] [(.int (96 : Int32)), (.int u)])) (fun _ k => XS.bipush X12.here hx rfl (hb hby d2_98) k) ?_
                  by_cases hc100_36 : (96 : Int32) < u
                  · skip
                    refine own_by (T' := T12) (g' := (mkF m 103 #[.val (.int u), .val (.int j1), .val (.int j4), .val (.int j7), .val (.int j10), .unset] [])) (fun _ k => XS.icmpNo X12.here hx rfl (hb hby d2_100) rfl (tlt hc100_36).2.2.2 k) ?_
                    refine own_by (T' := T12) (g' := (mkF m 104 #[.val (.int u), .val (.int j1), .val (.int j4), .val (.int j7), .val (.int j10), .unset] [(.int u)])) (fun _ k => XS.iloadN X12.here hx rfl (hb hby d2_103) rfl k) ?_
                    refine own_by (T' := T12) (g' := (mkF m 106 #[.val (.int u), .val (.int j1), .val (.int j4), .val (.int j7), .val (.int j10), .unset] [(.int (123 : Int32)), (.int u)])) (fun _ k => XS.bipush X12.here hx rfl (hb hby d2_104) k) ?_
                    by_cases hc106_37 : u < (123 : Int32)
                    · skip
                      refine own_by (T' := T12) (g' := (mkF m 119 #[.val (.int u), .val (.int j1), .val (.int j4), .val (.int j7), .val (.int j10), .unset] [])) (fun _ k => XS.icmpYes X12.here hx rfl (pc0 := 106) (pc' := 119) rfl (hb hby d2_106) rfl (tlt hc106_37).1 (by decide) (by decide) k) ?_
                      refine own_by (T' := T12) (g' := (mkF m 120 #[.val (.int u), .val (.int j1), .val (.int j4), .val (.int j7), .val (.int j10), .unset] [(.int (0 : Int32))])) (fun _ k => XS.iconst X12.here hx rfl (hb hby d2_119) k) ?_
                      exact J14 _ ((((((if_pos hc70_24).trans (if_neg hc82_25)).trans (if_pos hc88_32)).trans (if_neg hc94_33)).trans (if_pos hc100_36)).trans (if_pos hc106_37)).symm T12 X12 e12
                    · skip
                      refine own_by (T' := T12) (g' := (mkF m 109 #[.val (.int u), .val (.int j1), .val (.int j4), .val (.int j7), .val (.int j10), .unset] [])) (fun _ k => XS.icmpNo X12.here hx rfl (hb hby d2_106) rfl (flt hc106_37).1 k) ?_
                      refine own_by (T' := T12) (g' := (mkF m 110 #[.val (.int u), .val (.int j1), .val (.int j4), .val (.int j7), .val (.int j10), .unset] [(.int u)])) (fun _ k => XS.iloadN X12.here hx rfl (hb hby d2_109) rfl k) ?_
                      refine own_by (T' := T12) (g' := (mkF m 112 #[.val (.int u), .val (.int j1), .val (.int j4), .val (.int j7), .val (.int j10), .unset] [(.int (126 : Int32)), (.int u)])) (fun _ k => XS.bipush X12.here hx rfl (hb hby d2_110) k) ?_
                      by_cases hc112_38 : (126 : Int32) < u
                      · skip
                        refine own_by (T' := T12) (g' := (mkF m 119 #[.val (.int u), .val (.int j1), .val (.int j4), .val (.int j7), .val (.int j10), .unset] [])) (fun _ k => XS.icmpYes X12.here hx rfl (pc0 := 112) (pc' := 119) rfl (hb hby d2_112) rfl (tlt hc112_38).2.2.1 (by decide) (by decide) k) ?_
                        refine own_by (T' := T12) (g' := (mkF m 120 #[.val (.int u), .val (.int j1), .val (.int j4), .val (.int j7), .val (.int j10), .unset] [(.int (0 : Int32))])) (fun _ k => XS.iconst X12.here hx rfl (hb hby d2_119) k) ?_
                        exact J14 _ (((((((if_pos hc70_24).trans (if_neg hc82_25)).trans (if_pos hc88_32)).trans (if_neg hc94_33)).trans (if_pos hc100_36)).trans (if_neg hc106_37)).trans (if_pos hc112_38)).symm T12 X12 e12
                      · skip
                        refine own_by (T' := T12) (g' := (mkF m 115 #[.val (.int u), .val (.int j1), .val (.int j4), .val (.int j7), .val (.int j10), .unset] [])) (fun _ k => XS.icmpNo X12.here hx rfl (hb hby d2_112) rfl (flt hc112_38).2.2.1 k) ?_
                        refine own_by (T' := T12) (g' := (mkF m 116 #[.val (.int u), .val (.int j1), .val (.int j4), .val (.int j7), .val (.int j10), .unset] [(.int (1 : Int32))])) (fun _ k => XS.iconst X12.here hx rfl (hb hby d2_115) k) ?_
                        refine own_by (T' := T12) (g' := (mkF m 120 #[.val (.int u), .val (.int j1), .val (.int j4), .val (.int j7), .val (.int j10), .unset] [(.int (1 : Int32))])) (fun _ k => XS.goto X12.here hx rfl (pc0 := 116) (pc' := 120) rfl (hb hby d2_116) (by decide) (by decide) k) ?_
                        exact J14 _ (((((((if_pos hc70_24).trans (if_neg hc82_25)).trans (if_pos hc88_32)).trans (if_neg hc94_33)).trans (if_pos hc100_36)).trans (if_neg hc106_37)).trans (if_neg hc112_38)).symm T12 X12 e12
                  · skip
                    refine own_by (T' := T12) (g' := (mkF m 115 #[.val (.int u), .val (.int j1), .val (.int j4), .val (.int j7), .val (.int j10), .unset] [])) (fun _ k => XS.icmpYes X12.here hx rfl (pc0 := 100) (pc' := 115) rfl (hb hby d2_100) rfl (flt hc100_36).2.2.2 (by decide) (by decide) k) ?_
                    refine own_by (T' := T12) (g' := (mkF m 116 #[.val (.int u), .val (.int j1), .val (.int j4), .val (.int j7), .val (.int j10), .unset] [(.int (1 : Int32))])) (fun _ k => XS.iconst X12.here hx rfl (hb hby d2_115) k) ?_
                    refine own_by (T' := T12) (g' := (mkF m 120 #[.val (.int u), .val (.int j1), .val (.int j4), .val (.int j7), .val (.int j10), .unset] [(.int (1 : Int32))])) (fun _ k => XS.goto X12.here hx rfl (pc0 := 116) (pc' := 120) rfl (hb hby d2_116) (by decide) (by decide) k) ?_
                    exact J14 _ (((((if_pos hc70_24).trans (if_neg hc82_25)).trans (if_pos hc88_32)).trans (if_neg hc94_33)).trans (if_neg hc100_36)).symm T12 X12 e12
              · skip
                refine own_by (T' := T12) (g' := (mkF m 115 #[.val (.int u), .val (.int j1), .val (.int j4), .val (.int j7), .val (.int j10), .unset] [])) (fun _ k => XS.icmpYes X12.here hx rfl (pc0 := 88) (pc' := 115) rfl (hb hby d2_88) rfl (flt hc88_32).2.2.2 (by decide) (by decide) k) ?_
                refine own_by (T' := T12) (g' := (mkF m 116 #[.val (.int u), .val (.int j1), .val (.int j4), .val (.int j7), .val (.int j10), .unset] [(.int (1 : Int32))])) (fun _ k => XS.iconst X12.here hx rfl (hb hby d2_115) k) ?_
                refine own_by (T' := T12) (g' := (mkF m 120 #[.val (.int u), .val (.int j1), .val (.int j4), .val (.int j7), .val (.int j10), .unset] [(.int (1 : Int32))])) (fun _ k => XS.goto X12.here hx rfl (pc0 := 116) (pc' := 120) rfl (hb hby d2_116) (by decide) (by decide) k) ?_
                exact J14 _ (((if_pos hc70_24).trans (if_neg hc82_25)).trans (if_neg hc88_32)).symm T12 X12 e12
          · skip
            refine own_by (T' := T12) (g' := (mkF m 73 #[.val (.int u), .val (.int j1), .val (.int j4), .val (.int j7), .val (.int j10), .unset] [])) (fun _ k => XS.icmpNo X12.here hx rfl (hb hby d2_70) rfl (flt hc70_24).1 k) ?_
            refine own_by (T' := T12) (g' := (mkF m 74 #[.val (.int u), .val (.int j1), .val (.int j4), .val (.int j7), .val (.int j10), .unset] [(.int u)])) (fun _ k => XS.iloadN X12.here hx rfl (hb hby d2_73) rfl k) ?_
            refine own_by (T' := T12) (g' := (mkF m 76 #[.val (.int u), .val (.int j1), .val (.int j4), .val (.int j7), .val (.int j10), .unset] [(.int (47 : Int32)), (.int u)])) (fun _ k => XS.bipush X12.here hx rfl (hb hby d2_74) k) ?_
            by_cases hc76_39 : (47 : Int32) < u
            · skip
              refine own_by (T' := T12) (g' := (mkF m 79 #[.val (.int u), .val (.int j1), .val (.int j4), .val (.int j7), .val (.int j10), .unset] [])) (fun _ k => XS.icmpNo X12.here hx rfl (hb hby d2_76) rfl (tlt hc76_39).2.2.2 k) ?_
              refine own_by (T' := T12) (g' := (mkF m 80 #[.val (.int u), .val (.int j1), .val (.int j4), .val (.int j7), .val (.int j10), .unset] [(.int u)])) (fun _ k => XS.iloadN X12.here hx rfl (hb hby d2_79) rfl k) ?_
              refine own_by (T' := T12) (g' := (mkF m 82 #[.val (.int u), .val (.int j1), .val (.int j4), .val (.int j7), .val (.int j10), .unset] [(.int (58 : Int32)), (.int u)])) (fun _ k => XS.bipush X12.here hx rfl (hb hby d2_80) k) ?_
              by_cases hc82_40 : u < (58 : Int32)
              · skip
                refine own_by (T' := T12) (g' := (mkF m 91 #[.val (.int u), .val (.int j1), .val (.int j4), .val (.int j7), .val (.int j10), .unset] [])) (fun _ k => XS.icmpYes X12.here hx rfl (pc0 := 82) (pc' := 91) rfl (hb hby d2_82) rfl (tlt hc82_40).1 (by decide) (by decide) k) ?_
                refine own_by (T' := T12) (g' := (mkF m 92 #[.val (.int u), .val (.int j1), .val (.int j4), .val (.int j7), .val (.int j10), .unset] [(.int u)])) (fun _ k => XS.iloadN X12.here hx rfl (hb hby d2_91) rfl k) ?_
                refine own_by (T' := T12) (g' := (mkF m 94 #[.val (.int u), .val (.int j1), .val (.int j4), .val (.int j7), .val (.int j10), .unset] [(.int (91 : Int32)), (.int u)])) (fun _ k => XS.bipush X12.here hx rfl (hb hby d2_92) k) ?_
                by_cases hc94_41 : u < (91 : Int32)
                · skip
                  refine own_by (T' := T12) (g' := (mkF m 103 #[.val (.int u), .val (.int j1), .val (.int j4), .val (.int j7), .val (.int j10), .unset] [])) (fun _ k => XS.icmpYes X12.here hx rfl (pc0 := 94) (pc' := 103) rfl (hb hby d2_94) rfl (tlt hc94_41).1 (by decide) (by decide) k) ?_
                  refine own_by (T' := T12) (g' := (mkF m 104 #[.val (.int u), .val (.int j1), .val (.int j4), .val (.int j7), .val (.int j10), .unset] [(.int u)])) (fun _ k => XS.iloadN X12.here hx rfl (hb hby d2_103) rfl k) ?_
                  refine own_by (T' := T12) (g' := (mkF m 106 #[.val (.int u), .val (.int j1), .val (.int j4), .val (.int j7), .val (.int j10), .unset] [(.int (123 : Int32)), (.int u)])) (fun _ k => XS.bipush X12.here hx rfl (hb hby d2_104) k) ?_
                  by_cases hc106_42 : u < (123 : Int32)
                  · skip
                    refine own_by (T' := T12) (g' := (mkF m 119 #[.val (.int u), .val (.int j1), .val (.int j4), .val (.int j7), .val (.int j10), .unset] [])) (fun _ k => XS.icmpYes X12.here hx rfl (pc0 := 106) (pc' := 119) rfl (hb hby d2_106) rfl (tlt hc106_42).1 (by decide) (by decide) k) ?_
                    refine own_by (T' := T12) (g' := (mkF m 120 #[.val (.int u), .val (.int j1), .val (.int j4), .val (.int j7), .val (.int j10), .unset] [(.int (0 : Int32))])) (fun _ k => XS.iconst X12.here hx rfl (hb hby d2_119) k) ?_
                    exact J14 _ (((((if_neg hc70_24).trans (if_pos hc76_39)).trans (if_pos hc82_40)).trans (if_pos hc94_41)).trans (if_pos hc106_42)).symm T12 X12 e12
                  · skip
                    refine own_by (T' := T12) (g' := (mkF m 109 #[.val (.int u), .val (.int j1), .val (.int j4), .val (.int j7), .val (.int j10), .unset] [])) (fun _ k => XS.icmpNo X12.here hx rfl (hb hby d2_106) rfl (flt hc106_42).1 k) ?_
                    refine own_by (T' := T12) (g' := (mkF m 110 #[.val (.int u), .val (.int j1), .val (.int j4), .val (.int j7), .val (.int j10), .unset] [(.int u)])) (fun _ k => XS.iloadN X12.here hx rfl (hb hby d2_109) rfl k) ?_
                    refine own_by (T' := T12) (g' := (mkF m 112 #[.val (.int u), .val (.int j1), .val (.int j4), .val (.int j7), .val (.int j10), .unset] [(.int (126 : Int32)), (.int u)])) (fun _ k => XS.bipush X12.here hx rfl (hb hby d2_110) k) ?_
                    by_cases hc112_43 : (126 : Int32) < u
                    · skip
                      refine own_by (T' := T12) (g' := (mkF m 119 #[.val (.int u), .val (.int j1), .val (.int j4), .val (.int j7), .val (.int j10), .unset] [])) (fun _ k => XS.icmpYes X12.here hx rfl (pc0 := 112) (pc' := 119) rfl (hb hby d2_112) rfl (tlt hc112_43).2.2.1 (by decide) (by decide) k) ?_
                      refine own_by (T' := T12) (g' := (mkF m 120 #[.val (.int u), .val (.int j1), .val (.int j4), .val (.int j7), .val (.int j10), .unset] [(.int (0 : Int32))])) (fun _ k => XS.iconst X12.here hx rfl (hb hby d2_119) k) ?_
                      exact J14 _ ((((((if_neg hc70_24).trans (if_pos hc76_39)).trans (if_pos hc82_40)).trans (if_pos hc94_41)).trans (if_neg hc106_42)).trans (if_pos hc112_43)).symm T12 X12 e12
                    · skip
                      refine own_by (T' := T12) (g' := (mkF m 115 #[.val (.int u), .val (.int j1), .val (.int j4), .val (.int j7), .val (.int j10), .unset] [])) (fun _ k => XS.icmpNo X12.here hx rfl (hb hby d2_112) rfl (flt hc112_43).2.2.1 k) ?_
                      refine own_by (T' := T12) (g' := (mkF m 116 #[.val (.int u), .val (.int j1), .val (.int j4), .val (.int j7), .val (.int j10), .unset] [(.int (1 : Int32))])) (fun _ k => XS.iconst X12.here hx rfl (hb hby d2_115) k) ?_
                      refine own_by (T' := T12) (g' := (mkF m 120 #[.val (.int u), .val (.int j1), .val (.int j4), .val (.int j7), .val (.int j10), .unset] [(.int (1 : Int32))])) (fun _ k => XS.goto X12.here hx rfl (pc0 := 116) (pc' := 120) rfl (hb hby d2_116) (by decide) (by decide) k) ?_
                      exact J14 _ ((((((if_neg hc70_24).trans (if_pos hc76_39)).trans (if_pos hc82_40)).trans (if_pos hc94_41)).trans (if_neg hc106_42)).trans (if_neg hc112_43)).symm T12 X12 e12
                · skip
                  refine own_by (T' := T12) (g' := (mkF m 97 #[.val (.int u), .val (.int j1), .val (.int j4), .val (.int j7), .val (.int j10), .unset] [])) (fun _ k => XS.icmpNo X12.here hx rfl (hb hby d2_94) rfl (flt hc94_41).1 k) ?_
                  refine own_by (T' := T12) (g' := (mkF m 98 #[.val (.int u), .val (.int j1), .val (.int j4), .val (.int j7), .val (.int j10), .unset] [(.int u)])) (fun _ k => XS.iloadN X12.here hx rfl (hb hby d2_97) rfl k) ?_
                  refine own_by (T' := T12) (g' := (mkF m 100 #[.val (.int u), .val (.int j1), .val (.int j4), .val (.int j7), .val (.int j10), .unset] [(.int (96 : Int32)), (.int u)])) (fun _ k => XS.bipush X12.here hx rfl (hb hby d2_98) k) ?_
                  by_cases hc100_44 : (96 : Int32) < u
                  · skip
                    refine own_by (T' := T12) (g' := (mkF m 103 #[.val (.int u), .val (.int j1), .val (.int j4), .val (.int j7), .val (.int j10), .unset] [])) (fun _ k => XS.icmpNo X12.here hx rfl (hb hby d2_100) rfl (tlt hc100_44).2.2.2 k) ?_
                    refine own_by (T' := T12) (g' := (mkF m 104 #[.val (.int u), .val (.int j1), .val (.int j4), .val (.int j7), .val (.int j10), .unset] [(.int u)])) (fun _ k => XS.iloadN X12.here hx rfl (hb hby d2_103) rfl k) ?_
                    refine own_by (T' := T12) (g' := (mkF m 106 #[.val (.int u), .val (.int j1), .val (.int j4), .val (.int j7), .val (.int j10), .unset] [(.int (123 : Int32)), (.int u)])) (fun _ k => XS.bipush X12.here hx rfl (hb hby d2_104) k) ?_
                    by_cases hc106_45 : u < (123 : Int32)
                    · skip
                      refine own_by (T' := T12) (g' := (mkF m 119 #[.val (.int u), .val (.int j1), .val (.int j4), .val (.int j7), .val (.int j10), .unset] [])) (fun _ k => XS.icmpYes X12.here hx rfl (pc0 := 106) (pc' := 119) rfl (hb hby d2_106) rfl (tlt hc106_45).1 (by decide) (by decide) k) ?_
                      refine own_by (T' := T12) (g' := (mkF m 120 #[.val (.int u), .val (.int j1), .val (.int j4), .val (.int j7), .val (.int j10), .unset] [(.int (0 : Int32))])) (fun _ k => XS.iconst X12.here hx rfl (hb hby d2_119) k) ?_
                      exact J14 _ ((((((if_neg hc70_24).trans (if_pos hc76_39)).trans (if_pos hc82_40)).trans (if_neg hc94_41)).trans (if_pos hc100_44)).trans (if_pos hc106_45)).symm T12 X12 e12
                    · skip
                      refine own_by (T' := T12) (g' := (mkF m 109 #[.val (.int u), .val (.int j1), .val (.int j4), .val (.int j7), .val (.int j10), .unset] [])) (fun _ k => XS.icmpNo X12.here hx rfl (hb hby d2_106) rfl (flt hc106_45).1 k) ?_
                      refine own_by (T' := T12) (g' := (mkF m 110 #[.val (.int u), .val (.int j1), .val (.int j4), .val (.int j7), .val (.int j10), .unset] [(.int u)])) (fun _ k => XS.iloadN X12.here hx rfl (hb hby d2_109) rfl k) ?_
                      refine own_by (T' := T12) (g' := (mkF m 112 #[.val (.int u), .val (.int j1), .val (.int j4), .val (.int j7), .val (.int j10), .unset] [(.int (126 : Int32)), (.int u)])) (fun _ k => XS.bipush X12.here hx rfl (hb hby d2_110) k) ?_
                      by_cases hc112_46 : (126 : Int32) < u
                      · skip
                        refine own_by (T' := T12) (g' := (mkF m 119 #[.val (.int u), .val (.int j1), .val (.int j4), .val (.int j7), .val (.int j10), .unset] [])) (fun _ k => XS.icmpYes X12.here hx rfl (pc0 := 112) (pc' := 119) rfl (hb hby d2_112) rfl (tlt hc112_46).2.2.1 (by decide) (by decide) k) ?_
                        refine own_by (T' := T12) (g' := (mkF m 120 #[.val (.int u), .val (.int j1), .val (.int j4), .val (.int j7), .val (.int j10), .unset] [(.int (0 : Int32))])) (fun _ k => XS.iconst X12.here hx rfl (hb hby d2_119) k) ?_
                        exact J14 _ (((((((if_neg hc70_24).trans (if_pos hc76_39)).trans (if_pos hc82_40)).trans (if_neg hc94_41)).trans (if_pos hc100_44)).trans (if_neg hc106_45)).trans (if_pos hc112_46)).symm T12 X12 e12
                      · skip
                        refine own_by (T' := T12) (g' := (mkF m 115 #[.val (.int u), .val (.int j1), .val (.int j4), .val (.int j7), .val (.int j10), .unset] [])) (fun _ k => XS.icmpNo X12.here hx rfl (hb hby d2_112) rfl (flt hc112_46).2.2.1 k) ?_
                        refine own_by (T' := T12) (g' := (mkF m 116 #[.val (.int u), .val (.int j1), .val (.int j4), .val (.int j7), .val (.int j10), .unset] [(.int (1 : Int32))])) (fun _ k => XS.iconst X12.here hx rfl (hb hby d2_115) k) ?_
                        refine own_by (T' := T12) (g' := (mkF m 120 #[.val (.int u), .val (.int j1), .val (.int j4), .val (.int j7), .val (.int j10), .unset] [(.int (1 : Int32))])) (fun _ k => XS.goto X12.here hx rfl (pc0 := 116) (pc' := 120) rfl (hb hby d2_116) (by decide) (by decide) k) ?_
                        exact J14 _ (((((((if_neg hc70_24).trans (if_pos hc76_39)).trans (if_pos hc82_40)).trans (if_neg hc94_41)).trans (if_pos hc100_44)).trans (if_neg hc106_45)).trans (if_neg hc112_46)).symm T12 X12 e12
                  · skip
                    refine own_by (T' := T12) (g' := (mkF m 115 #[.val (.int u), .val (.int j1), .val (.int j4), .val (.int j7), .val (.int j10), .unset] [])) (fun _ k => XS.icmpYes X12.here hx rfl (pc0 := 100) (pc' := 115) rfl (hb hby d2_100) rfl (flt hc100_44).2.2.2 (by decide) (by decide) k) ?_
                    refine own_by (T' := T12) (g' := (mkF m 116 #[.val (.int u), .val (.int j1), .val (.int j4), .val (.int j7), .val (.int j10), .unset] [(.int (1 : Int32))])) (fun _ k => XS.iconst X12.here hx rfl (hb hby d2_115) k) ?_
                    refine own_by (T' := T12) (g' := (mkF m 120 #[.val (.int u), .val (.int j1), .val (.int j4), .val (.int j7), .val (.int j10), .unset] [(.int (1 : Int32))])) (fun _ k => XS.goto X12.here hx rfl (pc0 := 116) (pc' := 120) rfl (hb hby d2_116) (by decide) (by decide) k) ?_
                    exact J14 _ (((((if_neg hc70_24).trans (if_pos hc76_39)).trans (if_pos hc82_40)).trans (if_neg hc94_41)).trans (if_neg hc100_44)).symm T12 X12 e12
              · skip
                refine own_by (T' := T12) (g' := (mkF m 85 #[.val (.int u), .val (.int j1), .val (.int j4), .val (.int j7), .val (.int j10), .unset] [])) (fun _ k => XS.icmpNo X12.here hx rfl (hb hby d2_82) rfl (flt hc82_40).1 k) ?_
                refine own_by (T' := T12) (g' := (mkF m 86 #[.val (.int u), .val (.int j1), .val (.int j4), .val (.int j7), .val (.int j10), .unset] [(.int u)])) (fun _ k => XS.iloadN X12.here hx rfl (hb hby d2_85) rfl k) ?_
                refine own_by (T' := T12) (g' := (mkF m 88 #[.val (.int u), .val (.int j1), .val (.int j4), .val (.int j7), .val (.int j10), .unset] [(.int (64 : Int32)), (.int u)])) (fun _ k => XS.bipush X12.here hx rfl (hb hby d2_86) k) ?_
                by_cases hc88_47 : (64 : Int32) < u
                · skip
                  refine own_by (T' := T12) (g' := (mkF m 91 #[.val (.int u), .val (.int j1), .val (.int j4), .val (.int j7), .val (.int j10), .unset] [])) (fun _ k => XS.icmpNo X12.here hx rfl (hb hby d2_88) rfl (tlt hc88_47).2.2.2 k) ?_
                  refine own_by (T' := T12) (g' := (mkF m 92 #[.val (.int u), .val (.int j1), .val (.int j4), .val (.int j7), .val (.int j10), .unset] [(.int u)])) (fun _ k => XS.iloadN X12.here hx rfl (hb hby d2_91) rfl k) ?_
                  refine own_by (T' := T12) (g' := (mkF m 94 #[.val (.int u), .val (.int j1), .val (.int j4), .val (.int j7), .val (.int j10), .unset] [(.int (91 : Int32)), (.int u)])) (fun _ k => XS.bipush X12.here hx rfl (hb hby d2_92) k) ?_
                  by_cases hc94_48 : u < (91 : Int32)
                  · skip
                    refine own_by (T' := T12) (g' := (mkF m 103 #[.val (.int u), .val (.int j1), .val (.int j4), .val (.int j7), .val (.int j10), .unset] [])) (fun _ k => XS.icmpYes X12.here hx rfl (pc0 := 94) (pc' := 103) rfl (hb hby d2_94) rfl (tlt hc94_48).1 (by decide) (by decide) k) ?_
                    refine own_by (T' := T12) (g' := (mkF m 104 #[.val (.int u), .val (.int j1), .val (.int j4), .val (.int j7), .val (.int j10), .unset] [(.int u)])) (fun _ k => XS.iloadN X12.here hx rfl (hb hby d2_103) rfl k) ?_
                    refine own_by (T' := T12) (g' := (mkF m 106 #[.val (.int u), .val (.int j1), .val (.int j4), .val (.int j7), .val (.int j10), .unset] [(.int (123 : Int32)), (.int u)])) (fun _ k => XS.bipush X12.here hx rfl (hb hby d2_104) k) ?_
                    by_cases hc106_49 : u < (123 : Int32)
                    · skip
                      refine own_by (T' := T12) (g' := (mkF m 119 #[.val (.int u), .val (.int j1), .val (.int j4), .val (.int j7), .val (.int j10), .unset] [])) (fun _ k => XS.icmpYes X12.here hx rfl (pc0 := 106) (pc' := 119) rfl (hb hby d2_106) rfl (tlt hc106_49).1 (by decide) (by decide) k) ?_
                      refine own_by (T' := T12) (g' := (mkF m 120 #[.val (.int u), .val (.int j1), .val (.int j4), .val (.int j7), .val (.int j10), .unset] [(.int (0 : Int32))])) (fun _ k => XS.iconst X12.here hx rfl (hb hby d2_119) k) ?_
                      exact J14 _ ((((((if_neg hc70_24).trans (if_pos hc76_39)).trans (if_neg hc82_40)).trans (if_pos hc88_47)).trans (if_pos hc94_48)).trans (if_pos hc106_49)).symm T12 X12 e12
                    · skip
                      refine own_by (T' := T12) (g' := (mkF m 109 #[.val (.int u), .val (.int j1), .val (.int j4), .val (.int j7), .val (.int j10), .unset] [])) (fun _ k => XS.icmpNo X12.here hx rfl (hb hby d2_106) rfl (flt hc106_49).1 k) ?_
                      refine own_by (T' := T12) (g' := (mkF m 110 #[.val (.int u), .val (.int j1), .val (.int j4), .val (.int j7), .val (.int j10), .unset] [(.int u)])) (fun _ k => XS.iloadN X12.here hx rfl (hb hby d2_109) rfl k) ?_
                      refine own_by (T' := T12) (g' := (mkF m 112 #[.val (.int u), .val (.int j1), .val (.int j4), .val (.int j7), .val (.int j10), .unset] [(.int (126 : Int32)), (.int u)])) (fun _ k => XS.bipush X12.here hx rfl (hb hby d2_110) k) ?_
                      by_cases hc112_50 : (126 : Int32) < u
                      · skip
                        refine own_by (T' := T12) (g' := (mkF m 119 #[.val (.int u), .val (.int j1), .val (.int j4), .val (.int j7), .val (.int j10), .unset] [])) (fun _ k => XS.icmpYes X12.here hx rfl (pc0 := 112) (pc' := 119) rfl (hb hby d2_112) rfl (tlt hc112_50).2.2.1 (by decide) (by decide) k) ?_
                        refine own_by (T' := T12) (g' := (mkF m 120 #[.val (.int u), .val (.int j1), .val (.int j4), .val (.int j7), .val (.int j10), .unset] [(.int (0 : Int32))])) (fun _ k => XS.iconst X12.here hx rfl (hb hby d2_119) k) ?_
                        exact J14 _ (((((((if_neg hc70_24).trans (if_pos hc76_39)).trans (if_neg hc82_40)).trans (if_pos hc88_47)).trans (if_pos hc94_48)).trans (if_neg hc106_49)).trans (if_pos hc112_50)).symm T12 X12 e12
                      · skip
                        refine own_by (T' := T12) (g' := (mkF m 115 #[.val (.int u), .val (.int j1), .val (.int j4), .val (.int j7), .val (.int j10), .unset] [])) (fun _ k => XS.icmpNo X12.here hx rfl (hb hby d2_112) rfl (flt hc112_50).2.2.1 k) ?_
                        refine own_by (T' := T12) (g' := (mkF m 116 #[.val (.int u), .val (.int j1), .val (.int j4), .val (.int j7), .val (.int j10), .unset] [(.int (1 : Int32))])) (fun _ k => XS.iconst X12.here hx rfl (hb hby d2_115) k) ?_
                        refine own_by (T' := T12) (g' := (mkF m 120 #[.val (.int u), .val (.int j1), .val (.int j4), .val (.int j7), .val (.int j10), .unset] [(.int (1 : Int32))])) (fun _ k => XS.goto X12.here hx rfl (pc0 := 116) (pc' := 120) rfl (hb hby d2_116) (by decide) (by decide) k) ?_
                        exact J14 _ (((((((if_neg hc70_24).trans (if_pos hc76_39)).trans (if_neg hc82_40)).trans (if_pos hc88_47)).trans (if_pos hc94_48)).trans (if_neg hc106_49)).trans (if_neg hc112_50)).symm T12 X12 e12
                  · skip
                    refine own_by (T' := T12) (g' := (mkF m 97 #[.val (.int u), .val (.int j1), .val (.int j4), .val (.int j7), .val (.int j10), .unset] [])) (fun _ k => XS.icmpNo X12.here hx rfl (hb hby d2_94) rfl (flt hc94_48).1 k) ?_
                    refine own_by (T' := T12) (g' := (mkF m 98 #[.val (.int u), .val (.int j1), .val (.int j4), .val (.int j7), .val (.int j10), .unset] [(.int u)])) (fun _ k => XS.iloadN X12.here hx rfl (hb hby d2_97) rfl k) ?_
                    refine own_by (T' := T12) (g' := (mkF m 100 #[.val (.int u), .val (.int j1), .val (.int j4), .val (.int j7), .val (.int j10), .unset] [(.int (96 : Int32)), (.int u)])) (fun _ k => XS.bipush X12.here hx rfl (hb hby d2_98) k) ?_
                    by_cases hc100_51 : (96 : Int32) < u
                    · skip
                      refine own_by (T' := T12) (g' := (mkF m 103 #[.val (.int u), .val (.int j1), .val (.int j4), .val (.int j7), .val (.int j10), .unset] [])) (fun _ k => XS.icmpNo X12.here hx rfl (hb hby d2_100) rfl (tlt hc100_51).2.2.2 k) ?_
                      refine own_by (T' := T12) (g' := (mkF m 104 #[.val (.int u), .val (.int j1), .val (.int j4), .val (.int j7), .val (.int j10), .unset] [(.int u)])) (fun _ k => XS.iloadN X12.here hx rfl (hb hby d2_103) rfl k) ?_
                      refine own_by (T' := T12) (g' := (mkF m 106 #[.val (.int u), .val (.int j1), .val (.int j4), .val (.int j7), .val (.int j10), .unset] [(.int (123 : Int32)), (.int u)])) (fun _ k => XS.bipush X12.here hx rfl (hb hby d2_104) k) ?_
                      by_cases hc106_52 : u < (123 : Int32)
                      · skip
                        refine own_by (T' := T12) (g' := (mkF m 119 #[.val (.int u), .val (.int j1), .val (.int j4), .val (.int j7), .val (.int j10), .unset] [])) (fun _ k => XS.icmpYes X12.here hx rfl (pc0 := 106) (pc' := 119) rfl (hb hby d2_106) rfl (tlt hc106_52).1 (by decide) (by decide) k) ?_
                        refine own_by (T' := T12) (g' := (mkF m 120 #[.val (.int u), .val (.int j1), .val (.int j4), .val (.int j7), .val (.int j10), .unset] [(.int (0 : Int32))])) (fun _ k => XS.iconst X12.here hx rfl (hb hby d2_119) k) ?_
                        exact J14 _ (((((((if_neg hc70_24).trans (if_pos hc76_39)).trans (if_neg hc82_40)).trans (if_pos hc88_47)).trans (if_neg hc94_48)).trans (if_pos hc100_51)).trans (if_pos hc106_52)).symm T12 X12 e12
                      · skip
                        refine own_by (T' := T12) (g' := (mkF m 109 #[.val (.int u), .val (.int j1), .val (.int j4), .val (.int j7), .val (.int j10), .unset] [])) (fun _ k => XS.icmpNo X12.here hx rfl (hb hby d2_106) rfl (flt hc106_52).1 k) ?_
                        refine own_by (T' := T12) (g' := (mkF m 110 #[.val (.int u), .val (.int j1), .val (.int j4), .val (.int j7), .val (.int j10), .unset] [(.int u)])) (fun _ k => XS.iloadN X12.here hx rfl (hb hby d2_109) rfl k) ?_
                        refine own_by (T' := T12) (g' := (mkF m 112 #[.val (.int u), .val (.int j1), .val (.int j4), .val (.int j7), .val (.int j10), .unset] [(.int (126 : Int32)), (.int u)])) (fun _ k => XS.bipush X12.here hx rfl (hb hby d2_110) k) ?_
                        by_cases hc112_53 : (126 : Int32) < u
                        · skip
                          refine own_by (T' := T12) (g' := (mkF m 119 #[.val (.int u), .val (.int j1), .val (.int j4), .val (.int j7), .val (.int j10), .unset] [])) (fun _ k => XS.icmpYes X12.here hx rfl (pc0 := 112) (pc' := 119) rfl (hb hby d2_112) rfl (tlt hc112_53).2.2.1 (by decide) (by decide) k) ?_
                          refine own_by (T' := T12) (g' := (mkF m 120 #[.val (.int u), .val (.int j1), .val (.int j4), .val (.int j7), .val (.int j10), .unset] [(.int (0 : Int32))])) (fun _ k => XS.iconst X12.here hx rfl (hb hby d2_119) k) ?_
                          exact J14 _ ((((((((if_neg hc70_24).trans (if_pos hc76_39)).trans (if_neg hc82_40)).trans (if_pos hc88_47)).trans (if_neg hc94_48)).trans (if_pos hc100_51)).trans (if_neg hc106_52)).trans (if_pos hc112_53)).symm T12 X12 e12
                        · skip
                          refine own_by (T' := T12) (g' := (mkF m 115 #[.val (.int u), .val (.int j1), .val (.int j4), .val (.int j7), .val (.int j10), .unset] [])) (fun _ k => XS.icmpNo X12.here hx rfl (hb hby d2_112) rfl (flt hc112_53).2.2.1 k) ?_
                          refine own_by (T' := T12) (g' := (mkF m 116 #[.val (.int u), .val (.int j1), .val (.int j4), .val (.int j7), .val (.int j10), .unset] [(.int (1 : Int32))])) (fun _ k => XS.iconst X12.here hx rfl (hb hby d2_115) k) ?_
                          refine own_by (T' := T12) (g' := (mkF m 120 #[.val (.int u), .val (.int j1), .val (.int j4), .val (.int j7), .val (.int j10), .unset] [(.int (1 : Int32))])) (fun _ k => XS.goto X12.here hx rfl (pc0 := 116) (pc' := 120) rfl (hb hby d2_116) (by decide) (by decide) k) ?_
                          exact J14 _ ((((((((if_neg hc70_24).trans (if_pos hc76_39)).trans (if_neg hc82_40)).trans (if_pos hc88_47)).trans (if_neg hc94_48)).trans (if_pos hc100_51)).trans (if_neg hc106_52)).trans (if_neg hc112_53)).symm T12 X12 e12
                    · skip
                      refine own_by (T' := T12) (g' := (mkF m 115 #[.val (.int u), .val (.int j1), .val (.int j4), .val (.int j7), .val (.int j10), .unset] [])) (fun _ k => XS.icmpYes X12.here hx rfl (pc0 := 100) (pc' := 115) rfl (hb hby d2_100) rfl (flt hc100_51).2.2.2 (by decide) (by decide) k) ?_
                      refine own_by (T' := T12) (g' := (mkF m 116 #[.val (.int u), .val (.int j1), .val (.int j4), .val (.int j7), .val (.int j10), .unset] [(.int (1 : Int32))])) (fun _ k => XS.iconst X12.here hx rfl (hb hby d2_115) k) ?_
                      refine own_by (T' := T12) (g' := (mkF m 120 #[.val (.int u), .val (.int j1), .val (.int j4), .val (.int j7), .val (.int j10), .unset] [(.int (1 : Int32))])) (fun _ k => XS.goto X12.here hx rfl (pc0 := 116) (pc' := 120) rfl (hb hby d2_116) (by decide) (by decide) k) ?_
                      exact J14 _ ((((((if_neg hc70_24).trans (if_pos hc76_39)).trans (if_neg hc82_40)).trans (if_pos hc88_47)).trans (if_neg hc94_48)).trans (if_neg hc100_51)).symm T12 X12 e12
                · skip
                  refine own_by (T' := T12) (g' := (mkF m 115 #[.val (.int u), .val (.int j1), .val (.int j4), .val (.int j7), .val (.int j10), .unset] [])) (fun _ k => XS.icmpYes X12.here hx rfl (pc0 := 88) (pc' := 115) rfl (hb hby d2_88) rfl (flt hc88_47).2.2.2 (by decide) (by decide) k) ?_
                  refine own_by (T' := T12) (g' := (mkF m 116 #[.val (.int u), .val (.int j1), .val (.int j4), .val (.int j7), .val (.int j10), .unset] [(.int (1 : Int32))])) (fun _ k => XS.iconst X12.here hx rfl (hb hby d2_115) k) ?_
                  refine own_by (T' := T12) (g' := (mkF m 120 #[.val (.int u), .val (.int j1), .val (.int j4), .val (.int j7), .val (.int j10), .unset] [(.int (1 : Int32))])) (fun _ k => XS.goto X12.here hx rfl (pc0 := 116) (pc' := 120) rfl (hb hby d2_116) (by decide) (by decide) k) ?_
                  exact J14 _ ((((if_neg hc70_24).trans (if_pos hc76_39)).trans (if_neg hc82_40)).trans (if_neg hc88_47)).symm T12 X12 e12
            · skip
              refine own_by (T' := T12) (g' := (mkF m 115 #[.val (.int u), .val (.int j1), .val (.int j4), .val (.int j7), .val (.int j10), .unset] [])) (fun _ k => XS.icmpYes X12.here hx rfl (pc0 := 76) (pc' := 115) rfl (hb hby d2_76) rfl (flt hc76_39).2.2.2 (by decide) (by decide) k) ?_
              refine own_by (T' := T12) (g' := (mkF m 116 #[.val (.int u), .val (.int j1), .val (.int j4), .val (.int j7), .val (.int j10), .unset] [(.int (1 : Int32))])) (fun _ k => XS.iconst X12.here hx rfl (hb hby d2_115) k) ?_
              refine own_by (T' := T12) (g' := (mkF m 120 #[.val (.int u), .val (.int j1), .val (.int j4), .val (.int j7), .val (.int j10), .unset] [(.int (1 : Int32))])) (fun _ k => XS.goto X12.here hx rfl (pc0 := 116) (pc' := 120) rfl (hb hby d2_116) (by decide) (by decide) k) ?_
              exact J14 _ ((if_neg hc70_24).trans (if_neg hc76_39)).symm T12 X12 e12
        by_cases hc51_54 : u < (97 : Int32)
        · skip
          refine own_by (T' := T9) (g' := (mkF m 64 #[.val (.int u), .val (.int j1), .val (.int j4), .val (.int j7), .unset, .unset] [])) (fun _ k => XS.icmpYes X9.here hx rfl (pc0 := 51) (pc' := 64) rfl (hb hby d2_51) rfl (tlt hc51_54).1 (by decide) (by decide) k) ?_
          refine own_by (T' := T9) (g' := (mkF m 65 #[.val (.int u), .val (.int j1), .val (.int j4), .val (.int j7), .unset, .unset] [(.int (0 : Int32))])) (fun _ k => XS.iconst X9.here hx rfl (hb hby d2_64) k) ?_
          exact J11 _ (if_pos hc51_54).symm T9 X9 e9
        · skip
          refine own_by (T' := T9) (g' := (mkF m 54 #[.val (.int u), .val (.int j1), .val (.int j4), .val (.int j7), .unset, .unset] [])) (fun _ k => XS.icmpNo X9.here hx rfl (hb hby d2_51) rfl (flt hc51_54).1 k) ?_
          refine own_by (T' := T9) (g' := (mkF m 55 #[.val (.int u), .val (.int j1), .val (.int j4), .val (.int j7), .unset, .unset] [(.int u)])) (fun _ k => XS.iloadN X9.here hx rfl (hb hby d2_54) rfl k) ?_
          refine own_by (T' := T9) (g' := (mkF m 57 #[.val (.int u), .val (.int j1), .val (.int j4), .val (.int j7), .unset, .unset] [(.int (122 : Int32)), (.int u)])) (fun _ k => XS.bipush X9.here hx rfl (hb hby d2_55) k) ?_
          by_cases hc57_55 : (122 : Int32) < u
          · skip
            refine own_by (T' := T9) (g' := (mkF m 64 #[.val (.int u), .val (.int j1), .val (.int j4), .val (.int j7), .unset, .unset] [])) (fun _ k => XS.icmpYes X9.here hx rfl (pc0 := 57) (pc' := 64) rfl (hb hby d2_57) rfl (tlt hc57_55).2.2.1 (by decide) (by decide) k) ?_
            refine own_by (T' := T9) (g' := (mkF m 65 #[.val (.int u), .val (.int j1), .val (.int j4), .val (.int j7), .unset, .unset] [(.int (0 : Int32))])) (fun _ k => XS.iconst X9.here hx rfl (hb hby d2_64) k) ?_
            exact J11 _ ((if_neg hc51_54).trans (if_pos hc57_55)).symm T9 X9 e9
          · skip
            refine own_by (T' := T9) (g' := (mkF m 60 #[.val (.int u), .val (.int j1), .val (.int j4), .val (.int j7), .unset, .unset] [])) (fun _ k => XS.icmpNo X9.here hx rfl (hb hby d2_57) rfl (flt hc57_55).2.2.1 k) ?_
            refine own_by (T' := T9) (g' := (mkF m 61 #[.val (.int u), .val (.int j1), .val (.int j4), .val (.int j7), .unset, .unset] [(.int (1 : Int32))])) (fun _ k => XS.iconst X9.here hx rfl (hb hby d2_60) k) ?_
            refine own_by (T' := T9) (g' := (mkF m 65 #[.val (.int u), .val (.int j1), .val (.int j4), .val (.int j7), .unset, .unset] [(.int (1 : Int32))])) (fun _ k => XS.goto X9.here hx rfl (pc0 := 61) (pc' := 65) rfl (hb hby d2_61) (by decide) (by decide) k) ?_
            exact J11 _ ((if_neg hc51_54).trans (if_neg hc57_55)).symm T9 X9 e9
      by_cases hc33_56 : u < (65 : Int32)
      · skip
        refine own_by (T' := T6) (g' := (mkF m 46 #[.val (.int u), .val (.int j1), .val (.int j4), .unset, .unset, .unset] [])) (fun _ k => XS.icmpYes X6.here hx rfl (pc0 := 33) (pc' := 46) rfl (hb hby d2_33) rfl (tlt hc33_56).1 (by decide) (by decide) k) ?_
        refine own_by (T' := T6) (g' := (mkF m 47 #[.val (.int u), .val (.int j1), .val (.int j4), .unset, .unset, .unset] [(.int (0 : Int32))])) (fun _ k => XS.iconst X6.here hx rfl (hb hby d2_46) k) ?_
        exact J8 _ (if_pos hc33_56).symm T6 X6 e6
      · skip
        refine own_by (T' := T6) (g' := (mkF m 36 #[.val (.int u), .val (.int j1), .val (.int j4), .unset, .unset, .unset] [])) (fun _ k => XS.icmpNo X6.here hx rfl (hb hby d2_33) rfl (flt hc33_56).1 k) ?_
        refine own_by (T' := T6) (g' := (mkF m 37 #[.val (.int u), .val (.int j1), .val (.int j4), .unset, .unset, .unset] [(.int u)])) (fun _ k => XS.iloadN X6.here hx rfl (hb hby d2_36) rfl k) ?_
        refine own_by (T' := T6) (g' := (mkF m 39 #[.val (.int u), .val (.int j1), .val (.int j4), .unset, .unset, .unset] [(.int (90 : Int32)), (.int u)])) (fun _ k => XS.bipush X6.here hx rfl (hb hby d2_37) k) ?_
        by_cases hc39_57 : (90 : Int32) < u
        · skip
          refine own_by (T' := T6) (g' := (mkF m 46 #[.val (.int u), .val (.int j1), .val (.int j4), .unset, .unset, .unset] [])) (fun _ k => XS.icmpYes X6.here hx rfl (pc0 := 39) (pc' := 46) rfl (hb hby d2_39) rfl (tlt hc39_57).2.2.1 (by decide) (by decide) k) ?_
          refine own_by (T' := T6) (g' := (mkF m 47 #[.val (.int u), .val (.int j1), .val (.int j4), .unset, .unset, .unset] [(.int (0 : Int32))])) (fun _ k => XS.iconst X6.here hx rfl (hb hby d2_46) k) ?_
          exact J8 _ ((if_neg hc33_56).trans (if_pos hc39_57)).symm T6 X6 e6
        · skip
          refine own_by (T' := T6) (g' := (mkF m 42 #[.val (.int u), .val (.int j1), .val (.int j4), .unset, .unset, .unset] [])) (fun _ k => XS.icmpNo X6.here hx rfl (hb hby d2_39) rfl (flt hc39_57).2.2.1 k) ?_
          refine own_by (T' := T6) (g' := (mkF m 43 #[.val (.int u), .val (.int j1), .val (.int j4), .unset, .unset, .unset] [(.int (1 : Int32))])) (fun _ k => XS.iconst X6.here hx rfl (hb hby d2_42) k) ?_
          refine own_by (T' := T6) (g' := (mkF m 47 #[.val (.int u), .val (.int j1), .val (.int j4), .unset, .unset, .unset] [(.int (1 : Int32))])) (fun _ k => XS.goto X6.here hx rfl (pc0 := 43) (pc' := 47) rfl (hb hby d2_43) (by decide) (by decide) k) ?_
          exact J8 _ ((if_neg hc33_56).trans (if_neg hc39_57)).symm T6 X6 e6
    by_cases hc15_58 : u < (48 : Int32)
    · skip
      refine own_by (T' := T3) (g' := (mkF m 28 #[.val (.int u), .val (.int j1), .unset, .unset, .unset, .unset] [])) (fun _ k => XS.icmpYes X3.here hx rfl (pc0 := 15) (pc' := 28) rfl (hb hby d2_15) rfl (tlt hc15_58).1 (by decide) (by decide) k) ?_
      refine own_by (T' := T3) (g' := (mkF m 29 #[.val (.int u), .val (.int j1), .unset, .unset, .unset, .unset] [(.int (0 : Int32))])) (fun _ k => XS.iconst X3.here hx rfl (hb hby d2_28) k) ?_
      exact J5 _ (if_pos hc15_58).symm T3 X3 e3
    · skip
      refine own_by (T' := T3) (g' := (mkF m 18 #[.val (.int u), .val (.int j1), .unset, .unset, .unset, .unset] [])) (fun _ k => XS.icmpNo X3.here hx rfl (hb hby d2_15) rfl (flt hc15_58).1 k) ?_
      refine own_by (T' := T3) (g' := (mkF m 19 #[.val (.int u), .val (.int j1), .unset, .unset, .unset, .unset] [(.int u)])) (fun _ k => XS.iloadN X3.here hx rfl (hb hby d2_18) rfl k) ?_
      refine own_by (T' := T3) (g' := (mkF m 21 #[.val (.int u), .val (.int j1), .unset, .unset, .unset, .unset] [(.int (57 : Int32)), (.int u)])) (fun _ k => XS.bipush X3.here hx rfl (hb hby d2_19) k) ?_
      by_cases hc21_59 : (57 : Int32) < u
      · skip
        refine own_by (T' := T3) (g' := (mkF m 28 #[.val (.int u), .val (.int j1), .unset, .unset, .unset, .unset] [])) (fun _ k => XS.icmpYes X3.here hx rfl (pc0 := 21) (pc' := 28) rfl (hb hby d2_21) rfl (tlt hc21_59).2.2.1 (by decide) (by decide) k) ?_
        refine own_by (T' := T3) (g' := (mkF m 29 #[.val (.int u), .val (.int j1), .unset, .unset, .unset, .unset] [(.int (0 : Int32))])) (fun _ k => XS.iconst X3.here hx rfl (hb hby d2_28) k) ?_
        exact J5 _ ((if_neg hc15_58).trans (if_pos hc21_59)).symm T3 X3 e3
      · skip
        refine own_by (T' := T3) (g' := (mkF m 24 #[.val (.int u), .val (.int j1), .unset, .unset, .unset, .unset] [])) (fun _ k => XS.icmpNo X3.here hx rfl (hb hby d2_21) rfl (flt hc21_59).2.2.1 k) ?_
        refine own_by (T' := T3) (g' := (mkF m 25 #[.val (.int u), .val (.int j1), .unset, .unset, .unset, .unset] [(.int (1 : Int32))])) (fun _ k => XS.iconst X3.here hx rfl (hb hby d2_24) k) ?_
        refine own_by (T' := T3) (g' := (mkF m 29 #[.val (.int u), .val (.int j1), .unset, .unset, .unset, .unset] [(.int (1 : Int32))])) (fun _ k => XS.goto X3.here hx rfl (pc0 := 25) (pc' := 29) rfl (hb hby d2_25) (by decide) (by decide) k) ?_
        exact J5 _ ((if_neg hc15_58).trans (if_neg hc21_59)).symm T3 X3 e3
  by_cases hc3_60 : u = (32 : Int32)
  · skip
    refine own_by (T' := s₁) (g' := (mkF m 6 #[.val (.int u), .unset, .unset, .unset, .unset, .unset] [])) (fun _ k => XS.icmpNo X0.here hx rfl (hb hby d2_3) rfl (teq hc3_60).2 k) ?_
    refine own_by (T' := s₁) (g' := (mkF m 7 #[.val (.int u), .unset, .unset, .unset, .unset, .unset] [(.int (1 : Int32))])) (fun _ k => XS.iconst X0.here hx rfl (hb hby d2_6) k) ?_
    refine own_by (T' := s₁) (g' := (mkF m 11 #[.val (.int u), .unset, .unset, .unset, .unset, .unset] [(.int (1 : Int32))])) (fun _ k => XS.goto X0.here hx rfl (pc0 := 7) (pc' := 11) rfl (hb hby d2_7) (by decide) (by decide) k) ?_
    exact J2 _ (if_pos hc3_60).symm s₁ X0 e0
  · skip
    refine own_by (T' := s₁) (g' := (mkF m 10 #[.val (.int u), .unset, .unset, .unset, .unset, .unset] [])) (fun _ k => XS.icmpYes X0.here hx rfl (pc0 := 3) (pc' := 10) rfl (hb hby d2_3) rfl (feq hc3_60).2 (by decide) (by decide) k) ?_
    refine own_by (T' := s₁) (g' := (mkF m 11 #[.val (.int u), .unset, .unset, .unset, .unset, .unset] [(.int (0 : Int32))])) (fun _ k => XS.iconst X0.here hx rfl (hb hby d2_10) k) ?_
    exact J2 _ (if_neg hc3_60).symm s₁ X0 e0
theorem pn_0 : plainName "com/example/shelfgraph/shelfgraph/ingest/FieldIsCodePinLaw" = true := by first | (simp [plainName, overriddenIn]; done) | decide +kernel
theorem ef_rm0 (m : MethodId) (a : Int32) (b : Int32) : entryFrame m #[(.int a), (.int b)] maxLocals = mkF m 0 #[.val (.int a), .val (.int b), .unset] [] := by first | (simp [entryFrame, mkF, argsToLocals, Value.category, maxLocals]; done) | rfl
def Q_rm0 (Z : State) (a : Int32) (b : Int32) (h0 : Heap) (n0 : Nat) (v : Option Value) (h : Heap) (L : List Loc) : Prop := v = some (.int 1) ∧ Fr n0 L
set_option maxRecDepth 65536 in
set_option maxHeartbeats 40000000 in
theorem rm0 (l : Launch) (Z : State) (a0 : Array Value) (hw : ∀ d ∈ tables_1, d.before a0 Z = true) (ws : List Jvm.Cond) (a : Int32) (b : Int32) (h0 : Heap) (n0 : Nat) (Z0 : n0 ≤ h0.size) :
    MetFree l x (head1 (Jvm.Cond.code x code maxLocals ret :: ws) room_1) (fun zz UU => zz = #[(.int a), (.int b)] ∧ Z.Warmed39 UU.vm ∧ UU.heap = h0) (fun _ _ _ _ _ => True) (fun _ U o U' => ∃ v L, o = .returned v ∧ Q_rm0 Z a b h0 n0 v U'.heap L ∧ FrameEnd U o U' L 0 0) := by
  refine MetFree.of_bodySF (plainFor_of_name pn_0) hisR ?_
  intro p e s m args below meth c s₁ Bd hml0 hP hK
  obtain ⟨rfl, hZ, hh⟩ := hP
  have hx := Bd.exec
  have hby := Bd.bytes
  have hml : c.maxLocals = 3 := hml0
  have hown : s.vm.findClass "com/example/shelfgraph/shelfgraph/ingest/FieldIsCodePinLaw" = some m.cls := findClass_of_methodNamed Bd.named
  have hnm := (name_of_methodNamed Bd.named Bd.method).1
  have hlk : meth.locks = false := BodyLoose.notSynchronized Bd
  have X0 : Stand p l e room_1 s m #[(.int a), (.int b)] below meth c s₁ [] 0 0 := Stand.of_body Bd
  have e0 : s₁.heap = h0 := by rw [← hh, Bd.state]; rfl
  have N0 := Fr.nil n0
  show own_Go p.tables e below (Q_rm0 Z a b h0 n0) s 0 0 s₁ (entryFrame m #[(.int a), (.int b)] maxLocals)
  rw [ef_rm0 m a b]
  refine own_by (T' := s₁) (g' := (mkF m 1 #[.val (.int a), .val (.int b), .unset] [(.int b)])) (fun _ k => XS.iloadN X0.here hx rfl (hb hby at_0) rfl k) ?_
  refine own_by (T' := s₁) (g' := (mkF m 2 #[.val (.int a), .val (.int b), .unset] [(.int (1 : Int32)), (.int b)])) (fun _ k => XS.iconst X0.here hx rfl (hb hby at_1) k) ?_
  refine own_by (T' := s₁) (g' := (mkF m 3 #[.val (.int a), .val (.int b), .unset] [(.int (b &&& (1 : Int32)))])) (fun _ k => XS.iand X0.here hx rfl (hb hby at_2) rfl k) ?_
  have J2 : ∀ (j1 : Int32) (hv_j1 : j1 = (if (b &&& (1 : Int32)) = (0 : Int32) then ((a &&& (65535 : Int32)).toUInt32.toUInt16.toUInt32.toInt32) else ((a &&& (255 : Int32)).toUInt32.toUInt16.toUInt32.toInt32))) (T3 : State) (_ : Stand p l e room_1 s m #[(.int a), (.int b)] below meth c T3 [] 0 0) (_ : T3.heap = h0), own_Go p.tables e below (Q_rm0 Z a b h0 n0) s 0 0 T3 (mkF m 22 #[.val (.int a), .val (.int b), .val (.int j1)] []) := by
    intro j1 hv_j1 T3 X3 e3
    refine own_by (T' := T3) (g' := (mkF m 23 #[.val (.int a), .val (.int b), .val (.int j1)] [(.int j1)])) (fun _ k => XS.iloadN X3.here hx rfl (hb hby at_22) rfl k) ?_
    obtain ⟨_, _, ⟨T4, L4, k4, n4⟩, -, X4, ⟨Lc4, hQ4, l4, y4, z4⟩, st4⟩ := Jvm.LawKit.callS X3 hx (y := (⟨"com/example/shelfgraph/shelfgraph/ingest/Field", "isCode", "(C)Z"⟩ : MethodName)) hown (mvT hZ (hw _ (List.mem_of_getElem? (i := 0) rfl))) (mvT hZ (hw _ (List.mem_of_getElem? (i := 1) rfl))) (mvT hZ (hw _ (List.mem_of_getElem? (i := 2) rfl))) (mvT hZ (hw _ (List.mem_of_getElem? (i := 3) rfl))) (by decide) (backOf (W := 0) (rm1 l Z a0 hw [] j1  h0 n0 Z0 ) hZ (hw _ (List.mem_of_getElem? (i := 3) rfl)) (hw _ (List.mem_of_getElem? (i := 2) rfl)) (by decide) (by decide)) (g := (mkF m 23 #[.val (.int a), .val (.int b), .val (.int j1)] [(.int j1)])) rfl (by rw [hml]; rfl) (argsL := [(.int j1)]) (rest := []) (lenOf pd_0 rfl) rfl (by show 2 * 0 + _ ≤ _; exact Nat.le_of_eq rfl) (hb hby at_23) (fun _ _ => ⟨rfl, e3, (by decide : 0 + 0 ≤ _), (by decide : 0 + 0 ≤ _)⟩)
    dsimp only [Pt.U, Pt.locs, Pt.cells, Pt.slots] at X4 l4 y4 z4 st4 hQ4
    subst l4 y4 z4
    obtain ⟨rfl, N4q, e4⟩ := hQ4
    have N4 := Fr.app N0 N4q
    refine own_by (T' := T4) (g' := (mkF m 26 #[.val (.int a), .val (.int b), .val (.int j1)] [(.int (own_code j1))])) (fun _ k => st4 _ k) ?_
    refine own_by (T' := T4) (g' := (mkF m 27 #[.val (.int a), .val (.int b), .val (.int j1)] [(.int j1), (.int (own_code j1))])) (fun _ k => XS.iloadN X4.here hx rfl (hb hby at_26) rfl k) ?_
    obtain ⟨_, _, ⟨T5, L5, k5, n5⟩, -, X5, ⟨Lc5, hQ5, l5, y5, z5⟩, st5⟩ := Jvm.LawKit.callS X4 hx (y := (⟨"com/example/shelfgraph/shelfgraph/ingest/FieldIsCodePinLaw", "expected", "(C)Z"⟩ : MethodName)) hown (mvT hZ (hw _ (List.mem_of_getElem? (i := 4) rfl))) (mvT hZ (hw _ (List.mem_of_getElem? (i := 5) rfl))) (mvT hZ (hw _ (List.mem_of_getElem? (i := 6) rfl))) (mvT hZ (hw _ (List.mem_of_getElem? (i := 7) rfl))) (by decide) (backOf (W := 1) (rm2 l Z a0 hw [] j1  h0 n0 Z0 ) hZ (hw _ (List.mem_of_getElem? (i := 7) rfl)) (hw _ (List.mem_of_getElem? (i := 6) rfl)) (by decide) (by decide)) (g := (mkF m 27 #[.val (.int a), .val (.int b), .val (.int j1)] [(.int j1), (.int (own_code j1))])) rfl (by rw [hml]; rfl) (argsL := [(.int j1)]) (rest := [(.int (own_code j1))]) (lenOf pd_0 rfl) rfl (by show 2 * 0 + _ ≤ _; exact Nat.le_of_eq rfl) (hb hby at_27) (fun _ _ => ⟨rfl, e4, (by decide : (0 + 0) + 0 ≤ _), (by decide : (0 + 0) + 0 ≤ _)⟩)
    dsimp only [Pt.U, Pt.locs, Pt.cells, Pt.slots] at X5 l5 y5 z5 st5 hQ5
    subst l5 y5 z5
    obtain ⟨rfl, N5q, e5⟩ := hQ5
    have N5 := Fr.app N4 N5q
    refine own_by (T' := T5) (g' := (mkF m 30 #[.val (.int a), .val (.int b), .val (.int j1)] [(.int (own_code j1)), (.int (own_code j1))])) (fun _ k => st5 _ k) ?_
    refine own_by (T' := T5) (g' := (mkF m 33 #[.val (.int a), .val (.int b), .val (.int j1)] [])) (fun _ k => XS.icmpNo X5.here hx rfl (hb hby at_30) rfl (teq rfl).2 k) ?_
    refine own_by (T' := T5) (g' := (mkF m 34 #[.val (.int a), .val (.int b), .val (.int j1)] [(.int (1 : Int32))])) (fun _ k => XS.iconst X5.here hx rfl (hb hby at_33) k) ?_
    refine own_by (T' := T5) (g' := (mkF m 38 #[.val (.int a), .val (.int b), .val (.int j1)] [(.int (1 : Int32))])) (fun _ k => XS.goto X5.here hx rfl (pc0 := 34) (pc' := 38) rfl (hb hby at_34) (by decide) (by decide) k) ?_
    refine own_ret X5 hlk (v := some (.int (1 : Int32))) (fun h => by rw [Bd.returns] at h; cases h) (fun fs hr => retN X5 hx (t := .boolean) Bd.returns (by simp) (hb hby at_38) hr) ?_ (by decide) (by decide)
    rw [e5]
    exact ⟨rfl, N5⟩
  by_cases hc3_6 : (b &&& (1 : Int32)) = (0 : Int32)
  · skip
    refine own_by (T' := s₁) (g' := (mkF m 16 #[.val (.int a), .val (.int b), .unset] [])) (fun _ k => XS.ifYes X0.here hx rfl (pc0 := 3) (pc' := 16) rfl (hb hby at_3) rfl ((if0 _ _).trans (teq hc3_6).1) (by decide) (by decide) k) ?_
    refine own_by (T' := s₁) (g' := (mkF m 17 #[.val (.int a), .val (.int b), .unset] [(.int a)])) (fun _ k => XS.iloadN X0.here hx rfl (hb hby at_16) rfl k) ?_
    refine own_by (T' := s₁) (g' := (mkF m 19 #[.val (.int a), .val (.int b), .unset] [(.int (65535 : Int32)), (.int a)])) (fun _ k => ldcI X0 hx hown (mvT hZ (hw _ (List.mem_of_getElem? (i := 8) rfl))) rfl (hb hby at_17) k) ?_
    refine own_by (T' := s₁) (g' := (mkF m 20 #[.val (.int a), .val (.int b), .unset] [(.int (a &&& (65535 : Int32)))])) (fun _ k => XS.iand X0.here hx rfl (hb hby at_19) rfl k) ?_
    refine own_by (T' := s₁) (g' := (mkF m 21 #[.val (.int a), .val (.int b), .unset] [(.int ((a &&& (65535 : Int32)).toUInt32.toUInt16.toUInt32.toInt32))])) (fun _ k => XS.i2c X0.here hx rfl (hb hby at_20) rfl k) ?_
    refine own_by (T' := s₁) (g' := (mkF m 22 #[.val (.int a), .val (.int b), .val (.int ((a &&& (65535 : Int32)).toUInt32.toUInt16.toUInt32.toInt32))] [])) (fun _ k => XS.istoreN X0.here hx rfl (hb hby at_21) rfl (l' := #[.val (.int a), .val (.int b), .val (.int ((a &&& (65535 : Int32)).toUInt32.toUInt16.toUInt32.toInt32))]) rfl k) ?_
    exact J2 _ (if_pos hc3_6).symm s₁ X0 e0
  · skip
    refine own_by (T' := s₁) (g' := (mkF m 6 #[.val (.int a), .val (.int b), .unset] [])) (fun _ k => XS.ifNo X0.here hx rfl (hb hby at_3) rfl ((if0 _ _).trans (feq hc3_6).1) k) ?_
    refine own_by (T' := s₁) (g' := (mkF m 7 #[.val (.int a), .val (.int b), .unset] [(.int a)])) (fun _ k => XS.iloadN X0.here hx rfl (hb hby at_6) rfl k) ?_
    refine own_by (T' := s₁) (g' := (mkF m 10 #[.val (.int a), .val (.int b), .unset] [(.int (255 : Int32)), (.int a)])) (fun _ k => XS.sipush X0.here hx rfl (hb hby at_7) k) ?_
    refine own_by (T' := s₁) (g' := (mkF m 11 #[.val (.int a), .val (.int b), .unset] [(.int (a &&& (255 : Int32)))])) (fun _ k => XS.iand X0.here hx rfl (hb hby at_10) rfl k) ?_
    refine own_by (T' := s₁) (g' := (mkF m 12 #[.val (.int a), .val (.int b), .unset] [(.int ((a &&& (255 : Int32)).toUInt32.toUInt16.toUInt32.toInt32))])) (fun _ k => XS.i2c X0.here hx rfl (hb hby at_11) rfl k) ?_
    refine own_by (T' := s₁) (g' := (mkF m 13 #[.val (.int a), .val (.int b), .val (.int ((a &&& (255 : Int32)).toUInt32.toUInt16.toUInt32.toInt32))] [])) (fun _ k => XS.istoreN X0.here hx rfl (hb hby at_12) rfl (l' := #[.val (.int a), .val (.int b), .val (.int ((a &&& (255 : Int32)).toUInt32.toUInt16.toUInt32.toInt32))]) rfl k) ?_
    refine own_by (T' := s₁) (g' := (mkF m 22 #[.val (.int a), .val (.int b), .val (.int ((a &&& (255 : Int32)).toUInt32.toUInt16.toUInt32.toInt32))] [])) (fun _ k => XS.goto X0.here hx rfl (pc0 := 13) (pc' := 22) rfl (hb hby at_13) (by decide) (by decide) k) ?_
    exact J2 _ (if_neg hc3_6).symm s₁ X0 e0
set_option maxRecDepth 65536 in
set_option maxHeartbeats 40000000 in
theorem comes_1 {Post : Tables → Env → Array Value → State → Outcome → State → Prop} (hpost : ∀ tb e args s v u, (limb_1_1.after args s (.returned v) u = true ∧ limb_1_2.after args s (.returned v) u = true ∧ True) → FrameEnd s (.returned v) u (Jvm.fieldLocs frame_1_writes args s ++ Jvm.arrayLocs frame_1_arrays args s ++ Jvm.staticLocs frame_1_statics s) 0 0 → Post tb e args s (.returned v) u) :
    ArmFor flags0 classFile x code maxLocals ret World_1 tables_1 room_1 Calls_1 rest_1 Pre_1 Post := by
  intro l hfl _ _ p e ha hc hk s m args below hf hA hF happ hP
  obtain ⟨hcalls, hrest, hpre⟩ := hP
  obtain ⟨-, -, -, hnamed, -, -, -, hat⟩ := (Spec.applies_iff hf).mp happ
  obtain ⟨hg, hn⟩ := and_e (Cond.before_iff.mp (show (Jvm.Cond.and given_1 narrow_1).before args s = true from hpre))
  obtain ⟨g1, g2⟩ := and_e hg
  obtain ⟨g3, g4⟩ := and_e g2
  obtain ⟨w0, w1, rfl⟩ : ∃ w0 w1 : Value, args = #[w0, w1] := by
    have hs : args.size = 2 := by simpa [Cond.value, given_1] using g1
    obtain ⟨L⟩ := args
    match L, hs with
    | [w0, w1], _ => exact ⟨w0, w1, rfl⟩
  have hw := fun d (hd : d ∈ tables_1) => atoms_spec (ws := Jvm.Cond.code x code maxLocals ret :: tables_1) hat d (List.mem_cons_of_mem _ hd)
  have hfit : Fit s := fun {y c} hc i hi => by
    obtain ⟨ha, rfl⟩ := Array.getElem?_eq_some_iff.mp hc
    have q := List.all_eq_true.mp ((Array.all_eq_true_iff_forall_mem.mp hF) _ (Array.getElem_mem ha)) i (List.mem_range.mpr hi)
    simpa [Array.getElem?_eq_getElem hi] using q
  obtain ⟨i0, ei0⟩ := is_v g3
  obtain rfl : w0 = (.int i0) := Option.some.inj ei0
  obtain ⟨i1, ei1⟩ := is_v g4
  obtain rfl : w1 = (.int i1) := Option.some.inj ei1
  obtain ⟨n, o, h1, h2, h3, _, L, rfl, ⟨rfl, N⟩, hq⟩ := rm0 l s _ hw tables_1 i0 i1 s.heap s.heap.size (Nat.le_refl _)  p e ha hc hk s m _ below hf ((Spec.applies_iff_loose hf).mp happ).1 ⟨rfl, State.Warmed39.refl s, rfl⟩ trivial
  refine ⟨n, _, h1, h2, h3, hpost _ _ _ _ _ _ ⟨Cond.after_iff.mpr rfl, Cond.after_iff.mpr (eq_i res_at (Term.int_eval (1)) rfl), trivial⟩ ⟨hq.1, hq.2.1, (hq.2.2.sift fun y hy => Or.inr (N y hy)).mono (by decide) (by decide)⟩⟩
theorem main_1_1 : Claimed_1_1 := comes_1 fun _ _ _ _ _ _ h hF => ⟨h.1, hF⟩
theorem main_1_2 : Claimed_1_2 := comes_1 fun _ _ _ _ _ _ h hF => ⟨h.2.1, hF⟩
end Jvm.Pilot.@@N@@
namespace Jvm.Pilot.@@N@@
open Jvm Jvm.ClassFile Sem Op Lib Jvm.Free Jvm.Stand Jvm.Pilot.@@N@@.Jvm.D
/-! MADE BY PROGRAM (witnessworld.py) out of the Statement's table words and the real class files: 9 classes; the members and pool entries that the words name. The judged class is class 1, her method 1. -/
namespace start1
open Jvm.ClassFile
def u (s : String) : CpInfo := .utf8 (stringToUtf16 s)
/-- a pool by its gaps: so many unusable entries, then the entry; so many at the end -/
def gap : Nat → List CpInfo → List CpInfo
  | 0, r => r
  | n + 1, r => .unusable :: gap n r
def poolList (es : List (Nat × CpInfo)) (last : Nat) : List CpInfo := es.foldr (fun e r => gap e.1 (e.2 :: r)) (gap last [])
def pool (es : List (Nat × CpInfo)) (last : Nat) : Array CpInfo := ⟨poolList es last⟩
def fileOf (pool : Array CpInfo) (this : Nat) (attrs : Array Attribute := #[]) (ms : Array MethodInfo := #[]) (fl : Nat := 33) (sup : Nat := 0) (ifs : Array Nat := #[]) (fds : Array FieldInfo := #[]) : ClassFile where
  minorVersion := 0
  majorVersion := 65
  constantPool := pool
  accessFlags := fl
  thisClass := this
  superClass := sup
  interfaces := ifs
  fields := fds
  methods := ms
  attributes := attrs
def plain (name : String) (sup : Option ClassId) : Class where
  name := name
  kind := .ordinary
  loader := none
  accessFlags := 33
  super := sup
  interfaces := #[]
  cf := none
  fields := #[]
  methods := #[]
  instanceTypes := #[]
  staticTypes := #[]
  resolved := #[]
  callSites := []
  init := .initialized
  statics := none
  mirror := none

def pool0 : Array CpInfo := pool [(5, u "<init>"), (0, u "()V"), (1, .class_ 10), (1, u "java/lang/Object")] 113

def k0m0 : Method := { name := "<init>", desc := "()V", sig := { parameters := [], returnType := none }, accessFlags := 1, code := none }
/-- java/lang/Object -/
def k0 : Class := { plain "java/lang/Object" none with
  accessFlags := 33
  interfaces := #[]
  cf := some (fileOf pool0 8 #[] #[{ accessFlags := 1, nameIndex := 5, descriptorIndex := 6, attributes := #[] }] 33 0 #[] #[])
  fields := #[]
  methods := #[k0m0]
  instanceTypes := #[]
  staticTypes := #[]
  resolved := Array.replicate 124 none
  statics := none }

def pool1 : Array CpInfo := pool [(2, .class_ 4), (1, u "java/lang/Object"), (0, u "<init>"), (0, u "()V"), (0, .integer 65535), (0, .interfaceMethodref 9 10), (0, .class_ 11), (0, .nameAndType 12 13), (0, u "com/example/shelfgraph/shelfgraph/ingest/Field"), (0, u "isCode"), (0, u "(C)Z"), (0, .methodref 15 16), (0, .class_ 17), (0, .nameAndType 18 13), (0, u "com/example/shelfgraph/shelfgraph/ingest/FieldIsCodePinLaw"), (0, u "expected"), (2, u "law"), (0, u "(II)Z")] 3

def k1m0 : Method := { name := "<init>", desc := "()V", sig := { parameters := [], returnType := none }, accessFlags := 1, code := none }
def k1c1 : Code := { maxStack := 2, maxLocals := 3, code := code, exceptionTable := #[], attributes := #[] }
def k1m1 : Method := { name := "law", desc := "(II)Z", sig := { parameters := [.int, .int], returnType := some .boolean }, accessFlags := 9, code := some k1c1 }
def k1c2 : Code := { maxStack := 2, maxLocals := 6, code := method_3_code, exceptionTable := #[], attributes := #[] }
def k1m2 : Method := { name := "expected", desc := "(C)Z", sig := { parameters := [.char], returnType := some .boolean }, accessFlags := 10, code := some k1c2 }
/-- com/example/shelfgraph/shelfgraph/ingest/FieldIsCodePinLaw -/
def k1 : Class := { plain "com/example/shelfgraph/shelfgraph/ingest/FieldIsCodePinLaw" (some 0) with
  accessFlags := 49
  interfaces := #[]
  cf := some (fileOf pool1 15 #[] #[{ accessFlags := 1, nameIndex := 5, descriptorIndex := 6, attributes := #[] }, { accessFlags := 9, nameIndex := 21, descriptorIndex := 22, attributes := #[] }, { accessFlags := 10, nameIndex := 18, descriptorIndex := 13, attributes := #[] }] 49 2 #[] #[])
  fields := #[]
  methods := #[k1m0, k1m1, k1m2]
  instanceTypes := #[]
  staticTypes := #[]
  resolved := Array.replicate 26 none
  statics := none }

def pool2 : Array CpInfo := pool [(33, .class_ 34), (0, u "com/example/shelfgraph/shelfgraph/ingest/Field"), (0, .class_ 36), (0, u "java/lang/Object"), (8, u "isCode"), (0, u "(C)Z")] 26

def k2c0 : Code := { maxStack := 2, maxLocals := 1, code := prog_12_method_5_code, exceptionTable := #[], attributes := #[] }
def k2m0 : Method := { name := "isCode", desc := "(C)Z", sig := { parameters := [.char], returnType := some .boolean }, accessFlags := 9, code := some k2c0 }
/-- com/example/shelfgraph/shelfgraph/ingest/Field -/
def k2 : Class := { plain "com/example/shelfgraph/shelfgraph/ingest/Field" (some 0) with
  accessFlags := 1537
  interfaces := #[]
  cf := some (fileOf pool2 33 #[] #[{ accessFlags := 9, nameIndex := 45, descriptorIndex := 46, attributes := #[] }] 1537 35 #[] #[])
  fields := #[]
  methods := #[k2m0]
  instanceTypes := #[]
  staticTypes := #[]
  resolved := Array.replicate 73 none
  statics := none }

def pool3 : Array CpInfo := pool [(1, u "java/lang/Cloneable"), (0, .class_ 1), (0, u "java/lang/Object"), (0, .class_ 3)] 3

/-- java/lang/Cloneable -/
def k3 : Class := { plain "java/lang/Cloneable" (some 0) with
  accessFlags := 1537
  interfaces := #[]
  cf := some (fileOf pool3 2 #[] #[] 1537 4 #[] #[])
  fields := #[]
  methods := #[]
  instanceTypes := #[]
  staticTypes := #[]
  resolved := Array.replicate 8 none
  statics := none }

def pool4 : Array CpInfo := pool [(1, u "java/io/Serializable"), (0, .class_ 1), (0, u "java/lang/Object"), (0, .class_ 3)] 3

/-- java/io/Serializable -/
def k4 : Class := { plain "java/io/Serializable" (some 0) with
  accessFlags := 1537
  interfaces := #[]
  cf := some (fileOf pool4 2 #[] #[] 1537 4 #[] #[])
  fields := #[]
  methods := #[]
  instanceTypes := #[]
  staticTypes := #[]
  resolved := Array.replicate 8 none
  statics := none }

/-- the primitive byte -/
def k5 : Class := { plain "byte" none with kind := .primitive 'B', accessFlags := 0x411 }
/-- [B -/
def k6 : Class := { plain "[B" (some 0) with kind := .array 5 .byte, interfaces := #[3, 4], accessFlags := 1041 }

/-- the primitive int -/
def k7 : Class := { plain "int" none with kind := .primitive 'I', accessFlags := 0x411 }
/-- [I -/
def k8 : Class := { plain "[I" (some 0) with kind := .array 7 .int, interfaces := #[3, 4], accessFlags := 1041 }

def heap : Heap := #[]
def classes : Array Class := #[k0, k1, k2, k3, k4, k5, k6, k7, k8]
def interned : List (Array UInt16 × Addr) := []
def slotsUsed : Nat := 0
def theMethod : MethodId := ⟨1, 1⟩
def args0 : Array Value := #[.int 65, .int 1]
def aboutOver (below : List Frame) : State where
  vm := { classes := classes, interned := interned.toArray }
  heap := heap
  slotsUsed := slotsUsed
  threads := #[{ frames := .invoking theMethod args0 :: below }]
def below0 : List Frame := [.native { method := ⟨0, 0⟩, args := #[] }]
def about1 : State := aboutOver below0
def p0 : Program := .bare "" "" ""
def e0 : Env := launch0.env 0 0 0
theorem w_frames : about1.frames = Frame.invoking theMethod args0 :: below0 := rfl
set_option maxRecDepth 65536 in
theorem w_args : argsFit about1.vm theMethod args0 = true := by decide +kernel
set_option maxRecDepth 65536 in
theorem w_heap : heapFits about1 = true := by decide +kernel
set_option maxRecDepth 65536 in
theorem w_runnable : about1.curStatus? = some .runnable := by decide +kernel
set_option maxRecDepth 65536 in
theorem w_alone : about1.alone = true := by decide +kernel
set_option maxRecDepth 65536 in
theorem w_named : about1.methodNamed? x = some theMethod := by decide +kernel
set_option maxRecDepth 65536 in
theorem w_hears : about1.hears theMethod below0 = true := by decide +kernel
set_option maxRecDepth 65536 in
theorem w_ripe : about1.ripe theMethod args0 below0 = true := by decide +kernel
theorem w_running : about1.status = .running := rfl
set_option maxRecDepth 65536 in
theorem w_room : about1.hasRoom e0.platform room_1 = true :=
  launch0.hasRoom_least _ room_1 (by decide +kernel) (by decide +kernel) (by decide +kernel) (by decide +kernel) (by decide +kernel) (by decide +kernel)
theorem allAtoms_all (ts : List Jvm.Cond) (a : Array Jvm.Value) (st : Jvm.State) : (allAtoms ts).before a st = ts.all (fun c => c.before a st) := by
  induction ts with
  | nil => rfl
  | cons c t ih =>
    show (Jvm.Cond.and c (allAtoms t)).before a st = _
    rw [Jvm.Cond.before_and, ih, List.all_cons]
def words1 : List Jvm.Cond := Jvm.Cond.code x code maxLocals ret :: tables_1
/-- a 'code' word, met by the world's own term for the bytes: nothing is compared byte by byte -/
theorem code_word {y : MethodName} {bytes : ByteArray} {mx : Nat} {rt : Option FieldType} {a : Array Value} {s : State} {m : MethodId} {meth : Method} {c : Code} (h1 : s.methodNamed? y = some m) (h2 : s.vm.method? m = some meth) (h3 : meth.code = some c) (h4 : c.code = bytes)
    (h5 : (c.maxLocals == mx && c.exceptionTable.isEmpty && decide (c.maxStack ≤ mostOperands) && decide (meth.sig.returnType = rt) && !meth.locks && decide (parseMethodDescriptor y.desc = some meth.sig)) = true) : (Jvm.Cond.code y bytes mx rt).before a s = true := by
  simp only [Bool.and_eq_true, beq_iff_eq, Bool.not_eq_true', decide_eq_true_eq] at h5
  obtain ⟨⟨⟨⟨⟨g1, g2⟩, g3⟩, g4⟩, g5⟩, g6⟩ := h5
  simp [Cond.before, Cond.holds, Cond.value, h1, h2, h3, h4, g1, g2, g3, g4, g5, g6]
def isCode : Jvm.Cond → Bool
  | .code _ _ _ _ => true
  | _ => false
theorem all_split {L : List Jvm.Cond} {P : Jvm.Cond → Bool} (h1 : L.all (fun c => isCode c || P c) = true) (h2 : ∀ c ∈ L.filter isCode, P c = true) : L.all P = true := by
  refine List.all_eq_true.mpr fun c hc => ?_
  have h := List.all_eq_true.mp h1 c hc
  rcases Bool.eq_false_or_eq_true (isCode c) with hi | hi
  · exact h2 c (List.mem_filter.mpr ⟨hc, hi⟩)
  · simpa [hi] using h
set_option maxRecDepth 65536 in
theorem w_c0 : (Jvm.Cond.code x code maxLocals ret).before args0 about1 = true := code_word (m := ⟨1, 1⟩) (meth := k1m1) (c := k1c1) (by decide +kernel) rfl rfl rfl (by decide +kernel)
set_option maxRecDepth 65536 in
theorem w_c1 : (Jvm.Cond.code ({ cls := "com/example/shelfgraph/shelfgraph/ingest/Field", name := "isCode", desc := "(C)Z" } : Jvm.MethodName) prog_12_method_5_code (1 : Nat) (Option.some Jvm.ClassFile.FieldType.boolean)).before args0 about1 = true := code_word (m := ⟨2, 0⟩) (meth := k2m0) (c := k2c0) (by decide +kernel) rfl rfl rfl (by decide +kernel)
set_option maxRecDepth 65536 in
theorem w_c2 : (Jvm.Cond.code ({ cls := "com/example/shelfgraph/shelfgraph/ingest/FieldIsCodePinLaw", name := "expected", desc := "(C)Z" } : Jvm.MethodName) method_3_code (6 : Nat) (Option.some Jvm.ClassFile.FieldType.boolean)).before args0 about1 = true := code_word (m := ⟨1, 2⟩) (meth := k1m2) (c := k1c2) (by decide +kernel) rfl rfl rfl (by decide +kernel)
def codes1 : List Jvm.Cond := [Jvm.Cond.code x code maxLocals ret, Jvm.Cond.code ({ cls := "com/example/shelfgraph/shelfgraph/ingest/Field", name := "isCode", desc := "(C)Z" } : Jvm.MethodName) prog_12_method_5_code (1 : Nat) (Option.some Jvm.ClassFile.FieldType.boolean), Jvm.Cond.code ({ cls := "com/example/shelfgraph/shelfgraph/ingest/FieldIsCodePinLaw", name := "expected", desc := "(C)Z" } : Jvm.MethodName) method_3_code (6 : Nat) (Option.some Jvm.ClassFile.FieldType.boolean)]
set_option maxRecDepth 65536 in
theorem codes_eq : words1.filter isCode = codes1 := rfl
theorem w_codes : ∀ c ∈ words1.filter isCode, c.before args0 about1 = true := by
  rw [codes_eq]
  intro c hc
  simp only [codes1, List.mem_cons, List.not_mem_nil, or_false] at hc
  rcases hc with rfl | rfl | rfl
  · exact w_c0
  · exact w_c1
  · exact w_c2
set_option maxRecDepth 65536 in
theorem w_t1 : words1.all (fun c => isCode c || c.before args0 about1) = true := by decide +kernel
theorem w_tables : (allAtoms (Jvm.Cond.code x code maxLocals ret :: tables_1)).before args0 about1 = true := by
  rw [allAtoms_all]
  show words1.all (fun c => c.before args0 about1) = true
  refine all_split ?_ w_codes
  rw [w_t1]
set_option maxRecDepth 65536 in
theorem w_case : (Jvm.Cond.and given_1 narrow_1).before args0 about1 = true := by decide +kernel
theorem w_applies : (headSpec (Jvm.Cond.code x code maxLocals ret :: tables_1) room_1).applies x e0.platform about1 = true :=
  (Spec.applies_iff w_frames).mpr ⟨w_running, w_runnable, w_alone, w_named, w_hears, w_ripe, w_room, w_tables⟩
theorem atStart : AtStart classFile x code maxLocals ret World_1 tables_1 room_1 Calls_1 rest_1 Pre_1 launch0 p0 e0 about1 theMethod args0 below0 :=
  ⟨lists_1, trivial, launch0.admits_env _ _ _, launch0.least_env, fairChoices_fair.cas, fairChoices_fair.clock, w_frames, w_args, w_heap, w_applies, trivial, trivial, w_case⟩
end start1
theorem witness_1 : WitnessClaimed_1 := ⟨start1.p0, start1.e0, start1.about1, start1.theMethod, start1.args0, start1.below0, start1.atStart⟩
end Jvm.Pilot.@@N@@
