import JvmDerived
import JvmDerived.Pilot.@@N@@Statement
import JvmDerived.Pilot.@@N@@Code
set_option linter.unusedVariables false
set_option linter.unusedSimpArgs false
namespace Jvm.RoadKit
open Sem ClassFile Op Lib Jvm.Stand Jvm.Free Jvm.LawKit
section New
variable {p : Program} {l : Launch} {e : Env} {R : Room} {s : State} {m : MethodId} {args : Array Value} {below : List Frame} {meth : Method} {c : Code} {T : State} {locs : List Loc} {cells slots : Nat}
theorem retI (X : Stand p l e R s m args below meth c T locs cells slots) (hx : p.tables.exec = Jvm.exec) {pc : Nat} {Ls : Array Slot} {z : Int32} {rest : List Value} (hret : meth.sig.returnType = some .int) (hd : decode c.code pc = .ok (.ireturn, 1)) {fs : List Frame}
    (hl : ∀ (f : JFrame) (acts : List Action), f.method = m → f.locked = none → f.entered = [] → (doReturn e (T.setTop f) acts (some (.int z))).1 = T.setFrames fs) : Steps p.tables e below (T.setTop (mkF m pc Ls (.int z :: rest))) (T.setFrames fs) := by
  have hm' : T.vm.method? m = some meth := X.method'
  have hn : narrow .int (.int z) = .int z := rfl
  show Steps p.tables e below (T.setTop { method := m, pc := pc, locals := Ls, stack := _ :: rest, locked := none }) _
  jvm_step X.here [X.here.top, hx, hd, hm', hret, hn]
  first | (intro acts; rw [hl _ acts rfl rfl rfl]) | rw [hl _ _ rfl rfl rfl]
  exact Steps.refl _
/-- from the state T with the frame g on top the run ends, returned, with Q -/
def own_Go (tb : Tables) (e : Env) (below : List Frame) (Q : Option Value → Heap → List Loc → Prop) (s : State) (C S : Nat) (T : State) (g : JFrame) : Prop :=
  ∃ t o, Steps tb e below (T.setTop g) t ∧ t.status = .running ∧ Ended t below o ∧ ∃ v L, o = .returned v ∧ Q v t.heap L ∧ FrameEnd s o t L C S
theorem own_by {tb : Tables} {Q : Option Value → Heap → List Loc → Prop} {C S : Nat} {T T' : State} {g g' : JFrame} (st : ∀ target, Steps tb e below (T'.setTop g') target → Steps tb e below (T.setTop g) target) (k : own_Go tb e below Q s C S T' g') : own_Go tb e below Q s C S T g := by
  obtain ⟨t, o, h1, h2⟩ := k
  exact ⟨t, o, st t h1, h2⟩
theorem bN {tb : Tables} {Q : Option Value → Heap → List Loc → Prop} {C S : Nat} {T : State} {g : JFrame} (T' : State) (g' : JFrame) (st : ∀ target, Steps tb e below (T'.setTop g') target → Steps tb e below (T.setTop g) target) (k : own_Go tb e below Q s C S T' g') : own_Go tb e below Q s C S T g := own_by st k
/-- the contract of a body: from the heap h0, with the arguments A, it returns, with Q -/
abbrev own_M (l : Launch) (y : MethodName) (code : ByteArray) (ml : Nat) (rt : Option FieldType) (ws : List Cond) (R : Room) (Z : State) (A : Array Value) (h0 : Heap) (Q : Option Value → Heap → List Loc → Prop) : Prop :=
  MetFree l y (head1 (Cond.code y code ml rt :: ws) R) (fun a U => a = A ∧ Z.Warmed39 U.vm ∧ U.heap = h0) (fun _ _ _ _ _ => True) (fun _ U o U' => ∃ v L, o = .returned v ∧ Q v U'.heap L ∧ FrameEnd U o U' L R.cells R.slots)
theorem own_bd {y : MethodName} {code : ByteArray} {ml : Nat} {rt : Option FieldType} {ws : List Cond} {Z : State} {A : Array Value} {h0 : Heap} {Q : Option Value → Heap → List Loc → Prop} (hpl : plainFor y = true)
    (k : ∀ p e s m below meth c s₁, BodyLoose p l y (head1 (Cond.code y code ml rt :: ws) R) code ml rt e s m A below meth c s₁ → p.tables.exec = Jvm.exec → c.code = code → c.maxLocals = ml → s.vm.findClass y.cls = some m.cls → meth.name = y.name → meth.locks = false → Z.Warmed39 s.vm → Stand p l e R s m A below meth c s₁ [] 0 0 → s₁.heap = h0 → own_Go p.tables e below Q s R.cells R.slots s₁ (entryFrame m A ml)) : own_M l y code ml rt ws R Z A h0 Q := by
  refine MetFree.of_bodySF hpl hisR ?_
  intro p e s m args below meth c s₁ Bd hml hP hK
  obtain ⟨rfl, hZ, hh⟩ := hP
  exact k p e s m below meth c s₁ Bd Bd.exec Bd.bytes hml (findClass_of_methodNamed Bd.named) (name_of_methodNamed Bd.named Bd.method).1 Bd.notSynchronized hZ (Stand.of_body Bd) (by rw [← hh, Bd.state]; rfl)
theorem own_ret {Q : Option Value → Heap → List Loc → Prop} {C S : Nat} {g : JFrame} (X : Stand p l e R s m args below meth c T locs cells slots) (hlk : meth.locks = false) {v : Option Value} (hv : meth.sig.returnType = none → v = none)
    (st : ∀ fs, (∀ (f : JFrame) (acts : List Action), f.method = m → f.locked = none → f.entered = [] → (doReturn e (T.setTop f) acts v).1 = T.setFrames fs) → Steps p.tables e below (T.setTop g) (T.setFrames fs))
    (hq : Q v T.heap locs) (hc : cells ≤ C) (hs : slots ≤ S) : own_Go p.tables e below Q s C S T g := by
  obtain ⟨fs, hr, hrun, hended, hW, hsame⟩ := X.leave (v := v) hv hlk
  exact ⟨_, _, st fs hr, hrun, hended, v, locs, rfl, hq, ⟨v, rfl⟩, hW, hsame.mono hc hs⟩
end New
end Jvm.RoadKit
namespace Jvm.Pilot.@@N@@
open Jvm Jvm.ClassFile Sem Op Lib Jvm.Free Jvm.Stand Jvm.LawKit Jvm.RoadKit Bundle Jvm.Pilot.@@N@@.Jvm.D
theorem pd_0 : parseMethodDescriptor "()V" = some ⟨[], none⟩ := by decide +kernel
theorem pd_1 : parseMethodDescriptor "(JJ)J" = some ⟨[.long, .long], some .long⟩ := by decide +kernel
theorem pd_2 : parseMethodDescriptor "(JJ)V" = some ⟨[.long, .long], none⟩ := by decide +kernel
theorem pd_3 : parseMethodDescriptor "()Z" = some ⟨[], some .boolean⟩ := by decide +kernel
theorem own_z (y : Int64) : (0 : Int64) + y = y := Int64.zero_add y
theorem own_pl (y : Int64) : ¬ (((0 : Int64) ^^^ ((0 : Int64) + y)) &&& (y ^^^ ((0 : Int64) + y))) < (0 : Int64) := by
  rw [own_z, Int64.xor_self, Int64.and_zero]
  decide
def own_lim (x y : Int64) : Int32 := if x = (9223372036854775807 : Int64) then (if y = (9223372036854775807 : Int64) then 0 else 1) else 1
theorem own_nar (x y : Int64) : nar .boolean (own_lim x y) = own_lim x y := by unfold own_lim; (repeat' split) <;> rfl
def own_min (x y : Int64) : Int64 := if y < x then y else x
theorem own_fin (x y : Int64) : own_lim x y = (if own_min x y = (9223372036854775807 : Int64) then (0 : Int32) else (1 : Int32)) := by
  have k : (9223372036854775807 : Int64).toInt = 9223372036854775807 := by decide
  have r1 := rng64 x
  have r2 := rng64 y
  unfold own_lim own_min
  simp only [← Int64.toInt_inj, Int64.lt_iff_toInt_lt, k]
  by_cases c : y.toInt < x.toInt
  · rw [if_pos c]
    (repeat' split) <;> first | rfl | omega
  · rw [if_neg c]
    (repeat' split) <;> first | rfl | omega
theorem d2_0 : decode jdk_30_method_1_code 0 = .ok (.aload_n 0, 1) := by decide +kernel
theorem d2_1 : decode jdk_30_method_1_code 1 = .ok (.invokespecial 1, 3) := by decide +kernel
theorem d2_4 : decode jdk_30_method_1_code 4 = .ok (.return_, 1) := by decide +kernel
theorem pn_2 : plainName "java/lang/Record" = true := by first | (simp [plainName, overriddenIn]; done) | decide +kernel
theorem ef_rm2 (m : MethodId) (a : Addr) : entryFrame m #[(.ref a)] 1 = mkF m 0 #[.val (.ref a)] [] := by first | (simp [entryFrame, mkF, argsToLocals, Value.category]; done) | rfl
def Q_rm2 (Z : State) (a : Addr) (h0 : Heap) (n0 : Nat) (v : Option Value) (h : Heap) (L : List Loc) : Prop := v = none ∧ Fr n0 L ∧ h = h0
set_option maxRecDepth 65536 in
set_option maxHeartbeats 40000000 in
theorem rm2 (l : Launch) (Z : State) (a0 : Array Value) (hw : ∀ d ∈ tables_1, d.before a0 Z = true) (ws : List Jvm.Cond) (a : Addr) (h0 : Heap) (n0 : Nat) (Z0 : n0 ≤ h0.size) :
    MetFree l (⟨"java/lang/Record", "<init>", "()V"⟩ : MethodName) (head1 (Jvm.Cond.code (⟨"java/lang/Record", "<init>", "()V"⟩ : MethodName) jdk_30_method_1_code 1 none :: ws) ({ frames := 1, cells := 0, slots := 0, locals := 12 } : Room)) (fun zz UU => zz = #[(.ref a)] ∧ Z.Warmed39 UU.vm ∧ UU.heap = h0) (fun _ _ _ _ _ => True) (fun _ U o U' => ∃ v L, o = .returned v ∧ Q_rm2 Z a h0 n0 v U'.heap L ∧ FrameEnd U o U' L ({ frames := 1, cells := 0, slots := 0, locals := 12 } : Room).cells ({ frames := 1, cells := 0, slots := 0, locals := 12 } : Room).slots) := by
  refine MetFree.of_bodySF (plainFor_of_name pn_2) hisR ?_
  intro p e s m args below meth c s₁ Bd hml0 hP hK
  obtain ⟨rfl, hZ, hh⟩ := hP
  have hx := Bd.exec
  have hby := Bd.bytes
  have hml : c.maxLocals = 1 := hml0
  have hown : s.vm.findClass "java/lang/Record" = some m.cls := findClass_of_methodNamed Bd.named
  have hnm := (name_of_methodNamed Bd.named Bd.method).1
  have hlk : meth.locks = false := BodyLoose.notSynchronized Bd
  have X0 : Stand p l e ({ frames := 1, cells := 0, slots := 0, locals := 12 } : Room) s m #[(.ref a)] below meth c s₁ [] 0 0 := Stand.of_body Bd
  have e0 : s₁.heap = h0 := by rw [← hh, Bd.state]; rfl
  have N0 := Fr.nil n0
  show own_Go p.tables e below (Q_rm2 Z a h0 n0) s ({ frames := 1, cells := 0, slots := 0, locals := 12 } : Room).cells ({ frames := 1, cells := 0, slots := 0, locals := 12 } : Room).slots s₁ (entryFrame m #[(.ref a)] 1)
  rw [ef_rm2 m a]
  refine own_by (T' := s₁) (g' := (mkF m 1 #[.val (.ref a)] [(.ref a)])) (fun _ k => XS.aloadN X0.here hx rfl (hb hby d2_0) rfl rfl k) ?_
  obtain ⟨T1, X1, e1, st1⟩ := initO X0 hx hZ hown (hw _ (List.mem_of_getElem? (i := 11) rfl)) (hw _ (List.mem_of_getElem? (i := 12) rfl)) (hw _ (List.mem_of_getElem? (i := 13) rfl)) e0 (g := (mkF m 1 #[.val (.ref a)] [(.ref a)])) rfl (by rw [hml]; rfl) rfl (hb hby d2_1) (by decide) (W := 0) (by show 2 * 0 + _ ≤ _; exact Nat.le_of_eq rfl) (by decide)
  refine own_by (T' := T1) (g' := (mkF m 4 #[.val (.ref a)] [])) (fun _ k => st1 _ k) ?_
  refine own_ret X1 hlk (v := none) (fun _ => rfl) (fun fs hr => X1.returnOut hx Bd.returns (hb hby d2_4) hr) ?_ (by decide) (by decide)
  rw [e1]
  exact ⟨rfl, N0, rfl⟩
theorem d1_0 : decode prog_70_method_1_code 0 = .ok (.aload_n 0, 1) := by decide +kernel
theorem d1_1 : decode prog_70_method_1_code 1 = .ok (.invokespecial 3, 3) := by decide +kernel
theorem d1_4 : decode prog_70_method_1_code 4 = .ok (.aload_n 0, 1) := by decide +kernel
theorem d1_5 : decode prog_70_method_1_code 5 = .ok (.lload_n 1, 1) := by decide +kernel
theorem d1_6 : decode prog_70_method_1_code 6 = .ok (.putfield 9, 3) := by decide +kernel
theorem d1_9 : decode prog_70_method_1_code 9 = .ok (.aload_n 0, 1) := by decide +kernel
theorem d1_10 : decode prog_70_method_1_code 10 = .ok (.lload_n 3, 1) := by decide +kernel
theorem d1_11 : decode prog_70_method_1_code 11 = .ok (.putfield 15, 3) := by decide +kernel
theorem d1_14 : decode prog_70_method_1_code 14 = .ok (.return_, 1) := by decide +kernel
theorem pn_1 : plainName "com/example/temporalis/temporalis/Window$Reach" = true := by first | (simp [plainName, overriddenIn]; done) | decide +kernel
theorem ef_rm1 (m : MethodId) (a : Addr) (x1 : Int64) (y1 : Int64) : entryFrame m #[(.ref a), (.long x1), (.long y1)] 5 = mkF m 0 #[.val (.ref a), .val (.long x1), .second, .val (.long y1), .second] [] := by first | (simp [entryFrame, mkF, argsToLocals, Value.category]; done) | rfl
def Q_rm1 (Z : State) (a : Addr) (x1 : Int64) (y1 : Int64) (h0 : Heap) (n0 : Nat) (v : Option Value) (h : Heap) (L : List Loc) : Prop := v = none ∧ Fr n0 L ∧ Keep h0 h [a] ∧ Fld Z h a "com/example/temporalis/temporalis/Window$Reach" "afterStart" "J" (.long x1) ∧ Fld Z h a "com/example/temporalis/temporalis/Window$Reach" "afterEnd" "J" (.long y1)
set_option maxRecDepth 65536 in
set_option maxHeartbeats 40000000 in
theorem rm1 (l : Launch) (Z : State) (a0 : Array Value) (hw : ∀ d ∈ tables_1, d.before a0 Z = true) (ws : List Jvm.Cond) (a : Addr) (x1 : Int64) (y1 : Int64) (h0 : Heap) (n0 : Nat) (Z0 : n0 ≤ h0.size) (E_a : Exa Z h0 a "com/example/temporalis/temporalis/Window$Reach") (F_afterStart_a : Fld Z h0 a "com/example/temporalis/temporalis/Window$Reach" "afterStart" "J" (.long (0 : Int64))) (F_afterEnd_a : Fld Z h0 a "com/example/temporalis/temporalis/Window$Reach" "afterEnd" "J" (.long (0 : Int64))) (g_a : n0 ≤ a) :
    MetFree l (⟨"com/example/temporalis/temporalis/Window$Reach", "<init>", "(JJ)V"⟩ : MethodName) (head1 (Jvm.Cond.code (⟨"com/example/temporalis/temporalis/Window$Reach", "<init>", "(JJ)V"⟩ : MethodName) prog_70_method_1_code 5 none :: ws) ({ frames := 2, cells := 0, slots := 0, locals := 24 } : Room)) (fun zz UU => zz = #[(.ref a), (.long x1), (.long y1)] ∧ Z.Warmed39 UU.vm ∧ UU.heap = h0) (fun _ _ _ _ _ => True) (fun _ U o U' => ∃ v L, o = .returned v ∧ Q_rm1 Z a x1 y1 h0 n0 v U'.heap L ∧ FrameEnd U o U' L ({ frames := 2, cells := 0, slots := 0, locals := 24 } : Room).cells ({ frames := 2, cells := 0, slots := 0, locals := 24 } : Room).slots) := by
  refine MetFree.of_bodySF (plainFor_of_name pn_1) hisR ?_
  intro p e s m args below meth c s₁ Bd hml0 hP hK
  obtain ⟨rfl, hZ, hh⟩ := hP
  have hx := Bd.exec
  have hby := Bd.bytes
  have hml : c.maxLocals = 5 := hml0
  have hown : s.vm.findClass "com/example/temporalis/temporalis/Window$Reach" = some m.cls := findClass_of_methodNamed Bd.named
  have hnm := (name_of_methodNamed Bd.named Bd.method).1
  have hlk : meth.locks = false := BodyLoose.notSynchronized Bd
  have X0 : Stand p l e ({ frames := 2, cells := 0, slots := 0, locals := 24 } : Room) s m #[(.ref a), (.long x1), (.long y1)] below meth c s₁ [] 0 0 := Stand.of_body Bd
  have e0 : s₁.heap = h0 := by rw [← hh, Bd.state]; rfl
  have N0 := Fr.nil n0
  show own_Go p.tables e below (Q_rm1 Z a x1 y1 h0 n0) s ({ frames := 2, cells := 0, slots := 0, locals := 24 } : Room).cells ({ frames := 2, cells := 0, slots := 0, locals := 24 } : Room).slots s₁ (entryFrame m #[(.ref a), (.long x1), (.long y1)] 5)
  rw [ef_rm1 m a x1 y1]
  refine own_by (T' := s₁) (g' := (mkF m 1 #[.val (.ref a), .val (.long x1), .second, .val (.long y1), .second] [(.ref a)])) (fun _ k => XS.aloadN X0.here hx rfl (hb hby d1_0) rfl rfl k) ?_
  obtain ⟨_, _, ⟨T1, L1, k1, n1⟩, -, X1, ⟨Lc1, hQ1, l1, y1, z1⟩, st1⟩ := X0.specialBack hx (y := (⟨"java/lang/Record", "<init>", "()V"⟩ : MethodName)) rfl hown (mvT hZ (hw _ (List.mem_of_getElem? (i := 6) rfl))) (mvT hZ (hw _ (List.mem_of_getElem? (i := 7) rfl))) (mvT hZ (hw _ (List.mem_of_getElem? (i := 10) rfl))) (by decide) (backOf (W := 0) (rm2 l Z a0 hw [] a  h0 n0 Z0 ) hZ (hw _ (List.mem_of_getElem? (i := 10) rfl)) (hw _ (List.mem_of_getElem? (i := 9) rfl)) (by decide) (by decide)) (g := (mkF m 1 #[.val (.ref a), .val (.long x1), .second, .val (.long y1), .second] [(.ref a)])) rfl (by rw [hml]; rfl) (Steps.refl _) (a := a) (argsL := []) (rest := []) (lenOf pd_0 rfl) rfl (by show 2 * 0 + _ ≤ _; exact Nat.le_of_eq rfl) (hb hby d1_1) (fun _ _ => ⟨rfl, e0, (by decide : 0 + 0 ≤ _), (by decide : 0 + 0 ≤ _)⟩)
  dsimp only [Pt.U, Pt.locs, Pt.cells, Pt.slots] at X1 l1 y1 z1 st1 hQ1
  subst l1 y1 z1
  obtain ⟨rfl, N1q, e1⟩ := hQ1
  have N1 := Fr.app N0 N1q
  refine own_by (T' := T1) (g' := (mkF m 4 #[.val (.ref a), .val (.long x1), .second, .val (.long y1), .second] [])) (fun _ k => st1.trans k) ?_
  refine own_by (T' := T1) (g' := (mkF m 5 #[.val (.ref a), .val (.long x1), .second, .val (.long y1), .second] [(.ref a)])) (fun _ k => XS.aloadN X1.here hx rfl (hb hby d1_4) rfl rfl k) ?_
  refine own_by (T' := T1) (g' := (mkF m 6 #[.val (.ref a), .val (.long x1), .second, .val (.long y1), .second] [(.long x1), (.ref a)])) (fun _ k => XS.lloadN X1.here hx rfl (hb hby d1_5) rfl k) ?_
  obtain ⟨T2, h2, X2, e2, W2, st2⟩ := putF X1 hx hZ hown (host := "") (Or.inl (hw _ (List.mem_of_getElem? (i := 14) rfl))) Via.refl e1 F_afterStart_a E_a (Or.inr ⟨(hw _ (List.mem_of_getElem? (i := 15) rfl)), rfl, hnm⟩) (hw _ (List.mem_of_getElem? (i := 1) rfl)) (ty := .long) (by decide) rfl rfl (g := (mkF m 6 #[.val (.ref a), .val (.long x1), .second, .val (.long y1), .second] [(.long x1), (.ref a)])) rfl rfl (hb hby d1_6)
  have Fw2 : Fld Z h2 a "com/example/temporalis/temporalis/Window$Reach" "afterStart" "J" (.long x1) := Fld.same W2 F_afterStart_a
  have K2 : Keep h0 h2 [a] := Keep.wr (Keep.refl h0 [a]) W2 (Or.inl (List.mem_of_getElem? (i := 0) rfl))
  have N2 := Fr.snoc X2 N1 g_a
  refine own_by (T' := T2) (g' := (mkF m 9 #[.val (.ref a), .val (.long x1), .second, .val (.long y1), .second] [])) (fun _ k => st2 _ k) ?_
  refine own_by (T' := T2) (g' := (mkF m 10 #[.val (.ref a), .val (.long x1), .second, .val (.long y1), .second] [(.ref a)])) (fun _ k => XS.aloadN X2.here hx rfl (hb hby d1_9) rfl rfl k) ?_
  refine own_by (T' := T2) (g' := (mkF m 11 #[.val (.ref a), .val (.long x1), .second, .val (.long y1), .second] [(.long y1), (.ref a)])) (fun _ k => XS.lloadN X2.here hx rfl (hb hby d1_10) rfl k) ?_
  obtain ⟨T3, h3, X3, e3, W3, st3⟩ := putF X2 hx hZ hown (host := "") (Or.inl (hw _ (List.mem_of_getElem? (i := 16) rfl))) Via.refl e2 (Fld.other W2 F_afterEnd_a (Or.inr (slot_ne (a0 := a0) (Or.inr (hw _ (List.mem_of_getElem? (i := 17) rfl))) (Or.inr (hw _ (List.mem_of_getElem? (i := 15) rfl))) (by decide) (t := .long) (t' := .long) (by decide) (by decide)))) (Exa.wr W2 E_a) (Or.inr ⟨(hw _ (List.mem_of_getElem? (i := 17) rfl)), rfl, hnm⟩) (hw _ (List.mem_of_getElem? (i := 1) rfl)) (ty := .long) (by decide) rfl rfl (g := (mkF m 11 #[.val (.ref a), .val (.long x1), .second, .val (.long y1), .second] [(.long y1), (.ref a)])) rfl rfl (hb hby d1_11)
  have Fw3 : Fld Z h3 a "com/example/temporalis/temporalis/Window$Reach" "afterEnd" "J" (.long y1) := Fld.same W3 (Fld.other W2 F_afterEnd_a (Or.inr (slot_ne (a0 := a0) (Or.inr (hw _ (List.mem_of_getElem? (i := 17) rfl))) (Or.inr (hw _ (List.mem_of_getElem? (i := 15) rfl))) (by decide) (t := .long) (t' := .long) (by decide) (by decide))))
  have K3 : Keep h0 h3 [a] := Keep.wr K2 W3 (Or.inl (List.mem_of_getElem? (i := 0) rfl))
  have N3 := Fr.snoc X3 N2 g_a
  refine own_by (T' := T3) (g' := (mkF m 14 #[.val (.ref a), .val (.long x1), .second, .val (.long y1), .second] [])) (fun _ k => st3 _ k) ?_
  refine own_ret X3 hlk (v := none) (fun _ => rfl) (fun fs hr => X3.returnOut hx Bd.returns (hb hby d1_14) hr) ?_ (by decide) (by decide)
  rw [e3]
  exact ⟨rfl, N3, K3, (Fld.other W3 Fw2 (Or.inr (slot_ne (a0 := a0) (Or.inr (hw _ (List.mem_of_getElem? (i := 15) rfl))) (Or.inr (hw _ (List.mem_of_getElem? (i := 17) rfl))) (by decide) (t := .long) (t' := .long) (by decide) (by decide)))), Fw3⟩
theorem d4_0 : decode prog_70_method_2_code 0 = .ok (.aload_n 0, 1) := by decide +kernel
theorem d4_1 : decode prog_70_method_2_code 1 = .ok (.getfield 9, 3) := by decide +kernel
theorem d4_4 : decode prog_70_method_2_code 4 = .ok (.ldc2_w 18, 3) := by decide +kernel
theorem d4_7 : decode prog_70_method_2_code 7 = .ok (.lcmp, 1) := by decide +kernel
theorem d4_8 : decode prog_70_method_2_code 8 = .ok (.ifCond .ne 14, 3) := by decide +kernel
theorem d4_11 : decode prog_70_method_2_code 11 = .ok (.aload_n 0, 1) := by decide +kernel
theorem d4_12 : decode prog_70_method_2_code 12 = .ok (.getfield 15, 3) := by decide +kernel
theorem d4_15 : decode prog_70_method_2_code 15 = .ok (.ldc2_w 18, 3) := by decide +kernel
theorem d4_18 : decode prog_70_method_2_code 18 = .ok (.lcmp, 1) := by decide +kernel
theorem d4_19 : decode prog_70_method_2_code 19 = .ok (.ifCond .eq 7, 3) := by decide +kernel
theorem d4_22 : decode prog_70_method_2_code 22 = .ok (.iconst 1, 1) := by decide +kernel
theorem d4_23 : decode prog_70_method_2_code 23 = .ok (.goto 4, 3) := by decide +kernel
theorem d4_26 : decode prog_70_method_2_code 26 = .ok (.iconst 0, 1) := by decide +kernel
theorem d4_27 : decode prog_70_method_2_code 27 = .ok (.ireturn, 1) := by decide +kernel
theorem pn_4 : plainName "com/example/temporalis/temporalis/Window$Reach" = true := by first | (simp [plainName, overriddenIn]; done) | decide +kernel
theorem ef_rm4 (m : MethodId) (a : Addr) : entryFrame m #[(.ref a)] 1 = mkF m 0 #[.val (.ref a)] [] := by first | (simp [entryFrame, mkF, argsToLocals, Value.category]; done) | rfl
def Q_rm4 (Z : State) (a : Addr) (x1 : Int64) (y1 : Int64) (h0 : Heap) (n0 : Nat) (v : Option Value) (h : Heap) (L : List Loc) : Prop := v = some (.int (own_lim x1 y1)) ∧ Fr n0 L ∧ h = h0
set_option maxRecDepth 65536 in
set_option maxHeartbeats 40000000 in
theorem rm4 (l : Launch) (Z : State) (a0 : Array Value) (hw : ∀ d ∈ tables_1, d.before a0 Z = true) (ws : List Jvm.Cond) (a : Addr) (x1 : Int64) (y1 : Int64) (h0 : Heap) (n0 : Nat) (Z0 : n0 ≤ h0.size) (F_afterStart_a : Fld Z h0 a "com/example/temporalis/temporalis/Window$Reach" "afterStart" "J" (.long x1)) (F_afterEnd_a : Fld Z h0 a "com/example/temporalis/temporalis/Window$Reach" "afterEnd" "J" (.long y1)) :
    MetFree l (⟨"com/example/temporalis/temporalis/Window$Reach", "isLimited", "()Z"⟩ : MethodName) (head1 (Jvm.Cond.code (⟨"com/example/temporalis/temporalis/Window$Reach", "isLimited", "()Z"⟩ : MethodName) prog_70_method_2_code 1 (some .boolean) :: ws) ({ frames := 0, cells := 0, slots := 0, locals := 0 } : Room)) (fun zz UU => zz = #[(.ref a)] ∧ Z.Warmed39 UU.vm ∧ UU.heap = h0) (fun _ _ _ _ _ => True) (fun _ U o U' => ∃ v L, o = .returned v ∧ Q_rm4 Z a x1 y1 h0 n0 v U'.heap L ∧ FrameEnd U o U' L ({ frames := 0, cells := 0, slots := 0, locals := 0 } : Room).cells ({ frames := 0, cells := 0, slots := 0, locals := 0 } : Room).slots) := by
  refine MetFree.of_bodySF (plainFor_of_name pn_4) hisR ?_
  intro p e s m args below meth c s₁ Bd hml0 hP hK
  obtain ⟨rfl, hZ, hh⟩ := hP
  have hx := Bd.exec
  have hby := Bd.bytes
  have hml : c.maxLocals = 1 := hml0
  have hown : s.vm.findClass "com/example/temporalis/temporalis/Window$Reach" = some m.cls := findClass_of_methodNamed Bd.named
  have hnm := (name_of_methodNamed Bd.named Bd.method).1
  have hlk : meth.locks = false := BodyLoose.notSynchronized Bd
  have X0 : Stand p l e ({ frames := 0, cells := 0, slots := 0, locals := 0 } : Room) s m #[(.ref a)] below meth c s₁ [] 0 0 := Stand.of_body Bd
  have e0 : s₁.heap = h0 := by rw [← hh, Bd.state]; rfl
  have N0 := Fr.nil n0
  show own_Go p.tables e below (Q_rm4 Z a x1 y1 h0 n0) s ({ frames := 0, cells := 0, slots := 0, locals := 0 } : Room).cells ({ frames := 0, cells := 0, slots := 0, locals := 0 } : Room).slots s₁ (entryFrame m #[(.ref a)] 1)
  rw [ef_rm4 m a]
  refine own_by (T' := s₁) (g' := (mkF m 1 #[.val (.ref a)] [(.ref a)])) (fun _ k => XS.aloadN X0.here hx rfl (hb hby d4_0) rfl rfl k) ?_
  obtain ⟨T1, X1, e1, st1⟩ := getF X0 hx hZ hown (host := "") (Or.inl (hw _ (List.mem_of_getElem? (i := 14) rfl))) Via.refl e0 F_afterStart_a (g := (mkF m 1 #[.val (.ref a)] [(.ref a)])) rfl rfl (hb hby d4_1)
  refine own_by (T' := T1) (g' := (mkF m 4 #[.val (.ref a)] [(.long x1)])) (fun _ k => st1 _ k) ?_
  refine own_by (T' := T1) (g' := (mkF m 7 #[.val (.ref a)] [(.long (9223372036854775807 : Int64)), (.long x1)])) (fun _ k => ldc2J X1 hx hown (mvT hZ (hw _ (List.mem_of_getElem? (i := 23) rfl))) rfl (hb hby d4_4) k) ?_
  refine own_by (T' := T1) (g' := (mkF m 8 #[.val (.ref a)] [(.int (lcmpW x1 (9223372036854775807 : Int64)))])) (fun _ k => XS.lcmp X1.here hx rfl (hb hby d4_7) rfl k) ?_
  by_cases hc8_2 : x1 = (9223372036854775807 : Int64)
  · skip
    refine own_by (T' := T1) (g' := (mkF m 11 #[.val (.ref a)] [])) (fun _ k => XS.ifNo X1.here hx rfl (hb hby d4_8) rfl ((if0 _ _).trans (teq ((lw_eq _ _).mpr hc8_2)).2) k) ?_
    refine own_by (T' := T1) (g' := (mkF m 12 #[.val (.ref a)] [(.ref a)])) (fun _ k => XS.aloadN X1.here hx rfl (hb hby d4_11) rfl rfl k) ?_
    obtain ⟨T3, X3, e3, st3⟩ := getF X1 hx hZ hown (host := "") (Or.inl (hw _ (List.mem_of_getElem? (i := 16) rfl))) Via.refl e1 F_afterEnd_a (g := (mkF m 12 #[.val (.ref a)] [(.ref a)])) rfl rfl (hb hby d4_12)
    refine own_by (T' := T3) (g' := (mkF m 15 #[.val (.ref a)] [(.long y1)])) (fun _ k => st3 _ k) ?_
    refine own_by (T' := T3) (g' := (mkF m 18 #[.val (.ref a)] [(.long (9223372036854775807 : Int64)), (.long y1)])) (fun _ k => ldc2J X3 hx hown (mvT hZ (hw _ (List.mem_of_getElem? (i := 23) rfl))) rfl (hb hby d4_15) k) ?_
    refine own_by (T' := T3) (g' := (mkF m 19 #[.val (.ref a)] [(.int (lcmpW y1 (9223372036854775807 : Int64)))])) (fun _ k => XS.lcmp X3.here hx rfl (hb hby d4_18) rfl k) ?_
    by_cases hc19_4 : y1 = (9223372036854775807 : Int64)
    · skip
      refine own_by (T' := T3) (g' := (mkF m 26 #[.val (.ref a)] [])) (fun _ k => XS.ifYes X3.here hx rfl (pc0 := 19) (pc' := 26) rfl (hb hby d4_19) rfl ((if0 _ _).trans (teq ((lw_eq _ _).mpr hc19_4)).1) (by decide) (by decide) k) ?_
      refine own_by (T' := T3) (g' := (mkF m 27 #[.val (.ref a)] [(.int (0 : Int32))])) (fun _ k => XS.iconst X3.here hx rfl (hb hby d4_26) k) ?_
      refine own_ret X3 hlk (v := some (.int (0 : Int32))) (fun h => by rw [Bd.returns] at h; cases h) (fun fs hr => retN X3 hx (t := .boolean) Bd.returns (by simp) (hb hby d4_27) hr) ?_ (by decide) (by decide)
      rw [e3]
      exact ⟨congrArg (fun z => some (Value.int z)) ((if_pos hc8_2).trans (if_pos hc19_4)).symm, N0, rfl⟩
    · skip
      refine own_by (T' := T3) (g' := (mkF m 22 #[.val (.ref a)] [])) (fun _ k => XS.ifNo X3.here hx rfl (hb hby d4_19) rfl ((if0 _ _).trans (feq (fun q => absurd ((lw_eq _ _).mp q) hc19_4)).1) k) ?_
      refine own_by (T' := T3) (g' := (mkF m 23 #[.val (.ref a)] [(.int (1 : Int32))])) (fun _ k => XS.iconst X3.here hx rfl (hb hby d4_22) k) ?_
      refine own_by (T' := T3) (g' := (mkF m 27 #[.val (.ref a)] [(.int (1 : Int32))])) (fun _ k => XS.goto X3.here hx rfl (pc0 := 23) (pc' := 27) rfl (hb hby d4_23) (by decide) (by decide) k) ?_
      refine own_ret X3 hlk (v := some (.int (1 : Int32))) (fun h => by rw [Bd.returns] at h; cases h) (fun fs hr => retN X3 hx (t := .boolean) Bd.returns (by simp) (hb hby d4_27) hr) ?_ (by decide) (by decide)
      rw [e3]
      exact ⟨congrArg (fun z => some (Value.int z)) ((if_pos hc8_2).trans (if_neg hc19_4)).symm, N0, rfl⟩
  · skip
    refine own_by (T' := T1) (g' := (mkF m 22 #[.val (.ref a)] [])) (fun _ k => XS.ifYes X1.here hx rfl (pc0 := 8) (pc' := 22) rfl (hb hby d4_8) rfl ((if0 _ _).trans (feq (fun q => absurd ((lw_eq _ _).mp q) hc8_2)).2) (by decide) (by decide) k) ?_
    refine own_by (T' := T1) (g' := (mkF m 23 #[.val (.ref a)] [(.int (1 : Int32))])) (fun _ k => XS.iconst X1.here hx rfl (hb hby d4_22) k) ?_
    refine own_by (T' := T1) (g' := (mkF m 27 #[.val (.ref a)] [(.int (1 : Int32))])) (fun _ k => XS.goto X1.here hx rfl (pc0 := 23) (pc' := 27) rfl (hb hby d4_23) (by decide) (by decide) k) ?_
    refine own_ret X1 hlk (v := some (.int (1 : Int32))) (fun h => by rw [Bd.returns] at h; cases h) (fun fs hr => retN X1 hx (t := .boolean) Bd.returns (by simp) (hb hby d4_27) hr) ?_ (by decide) (by decide)
    rw [e1]
    exact ⟨congrArg (fun z => some (Value.int z)) (if_neg hc8_2).symm, N0, rfl⟩
theorem d6_0 : decode prog_70_method_6_code 0 = .ok (.lload_n 0, 1) := by decide +kernel
theorem d6_1 : decode prog_70_method_6_code 1 = .ok (.ldc2_w 18, 3) := by decide +kernel
theorem d6_4 : decode prog_70_method_6_code 4 = .ok (.lcmp, 1) := by decide +kernel
theorem d6_5 : decode prog_70_method_6_code 5 = .ok (.ifCond .eq 11, 3) := by decide +kernel
theorem d6_8 : decode prog_70_method_6_code 8 = .ok (.lload_n 2, 1) := by decide +kernel
theorem d6_9 : decode prog_70_method_6_code 9 = .ok (.ldc2_w 18, 3) := by decide +kernel
theorem d6_12 : decode prog_70_method_6_code 12 = .ok (.lcmp, 1) := by decide +kernel
theorem d6_13 : decode prog_70_method_6_code 13 = .ok (.ifCond .ne 11, 3) := by decide +kernel
theorem d6_16 : decode prog_70_method_6_code 16 = .ok (.ldc2_w 18, 3) := by decide +kernel
theorem d6_19 : decode prog_70_method_6_code 19 = .ok (.lstore 4, 2) := by decide +kernel
theorem d6_21 : decode prog_70_method_6_code 21 = .ok (.goto 39, 3) := by decide +kernel
theorem d6_24 : decode prog_70_method_6_code 24 = .ok (.lload_n 0, 1) := by decide +kernel
theorem d6_25 : decode prog_70_method_6_code 25 = .ok (.lload_n 2, 1) := by decide +kernel
theorem d6_26 : decode prog_70_method_6_code 26 = .ok (.ladd, 1) := by decide +kernel
theorem d6_27 : decode prog_70_method_6_code 27 = .ok (.lstore 4, 2) := by decide +kernel
theorem d6_29 : decode prog_70_method_6_code 29 = .ok (.lload_n 0, 1) := by decide +kernel
theorem d6_30 : decode prog_70_method_6_code 30 = .ok (.lload 4, 2) := by decide +kernel
theorem d6_32 : decode prog_70_method_6_code 32 = .ok (.lxor, 1) := by decide +kernel
theorem d6_33 : decode prog_70_method_6_code 33 = .ok (.lload_n 2, 1) := by decide +kernel
theorem d6_34 : decode prog_70_method_6_code 34 = .ok (.lload 4, 2) := by decide +kernel
theorem d6_36 : decode prog_70_method_6_code 36 = .ok (.lxor, 1) := by decide +kernel
theorem d6_37 : decode prog_70_method_6_code 37 = .ok (.land, 1) := by decide +kernel
theorem d6_38 : decode prog_70_method_6_code 38 = .ok (.lconst 0, 1) := by decide +kernel
theorem d6_39 : decode prog_70_method_6_code 39 = .ok (.lcmp, 1) := by decide +kernel
theorem d6_40 : decode prog_70_method_6_code 40 = .ok (.ifCond .ge 20, 3) := by decide +kernel
theorem d6_60 : decode prog_70_method_6_code 60 = .ok (.lload 4, 2) := by decide +kernel
theorem d6_62 : decode prog_70_method_6_code 62 = .ok (.lreturn, 1) := by decide +kernel
theorem pn_6 : plainName "com/example/temporalis/temporalis/Window$Reach" = true := by first | (simp [plainName, overriddenIn]; done) | decide +kernel
theorem ef_rm6 (m : MethodId) (y1 : Int64) : entryFrame m #[(.long (0 : Int64)), (.long y1)] 6 = mkF m 0 #[.val (.long (0 : Int64)), .second, .val (.long y1), .second, .unset, .unset] [] := by first | (simp [entryFrame, mkF, argsToLocals, Value.category]; done) | rfl
def Q_rm6 (Z : State) (y1 : Int64) (h0 : Heap) (n0 : Nat) (v : Option Value) (h : Heap) (L : List Loc) : Prop := v = some (.long y1) ∧ Fr n0 L ∧ h = h0
set_option maxRecDepth 65536 in
set_option maxHeartbeats 40000000 in
theorem rm6 (l : Launch) (Z : State) (a0 : Array Value) (hw : ∀ d ∈ tables_1, d.before a0 Z = true) (ws : List Jvm.Cond) (y1 : Int64) (h0 : Heap) (n0 : Nat) (Z0 : n0 ≤ h0.size) :
    MetFree l (⟨"com/example/temporalis/temporalis/Window$Reach", "plus", "(JJ)J"⟩ : MethodName) (head1 (Jvm.Cond.code (⟨"com/example/temporalis/temporalis/Window$Reach", "plus", "(JJ)J"⟩ : MethodName) prog_70_method_6_code 6 (some .long) :: ws) ({ frames := 0, cells := 0, slots := 0, locals := 0 } : Room)) (fun zz UU => zz = #[(.long (0 : Int64)), (.long y1)] ∧ Z.Warmed39 UU.vm ∧ UU.heap = h0) (fun _ _ _ _ _ => True) (fun _ U o U' => ∃ v L, o = .returned v ∧ Q_rm6 Z y1 h0 n0 v U'.heap L ∧ FrameEnd U o U' L ({ frames := 0, cells := 0, slots := 0, locals := 0 } : Room).cells ({ frames := 0, cells := 0, slots := 0, locals := 0 } : Room).slots) := by
  refine MetFree.of_bodySF (plainFor_of_name pn_6) hisR ?_
  intro p e s m args below meth c s₁ Bd hml0 hP hK
  obtain ⟨rfl, hZ, hh⟩ := hP
  have hx := Bd.exec
  have hby := Bd.bytes
  have hml : c.maxLocals = 6 := hml0
  have hown : s.vm.findClass "com/example/temporalis/temporalis/Window$Reach" = some m.cls := findClass_of_methodNamed Bd.named
  have hnm := (name_of_methodNamed Bd.named Bd.method).1
  have hlk : meth.locks = false := BodyLoose.notSynchronized Bd
  have X0 : Stand p l e ({ frames := 0, cells := 0, slots := 0, locals := 0 } : Room) s m #[(.long (0 : Int64)), (.long y1)] below meth c s₁ [] 0 0 := Stand.of_body Bd
  have e0 : s₁.heap = h0 := by rw [← hh, Bd.state]; rfl
  have N0 := Fr.nil n0
  show own_Go p.tables e below (Q_rm6 Z y1 h0 n0) s ({ frames := 0, cells := 0, slots := 0, locals := 0 } : Room).cells ({ frames := 0, cells := 0, slots := 0, locals := 0 } : Room).slots s₁ (entryFrame m #[(.long (0 : Int64)), (.long y1)] 6)
  rw [ef_rm6 m y1]
  refine own_by (T' := s₁) (g' := (mkF m 1 #[.val (.long (0 : Int64)), .second, .val (.long y1), .second, .unset, .unset] [(.long (0 : Int64))])) (fun _ k => XS.lloadN X0.here hx rfl (hb hby d6_0) rfl k) ?_
  refine own_by (T' := s₁) (g' := (mkF m 4 #[.val (.long (0 : Int64)), .second, .val (.long y1), .second, .unset, .unset] [(.long (9223372036854775807 : Int64)), (.long (0 : Int64))])) (fun _ k => ldc2J X0 hx hown (mvT hZ (hw _ (List.mem_of_getElem? (i := 23) rfl))) rfl (hb hby d6_1) k) ?_
  refine own_by (T' := s₁) (g' := (mkF m 5 #[.val (.long (0 : Int64)), .second, .val (.long y1), .second, .unset, .unset] [(.int (lcmpW (0 : Int64) (9223372036854775807 : Int64)))])) (fun _ k => XS.lcmp X0.here hx rfl (hb hby d6_4) rfl k) ?_
  refine own_by (T' := s₁) (g' := (mkF m 8 #[.val (.long (0 : Int64)), .second, .val (.long y1), .second, .unset, .unset] [])) (fun _ k => XS.ifNo X0.here hx rfl (hb hby d6_5) rfl ((if0 _ _).trans (feq (fun q => absurd ((lw_eq _ _).mp q) (by decide))).1) k) ?_
  refine own_by (T' := s₁) (g' := (mkF m 9 #[.val (.long (0 : Int64)), .second, .val (.long y1), .second, .unset, .unset] [(.long y1)])) (fun _ k => XS.lloadN X0.here hx rfl (hb hby d6_8) rfl k) ?_
  refine own_by (T' := s₁) (g' := (mkF m 12 #[.val (.long (0 : Int64)), .second, .val (.long y1), .second, .unset, .unset] [(.long (9223372036854775807 : Int64)), (.long y1)])) (fun _ k => ldc2J X0 hx hown (mvT hZ (hw _ (List.mem_of_getElem? (i := 23) rfl))) rfl (hb hby d6_9) k) ?_
  refine own_by (T' := s₁) (g' := (mkF m 13 #[.val (.long (0 : Int64)), .second, .val (.long y1), .second, .unset, .unset] [(.int (lcmpW y1 (9223372036854775807 : Int64)))])) (fun _ k => XS.lcmp X0.here hx rfl (hb hby d6_12) rfl k) ?_
  by_cases hc13_1 : y1 = (9223372036854775807 : Int64)
  · skip
    refine own_by (T' := s₁) (g' := (mkF m 16 #[.val (.long (0 : Int64)), .second, .val (.long y1), .second, .unset, .unset] [])) (fun _ k => XS.ifNo X0.here hx rfl (hb hby d6_13) rfl ((if0 _ _).trans (teq ((lw_eq _ _).mpr hc13_1)).2) k) ?_
    refine own_by (T' := s₁) (g' := (mkF m 19 #[.val (.long (0 : Int64)), .second, .val (.long y1), .second, .unset, .unset] [(.long (9223372036854775807 : Int64))])) (fun _ k => ldc2J X0 hx hown (mvT hZ (hw _ (List.mem_of_getElem? (i := 23) rfl))) rfl (hb hby d6_16) k) ?_
    refine own_by (T' := s₁) (g' := (mkF m 21 #[.val (.long (0 : Int64)), .second, .val (.long y1), .second, .val (.long (9223372036854775807 : Int64)), .second] [])) (fun _ k => XS.lstore X0.here hx rfl (hb hby d6_19) rfl (l' := #[.val (.long (0 : Int64)), .second, .val (.long y1), .second, .val (.long (9223372036854775807 : Int64)), .second]) rfl k) ?_
    refine own_by (T' := s₁) (g' := (mkF m 60 #[.val (.long (0 : Int64)), .second, .val (.long y1), .second, .val (.long (9223372036854775807 : Int64)), .second] [])) (fun _ k => XS.goto X0.here hx rfl (pc0 := 21) (pc' := 60) rfl (hb hby d6_21) (by decide) (by decide) k) ?_
    refine own_by (T' := s₁) (g' := (mkF m 62 #[.val (.long (0 : Int64)), .second, .val (.long y1), .second, .val (.long (9223372036854775807 : Int64)), .second] [(.long (9223372036854775807 : Int64))])) (fun _ k => XS.lload X0.here hx rfl (hb hby d6_60) rfl k) ?_
    refine own_ret X0 hlk (v := some (.long (9223372036854775807 : Int64))) (fun h => by rw [Bd.returns] at h; cases h) (fun fs hr => retOut X0 hx Bd.returns rfl (Or.inr (Or.inl ⟨rfl, rfl, _, rfl⟩)) (hb hby d6_62) hr) ?_ (by decide) (by decide)
    rw [e0]
    exact ⟨congrArg (fun z => some (Value.long z)) hc13_1.symm, N0, rfl⟩
  · skip
    refine own_by (T' := s₁) (g' := (mkF m 24 #[.val (.long (0 : Int64)), .second, .val (.long y1), .second, .unset, .unset] [])) (fun _ k => XS.ifYes X0.here hx rfl (pc0 := 13) (pc' := 24) rfl (hb hby d6_13) rfl ((if0 _ _).trans (feq (fun q => absurd ((lw_eq _ _).mp q) hc13_1)).2) (by decide) (by decide) k) ?_
    refine own_by (T' := s₁) (g' := (mkF m 25 #[.val (.long (0 : Int64)), .second, .val (.long y1), .second, .unset, .unset] [(.long (0 : Int64))])) (fun _ k => XS.lloadN X0.here hx rfl (hb hby d6_24) rfl k) ?_
    refine own_by (T' := s₁) (g' := (mkF m 26 #[.val (.long (0 : Int64)), .second, .val (.long y1), .second, .unset, .unset] [(.long y1), (.long (0 : Int64))])) (fun _ k => XS.lloadN X0.here hx rfl (hb hby d6_25) rfl k) ?_
    refine own_by (T' := s₁) (g' := (mkF m 27 #[.val (.long (0 : Int64)), .second, .val (.long y1), .second, .unset, .unset] [(.long ((0 : Int64) + y1))])) (fun _ k => XS.ladd X0.here hx rfl (hb hby d6_26) rfl k) ?_
    refine own_by (T' := s₁) (g' := (mkF m 29 #[.val (.long (0 : Int64)), .second, .val (.long y1), .second, .val (.long ((0 : Int64) + y1)), .second] [])) (fun _ k => XS.lstore X0.here hx rfl (hb hby d6_27) rfl (l' := #[.val (.long (0 : Int64)), .second, .val (.long y1), .second, .val (.long ((0 : Int64) + y1)), .second]) rfl k) ?_
    refine own_by (T' := s₁) (g' := (mkF m 30 #[.val (.long (0 : Int64)), .second, .val (.long y1), .second, .val (.long ((0 : Int64) + y1)), .second] [(.long (0 : Int64))])) (fun _ k => XS.lloadN X0.here hx rfl (hb hby d6_29) rfl k) ?_
    refine own_by (T' := s₁) (g' := (mkF m 32 #[.val (.long (0 : Int64)), .second, .val (.long y1), .second, .val (.long ((0 : Int64) + y1)), .second] [(.long ((0 : Int64) + y1)), (.long (0 : Int64))])) (fun _ k => XS.lload X0.here hx rfl (hb hby d6_30) rfl k) ?_
    refine own_by (T' := s₁) (g' := (mkF m 33 #[.val (.long (0 : Int64)), .second, .val (.long y1), .second, .val (.long ((0 : Int64) + y1)), .second] [(.long ((0 : Int64) ^^^ ((0 : Int64) + y1)))])) (fun _ k => XS.lxor X0.here hx rfl (hb hby d6_32) rfl k) ?_
    refine own_by (T' := s₁) (g' := (mkF m 34 #[.val (.long (0 : Int64)), .second, .val (.long y1), .second, .val (.long ((0 : Int64) + y1)), .second] [(.long y1), (.long ((0 : Int64) ^^^ ((0 : Int64) + y1)))])) (fun _ k => XS.lloadN X0.here hx rfl (hb hby d6_33) rfl k) ?_
    refine own_by (T' := s₁) (g' := (mkF m 36 #[.val (.long (0 : Int64)), .second, .val (.long y1), .second, .val (.long ((0 : Int64) + y1)), .second] [(.long ((0 : Int64) + y1)), (.long y1), (.long ((0 : Int64) ^^^ ((0 : Int64) + y1)))])) (fun _ k => XS.lload X0.here hx rfl (hb hby d6_34) rfl k) ?_
    refine own_by (T' := s₁) (g' := (mkF m 37 #[.val (.long (0 : Int64)), .second, .val (.long y1), .second, .val (.long ((0 : Int64) + y1)), .second] [(.long (y1 ^^^ ((0 : Int64) + y1))), (.long ((0 : Int64) ^^^ ((0 : Int64) + y1)))])) (fun _ k => XS.lxor X0.here hx rfl (hb hby d6_36) rfl k) ?_
    refine own_by (T' := s₁) (g' := (mkF m 38 #[.val (.long (0 : Int64)), .second, .val (.long y1), .second, .val (.long ((0 : Int64) + y1)), .second] [(.long (((0 : Int64) ^^^ ((0 : Int64) + y1)) &&& (y1 ^^^ ((0 : Int64) + y1))))])) (fun _ k => XS.land X0.here hx rfl (hb hby d6_37) rfl k) ?_
    refine own_by (T' := s₁) (g' := (mkF m 39 #[.val (.long (0 : Int64)), .second, .val (.long y1), .second, .val (.long ((0 : Int64) + y1)), .second] [(.long (0 : Int64)), (.long (((0 : Int64) ^^^ ((0 : Int64) + y1)) &&& (y1 ^^^ ((0 : Int64) + y1))))])) (fun _ k => XS.lconst X0.here hx rfl (hb hby d6_38) k) ?_
    refine own_by (T' := s₁) (g' := (mkF m 40 #[.val (.long (0 : Int64)), .second, .val (.long y1), .second, .val (.long ((0 : Int64) + y1)), .second] [(.int (lcmpW (((0 : Int64) ^^^ ((0 : Int64) + y1)) &&& (y1 ^^^ ((0 : Int64) + y1))) (0 : Int64)))])) (fun _ k => XS.lcmp X0.here hx rfl (hb hby d6_39) rfl k) ?_
    refine own_by (T' := s₁) (g' := (mkF m 60 #[.val (.long (0 : Int64)), .second, .val (.long y1), .second, .val (.long ((0 : Int64) + y1)), .second] [])) (fun _ k => XS.ifYes X0.here hx rfl (pc0 := 40) (pc' := 60) rfl (hb hby d6_40) rfl ((if0 _ _).trans (flt (fun q => absurd ((lw_lt _ _).mp q) (own_pl y1))).2.1) (by decide) (by decide) k) ?_
    refine own_by (T' := s₁) (g' := (mkF m 62 #[.val (.long (0 : Int64)), .second, .val (.long y1), .second, .val (.long ((0 : Int64) + y1)), .second] [(.long ((0 : Int64) + y1))])) (fun _ k => XS.lload X0.here hx rfl (hb hby d6_60) rfl k) ?_
    refine own_ret X0 hlk (v := some (.long ((0 : Int64) + y1))) (fun h => by rw [Bd.returns] at h; cases h) (fun fs hr => retOut X0 hx Bd.returns rfl (Or.inr (Or.inl ⟨rfl, rfl, _, rfl⟩)) (hb hby d6_62) hr) ?_ (by decide) (by decide)
    rw [e0]
    exact ⟨congrArg (fun z => some (Value.long z)) (own_z y1), N0, rfl⟩
theorem d7_0 : decode jdk_29_method_70_code 0 = .ok (.lload_n 0, 1) := by decide +kernel
theorem d7_1 : decode jdk_29_method_70_code 1 = .ok (.lload_n 2, 1) := by decide +kernel
theorem d7_2 : decode jdk_29_method_70_code 2 = .ok (.lcmp, 1) := by decide +kernel
theorem d7_3 : decode jdk_29_method_70_code 3 = .ok (.ifCond .gt 7, 3) := by decide +kernel
theorem d7_6 : decode jdk_29_method_70_code 6 = .ok (.lload_n 0, 1) := by decide +kernel
theorem d7_7 : decode jdk_29_method_70_code 7 = .ok (.goto 4, 3) := by decide +kernel
theorem d7_10 : decode jdk_29_method_70_code 10 = .ok (.lload_n 2, 1) := by decide +kernel
theorem d7_11 : decode jdk_29_method_70_code 11 = .ok (.lreturn, 1) := by decide +kernel
theorem ef_rm7 (m : MethodId) (x1 : Int64) (y1 : Int64) : entryFrame m #[(.long x1), (.long y1)] 4 = mkF m 0 #[.val (.long x1), .second, .val (.long y1), .second] [] := by first | (simp [entryFrame, mkF, argsToLocals, Value.category]; done) | rfl
def Q_rm7 (Z : State) (x1 : Int64) (y1 : Int64) (h0 : Heap) (n0 : Nat) (v : Option Value) (h : Heap) (L : List Loc) : Prop := v = some (.long (own_min x1 y1)) ∧ Fr n0 L ∧ h = h0
set_option maxRecDepth 65536 in
set_option maxHeartbeats 40000000 in
theorem rm7 (l : Launch) (Z : State) (a0 : Array Value) (hw : ∀ d ∈ tables_1, d.before a0 Z = true) (ws : List Jvm.Cond) (x1 : Int64) (y1 : Int64) (h0 : Heap) (n0 : Nat) (Z0 : n0 ≤ h0.size) :
    MetFree l (⟨"java/lang/Math", "min", "(JJ)J"⟩ : MethodName) (head1 (Jvm.Cond.code (⟨"java/lang/Math", "min", "(JJ)J"⟩ : MethodName) jdk_29_method_70_code 4 (some .long) :: ws) ({ frames := 0, cells := 0, slots := 0, locals := 0 } : Room)) (fun zz UU => zz = #[(.long x1), (.long y1)] ∧ Z.Warmed39 UU.vm ∧ UU.heap = h0) (fun _ _ _ _ _ => True) (fun _ U o U' => ∃ v L, o = .returned v ∧ Q_rm7 Z x1 y1 h0 n0 v U'.heap L ∧ FrameEnd U o U' L ({ frames := 0, cells := 0, slots := 0, locals := 0 } : Room).cells ({ frames := 0, cells := 0, slots := 0, locals := 0 } : Room).slots) := by
  refine MetFree.of_bodySF (Jvm.Free.JP.mathPlain rfl (by decide +kernel)) hisR ?_
  intro p e s m args below meth c s₁ Bd hml0 hP hK
  obtain ⟨rfl, hZ, hh⟩ := hP
  have hx := Bd.exec
  have hby := Bd.bytes
  have hml : c.maxLocals = 4 := hml0
  have hown : s.vm.findClass "java/lang/Math" = some m.cls := findClass_of_methodNamed Bd.named
  have hnm := (name_of_methodNamed Bd.named Bd.method).1
  have hlk : meth.locks = false := BodyLoose.notSynchronized Bd
  have X0 : Stand p l e ({ frames := 0, cells := 0, slots := 0, locals := 0 } : Room) s m #[(.long x1), (.long y1)] below meth c s₁ [] 0 0 := Stand.of_body Bd
  have e0 : s₁.heap = h0 := by rw [← hh, Bd.state]; rfl
  have N0 := Fr.nil n0
  show own_Go p.tables e below (Q_rm7 Z x1 y1 h0 n0) s ({ frames := 0, cells := 0, slots := 0, locals := 0 } : Room).cells ({ frames := 0, cells := 0, slots := 0, locals := 0 } : Room).slots s₁ (entryFrame m #[(.long x1), (.long y1)] 4)
  rw [ef_rm7 m x1 y1]
  refine own_by (T' := s₁) (g' := (mkF m 1 #[.val (.long x1), .second, .val (.long y1), .second] [(.long x1)])) (fun _ k => XS.lloadN X0.here hx rfl (hb hby d7_0) rfl k) ?_
  refine own_by (T' := s₁) (g' := (mkF m 2 #[.val (.long x1), .second, .val (.long y1), .second] [(.long y1), (.long x1)])) (fun _ k => XS.lloadN X0.here hx rfl (hb hby d7_1) rfl k) ?_
  refine own_by (T' := s₁) (g' := (mkF m 3 #[.val (.long x1), .second, .val (.long y1), .second] [(.int (lcmpW x1 y1))])) (fun _ k => XS.lcmp X0.here hx rfl (hb hby d7_2) rfl k) ?_
  by_cases hc3_1 : y1 < x1
  · skip
    refine own_by (T' := s₁) (g' := (mkF m 10 #[.val (.long x1), .second, .val (.long y1), .second] [])) (fun _ k => XS.ifYes X0.here hx rfl (pc0 := 3) (pc' := 10) rfl (hb hby d7_3) rfl ((if0 _ _).trans (tlt ((lw_gt _ _).mpr hc3_1)).2.2.1) (by decide) (by decide) k) ?_
    refine own_by (T' := s₁) (g' := (mkF m 11 #[.val (.long x1), .second, .val (.long y1), .second] [(.long y1)])) (fun _ k => XS.lloadN X0.here hx rfl (hb hby d7_10) rfl k) ?_
    refine own_ret X0 hlk (v := some (.long y1)) (fun h => by rw [Bd.returns] at h; cases h) (fun fs hr => retOut X0 hx Bd.returns rfl (Or.inr (Or.inl ⟨rfl, rfl, _, rfl⟩)) (hb hby d7_11) hr) ?_ (by decide) (by decide)
    rw [e0]
    exact ⟨congrArg (fun z => some (Value.long z)) (if_pos hc3_1).symm, N0, rfl⟩
  · skip
    refine own_by (T' := s₁) (g' := (mkF m 6 #[.val (.long x1), .second, .val (.long y1), .second] [])) (fun _ k => XS.ifNo X0.here hx rfl (hb hby d7_3) rfl ((if0 _ _).trans (flt (fun q => absurd ((lw_gt _ _).mp q) hc3_1)).2.2.1) k) ?_
    refine own_by (T' := s₁) (g' := (mkF m 7 #[.val (.long x1), .second, .val (.long y1), .second] [(.long x1)])) (fun _ k => XS.lloadN X0.here hx rfl (hb hby d7_6) rfl k) ?_
    refine own_by (T' := s₁) (g' := (mkF m 11 #[.val (.long x1), .second, .val (.long y1), .second] [(.long x1)])) (fun _ k => XS.goto X0.here hx rfl (pc0 := 7) (pc' := 11) rfl (hb hby d7_7) (by decide) (by decide) k) ?_
    refine own_ret X0 hlk (v := some (.long x1)) (fun h => by rw [Bd.returns] at h; cases h) (fun fs hr => retOut X0 hx Bd.returns rfl (Or.inr (Or.inl ⟨rfl, rfl, _, rfl⟩)) (hb hby d7_11) hr) ?_ (by decide) (by decide)
    rw [e0]
    exact ⟨congrArg (fun z => some (Value.long z)) (if_neg hc3_1).symm, N0, rfl⟩
theorem d5_0 : decode prog_70_method_4_code 0 = .ok (.lload_n 1, 1) := by decide +kernel
theorem d5_1 : decode prog_70_method_4_code 1 = .ok (.aload_n 0, 1) := by decide +kernel
theorem d5_2 : decode prog_70_method_4_code 2 = .ok (.getfield 9, 3) := by decide +kernel
theorem d5_5 : decode prog_70_method_4_code 5 = .ok (.invokestatic 33, 3) := by decide +kernel
theorem d5_8 : decode prog_70_method_4_code 8 = .ok (.lload_n 3, 1) := by decide +kernel
theorem d5_9 : decode prog_70_method_4_code 9 = .ok (.aload_n 0, 1) := by decide +kernel
theorem d5_10 : decode prog_70_method_4_code 10 = .ok (.getfield 15, 3) := by decide +kernel
theorem d5_13 : decode prog_70_method_4_code 13 = .ok (.invokestatic 33, 3) := by decide +kernel
theorem d5_16 : decode prog_70_method_4_code 16 = .ok (.invokestatic 24, 3) := by decide +kernel
theorem d5_19 : decode prog_70_method_4_code 19 = .ok (.lreturn, 1) := by decide +kernel
theorem pn_5 : plainName "com/example/temporalis/temporalis/Window$Reach" = true := by first | (simp [plainName, overriddenIn]; done) | decide +kernel
theorem ef_rm5 (m : MethodId) (a : Addr) : entryFrame m #[(.ref a), (.long (0 : Int64)), (.long (0 : Int64))] 5 = mkF m 0 #[.val (.ref a), .val (.long (0 : Int64)), .second, .val (.long (0 : Int64)), .second] [] := by first | (simp [entryFrame, mkF, argsToLocals, Value.category]; done) | rfl
def Q_rm5 (Z : State) (a : Addr) (x1 : Int64) (y1 : Int64) (h0 : Heap) (n0 : Nat) (v : Option Value) (h : Heap) (L : List Loc) : Prop := v = some (.long (own_min x1 y1)) ∧ Fr n0 L ∧ h = h0
set_option maxRecDepth 65536 in
set_option maxHeartbeats 40000000 in
theorem rm5 (l : Launch) (Z : State) (a0 : Array Value) (hw : ∀ d ∈ tables_1, d.before a0 Z = true) (ws : List Jvm.Cond) (a : Addr) (x1 : Int64) (y1 : Int64) (h0 : Heap) (n0 : Nat) (Z0 : n0 ≤ h0.size) (F_afterStart_a : Fld Z h0 a "com/example/temporalis/temporalis/Window$Reach" "afterStart" "J" (.long x1)) (F_afterEnd_a : Fld Z h0 a "com/example/temporalis/temporalis/Window$Reach" "afterEnd" "J" (.long y1)) :
    MetFree l (⟨"com/example/temporalis/temporalis/Window$Reach", "lastStart", "(JJ)J"⟩ : MethodName) (head1 (Jvm.Cond.code (⟨"com/example/temporalis/temporalis/Window$Reach", "lastStart", "(JJ)J"⟩ : MethodName) prog_70_method_4_code 5 (some .long) :: ws) ({ frames := 1, cells := 0, slots := 0, locals := 19 } : Room)) (fun zz UU => zz = #[(.ref a), (.long (0 : Int64)), (.long (0 : Int64))] ∧ Z.Warmed39 UU.vm ∧ UU.heap = h0) (fun _ _ _ _ _ => True) (fun _ U o U' => ∃ v L, o = .returned v ∧ Q_rm5 Z a x1 y1 h0 n0 v U'.heap L ∧ FrameEnd U o U' L ({ frames := 1, cells := 0, slots := 0, locals := 19 } : Room).cells ({ frames := 1, cells := 0, slots := 0, locals := 19 } : Room).slots) := by
  refine MetFree.of_bodySF (plainFor_of_name pn_5) hisR ?_
  intro p e s m args below meth c s₁ Bd hml0 hP hK
  obtain ⟨rfl, hZ, hh⟩ := hP
  have hx := Bd.exec
  have hby := Bd.bytes
  have hml : c.maxLocals = 5 := hml0
  have hown : s.vm.findClass "com/example/temporalis/temporalis/Window$Reach" = some m.cls := findClass_of_methodNamed Bd.named
  have hnm := (name_of_methodNamed Bd.named Bd.method).1
  have hlk : meth.locks = false := BodyLoose.notSynchronized Bd
  have X0 : Stand p l e ({ frames := 1, cells := 0, slots := 0, locals := 19 } : Room) s m #[(.ref a), (.long (0 : Int64)), (.long (0 : Int64))] below meth c s₁ [] 0 0 := Stand.of_body Bd
  have e0 : s₁.heap = h0 := by rw [← hh, Bd.state]; rfl
  have N0 := Fr.nil n0
  show own_Go p.tables e below (Q_rm5 Z a x1 y1 h0 n0) s ({ frames := 1, cells := 0, slots := 0, locals := 19 } : Room).cells ({ frames := 1, cells := 0, slots := 0, locals := 19 } : Room).slots s₁ (entryFrame m #[(.ref a), (.long (0 : Int64)), (.long (0 : Int64))] 5)
  rw [ef_rm5 m a]
  refine own_by (T' := s₁) (g' := (mkF m 1 #[.val (.ref a), .val (.long (0 : Int64)), .second, .val (.long (0 : Int64)), .second] [(.long (0 : Int64))])) (fun _ k => XS.lloadN X0.here hx rfl (hb hby d5_0) rfl k) ?_
  refine own_by (T' := s₁) (g' := (mkF m 2 #[.val (.ref a), .val (.long (0 : Int64)), .second, .val (.long (0 : Int64)), .second] [(.ref a), (.long (0 : Int64))])) (fun _ k => XS.aloadN X0.here hx rfl (hb hby d5_1) rfl rfl k) ?_
  obtain ⟨T1, X1, e1, st1⟩ := getF X0 hx hZ hown (host := "") (Or.inl (hw _ (List.mem_of_getElem? (i := 14) rfl))) Via.refl e0 F_afterStart_a (g := (mkF m 2 #[.val (.ref a), .val (.long (0 : Int64)), .second, .val (.long (0 : Int64)), .second] [(.ref a), (.long (0 : Int64))])) rfl rfl (hb hby d5_2)
  refine own_by (T' := T1) (g' := (mkF m 5 #[.val (.ref a), .val (.long (0 : Int64)), .second, .val (.long (0 : Int64)), .second] [(.long x1), (.long (0 : Int64))])) (fun _ k => st1 _ k) ?_
  obtain ⟨_, _, ⟨T2, L2, k2, n2⟩, -, X2, ⟨Lc2, hQ2, l2, y2, z2⟩, st2⟩ := Jvm.LawKit.callS X1 hx (y := (⟨"com/example/temporalis/temporalis/Window$Reach", "plus", "(JJ)J"⟩ : MethodName)) hown (mvT hZ (hw _ (List.mem_of_getElem? (i := 29) rfl))) (mvT hZ (hw _ (List.mem_of_getElem? (i := 30) rfl))) (mvT hZ (hw _ (List.mem_of_getElem? (i := 2) rfl))) (mvT hZ (hw _ (List.mem_of_getElem? (i := 31) rfl))) (by decide) (backOf (W := 0) (rm6 l Z a0 hw [] x1  h0 n0 Z0 ) hZ (hw _ (List.mem_of_getElem? (i := 31) rfl)) (hw _ (List.mem_of_getElem? (i := 2) rfl)) (by decide) (by decide)) (g := (mkF m 5 #[.val (.ref a), .val (.long (0 : Int64)), .second, .val (.long (0 : Int64)), .second] [(.long x1), (.long (0 : Int64))])) rfl (by rw [hml]; rfl) (argsL := [(.long (0 : Int64)), (.long x1)]) (rest := []) (lenOf pd_1 rfl) rfl (by show 2 * 0 + _ ≤ _; exact Nat.le_of_eq rfl) (hb hby d5_5) (fun _ _ => ⟨rfl, e1, (by decide : 0 + 0 ≤ _), (by decide : 0 + 0 ≤ _)⟩)
  dsimp only [Pt.U, Pt.locs, Pt.cells, Pt.slots] at X2 l2 y2 z2 st2 hQ2
  subst l2 y2 z2
  obtain ⟨rfl, N2q, e2⟩ := hQ2
  have N2 := Fr.app N0 N2q
  refine own_by (T' := T2) (g' := (mkF m 8 #[.val (.ref a), .val (.long (0 : Int64)), .second, .val (.long (0 : Int64)), .second] [(.long x1)])) (fun _ k => st2 _ k) ?_
  refine own_by (T' := T2) (g' := (mkF m 9 #[.val (.ref a), .val (.long (0 : Int64)), .second, .val (.long (0 : Int64)), .second] [(.long (0 : Int64)), (.long x1)])) (fun _ k => XS.lloadN X2.here hx rfl (hb hby d5_8) rfl k) ?_
  refine own_by (T' := T2) (g' := (mkF m 10 #[.val (.ref a), .val (.long (0 : Int64)), .second, .val (.long (0 : Int64)), .second] [(.ref a), (.long (0 : Int64)), (.long x1)])) (fun _ k => XS.aloadN X2.here hx rfl (hb hby d5_9) rfl rfl k) ?_
  obtain ⟨T3, X3, e3, st3⟩ := getF X2 hx hZ hown (host := "") (Or.inl (hw _ (List.mem_of_getElem? (i := 16) rfl))) Via.refl e2 F_afterEnd_a (g := (mkF m 10 #[.val (.ref a), .val (.long (0 : Int64)), .second, .val (.long (0 : Int64)), .second] [(.ref a), (.long (0 : Int64)), (.long x1)])) rfl rfl (hb hby d5_10)
  refine own_by (T' := T3) (g' := (mkF m 13 #[.val (.ref a), .val (.long (0 : Int64)), .second, .val (.long (0 : Int64)), .second] [(.long y1), (.long (0 : Int64)), (.long x1)])) (fun _ k => st3 _ k) ?_
  obtain ⟨_, _, ⟨T4, L4, k4, n4⟩, -, X4, ⟨Lc4, hQ4, l4, y4, z4⟩, st4⟩ := Jvm.LawKit.callS X3 hx (y := (⟨"com/example/temporalis/temporalis/Window$Reach", "plus", "(JJ)J"⟩ : MethodName)) hown (mvT hZ (hw _ (List.mem_of_getElem? (i := 29) rfl))) (mvT hZ (hw _ (List.mem_of_getElem? (i := 30) rfl))) (mvT hZ (hw _ (List.mem_of_getElem? (i := 2) rfl))) (mvT hZ (hw _ (List.mem_of_getElem? (i := 31) rfl))) (by decide) (backOf (W := 2) (rm6 l Z a0 hw [] y1  h0 n0 Z0 ) hZ (hw _ (List.mem_of_getElem? (i := 31) rfl)) (hw _ (List.mem_of_getElem? (i := 2) rfl)) (by decide) (by decide)) (g := (mkF m 13 #[.val (.ref a), .val (.long (0 : Int64)), .second, .val (.long (0 : Int64)), .second] [(.long y1), (.long (0 : Int64)), (.long x1)])) rfl (by rw [hml]; rfl) (argsL := [(.long (0 : Int64)), (.long y1)]) (rest := [(.long x1)]) (lenOf pd_1 rfl) rfl (by show 2 * 0 + _ ≤ _; exact Nat.le_of_eq rfl) (hb hby d5_13) (fun _ _ => ⟨rfl, e3, (by decide : (0 + 0) + 0 ≤ _), (by decide : (0 + 0) + 0 ≤ _)⟩)
  dsimp only [Pt.U, Pt.locs, Pt.cells, Pt.slots] at X4 l4 y4 z4 st4 hQ4
  subst l4 y4 z4
  obtain ⟨rfl, N4q, e4⟩ := hQ4
  have N4 := Fr.app N2 N4q
  refine own_by (T' := T4) (g' := (mkF m 16 #[.val (.ref a), .val (.long (0 : Int64)), .second, .val (.long (0 : Int64)), .second] [(.long y1), (.long x1)])) (fun _ k => st4 _ k) ?_
  obtain ⟨_, _, ⟨T5, L5, k5, n5⟩, -, X5, ⟨Lc5, hQ5, l5, y5, z5⟩, st5⟩ := Jvm.LawKit.callS X4 hx (y := (⟨"java/lang/Math", "min", "(JJ)J"⟩ : MethodName)) hown (mvT hZ (hw _ (List.mem_of_getElem? (i := 32) rfl))) (mvT hZ (hw _ (List.mem_of_getElem? (i := 33) rfl))) (mvT hZ (hw _ (List.mem_of_getElem? (i := 34) rfl))) (mvT hZ (hw _ (List.mem_of_getElem? (i := 35) rfl))) (by decide) (backOf (W := 0) (rm7 l Z a0 hw [] x1 y1  h0 n0 Z0 ) hZ (hw _ (List.mem_of_getElem? (i := 35) rfl)) (hw _ (List.mem_of_getElem? (i := 34) rfl)) (by decide) (by decide)) (g := (mkF m 16 #[.val (.ref a), .val (.long (0 : Int64)), .second, .val (.long (0 : Int64)), .second] [(.long y1), (.long x1)])) rfl (by rw [hml]; rfl) (argsL := [(.long x1), (.long y1)]) (rest := []) (lenOf pd_1 rfl) rfl (by show 2 * 0 + _ ≤ _; exact Nat.le_of_eq rfl) (hb hby d5_16) (fun _ _ => ⟨rfl, e4, (by decide : ((0 + 0) + 0) + 0 ≤ _), (by decide : ((0 + 0) + 0) + 0 ≤ _)⟩)
  dsimp only [Pt.U, Pt.locs, Pt.cells, Pt.slots] at X5 l5 y5 z5 st5 hQ5
  subst l5 y5 z5
  obtain ⟨rfl, N5q, e5⟩ := hQ5
  have N5 := Fr.app N4 N5q
  refine own_by (T' := T5) (g' := (mkF m 19 #[.val (.ref a), .val (.long (0 : Int64)), .second, .val (.long (0 : Int64)), .second] [(.long (own_min x1 y1))])) (fun _ k => st5 _ k) ?_
  refine own_ret X5 hlk (v := some (.long (own_min x1 y1))) (fun h => by rw [Bd.returns] at h; cases h) (fun fs hr => retOut X5 hx Bd.returns rfl (Or.inr (Or.inl ⟨rfl, rfl, _, rfl⟩)) (hb hby d5_19) hr) ?_ (by decide) (by decide)
  rw [e5]
  exact ⟨rfl, N5, rfl⟩
theorem pn_0 : plainName "com/example/temporalis/temporalis/ReachIsLimitedPinLaw" = true := by first | (simp [plainName, overriddenIn]; done) | decide +kernel
theorem ef_rm0 (m : MethodId) (qa : Int64) (qb : Int64) (fl : Int32) : entryFrame m #[(.long qa), (.long qb), (.int fl)] maxLocals = mkF m 0 #[.val (.long qa), .second, .val (.long qb), .second, .val (.int fl), .unset, .unset, .unset, .unset, .unset, .unset, .unset, .unset, .unset] [] := by first | (simp [entryFrame, mkF, argsToLocals, Value.category, maxLocals]; done) | rfl
def Q_rm0 (Z : State) (qa : Int64) (qb : Int64) (fl : Int32) (h0 : Heap) (n0 : Nat) (v : Option Value) (h : Heap) (L : List Loc) : Prop := v = some (.int 1) ∧ Fr n0 L
set_option maxRecDepth 65536 in
set_option maxHeartbeats 40000000 in
theorem rm0 (l : Launch) (Z : State) (a0 : Array Value) (hw : ∀ d ∈ tables_1, d.before a0 Z = true) (ws : List Jvm.Cond) (qa : Int64) (qb : Int64) (fl : Int32) (h0 : Heap) (n0 : Nat) (Z0 : n0 ≤ h0.size) :
    MetFree l x (head1 (Jvm.Cond.code x code maxLocals ret :: ws) room_1) (fun zz UU => zz = #[(.long qa), (.long qb), (.int fl)] ∧ Z.Warmed39 UU.vm ∧ UU.heap = h0) (fun _ _ _ _ _ => True) (fun _ U o U' => ∃ v L, o = .returned v ∧ Q_rm0 Z qa qb fl h0 n0 v U'.heap L ∧ FrameEnd U o U' L 16 128) := by
  refine MetFree.of_bodySF (plainFor_of_name pn_0) hisR ?_
  intro p e s m args below meth c s₁ Bd hml0 hP hK
  obtain ⟨rfl, hZ, hh⟩ := hP
  have hx := Bd.exec
  have hby := Bd.bytes
  have hml : c.maxLocals = 14 := hml0
  have hown : s.vm.findClass "com/example/temporalis/temporalis/ReachIsLimitedPinLaw" = some m.cls := findClass_of_methodNamed Bd.named
  have hnm := (name_of_methodNamed Bd.named Bd.method).1
  have hlk : meth.locks = false := BodyLoose.notSynchronized Bd
  have X0 : Stand p l e room_1 s m #[(.long qa), (.long qb), (.int fl)] below meth c s₁ [] 0 0 := Stand.of_body Bd
  have e0 : s₁.heap = h0 := by rw [← hh, Bd.state]; rfl
  have N0 := Fr.nil n0
  show own_Go p.tables e below (Q_rm0 Z qa qb fl h0 n0) s 16 128 s₁ (entryFrame m #[(.long qa), (.long qb), (.int fl)] maxLocals)
  rw [ef_rm0 m qa qb fl]
  refine own_by (T' := s₁) (g' := (mkF m 2 #[.val (.long qa), .second, .val (.long qb), .second, .val (.int fl), .unset, .unset, .unset, .unset, .unset, .unset, .unset, .unset, .unset] [(.int fl)])) (fun _ k => XS.iload X0.here hx rfl (hb hby at_0) rfl k) ?_
  refine own_by (T' := s₁) (g' := (mkF m 3 #[.val (.long qa), .second, .val (.long qb), .second, .val (.int fl), .unset, .unset, .unset, .unset, .unset, .unset, .unset, .unset, .unset] [(.int (1 : Int32)), (.int fl)])) (fun _ k => XS.iconst X0.here hx rfl (hb hby at_2) k) ?_
  refine own_by (T' := s₁) (g' := (mkF m 4 #[.val (.long qa), .second, .val (.long qb), .second, .val (.int fl), .unset, .unset, .unset, .unset, .unset, .unset, .unset, .unset, .unset] [(.int (fl &&& (1 : Int32)))])) (fun _ k => XS.iand X0.here hx rfl (hb hby at_3) rfl k) ?_
  have J2 : ∀ (j1 : Int64) (hv_j1 : j1 = (if (fl &&& (1 : Int32)) = (0 : Int32) then qa else (9223372036854775807 : Int64))) (T3 : State) (_ : Stand p l e room_1 s m #[(.long qa), (.long qb), (.int fl)] below meth c T3 [] 0 0) (_ : T3.heap = h0), own_Go p.tables e below (Q_rm0 Z qa qb fl h0 n0) s 16 128 T3 (mkF m 14 #[.val (.long qa), .second, .val (.long qb), .second, .val (.int fl), .unset, .unset, .unset, .unset, .unset, .unset, .unset, .unset, .unset] [(.long j1)]) := by
    intro j1 hv_j1 T3 X3 e3
    refine own_by (T' := T3) (g' := (mkF m 16 #[.val (.long qa), .second, .val (.long qb), .second, .val (.int fl), .val (.long j1), .second, .unset, .unset, .unset, .unset, .unset, .unset, .unset] [])) (fun _ k => XS.lstore X3.here hx rfl (hb hby at_14) rfl (l' := #[.val (.long qa), .second, .val (.long qb), .second, .val (.int fl), .val (.long j1), .second, .unset, .unset, .unset, .unset, .unset, .unset, .unset]) rfl k) ?_
    refine own_by (T' := T3) (g' := (mkF m 18 #[.val (.long qa), .second, .val (.long qb), .second, .val (.int fl), .val (.long j1), .second, .unset, .unset, .unset, .unset, .unset, .unset, .unset] [(.int fl)])) (fun _ k => XS.iload X3.here hx rfl (hb hby at_16) rfl k) ?_
    refine own_by (T' := T3) (g' := (mkF m 19 #[.val (.long qa), .second, .val (.long qb), .second, .val (.int fl), .val (.long j1), .second, .unset, .unset, .unset, .unset, .unset, .unset, .unset] [(.int (2 : Int32)), (.int fl)])) (fun _ k => XS.iconst X3.here hx rfl (hb hby at_18) k) ?_
    refine own_by (T' := T3) (g' := (mkF m 20 #[.val (.long qa), .second, .val (.long qb), .second, .val (.int fl), .val (.long j1), .second, .unset, .unset, .unset, .unset, .unset, .unset, .unset] [(.int (fl &&& (2 : Int32)))])) (fun _ k => XS.iand X3.here hx rfl (hb hby at_19) rfl k) ?_
    have J5 : ∀ (j4 : Int64) (hv_j4 : j4 = (if (fl &&& (2 : Int32)) = (0 : Int32) then qb else (9223372036854775807 : Int64))) (T6 : State) (_ : Stand p l e room_1 s m #[(.long qa), (.long qb), (.int fl)] below meth c T6 [] 0 0) (_ : T6.heap = h0), own_Go p.tables e below (Q_rm0 Z qa qb fl h0 n0) s 16 128 T6 (mkF m 30 #[.val (.long qa), .second, .val (.long qb), .second, .val (.int fl), .val (.long j1), .second, .unset, .unset, .unset, .unset, .unset, .unset, .unset] [(.long j4)]) := by
      intro j4 hv_j4 T6 X6 e6
      refine own_by (T' := T6) (g' := (mkF m 32 #[.val (.long qa), .second, .val (.long qb), .second, .val (.int fl), .val (.long j1), .second, .val (.long j4), .second, .unset, .unset, .unset, .unset, .unset] [])) (fun _ k => XS.lstore X6.here hx rfl (hb hby at_30) rfl (l' := #[.val (.long qa), .second, .val (.long qb), .second, .val (.int fl), .val (.long j1), .second, .val (.long j4), .second, .unset, .unset, .unset, .unset, .unset]) rfl k) ?_
      obtain ⟨T7, h7, X7, e7, E7, A7, D7, -, st7⟩ := newO X6 hx hZ hown (hw _ (List.mem_of_getElem? (i := 0) rfl)) (hw _ (List.mem_of_getElem? (i := 1) rfl)) (hw _ (List.mem_of_getElem? (i := 2) rfl)) e6 (g := (mkF m 32 #[.val (.long qa), .second, .val (.long qb), .second, .val (.int fl), .val (.long j1), .second, .val (.long j4), .second, .unset, .unset, .unset, .unset, .unset] [])) rfl (hb hby at_32) (by decide) (by decide)
      obtain ⟨b7, g7⟩ : ∃ z, z = h0.size := ⟨_, rfl⟩
      rw [← g7] at A7 D7 st7
      have E_b7 : Exa Z h7 b7 "com/example/temporalis/temporalis/Window$Reach" := A7
      have F_afterStart_b7 : Fld Z h7 b7 "com/example/temporalis/temporalis/Window$Reach" "afterStart" "J" (.long (0 : Int64)) := D7 (Or.inr (hw _ (List.mem_of_getElem? (i := 15) rfl))) (ty := .long) (by decide)
      have F_afterEnd_b7 : Fld Z h7 b7 "com/example/temporalis/temporalis/Window$Reach" "afterEnd" "J" (.long (0 : Int64)) := D7 (Or.inr (hw _ (List.mem_of_getElem? (i := 17) rfl))) (ty := .long) (by decide)
      have g_b7 : n0 ≤ b7 := Nat.le_trans Z0 (Nat.le_of_eq g7.symm)
      have sz_b7 : h0.size ≤ b7 := Nat.le_trans (Keep.refl h0 []).1 (Nat.le_of_eq g7.symm)
      have K7 : Keep h0 h7 [] := Keep.ext (Keep.refl h0 []) E7
      refine own_by (T' := T7) (g' := (mkF m 35 #[.val (.long qa), .second, .val (.long qb), .second, .val (.int fl), .val (.long j1), .second, .val (.long j4), .second, .unset, .unset, .unset, .unset, .unset] [(.ref b7)])) (fun _ k => st7 _ k) ?_
      refine own_by (T' := T7) (g' := (mkF m 36 #[.val (.long qa), .second, .val (.long qb), .second, .val (.int fl), .val (.long j1), .second, .val (.long j4), .second, .unset, .unset, .unset, .unset, .unset] [(.ref b7), (.ref b7)])) (fun _ k => XS.dup X7.here hx rfl (hb hby at_35) rfl rfl k) ?_
      refine own_by (T' := T7) (g' := (mkF m 38 #[.val (.long qa), .second, .val (.long qb), .second, .val (.int fl), .val (.long j1), .second, .val (.long j4), .second, .unset, .unset, .unset, .unset, .unset] [(.long j1), (.ref b7), (.ref b7)])) (fun _ k => XS.lload X7.here hx rfl (hb hby at_36) rfl k) ?_
      refine own_by (T' := T7) (g' := (mkF m 40 #[.val (.long qa), .second, .val (.long qb), .second, .val (.int fl), .val (.long j1), .second, .val (.long j4), .second, .unset, .unset, .unset, .unset, .unset] [(.long j4), (.long j1), (.ref b7), (.ref b7)])) (fun _ k => XS.lload X7.here hx rfl (hb hby at_38) rfl k) ?_
      obtain ⟨_, _, ⟨T8, L8, k8, n8⟩, -, X8, ⟨Lc8, hQ8, l8, y8, z8⟩, st8⟩ := X7.specialBack hx (y := (⟨"com/example/temporalis/temporalis/Window$Reach", "<init>", "(JJ)V"⟩ : MethodName)) rfl hown (mvT hZ (hw _ (List.mem_of_getElem? (i := 3) rfl))) (mvT hZ (hw _ (List.mem_of_getElem? (i := 4) rfl))) (mvT hZ (hw _ (List.mem_of_getElem? (i := 5) rfl))) (by decide) (backOf (W := 1) (rm1 l Z a0 hw [] b7 j1 j4  h7 n0 (Nat.le_trans Z0 E7.1) E_b7 F_afterStart_b7 F_afterEnd_b7 g_b7) hZ (hw _ (List.mem_of_getElem? (i := 5) rfl)) (hw _ (List.mem_of_getElem? (i := 2) rfl)) (by decide) (by decide)) (g := (mkF m 40 #[.val (.long qa), .second, .val (.long qb), .second, .val (.int fl), .val (.long j1), .second, .val (.long j4), .second, .unset, .unset, .unset, .unset, .unset] [(.long j4), (.long j1), (.ref b7), (.ref b7)])) rfl (by rw [hml]; rfl) (Steps.refl _) (a := b7) (argsL := [(.long j1), (.long j4)]) (rest := [(.ref b7)]) (lenOf pd_2 rfl) rfl (by show 2 * 0 + _ ≤ _; exact Nat.le_of_eq rfl) (hb hby at_40) (fun _ _ => ⟨rfl, e7, (by decide : (0 + 1) + 0 ≤ _), (by decide : (0 + 2) + 0 ≤ _)⟩)
      dsimp only [Pt.U, Pt.locs, Pt.cells, Pt.slots] at X8 l8 y8 z8 st8 hQ8
      subst l8 y8 z8
      obtain ⟨rfl, N8q, K8, Fa8, Fb8⟩ := hQ8
      have N8 := Fr.app N0 N8q
      have KK8 : Keep h0 T8.heap [] := Keep.trans K7 K8 (allS (Or.inr sz_b7) all0)
      refine own_by (T' := T8) (g' := (mkF m 43 #[.val (.long qa), .second, .val (.long qb), .second, .val (.int fl), .val (.long j1), .second, .val (.long j4), .second, .unset, .unset, .unset, .unset, .unset] [(.ref b7)])) (fun _ k => st8.trans k) ?_
      refine own_by (T' := T8) (g' := (mkF m 45 #[.val (.long qa), .second, .val (.long qb), .second, .val (.int fl), .val (.long j1), .second, .val (.long j4), .second, .val (.ref b7), .unset, .unset, .unset, .unset] [])) (fun _ k => XS.astore X8.here hx rfl (hb hby at_43) rfl rfl (l' := #[.val (.long qa), .second, .val (.long qb), .second, .val (.int fl), .val (.long j1), .second, .val (.long j4), .second, .val (.ref b7), .unset, .unset, .unset, .unset]) rfl k) ?_
      refine own_by (T' := T8) (g' := (mkF m 47 #[.val (.long qa), .second, .val (.long qb), .second, .val (.int fl), .val (.long j1), .second, .val (.long j4), .second, .val (.ref b7), .unset, .unset, .unset, .unset] [(.ref b7)])) (fun _ k => XS.aload X8.here hx rfl (hb hby at_45) rfl rfl k) ?_
      obtain ⟨cq9, kq9, q9a, q9b, q9c⟩ := isOf hZ rfl (Exa.keep E_b7 K8)
      obtain ⟨_, _, ⟨T9, L9, k9, n9⟩, -, X9, ⟨Lc9, hQ9, l9, y9, z9⟩, st9⟩ := X8.virtualBack hx (y := (⟨"com/example/temporalis/temporalis/Window$Reach", "isLimited", "()Z"⟩ : MethodName)) (z := (⟨"com/example/temporalis/temporalis/Window$Reach", "isLimited", "()Z"⟩ : MethodName)) hown (mvT hZ (hw _ (List.mem_of_getElem? (i := 18) rfl))) (mvT hZ (hw _ (List.mem_of_getElem? (i := 19) rfl))) (notFace_of_selects (args := #[]) (mvT hZ (hw _ (List.mem_of_getElem? (i := 21) rfl)))) (mvT hZ (hw _ (List.mem_of_getElem? (i := 21) rfl))) (mvT hZ (hw _ (List.mem_of_getElem? (i := 20) rfl))) (by decide) (backOf (W := 0) (rm4 l Z a0 hw [] b7 j1 j4 T8.heap n0 (Nat.le_trans (Nat.le_trans Z0 E7.1) K8.1) Fa8 Fb8) hZ (hw _ (List.mem_of_getElem? (i := 22) rfl)) (hw _ (List.mem_of_getElem? (i := 2) rfl)) (by decide) (by decide)) q9a q9c (g := (mkF m 47 #[.val (.long qa), .second, .val (.long qb), .second, .val (.int fl), .val (.long j1), .second, .val (.long j4), .second, .val (.ref b7), .unset, .unset, .unset, .unset] [(.ref b7)])) rfl (by rw [hml]; rfl) (Steps.refl _) (argsL := []) (rest := []) (lenOf pd_3 rfl) rfl (by show 2 * 0 + _ ≤ _; exact Nat.le_of_eq rfl) (hb hby at_47) (fun _ _ => ⟨rfl, rfl, (by decide : ((0 + 1) + 0) + 0 ≤ _), (by decide : ((0 + 2) + 0) + 0 ≤ _)⟩)
      dsimp only [Pt.U, Pt.locs, Pt.cells, Pt.slots] at X9 l9 y9 z9 st9 hQ9
      subst l9 y9 z9
      obtain ⟨rfl, N9q, e9⟩ := hQ9
      have N9 := Fr.app N8 N9q
      refine own_by (T' := T9) (g' := (mkF m 50 #[.val (.long qa), .second, .val (.long qb), .second, .val (.int fl), .val (.long j1), .second, .val (.long j4), .second, .val (.ref b7), .unset, .unset, .unset, .unset] [(.int (own_lim j1 j4))])) (fun _ k => st9.trans k) ?_
      refine own_by (T' := T9) (g' := (mkF m 52 #[.val (.long qa), .second, .val (.long qb), .second, .val (.int fl), .val (.long j1), .second, .val (.long j4), .second, .val (.ref b7), .val (.int (own_lim j1 j4)), .unset, .unset, .unset] [])) (fun _ k => XS.istore X9.here hx rfl (hb hby at_50) rfl (l' := #[.val (.long qa), .second, .val (.long qb), .second, .val (.int fl), .val (.long j1), .second, .val (.long j4), .second, .val (.ref b7), .val (.int (own_lim j1 j4)), .unset, .unset, .unset]) rfl k) ?_
      refine own_by (T' := T9) (g' := (mkF m 54 #[.val (.long qa), .second, .val (.long qb), .second, .val (.int fl), .val (.long j1), .second, .val (.long j4), .second, .val (.ref b7), .val (.int (own_lim j1 j4)), .unset, .unset, .unset] [(.ref b7)])) (fun _ k => XS.aload X9.here hx rfl (hb hby at_52) rfl rfl k) ?_
      refine own_by (T' := T9) (g' := (mkF m 55 #[.val (.long qa), .second, .val (.long qb), .second, .val (.int fl), .val (.long j1), .second, .val (.long j4), .second, .val (.ref b7), .val (.int (own_lim j1 j4)), .unset, .unset, .unset] [(.long (0 : Int64)), (.ref b7)])) (fun _ k => XS.lconst X9.here hx rfl (hb hby at_54) k) ?_
      refine own_by (T' := T9) (g' := (mkF m 56 #[.val (.long qa), .second, .val (.long qb), .second, .val (.int fl), .val (.long j1), .second, .val (.long j4), .second, .val (.ref b7), .val (.int (own_lim j1 j4)), .unset, .unset, .unset] [(.long (0 : Int64)), (.long (0 : Int64)), (.ref b7)])) (fun _ k => XS.lconst X9.here hx rfl (hb hby at_55) k) ?_
      obtain ⟨cq10, kq10, q10a, q10b, q10c⟩ := isOf hZ e9 (Exa.keep E_b7 K8)
      obtain ⟨_, _, ⟨T10, L10, k10, n10⟩, -, X10, ⟨Lc10, hQ10, l10, y10, z10⟩, st10⟩ := X9.virtualBack hx (y := (⟨"com/example/temporalis/temporalis/Window$Reach", "lastStart", "(JJ)J"⟩ : MethodName)) (z := (⟨"com/example/temporalis/temporalis/Window$Reach", "lastStart", "(JJ)J"⟩ : MethodName)) hown (mvT hZ (hw _ (List.mem_of_getElem? (i := 24) rfl))) (mvT hZ (hw _ (List.mem_of_getElem? (i := 25) rfl))) (notFace_of_selects (args := #[]) (mvT hZ (hw _ (List.mem_of_getElem? (i := 27) rfl)))) (mvT hZ (hw _ (List.mem_of_getElem? (i := 27) rfl))) (mvT hZ (hw _ (List.mem_of_getElem? (i := 26) rfl))) (by decide) (backOf (W := 0) (rm5 l Z a0 hw [] b7 j1 j4 T8.heap n0 (Nat.le_trans (Nat.le_trans Z0 E7.1) K8.1) Fa8 Fb8) hZ (hw _ (List.mem_of_getElem? (i := 28) rfl)) (hw _ (List.mem_of_getElem? (i := 2) rfl)) (by decide) (by decide)) q10a q10c (g := (mkF m 56 #[.val (.long qa), .second, .val (.long qb), .second, .val (.int fl), .val (.long j1), .second, .val (.long j4), .second, .val (.ref b7), .val (.int (own_lim j1 j4)), .unset, .unset, .unset] [(.long (0 : Int64)), (.long (0 : Int64)), (.ref b7)])) rfl (by rw [hml]; rfl) (Steps.refl _) (argsL := [(.long (0 : Int64)), (.long (0 : Int64))]) (rest := []) (lenOf pd_1 rfl) rfl (by show 2 * 0 + _ ≤ _; exact Nat.le_of_eq rfl) (hb hby at_56) (fun _ _ => ⟨rfl, e9, (by decide : (((0 + 1) + 0) + 0) + 0 ≤ _), (by decide : (((0 + 2) + 0) + 0) + 0 ≤ _)⟩)
      dsimp only [Pt.U, Pt.locs, Pt.cells, Pt.slots] at X10 l10 y10 z10 st10 hQ10
      subst l10 y10 z10
      obtain ⟨rfl, N10q, e10⟩ := hQ10
      have N10 := Fr.app N9 N10q
      refine own_by (T' := T10) (g' := (mkF m 59 #[.val (.long qa), .second, .val (.long qb), .second, .val (.int fl), .val (.long j1), .second, .val (.long j4), .second, .val (.ref b7), .val (.int (own_lim j1 j4)), .unset, .unset, .unset] [(.long (own_min j1 j4))])) (fun _ k => st10.trans k) ?_
      refine own_by (T' := T10) (g' := (mkF m 61 #[.val (.long qa), .second, .val (.long qb), .second, .val (.int fl), .val (.long j1), .second, .val (.long j4), .second, .val (.ref b7), .val (.int (own_lim j1 j4)), .val (.long (own_min j1 j4)), .second, .unset] [])) (fun _ k => XS.lstore X10.here hx rfl (hb hby at_59) rfl (l' := #[.val (.long qa), .second, .val (.long qb), .second, .val (.int fl), .val (.long j1), .second, .val (.long j4), .second, .val (.ref b7), .val (.int (own_lim j1 j4)), .val (.long (own_min j1 j4)), .second, .unset]) rfl k) ?_
      refine own_by (T' := T10) (g' := (mkF m 63 #[.val (.long qa), .second, .val (.long qb), .second, .val (.int fl), .val (.long j1), .second, .val (.long j4), .second, .val (.ref b7), .val (.int (own_lim j1 j4)), .val (.long (own_min j1 j4)), .second, .unset] [(.long j1)])) (fun _ k => XS.lload X10.here hx rfl (hb hby at_61) rfl k) ?_
      refine own_by (T' := T10) (g' := (mkF m 66 #[.val (.long qa), .second, .val (.long qb), .second, .val (.int fl), .val (.long j1), .second, .val (.long j4), .second, .val (.ref b7), .val (.int (own_lim j1 j4)), .val (.long (own_min j1 j4)), .second, .unset] [(.long (9223372036854775807 : Int64)), (.long j1)])) (fun _ k => ldc2J X10 hx hown (mvT hZ (hw _ (List.mem_of_getElem? (i := 36) rfl))) rfl (hb hby at_63) k) ?_
      refine own_by (T' := T10) (g' := (mkF m 67 #[.val (.long qa), .second, .val (.long qb), .second, .val (.int fl), .val (.long j1), .second, .val (.long j4), .second, .val (.ref b7), .val (.int (own_lim j1 j4)), .val (.long (own_min j1 j4)), .second, .unset] [(.int (lcmpW j1 (9223372036854775807 : Int64)))])) (fun _ k => XS.lcmp X10.here hx rfl (hb hby at_66) rfl k) ?_
      have J12 : ∀ (j11 : Int32) (hv_j11 : j11 = (if j1 = (9223372036854775807 : Int64) then (if j4 = (9223372036854775807 : Int64) then (0 : Int32) else (1 : Int32)) else (1 : Int32))) (T13 : State) (_ : Stand p l e room_1 s m #[(.long qa), (.long qb), (.int fl)] below meth c T13 ((L8 ++ Lc9) ++ Lc10) ((((0 + 1) + 0) + 0) + 0) ((((0 + 2) + 0) + 0) + 0)) (_ : T13.heap = T8.heap), own_Go p.tables e below (Q_rm0 Z qa qb fl h0 n0) s 16 128 T13 (mkF m 84 #[.val (.long qa), .second, .val (.long qb), .second, .val (.int fl), .val (.long j1), .second, .val (.long j4), .second, .val (.ref b7), .val (.int (own_lim j1 j4)), .val (.long (own_min j1 j4)), .second, .unset] [(.int j11)]) := by
        intro j11 hv_j11 T13 X13 e13
        refine own_by (T' := T13) (g' := (mkF m 86 #[.val (.long qa), .second, .val (.long qb), .second, .val (.int fl), .val (.long j1), .second, .val (.long j4), .second, .val (.ref b7), .val (.int (own_lim j1 j4)), .val (.long (own_min j1 j4)), .second, .val (.int j11)] [])) (fun _ k => XS.istore X13.here hx rfl (hb hby at_84) rfl (l' := #[.val (.long qa), .second, .val (.long qb), .second, .val (.int fl), .val (.long j1), .second, .val (.long j4), .second, .val (.ref b7), .val (.int (own_lim j1 j4)), .val (.long (own_min j1 j4)), .second, .val (.int j11)]) rfl k) ?_
        refine own_by (T' := T13) (g' := (mkF m 88 #[.val (.long qa), .second, .val (.long qb), .second, .val (.int fl), .val (.long j1), .second, .val (.long j4), .second, .val (.ref b7), .val (.int (own_lim j1 j4)), .val (.long (own_min j1 j4)), .second, .val (.int j11)] [(.int (own_lim j1 j4))])) (fun _ k => XS.iload X13.here hx rfl (hb hby at_86) rfl k) ?_
        refine own_by (T' := T13) (g' := (mkF m 90 #[.val (.long qa), .second, .val (.long qb), .second, .val (.int fl), .val (.long j1), .second, .val (.long j4), .second, .val (.ref b7), .val (.int (own_lim j1 j4)), .val (.long (own_min j1 j4)), .second, .val (.int j11)] [(.int j11), (.int (own_lim j1 j4))])) (fun _ k => XS.iload X13.here hx rfl (hb hby at_88) rfl k) ?_
        refine own_by (T' := T13) (g' := (mkF m 93 #[.val (.long qa), .second, .val (.long qb), .second, .val (.int fl), .val (.long j1), .second, .val (.long j4), .second, .val (.ref b7), .val (.int (own_lim j1 j4)), .val (.long (own_min j1 j4)), .second, .val (.int j11)] [])) (fun _ k => XS.icmpNo X13.here hx rfl (hb hby at_90) rfl (teq hv_j11.symm).2 k) ?_
        refine own_by (T' := T13) (g' := (mkF m 95 #[.val (.long qa), .second, .val (.long qb), .second, .val (.int fl), .val (.long j1), .second, .val (.long j4), .second, .val (.ref b7), .val (.int (own_lim j1 j4)), .val (.long (own_min j1 j4)), .second, .val (.int j11)] [(.int (own_lim j1 j4))])) (fun _ k => XS.iload X13.here hx rfl (hb hby at_93) rfl k) ?_
        refine own_by (T' := T13) (g' := (mkF m 97 #[.val (.long qa), .second, .val (.long qb), .second, .val (.int fl), .val (.long j1), .second, .val (.long j4), .second, .val (.ref b7), .val (.int (own_lim j1 j4)), .val (.long (own_min j1 j4)), .second, .val (.int j11)] [(.long (own_min j1 j4)), (.int (own_lim j1 j4))])) (fun _ k => XS.lload X13.here hx rfl (hb hby at_95) rfl k) ?_
        refine own_by (T' := T13) (g' := (mkF m 100 #[.val (.long qa), .second, .val (.long qb), .second, .val (.int fl), .val (.long j1), .second, .val (.long j4), .second, .val (.ref b7), .val (.int (own_lim j1 j4)), .val (.long (own_min j1 j4)), .second, .val (.int j11)] [(.long (9223372036854775807 : Int64)), (.long (own_min j1 j4)), (.int (own_lim j1 j4))])) (fun _ k => ldc2J X13 hx hown (mvT hZ (hw _ (List.mem_of_getElem? (i := 36) rfl))) rfl (hb hby at_97) k) ?_
        refine own_by (T' := T13) (g' := (mkF m 101 #[.val (.long qa), .second, .val (.long qb), .second, .val (.int fl), .val (.long j1), .second, .val (.long j4), .second, .val (.ref b7), .val (.int (own_lim j1 j4)), .val (.long (own_min j1 j4)), .second, .val (.int j11)] [(.int (lcmpW (own_min j1 j4) (9223372036854775807 : Int64))), (.int (own_lim j1 j4))])) (fun _ k => XS.lcmp X13.here hx rfl (hb hby at_100) rfl k) ?_
        have J15 : ∀ (j14 : Int32) (hv_j14 : j14 = (if (own_min j1 j4) = (9223372036854775807 : Int64) then (0 : Int32) else (1 : Int32))) (T16 : State) (_ : Stand p l e room_1 s m #[(.long qa), (.long qb), (.int fl)] below meth c T16 ((L8 ++ Lc9) ++ Lc10) ((((0 + 1) + 0) + 0) + 0) ((((0 + 2) + 0) + 0) + 0)) (_ : T16.heap = T8.heap), own_Go p.tables e below (Q_rm0 Z qa qb fl h0 n0) s 16 128 T16 (mkF m 109 #[.val (.long qa), .second, .val (.long qb), .second, .val (.int fl), .val (.long j1), .second, .val (.long j4), .second, .val (.ref b7), .val (.int (own_lim j1 j4)), .val (.long (own_min j1 j4)), .second, .val (.int j11)] [(.int j14), (.int (own_lim j1 j4))]) := by
          intro j14 hv_j14 T16 X16 e16
          refine own_by (T' := T16) (g' := (mkF m 112 #[.val (.long qa), .second, .val (.long qb), .second, .val (.int fl), .val (.long j1), .second, .val (.long j4), .second, .val (.ref b7), .val (.int (own_lim j1 j4)), .val (.long (own_min j1 j4)), .second, .val (.int j11)] [])) (fun _ k => XS.icmpNo X16.here hx rfl (hb hby at_109) rfl (teq ((own_fin _ _).trans hv_j14.symm)).2 k) ?_
          refine own_by (T' := T16) (g' := (mkF m 113 #[.val (.long qa), .second, .val (.long qb), .second, .val (.int fl), .val (.long j1), .second, .val (.long j4), .second, .val (.ref b7), .val (.int (own_lim j1 j4)), .val (.long (own_min j1 j4)), .second, .val (.int j11)] [(.int (1 : Int32))])) (fun _ k => XS.iconst X16.here hx rfl (hb hby at_112) k) ?_
          refine own_by (T' := T16) (g' := (mkF m 117 #[.val (.long qa), .second, .val (.long qb), .second, .val (.int fl), .val (.long j1), .second, .val (.long j4), .second, .val (.ref b7), .val (.int (own_lim j1 j4)), .val (.long (own_min j1 j4)), .second, .val (.int j11)] [(.int (1 : Int32))])) (fun _ k => XS.goto X16.here hx rfl (pc0 := 113) (pc' := 117) rfl (hb hby at_113) (by decide) (by decide) k) ?_
          refine own_ret X16 hlk (v := some (.int (1 : Int32))) (fun h => by rw [Bd.returns] at h; cases h) (fun fs hr => retN X16 hx (t := .boolean) Bd.returns (by simp) (hb hby at_117) hr) ?_ (by decide) (by decide)
          rw [e16]
          exact ⟨rfl, N10⟩
        by_cases hc101_17 : (own_min j1 j4) = (9223372036854775807 : Int64)
        · skip
          refine own_by (T' := T13) (g' := (mkF m 108 #[.val (.long qa), .second, .val (.long qb), .second, .val (.int fl), .val (.long j1), .second, .val (.long j4), .second, .val (.ref b7), .val (.int (own_lim j1 j4)), .val (.long (own_min j1 j4)), .second, .val (.int j11)] [(.int (own_lim j1 j4))])) (fun _ k => XS.ifYes X13.here hx rfl (pc0 := 101) (pc' := 108) rfl (hb hby at_101) rfl ((if0 _ _).trans (teq ((lw_eq _ _).mpr hc101_17)).1) (by decide) (by decide) k) ?_
          refine own_by (T' := T13) (g' := (mkF m 109 #[.val (.long qa), .second, .val (.long qb), .second, .val (.int fl), .val (.long j1), .second, .val (.long j4), .second, .val (.ref b7), .val (.int (own_lim j1 j4)), .val (.long (own_min j1 j4)), .second, .val (.int j11)] [(.int (0 : Int32)), (.int (own_lim j1 j4))])) (fun _ k => XS.iconst X13.here hx rfl (hb hby at_108) k) ?_
          exact J15 _ (if_pos hc101_17).symm T13 X13 e13
        · skip
          refine own_by (T' := T13) (g' := (mkF m 104 #[.val (.long qa), .second, .val (.long qb), .second, .val (.int fl), .val (.long j1), .second, .val (.long j4), .second, .val (.ref b7), .val (.int (own_lim j1 j4)), .val (.long (own_min j1 j4)), .second, .val (.int j11)] [(.int (own_lim j1 j4))])) (fun _ k => XS.ifNo X13.here hx rfl (hb hby at_101) rfl ((if0 _ _).trans (feq (fun q => absurd ((lw_eq _ _).mp q) hc101_17)).1) k) ?_
          refine own_by (T' := T13) (g' := (mkF m 105 #[.val (.long qa), .second, .val (.long qb), .second, .val (.int fl), .val (.long j1), .second, .val (.long j4), .second, .val (.ref b7), .val (.int (own_lim j1 j4)), .val (.long (own_min j1 j4)), .second, .val (.int j11)] [(.int (1 : Int32)), (.int (own_lim j1 j4))])) (fun _ k => XS.iconst X13.here hx rfl (hb hby at_104) k) ?_
          refine own_by (T' := T13) (g' := (mkF m 109 #[.val (.long qa), .second, .val (.long qb), .second, .val (.int fl), .val (.long j1), .second, .val (.long j4), .second, .val (.ref b7), .val (.int (own_lim j1 j4)), .val (.long (own_min j1 j4)), .second, .val (.int j11)] [(.int (1 : Int32)), (.int (own_lim j1 j4))])) (fun _ k => XS.goto X13.here hx rfl (pc0 := 105) (pc' := 109) rfl (hb hby at_105) (by decide) (by decide) k) ?_
          exact J15 _ (if_neg hc101_17).symm T13 X13 e13
      by_cases hc67_18 : j1 = (9223372036854775807 : Int64)
      · skip
        refine own_by (T' := T10) (g' := (mkF m 70 #[.val (.long qa), .second, .val (.long qb), .second, .val (.int fl), .val (.long j1), .second, .val (.long j4), .second, .val (.ref b7), .val (.int (own_lim j1 j4)), .val (.long (own_min j1 j4)), .second, .unset] [])) (fun _ k => XS.ifNo X10.here hx rfl (hb hby at_67) rfl ((if0 _ _).trans (teq ((lw_eq _ _).mpr hc67_18)).2) k) ?_
        refine own_by (T' := T10) (g' := (mkF m 72 #[.val (.long qa), .second, .val (.long qb), .second, .val (.int fl), .val (.long j1), .second, .val (.long j4), .second, .val (.ref b7), .val (.int (own_lim j1 j4)), .val (.long (own_min j1 j4)), .second, .unset] [(.long j4)])) (fun _ k => XS.lload X10.here hx rfl (hb hby at_70) rfl k) ?_
        refine own_by (T' := T10) (g' := (mkF m 75 #[.val (.long qa), .second, .val (.long qb), .second, .val (.int fl), .val (.long j1), .second, .val (.long j4), .second, .val (.ref b7), .val (.int (own_lim j1 j4)), .val (.long (own_min j1 j4)), .second, .unset] [(.long (9223372036854775807 : Int64)), (.long j4)])) (fun _ k => ldc2J X10 hx hown (mvT hZ (hw _ (List.mem_of_getElem? (i := 36) rfl))) rfl (hb hby at_72) k) ?_
        refine own_by (T' := T10) (g' := (mkF m 76 #[.val (.long qa), .second, .val (.long qb), .second, .val (.int fl), .val (.long j1), .second, .val (.long j4), .second, .val (.ref b7), .val (.int (own_lim j1 j4)), .val (.long (own_min j1 j4)), .second, .unset] [(.int (lcmpW j4 (9223372036854775807 : Int64)))])) (fun _ k => XS.lcmp X10.here hx rfl (hb hby at_75) rfl k) ?_
        by_cases hc76_19 : j4 = (9223372036854775807 : Int64)
        · skip
          refine own_by (T' := T10) (g' := (mkF m 83 #[.val (.long qa), .second, .val (.long qb), .second, .val (.int fl), .val (.long j1), .second, .val (.long j4), .second, .val (.ref b7), .val (.int (own_lim j1 j4)), .val (.long (own_min j1 j4)), .second, .unset] [])) (fun _ k => XS.ifYes X10.here hx rfl (pc0 := 76) (pc' := 83) rfl (hb hby at_76) rfl ((if0 _ _).trans (teq ((lw_eq _ _).mpr hc76_19)).1) (by decide) (by decide) k) ?_
          refine own_by (T' := T10) (g' := (mkF m 84 #[.val (.long qa), .second, .val (.long qb), .second, .val (.int fl), .val (.long j1), .second, .val (.long j4), .second, .val (.ref b7), .val (.int (own_lim j1 j4)), .val (.long (own_min j1 j4)), .second, .unset] [(.int (0 : Int32))])) (fun _ k => XS.iconst X10.here hx rfl (hb hby at_83) k) ?_
          exact J12 _ ((if_pos hc67_18).trans (if_pos hc76_19)).symm T10 X10 e10
        · skip
          refine own_by (T' := T10) (g' := (mkF m 79 #[.val (.long qa), .second, .val (.long qb), .second, .val (.int fl), .val (.long j1), .second, .val (.long j4), .second, .val (.ref b7), .val (.int (own_lim j1 j4)), .val (.long (own_min j1 j4)), .second, .unset] [])) (fun _ k => XS.ifNo X10.here hx rfl (hb hby at_76) rfl ((if0 _ _).trans (feq (fun q => absurd ((lw_eq _ _).mp q) hc76_19)).1) k) ?_
          refine own_by (T' := T10) (g' := (mkF m 80 #[.val (.long qa), .second, .val (.long qb), .second, .val (.int fl), .val (.long j1), .second, .val (.long j4), .second, .val (.ref b7), .val (.int (own_lim j1 j4)), .val (.long (own_min j1 j4)), .second, .unset] [(.int (1 : Int32))])) (fun _ k => XS.iconst X10.here hx rfl (hb hby at_79) k) ?_
          refine own_by (T' := T10) (g' := (mkF m 84 #[.val (.long qa), .second, .val (.long qb), .second, .val (.int fl), .val (.long j1), .second, .val (.long j4), .second, .val (.ref b7), .val (.int (own_lim j1 j4)), .val (.long (own_min j1 j4)), .second, .unset] [(.int (1 : Int32))])) (fun _ k => XS.goto X10.here hx rfl (pc0 := 80) (pc' := 84) rfl (hb hby at_80) (by decide) (by decide) k) ?_
          exact J12 _ ((if_pos hc67_18).trans (if_neg hc76_19)).symm T10 X10 e10
      · skip
        refine own_by (T' := T10) (g' := (mkF m 79 #[.val (.long qa), .second, .val (.long qb), .second, .val (.int fl), .val (.long j1), .second, .val (.long j4), .second, .val (.ref b7), .val (.int (own_lim j1 j4)), .val (.long (own_min j1 j4)), .second, .unset] [])) (fun _ k => XS.ifYes X10.here hx rfl (pc0 := 67) (pc' := 79) rfl (hb hby at_67) rfl ((if0 _ _).trans (feq (fun q => absurd ((lw_eq _ _).mp q) hc67_18)).2) (by decide) (by decide) k) ?_
        refine own_by (T' := T10) (g' := (mkF m 80 #[.val (.long qa), .second, .val (.long qb), .second, .val (.int fl), .val (.long j1), .second, .val (.long j4), .second, .val (.ref b7), .val (.int (own_lim j1 j4)), .val (.long (own_min j1 j4)), .second, .unset] [(.int (1 : Int32))])) (fun _ k => XS.iconst X10.here hx rfl (hb hby at_79) k) ?_
        refine own_by (T' := T10) (g' := (mkF m 84 #[.val (.long qa), .second, .val (.long qb), .second, .val (.int fl), .val (.long j1), .second, .val (.long j4), .second, .val (.ref b7), .val (.int (own_lim j1 j4)), .val (.long (own_min j1 j4)), .second, .unset] [(.int (1 : Int32))])) (fun _ k => XS.goto X10.here hx rfl (pc0 := 80) (pc' := 84) rfl (hb hby at_80) (by decide) (by decide) k) ?_
        exact J12 _ (if_neg hc67_18).symm T10 X10 e10
    by_cases hc20_20 : (fl &&& (2 : Int32)) = (0 : Int32)
    · skip
      refine own_by (T' := T3) (g' := (mkF m 29 #[.val (.long qa), .second, .val (.long qb), .second, .val (.int fl), .val (.long j1), .second, .unset, .unset, .unset, .unset, .unset, .unset, .unset] [])) (fun _ k => XS.ifYes X3.here hx rfl (pc0 := 20) (pc' := 29) rfl (hb hby at_20) rfl ((if0 _ _).trans (teq hc20_20).1) (by decide) (by decide) k) ?_
      refine own_by (T' := T3) (g' := (mkF m 30 #[.val (.long qa), .second, .val (.long qb), .second, .val (.int fl), .val (.long j1), .second, .unset, .unset, .unset, .unset, .unset, .unset, .unset] [(.long qb)])) (fun _ k => XS.lloadN X3.here hx rfl (hb hby at_29) rfl k) ?_
      exact J5 _ (if_pos hc20_20).symm T3 X3 e3
    · skip
      refine own_by (T' := T3) (g' := (mkF m 23 #[.val (.long qa), .second, .val (.long qb), .second, .val (.int fl), .val (.long j1), .second, .unset, .unset, .unset, .unset, .unset, .unset, .unset] [])) (fun _ k => XS.ifNo X3.here hx rfl (hb hby at_20) rfl ((if0 _ _).trans (feq hc20_20).1) k) ?_
      refine own_by (T' := T3) (g' := (mkF m 26 #[.val (.long qa), .second, .val (.long qb), .second, .val (.int fl), .val (.long j1), .second, .unset, .unset, .unset, .unset, .unset, .unset, .unset] [(.long (9223372036854775807 : Int64))])) (fun _ k => ldc2J X3 hx hown (mvT hZ (hw _ (List.mem_of_getElem? (i := 36) rfl))) rfl (hb hby at_23) k) ?_
      refine own_by (T' := T3) (g' := (mkF m 30 #[.val (.long qa), .second, .val (.long qb), .second, .val (.int fl), .val (.long j1), .second, .unset, .unset, .unset, .unset, .unset, .unset, .unset] [(.long (9223372036854775807 : Int64))])) (fun _ k => XS.goto X3.here hx rfl (pc0 := 26) (pc' := 30) rfl (hb hby at_26) (by decide) (by decide) k) ?_
      exact J5 _ (if_neg hc20_20).symm T3 X3 e3
  by_cases hc4_21 : (fl &&& (1 : Int32)) = (0 : Int32)
  · skip
    refine own_by (T' := s₁) (g' := (mkF m 13 #[.val (.long qa), .second, .val (.long qb), .second, .val (.int fl), .unset, .unset, .unset, .unset, .unset, .unset, .unset, .unset, .unset] [])) (fun _ k => XS.ifYes X0.here hx rfl (pc0 := 4) (pc' := 13) rfl (hb hby at_4) rfl ((if0 _ _).trans (teq hc4_21).1) (by decide) (by decide) k) ?_
    refine own_by (T' := s₁) (g' := (mkF m 14 #[.val (.long qa), .second, .val (.long qb), .second, .val (.int fl), .unset, .unset, .unset, .unset, .unset, .unset, .unset, .unset, .unset] [(.long qa)])) (fun _ k => XS.lloadN X0.here hx rfl (hb hby at_13) rfl k) ?_
    exact J2 _ (if_pos hc4_21).symm s₁ X0 e0
  · skip
    refine own_by (T' := s₁) (g' := (mkF m 7 #[.val (.long qa), .second, .val (.long qb), .second, .val (.int fl), .unset, .unset, .unset, .unset, .unset, .unset, .unset, .unset, .unset] [])) (fun _ k => XS.ifNo X0.here hx rfl (hb hby at_4) rfl ((if0 _ _).trans (feq hc4_21).1) k) ?_
    refine own_by (T' := s₁) (g' := (mkF m 10 #[.val (.long qa), .second, .val (.long qb), .second, .val (.int fl), .unset, .unset, .unset, .unset, .unset, .unset, .unset, .unset, .unset] [(.long (9223372036854775807 : Int64))])) (fun _ k => ldc2J X0 hx hown (mvT hZ (hw _ (List.mem_of_getElem? (i := 36) rfl))) rfl (hb hby at_7) k) ?_
    refine own_by (T' := s₁) (g' := (mkF m 14 #[.val (.long qa), .second, .val (.long qb), .second, .val (.int fl), .unset, .unset, .unset, .unset, .unset, .unset, .unset, .unset, .unset] [(.long (9223372036854775807 : Int64))])) (fun _ k => XS.goto X0.here hx rfl (pc0 := 10) (pc' := 14) rfl (hb hby at_10) (by decide) (by decide) k) ?_
    exact J2 _ (if_neg hc4_21).symm s₁ X0 e0
set_option maxRecDepth 65536 in
set_option maxHeartbeats 40000000 in
theorem comes_1 {Post : Tables → Env → Array Value → State → Outcome → State → Prop} (hpost : ∀ tb e args s v u, (limb_1_1.after args s (.returned v) u = true ∧ limb_1_2.after args s (.returned v) u = true ∧ True) → FrameEnd s (.returned v) u (Jvm.fieldLocs frame_1_writes args s ++ Jvm.arrayLocs frame_1_arrays args s ++ Jvm.staticLocs frame_1_statics s) 16 128 → Post tb e args s (.returned v) u) :
    ArmFor flags0 classFile x code maxLocals ret World_1 tables_1 room_1 Calls_1 rest_1 Pre_1 Post := by
  intro l hfl _ _ p e ha hc hk s m args below hf hA hF happ hP
  obtain ⟨hcalls, hrest, hpre⟩ := hP
  obtain ⟨-, -, -, hnamed, -, -, -, hat⟩ := (Spec.applies_iff hf).mp happ
  obtain ⟨hg, hn⟩ := and_e (Cond.before_iff.mp (show (Jvm.Cond.and given_1 narrow_1).before args s = true from hpre))
  obtain ⟨g1, g2⟩ := and_e hg
  obtain ⟨g3, g4⟩ := and_e g2
  obtain ⟨g5, g6⟩ := and_e g4
  obtain ⟨w0, w1, w2, rfl⟩ : ∃ w0 w1 w2 : Value, args = #[w0, w1, w2] := by
    have hs : args.size = 3 := by simpa [Cond.value, given_1] using g1
    obtain ⟨L⟩ := args
    match L, hs with
    | [w0, w1, w2], _ => exact ⟨w0, w1, w2, rfl⟩
  have hw := fun d (hd : d ∈ tables_1) => atoms_spec (ws := Jvm.Cond.code x code maxLocals ret :: tables_1) hat d (List.mem_cons_of_mem _ hd)
  have hfit : Fit s := fun {y c} hc i hi => by
    obtain ⟨ha, rfl⟩ := Array.getElem?_eq_some_iff.mp hc
    have q := List.all_eq_true.mp ((Array.all_eq_true_iff_forall_mem.mp hF) _ (Array.getElem_mem ha)) i (List.mem_range.mpr hi)
    simpa [Array.getElem?_eq_getElem hi] using q
  obtain ⟨i0, ei0⟩ := isL_v g3
  obtain rfl : w0 = (.long i0) := Option.some.inj ei0
  obtain ⟨i1, ei1⟩ := isL_v g5
  obtain rfl : w1 = (.long i1) := Option.some.inj ei1
  obtain ⟨i2, ei2⟩ := is_v g6
  obtain rfl : w2 = (.int i2) := Option.some.inj ei2
  obtain ⟨n, o, h1, h2, h3, _, L, rfl, ⟨rfl, N⟩, hq⟩ := rm0 l s _ hw tables_1 i0 i1 i2 s.heap s.heap.size (Nat.le_refl _)  p e ha hc hk s m _ below hf ((Spec.applies_iff_loose hf).mp happ).1 ⟨rfl, State.Warmed39.refl s, rfl⟩ trivial
  refine ⟨n, _, h1, h2, h3, hpost _ _ _ _ _ _ ⟨Cond.after_iff.mpr rfl, Cond.after_iff.mpr (eq_i res_at (Term.int_eval (1)) rfl), trivial⟩ ⟨hq.1, hq.2.1, (hq.2.2.sift fun y hy => Or.inr (N y hy)).mono (by decide) (by decide)⟩⟩
theorem main_1_1 : Claimed_1_1 := comes_1 fun _ _ _ _ _ _ h hF => ⟨h.1, hF⟩
theorem main_1_2 : Claimed_1_2 := comes_1 fun _ _ _ _ _ _ h hF => ⟨h.2.1, hF⟩
end Jvm.Pilot.@@N@@
namespace Jvm.Pilot.@@N@@
open Jvm Jvm.ClassFile Sem Op Lib Jvm.Free Jvm.Stand Jvm.Pilot.@@N@@.Jvm.D
/-! MADE BY PROGRAM (witnessworld.py) out of the Statement's table words and the real class files: 11 classes; the members and pool entries that the words name. The judged class is class 1, her method 1. -/
namespace start1
open Jvm.ClassFile
def u (s : String) : CpInfo := .utf8 (stringToUtf16 s)
/-- a pool by its gaps: so many unusable entries, then the entry; so many at the end -/
def gap : Nat → List CpInfo → List CpInfo
  | 0, r => r
  | n + 1, r => .unusable :: gap n r
def poolList (es : List (Nat × CpInfo)) (last : Nat) : List CpInfo := es.foldr (fun e r => gap e.1 (e.2 :: r)) (gap last [])
def pool (es : List (Nat × CpInfo)) (last : Nat) : Array CpInfo := ⟨poolList es last⟩
def fileOf (pool : Array CpInfo) (this : Nat) (attrs : Array Attribute := #[]) (ms : Array MethodInfo := #[]) (fl : Nat := 33) (sup : Nat := 0) (ifs : Array Nat := #[]) (fds : Array FieldInfo := #[]) : ClassFile where
  minorVersion := 0
  majorVersion := 65
  constantPool := pool
  accessFlags := fl
  thisClass := this
  superClass := sup
  interfaces := ifs
  fields := fds
  methods := ms
  attributes := attrs
def plain (name : String) (sup : Option ClassId) : Class where
  name := name
  kind := .ordinary
  loader := none
  accessFlags := 33
  super := sup
  interfaces := #[]
  cf := none
  fields := #[]
  methods := #[]
  instanceTypes := #[]
  staticTypes := #[]
  resolved := #[]
  callSites := []
  init := .initialized
  statics := none
  mirror := none

def pool0 : Array CpInfo := pool [(5, u "<init>"), (0, u "()V"), (1, .class_ 10), (1, u "java/lang/Object")] 113

def k0c0 : Code := { maxStack := 0, maxLocals := 1, code := object_method_1_code, exceptionTable := #[], attributes := #[] }
def k0m0 : Method := { name := "<init>", desc := "()V", sig := { parameters := [], returnType := none }, accessFlags := 1, code := some k0c0 }
/-- java/lang/Object -/
def k0 : Class := { plain "java/lang/Object" none with
  accessFlags := 33
  interfaces := #[]
  cf := some (fileOf pool0 8 #[] #[{ accessFlags := 1, nameIndex := 5, descriptorIndex := 6, attributes := #[] }] 33 0 #[] #[])
  fields := #[]
  methods := #[k0m0]
  instanceTypes := #[]
  staticTypes := #[]
  resolved := Array.replicate 124 none
  statics := none }

def pool1 : Array CpInfo := pool [(2, .class_ 4), (1, u "java/lang/Object"), (0, u "<init>"), (0, u "()V"), (2, .long 9223372036854775807), (1, .class_ 12), (0, u "com/example/temporalis/temporalis/Window$Reach"), (0, .methodref 11 14), (0, .nameAndType 5 15), (0, u "(JJ)V"), (0, .methodref 11 17), (0, .nameAndType 18 19), (0, u "isLimited"), (0, u "()Z"), (0, .methodref 11 21), (0, .nameAndType 22 23), (0, u "lastStart"), (0, u "(JJ)J"), (0, .class_ 25), (0, u "com/example/temporalis/temporalis/ReachIsLimitedPinLaw"), (2, u "law"), (0, u "(JJI)Z")] 7

def k1m0 : Method := { name := "<init>", desc := "()V", sig := { parameters := [], returnType := none }, accessFlags := 1, code := none }
def k1c1 : Code := { maxStack := 6, maxLocals := 14, code := code, exceptionTable := #[], attributes := #[] }
def k1m1 : Method := { name := "law", desc := "(JJI)Z", sig := { parameters := [.long, .long, .int], returnType := some .boolean }, accessFlags := 9, code := some k1c1 }
/-- com/example/temporalis/temporalis/ReachIsLimitedPinLaw -/
def k1 : Class := { plain "com/example/temporalis/temporalis/ReachIsLimitedPinLaw" (some 0) with
  accessFlags := 49
  interfaces := #[]
  cf := some (fileOf pool1 24 #[] #[{ accessFlags := 1, nameIndex := 5, descriptorIndex := 6, attributes := #[] }, { accessFlags := 9, nameIndex := 28, descriptorIndex := 29, attributes := #[] }] 49 2 #[] #[])
  fields := #[]
  methods := #[k1m0, k1m1]
  instanceTypes := #[]
  staticTypes := #[]
  resolved := Array.replicate 37 none
  statics := none }

def pool2 : Array CpInfo := pool [(1, .methodref 2 3), (0, .class_ 4), (0, .nameAndType 5 6), (0, u "java/lang/Object"), (0, u "<init>"), (0, u "()V"), (0, .class_ 8), (0, u "java/lang/Record")] 13

def k2c0 : Code := { maxStack := 1, maxLocals := 1, code := jdk_30_method_1_code, exceptionTable := #[], attributes := #[] }
def k2m0 : Method := { name := "<init>", desc := "()V", sig := { parameters := [], returnType := none }, accessFlags := 4, code := some k2c0 }
/-- java/lang/Record -/
def k2 : Class := { plain "java/lang/Record" (some 0) with
  accessFlags := 1057
  interfaces := #[]
  cf := some (fileOf pool2 7 #[] #[{ accessFlags := 4, nameIndex := 5, descriptorIndex := 6, attributes := #[] }] 1057 2 #[] #[])
  fields := #[]
  methods := #[k2m0]
  instanceTypes := #[]
  staticTypes := #[]
  resolved := Array.replicate 22 none
  statics := none }

def pool3 : Array CpInfo := pool [(1, .class_ 2), (0, u "com/example/temporalis/temporalis/Window"), (0, .methodref 4 5), (0, .class_ 6), (0, .nameAndType 7 8), (0, u "java/lang/Record"), (0, u "<init>"), (0, u "()V"), (0, .fieldref 10 11), (0, .class_ 12), (0, .nameAndType 13 14), (0, u "com/example/temporalis/temporalis/Window$Reach"), (0, u "afterStart"), (0, u "J"), (0, .fieldref 10 16), (0, .nameAndType 17 14), (0, u "afterEnd"), (0, .long 9223372036854775807), (5, .methodref 25 26), (0, .class_ 27), (0, .nameAndType 28 29), (0, u "java/lang/Math"), (0, u "min"), (0, u "(JJ)J"), (2, u "(JJ)V"), (0, .methodref 10 34), (0, .nameAndType 35 29), (0, u "plus"), (11, u "()Z"), (2, .long 9223372036854775808), (15, u "NONE"), (0, u "Lcom/example/temporalis/temporalis/Window$Reach;"), (3, u "isLimited"), (3, u "lastStart")] 27

def k3c0 : Code := { maxStack := 3, maxLocals := 5, code := prog_70_method_1_code, exceptionTable := #[], attributes := #[] }
def k3m0 : Method := { name := "<init>", desc := "(JJ)V", sig := { parameters := [.long, .long], returnType := none }, accessFlags := 0, code := some k3c0 }
def k3c1 : Code := { maxStack := 4, maxLocals := 1, code := prog_70_method_2_code, exceptionTable := #[], attributes := #[] }
def k3m1 : Method := { name := "isLimited", desc := "()Z", sig := { parameters := [], returnType := some .boolean }, accessFlags := 0, code := some k3c1 }
def k3c2 : Code := { maxStack := 6, maxLocals := 5, code := prog_70_method_4_code, exceptionTable := #[], attributes := #[] }
def k3m2 : Method := { name := "lastStart", desc := "(JJ)J", sig := { parameters := [.long, .long], returnType := some .long }, accessFlags := 0, code := some k3c2 }
def k3c3 : Code := { maxStack := 6, maxLocals := 6, code := prog_70_method_6_code, exceptionTable := #[], attributes := #[] }
def k3m3 : Method := { name := "plus", desc := "(JJ)J", sig := { parameters := [.long, .long], returnType := some .long }, accessFlags := 10, code := some k3c3 }
/-- com/example/temporalis/temporalis/Window$Reach -/
def k3 : Class := { plain "com/example/temporalis/temporalis/Window$Reach" (some 2) with
  accessFlags := 48
  interfaces := #[]
  cf := some (fileOf pool3 10 #[.nestHost 1] #[{ accessFlags := 0, nameIndex := 7, descriptorIndex := 32, attributes := #[] }, { accessFlags := 0, nameIndex := 71, descriptorIndex := 47, attributes := #[] }, { accessFlags := 0, nameIndex := 75, descriptorIndex := 29, attributes := #[] }, { accessFlags := 10, nameIndex := 35, descriptorIndex := 29, attributes := #[] }] 48 4 #[] #[{ accessFlags := 18, nameIndex := 13, descriptorIndex := 14, attributes := #[] }, { accessFlags := 18, nameIndex := 17, descriptorIndex := 14, attributes := #[] }, { accessFlags := 24, nameIndex := 66, descriptorIndex := 67, attributes := #[] }])
  fields := #[{ name := "afterStart", type := .long, accessFlags := 18, slot := 0, constantValue := 0 }, { name := "afterEnd", type := .long, accessFlags := 18, slot := 1, constantValue := 0 }, { name := "NONE", type := (.object "com/example/temporalis/temporalis/Window$Reach"), accessFlags := 24, slot := 0, constantValue := 0 }]
  methods := #[k3m0, k3m1, k3m2, k3m3]
  instanceTypes := #[.long, .long]
  staticTypes := #[(.object "com/example/temporalis/temporalis/Window$Reach")]
  resolved := Array.replicate 103 none
  statics := none }

def pool4 : Array CpInfo := pool [(1, .class_ 2), (0, u "java/lang/Math"), (1, .class_ 6), (1, u "java/lang/Object"), (0, u "<init>"), (0, u "()V"), (89, .class_ 100), (1, u "java/lang/Math$RandomNumberGeneratorHolder"), (20, u "(JJ)J"), (50, u "negativeZeroFloatBits"), (0, u "J"), (2, u "negativeZeroDoubleBits"), (24, u "min"), (43, u "$assertionsDisabled"), (0, u "Z"), (91, u "twoToTheDoubleScaleDown"), (0, u "D"), (4, u "twoToTheDoubleScaleUp"), (9, u "E"), (3, u "PI"), (2, u "TAU"), (2, u "DEGREES_TO_RADIANS"), (0, u "RADIANS_TO_DEGREES")] 94

def k4m0 : Method := { name := "<init>", desc := "()V", sig := { parameters := [], returnType := none }, accessFlags := 2, code := none }
def k4c1 : Code := { maxStack := 4, maxLocals := 4, code := jdk_29_method_70_code, exceptionTable := #[], attributes := #[] }
def k4m1 : Method := { name := "min", desc := "(JJ)J", sig := { parameters := [.long, .long], returnType := some .long }, accessFlags := 9, code := some k4c1 }
/-- java/lang/Math -/
def k4 : Class := { plain "java/lang/Math" (some 0) with
  accessFlags := 49
  interfaces := #[]
  cf := some (fileOf pool4 1 #[.nestMembers #[98]] #[{ accessFlags := 2, nameIndex := 7, descriptorIndex := 8, attributes := #[] }, { accessFlags := 9, nameIndex := 201, descriptorIndex := 121, attributes := #[] }] 49 4 #[] #[{ accessFlags := 25, nameIndex := 354, descriptorIndex := 339, attributes := #[] }, { accessFlags := 25, nameIndex := 358, descriptorIndex := 339, attributes := #[] }, { accessFlags := 25, nameIndex := 361, descriptorIndex := 339, attributes := #[] }, { accessFlags := 26, nameIndex := 364, descriptorIndex := 339, attributes := #[] }, { accessFlags := 26, nameIndex := 365, descriptorIndex := 339, attributes := #[] }, { accessFlags := 26, nameIndex := 172, descriptorIndex := 173, attributes := #[] }, { accessFlags := 26, nameIndex := 176, descriptorIndex := 173, attributes := #[] }, { accessFlags := 8, nameIndex := 344, descriptorIndex := 339, attributes := #[] }, { accessFlags := 8, nameIndex := 338, descriptorIndex := 339, attributes := #[] }, { accessFlags := 4120, nameIndex := 245, descriptorIndex := 246, attributes := #[] }])
  fields := #[{ name := "E", type := .double, accessFlags := 25, slot := 0, constantValue := 0 }, { name := "PI", type := .double, accessFlags := 25, slot := 1, constantValue := 0 }, { name := "TAU", type := .double, accessFlags := 25, slot := 2, constantValue := 0 }, { name := "DEGREES_TO_RADIANS", type := .double, accessFlags := 26, slot := 3, constantValue := 0 }, { name := "RADIANS_TO_DEGREES", type := .double, accessFlags := 26, slot := 4, constantValue := 0 }, { name := "negativeZeroFloatBits", type := .long, accessFlags := 26, slot := 5, constantValue := 0 }, { name := "negativeZeroDoubleBits", type := .long, accessFlags := 26, slot := 6, constantValue := 0 }, { name := "twoToTheDoubleScaleUp", type := .double, accessFlags := 8, slot := 7, constantValue := 0 }, { name := "twoToTheDoubleScaleDown", type := .double, accessFlags := 8, slot := 8, constantValue := 0 }, { name := "$assertionsDisabled", type := .boolean, accessFlags := 4120, slot := 9, constantValue := 0 }]
  methods := #[k4m0, k4m1]
  instanceTypes := #[]
  staticTypes := #[.double, .double, .double, .double, .double, .long, .long, .double, .double, .boolean]
  resolved := Array.replicate 460 none
  statics := none }

def pool5 : Array CpInfo := pool [(1, u "java/lang/Cloneable"), (0, .class_ 1), (0, u "java/lang/Object"), (0, .class_ 3)] 3

/-- java/lang/Cloneable -/
def k5 : Class := { plain "java/lang/Cloneable" (some 0) with
  accessFlags := 1537
  interfaces := #[]
  cf := some (fileOf pool5 2 #[] #[] 1537 4 #[] #[])
  fields := #[]
  methods := #[]
  instanceTypes := #[]
  staticTypes := #[]
  resolved := Array.replicate 8 none
  statics := none }

def pool6 : Array CpInfo := pool [(1, u "java/io/Serializable"), (0, .class_ 1), (0, u "java/lang/Object"), (0, .class_ 3)] 3

/-- java/io/Serializable -/
def k6 : Class := { plain "java/io/Serializable" (some 0) with
  accessFlags := 1537
  interfaces := #[]
  cf := some (fileOf pool6 2 #[] #[] 1537 4 #[] #[])
  fields := #[]
  methods := #[]
  instanceTypes := #[]
  staticTypes := #[]
  resolved := Array.replicate 8 none
  statics := none }

/-- the primitive byte -/
def k7 : Class := { plain "byte" none with kind := .primitive 'B', accessFlags := 0x411 }
/-- [B -/
def k8 : Class := { plain "[B" (some 0) with kind := .array 7 .byte, interfaces := #[5, 6], accessFlags := 1041 }

/-- the primitive int -/
def k9 : Class := { plain "int" none with kind := .primitive 'I', accessFlags := 0x411 }
/-- [I -/
def k10 : Class := { plain "[I" (some 0) with kind := .array 9 .int, interfaces := #[5, 6], accessFlags := 1041 }

def heap : Heap := #[]
def classes : Array Class := #[k0, k1, k2, k3, k4, k5, k6, k7, k8, k9, k10]
def interned : List (Array UInt16 × Addr) := []
def slotsUsed : Nat := 0
def theMethod : MethodId := ⟨1, 1⟩
def args0 : Array Value := #[.long 5, .long 7, .int 1]
def aboutOver (below : List Frame) : State where
  vm := { classes := classes, interned := interned.toArray }
  heap := heap
  slotsUsed := slotsUsed
  threads := #[{ frames := .invoking theMethod args0 :: below }]
def below0 : List Frame := [.native { method := ⟨0, 0⟩, args := #[] }]
def about1 : State := aboutOver below0
def p0 : Program := .bare "" "" ""
def e0 : Env := launch0.env 0 0 0
theorem w_frames : about1.frames = Frame.invoking theMethod args0 :: below0 := rfl
set_option maxRecDepth 65536 in
theorem w_args : argsFit about1.vm theMethod args0 = true := by decide +kernel
set_option maxRecDepth 65536 in
theorem w_heap : heapFits about1 = true := by decide +kernel
set_option maxRecDepth 65536 in
theorem w_runnable : about1.curStatus? = some .runnable := by decide +kernel
set_option maxRecDepth 65536 in
theorem w_alone : about1.alone = true := by decide +kernel
set_option maxRecDepth 65536 in
theorem w_named : about1.methodNamed? x = some theMethod := by decide +kernel
set_option maxRecDepth 65536 in
theorem w_hears : about1.hears theMethod below0 = true := by decide +kernel
set_option maxRecDepth 65536 in
theorem w_ripe : about1.ripe theMethod args0 below0 = true := by decide +kernel
theorem w_running : about1.status = .running := rfl
set_option maxRecDepth 65536 in
theorem w_room : about1.hasRoom e0.platform room_1 = true :=
  launch0.hasRoom_least _ room_1 (by decide +kernel) (by decide +kernel) (by decide +kernel) (by decide +kernel) (by decide +kernel) (by decide +kernel)
theorem allAtoms_all (ts : List Jvm.Cond) (a : Array Jvm.Value) (st : Jvm.State) : (allAtoms ts).before a st = ts.all (fun c => c.before a st) := by
  induction ts with
  | nil => rfl
  | cons c t ih =>
    show (Jvm.Cond.and c (allAtoms t)).before a st = _
    rw [Jvm.Cond.before_and, ih, List.all_cons]
def words1 : List Jvm.Cond := Jvm.Cond.code x code maxLocals ret :: tables_1
/-- a 'code' word, met by the world's own term for the bytes: nothing is compared byte by byte -/
theorem code_word {y : MethodName} {bytes : ByteArray} {mx : Nat} {rt : Option FieldType} {a : Array Value} {s : State} {m : MethodId} {meth : Method} {c : Code} (h1 : s.methodNamed? y = some m) (h2 : s.vm.method? m = some meth) (h3 : meth.code = some c) (h4 : c.code = bytes)
    (h5 : (c.maxLocals == mx && c.exceptionTable.isEmpty && decide (c.maxStack ≤ mostOperands) && decide (meth.sig.returnType = rt) && !meth.locks && decide (parseMethodDescriptor y.desc = some meth.sig)) = true) : (Jvm.Cond.code y bytes mx rt).before a s = true := by
  simp only [Bool.and_eq_true, beq_iff_eq, Bool.not_eq_true', decide_eq_true_eq] at h5
  obtain ⟨⟨⟨⟨⟨g1, g2⟩, g3⟩, g4⟩, g5⟩, g6⟩ := h5
  simp [Cond.before, Cond.holds, Cond.value, h1, h2, h3, h4, g1, g2, g3, g4, g5, g6]
def isCode : Jvm.Cond → Bool
  | .code _ _ _ _ => true
  | _ => false
theorem all_split {L : List Jvm.Cond} {P : Jvm.Cond → Bool} (h1 : L.all (fun c => isCode c || P c) = true) (h2 : ∀ c ∈ L.filter isCode, P c = true) : L.all P = true := by
  refine List.all_eq_true.mpr fun c hc => ?_
  have h := List.all_eq_true.mp h1 c hc
  rcases Bool.eq_false_or_eq_true (isCode c) with hi | hi
  · exact h2 c (List.mem_filter.mpr ⟨hc, hi⟩)
  · simpa [hi] using h
set_option maxRecDepth 65536 in
theorem w_c0 : (Jvm.Cond.code x code maxLocals ret).before args0 about1 = true := code_word (m := ⟨1, 1⟩) (meth := k1m1) (c := k1c1) (by decide +kernel) rfl rfl rfl (by decide +kernel)
set_option maxRecDepth 65536 in
theorem w_c1 : (Jvm.Cond.code ({ cls := "com/example/temporalis/temporalis/Window$Reach", name := "<init>", desc := "(JJ)V" } : Jvm.MethodName) prog_70_method_1_code (5 : Nat) (Option.none : Option Jvm.ClassFile.FieldType)).before args0 about1 = true := code_word (m := ⟨3, 0⟩) (meth := k3m0) (c := k3c0) (by decide +kernel) rfl rfl rfl (by decide +kernel)
set_option maxRecDepth 65536 in
theorem w_c2 : (Jvm.Cond.code ({ cls := "java/lang/Record", name := "<init>", desc := "()V" } : Jvm.MethodName) jdk_30_method_1_code (1 : Nat) (Option.none : Option Jvm.ClassFile.FieldType)).before args0 about1 = true := code_word (m := ⟨2, 0⟩) (meth := k2m0) (c := k2c0) (by decide +kernel) rfl rfl rfl (by decide +kernel)
set_option maxRecDepth 65536 in
theorem w_c3 : (Jvm.Cond.code ({ cls := "java/lang/Object", name := "<init>", desc := "()V" } : Jvm.MethodName) object_method_1_code (1 : Nat) (Option.none : Option Jvm.ClassFile.FieldType)).before args0 about1 = true := code_word (m := ⟨0, 0⟩) (meth := k0m0) (c := k0c0) (by decide +kernel) rfl rfl rfl (by decide +kernel)
set_option maxRecDepth 65536 in
theorem w_c4 : (Jvm.Cond.code ({ cls := "com/example/temporalis/temporalis/Window$Reach", name := "isLimited", desc := "()Z" } : Jvm.MethodName) prog_70_method_2_code (1 : Nat) (Option.some Jvm.ClassFile.FieldType.boolean)).before args0 about1 = true := code_word (m := ⟨3, 1⟩) (meth := k3m1) (c := k3c1) (by decide +kernel) rfl rfl rfl (by decide +kernel)
set_option maxRecDepth 65536 in
theorem w_c5 : (Jvm.Cond.code ({ cls := "com/example/temporalis/temporalis/Window$Reach", name := "lastStart", desc := "(JJ)J" } : Jvm.MethodName) prog_70_method_4_code (5 : Nat) (Option.some Jvm.ClassFile.FieldType.long)).before args0 about1 = true := code_word (m := ⟨3, 2⟩) (meth := k3m2) (c := k3c2) (by decide +kernel) rfl rfl rfl (by decide +kernel)
set_option maxRecDepth 65536 in
theorem w_c6 : (Jvm.Cond.code ({ cls := "com/example/temporalis/temporalis/Window$Reach", name := "plus", desc := "(JJ)J" } : Jvm.MethodName) prog_70_method_6_code (6 : Nat) (Option.some Jvm.ClassFile.FieldType.long)).before args0 about1 = true := code_word (m := ⟨3, 3⟩) (meth := k3m3) (c := k3c3) (by decide +kernel) rfl rfl rfl (by decide +kernel)
set_option maxRecDepth 65536 in
theorem w_c7 : (Jvm.Cond.code ({ cls := "java/lang/Math", name := "min", desc := "(JJ)J" } : Jvm.MethodName) jdk_29_method_70_code (4 : Nat) (Option.some Jvm.ClassFile.FieldType.long)).before args0 about1 = true := code_word (m := ⟨4, 1⟩) (meth := k4m1) (c := k4c1) (by decide +kernel) rfl rfl rfl (by decide +kernel)
def codes1 : List Jvm.Cond := [Jvm.Cond.code x code maxLocals ret, Jvm.Cond.code ({ cls := "com/example/temporalis/temporalis/Window$Reach", name := "<init>", desc := "(JJ)V" } : Jvm.MethodName) prog_70_method_1_code (5 : Nat) (Option.none : Option Jvm.ClassFile.FieldType), Jvm.Cond.code ({ cls := "java/lang/Record", name := "<init>", desc := "()V" } : Jvm.MethodName) jdk_30_method_1_code (1 : Nat) (Option.none : Option Jvm.ClassFile.FieldType), Jvm.Cond.code ({ cls := "java/lang/Object", name := "<init>", desc := "()V" } : Jvm.MethodName) object_method_1_code (1 : Nat) (Option.none : Option Jvm.ClassFile.FieldType), Jvm.Cond.code ({ cls := "com/example/temporalis/temporalis/Window$Reach", name := "isLimited", desc := "()Z" } : Jvm.MethodName) prog_70_method_2_code (1 : Nat) (Option.some Jvm.ClassFile.FieldType.boolean), Jvm.Cond.code ({ cls := "com/example/temporalis/temporalis/Window$Reach", name := "lastStart", desc := "(JJ)J" } : Jvm.MethodName) prog_70_method_4_code (5 : Nat) (Option.some Jvm.ClassFile.FieldType.long), Jvm.Cond.code ({ cls := "com/example/temporalis/temporalis/Window$Reach", name := "plus", desc := "(JJ)J" } : Jvm.MethodName) prog_70_method_6_code (6 : Nat) (Option.some Jvm.ClassFile.FieldType.long), Jvm.Cond.code ({ cls := "java/lang/Math", name := "min", desc := "(JJ)J" } : Jvm.MethodName) jdk_29_method_70_code (4 : Nat) (Option.some Jvm.ClassFile.FieldType.long)]
set_option maxRecDepth 65536 in
theorem codes_eq : words1.filter isCode = codes1 := rfl
theorem w_codes : ∀ c ∈ words1.filter isCode, c.before args0 about1 = true := by
  rw [codes_eq]
  intro c hc
  simp only [codes1, List.mem_cons, List.not_mem_nil, or_false] at hc
  rcases hc with rfl | rfl | rfl | rfl | rfl | rfl | rfl | rfl
  · exact w_c0
  · exact w_c1
  · exact w_c2
  · exact w_c3
  · exact w_c4
  · exact w_c5
  · exact w_c6
  · exact w_c7
set_option maxRecDepth 65536 in
theorem w_t1 : (words1.take 24).all (fun c => isCode c || c.before args0 about1) = true := by decide +kernel
set_option maxRecDepth 65536 in
theorem w_t2 : (words1.drop 24).all (fun c => isCode c || c.before args0 about1) = true := by decide +kernel
theorem w_tables : (allAtoms (Jvm.Cond.code x code maxLocals ret :: tables_1)).before args0 about1 = true := by
  rw [allAtoms_all]
  show words1.all (fun c => c.before args0 about1) = true
  refine all_split ?_ w_codes
  rw [← List.take_append_drop 24 words1, List.all_append, w_t1, w_t2]
  rfl
set_option maxRecDepth 65536 in
theorem w_case : (Jvm.Cond.and given_1 narrow_1).before args0 about1 = true := by decide +kernel
theorem w_applies : (headSpec (Jvm.Cond.code x code maxLocals ret :: tables_1) room_1).applies x e0.platform about1 = true :=
  (Spec.applies_iff w_frames).mpr ⟨w_running, w_runnable, w_alone, w_named, w_hears, w_ripe, w_room, w_tables⟩
theorem atStart : AtStart classFile x code maxLocals ret World_1 tables_1 room_1 Calls_1 rest_1 Pre_1 launch0 p0 e0 about1 theMethod args0 below0 :=
  ⟨lists_1, trivial, launch0.admits_env _ _ _, launch0.least_env, fairChoices_fair.cas, fairChoices_fair.clock, w_frames, w_args, w_heap, w_applies, trivial, trivial, w_case⟩
end start1
theorem witness_1 : WitnessClaimed_1 := ⟨start1.p0, start1.e0, start1.about1, start1.theMethod, start1.args0, start1.below0, start1.atStart⟩
end Jvm.Pilot.@@N@@
