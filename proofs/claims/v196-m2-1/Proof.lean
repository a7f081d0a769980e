import JvmDerived
import JvmDerived.Pilot.@@N@@Statement
import JvmDerived.Pilot.@@N@@Code
set_option linter.unusedVariables false
set_option linter.unusedSimpArgs false
namespace Jvm.RoadKit
open Sem ClassFile Op Lib Jvm.Stand Jvm.Free Jvm.LawKit
section New
variable {p : Program} {l : Launch} {e : Env} {R : Room} {s : State} {m : MethodId} {args : Array Value} {below : List Frame} {meth : Method} {c : Code} {T : State} {locs : List Loc} {cells slots : Nat}
theorem retI (X : Stand p l e R s m args below meth c T locs cells slots) (hx : p.tables.exec = Jvm.exec) {pc : Nat} {Ls : Array Slot} {z : Int32} {rest : List Value} (hret : meth.sig.returnType = some .int) (hd : decode c.code pc = .ok (.ireturn, 1)) {fs : List Frame}
    (hl : ∀ (f : JFrame) (acts : List Action), f.method = m → f.locked = none → f.entered = [] → (doReturn e (T.setTop f) acts (some (.int z))).1 = T.setFrames fs) : Steps p.tables e below (T.setTop (mkF m pc Ls (.int z :: rest))) (T.setFrames fs) := by
  have hm' : T.vm.method? m = some meth := X.method'
  have hn : narrow .int (.int z) = .int z := rfl
  show Steps p.tables e below (T.setTop { method := m, pc := pc, locals := Ls, stack := _ :: rest, locked := none }) _
  jvm_step X.here [X.here.top, hx, hd, hm', hret, hn]
  first | (intro acts; rw [hl _ acts rfl rfl rfl]) | rw [hl _ _ rfl rfl rfl]
  exact Steps.refl _
/-- from the state T with the frame g on top the run ends, returned, with Q -/
def own_Go (tb : Tables) (e : Env) (below : List Frame) (Q : Option Value → Heap → List Loc → Prop) (s : State) (C S : Nat) (T : State) (g : JFrame) : Prop :=
  ∃ t o, Steps tb e below (T.setTop g) t ∧ t.status = .running ∧ Ended t below o ∧ ∃ v L, o = .returned v ∧ Q v t.heap L ∧ FrameEnd s o t L C S
theorem own_by {tb : Tables} {Q : Option Value → Heap → List Loc → Prop} {C S : Nat} {T T' : State} {g g' : JFrame} (st : ∀ target, Steps tb e below (T'.setTop g') target → Steps tb e below (T.setTop g) target) (k : own_Go tb e below Q s C S T' g') : own_Go tb e below Q s C S T g := by
  obtain ⟨t, o, h1, h2⟩ := k
  exact ⟨t, o, st t h1, h2⟩
theorem bN {tb : Tables} {Q : Option Value → Heap → List Loc → Prop} {C S : Nat} {T : State} {g : JFrame} (T' : State) (g' : JFrame) (st : ∀ target, Steps tb e below (T'.setTop g') target → Steps tb e below (T.setTop g) target) (k : own_Go tb e below Q s C S T' g') : own_Go tb e below Q s C S T g := own_by st k
/-- the contract of a body: from the heap h0, with the arguments A, it returns, with Q -/
abbrev own_M (l : Launch) (y : MethodName) (code : ByteArray) (ml : Nat) (rt : Option FieldType) (ws : List Cond) (R : Room) (Z : State) (A : Array Value) (h0 : Heap) (Q : Option Value → Heap → List Loc → Prop) : Prop :=
  MetFree l y (head1 (Cond.code y code ml rt :: ws) R) (fun a U => a = A ∧ Z.Warmed39 U.vm ∧ U.heap = h0) (fun _ _ _ _ _ => True) (fun _ U o U' => ∃ v L, o = .returned v ∧ Q v U'.heap L ∧ FrameEnd U o U' L R.cells R.slots)
theorem own_bd {y : MethodName} {code : ByteArray} {ml : Nat} {rt : Option FieldType} {ws : List Cond} {Z : State} {A : Array Value} {h0 : Heap} {Q : Option Value → Heap → List Loc → Prop} (hpl : plainFor y = true)
    (k : ∀ p e s m below meth c s₁, BodyLoose p l y (head1 (Cond.code y code ml rt :: ws) R) code ml rt e s m A below meth c s₁ → p.tables.exec = Jvm.exec → c.code = code → c.maxLocals = ml → s.vm.findClass y.cls = some m.cls → meth.name = y.name → meth.locks = false → Z.Warmed39 s.vm → Stand p l e R s m A below meth c s₁ [] 0 0 → s₁.heap = h0 → own_Go p.tables e below Q s R.cells R.slots s₁ (entryFrame m A ml)) : own_M l y code ml rt ws R Z A h0 Q := by
  refine MetFree.of_bodySF hpl hisR ?_
  intro p e s m args below meth c s₁ Bd hml hP hK
  obtain ⟨rfl, hZ, hh⟩ := hP
  exact k p e s m below meth c s₁ Bd Bd.exec Bd.bytes hml (findClass_of_methodNamed Bd.named) (name_of_methodNamed Bd.named Bd.method).1 Bd.notSynchronized hZ (Stand.of_body Bd) (by rw [← hh, Bd.state]; rfl)
theorem own_ret {Q : Option Value → Heap → List Loc → Prop} {C S : Nat} {g : JFrame} (X : Stand p l e R s m args below meth c T locs cells slots) (hlk : meth.locks = false) {v : Option Value} (hv : meth.sig.returnType = none → v = none)
    (st : ∀ fs, (∀ (f : JFrame) (acts : List Action), f.method = m → f.locked = none → f.entered = [] → (doReturn e (T.setTop f) acts v).1 = T.setFrames fs) → Steps p.tables e below (T.setTop g) (T.setFrames fs))
    (hq : Q v T.heap locs) (hc : cells ≤ C) (hs : slots ≤ S) : own_Go p.tables e below Q s C S T g := by
  obtain ⟨fs, hr, hrun, hended, hW, hsame⟩ := X.leave (v := v) hv hlk
  exact ⟨_, _, st fs hr, hrun, hended, v, locs, rfl, hq, ⟨v, rfl⟩, hW, hsame.mono hc hs⟩
end New
end Jvm.RoadKit
namespace Jvm.Pilot.@@N@@
open Jvm Jvm.ClassFile Sem Op Lib Jvm.Free Jvm.Stand Jvm.LawKit Jvm.RoadKit Bundle Jvm.Pilot.@@N@@.Jvm.D
theorem pd_0 : parseMethodDescriptor "()V" = some ⟨[], none⟩ := by decide +kernel
theorem pd_1 : parseMethodDescriptor "(J[B[B[BII)V" = some ⟨[.long, (.array .byte), (.array .byte), (.array .byte), .int, .int], none⟩ := by decide +kernel
theorem pd_2 : parseMethodDescriptor "()Z" = some ⟨[], some .boolean⟩ := by decide +kernel
theorem own_and3 (x : Int32) : x &&& 3 = 0 ∨ x &&& 3 = 1 ∨ x &&& 3 = 2 ∨ x &&& 3 = 3 := by
  have h := c_mask x 3 2 (by decide) (by decide)
  have h1 := Int.emod_nonneg x.toInt (b := ((2 ^ 2 : Nat) : Int)) (by decide)
  have h2 := Int.emod_lt_of_pos x.toInt (b := ((2 ^ 2 : Nat) : Int)) (by decide)
  rw [← h] at h1 h2
  have k0 : (0 : Int32).toInt = 0 := by decide
  have k1 : (1 : Int32).toInt = 1 := by decide
  have k2 : (2 : Int32).toInt = 2 := by decide
  have k3 : (3 : Int32).toInt = 3 := by decide
  simp only [← Int32.toInt_inj, k0, k1, k2, k3]
  omega
theorem own_and2 (x : Int32) : x &&& (2 : Int32) = 0 ↔ (x.toInt / 2) % 2 = 0 := by
  have e : x &&& (2 : Int32) = (x &&& 3) &&& 2 := by rw [Int32.and_assoc]; rfl
  have m := c_mask x 3 2 (by decide) (by decide)
  have k4 : ((2 ^ 2 : Nat) : Int) = 4 := by decide
  have k0 : (0 : Int32).toInt = 0 := by decide
  have k1 : (1 : Int32).toInt = 1 := by decide
  have k2 : (2 : Int32).toInt = 2 := by decide
  have k3 : (3 : Int32).toInt = 3 := by decide
  rw [k4] at m
  rw [e]
  rcases own_and3 x with h | h | h | h <;> rw [h] at m ⊢
  · exact iff_of_true (by decide) (by omega)
  · exact iff_of_true (by decide) (by omega)
  · exact iff_of_false (by decide) (by omega)
  · exact iff_of_false (by decide) (by omega)
def own_dbg (b : Int32) : Int32 := if b &&& (2 : Int32) = (0 : Int32) then 0 else 1
theorem own_fin (a : Int32) : own_dbg (nar .byte (a.toInt8.toInt32)) = (if (a &&& (255 : Int32)) % (4 : Int32) < (2 : Int32) then (0 : Int32) else (1 : Int32)) := by
  have h1 := (c_i2b a).1
  have h2 := (c_i2b (a.toInt8.toInt32)).1
  have h3 : nar .byte (a.toInt8.toInt32) = a.toInt8.toInt32.toInt8.toInt32 := rfl
  have m := c_mask a 255 8 (by decide) (by decide)
  have e8 : ((2 ^ 8 : Nat) : Int) = 256 := by decide
  rw [e8] at m
  have r := (c_irem (a &&& 255) 4 4 (by decide)).1 (by omega)
  have k : (2 : Int32).toInt = 2 := by decide
  unfold own_dbg
  rw [h3]
  simp only [own_and2, Int32.lt_iff_toInt_lt, k]
  (repeat' split) <;> first | rfl | omega
theorem d2_0 : decode jdk_30_method_1_code 0 = .ok (.aload_n 0, 1) := by decide +kernel
theorem d2_1 : decode jdk_30_method_1_code 1 = .ok (.invokespecial 1, 3) := by decide +kernel
theorem d2_4 : decode jdk_30_method_1_code 4 = .ok (.return_, 1) := by decide +kernel
theorem pn_2 : plainName "java/lang/Record" = true := by first | (simp [plainName, overriddenIn]; done) | decide +kernel
theorem ef_rm2 (m : MethodId) (a : Addr) : entryFrame m #[(.ref a)] 1 = mkF m 0 #[.val (.ref a)] [] := by first | (simp [entryFrame, mkF, argsToLocals, Value.category]; done) | rfl
def Q_rm2 (Z : State) (a : Addr) (h0 : Heap) (n0 : Nat) (v : Option Value) (h : Heap) (L : List Loc) : Prop := v = none ∧ Fr n0 L ∧ h = h0
set_option maxRecDepth 65536 in
set_option maxHeartbeats 40000000 in
theorem rm2 (l : Launch) (Z : State) (a0 : Array Value) (hw : ∀ d ∈ tables_1, d.before a0 Z = true) (ws : List Jvm.Cond) (a : Addr) (h0 : Heap) (n0 : Nat) (Z0 : n0 ≤ h0.size) :
    MetFree l (⟨"java/lang/Record", "<init>", "()V"⟩ : MethodName) (head1 (Jvm.Cond.code (⟨"java/lang/Record", "<init>", "()V"⟩ : MethodName) jdk_30_method_1_code 1 none :: ws) ({ frames := 1, cells := 0, slots := 0, locals := 12 } : Room)) (fun zz UU => zz = #[(.ref a)] ∧ Z.Warmed39 UU.vm ∧ UU.heap = h0) (fun _ _ _ _ _ => True) (fun _ U o U' => ∃ v L, o = .returned v ∧ Q_rm2 Z a h0 n0 v U'.heap L ∧ FrameEnd U o U' L ({ frames := 1, cells := 0, slots := 0, locals := 12 } : Room).cells ({ frames := 1, cells := 0, slots := 0, locals := 12 } : Room).slots) := by
  refine MetFree.of_bodySF (plainFor_of_name pn_2) hisR ?_
  intro p e s m args below meth c s₁ Bd hml0 hP hK
  obtain ⟨rfl, hZ, hh⟩ := hP
  have hx := Bd.exec
  have hby := Bd.bytes
  have hml : c.maxLocals = 1 := hml0
  have hown : s.vm.findClass "java/lang/Record" = some m.cls := findClass_of_methodNamed Bd.named
  have hnm := (name_of_methodNamed Bd.named Bd.method).1
  have hlk : meth.locks = false := BodyLoose.notSynchronized Bd
  have X0 : Stand p l e ({ frames := 1, cells := 0, slots := 0, locals := 12 } : Room) s m #[(.ref a)] below meth c s₁ [] 0 0 := Stand.of_body Bd
  have e0 : s₁.heap = h0 := by rw [← hh, Bd.state]; rfl
  have N0 := Fr.nil n0
  show own_Go p.tables e below (Q_rm2 Z a h0 n0) s ({ frames := 1, cells := 0, slots := 0, locals := 12 } : Room).cells ({ frames := 1, cells := 0, slots := 0, locals := 12 } : Room).slots s₁ (entryFrame m #[(.ref a)] 1)
  rw [ef_rm2 m a]
  refine own_by (T' := s₁) (g' := (mkF m 1 #[.val (.ref a)] [(.ref a)])) (fun _ k => XS.aloadN X0.here hx rfl (hb hby d2_0) rfl rfl k) ?_
  obtain ⟨T1, X1, e1, st1⟩ := initO X0 hx hZ hown (hw _ (List.mem_of_getElem? (i := 12) rfl)) (hw _ (List.mem_of_getElem? (i := 13) rfl)) (hw _ (List.mem_of_getElem? (i := 14) rfl)) e0 (g := (mkF m 1 #[.val (.ref a)] [(.ref a)])) rfl (by rw [hml]; rfl) rfl (hb hby d2_1) (by decide) (W := 0) (by show 2 * 0 + _ ≤ _; exact Nat.le_of_eq rfl) (by decide)
  refine own_by (T' := T1) (g' := (mkF m 4 #[.val (.ref a)] [])) (fun _ k => st1 _ k) ?_
  refine own_ret X1 hlk (v := none) (fun _ => rfl) (fun fs hr => X1.returnOut hx Bd.returns (hb hby d2_4) hr) ?_ (by decide) (by decide)
  rw [e1]
  exact ⟨rfl, N0, rfl⟩
theorem d1_0 : decode prog_30_method_1_code 0 = .ok (.aload_n 0, 1) := by decide +kernel
theorem d1_1 : decode prog_30_method_1_code 1 = .ok (.invokespecial 1, 3) := by decide +kernel
theorem d1_4 : decode prog_30_method_1_code 4 = .ok (.aload_n 0, 1) := by decide +kernel
theorem d1_5 : decode prog_30_method_1_code 5 = .ok (.lload_n 1, 1) := by decide +kernel
theorem d1_6 : decode prog_30_method_1_code 6 = .ok (.putfield 7, 3) := by decide +kernel
theorem d1_9 : decode prog_30_method_1_code 9 = .ok (.aload_n 0, 1) := by decide +kernel
theorem d1_10 : decode prog_30_method_1_code 10 = .ok (.aload_n 3, 1) := by decide +kernel
theorem d1_11 : decode prog_30_method_1_code 11 = .ok (.putfield 13, 3) := by decide +kernel
theorem d1_14 : decode prog_30_method_1_code 14 = .ok (.aload_n 0, 1) := by decide +kernel
theorem d1_15 : decode prog_30_method_1_code 15 = .ok (.aload 4, 2) := by decide +kernel
theorem d1_17 : decode prog_30_method_1_code 17 = .ok (.putfield 17, 3) := by decide +kernel
theorem d1_20 : decode prog_30_method_1_code 20 = .ok (.aload_n 0, 1) := by decide +kernel
theorem d1_21 : decode prog_30_method_1_code 21 = .ok (.aload 5, 2) := by decide +kernel
theorem d1_23 : decode prog_30_method_1_code 23 = .ok (.putfield 20, 3) := by decide +kernel
theorem d1_26 : decode prog_30_method_1_code 26 = .ok (.aload_n 0, 1) := by decide +kernel
theorem d1_27 : decode prog_30_method_1_code 27 = .ok (.iload 6, 2) := by decide +kernel
theorem d1_29 : decode prog_30_method_1_code 29 = .ok (.putfield 23, 3) := by decide +kernel
theorem d1_32 : decode prog_30_method_1_code 32 = .ok (.aload_n 0, 1) := by decide +kernel
theorem d1_33 : decode prog_30_method_1_code 33 = .ok (.iload 7, 2) := by decide +kernel
theorem d1_35 : decode prog_30_method_1_code 35 = .ok (.putfield 27, 3) := by decide +kernel
theorem d1_38 : decode prog_30_method_1_code 38 = .ok (.return_, 1) := by decide +kernel
theorem pn_1 : plainName "com/example/garante/garante/intel/EnclaveReport" = true := by first | (simp [plainName, overriddenIn]; done) | decide +kernel
theorem ef_rm1 (m : MethodId) (a : Addr) (x1 : Int64) (y1 : Addr) (y2 : Addr) (y3 : Addr) (z1 : Int32) (z2 : Int32) : entryFrame m #[(.ref a), (.long x1), (.ref y1), (.ref y2), (.ref y3), (.int z1), (.int z2)] 8 = mkF m 0 #[.val (.ref a), .val (.long x1), .second, .val (.ref y1), .val (.ref y2), .val (.ref y3), .val (.int z1), .val (.int z2)] [] := by first | (simp [entryFrame, mkF, argsToLocals, Value.category]; done) | rfl
def Q_rm1 (Z : State) (a : Addr) (x1 : Int64) (y1 : Addr) (y2 : Addr) (y3 : Addr) (z1 : Int32) (z2 : Int32) (h0 : Heap) (n0 : Nat) (v : Option Value) (h : Heap) (L : List Loc) : Prop := v = none ∧ Fr n0 L ∧ Keep h0 h [a] ∧ Fld Z h a "com/example/garante/garante/intel/EnclaveReport" "attributes" "[B" (.ref y1)
set_option maxRecDepth 65536 in
set_option maxHeartbeats 40000000 in
theorem rm1 (l : Launch) (Z : State) (a0 : Array Value) (hw : ∀ d ∈ tables_1, d.before a0 Z = true) (ws : List Jvm.Cond) (a : Addr) (x1 : Int64) (y1 : Addr) (y2 : Addr) (y3 : Addr) (z1 : Int32) (z2 : Int32) (h0 : Heap) (n0 : Nat) (Z0 : n0 ≤ h0.size) (E_a : Exa Z h0 a "com/example/garante/garante/intel/EnclaveReport") (F_miscSelect_a : Fld Z h0 a "com/example/garante/garante/intel/EnclaveReport" "miscSelect" "J" (.long (0 : Int64))) (F_attributes_a : Fld Z h0 a "com/example/garante/garante/intel/EnclaveReport" "attributes" "[B" .null) (F_mrEnclave_a : Fld Z h0 a "com/example/garante/garante/intel/EnclaveReport" "mrEnclave" "[B" .null) (F_mrSigner_a : Fld Z h0 a "com/example/garante/garante/intel/EnclaveReport" "mrSigner" "[B" .null) (F_isvProductId_a : Fld Z h0 a "com/example/garante/garante/intel/EnclaveReport" "isvProductId" "I" (.int (0 : Int32))) (F_isvSvn_a : Fld Z h0 a "com/example/garante/garante/intel/EnclaveReport" "isvSvn" "I" (.int (0 : Int32))) (g_a : n0 ≤ a) :
    MetFree l (⟨"com/example/garante/garante/intel/EnclaveReport", "<init>", "(J[B[B[BII)V"⟩ : MethodName) (head1 (Jvm.Cond.code (⟨"com/example/garante/garante/intel/EnclaveReport", "<init>", "(J[B[B[BII)V"⟩ : MethodName) prog_30_method_1_code 8 none :: ws) ({ frames := 2, cells := 0, slots := 0, locals := 24 } : Room)) (fun zz UU => zz = #[(.ref a), (.long x1), (.ref y1), (.ref y2), (.ref y3), (.int z1), (.int z2)] ∧ Z.Warmed39 UU.vm ∧ UU.heap = h0) (fun _ _ _ _ _ => True) (fun _ U o U' => ∃ v L, o = .returned v ∧ Q_rm1 Z a x1 y1 y2 y3 z1 z2 h0 n0 v U'.heap L ∧ FrameEnd U o U' L ({ frames := 2, cells := 0, slots := 0, locals := 24 } : Room).cells ({ frames := 2, cells := 0, slots := 0, locals := 24 } : Room).slots) := by
  refine MetFree.of_bodySF (plainFor_of_name pn_1) hisR ?_
  intro p e s m args below meth c s₁ Bd hml0 hP hK
  obtain ⟨rfl, hZ, hh⟩ := hP
  have hx := Bd.exec
  have hby := Bd.bytes
  have hml : c.maxLocals = 8 := hml0
  have hown : s.vm.findClass "com/example/garante/garante/intel/EnclaveReport" = some m.cls := findClass_of_methodNamed Bd.named
  have hnm := (name_of_methodNamed Bd.named Bd.method).1
  have hlk : meth.locks = false := BodyLoose.notSynchronized Bd
  have X0 : Stand p l e ({ frames := 2, cells := 0, slots := 0, locals := 24 } : Room) s m #[(.ref a), (.long x1), (.ref y1), (.ref y2), (.ref y3), (.int z1), (.int z2)] below meth c s₁ [] 0 0 := Stand.of_body Bd
  have e0 : s₁.heap = h0 := by rw [← hh, Bd.state]; rfl
  have N0 := Fr.nil n0
  show own_Go p.tables e below (Q_rm1 Z a x1 y1 y2 y3 z1 z2 h0 n0) s ({ frames := 2, cells := 0, slots := 0, locals := 24 } : Room).cells ({ frames := 2, cells := 0, slots := 0, locals := 24 } : Room).slots s₁ (entryFrame m #[(.ref a), (.long x1), (.ref y1), (.ref y2), (.ref y3), (.int z1), (.int z2)] 8)
  rw [ef_rm1 m a x1 y1 y2 y3 z1 z2]
  refine own_by (T' := s₁) (g' := (mkF m 1 #[.val (.ref a), .val (.long x1), .second, .val (.ref y1), .val (.ref y2), .val (.ref y3), .val (.int z1), .val (.int z2)] [(.ref a)])) (fun _ k => XS.aloadN X0.here hx rfl (hb hby d1_0) rfl rfl k) ?_
  obtain ⟨_, _, ⟨T1, L1, k1, n1⟩, -, X1, ⟨Lc1, hQ1, l1, y1, z1⟩, st1⟩ := X0.specialBack hx (y := (⟨"java/lang/Record", "<init>", "()V"⟩ : MethodName)) rfl hown (mvT hZ (hw _ (List.mem_of_getElem? (i := 7) rfl))) (mvT hZ (hw _ (List.mem_of_getElem? (i := 8) rfl))) (mvT hZ (hw _ (List.mem_of_getElem? (i := 11) rfl))) (by decide) (backOf (W := 0) (rm2 l Z a0 hw [] a  h0 n0 Z0 ) hZ (hw _ (List.mem_of_getElem? (i := 11) rfl)) (hw _ (List.mem_of_getElem? (i := 10) rfl)) (by decide) (by decide)) (g := (mkF m 1 #[.val (.ref a), .val (.long x1), .second, .val (.ref y1), .val (.ref y2), .val (.ref y3), .val (.int z1), .val (.int z2)] [(.ref a)])) rfl (by rw [hml]; rfl) (Steps.refl _) (a := a) (argsL := []) (rest := []) (lenOf pd_0 rfl) rfl (by show 2 * 0 + _ ≤ _; exact Nat.le_of_eq rfl) (hb hby d1_1) (fun _ _ => ⟨rfl, e0, (by decide : 0 + 0 ≤ _), (by decide : 0 + 0 ≤ _)⟩)
  dsimp only [Pt.U, Pt.locs, Pt.cells, Pt.slots] at X1 l1 y1 z1 st1 hQ1
  subst l1 y1 z1
  obtain ⟨rfl, N1q, e1⟩ := hQ1
  have N1 := Fr.app N0 N1q
  refine own_by (T' := T1) (g' := (mkF m 4 #[.val (.ref a), .val (.long x1), .second, .val (.ref y1), .val (.ref y2), .val (.ref y3), .val (.int z1), .val (.int z2)] [])) (fun _ k => st1.trans k) ?_
  refine own_by (T' := T1) (g' := (mkF m 5 #[.val (.ref a), .val (.long x1), .second, .val (.ref y1), .val (.ref y2), .val (.ref y3), .val (.int z1), .val (.int z2)] [(.ref a)])) (fun _ k => XS.aloadN X1.here hx rfl (hb hby d1_4) rfl rfl k) ?_
  refine own_by (T' := T1) (g' := (mkF m 6 #[.val (.ref a), .val (.long x1), .second, .val (.ref y1), .val (.ref y2), .val (.ref y3), .val (.int z1), .val (.int z2)] [(.long x1), (.ref a)])) (fun _ k => XS.lloadN X1.here hx rfl (hb hby d1_5) rfl k) ?_
  obtain ⟨T2, h2, X2, e2, W2, st2⟩ := putF X1 hx hZ hown (host := "") (Or.inl (hw _ (List.mem_of_getElem? (i := 15) rfl))) Via.refl e1 F_miscSelect_a E_a (Or.inr ⟨(hw _ (List.mem_of_getElem? (i := 16) rfl)), rfl, hnm⟩) (hw _ (List.mem_of_getElem? (i := 2) rfl)) (ty := .long) (by decide) rfl rfl (g := (mkF m 6 #[.val (.ref a), .val (.long x1), .second, .val (.ref y1), .val (.ref y2), .val (.ref y3), .val (.int z1), .val (.int z2)] [(.long x1), (.ref a)])) rfl rfl (hb hby d1_6)
  have Fw2 : Fld Z h2 a "com/example/garante/garante/intel/EnclaveReport" "miscSelect" "J" (.long x1) := Fld.same W2 F_miscSelect_a
  have K2 : Keep h0 h2 [a] := Keep.wr (Keep.refl h0 [a]) W2 (Or.inl (List.mem_of_getElem? (i := 0) rfl))
  have N2 := Fr.snoc X2 N1 g_a
  refine own_by (T' := T2) (g' := (mkF m 9 #[.val (.ref a), .val (.long x1), .second, .val (.ref y1), .val (.ref y2), .val (.ref y3), .val (.int z1), .val (.int z2)] [])) (fun _ k => st2 _ k) ?_
  refine own_by (T' := T2) (g' := (mkF m 10 #[.val (.ref a), .val (.long x1), .second, .val (.ref y1), .val (.ref y2), .val (.ref y3), .val (.int z1), .val (.int z2)] [(.ref a)])) (fun _ k => XS.aloadN X2.here hx rfl (hb hby d1_9) rfl rfl k) ?_
  refine own_by (T' := T2) (g' := (mkF m 11 #[.val (.ref a), .val (.long x1), .second, .val (.ref y1), .val (.ref y2), .val (.ref y3), .val (.int z1), .val (.int z2)] [(.ref y1), (.ref a)])) (fun _ k => XS.aloadN X2.here hx rfl (hb hby d1_10) rfl rfl k) ?_
  obtain ⟨T3, h3, X3, e3, W3, st3⟩ := putF X2 hx hZ hown (host := "") (Or.inl (hw _ (List.mem_of_getElem? (i := 17) rfl))) Via.refl e2 (Fld.other W2 F_attributes_a (Or.inr (slot_ne (a0 := a0) (Or.inr (hw _ (List.mem_of_getElem? (i := 18) rfl))) (Or.inr (hw _ (List.mem_of_getElem? (i := 16) rfl))) (by decide) (t := (.array .byte)) (t' := .long) (by decide) (by decide)))) (Exa.wr W2 E_a) (Or.inr ⟨(hw _ (List.mem_of_getElem? (i := 18) rfl)), rfl, hnm⟩) (hw _ (List.mem_of_getElem? (i := 2) rfl)) (ty := (.array .byte)) (by decide) rfl rfl (g := (mkF m 11 #[.val (.ref a), .val (.long x1), .second, .val (.ref y1), .val (.ref y2), .val (.ref y3), .val (.int z1), .val (.int z2)] [(.ref y1), (.ref a)])) rfl rfl (hb hby d1_11)
  have Fw3 : Fld Z h3 a "com/example/garante/garante/intel/EnclaveReport" "attributes" "[B" (.ref y1) := Fld.same W3 (Fld.other W2 F_attributes_a (Or.inr (slot_ne (a0 := a0) (Or.inr (hw _ (List.mem_of_getElem? (i := 18) rfl))) (Or.inr (hw _ (List.mem_of_getElem? (i := 16) rfl))) (by decide) (t := (.array .byte)) (t' := .long) (by decide) (by decide))))
  have K3 : Keep h0 h3 [a] := Keep.wr K2 W3 (Or.inl (List.mem_of_getElem? (i := 0) rfl))
  have N3 := Fr.snoc X3 N2 g_a
  refine own_by (T' := T3) (g' := (mkF m 14 #[.val (.ref a), .val (.long x1), .second, .val (.ref y1), .val (.ref y2), .val (.ref y3), .val (.int z1), .val (.int z2)] [])) (fun _ k => st3 _ k) ?_
  refine own_by (T' := T3) (g' := (mkF m 15 #[.val (.ref a), .val (.long x1), .second, .val (.ref y1), .val (.ref y2), .val (.ref y3), .val (.int z1), .val (.int z2)] [(.ref a)])) (fun _ k => XS.aloadN X3.here hx rfl (hb hby d1_14) rfl rfl k) ?_
  refine own_by (T' := T3) (g' := (mkF m 17 #[.val (.ref a), .val (.long x1), .second, .val (.ref y1), .val (.ref y2), .val (.ref y3), .val (.int z1), .val (.int z2)] [(.ref y2), (.ref a)])) (fun _ k => XS.aload X3.here hx rfl (hb hby d1_15) rfl rfl k) ?_
  obtain ⟨T4, h4, X4, e4, W4, st4⟩ := putF X3 hx hZ hown (host := "") (Or.inl (hw _ (List.mem_of_getElem? (i := 19) rfl))) Via.refl e3 (Fld.other W3 (Fld.other W2 F_mrEnclave_a (Or.inr (slot_ne (a0 := a0) (Or.inr (hw _ (List.mem_of_getElem? (i := 20) rfl))) (Or.inr (hw _ (List.mem_of_getElem? (i := 16) rfl))) (by decide) (t := (.array .byte)) (t' := .long) (by decide) (by decide)))) (Or.inr (slot_ne (a0 := a0) (Or.inr (hw _ (List.mem_of_getElem? (i := 20) rfl))) (Or.inr (hw _ (List.mem_of_getElem? (i := 18) rfl))) (by decide) (t := (.array .byte)) (t' := (.array .byte)) (by decide) (by decide)))) (Exa.wr W3 (Exa.wr W2 E_a)) (Or.inr ⟨(hw _ (List.mem_of_getElem? (i := 20) rfl)), rfl, hnm⟩) (hw _ (List.mem_of_getElem? (i := 2) rfl)) (ty := (.array .byte)) (by decide) rfl rfl (g := (mkF m 17 #[.val (.ref a), .val (.long x1), .second, .val (.ref y1), .val (.ref y2), .val (.ref y3), .val (.int z1), .val (.int z2)] [(.ref y2), (.ref a)])) rfl rfl (hb hby d1_17)
  have Fw4 : Fld Z h4 a "com/example/garante/garante/intel/EnclaveReport" "mrEnclave" "[B" (.ref y2) := Fld.same W4 (Fld.other W3 (Fld.other W2 F_mrEnclave_a (Or.inr (slot_ne (a0 := a0) (Or.inr (hw _ (List.mem_of_getElem? (i := 20) rfl))) (Or.inr (hw _ (List.mem_of_getElem? (i := 16) rfl))) (by decide) (t := (.array .byte)) (t' := .long) (by decide) (by decide)))) (Or.inr (slot_ne (a0 := a0) (Or.inr (hw _ (List.mem_of_getElem? (i := 20) rfl))) (Or.inr (hw _ (List.mem_of_getElem? (i := 18) rfl))) (by decide) (t := (.array .byte)) (t' := (.array .byte)) (by decide) (by decide))))
  have K4 : Keep h0 h4 [a] := Keep.wr K3 W4 (Or.inl (List.mem_of_getElem? (i := 0) rfl))
  have N4 := Fr.snoc X4 N3 g_a
  refine own_by (T' := T4) (g' := (mkF m 20 #[.val (.ref a), .val (.long x1), .second, .val (.ref y1), .val (.ref y2), .val (.ref y3), .val (.int z1), .val (.int z2)] [])) (fun _ k => st4 _ k) ?_
  refine own_by (T' := T4) (g' := (mkF m 21 #[.val (.ref a), .val (.long x1), .second, .val (.ref y1), .val (.ref y2), .val (.ref y3), .val (.int z1), .val (.int z2)] [(.ref a)])) (fun _ k => XS.aloadN X4.here hx rfl (hb hby d1_20) rfl rfl k) ?_
  refine own_by (T' := T4) (g' := (mkF m 23 #[.val (.ref a), .val (.long x1), .second, .val (.ref y1), .val (.ref y2), .val (.ref y3), .val (.int z1), .val (.int z2)] [(.ref y3), (.ref a)])) (fun _ k => XS.aload X4.here hx rfl (hb hby d1_21) rfl rfl k) ?_
  obtain ⟨T5, h5, X5, e5, W5, st5⟩ := putF X4 hx hZ hown (host := "") (Or.inl (hw _ (List.mem_of_getElem? (i := 21) rfl))) Via.refl e4 (Fld.other W4 (Fld.other W3 (Fld.other W2 F_mrSigner_a (Or.inr (slot_ne (a0 := a0) (Or.inr (hw _ (List.mem_of_getElem? (i := 22) rfl))) (Or.inr (hw _ (List.mem_of_getElem? (i := 16) rfl))) (by decide) (t := (.array .byte)) (t' := .long) (by decide) (by decide)))) (Or.inr (slot_ne (a0 := a0) (Or.inr (hw _ (List.mem_of_getElem? (i := 22) rfl))) (Or.inr (hw _ (List.mem_of_getElem? (i := 18) rfl))) (by decide) (t := (.array .byte)) (t' := (.array .byte)) (by decide) (by decide)))) (Or.inr (slot_ne (a0 := a0) (Or.inr (hw _ (List.mem_of_getElem? (i := 22) rfl))) (Or.inr (hw _ (List.mem_of_getElem? (i := 20) rfl))) (by decide) (t := (.array .byte)) (t' := (.array .byte)) (by decide) (by decide)))) (Exa.wr W4 (Exa.wr W3 (Exa.wr W2 E_a))) (Or.inr ⟨(hw _ (List.mem_of_getElem? (i := 22) rfl)), rfl, hnm⟩) (hw _ (List.mem_of_getElem? (i := 2) rfl)) (ty := (.array .byte)) (by decide) rfl rfl (g := (mkF m 23 #[.val (.ref a), .val (.long x1), .second, .val (.ref y1), .val (.ref y2), .val (.ref y3), .val (.int z1), .val (.int z2)] [(.ref y3), (.ref a)])) rfl rfl (hb hby d1_23)
  have Fw5 : Fld Z h5 a "com/example/garante/garante/intel/EnclaveReport" "mrSigner" "[B" (.ref y3) := Fld.same W5 (Fld.other W4 (Fld.other W3 (Fld.other W2 F_mrSigner_a (Or.inr (slot_ne (a0 := a0) (Or.inr (hw _ (List.mem_of_getElem? (i := 22) rfl))) (Or.inr (hw _ (List.mem_of_getElem? (i := 16) rfl))) (by decide) (t := (.array .byte)) (t' := .long) (by decide) (by decide)))) (Or.inr (slot_ne (a0 := a0) (Or.inr (hw _ (List.mem_of_getElem? (i := 22) rfl))) (Or.inr (hw _ (List.mem_of_getElem? (i := 18) rfl))) (by decide) (t := (.array .byte)) (t' := (.array .byte)) (by decide) (by decide)))) (Or.inr (slot_ne (a0 := a0) (Or.inr (hw _ (List.mem_of_getElem? (i := 22) rfl))) (Or.inr (hw _ (List.mem_of_getElem? (i := 20) rfl))) (by decide) (t := (.array .byte)) (t' := (.array .byte)) (by decide) (by decide))))
  have K5 : Keep h0 h5 [a] := Keep.wr K4 W5 (Or.inl (List.mem_of_getElem? (i := 0) rfl))
  have N5 := Fr.snoc X5 N4 g_a
  refine own_by (T' := T5) (g' := (mkF m 26 #[.val (.ref a), .val (.long x1), .second, .val (.ref y1), .val (.ref y2), .val (.ref y3), .val (.int z1), .val (.int z2)] [])) (fun _ k => st5 _ k) ?_
  refine own_by (T' := T5) (g' := (mkF m 27 #[.val (.ref a), .val (.long x1), .second, .val (.ref y1), .val (.ref y2), .val (.ref y3), .val (.int z1), .val (.int z2)] [(.ref a)])) (fun _ k => XS.aloadN X5.here hx rfl (hb hby d1_26) rfl rfl k) ?_
  refine own_by (T' := T5) (g' := (mkF m 29 #[.val (.ref a), .val (.long x1), .second, .val (.ref y1), .val (.ref y2), .val (.ref y3), .val (.int z1), .val (.int z2)] [(.int z1), (.ref a)])) (fun _ k => XS.iload X5.here hx rfl (hb hby d1_27) rfl k) ?_
  obtain ⟨T6, h6, X6, e6, W6, st6⟩ := putF X5 hx hZ hown (host := "") (Or.inl (hw _ (List.mem_of_getElem? (i := 23) rfl))) Via.refl e5 (Fld.other W5 (Fld.other W4 (Fld.other W3 (Fld.other W2 F_isvProductId_a (Or.inr (slot_ne (a0 := a0) (Or.inr (hw _ (List.mem_of_getElem? (i := 24) rfl))) (Or.inr (hw _ (List.mem_of_getElem? (i := 16) rfl))) (by decide) (t := .int) (t' := .long) (by decide) (by decide)))) (Or.inr (slot_ne (a0 := a0) (Or.inr (hw _ (List.mem_of_getElem? (i := 24) rfl))) (Or.inr (hw _ (List.mem_of_getElem? (i := 18) rfl))) (by decide) (t := .int) (t' := (.array .byte)) (by decide) (by decide)))) (Or.inr (slot_ne (a0 := a0) (Or.inr (hw _ (List.mem_of_getElem? (i := 24) rfl))) (Or.inr (hw _ (List.mem_of_getElem? (i := 20) rfl))) (by decide) (t := .int) (t' := (.array .byte)) (by decide) (by decide)))) (Or.inr (slot_ne (a0 := a0) (Or.inr (hw _ (List.mem_of_getElem? (i := 24) rfl))) (Or.inr (hw _ (List.mem_of_getElem? (i := 22) rfl))) (by decide) (t := .int) (t' := (.array .byte)) (by decide) (by decide)))) (Exa.wr W5 (Exa.wr W4 (Exa.wr W3 (Exa.wr W2 E_a)))) (Or.inr ⟨(hw _ (List.mem_of_getElem? (i := 24) rfl)), rfl, hnm⟩) (hw _ (List.mem_of_getElem? (i := 2) rfl)) (ty := .int) (by decide) rfl rfl (g := (mkF m 29 #[.val (.ref a), .val (.long x1), .second, .val (.ref y1), .val (.ref y2), .val (.ref y3), .val (.int z1), .val (.int z2)] [(.int z1), (.ref a)])) rfl rfl (hb hby d1_29)
  have Fw6 : Fld Z h6 a "com/example/garante/garante/intel/EnclaveReport" "isvProductId" "I" (.int z1) := Fld.same W6 (Fld.other W5 (Fld.other W4 (Fld.other W3 (Fld.other W2 F_isvProductId_a (Or.inr (slot_ne (a0 := a0) (Or.inr (hw _ (List.mem_of_getElem? (i := 24) rfl))) (Or.inr (hw _ (List.mem_of_getElem? (i := 16) rfl))) (by decide) (t := .int) (t' := .long) (by decide) (by decide)))) (Or.inr (slot_ne (a0 := a0) (Or.inr (hw _ (List.mem_of_getElem? (i := 24) rfl))) (Or.inr (hw _ (List.mem_of_getElem? (i := 18) rfl))) (by decide) (t := .int) (t' := (.array .byte)) (by decide) (by decide)))) (Or.inr (slot_ne (a0 := a0) (Or.inr (hw _ (List.mem_of_getElem? (i := 24) rfl))) (Or.inr (hw _ (List.mem_of_getElem? (i := 20) rfl))) (by decide) (t := .int) (t' := (.array .byte)) (by decide) (by decide)))) (Or.inr (slot_ne (a0 := a0) (Or.inr (hw _ (List.mem_of_getElem? (i := 24) rfl))) (Or.inr (hw _ (List.mem_of_getElem? (i := 22) rfl))) (by decide) (t := .int) (t' := (.array .byte)) (by decide) (by decide))))
  have K6 : Keep h0 h6 [a] := Keep.wr K5 W6 (Or.inl (List.mem_of_getElem? (i := 0) rfl))
  have N6 := Fr.snoc X6 N5 g_a
  refine own_by (T' := T6) (g' := (mkF m 32 #[.val (.ref a), .val (.long x1), .second, .val (.ref y1), .val (.ref y2), .val (.ref y3), .val (.int z1), .val (.int z2)] [])) (fun _ k => st6 _ k) ?_
  refine own_by (T' := T6) (g' := (mkF m 33 #[.val (.ref a), .val (.long x1), .second, .val (.ref y1), .val (.ref y2), .val (.ref y3), .val (.int z1), .val (.int z2)] [(.ref a)])) (fun _ k => XS.aloadN X6.here hx rfl (hb hby d1_32) rfl rfl k) ?_
  refine own_by (T' := T6) (g' := (mkF m 35 #[.val (.ref a), .val (.long x1), .second, .val (.ref y1), .val (.ref y2), .val (.ref y3), .val (.int z1), .val (.int z2)] [(.int z2), (.ref a)])) (fun _ k => XS.iload X6.here hx rfl (hb hby d1_33) rfl k) ?_
  obtain ⟨T7, h7, X7, e7, W7, st7⟩ := putF X6 hx hZ hown (host := "") (Or.inl (hw _ (List.mem_of_getElem? (i := 25) rfl))) Via.refl e6 (Fld.other W6 (Fld.other W5 (Fld.other W4 (Fld.other W3 (Fld.other W2 F_isvSvn_a (Or.inr (slot_ne (a0 := a0) (Or.inr (hw _ (List.mem_of_getElem? (i := 26) rfl))) (Or.inr (hw _ (List.mem_of_getElem? (i := 16) rfl))) (by decide) (t := .int) (t' := .long) (by decide) (by decide)))) (Or.inr (slot_ne (a0 := a0) (Or.inr (hw _ (List.mem_of_getElem? (i := 26) rfl))) (Or.inr (hw _ (List.mem_of_getElem? (i := 18) rfl))) (by decide) (t := .int) (t' := (.array .byte)) (by decide) (by decide)))) (Or.inr (slot_ne (a0 := a0) (Or.inr (hw _ (List.mem_of_getElem? (i := 26) rfl))) (Or.inr (hw _ (List.mem_of_getElem? (i := 20) rfl))) (by decide) (t := .int) (t' := (.array .byte)) (by decide) (by decide)))) (Or.inr (slot_ne (a0 := a0) (Or.inr (hw _ (List.mem_of_getElem? (i := 26) rfl))) (Or.inr (hw _ (List.mem_of_getElem? (i := 22) rfl))) (by decide) (t := .int) (t' := (.array .byte)) (by decide) (by decide)))) (Or.inr (slot_ne (a0 := a0) (Or.inr (hw _ (List.mem_of_getElem? (i := 26) rfl))) (Or.inr (hw _ (List.mem_of_getElem? (i := 24) rfl))) (by decide) (t := .int) (t' := .int) (by decide) (by decide)))) (Exa.wr W6 (Exa.wr W5 (Exa.wr W4 (Exa.wr W3 (Exa.wr W2 E_a))))) (Or.inr ⟨(hw _ (List.mem_of_getElem? (i := 26) rfl)), rfl, hnm⟩) (hw _ (List.mem_of_getElem? (i := 2) rfl)) (ty := .int) (by decide) rfl rfl (g := (mkF m 35 #[.val (.ref a), .val (.long x1), .second, .val (.ref y1), .val (.ref y2), .val (.ref y3), .val (.int z1), .val (.int z2)] [(.int z2), (.ref a)])) rfl rfl (hb hby d1_35)
  have Fw7 : Fld Z h7 a "com/example/garante/garante/intel/EnclaveReport" "isvSvn" "I" (.int z2) := Fld.same W7 (Fld.other W6 (Fld.other W5 (Fld.other W4 (Fld.other W3 (Fld.other W2 F_isvSvn_a (Or.inr (slot_ne (a0 := a0) (Or.inr (hw _ (List.mem_of_getElem? (i := 26) rfl))) (Or.inr (hw _ (List.mem_of_getElem? (i := 16) rfl))) (by decide) (t := .int) (t' := .long) (by decide) (by decide)))) (Or.inr (slot_ne (a0 := a0) (Or.inr (hw _ (List.mem_of_getElem? (i := 26) rfl))) (Or.inr (hw _ (List.mem_of_getElem? (i := 18) rfl))) (by decide) (t := .int) (t' := (.array .byte)) (by decide) (by decide)))) (Or.inr (slot_ne (a0 := a0) (Or.inr (hw _ (List.mem_of_getElem? (i := 26) rfl))) (Or.inr (hw _ (List.mem_of_getElem? (i := 20) rfl))) (by decide) (t := .int) (t' := (.array .byte)) (by decide) (by decide)))) (Or.inr (slot_ne (a0 := a0) (Or.inr (hw _ (List.mem_of_getElem? (i := 26) rfl))) (Or.inr (hw _ (List.mem_of_getElem? (i := 22) rfl))) (by decide) (t := .int) (t' := (.array .byte)) (by decide) (by decide)))) (Or.inr (slot_ne (a0 := a0) (Or.inr (hw _ (List.mem_of_getElem? (i := 26) rfl))) (Or.inr (hw _ (List.mem_of_getElem? (i := 24) rfl))) (by decide) (t := .int) (t' := .int) (by decide) (by decide))))
  have K7 : Keep h0 h7 [a] := Keep.wr K6 W7 (Or.inl (List.mem_of_getElem? (i := 0) rfl))
  have N7 := Fr.snoc X7 N6 g_a
  refine own_by (T' := T7) (g' := (mkF m 38 #[.val (.ref a), .val (.long x1), .second, .val (.ref y1), .val (.ref y2), .val (.ref y3), .val (.int z1), .val (.int z2)] [])) (fun _ k => st7 _ k) ?_
  refine own_ret X7 hlk (v := none) (fun _ => rfl) (fun fs hr => X7.returnOut hx Bd.returns (hb hby d1_38) hr) ?_ (by decide) (by decide)
  rw [e7]
  exact ⟨rfl, N7, K7, (Fld.other W7 (Fld.other W6 (Fld.other W5 (Fld.other W4 Fw3 (Or.inr (slot_ne (a0 := a0) (Or.inr (hw _ (List.mem_of_getElem? (i := 18) rfl))) (Or.inr (hw _ (List.mem_of_getElem? (i := 20) rfl))) (by decide) (t := (.array .byte)) (t' := (.array .byte)) (by decide) (by decide)))) (Or.inr (slot_ne (a0 := a0) (Or.inr (hw _ (List.mem_of_getElem? (i := 18) rfl))) (Or.inr (hw _ (List.mem_of_getElem? (i := 22) rfl))) (by decide) (t := (.array .byte)) (t' := (.array .byte)) (by decide) (by decide)))) (Or.inr (slot_ne (a0 := a0) (Or.inr (hw _ (List.mem_of_getElem? (i := 18) rfl))) (Or.inr (hw _ (List.mem_of_getElem? (i := 24) rfl))) (by decide) (t := (.array .byte)) (t' := .int) (by decide) (by decide)))) (Or.inr (slot_ne (a0 := a0) (Or.inr (hw _ (List.mem_of_getElem? (i := 18) rfl))) (Or.inr (hw _ (List.mem_of_getElem? (i := 26) rfl))) (by decide) (t := (.array .byte)) (t' := .int) (by decide) (by decide))))⟩
theorem d4_0 : decode prog_30_method_3_code 0 = .ok (.aload_n 0, 1) := by decide +kernel
theorem d4_1 : decode prog_30_method_3_code 1 = .ok (.getfield 13, 3) := by decide +kernel
theorem d4_4 : decode prog_30_method_3_code 4 = .ok (.iconst 0, 1) := by decide +kernel
theorem d4_5 : decode prog_30_method_3_code 5 = .ok (.baload, 1) := by decide +kernel
theorem d4_6 : decode prog_30_method_3_code 6 = .ok (.iconst 2, 1) := by decide +kernel
theorem d4_7 : decode prog_30_method_3_code 7 = .ok (.iand, 1) := by decide +kernel
theorem d4_8 : decode prog_30_method_3_code 8 = .ok (.ifCond .eq 7, 3) := by decide +kernel
theorem d4_11 : decode prog_30_method_3_code 11 = .ok (.iconst 1, 1) := by decide +kernel
theorem d4_12 : decode prog_30_method_3_code 12 = .ok (.goto 4, 3) := by decide +kernel
theorem d4_15 : decode prog_30_method_3_code 15 = .ok (.iconst 0, 1) := by decide +kernel
theorem d4_16 : decode prog_30_method_3_code 16 = .ok (.ireturn, 1) := by decide +kernel
theorem pn_4 : plainName "com/example/garante/garante/intel/EnclaveReport" = true := by first | (simp [plainName, overriddenIn]; done) | decide +kernel
theorem ef_rm4 (m : MethodId) (a : Addr) : entryFrame m #[(.ref a)] 1 = mkF m 0 #[.val (.ref a)] [] := by first | (simp [entryFrame, mkF, argsToLocals, Value.category]; done) | rfl
def Q_rm4 (Z : State) (a : Addr) (y1 : Addr) (cl : Cell) (b : Int32) (h0 : Heap) (n0 : Nat) (v : Option Value) (h : Heap) (L : List Loc) : Prop := v = some (.int (own_dbg b)) ∧ Fr n0 L ∧ h = h0
set_option maxRecDepth 65536 in
set_option maxHeartbeats 40000000 in
theorem rm4 (l : Launch) (Z : State) (a0 : Array Value) (hw : ∀ d ∈ tables_1, d.before a0 Z = true) (ws : List Jvm.Cond) (a : Addr) (y1 : Addr) (cl : Cell) (b : Int32) (h0 : Heap) (n0 : Nat) (Z0 : n0 ≤ h0.size) (F_attributes_a : Fld Z h0 a "com/example/garante/garante/intel/EnclaveReport" "attributes" "[B" (.ref y1)) (Ar : Arr Z h0 y1 cl .byte) (hin : ¬ ((0 : Int32) < 0 ∨ cl.slots.size ≤ ((0 : Int32)).toNatClampNeg)) (hat : cl.slots[((0 : Int32)).toNatClampNeg]? = some (.int b)) :
    MetFree l (⟨"com/example/garante/garante/intel/EnclaveReport", "isDebug", "()Z"⟩ : MethodName) (head1 (Jvm.Cond.code (⟨"com/example/garante/garante/intel/EnclaveReport", "isDebug", "()Z"⟩ : MethodName) prog_30_method_3_code 1 (some .boolean) :: ws) ({ frames := 0, cells := 0, slots := 0, locals := 0 } : Room)) (fun zz UU => zz = #[(.ref a)] ∧ Z.Warmed39 UU.vm ∧ UU.heap = h0) (fun _ _ _ _ _ => True) (fun _ U o U' => ∃ v L, o = .returned v ∧ Q_rm4 Z a y1 cl b h0 n0 v U'.heap L ∧ FrameEnd U o U' L ({ frames := 0, cells := 0, slots := 0, locals := 0 } : Room).cells ({ frames := 0, cells := 0, slots := 0, locals := 0 } : Room).slots) := by
  refine MetFree.of_bodySF (plainFor_of_name pn_4) hisR ?_
  intro p e s m args below meth c s₁ Bd hml0 hP hK
  obtain ⟨rfl, hZ, hh⟩ := hP
  have hx := Bd.exec
  have hby := Bd.bytes
  have hml : c.maxLocals = 1 := hml0
  have hown : s.vm.findClass "com/example/garante/garante/intel/EnclaveReport" = some m.cls := findClass_of_methodNamed Bd.named
  have hnm := (name_of_methodNamed Bd.named Bd.method).1
  have hlk : meth.locks = false := BodyLoose.notSynchronized Bd
  have X0 : Stand p l e ({ frames := 0, cells := 0, slots := 0, locals := 0 } : Room) s m #[(.ref a)] below meth c s₁ [] 0 0 := Stand.of_body Bd
  have e0 : s₁.heap = h0 := by rw [← hh, Bd.state]; rfl
  have N0 := Fr.nil n0
  show own_Go p.tables e below (Q_rm4 Z a y1 cl b h0 n0) s ({ frames := 0, cells := 0, slots := 0, locals := 0 } : Room).cells ({ frames := 0, cells := 0, slots := 0, locals := 0 } : Room).slots s₁ (entryFrame m #[(.ref a)] 1)
  rw [ef_rm4 m a]
  refine own_by (T' := s₁) (g' := (mkF m 1 #[.val (.ref a)] [(.ref a)])) (fun _ k => XS.aloadN X0.here hx rfl (hb hby d4_0) rfl rfl k) ?_
  obtain ⟨T1, X1, e1, st1⟩ := getF X0 hx hZ hown (host := "") (Or.inl (hw _ (List.mem_of_getElem? (i := 17) rfl))) Via.refl e0 F_attributes_a (g := (mkF m 1 #[.val (.ref a)] [(.ref a)])) rfl rfl (hb hby d4_1)
  refine own_by (T' := T1) (g' := (mkF m 4 #[.val (.ref a)] [(.ref y1)])) (fun _ k => st1 _ k) ?_
  refine own_by (T' := T1) (g' := (mkF m 5 #[.val (.ref a)] [(.int (0 : Int32)), (.ref y1)])) (fun _ k => XS.iconst X1.here hx rfl (hb hby d4_4) k) ?_
  refine own_by (T' := T1) (g' := (mkF m 6 #[.val (.ref a)] [(.int b)])) (fun _ k => X1.baloadBytes hx (j := (0 : Int32)) (v := (.int b)) (by rw [e1]; exact Ar.1) (State.isArrayOf_alike hZ.alike Ar.2.1) Ar.2.2 hin hat (g := (mkF m 5 #[.val (.ref a)] [(.int (0 : Int32)), (.ref y1)])) rfl rfl (hb hby d4_5) _ k) ?_
  refine own_by (T' := T1) (g' := (mkF m 7 #[.val (.ref a)] [(.int (2 : Int32)), (.int b)])) (fun _ k => XS.iconst X1.here hx rfl (hb hby d4_6) k) ?_
  refine own_by (T' := T1) (g' := (mkF m 8 #[.val (.ref a)] [(.int (b &&& (2 : Int32)))])) (fun _ k => XS.iand X1.here hx rfl (hb hby d4_7) rfl k) ?_
  by_cases hc8_2 : (b &&& (2 : Int32)) = (0 : Int32)
  · skip
    refine own_by (T' := T1) (g' := (mkF m 15 #[.val (.ref a)] [])) (fun _ k => XS.ifYes X1.here hx rfl (pc0 := 8) (pc' := 15) rfl (hb hby d4_8) rfl ((if0 _ _).trans (teq hc8_2).1) (by decide) (by decide) k) ?_
    refine own_by (T' := T1) (g' := (mkF m 16 #[.val (.ref a)] [(.int (0 : Int32))])) (fun _ k => XS.iconst X1.here hx rfl (hb hby d4_15) k) ?_
    refine own_ret X1 hlk (v := some (.int (0 : Int32))) (fun h => by rw [Bd.returns] at h; cases h) (fun fs hr => retN X1 hx (t := .boolean) Bd.returns (by simp) (hb hby d4_16) hr) ?_ (by decide) (by decide)
    rw [e1]
    exact ⟨congrArg (fun z => some (Value.int z)) (if_pos hc8_2).symm, N0, rfl⟩
  · skip
    refine own_by (T' := T1) (g' := (mkF m 11 #[.val (.ref a)] [])) (fun _ k => XS.ifNo X1.here hx rfl (hb hby d4_8) rfl ((if0 _ _).trans (feq hc8_2).1) k) ?_
    refine own_by (T' := T1) (g' := (mkF m 12 #[.val (.ref a)] [(.int (1 : Int32))])) (fun _ k => XS.iconst X1.here hx rfl (hb hby d4_11) k) ?_
    refine own_by (T' := T1) (g' := (mkF m 16 #[.val (.ref a)] [(.int (1 : Int32))])) (fun _ k => XS.goto X1.here hx rfl (pc0 := 12) (pc' := 16) rfl (hb hby d4_12) (by decide) (by decide) k) ?_
    refine own_ret X1 hlk (v := some (.int (1 : Int32))) (fun h => by rw [Bd.returns] at h; cases h) (fun fs hr => retN X1 hx (t := .boolean) Bd.returns (by simp) (hb hby d4_16) hr) ?_ (by decide) (by decide)
    rw [e1]
    exact ⟨congrArg (fun z => some (Value.int z)) (if_neg hc8_2).symm, N0, rfl⟩
theorem pn_0 : plainName "com/example/garante/garante/intel/EnclaveReportIsDebugPinLaw" = true := by first | (simp [plainName, overriddenIn]; done) | decide +kernel
theorem ef_rm0 (m : MethodId) (ms : Int64) (a0x : Int32) (ot : Int32) (pr : Int32) (sv : Int32) (me : Int32) : entryFrame m #[(.long ms), (.int a0x), (.int ot), (.int pr), (.int sv), (.int me)] maxLocals = mkF m 0 #[.val (.long ms), .second, .val (.int a0x), .val (.int ot), .val (.int pr), .val (.int sv), .val (.int me), .unset, .unset, .unset, .unset, .unset, .unset, .unset] [] := by first | (simp [entryFrame, mkF, argsToLocals, Value.category, maxLocals]; done) | rfl
def Q_rm0 (Z : State) (ms : Int64) (a0x : Int32) (ot : Int32) (pr : Int32) (sv : Int32) (me : Int32) (h0 : Heap) (n0 : Nat) (v : Option Value) (h : Heap) (L : List Loc) : Prop := v = some (.int 1) ∧ Fr n0 L
set_option maxRecDepth 65536 in
set_option maxHeartbeats 40000000 in
theorem rm0 (l : Launch) (Z : State) (a0 : Array Value) (hw : ∀ d ∈ tables_1, d.before a0 Z = true) (ws : List Jvm.Cond) (ms : Int64) (a0x : Int32) (ot : Int32) (pr : Int32) (sv : Int32) (me : Int32) (h0 : Heap) (n0 : Nat) (Z0 : n0 ≤ h0.size) :
    MetFree l x (head1 (Jvm.Cond.code x code maxLocals ret :: ws) room_1) (fun zz UU => zz = #[(.long ms), (.int a0x), (.int ot), (.int pr), (.int sv), (.int me)] ∧ Z.Warmed39 UU.vm ∧ UU.heap = h0) (fun _ _ _ _ _ => True) (fun _ U o U' => ∃ v L, o = .returned v ∧ Q_rm0 Z ms a0x ot pr sv me h0 n0 v U'.heap L ∧ FrameEnd U o U' L 16 256) := by
  refine MetFree.of_bodySF (plainFor_of_name pn_0) hisR ?_
  intro p e s m args below meth c s₁ Bd hml0 hP hK
  obtain ⟨rfl, hZ, hh⟩ := hP
  have hx := Bd.exec
  have hby := Bd.bytes
  have hml : c.maxLocals = 14 := hml0
  have hown : s.vm.findClass "com/example/garante/garante/intel/EnclaveReportIsDebugPinLaw" = some m.cls := findClass_of_methodNamed Bd.named
  have hnm := (name_of_methodNamed Bd.named Bd.method).1
  have hlk : meth.locks = false := BodyLoose.notSynchronized Bd
  have X0 : Stand p l e room_1 s m #[(.long ms), (.int a0x), (.int ot), (.int pr), (.int sv), (.int me)] below meth c s₁ [] 0 0 := Stand.of_body Bd
  have e0 : s₁.heap = h0 := by rw [← hh, Bd.state]; rfl
  have N0 := Fr.nil n0
  show own_Go p.tables e below (Q_rm0 Z ms a0x ot pr sv me h0 n0) s 16 256 s₁ (entryFrame m #[(.long ms), (.int a0x), (.int ot), (.int pr), (.int sv), (.int me)] maxLocals)
  rw [ef_rm0 m ms a0x ot pr sv me]
  refine own_by (T' := s₁) (g' := (mkF m 2 #[.val (.long ms), .second, .val (.int a0x), .val (.int ot), .val (.int pr), .val (.int sv), .val (.int me), .unset, .unset, .unset, .unset, .unset, .unset, .unset] [(.int (16 : Int32))])) (fun _ k => XS.bipush X0.here hx rfl (hb hby at_0) k) ?_
  obtain ⟨T1, h1, k1, X1, e1, E1, A1, st1⟩ := newP X0 hx hZ (hw _ (List.mem_of_getElem? (i := 0) rfl)) e0 (g := (mkF m 2 #[.val (.long ms), .second, .val (.int a0x), .val (.int ot), .val (.int pr), .val (.int sv), .val (.int me), .unset, .unset, .unset, .unset, .unset, .unset, .unset] [(.int (16 : Int32))])) rfl (hb hby at_2) rfl (by decide) (cap := 16) (by decide) (by decide) (by decide) (by decide)
  obtain ⟨b1, g1⟩ : ∃ z, z = h0.size := ⟨_, rfl⟩
  rw [← g1] at A1 st1
  have V_b1 : Arv Z h1 b1 k1 .byte (16 : Int32) [(.int (0 : Int32)), (.int (0 : Int32)), (.int (0 : Int32)), (.int (0 : Int32)), (.int (0 : Int32)), (.int (0 : Int32)), (.int (0 : Int32)), (.int (0 : Int32)), (.int (0 : Int32)), (.int (0 : Int32)), (.int (0 : Int32)), (.int (0 : Int32)), (.int (0 : Int32)), (.int (0 : Int32)), (.int (0 : Int32)), (.int (0 : Int32))] (.int (0 : Int32)) := (Arv.new A1 (by decide)).pad (pad_rep [] (.int (0 : Int32)) 16)
  have g_b1 : n0 ≤ b1 := Nat.le_trans Z0 (Nat.le_of_eq g1.symm)
  have sz_b1 : h0.size ≤ b1 := Nat.le_trans (Keep.refl h0 []).1 (Nat.le_of_eq g1.symm)
  have K1 : Keep h0 h1 [] := Keep.ext (Keep.refl h0 []) E1
  refine own_by (T' := T1) (g' := (mkF m 4 #[.val (.long ms), .second, .val (.int a0x), .val (.int ot), .val (.int pr), .val (.int sv), .val (.int me), .unset, .unset, .unset, .unset, .unset, .unset, .unset] [(.ref b1)])) (fun _ k => st1 _ k) ?_
  refine own_by (T' := T1) (g' := (mkF m 6 #[.val (.long ms), .second, .val (.int a0x), .val (.int ot), .val (.int pr), .val (.int sv), .val (.int me), .val (.ref b1), .unset, .unset, .unset, .unset, .unset, .unset] [])) (fun _ k => XS.astore X1.here hx rfl (hb hby at_4) rfl rfl (l' := #[.val (.long ms), .second, .val (.int a0x), .val (.int ot), .val (.int pr), .val (.int sv), .val (.int me), .val (.ref b1), .unset, .unset, .unset, .unset, .unset, .unset]) rfl k) ?_
  refine own_by (T' := T1) (g' := (mkF m 8 #[.val (.long ms), .second, .val (.int a0x), .val (.int ot), .val (.int pr), .val (.int sv), .val (.int me), .val (.ref b1), .unset, .unset, .unset, .unset, .unset, .unset] [(.ref b1)])) (fun _ k => XS.aload X1.here hx rfl (hb hby at_6) rfl rfl k) ?_
  refine own_by (T' := T1) (g' := (mkF m 9 #[.val (.long ms), .second, .val (.int a0x), .val (.int ot), .val (.int pr), .val (.int sv), .val (.int me), .val (.ref b1), .unset, .unset, .unset, .unset, .unset, .unset] [(.int (0 : Int32)), (.ref b1)])) (fun _ k => XS.iconst X1.here hx rfl (hb hby at_8) k) ?_
  refine own_by (T' := T1) (g' := (mkF m 10 #[.val (.long ms), .second, .val (.int a0x), .val (.int ot), .val (.int pr), .val (.int sv), .val (.int me), .val (.ref b1), .unset, .unset, .unset, .unset, .unset, .unset] [(.int a0x), (.int (0 : Int32)), (.ref b1)])) (fun _ k => XS.iloadN X1.here hx rfl (hb hby at_9) rfl k) ?_
  refine own_by (T' := T1) (g' := (mkF m 11 #[.val (.long ms), .second, .val (.int a0x), .val (.int ot), .val (.int pr), .val (.int sv), .val (.int me), .val (.ref b1), .unset, .unset, .unset, .unset, .unset, .unset] [(.int (a0x.toInt8.toInt32)), (.int (0 : Int32)), (.ref b1)])) (fun _ k => XS.i2b X1.here hx rfl (hb hby at_10) rfl k) ?_
  obtain ⟨cl2, Ar2, q2, S2, N_2, H2, G2⟩ := V_b1
  have hin2 : ¬ ((0 : Int32) < 0 ∨ cl2.slots.size ≤ ((0 : Int32)).toNatClampNeg) := inb_of S2 ⟨by decide, by decide⟩
  obtain ⟨T3, h3, X3, e3, W3, st3⟩ := stB X1 hx hZ e1 Ar2 (j := (0 : Int32)) hin2 (g := (mkF m 11 #[.val (.long ms), .second, .val (.int a0x), .val (.int ot), .val (.int pr), .val (.int sv), .val (.int me), .val (.ref b1), .unset, .unset, .unset, .unset, .unset, .unset] [(.int (a0x.toInt8.toInt32)), (.int (0 : Int32)), (.ref b1)])) rfl rfl (hb hby at_11)
  have V3 : Arv Z h3 b1 k1 .byte (16 : Int32) [(.int (nar .byte (a0x.toInt8.toInt32))), (.int (0 : Int32)), (.int (0 : Int32)), (.int (0 : Int32)), (.int (0 : Int32)), (.int (0 : Int32)), (.int (0 : Int32)), (.int (0 : Int32)), (.int (0 : Int32)), (.int (0 : Int32)), (.int (0 : Int32)), (.int (0 : Int32)), (.int (0 : Int32)), (.int (0 : Int32)), (.int (0 : Int32)), (.int (0 : Int32))] (.int (0 : Int32)) := Arv.set Ar2 q2 S2 N_2 H2 G2 (fits_nar_byte _) W3 0 rfl (Nat.le_of_ble_eq_true rfl)
  have K3 : Keep h0 h3 [] := Keep.wr K1 W3 (Or.inr sz_b1)
  have N3 := Fr.snoc X3 N0 g_b1
  refine own_by (T' := T3) (g' := (mkF m 12 #[.val (.long ms), .second, .val (.int a0x), .val (.int ot), .val (.int pr), .val (.int sv), .val (.int me), .val (.ref b1), .unset, .unset, .unset, .unset, .unset, .unset] [])) (fun _ k => st3 _ k) ?_
  refine own_by (T' := T3) (g' := (mkF m 14 #[.val (.long ms), .second, .val (.int a0x), .val (.int ot), .val (.int pr), .val (.int sv), .val (.int me), .val (.ref b1), .unset, .unset, .unset, .unset, .unset, .unset] [(.ref b1)])) (fun _ k => XS.aload X3.here hx rfl (hb hby at_12) rfl rfl k) ?_
  refine own_by (T' := T3) (g' := (mkF m 15 #[.val (.long ms), .second, .val (.int a0x), .val (.int ot), .val (.int pr), .val (.int sv), .val (.int me), .val (.ref b1), .unset, .unset, .unset, .unset, .unset, .unset] [(.int (1 : Int32)), (.ref b1)])) (fun _ k => XS.iconst X3.here hx rfl (hb hby at_14) k) ?_
  refine own_by (T' := T3) (g' := (mkF m 16 #[.val (.long ms), .second, .val (.int a0x), .val (.int ot), .val (.int pr), .val (.int sv), .val (.int me), .val (.ref b1), .unset, .unset, .unset, .unset, .unset, .unset] [(.int ot), (.int (1 : Int32)), (.ref b1)])) (fun _ k => XS.iloadN X3.here hx rfl (hb hby at_15) rfl k) ?_
  refine own_by (T' := T3) (g' := (mkF m 17 #[.val (.long ms), .second, .val (.int a0x), .val (.int ot), .val (.int pr), .val (.int sv), .val (.int me), .val (.ref b1), .unset, .unset, .unset, .unset, .unset, .unset] [(.int (ot.toInt8.toInt32)), (.int (1 : Int32)), (.ref b1)])) (fun _ k => XS.i2b X3.here hx rfl (hb hby at_16) rfl k) ?_
  obtain ⟨cl4, Ar4, q4, S4, N_4, H4, G4⟩ := V3
  have hin4 : ¬ ((1 : Int32) < 0 ∨ cl4.slots.size ≤ ((1 : Int32)).toNatClampNeg) := inb_of S4 ⟨by decide, by decide⟩
  obtain ⟨T5, h5, X5, e5, W5, st5⟩ := stB X3 hx hZ e3 Ar4 (j := (1 : Int32)) hin4 (g := (mkF m 17 #[.val (.long ms), .second, .val (.int a0x), .val (.int ot), .val (.int pr), .val (.int sv), .val (.int me), .val (.ref b1), .unset, .unset, .unset, .unset, .unset, .unset] [(.int (ot.toInt8.toInt32)), (.int (1 : Int32)), (.ref b1)])) rfl rfl (hb hby at_17)
  have V5 : Arv Z h5 b1 k1 .byte (16 : Int32) [(.int (nar .byte (a0x.toInt8.toInt32))), (.int (nar .byte (ot.toInt8.toInt32))), (.int (0 : Int32)), (.int (0 : Int32)), (.int (0 : Int32)), (.int (0 : Int32)), (.int (0 : Int32)), (.int (0 : Int32)), (.int (0 : Int32)), (.int (0 : Int32)), (.int (0 : Int32)), (.int (0 : Int32)), (.int (0 : Int32)), (.int (0 : Int32)), (.int (0 : Int32)), (.int (0 : Int32))] (.int (0 : Int32)) := Arv.set Ar4 q4 S4 N_4 H4 G4 (fits_nar_byte _) W5 1 rfl (Nat.le_of_ble_eq_true rfl)
  have K5 : Keep h0 h5 [] := Keep.wr K3 W5 (Or.inr sz_b1)
  have N5 := Fr.snoc X5 N3 g_b1
  refine own_by (T' := T5) (g' := (mkF m 18 #[.val (.long ms), .second, .val (.int a0x), .val (.int ot), .val (.int pr), .val (.int sv), .val (.int me), .val (.ref b1), .unset, .unset, .unset, .unset, .unset, .unset] [])) (fun _ k => st5 _ k) ?_
  refine own_by (T' := T5) (g' := (mkF m 20 #[.val (.long ms), .second, .val (.int a0x), .val (.int ot), .val (.int pr), .val (.int sv), .val (.int me), .val (.ref b1), .unset, .unset, .unset, .unset, .unset, .unset] [(.ref b1)])) (fun _ k => XS.aload X5.here hx rfl (hb hby at_18) rfl rfl k) ?_
  refine own_by (T' := T5) (g' := (mkF m 21 #[.val (.long ms), .second, .val (.int a0x), .val (.int ot), .val (.int pr), .val (.int sv), .val (.int me), .val (.ref b1), .unset, .unset, .unset, .unset, .unset, .unset] [(.int (2 : Int32)), (.ref b1)])) (fun _ k => XS.iconst X5.here hx rfl (hb hby at_20) k) ?_
  refine own_by (T' := T5) (g' := (mkF m 22 #[.val (.long ms), .second, .val (.int a0x), .val (.int ot), .val (.int pr), .val (.int sv), .val (.int me), .val (.ref b1), .unset, .unset, .unset, .unset, .unset, .unset] [(.int ot), (.int (2 : Int32)), (.ref b1)])) (fun _ k => XS.iloadN X5.here hx rfl (hb hby at_21) rfl k) ?_
  refine own_by (T' := T5) (g' := (mkF m 24 #[.val (.long ms), .second, .val (.int a0x), .val (.int ot), .val (.int pr), .val (.int sv), .val (.int me), .val (.ref b1), .unset, .unset, .unset, .unset, .unset, .unset] [(.int (8 : Int32)), (.int ot), (.int (2 : Int32)), (.ref b1)])) (fun _ k => XS.bipush X5.here hx rfl (hb hby at_22) k) ?_
  refine own_by (T' := T5) (g' := (mkF m 25 #[.val (.long ms), .second, .val (.int a0x), .val (.int ot), .val (.int pr), .val (.int sv), .val (.int me), .val (.ref b1), .unset, .unset, .unset, .unset, .unset, .unset] [(.int (ot >>> ((8 : Int32) &&& 31))), (.int (2 : Int32)), (.ref b1)])) (fun _ k => XS.ishr X5.here hx rfl (hb hby at_24) rfl k) ?_
  refine own_by (T' := T5) (g' := (mkF m 26 #[.val (.long ms), .second, .val (.int a0x), .val (.int ot), .val (.int pr), .val (.int sv), .val (.int me), .val (.ref b1), .unset, .unset, .unset, .unset, .unset, .unset] [(.int ((ot >>> ((8 : Int32) &&& 31)).toInt8.toInt32)), (.int (2 : Int32)), (.ref b1)])) (fun _ k => XS.i2b X5.here hx rfl (hb hby at_25) rfl k) ?_
  obtain ⟨cl6, Ar6, q6, S6, N_6, H6, G6⟩ := V5
  have hin6 : ¬ ((2 : Int32) < 0 ∨ cl6.slots.size ≤ ((2 : Int32)).toNatClampNeg) := inb_of S6 ⟨by decide, by decide⟩
  obtain ⟨T7, h7, X7, e7, W7, st7⟩ := stB X5 hx hZ e5 Ar6 (j := (2 : Int32)) hin6 (g := (mkF m 26 #[.val (.long ms), .second, .val (.int a0x), .val (.int ot), .val (.int pr), .val (.int sv), .val (.int me), .val (.ref b1), .unset, .unset, .unset, .unset, .unset, .unset] [(.int ((ot >>> ((8 : Int32) &&& 31)).toInt8.toInt32)), (.int (2 : Int32)), (.ref b1)])) rfl rfl (hb hby at_26)
  have V7 : Arv Z h7 b1 k1 .byte (16 : Int32) [(.int (nar .byte (a0x.toInt8.toInt32))), (.int (nar .byte (ot.toInt8.toInt32))), (.int (nar .byte ((ot >>> ((8 : Int32) &&& 31)).toInt8.toInt32))), (.int (0 : Int32)), (.int (0 : Int32)), (.int (0 : Int32)), (.int (0 : Int32)), (.int (0 : Int32)), (.int (0 : Int32)), (.int (0 : Int32)), (.int (0 : Int32)), (.int (0 : Int32)), (.int (0 : Int32)), (.int (0 : Int32)), (.int (0 : Int32)), (.int (0 : Int32))] (.int (0 : Int32)) := Arv.set Ar6 q6 S6 N_6 H6 G6 (fits_nar_byte _) W7 2 rfl (Nat.le_of_ble_eq_true rfl)
  have K7 : Keep h0 h7 [] := Keep.wr K5 W7 (Or.inr sz_b1)
  have N7 := Fr.snoc X7 N5 g_b1
  refine own_by (T' := T7) (g' := (mkF m 27 #[.val (.long ms), .second, .val (.int a0x), .val (.int ot), .val (.int pr), .val (.int sv), .val (.int me), .val (.ref b1), .unset, .unset, .unset, .unset, .unset, .unset] [])) (fun _ k => st7 _ k) ?_
  refine own_by (T' := T7) (g' := (mkF m 29 #[.val (.long ms), .second, .val (.int a0x), .val (.int ot), .val (.int pr), .val (.int sv), .val (.int me), .val (.ref b1), .unset, .unset, .unset, .unset, .unset, .unset] [(.ref b1)])) (fun _ k => XS.aload X7.here hx rfl (hb hby at_27) rfl rfl k) ?_
  refine own_by (T' := T7) (g' := (mkF m 31 #[.val (.long ms), .second, .val (.int a0x), .val (.int ot), .val (.int pr), .val (.int sv), .val (.int me), .val (.ref b1), .unset, .unset, .unset, .unset, .unset, .unset] [(.int (15 : Int32)), (.ref b1)])) (fun _ k => XS.bipush X7.here hx rfl (hb hby at_29) k) ?_
  refine own_by (T' := T7) (g' := (mkF m 32 #[.val (.long ms), .second, .val (.int a0x), .val (.int ot), .val (.int pr), .val (.int sv), .val (.int me), .val (.ref b1), .unset, .unset, .unset, .unset, .unset, .unset] [(.int ot), (.int (15 : Int32)), (.ref b1)])) (fun _ k => XS.iloadN X7.here hx rfl (hb hby at_31) rfl k) ?_
  refine own_by (T' := T7) (g' := (mkF m 34 #[.val (.long ms), .second, .val (.int a0x), .val (.int ot), .val (.int pr), .val (.int sv), .val (.int me), .val (.ref b1), .unset, .unset, .unset, .unset, .unset, .unset] [(.int (16 : Int32)), (.int ot), (.int (15 : Int32)), (.ref b1)])) (fun _ k => XS.bipush X7.here hx rfl (hb hby at_32) k) ?_
  refine own_by (T' := T7) (g' := (mkF m 35 #[.val (.long ms), .second, .val (.int a0x), .val (.int ot), .val (.int pr), .val (.int sv), .val (.int me), .val (.ref b1), .unset, .unset, .unset, .unset, .unset, .unset] [(.int (ot >>> ((16 : Int32) &&& 31))), (.int (15 : Int32)), (.ref b1)])) (fun _ k => XS.ishr X7.here hx rfl (hb hby at_34) rfl k) ?_
  refine own_by (T' := T7) (g' := (mkF m 36 #[.val (.long ms), .second, .val (.int a0x), .val (.int ot), .val (.int pr), .val (.int sv), .val (.int me), .val (.ref b1), .unset, .unset, .unset, .unset, .unset, .unset] [(.int ((ot >>> ((16 : Int32) &&& 31)).toInt8.toInt32)), (.int (15 : Int32)), (.ref b1)])) (fun _ k => XS.i2b X7.here hx rfl (hb hby at_35) rfl k) ?_
  obtain ⟨cl8, Ar8, q8, S8, N_8, H8, G8⟩ := V7
  have hin8 : ¬ ((15 : Int32) < 0 ∨ cl8.slots.size ≤ ((15 : Int32)).toNatClampNeg) := inb_of S8 ⟨by decide, by decide⟩
  obtain ⟨T9, h9, X9, e9, W9, st9⟩ := stB X7 hx hZ e7 Ar8 (j := (15 : Int32)) hin8 (g := (mkF m 36 #[.val (.long ms), .second, .val (.int a0x), .val (.int ot), .val (.int pr), .val (.int sv), .val (.int me), .val (.ref b1), .unset, .unset, .unset, .unset, .unset, .unset] [(.int ((ot >>> ((16 : Int32) &&& 31)).toInt8.toInt32)), (.int (15 : Int32)), (.ref b1)])) rfl rfl (hb hby at_36)
  have V9 : Arv Z h9 b1 k1 .byte (16 : Int32) [(.int (nar .byte (a0x.toInt8.toInt32))), (.int (nar .byte (ot.toInt8.toInt32))), (.int (nar .byte ((ot >>> ((8 : Int32) &&& 31)).toInt8.toInt32))), (.int (0 : Int32)), (.int (0 : Int32)), (.int (0 : Int32)), (.int (0 : Int32)), (.int (0 : Int32)), (.int (0 : Int32)), (.int (0 : Int32)), (.int (0 : Int32)), (.int (0 : Int32)), (.int (0 : Int32)), (.int (0 : Int32)), (.int (0 : Int32)), (.int (nar .byte ((ot >>> ((16 : Int32) &&& 31)).toInt8.toInt32)))] (.int (0 : Int32)) := Arv.set Ar8 q8 S8 N_8 H8 G8 (fits_nar_byte _) W9 15 rfl (Nat.le_of_ble_eq_true rfl)
  have K9 : Keep h0 h9 [] := Keep.wr K7 W9 (Or.inr sz_b1)
  have N9 := Fr.snoc X9 N7 g_b1
  refine own_by (T' := T9) (g' := (mkF m 37 #[.val (.long ms), .second, .val (.int a0x), .val (.int ot), .val (.int pr), .val (.int sv), .val (.int me), .val (.ref b1), .unset, .unset, .unset, .unset, .unset, .unset] [])) (fun _ k => st9 _ k) ?_
  refine own_by (T' := T9) (g' := (mkF m 39 #[.val (.long ms), .second, .val (.int a0x), .val (.int ot), .val (.int pr), .val (.int sv), .val (.int me), .val (.ref b1), .unset, .unset, .unset, .unset, .unset, .unset] [(.int (32 : Int32))])) (fun _ k => XS.bipush X9.here hx rfl (hb hby at_37) k) ?_
  obtain ⟨T10, h10, k10, X10, e10, E10, A10, st10⟩ := newP X9 hx hZ (hw _ (List.mem_of_getElem? (i := 0) rfl)) e9 (g := (mkF m 39 #[.val (.long ms), .second, .val (.int a0x), .val (.int ot), .val (.int pr), .val (.int sv), .val (.int me), .val (.ref b1), .unset, .unset, .unset, .unset, .unset, .unset] [(.int (32 : Int32))])) rfl (hb hby at_39) rfl (by decide) (cap := 32) (by decide) (by decide) (by decide) (by decide)
  obtain ⟨b10, g10⟩ : ∃ z, z = h9.size := ⟨_, rfl⟩
  rw [← g10] at A10 st10
  have V_b10 : Arv Z h10 b10 k10 .byte (32 : Int32) [(.int (0 : Int32)), (.int (0 : Int32)), (.int (0 : Int32)), (.int (0 : Int32)), (.int (0 : Int32)), (.int (0 : Int32)), (.int (0 : Int32)), (.int (0 : Int32)), (.int (0 : Int32)), (.int (0 : Int32)), (.int (0 : Int32)), (.int (0 : Int32)), (.int (0 : Int32)), (.int (0 : Int32)), (.int (0 : Int32)), (.int (0 : Int32)), (.int (0 : Int32)), (.int (0 : Int32)), (.int (0 : Int32)), (.int (0 : Int32)), (.int (0 : Int32)), (.int (0 : Int32)), (.int (0 : Int32)), (.int (0 : Int32)), (.int (0 : Int32)), (.int (0 : Int32)), (.int (0 : Int32)), (.int (0 : Int32)), (.int (0 : Int32)), (.int (0 : Int32)), (.int (0 : Int32)), (.int (0 : Int32))] (.int (0 : Int32)) := (Arv.new A10 (by decide)).pad (pad_rep [] (.int (0 : Int32)) 32)
  have g_b10 : n0 ≤ b10 := Nat.le_trans (Nat.le_trans (Nat.le_trans (Nat.le_trans (Nat.le_trans (Nat.le_trans Z0 E1.1) (Keep.of_wr W3).1) (Keep.of_wr W5).1) (Keep.of_wr W7).1) (Keep.of_wr W9).1) (Nat.le_of_eq g10.symm)
  have sz_b10 : h0.size ≤ b10 := Nat.le_trans K9.1 (Nat.le_of_eq g10.symm)
  have K10 : Keep h0 h10 [] := Keep.ext K9 E10
  refine own_by (T' := T10) (g' := (mkF m 41 #[.val (.long ms), .second, .val (.int a0x), .val (.int ot), .val (.int pr), .val (.int sv), .val (.int me), .val (.ref b1), .unset, .unset, .unset, .unset, .unset, .unset] [(.ref b10)])) (fun _ k => st10 _ k) ?_
  refine own_by (T' := T10) (g' := (mkF m 43 #[.val (.long ms), .second, .val (.int a0x), .val (.int ot), .val (.int pr), .val (.int sv), .val (.int me), .val (.ref b1), .val (.ref b10), .unset, .unset, .unset, .unset, .unset] [])) (fun _ k => XS.astore X10.here hx rfl (hb hby at_41) rfl rfl (l' := #[.val (.long ms), .second, .val (.int a0x), .val (.int ot), .val (.int pr), .val (.int sv), .val (.int me), .val (.ref b1), .val (.ref b10), .unset, .unset, .unset, .unset, .unset]) rfl k) ?_
  refine own_by (T' := T10) (g' := (mkF m 45 #[.val (.long ms), .second, .val (.int a0x), .val (.int ot), .val (.int pr), .val (.int sv), .val (.int me), .val (.ref b1), .val (.ref b10), .unset, .unset, .unset, .unset, .unset] [(.ref b10)])) (fun _ k => XS.aload X10.here hx rfl (hb hby at_43) rfl rfl k) ?_
  refine own_by (T' := T10) (g' := (mkF m 46 #[.val (.long ms), .second, .val (.int a0x), .val (.int ot), .val (.int pr), .val (.int sv), .val (.int me), .val (.ref b1), .val (.ref b10), .unset, .unset, .unset, .unset, .unset] [(.int (0 : Int32)), (.ref b10)])) (fun _ k => XS.iconst X10.here hx rfl (hb hby at_45) k) ?_
  refine own_by (T' := T10) (g' := (mkF m 48 #[.val (.long ms), .second, .val (.int a0x), .val (.int ot), .val (.int pr), .val (.int sv), .val (.int me), .val (.ref b1), .val (.ref b10), .unset, .unset, .unset, .unset, .unset] [(.int me), (.int (0 : Int32)), (.ref b10)])) (fun _ k => XS.iload X10.here hx rfl (hb hby at_46) rfl k) ?_
  refine own_by (T' := T10) (g' := (mkF m 49 #[.val (.long ms), .second, .val (.int a0x), .val (.int ot), .val (.int pr), .val (.int sv), .val (.int me), .val (.ref b1), .val (.ref b10), .unset, .unset, .unset, .unset, .unset] [(.int (me.toInt8.toInt32)), (.int (0 : Int32)), (.ref b10)])) (fun _ k => XS.i2b X10.here hx rfl (hb hby at_48) rfl k) ?_
  obtain ⟨cl11, Ar11, q11, S11, N_11, H11, G11⟩ := V_b10
  have hin11 : ¬ ((0 : Int32) < 0 ∨ cl11.slots.size ≤ ((0 : Int32)).toNatClampNeg) := inb_of S11 ⟨by decide, by decide⟩
  obtain ⟨T12, h12, X12, e12, W12, st12⟩ := stB X10 hx hZ e10 Ar11 (j := (0 : Int32)) hin11 (g := (mkF m 49 #[.val (.long ms), .second, .val (.int a0x), .val (.int ot), .val (.int pr), .val (.int sv), .val (.int me), .val (.ref b1), .val (.ref b10), .unset, .unset, .unset, .unset, .unset] [(.int (me.toInt8.toInt32)), (.int (0 : Int32)), (.ref b10)])) rfl rfl (hb hby at_49)
  have V12 : Arv Z h12 b10 k10 .byte (32 : Int32) [(.int (nar .byte (me.toInt8.toInt32))), (.int (0 : Int32)), (.int (0 : Int32)), (.int (0 : Int32)), (.int (0 : Int32)), (.int (0 : Int32)), (.int (0 : Int32)), (.int (0 : Int32)), (.int (0 : Int32)), (.int (0 : Int32)), (.int (0 : Int32)), (.int (0 : Int32)), (.int (0 : Int32)), (.int (0 : Int32)), (.int (0 : Int32)), (.int (0 : Int32)), (.int (0 : Int32)), (.int (0 : Int32)), (.int (0 : Int32)), (.int (0 : Int32)), (.int (0 : Int32)), (.int (0 : Int32)), (.int (0 : Int32)), (.int (0 : Int32)), (.int (0 : Int32)), (.int (0 : Int32)), (.int (0 : Int32)), (.int (0 : Int32)), (.int (0 : Int32)), (.int (0 : Int32)), (.int (0 : Int32)), (.int (0 : Int32))] (.int (0 : Int32)) := Arv.set Ar11 q11 S11 N_11 H11 G11 (fits_nar_byte _) W12 0 rfl (Nat.le_of_ble_eq_true rfl)
  have K12 : Keep h0 h12 [] := Keep.wr K10 W12 (Or.inr sz_b10)
  have N12 := Fr.snoc X12 N9 g_b10
  refine own_by (T' := T12) (g' := (mkF m 50 #[.val (.long ms), .second, .val (.int a0x), .val (.int ot), .val (.int pr), .val (.int sv), .val (.int me), .val (.ref b1), .val (.ref b10), .unset, .unset, .unset, .unset, .unset] [])) (fun _ k => st12 _ k) ?_
  refine own_by (T' := T12) (g' := (mkF m 52 #[.val (.long ms), .second, .val (.int a0x), .val (.int ot), .val (.int pr), .val (.int sv), .val (.int me), .val (.ref b1), .val (.ref b10), .unset, .unset, .unset, .unset, .unset] [(.int (32 : Int32))])) (fun _ k => XS.bipush X12.here hx rfl (hb hby at_50) k) ?_
  obtain ⟨T13, h13, k13, X13, e13, E13, A13, st13⟩ := newP X12 hx hZ (hw _ (List.mem_of_getElem? (i := 0) rfl)) e12 (g := (mkF m 52 #[.val (.long ms), .second, .val (.int a0x), .val (.int ot), .val (.int pr), .val (.int sv), .val (.int me), .val (.ref b1), .val (.ref b10), .unset, .unset, .unset, .unset, .unset] [(.int (32 : Int32))])) rfl (hb hby at_52) rfl (by decide) (cap := 32) (by decide) (by decide) (by decide) (by decide)
  obtain ⟨b13, g13⟩ : ∃ z, z = h12.size := ⟨_, rfl⟩
  rw [← g13] at A13 st13
  have V_b13 : Arv Z h13 b13 k13 .byte (32 : Int32) [(.int (0 : Int32)), (.int (0 : Int32)), (.int (0 : Int32)), (.int (0 : Int32)), (.int (0 : Int32)), (.int (0 : Int32)), (.int (0 : Int32)), (.int (0 : Int32)), (.int (0 : Int32)), (.int (0 : Int32)), (.int (0 : Int32)), (.int (0 : Int32)), (.int (0 : Int32)), (.int (0 : Int32)), (.int (0 : Int32)), (.int (0 : Int32)), (.int (0 : Int32)), (.int (0 : Int32)), (.int (0 : Int32)), (.int (0 : Int32)), (.int (0 : Int32)), (.int (0 : Int32)), (.int (0 : Int32)), (.int (0 : Int32)), (.int (0 : Int32)), (.int (0 : Int32)), (.int (0 : Int32)), (.int (0 : Int32)), (.int (0 : Int32)), (.int (0 : Int32)), (.int (0 : Int32)), (.int (0 : Int32))] (.int (0 : Int32)) := (Arv.new A13 (by decide)).pad (pad_rep [] (.int (0 : Int32)) 32)
  have g_b13 : n0 ≤ b13 := Nat.le_trans (Nat.le_trans (Nat.le_trans (Nat.le_trans (Nat.le_trans (Nat.le_trans (Nat.le_trans (Nat.le_trans Z0 E1.1) (Keep.of_wr W3).1) (Keep.of_wr W5).1) (Keep.of_wr W7).1) (Keep.of_wr W9).1) E10.1) (Keep.of_wr W12).1) (Nat.le_of_eq g13.symm)
  have sz_b13 : h0.size ≤ b13 := Nat.le_trans K12.1 (Nat.le_of_eq g13.symm)
  have K13 : Keep h0 h13 [] := Keep.ext K12 E13
  refine own_by (T' := T13) (g' := (mkF m 54 #[.val (.long ms), .second, .val (.int a0x), .val (.int ot), .val (.int pr), .val (.int sv), .val (.int me), .val (.ref b1), .val (.ref b10), .unset, .unset, .unset, .unset, .unset] [(.ref b13)])) (fun _ k => st13 _ k) ?_
  refine own_by (T' := T13) (g' := (mkF m 56 #[.val (.long ms), .second, .val (.int a0x), .val (.int ot), .val (.int pr), .val (.int sv), .val (.int me), .val (.ref b1), .val (.ref b10), .val (.ref b13), .unset, .unset, .unset, .unset] [])) (fun _ k => XS.astore X13.here hx rfl (hb hby at_54) rfl rfl (l' := #[.val (.long ms), .second, .val (.int a0x), .val (.int ot), .val (.int pr), .val (.int sv), .val (.int me), .val (.ref b1), .val (.ref b10), .val (.ref b13), .unset, .unset, .unset, .unset]) rfl k) ?_
  refine own_by (T' := T13) (g' := (mkF m 58 #[.val (.long ms), .second, .val (.int a0x), .val (.int ot), .val (.int pr), .val (.int sv), .val (.int me), .val (.ref b1), .val (.ref b10), .val (.ref b13), .unset, .unset, .unset, .unset] [(.ref b13)])) (fun _ k => XS.aload X13.here hx rfl (hb hby at_56) rfl rfl k) ?_
  refine own_by (T' := T13) (g' := (mkF m 59 #[.val (.long ms), .second, .val (.int a0x), .val (.int ot), .val (.int pr), .val (.int sv), .val (.int me), .val (.ref b1), .val (.ref b10), .val (.ref b13), .unset, .unset, .unset, .unset] [(.int (0 : Int32)), (.ref b13)])) (fun _ k => XS.iconst X13.here hx rfl (hb hby at_58) k) ?_
  refine own_by (T' := T13) (g' := (mkF m 61 #[.val (.long ms), .second, .val (.int a0x), .val (.int ot), .val (.int pr), .val (.int sv), .val (.int me), .val (.ref b1), .val (.ref b10), .val (.ref b13), .unset, .unset, .unset, .unset] [(.int me), (.int (0 : Int32)), (.ref b13)])) (fun _ k => XS.iload X13.here hx rfl (hb hby at_59) rfl k) ?_
  refine own_by (T' := T13) (g' := (mkF m 63 #[.val (.long ms), .second, .val (.int a0x), .val (.int ot), .val (.int pr), .val (.int sv), .val (.int me), .val (.ref b1), .val (.ref b10), .val (.ref b13), .unset, .unset, .unset, .unset] [(.int (8 : Int32)), (.int me), (.int (0 : Int32)), (.ref b13)])) (fun _ k => XS.bipush X13.here hx rfl (hb hby at_61) k) ?_
  refine own_by (T' := T13) (g' := (mkF m 64 #[.val (.long ms), .second, .val (.int a0x), .val (.int ot), .val (.int pr), .val (.int sv), .val (.int me), .val (.ref b1), .val (.ref b10), .val (.ref b13), .unset, .unset, .unset, .unset] [(.int (me >>> ((8 : Int32) &&& 31))), (.int (0 : Int32)), (.ref b13)])) (fun _ k => XS.ishr X13.here hx rfl (hb hby at_63) rfl k) ?_
  refine own_by (T' := T13) (g' := (mkF m 65 #[.val (.long ms), .second, .val (.int a0x), .val (.int ot), .val (.int pr), .val (.int sv), .val (.int me), .val (.ref b1), .val (.ref b10), .val (.ref b13), .unset, .unset, .unset, .unset] [(.int ((me >>> ((8 : Int32) &&& 31)).toInt8.toInt32)), (.int (0 : Int32)), (.ref b13)])) (fun _ k => XS.i2b X13.here hx rfl (hb hby at_64) rfl k) ?_
  obtain ⟨cl14, Ar14, q14, S14, N_14, H14, G14⟩ := V_b13
  have hin14 : ¬ ((0 : Int32) < 0 ∨ cl14.slots.size ≤ ((0 : Int32)).toNatClampNeg) := inb_of S14 ⟨by decide, by decide⟩
  obtain ⟨T15, h15, X15, e15, W15, st15⟩ := stB X13 hx hZ e13 Ar14 (j := (0 : Int32)) hin14 (g := (mkF m 65 #[.val (.long ms), .second, .val (.int a0x), .val (.int ot), .val (.int pr), .val (.int sv), .val (.int me), .val (.ref b1), .val (.ref b10), .val (.ref b13), .unset, .unset, .unset, .unset] [(.int ((me >>> ((8 : Int32) &&& 31)).toInt8.toInt32)), (.int (0 : Int32)), (.ref b13)])) rfl rfl (hb hby at_65)
  have V15 : Arv Z h15 b13 k13 .byte (32 : Int32) [(.int (nar .byte ((me >>> ((8 : Int32) &&& 31)).toInt8.toInt32))), (.int (0 : Int32)), (.int (0 : Int32)), (.int (0 : Int32)), (.int (0 : Int32)), (.int (0 : Int32)), (.int (0 : Int32)), (.int (0 : Int32)), (.int (0 : Int32)), (.int (0 : Int32)), (.int (0 : Int32)), (.int (0 : Int32)), (.int (0 : Int32)), (.int (0 : Int32)), (.int (0 : Int32)), (.int (0 : Int32)), (.int (0 : Int32)), (.int (0 : Int32)), (.int (0 : Int32)), (.int (0 : Int32)), (.int (0 : Int32)), (.int (0 : Int32)), (.int (0 : Int32)), (.int (0 : Int32)), (.int (0 : Int32)), (.int (0 : Int32)), (.int (0 : Int32)), (.int (0 : Int32)), (.int (0 : Int32)), (.int (0 : Int32)), (.int (0 : Int32)), (.int (0 : Int32))] (.int (0 : Int32)) := Arv.set Ar14 q14 S14 N_14 H14 G14 (fits_nar_byte _) W15 0 rfl (Nat.le_of_ble_eq_true rfl)
  have K15 : Keep h0 h15 [] := Keep.wr K13 W15 (Or.inr sz_b13)
  have N15 := Fr.snoc X15 N12 g_b13
  refine own_by (T' := T15) (g' := (mkF m 66 #[.val (.long ms), .second, .val (.int a0x), .val (.int ot), .val (.int pr), .val (.int sv), .val (.int me), .val (.ref b1), .val (.ref b10), .val (.ref b13), .unset, .unset, .unset, .unset] [])) (fun _ k => st15 _ k) ?_
  obtain ⟨T16, h16, X16, e16, E16, A16, D16, -, st16⟩ := newO X15 hx hZ hown (hw _ (List.mem_of_getElem? (i := 1) rfl)) (hw _ (List.mem_of_getElem? (i := 2) rfl)) (hw _ (List.mem_of_getElem? (i := 3) rfl)) e15 (g := (mkF m 66 #[.val (.long ms), .second, .val (.int a0x), .val (.int ot), .val (.int pr), .val (.int sv), .val (.int me), .val (.ref b1), .val (.ref b10), .val (.ref b13), .unset, .unset, .unset, .unset] [])) rfl (hb hby at_66) (by decide) (by decide)
  obtain ⟨b16, g16⟩ : ∃ z, z = h15.size := ⟨_, rfl⟩
  rw [← g16] at A16 D16 st16
  have E_b16 : Exa Z h16 b16 "com/example/garante/garante/intel/EnclaveReport" := A16
  have F_miscSelect_b16 : Fld Z h16 b16 "com/example/garante/garante/intel/EnclaveReport" "miscSelect" "J" (.long (0 : Int64)) := D16 (Or.inr (hw _ (List.mem_of_getElem? (i := 16) rfl))) (ty := .long) (by decide)
  have F_attributes_b16 : Fld Z h16 b16 "com/example/garante/garante/intel/EnclaveReport" "attributes" "[B" .null := D16 (Or.inr (hw _ (List.mem_of_getElem? (i := 18) rfl))) (ty := (.array .byte)) (by decide)
  have F_mrEnclave_b16 : Fld Z h16 b16 "com/example/garante/garante/intel/EnclaveReport" "mrEnclave" "[B" .null := D16 (Or.inr (hw _ (List.mem_of_getElem? (i := 20) rfl))) (ty := (.array .byte)) (by decide)
  have F_mrSigner_b16 : Fld Z h16 b16 "com/example/garante/garante/intel/EnclaveReport" "mrSigner" "[B" .null := D16 (Or.inr (hw _ (List.mem_of_getElem? (i := 22) rfl))) (ty := (.array .byte)) (by decide)
  have F_isvProductId_b16 : Fld Z h16 b16 "com/example/garante/garante/intel/EnclaveReport" "isvProductId" "I" (.int (0 : Int32)) := D16 (Or.inr (hw _ (List.mem_of_getElem? (i := 24) rfl))) (ty := .int) (by decide)
  have F_isvSvn_b16 : Fld Z h16 b16 "com/example/garante/garante/intel/EnclaveReport" "isvSvn" "I" (.int (0 : Int32)) := D16 (Or.inr (hw _ (List.mem_of_getElem? (i := 26) rfl))) (ty := .int) (by decide)
  have g_b16 : n0 ≤ b16 := Nat.le_trans (Nat.le_trans (Nat.le_trans (Nat.le_trans (Nat.le_trans (Nat.le_trans (Nat.le_trans (Nat.le_trans (Nat.le_trans (Nat.le_trans Z0 E1.1) (Keep.of_wr W3).1) (Keep.of_wr W5).1) (Keep.of_wr W7).1) (Keep.of_wr W9).1) E10.1) (Keep.of_wr W12).1) E13.1) (Keep.of_wr W15).1) (Nat.le_of_eq g16.symm)
  have sz_b16 : h0.size ≤ b16 := Nat.le_trans K15.1 (Nat.le_of_eq g16.symm)
  have K16 : Keep h0 h16 [] := Keep.ext K15 E16
  refine own_by (T' := T16) (g' := (mkF m 69 #[.val (.long ms), .second, .val (.int a0x), .val (.int ot), .val (.int pr), .val (.int sv), .val (.int me), .val (.ref b1), .val (.ref b10), .val (.ref b13), .unset, .unset, .unset, .unset] [(.ref b16)])) (fun _ k => st16 _ k) ?_
  refine own_by (T' := T16) (g' := (mkF m 70 #[.val (.long ms), .second, .val (.int a0x), .val (.int ot), .val (.int pr), .val (.int sv), .val (.int me), .val (.ref b1), .val (.ref b10), .val (.ref b13), .unset, .unset, .unset, .unset] [(.ref b16), (.ref b16)])) (fun _ k => XS.dup X16.here hx rfl (hb hby at_69) rfl rfl k) ?_
  refine own_by (T' := T16) (g' := (mkF m 71 #[.val (.long ms), .second, .val (.int a0x), .val (.int ot), .val (.int pr), .val (.int sv), .val (.int me), .val (.ref b1), .val (.ref b10), .val (.ref b13), .unset, .unset, .unset, .unset] [(.long ms), (.ref b16), (.ref b16)])) (fun _ k => XS.lloadN X16.here hx rfl (hb hby at_70) rfl k) ?_
  refine own_by (T' := T16) (g' := (mkF m 73 #[.val (.long ms), .second, .val (.int a0x), .val (.int ot), .val (.int pr), .val (.int sv), .val (.int me), .val (.ref b1), .val (.ref b10), .val (.ref b13), .unset, .unset, .unset, .unset] [(.ref b1), (.long ms), (.ref b16), (.ref b16)])) (fun _ k => XS.aload X16.here hx rfl (hb hby at_71) rfl rfl k) ?_
  refine own_by (T' := T16) (g' := (mkF m 75 #[.val (.long ms), .second, .val (.int a0x), .val (.int ot), .val (.int pr), .val (.int sv), .val (.int me), .val (.ref b1), .val (.ref b10), .val (.ref b13), .unset, .unset, .unset, .unset] [(.ref b10), (.ref b1), (.long ms), (.ref b16), (.ref b16)])) (fun _ k => XS.aload X16.here hx rfl (hb hby at_73) rfl rfl k) ?_
  refine own_by (T' := T16) (g' := (mkF m 77 #[.val (.long ms), .second, .val (.int a0x), .val (.int ot), .val (.int pr), .val (.int sv), .val (.int me), .val (.ref b1), .val (.ref b10), .val (.ref b13), .unset, .unset, .unset, .unset] [(.ref b13), (.ref b10), (.ref b1), (.long ms), (.ref b16), (.ref b16)])) (fun _ k => XS.aload X16.here hx rfl (hb hby at_75) rfl rfl k) ?_
  refine own_by (T' := T16) (g' := (mkF m 79 #[.val (.long ms), .second, .val (.int a0x), .val (.int ot), .val (.int pr), .val (.int sv), .val (.int me), .val (.ref b1), .val (.ref b10), .val (.ref b13), .unset, .unset, .unset, .unset] [(.int pr), (.ref b13), (.ref b10), (.ref b1), (.long ms), (.ref b16), (.ref b16)])) (fun _ k => XS.iload X16.here hx rfl (hb hby at_77) rfl k) ?_
  refine own_by (T' := T16) (g' := (mkF m 81 #[.val (.long ms), .second, .val (.int a0x), .val (.int ot), .val (.int pr), .val (.int sv), .val (.int me), .val (.ref b1), .val (.ref b10), .val (.ref b13), .unset, .unset, .unset, .unset] [(.int sv), (.int pr), (.ref b13), (.ref b10), (.ref b1), (.long ms), (.ref b16), (.ref b16)])) (fun _ k => XS.iload X16.here hx rfl (hb hby at_79) rfl k) ?_
  obtain ⟨_, _, ⟨T17, L17, k17, n17⟩, -, X17, ⟨Lc17, hQ17, l17, y17, z17⟩, st17⟩ := X16.specialBack hx (y := (⟨"com/example/garante/garante/intel/EnclaveReport", "<init>", "(J[B[B[BII)V"⟩ : MethodName)) rfl hown (mvT hZ (hw _ (List.mem_of_getElem? (i := 4) rfl))) (mvT hZ (hw _ (List.mem_of_getElem? (i := 5) rfl))) (mvT hZ (hw _ (List.mem_of_getElem? (i := 6) rfl))) (by decide) (backOf (W := 1) (rm1 l Z a0 hw [] b16 ms b1 b10 b13 pr sv  h16 n0 (Nat.le_trans (Nat.le_trans (Nat.le_trans (Nat.le_trans (Nat.le_trans (Nat.le_trans (Nat.le_trans (Nat.le_trans (Nat.le_trans (Nat.le_trans Z0 E1.1) (Keep.of_wr W3).1) (Keep.of_wr W5).1) (Keep.of_wr W7).1) (Keep.of_wr W9).1) E10.1) (Keep.of_wr W12).1) E13.1) (Keep.of_wr W15).1) E16.1) E_b16 F_miscSelect_b16 F_attributes_b16 F_mrEnclave_b16 F_mrSigner_b16 F_isvProductId_b16 F_isvSvn_b16 g_b16) hZ (hw _ (List.mem_of_getElem? (i := 6) rfl)) (hw _ (List.mem_of_getElem? (i := 3) rfl)) (by decide) (by decide)) (g := (mkF m 81 #[.val (.long ms), .second, .val (.int a0x), .val (.int ot), .val (.int pr), .val (.int sv), .val (.int me), .val (.ref b1), .val (.ref b10), .val (.ref b13), .unset, .unset, .unset, .unset] [(.int sv), (.int pr), (.ref b13), (.ref b10), (.ref b1), (.long ms), (.ref b16), (.ref b16)])) rfl (by rw [hml]; rfl) (Steps.refl _) (a := b16) (argsL := [(.long ms), (.ref b1), (.ref b10), (.ref b13), (.int pr), (.int sv)]) (rest := [(.ref b16)]) (lenOf pd_1 rfl) rfl (by show 2 * 0 + _ ≤ _; exact Nat.le_of_eq rfl) (hb hby at_81) (fun _ _ => ⟨rfl, e16, (by decide : ((((0 + 1) + 1) + 1) + 1) + 0 ≤ _), (by decide : ((((0 + 16) + 32) + 32) + 6) + 0 ≤ _)⟩)
  dsimp only [Pt.U, Pt.locs, Pt.cells, Pt.slots] at X17 l17 y17 z17 st17 hQ17
  subst l17 y17 z17
  obtain ⟨rfl, N17q, K17, Fa17⟩ := hQ17
  have N17 := Fr.app N15 N17q
  have KK17 : Keep h0 T17.heap [] := Keep.trans K16 K17 (allS (Or.inr sz_b16) all0)
  refine own_by (T' := T17) (g' := (mkF m 84 #[.val (.long ms), .second, .val (.int a0x), .val (.int ot), .val (.int pr), .val (.int sv), .val (.int me), .val (.ref b1), .val (.ref b10), .val (.ref b13), .unset, .unset, .unset, .unset] [(.ref b16)])) (fun _ k => st17.trans k) ?_
  refine own_by (T' := T17) (g' := (mkF m 86 #[.val (.long ms), .second, .val (.int a0x), .val (.int ot), .val (.int pr), .val (.int sv), .val (.int me), .val (.ref b1), .val (.ref b10), .val (.ref b13), .val (.ref b16), .unset, .unset, .unset] [])) (fun _ k => XS.astore X17.here hx rfl (hb hby at_84) rfl rfl (l' := #[.val (.long ms), .second, .val (.int a0x), .val (.int ot), .val (.int pr), .val (.int sv), .val (.int me), .val (.ref b1), .val (.ref b10), .val (.ref b13), .val (.ref b16), .unset, .unset, .unset]) rfl k) ?_
  refine own_by (T' := T17) (g' := (mkF m 88 #[.val (.long ms), .second, .val (.int a0x), .val (.int ot), .val (.int pr), .val (.int sv), .val (.int me), .val (.ref b1), .val (.ref b10), .val (.ref b13), .val (.ref b16), .unset, .unset, .unset] [(.ref b16)])) (fun _ k => XS.aload X17.here hx rfl (hb hby at_86) rfl rfl k) ?_
  obtain ⟨cl18, Ar18, q18, S18, N_18, H18, G18⟩ := (Arv.keep (Arv.ext (Arv.other (Arv.ext (Arv.other (Arv.ext V9 E10) W12 (Nat.ne_of_lt (Nat.lt_of_lt_of_le V9.lt (Nat.le_of_eq g10.symm)))) E13) W15 (Nat.ne_of_lt (Nat.lt_of_lt_of_le (Arv.other (Arv.ext V9 E10) W12 (Nat.ne_of_lt (Nat.lt_of_lt_of_le V9.lt (Nat.le_of_eq g10.symm)))).lt (Nat.le_of_eq g13.symm)))) E16) K17 (ninS (Nat.ne_of_lt (Nat.lt_of_lt_of_le (Arv.other (Arv.ext (Arv.other (Arv.ext V9 E10) W12 (Nat.ne_of_lt (Nat.lt_of_lt_of_le V9.lt (Nat.le_of_eq g10.symm)))) E13) W15 (Nat.ne_of_lt (Nat.lt_of_lt_of_le (Arv.other (Arv.ext V9 E10) W12 (Nat.ne_of_lt (Nat.lt_of_lt_of_le V9.lt (Nat.le_of_eq g10.symm)))).lt (Nat.le_of_eq g13.symm)))).lt (Nat.le_of_eq g16.symm))) nin0))
  have hin18 : ¬ ((0 : Int32) < 0 ∨ cl18.slots.size ≤ ((0 : Int32)).toNatClampNeg) := inb_of S18 ⟨by decide, by decide⟩
  obtain ⟨cq19, kq19, q19a, q19b, q19c⟩ := isOf hZ rfl (Exa.keep E_b16 K17)
  obtain ⟨_, _, ⟨T19, L19, k19, n19⟩, -, X19, ⟨Lc19, hQ19, l19, y19, z19⟩, st19⟩ := X17.virtualBack hx (y := (⟨"com/example/garante/garante/intel/EnclaveReport", "isDebug", "()Z"⟩ : MethodName)) (z := (⟨"com/example/garante/garante/intel/EnclaveReport", "isDebug", "()Z"⟩ : MethodName)) hown (mvT hZ (hw _ (List.mem_of_getElem? (i := 27) rfl))) (mvT hZ (hw _ (List.mem_of_getElem? (i := 28) rfl))) (notFace_of_selects (args := #[]) (mvT hZ (hw _ (List.mem_of_getElem? (i := 30) rfl)))) (mvT hZ (hw _ (List.mem_of_getElem? (i := 30) rfl))) (mvT hZ (hw _ (List.mem_of_getElem? (i := 29) rfl))) (by decide) (backOf (W := 0) (rm4 l Z a0 hw [] b16 b1 cl18 (nar .byte (a0x.toInt8.toInt32)) T17.heap n0 (Nat.le_trans (Nat.le_trans (Nat.le_trans (Nat.le_trans (Nat.le_trans (Nat.le_trans (Nat.le_trans (Nat.le_trans (Nat.le_trans (Nat.le_trans (Nat.le_trans Z0 E1.1) (Keep.of_wr W3).1) (Keep.of_wr W5).1) (Keep.of_wr W7).1) (Keep.of_wr W9).1) E10.1) (Keep.of_wr W12).1) E13.1) (Keep.of_wr W15).1) E16.1) K17.1) Fa17 Ar18 hin18 (Has.at H18 hin18 rfl)) hZ (hw _ (List.mem_of_getElem? (i := 31) rfl)) (hw _ (List.mem_of_getElem? (i := 3) rfl)) (by decide) (by decide)) q19a q19c (g := (mkF m 88 #[.val (.long ms), .second, .val (.int a0x), .val (.int ot), .val (.int pr), .val (.int sv), .val (.int me), .val (.ref b1), .val (.ref b10), .val (.ref b13), .val (.ref b16), .unset, .unset, .unset] [(.ref b16)])) rfl (by rw [hml]; rfl) (Steps.refl _) (argsL := []) (rest := []) (lenOf pd_2 rfl) rfl (by show 2 * 0 + _ ≤ _; exact Nat.le_of_eq rfl) (hb hby at_88) (fun _ _ => ⟨rfl, rfl, (by decide : (((((0 + 1) + 1) + 1) + 1) + 0) + 0 ≤ _), (by decide : (((((0 + 16) + 32) + 32) + 6) + 0) + 0 ≤ _)⟩)
  dsimp only [Pt.U, Pt.locs, Pt.cells, Pt.slots] at X19 l19 y19 z19 st19 hQ19
  subst l19 y19 z19
  obtain ⟨rfl, N19q, e19⟩ := hQ19
  have N19 := Fr.app N17 N19q
  refine own_by (T' := T19) (g' := (mkF m 91 #[.val (.long ms), .second, .val (.int a0x), .val (.int ot), .val (.int pr), .val (.int sv), .val (.int me), .val (.ref b1), .val (.ref b10), .val (.ref b13), .val (.ref b16), .unset, .unset, .unset] [(.int (own_dbg (nar .byte (a0x.toInt8.toInt32))))])) (fun _ k => st19.trans k) ?_
  refine own_by (T' := T19) (g' := (mkF m 93 #[.val (.long ms), .second, .val (.int a0x), .val (.int ot), .val (.int pr), .val (.int sv), .val (.int me), .val (.ref b1), .val (.ref b10), .val (.ref b13), .val (.ref b16), .val (.int (own_dbg (nar .byte (a0x.toInt8.toInt32)))), .unset, .unset] [])) (fun _ k => XS.istore X19.here hx rfl (hb hby at_91) rfl (l' := #[.val (.long ms), .second, .val (.int a0x), .val (.int ot), .val (.int pr), .val (.int sv), .val (.int me), .val (.ref b1), .val (.ref b10), .val (.ref b13), .val (.ref b16), .val (.int (own_dbg (nar .byte (a0x.toInt8.toInt32)))), .unset, .unset]) rfl k) ?_
  refine own_by (T' := T19) (g' := (mkF m 94 #[.val (.long ms), .second, .val (.int a0x), .val (.int ot), .val (.int pr), .val (.int sv), .val (.int me), .val (.ref b1), .val (.ref b10), .val (.ref b13), .val (.ref b16), .val (.int (own_dbg (nar .byte (a0x.toInt8.toInt32)))), .unset, .unset] [(.int a0x)])) (fun _ k => XS.iloadN X19.here hx rfl (hb hby at_93) rfl k) ?_
  refine own_by (T' := T19) (g' := (mkF m 97 #[.val (.long ms), .second, .val (.int a0x), .val (.int ot), .val (.int pr), .val (.int sv), .val (.int me), .val (.ref b1), .val (.ref b10), .val (.ref b13), .val (.ref b16), .val (.int (own_dbg (nar .byte (a0x.toInt8.toInt32)))), .unset, .unset] [(.int (255 : Int32)), (.int a0x)])) (fun _ k => XS.sipush X19.here hx rfl (hb hby at_94) k) ?_
  refine own_by (T' := T19) (g' := (mkF m 98 #[.val (.long ms), .second, .val (.int a0x), .val (.int ot), .val (.int pr), .val (.int sv), .val (.int me), .val (.ref b1), .val (.ref b10), .val (.ref b13), .val (.ref b16), .val (.int (own_dbg (nar .byte (a0x.toInt8.toInt32)))), .unset, .unset] [(.int (a0x &&& (255 : Int32)))])) (fun _ k => XS.iand X19.here hx rfl (hb hby at_97) rfl k) ?_
  refine own_by (T' := T19) (g' := (mkF m 100 #[.val (.long ms), .second, .val (.int a0x), .val (.int ot), .val (.int pr), .val (.int sv), .val (.int me), .val (.ref b1), .val (.ref b10), .val (.ref b13), .val (.ref b16), .val (.int (own_dbg (nar .byte (a0x.toInt8.toInt32)))), .val (.int (a0x &&& (255 : Int32))), .unset] [])) (fun _ k => XS.istore X19.here hx rfl (hb hby at_98) rfl (l' := #[.val (.long ms), .second, .val (.int a0x), .val (.int ot), .val (.int pr), .val (.int sv), .val (.int me), .val (.ref b1), .val (.ref b10), .val (.ref b13), .val (.ref b16), .val (.int (own_dbg (nar .byte (a0x.toInt8.toInt32)))), .val (.int (a0x &&& (255 : Int32))), .unset]) rfl k) ?_
  refine own_by (T' := T19) (g' := (mkF m 102 #[.val (.long ms), .second, .val (.int a0x), .val (.int ot), .val (.int pr), .val (.int sv), .val (.int me), .val (.ref b1), .val (.ref b10), .val (.ref b13), .val (.ref b16), .val (.int (own_dbg (nar .byte (a0x.toInt8.toInt32)))), .val (.int (a0x &&& (255 : Int32))), .unset] [(.int (a0x &&& (255 : Int32)))])) (fun _ k => XS.iload X19.here hx rfl (hb hby at_100) rfl k) ?_
  refine own_by (T' := T19) (g' := (mkF m 103 #[.val (.long ms), .second, .val (.int a0x), .val (.int ot), .val (.int pr), .val (.int sv), .val (.int me), .val (.ref b1), .val (.ref b10), .val (.ref b13), .val (.ref b16), .val (.int (own_dbg (nar .byte (a0x.toInt8.toInt32)))), .val (.int (a0x &&& (255 : Int32))), .unset] [(.int (4 : Int32)), (.int (a0x &&& (255 : Int32)))])) (fun _ k => XS.iconst X19.here hx rfl (hb hby at_102) k) ?_
  refine own_by (T' := T19) (g' := (mkF m 104 #[.val (.long ms), .second, .val (.int a0x), .val (.int ot), .val (.int pr), .val (.int sv), .val (.int me), .val (.ref b1), .val (.ref b10), .val (.ref b13), .val (.ref b16), .val (.int (own_dbg (nar .byte (a0x.toInt8.toInt32)))), .val (.int (a0x &&& (255 : Int32))), .unset] [(.int ((a0x &&& (255 : Int32)) % (4 : Int32)))])) (fun _ k => iremM X19 hx rfl (hb hby at_103) rfl (by decide) k) ?_
  refine own_by (T' := T19) (g' := (mkF m 105 #[.val (.long ms), .second, .val (.int a0x), .val (.int ot), .val (.int pr), .val (.int sv), .val (.int me), .val (.ref b1), .val (.ref b10), .val (.ref b13), .val (.ref b16), .val (.int (own_dbg (nar .byte (a0x.toInt8.toInt32)))), .val (.int (a0x &&& (255 : Int32))), .unset] [(.int (2 : Int32)), (.int ((a0x &&& (255 : Int32)) % (4 : Int32)))])) (fun _ k => XS.iconst X19.here hx rfl (hb hby at_104) k) ?_
  have J21 : ∀ (j20 : Int32) (hv_j20 : j20 = (if ((a0x &&& (255 : Int32)) % (4 : Int32)) < (2 : Int32) then (0 : Int32) else (1 : Int32))) (T22 : State) (_ : Stand p l e room_1 s m #[(.long ms), (.int a0x), (.int ot), (.int pr), (.int sv), (.int me)] below meth c T22 (((((((([] ++ [⟨b1, ((0 : Int32)).toNatClampNeg⟩]) ++ [⟨b1, ((1 : Int32)).toNatClampNeg⟩]) ++ [⟨b1, ((2 : Int32)).toNatClampNeg⟩]) ++ [⟨b1, ((15 : Int32)).toNatClampNeg⟩]) ++ [⟨b10, ((0 : Int32)).toNatClampNeg⟩]) ++ [⟨b13, ((0 : Int32)).toNatClampNeg⟩]) ++ Lc17) ++ Lc19) ((((((0 + 1) + 1) + 1) + 1) + 0) + 0) ((((((0 + 16) + 32) + 32) + 6) + 0) + 0)) (_ : T22.heap = T17.heap), own_Go p.tables e below (Q_rm0 Z ms a0x ot pr sv me h0 n0) s 16 256 T22 (mkF m 113 #[.val (.long ms), .second, .val (.int a0x), .val (.int ot), .val (.int pr), .val (.int sv), .val (.int me), .val (.ref b1), .val (.ref b10), .val (.ref b13), .val (.ref b16), .val (.int (own_dbg (nar .byte (a0x.toInt8.toInt32)))), .val (.int (a0x &&& (255 : Int32))), .unset] [(.int j20)]) := by
    intro j20 hv_j20 T22 X22 e22
    refine own_by (T' := T22) (g' := (mkF m 115 #[.val (.long ms), .second, .val (.int a0x), .val (.int ot), .val (.int pr), .val (.int sv), .val (.int me), .val (.ref b1), .val (.ref b10), .val (.ref b13), .val (.ref b16), .val (.int (own_dbg (nar .byte (a0x.toInt8.toInt32)))), .val (.int (a0x &&& (255 : Int32))), .val (.int j20)] [])) (fun _ k => XS.istore X22.here hx rfl (hb hby at_113) rfl (l' := #[.val (.long ms), .second, .val (.int a0x), .val (.int ot), .val (.int pr), .val (.int sv), .val (.int me), .val (.ref b1), .val (.ref b10), .val (.ref b13), .val (.ref b16), .val (.int (own_dbg (nar .byte (a0x.toInt8.toInt32)))), .val (.int (a0x &&& (255 : Int32))), .val (.int j20)]) rfl k) ?_
    refine own_by (T' := T22) (g' := (mkF m 117 #[.val (.long ms), .second, .val (.int a0x), .val (.int ot), .val (.int pr), .val (.int sv), .val (.int me), .val (.ref b1), .val (.ref b10), .val (.ref b13), .val (.ref b16), .val (.int (own_dbg (nar .byte (a0x.toInt8.toInt32)))), .val (.int (a0x &&& (255 : Int32))), .val (.int j20)] [(.int (own_dbg (nar .byte (a0x.toInt8.toInt32))))])) (fun _ k => XS.iload X22.here hx rfl (hb hby at_115) rfl k) ?_
    refine own_by (T' := T22) (g' := (mkF m 119 #[.val (.long ms), .second, .val (.int a0x), .val (.int ot), .val (.int pr), .val (.int sv), .val (.int me), .val (.ref b1), .val (.ref b10), .val (.ref b13), .val (.ref b16), .val (.int (own_dbg (nar .byte (a0x.toInt8.toInt32)))), .val (.int (a0x &&& (255 : Int32))), .val (.int j20)] [(.int j20), (.int (own_dbg (nar .byte (a0x.toInt8.toInt32))))])) (fun _ k => XS.iload X22.here hx rfl (hb hby at_117) rfl k) ?_
    refine own_by (T' := T22) (g' := (mkF m 122 #[.val (.long ms), .second, .val (.int a0x), .val (.int ot), .val (.int pr), .val (.int sv), .val (.int me), .val (.ref b1), .val (.ref b10), .val (.ref b13), .val (.ref b16), .val (.int (own_dbg (nar .byte (a0x.toInt8.toInt32)))), .val (.int (a0x &&& (255 : Int32))), .val (.int j20)] [])) (fun _ k => XS.icmpNo X22.here hx rfl (hb hby at_119) rfl (teq ((own_fin a0x).trans hv_j20.symm)).2 k) ?_
    refine own_by (T' := T22) (g' := (mkF m 123 #[.val (.long ms), .second, .val (.int a0x), .val (.int ot), .val (.int pr), .val (.int sv), .val (.int me), .val (.ref b1), .val (.ref b10), .val (.ref b13), .val (.ref b16), .val (.int (own_dbg (nar .byte (a0x.toInt8.toInt32)))), .val (.int (a0x &&& (255 : Int32))), .val (.int j20)] [(.int (1 : Int32))])) (fun _ k => XS.iconst X22.here hx rfl (hb hby at_122) k) ?_
    refine own_by (T' := T22) (g' := (mkF m 127 #[.val (.long ms), .second, .val (.int a0x), .val (.int ot), .val (.int pr), .val (.int sv), .val (.int me), .val (.ref b1), .val (.ref b10), .val (.ref b13), .val (.ref b16), .val (.int (own_dbg (nar .byte (a0x.toInt8.toInt32)))), .val (.int (a0x &&& (255 : Int32))), .val (.int j20)] [(.int (1 : Int32))])) (fun _ k => XS.goto X22.here hx rfl (pc0 := 123) (pc' := 127) rfl (hb hby at_123) (by decide) (by decide) k) ?_
    refine own_ret X22 hlk (v := some (.int (1 : Int32))) (fun h => by rw [Bd.returns] at h; cases h) (fun fs hr => retN X22 hx (t := .boolean) Bd.returns (by simp) (hb hby at_127) hr) ?_ (by decide) (by decide)
    rw [e22]
    exact ⟨rfl, N19⟩
  by_cases hc105_23 : ((a0x &&& (255 : Int32)) % (4 : Int32)) < (2 : Int32)
  · skip
    refine own_by (T' := T19) (g' := (mkF m 112 #[.val (.long ms), .second, .val (.int a0x), .val (.int ot), .val (.int pr), .val (.int sv), .val (.int me), .val (.ref b1), .val (.ref b10), .val (.ref b13), .val (.ref b16), .val (.int (own_dbg (nar .byte (a0x.toInt8.toInt32)))), .val (.int (a0x &&& (255 : Int32))), .unset] [])) (fun _ k => XS.icmpYes X19.here hx rfl (pc0 := 105) (pc' := 112) rfl (hb hby at_105) rfl (tlt hc105_23).1 (by decide) (by decide) k) ?_
    refine own_by (T' := T19) (g' := (mkF m 113 #[.val (.long ms), .second, .val (.int a0x), .val (.int ot), .val (.int pr), .val (.int sv), .val (.int me), .val (.ref b1), .val (.ref b10), .val (.ref b13), .val (.ref b16), .val (.int (own_dbg (nar .byte (a0x.toInt8.toInt32)))), .val (.int (a0x &&& (255 : Int32))), .unset] [(.int (0 : Int32))])) (fun _ k => XS.iconst X19.here hx rfl (hb hby at_112) k) ?_
    exact J21 _ (if_pos hc105_23).symm T19 X19 e19
  · skip
    refine own_by (T' := T19) (g' := (mkF m 108 #[.val (.long ms), .second, .val (.int a0x), .val (.int ot), .val (.int pr), .val (.int sv), .val (.int me), .val (.ref b1), .val (.ref b10), .val (.ref b13), .val (.ref b16), .val (.int (own_dbg (nar .byte (a0x.toInt8.toInt32)))), .val (.int (a0x &&& (255 : Int32))), .unset] [])) (fun _ k => XS.icmpNo X19.here hx rfl (hb hby at_105) rfl (flt hc105_23).1 k) ?_
    refine own_by (T' := T19) (g' := (mkF m 109 #[.val (.long ms), .second, .val (.int a0x), .val (.int ot), .val (.int pr), .val (.int sv), .val (.int me), .val (.ref b1), .val (.ref b10), .val (.ref b13), .val (.ref b16), .val (.int (own_dbg (nar .byte (a0x.toInt8.toInt32)))), .val (.int (a0x &&& (255 : Int32))), .unset] [(.int (1 : Int32))])) (fun _ k => XS.iconst X19.here hx rfl (hb hby at_108) k) ?_
    refine own_by (T' := T19) (g' := (mkF m 113 #[.val (.long ms), .second, .val (.int a0x), .val (.int ot), .val (.int pr), .val (.int sv), .val (.int me), .val (.ref b1), .val (.ref b10), .val (.ref b13), .val (.ref b16), .val (.int (own_dbg (nar .byte (a0x.toInt8.toInt32)))), .val (.int (a0x &&& (255 : Int32))), .unset] [(.int (1 : Int32))])) (fun _ k => XS.goto X19.here hx rfl (pc0 := 109) (pc' := 113) rfl (hb hby at_109) (by decide) (by decide) k) ?_
    exact J21 _ (if_neg hc105_23).symm T19 X19 e19
set_option maxRecDepth 65536 in
set_option maxHeartbeats 40000000 in
theorem comes_1 {Post : Tables → Env → Array Value → State → Outcome → State → Prop} (hpost : ∀ tb e args s v u, (limb_1_1.after args s (.returned v) u = true ∧ limb_1_2.after args s (.returned v) u = true ∧ True) → FrameEnd s (.returned v) u (Jvm.fieldLocs frame_1_writes args s ++ Jvm.arrayLocs frame_1_arrays args s ++ Jvm.staticLocs frame_1_statics s) 16 256 → Post tb e args s (.returned v) u) :
    ArmFor flags0 classFile x code maxLocals ret World_1 tables_1 room_1 Calls_1 rest_1 Pre_1 Post := by
  intro l hfl _ _ p e ha hc hk s m args below hf hA hF happ hP
  obtain ⟨hcalls, hrest, hpre⟩ := hP
  obtain ⟨-, -, -, hnamed, -, -, -, hat⟩ := (Spec.applies_iff hf).mp happ
  obtain ⟨hg, hn⟩ := and_e (Cond.before_iff.mp (show (Jvm.Cond.and given_1 narrow_1).before args s = true from hpre))
  obtain ⟨g1, g2⟩ := and_e hg
  obtain ⟨g3, g4⟩ := and_e g2
  obtain ⟨g5, g6⟩ := and_e g4
  obtain ⟨g7, g8⟩ := and_e g6
  obtain ⟨g9, g10⟩ := and_e g8
  obtain ⟨g11, g12⟩ := and_e g10
  obtain ⟨w0, w1, w2, w3, w4, w5, rfl⟩ : ∃ w0 w1 w2 w3 w4 w5 : Value, args = #[w0, w1, w2, w3, w4, w5] := by
    have hs : args.size = 6 := by simpa [Cond.value, given_1] using g1
    obtain ⟨L⟩ := args
    match L, hs with
    | [w0, w1, w2, w3, w4, w5], _ => exact ⟨w0, w1, w2, w3, w4, w5, rfl⟩
  have hw := fun d (hd : d ∈ tables_1) => atoms_spec (ws := Jvm.Cond.code x code maxLocals ret :: tables_1) hat d (List.mem_cons_of_mem _ hd)
  have hfit : Fit s := fun {y c} hc i hi => by
    obtain ⟨ha, rfl⟩ := Array.getElem?_eq_some_iff.mp hc
    have q := List.all_eq_true.mp ((Array.all_eq_true_iff_forall_mem.mp hF) _ (Array.getElem_mem ha)) i (List.mem_range.mpr hi)
    simpa [Array.getElem?_eq_getElem hi] using q
  obtain ⟨i0, ei0⟩ := isL_v g3
  obtain rfl : w0 = (.long i0) := Option.some.inj ei0
  obtain ⟨i1, ei1⟩ := is_v g5
  obtain rfl : w1 = (.int i1) := Option.some.inj ei1
  obtain ⟨i2, ei2⟩ := is_v g7
  obtain rfl : w2 = (.int i2) := Option.some.inj ei2
  obtain ⟨i3, ei3⟩ := is_v g9
  obtain rfl : w3 = (.int i3) := Option.some.inj ei3
  obtain ⟨i4, ei4⟩ := is_v g11
  obtain rfl : w4 = (.int i4) := Option.some.inj ei4
  obtain ⟨i5, ei5⟩ := is_v g12
  obtain rfl : w5 = (.int i5) := Option.some.inj ei5
  obtain ⟨n, o, h1, h2, h3, _, L, rfl, ⟨rfl, N⟩, hq⟩ := rm0 l s _ hw tables_1 i0 i1 i2 i3 i4 i5 s.heap s.heap.size (Nat.le_refl _)  p e ha hc hk s m _ below hf ((Spec.applies_iff_loose hf).mp happ).1 ⟨rfl, State.Warmed39.refl s, rfl⟩ trivial
  refine ⟨n, _, h1, h2, h3, hpost _ _ _ _ _ _ ⟨Cond.after_iff.mpr rfl, Cond.after_iff.mpr (eq_i res_at (Term.int_eval (1)) rfl), trivial⟩ ⟨hq.1, hq.2.1, (hq.2.2.sift fun y hy => Or.inr (N y hy)).mono (by decide) (by decide)⟩⟩
theorem main_1_1 : Claimed_1_1 := comes_1 fun _ _ _ _ _ _ h hF => ⟨h.1, hF⟩
theorem main_1_2 : Claimed_1_2 := comes_1 fun _ _ _ _ _ _ h hF => ⟨h.2.1, hF⟩
end Jvm.Pilot.@@N@@
namespace Jvm.Pilot.@@N@@
open Jvm Jvm.ClassFile Sem Op Lib Jvm.Free Jvm.Stand Jvm.Pilot.@@N@@.Jvm.D
/-! MADE BY PROGRAM (witnessworld.py) out of the Statement's table words and the real class files: 10 classes; the members and pool entries that the words name. The judged class is class 1, her method 1. -/
namespace start1
open Jvm.ClassFile
def u (s : String) : CpInfo := .utf8 (stringToUtf16 s)
/-- a pool by its gaps: so many unusable entries, then the entry; so many at the end -/
def gap : Nat → List CpInfo → List CpInfo
  | 0, r => r
  | n + 1, r => .unusable :: gap n r
def poolList (es : List (Nat × CpInfo)) (last : Nat) : List CpInfo := es.foldr (fun e r => gap e.1 (e.2 :: r)) (gap last [])
def pool (es : List (Nat × CpInfo)) (last : Nat) : Array CpInfo := ⟨poolList es last⟩
def fileOf (pool : Array CpInfo) (this : Nat) (attrs : Array Attribute := #[]) (ms : Array MethodInfo := #[]) (fl : Nat := 33) (sup : Nat := 0) (ifs : Array Nat := #[]) (fds : Array FieldInfo := #[]) : ClassFile where
  minorVersion := 0
  majorVersion := 65
  constantPool := pool
  accessFlags := fl
  thisClass := this
  superClass := sup
  interfaces := ifs
  fields := fds
  methods := ms
  attributes := attrs
def plain (name : String) (sup : Option ClassId) : Class where
  name := name
  kind := .ordinary
  loader := none
  accessFlags := 33
  super := sup
  interfaces := #[]
  cf := none
  fields := #[]
  methods := #[]
  instanceTypes := #[]
  staticTypes := #[]
  resolved := #[]
  callSites := []
  init := .initialized
  statics := none
  mirror := none

def pool0 : Array CpInfo := pool [(5, u "<init>"), (0, u "()V"), (1, .class_ 10), (1, u "java/lang/Object")] 113

def k0c0 : Code := { maxStack := 0, maxLocals := 1, code := object_method_1_code, exceptionTable := #[], attributes := #[] }
def k0m0 : Method := { name := "<init>", desc := "()V", sig := { parameters := [], returnType := none }, accessFlags := 1, code := some k0c0 }
/-- java/lang/Object -/
def k0 : Class := { plain "java/lang/Object" none with
  accessFlags := 33
  interfaces := #[]
  cf := some (fileOf pool0 8 #[] #[{ accessFlags := 1, nameIndex := 5, descriptorIndex := 6, attributes := #[] }] 33 0 #[] #[])
  fields := #[]
  methods := #[k0m0]
  instanceTypes := #[]
  staticTypes := #[]
  resolved := Array.replicate 124 none
  statics := none }

def pool1 : Array CpInfo := pool [(2, .class_ 4), (1, u "java/lang/Object"), (0, u "<init>"), (0, u "()V"), (0, .class_ 8), (0, u "com/example/garante/garante/intel/EnclaveReport"), (0, .methodref 7 10), (0, .nameAndType 5 11), (0, u "(J[B[B[BII)V"), (0, .methodref 7 13), (0, .nameAndType 14 15), (0, u "isDebug"), (0, u "()Z"), (0, .class_ 17), (0, u "com/example/garante/garante/intel/EnclaveReportIsDebugPinLaw"), (2, u "law"), (0, u "(JIIIII)Z")] 5

def k1m0 : Method := { name := "<init>", desc := "()V", sig := { parameters := [], returnType := none }, accessFlags := 1, code := none }
def k1c1 : Code := { maxStack := 9, maxLocals := 14, code := code, exceptionTable := #[], attributes := #[] }
def k1m1 : Method := { name := "law", desc := "(JIIIII)Z", sig := { parameters := [.long, .int, .int, .int, .int, .int], returnType := some .boolean }, accessFlags := 9, code := some k1c1 }
/-- com/example/garante/garante/intel/EnclaveReportIsDebugPinLaw -/
def k1 : Class := { plain "com/example/garante/garante/intel/EnclaveReportIsDebugPinLaw" (some 0) with
  accessFlags := 49
  interfaces := #[]
  cf := some (fileOf pool1 16 #[] #[{ accessFlags := 1, nameIndex := 5, descriptorIndex := 6, attributes := #[] }, { accessFlags := 9, nameIndex := 20, descriptorIndex := 21, attributes := #[] }] 49 2 #[] #[])
  fields := #[]
  methods := #[k1m0, k1m1]
  instanceTypes := #[]
  staticTypes := #[]
  resolved := Array.replicate 27 none
  statics := none }

def pool2 : Array CpInfo := pool [(1, .methodref 2 3), (0, .class_ 4), (0, .nameAndType 5 6), (0, u "java/lang/Object"), (0, u "<init>"), (0, u "()V"), (0, .class_ 8), (0, u "java/lang/Record")] 13

def k2c0 : Code := { maxStack := 1, maxLocals := 1, code := jdk_30_method_1_code, exceptionTable := #[], attributes := #[] }
def k2m0 : Method := { name := "<init>", desc := "()V", sig := { parameters := [], returnType := none }, accessFlags := 4, code := some k2c0 }
/-- java/lang/Record -/
def k2 : Class := { plain "java/lang/Record" (some 0) with
  accessFlags := 1057
  interfaces := #[]
  cf := some (fileOf pool2 7 #[] #[{ accessFlags := 4, nameIndex := 5, descriptorIndex := 6, attributes := #[] }] 1057 2 #[] #[])
  fields := #[]
  methods := #[k2m0]
  instanceTypes := #[]
  staticTypes := #[]
  resolved := Array.replicate 22 none
  statics := none }

def pool3 : Array CpInfo := pool [(1, .methodref 2 3), (0, .class_ 4), (0, .nameAndType 5 6), (0, u "java/lang/Record"), (0, u "<init>"), (0, u "()V"), (0, .fieldref 8 9), (0, .class_ 10), (0, .nameAndType 11 12), (0, u "com/example/garante/garante/intel/EnclaveReport"), (0, u "miscSelect"), (0, u "J"), (0, .fieldref 8 14), (0, .nameAndType 15 16), (0, u "attributes"), (0, u "[B"), (0, .fieldref 8 18), (0, .nameAndType 19 16), (0, u "mrEnclave"), (0, .fieldref 8 21), (0, .nameAndType 22 16), (0, u "mrSigner"), (0, .fieldref 8 24), (0, .nameAndType 25 26), (0, u "isvProductId"), (0, u "I"), (0, .fieldref 8 28), (0, .nameAndType 29 26), (0, u "isvSvn"), (27, u "(J[B[B[BII)V"), (12, u "LENGTH"), (2, u "REPORT_DATA_OFFSET"), (1, u "DEBUG"), (9, u "isDebug"), (0, u "()Z")] 29

def k3c0 : Code := { maxStack := 3, maxLocals := 8, code := prog_30_method_1_code, exceptionTable := #[], attributes := #[] }
def k3m0 : Method := { name := "<init>", desc := "(J[B[B[BII)V", sig := { parameters := [.long, (.array .byte), (.array .byte), (.array .byte), .int, .int], returnType := none }, accessFlags := 0, code := some k3c0 }
def k3c1 : Code := { maxStack := 2, maxLocals := 1, code := prog_30_method_3_code, exceptionTable := #[], attributes := #[] }
def k3m1 : Method := { name := "isDebug", desc := "()Z", sig := { parameters := [], returnType := some .boolean }, accessFlags := 0, code := some k3c1 }
/-- com/example/garante/garante/intel/EnclaveReport -/
def k3 : Class := { plain "com/example/garante/garante/intel/EnclaveReport" (some 2) with
  accessFlags := 48
  interfaces := #[]
  cf := some (fileOf pool3 8 #[] #[{ accessFlags := 0, nameIndex := 5, descriptorIndex := 57, attributes := #[] }, { accessFlags := 0, nameIndex := 85, descriptorIndex := 86, attributes := #[] }] 48 2 #[] #[{ accessFlags := 18, nameIndex := 11, descriptorIndex := 12, attributes := #[] }, { accessFlags := 18, nameIndex := 15, descriptorIndex := 16, attributes := #[] }, { accessFlags := 18, nameIndex := 19, descriptorIndex := 16, attributes := #[] }, { accessFlags := 18, nameIndex := 22, descriptorIndex := 16, attributes := #[] }, { accessFlags := 18, nameIndex := 25, descriptorIndex := 26, attributes := #[] }, { accessFlags := 18, nameIndex := 29, descriptorIndex := 26, attributes := #[] }, { accessFlags := 24, nameIndex := 70, descriptorIndex := 26, attributes := #[] }, { accessFlags := 24, nameIndex := 73, descriptorIndex := 26, attributes := #[] }, { accessFlags := 26, nameIndex := 75, descriptorIndex := 26, attributes := #[] }])
  fields := #[{ name := "miscSelect", type := .long, accessFlags := 18, slot := 0, constantValue := 0 }, { name := "attributes", type := (.array .byte), accessFlags := 18, slot := 1, constantValue := 0 }, { name := "mrEnclave", type := (.array .byte), accessFlags := 18, slot := 2, constantValue := 0 }, { name := "mrSigner", type := (.array .byte), accessFlags := 18, slot := 3, constantValue := 0 }, { name := "isvProductId", type := .int, accessFlags := 18, slot := 4, constantValue := 0 }, { name := "isvSvn", type := .int, accessFlags := 18, slot := 5, constantValue := 0 }, { name := "LENGTH", type := .int, accessFlags := 24, slot := 0, constantValue := 0 }, { name := "REPORT_DATA_OFFSET", type := .int, accessFlags := 24, slot := 1, constantValue := 0 }, { name := "DEBUG", type := .int, accessFlags := 26, slot := 2, constantValue := 0 }]
  methods := #[k3m0, k3m1]
  instanceTypes := #[.long, (.array .byte), (.array .byte), (.array .byte), .int, .int]
  staticTypes := #[.int, .int, .int]
  resolved := Array.replicate 116 none
  statics := none }

def pool4 : Array CpInfo := pool [(1, u "java/lang/Cloneable"), (0, .class_ 1), (0, u "java/lang/Object"), (0, .class_ 3)] 3

/-- java/lang/Cloneable -/
def k4 : Class := { plain "java/lang/Cloneable" (some 0) with
  accessFlags := 1537
  interfaces := #[]
  cf := some (fileOf pool4 2 #[] #[] 1537 4 #[] #[])
  fields := #[]
  methods := #[]
  instanceTypes := #[]
  staticTypes := #[]
  resolved := Array.replicate 8 none
  statics := none }

def pool5 : Array CpInfo := pool [(1, u "java/io/Serializable"), (0, .class_ 1), (0, u "java/lang/Object"), (0, .class_ 3)] 3

/-- java/io/Serializable -/
def k5 : Class := { plain "java/io/Serializable" (some 0) with
  accessFlags := 1537
  interfaces := #[]
  cf := some (fileOf pool5 2 #[] #[] 1537 4 #[] #[])
  fields := #[]
  methods := #[]
  instanceTypes := #[]
  staticTypes := #[]
  resolved := Array.replicate 8 none
  statics := none }

/-- the primitive byte -/
def k6 : Class := { plain "byte" none with kind := .primitive 'B', accessFlags := 0x411 }
/-- [B -/
def k7 : Class := { plain "[B" (some 0) with kind := .array 6 .byte, interfaces := #[4, 5], accessFlags := 1041 }

/-- the primitive int -/
def k8 : Class := { plain "int" none with kind := .primitive 'I', accessFlags := 0x411 }
/-- [I -/
def k9 : Class := { plain "[I" (some 0) with kind := .array 8 .int, interfaces := #[4, 5], accessFlags := 1041 }

def heap : Heap := #[]
def classes : Array Class := #[k0, k1, k2, k3, k4, k5, k6, k7, k8, k9]
def interned : List (Array UInt16 × Addr) := []
def slotsUsed : Nat := 0
def theMethod : MethodId := ⟨1, 1⟩
def args0 : Array Value := #[.long 5, .int 0, .int 1, .int 2, .int 3, .int 4]
def aboutOver (below : List Frame) : State where
  vm := { classes := classes, interned := interned.toArray }
  heap := heap
  slotsUsed := slotsUsed
  threads := #[{ frames := .invoking theMethod args0 :: below }]
def below0 : List Frame := [.native { method := ⟨0, 0⟩, args := #[] }]
def about1 : State := aboutOver below0
def p0 : Program := .bare "" "" ""
def e0 : Env := launch0.env 0 0 0
theorem w_frames : about1.frames = Frame.invoking theMethod args0 :: below0 := rfl
set_option maxRecDepth 65536 in
theorem w_args : argsFit about1.vm theMethod args0 = true := by decide +kernel
set_option maxRecDepth 65536 in
theorem w_heap : heapFits about1 = true := by decide +kernel
set_option maxRecDepth 65536 in
theorem w_runnable : about1.curStatus? = some .runnable := by decide +kernel
set_option maxRecDepth 65536 in
theorem w_alone : about1.alone = true := by decide +kernel
set_option maxRecDepth 65536 in
theorem w_named : about1.methodNamed? x = some theMethod := by decide +kernel
set_option maxRecDepth 65536 in
theorem w_hears : about1.hears theMethod below0 = true := by decide +kernel
set_option maxRecDepth 65536 in
theorem w_ripe : about1.ripe theMethod args0 below0 = true := by decide +kernel
theorem w_running : about1.status = .running := rfl
set_option maxRecDepth 65536 in
theorem w_room : about1.hasRoom e0.platform room_1 = true :=
  launch0.hasRoom_least _ room_1 (by decide +kernel) (by decide +kernel) (by decide +kernel) (by decide +kernel) (by decide +kernel) (by decide +kernel)
theorem allAtoms_all (ts : List Jvm.Cond) (a : Array Jvm.Value) (st : Jvm.State) : (allAtoms ts).before a st = ts.all (fun c => c.before a st) := by
  induction ts with
  | nil => rfl
  | cons c t ih =>
    show (Jvm.Cond.and c (allAtoms t)).before a st = _
    rw [Jvm.Cond.before_and, ih, List.all_cons]
def words1 : List Jvm.Cond := Jvm.Cond.code x code maxLocals ret :: tables_1
/-- a 'code' word, met by the world's own term for the bytes: nothing is compared byte by byte -/
theorem code_word {y : MethodName} {bytes : ByteArray} {mx : Nat} {rt : Option FieldType} {a : Array Value} {s : State} {m : MethodId} {meth : Method} {c : Code} (h1 : s.methodNamed? y = some m) (h2 : s.vm.method? m = some meth) (h3 : meth.code = some c) (h4 : c.code = bytes)
    (h5 : (c.maxLocals == mx && c.exceptionTable.isEmpty && decide (c.maxStack ≤ mostOperands) && decide (meth.sig.returnType = rt) && !meth.locks && decide (parseMethodDescriptor y.desc = some meth.sig)) = true) : (Jvm.Cond.code y bytes mx rt).before a s = true := by
  simp only [Bool.and_eq_true, beq_iff_eq, Bool.not_eq_true', decide_eq_true_eq] at h5
  obtain ⟨⟨⟨⟨⟨g1, g2⟩, g3⟩, g4⟩, g5⟩, g6⟩ := h5
  simp [Cond.before, Cond.holds, Cond.value, h1, h2, h3, h4, g1, g2, g3, g4, g5, g6]
def isCode : Jvm.Cond → Bool
  | .code _ _ _ _ => true
  | _ => false
theorem all_split {L : List Jvm.Cond} {P : Jvm.Cond → Bool} (h1 : L.all (fun c => isCode c || P c) = true) (h2 : ∀ c ∈ L.filter isCode, P c = true) : L.all P = true := by
  refine List.all_eq_true.mpr fun c hc => ?_
  have h := List.all_eq_true.mp h1 c hc
  rcases Bool.eq_false_or_eq_true (isCode c) with hi | hi
  · exact h2 c (List.mem_filter.mpr ⟨hc, hi⟩)
  · simpa [hi] using h
set_option maxRecDepth 65536 in
theorem w_c0 : (Jvm.Cond.code x code maxLocals ret).before args0 about1 = true := code_word (m := ⟨1, 1⟩) (meth := k1m1) (c := k1c1) (by decide +kernel) rfl rfl rfl (by decide +kernel)
set_option maxRecDepth 65536 in
theorem w_c1 : (Jvm.Cond.code ({ cls := "com/example/garante/garante/intel/EnclaveReport", name := "<init>", desc := "(J[B[B[BII)V" } : Jvm.MethodName) prog_30_method_1_code (8 : Nat) (Option.none : Option Jvm.ClassFile.FieldType)).before args0 about1 = true := code_word (m := ⟨3, 0⟩) (meth := k3m0) (c := k3c0) (by decide +kernel) rfl rfl rfl (by decide +kernel)
set_option maxRecDepth 65536 in
theorem w_c2 : (Jvm.Cond.code ({ cls := "java/lang/Record", name := "<init>", desc := "()V" } : Jvm.MethodName) jdk_30_method_1_code (1 : Nat) (Option.none : Option Jvm.ClassFile.FieldType)).before args0 about1 = true := code_word (m := ⟨2, 0⟩) (meth := k2m0) (c := k2c0) (by decide +kernel) rfl rfl rfl (by decide +kernel)
set_option maxRecDepth 65536 in
theorem w_c3 : (Jvm.Cond.code ({ cls := "java/lang/Object", name := "<init>", desc := "()V" } : Jvm.MethodName) object_method_1_code (1 : Nat) (Option.none : Option Jvm.ClassFile.FieldType)).before args0 about1 = true := code_word (m := ⟨0, 0⟩) (meth := k0m0) (c := k0c0) (by decide +kernel) rfl rfl rfl (by decide +kernel)
set_option maxRecDepth 65536 in
theorem w_c4 : (Jvm.Cond.code ({ cls := "com/example/garante/garante/intel/EnclaveReport", name := "isDebug", desc := "()Z" } : Jvm.MethodName) prog_30_method_3_code (1 : Nat) (Option.some Jvm.ClassFile.FieldType.boolean)).before args0 about1 = true := code_word (m := ⟨3, 1⟩) (meth := k3m1) (c := k3c1) (by decide +kernel) rfl rfl rfl (by decide +kernel)
def codes1 : List Jvm.Cond := [Jvm.Cond.code x code maxLocals ret, Jvm.Cond.code ({ cls := "com/example/garante/garante/intel/EnclaveReport", name := "<init>", desc := "(J[B[B[BII)V" } : Jvm.MethodName) prog_30_method_1_code (8 : Nat) (Option.none : Option Jvm.ClassFile.FieldType), Jvm.Cond.code ({ cls := "java/lang/Record", name := "<init>", desc := "()V" } : Jvm.MethodName) jdk_30_method_1_code (1 : Nat) (Option.none : Option Jvm.ClassFile.FieldType), Jvm.Cond.code ({ cls := "java/lang/Object", name := "<init>", desc := "()V" } : Jvm.MethodName) object_method_1_code (1 : Nat) (Option.none : Option Jvm.ClassFile.FieldType), Jvm.Cond.code ({ cls := "com/example/garante/garante/intel/EnclaveReport", name := "isDebug", desc := "()Z" } : Jvm.MethodName) prog_30_method_3_code (1 : Nat) (Option.some Jvm.ClassFile.FieldType.boolean)]
set_option maxRecDepth 65536 in
theorem codes_eq : words1.filter isCode = codes1 := rfl
theorem w_codes : ∀ c ∈ words1.filter isCode, c.before args0 about1 = true := by
  rw [codes_eq]
  intro c hc
  simp only [codes1, List.mem_cons, List.not_mem_nil, or_false] at hc
  rcases hc with rfl | rfl | rfl | rfl | rfl
  · exact w_c0
  · exact w_c1
  · exact w_c2
  · exact w_c3
  · exact w_c4
set_option maxRecDepth 65536 in
theorem w_t1 : (words1.take 24).all (fun c => isCode c || c.before args0 about1) = true := by decide +kernel
set_option maxRecDepth 65536 in
theorem w_t2 : (words1.drop 24).all (fun c => isCode c || c.before args0 about1) = true := by decide +kernel
theorem w_tables : (allAtoms (Jvm.Cond.code x code maxLocals ret :: tables_1)).before args0 about1 = true := by
  rw [allAtoms_all]
  show words1.all (fun c => c.before args0 about1) = true
  refine all_split ?_ w_codes
  rw [← List.take_append_drop 24 words1, List.all_append, w_t1, w_t2]
  rfl
set_option maxRecDepth 65536 in
theorem w_case : (Jvm.Cond.and given_1 narrow_1).before args0 about1 = true := by decide +kernel
theorem w_applies : (headSpec (Jvm.Cond.code x code maxLocals ret :: tables_1) room_1).applies x e0.platform about1 = true :=
  (Spec.applies_iff w_frames).mpr ⟨w_running, w_runnable, w_alone, w_named, w_hears, w_ripe, w_room, w_tables⟩
theorem atStart : AtStart classFile x code maxLocals ret World_1 tables_1 room_1 Calls_1 rest_1 Pre_1 launch0 p0 e0 about1 theMethod args0 below0 :=
  ⟨lists_1, trivial, launch0.admits_env _ _ _, launch0.least_env, fairChoices_fair.cas, fairChoices_fair.clock, w_frames, w_args, w_heap, w_applies, trivial, trivial, w_case⟩
end start1
theorem witness_1 : WitnessClaimed_1 := ⟨start1.p0, start1.e0, start1.about1, start1.theMethod, start1.args0, start1.below0, start1.atStart⟩
end Jvm.Pilot.@@N@@
