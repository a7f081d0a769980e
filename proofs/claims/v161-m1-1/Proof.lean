import JvmDerived
import JvmDerived.Pilot.@@N@@Statement
import JvmDerived.Pilot.@@N@@Code
set_option linter.unusedVariables false
set_option linter.unusedSimpArgs false
namespace Jvm.RoadKit
open Sem ClassFile Op Lib Jvm.Stand Jvm.Free Jvm.LawKit
section New
variable {p : Program} {l : Launch} {e : Env} {R : Room} {s : State} {m : MethodId} {args : Array Value} {below : List Frame} {meth : Method} {c : Code} {T : State} {locs : List Loc} {cells slots : Nat}
theorem retI (X : Stand p l e R s m args below meth c T locs cells slots) (hx : p.tables.exec = Jvm.exec) {pc : Nat} {Ls : Array Slot} {z : Int32} {rest : List Value} (hret : meth.sig.returnType = some .int) (hd : decode c.code pc = .ok (.ireturn, 1)) {fs : List Frame}
    (hl : ∀ (f : JFrame) (acts : List Action), f.method = m → f.locked = none → f.entered = [] → (doReturn e (T.setTop f) acts (some (.int z))).1 = T.setFrames fs) : Steps p.tables e below (T.setTop (mkF m pc Ls (.int z :: rest))) (T.setFrames fs) := by
  have hm' : T.vm.method? m = some meth := X.method'
  have hn : narrow .int (.int z) = .int z := rfl
  show Steps p.tables e below (T.setTop { method := m, pc := pc, locals := Ls, stack := _ :: rest, locked := none }) _
  jvm_step X.here [X.here.top, hx, hd, hm', hret, hn]
  first | (intro acts; rw [hl _ acts rfl rfl rfl]) | rw [hl _ _ rfl rfl rfl]
  exact Steps.refl _
/-- from the state T with the frame g on top the run ends, returned, with Q -/
def own_Go (tb : Tables) (e : Env) (below : List Frame) (Q : Option Value → Heap → List Loc → Prop) (s : State) (C S : Nat) (T : State) (g : JFrame) : Prop :=
  ∃ t o, Steps tb e below (T.setTop g) t ∧ t.status = .running ∧ Ended t below o ∧ ∃ v L, o = .returned v ∧ Q v t.heap L ∧ FrameEnd s o t L C S
theorem own_by {tb : Tables} {Q : Option Value → Heap → List Loc → Prop} {C S : Nat} {T T' : State} {g g' : JFrame} (st : ∀ target, Steps tb e below (T'.setTop g') target → Steps tb e below (T.setTop g) target) (k : own_Go tb e below Q s C S T' g') : own_Go tb e below Q s C S T g := by
  obtain ⟨t, o, h1, h2⟩ := k
  exact ⟨t, o, st t h1, h2⟩
theorem bN {tb : Tables} {Q : Option Value → Heap → List Loc → Prop} {C S : Nat} {T : State} {g : JFrame} (T' : State) (g' : JFrame) (st : ∀ target, Steps tb e below (T'.setTop g') target → Steps tb e below (T.setTop g) target) (k : own_Go tb e below Q s C S T' g') : own_Go tb e below Q s C S T g := own_by st k
/-- the contract of a body: from the heap h0, with the arguments A, it returns, with Q -/
abbrev own_M (l : Launch) (y : MethodName) (code : ByteArray) (ml : Nat) (rt : Option FieldType) (ws : List Cond) (R : Room) (Z : State) (A : Array Value) (h0 : Heap) (Q : Option Value → Heap → List Loc → Prop) : Prop :=
  MetFree l y (head1 (Cond.code y code ml rt :: ws) R) (fun a U => a = A ∧ Z.Warmed39 U.vm ∧ U.heap = h0) (fun _ _ _ _ _ => True) (fun _ U o U' => ∃ v L, o = .returned v ∧ Q v U'.heap L ∧ FrameEnd U o U' L R.cells R.slots)
theorem own_bd {y : MethodName} {code : ByteArray} {ml : Nat} {rt : Option FieldType} {ws : List Cond} {Z : State} {A : Array Value} {h0 : Heap} {Q : Option Value → Heap → List Loc → Prop} (hpl : plainFor y = true)
    (k : ∀ p e s m below meth c s₁, BodyLoose p l y (head1 (Cond.code y code ml rt :: ws) R) code ml rt e s m A below meth c s₁ → p.tables.exec = Jvm.exec → c.code = code → c.maxLocals = ml → s.vm.findClass y.cls = some m.cls → meth.name = y.name → meth.locks = false → Z.Warmed39 s.vm → Stand p l e R s m A below meth c s₁ [] 0 0 → s₁.heap = h0 → own_Go p.tables e below Q s R.cells R.slots s₁ (entryFrame m A ml)) : own_M l y code ml rt ws R Z A h0 Q := by
  refine MetFree.of_bodySF hpl hisR ?_
  intro p e s m args below meth c s₁ Bd hml hP hK
  obtain ⟨rfl, hZ, hh⟩ := hP
  exact k p e s m below meth c s₁ Bd Bd.exec Bd.bytes hml (findClass_of_methodNamed Bd.named) (name_of_methodNamed Bd.named Bd.method).1 Bd.notSynchronized hZ (Stand.of_body Bd) (by rw [← hh, Bd.state]; rfl)
theorem own_ret {Q : Option Value → Heap → List Loc → Prop} {C S : Nat} {g : JFrame} (X : Stand p l e R s m args below meth c T locs cells slots) (hlk : meth.locks = false) {v : Option Value} (hv : meth.sig.returnType = none → v = none)
    (st : ∀ fs, (∀ (f : JFrame) (acts : List Action), f.method = m → f.locked = none → f.entered = [] → (doReturn e (T.setTop f) acts v).1 = T.setFrames fs) → Steps p.tables e below (T.setTop g) (T.setFrames fs))
    (hq : Q v T.heap locs) (hc : cells ≤ C) (hs : slots ≤ S) : own_Go p.tables e below Q s C S T g := by
  obtain ⟨fs, hr, hrun, hended, hW, hsame⟩ := X.leave (v := v) hv hlk
  exact ⟨_, _, st fs hr, hrun, hended, v, locs, rfl, hq, ⟨v, rfl⟩, hW, hsame.mono hc hs⟩
end New
end Jvm.RoadKit
namespace Jvm.Pilot.@@N@@
open Jvm Jvm.ClassFile Sem Op Lib Jvm.Free Jvm.Stand Jvm.LawKit Jvm.RoadKit Bundle Jvm.Pilot.@@N@@.Jvm.D
theorem pd_0 : parseMethodDescriptor "([BI)I" = some ⟨[(.array .byte), .int], some .int⟩ := by decide +kernel
def own_be (b0 b1 b2 b3 : Int32) : Int32 := ((((b0 &&& (255 : Int32)) <<< ((24 : Int32) &&& 31)) ||| ((b1 &&& (255 : Int32)) <<< ((16 : Int32) &&& 31))) ||| ((b2 &&& (255 : Int32)) <<< ((8 : Int32) &&& 31))) ||| (b3 &&& (255 : Int32))
theorem own_low (b x : Int32) (q : (b.toInt - x.toInt) % 256 = 0) : (b &&& (255 : Int32)).toInt = x.toInt % 256 := by
  have h := c_mask b 255 8 (by decide) (by decide)
  have e : ((2 ^ 8 : Nat) : Int) = 256 := by decide
  rw [h, e]
  omega
theorem own_bytes (u : Int32) : own_be (nar .byte (((u.toUInt32 >>> ((24 : Int32) &&& 31).toUInt32).toInt32).toInt8.toInt32)) (nar .byte (((u.toUInt32 >>> ((16 : Int32) &&& 31).toUInt32).toInt32).toInt8.toInt32)) (nar .byte (((u.toUInt32 >>> ((8 : Int32) &&& 31).toUInt32).toInt32).toInt8.toInt32)) (nar .byte (u.toInt8.toInt32)) = u := by
  have cc : ∀ x : Int32, ((nar .byte (x.toInt8.toInt32)).toInt - x.toInt) % 256 = 0 := fun x => by
    have h1 := (c_i2b x).1
    have h2 := (c_i2b (x.toInt8.toInt32)).1
    have h3 : nar .byte (x.toInt8.toInt32) = x.toInt8.toInt32.toInt8.toInt32 := rfl
    rw [h3]
    omega
  have s24 := c_iushr u 24 24 (by decide) (by decide)
  have s16 := c_iushr u 16 16 (by decide) (by decide)
  have s8 := c_iushr u 8 8 (by decide) (by decide)
  have a0 := own_low _ _ (cc ((u.toUInt32 >>> ((24 : Int32) &&& 31).toUInt32).toInt32))
  have a1 := own_low _ _ (cc ((u.toUInt32 >>> ((16 : Int32) &&& 31).toUInt32).toInt32))
  have a2 := own_low _ _ (cc ((u.toUInt32 >>> ((8 : Int32) &&& 31).toUInt32).toInt32))
  have a3 := own_low _ _ (cc u)
  unfold own_be
  generalize ((u.toUInt32 >>> ((24 : Int32) &&& 31).toUInt32).toInt32) = v24 at *
  generalize ((u.toUInt32 >>> ((16 : Int32) &&& 31).toUInt32).toInt32) = v16 at *
  generalize ((u.toUInt32 >>> ((8 : Int32) &&& 31).toUInt32).toInt32) = v8 at *
  generalize (nar .byte (v24.toInt8.toInt32) &&& (255 : Int32)) = x0 at *
  generalize (nar .byte (v16.toInt8.toInt32) &&& (255 : Int32)) = x1 at *
  generalize (nar .byte (v8.toInt8.toInt32) &&& (255 : Int32)) = x2 at *
  generalize (nar .byte (u.toInt8.toInt32) &&& (255 : Int32)) = x3 at *
  have l0 := c_ishl x0 24 24 (by decide)
  have l1 := c_ishl x1 16 16 (by decide)
  have l2 := c_ishl x2 8 8 (by decide)
  generalize x0 <<< ((24 : Int32) &&& 31) = y0 at *
  generalize x1 <<< ((16 : Int32) &&& 31) = y1 at *
  generalize x2 <<< ((8 : Int32) &&& 31) = y2 at *
  have r0 := rng32 u
  have r1 := rng32 y0
  have r2 := rng32 y1
  have r3 := rng32 y2
  have e8 : ((2 ^ 8 : Nat) : Int) = 256 := by decide
  have e16 : ((2 ^ 16 : Nat) : Int) = 65536 := by decide
  have e24 : ((2 ^ 24 : Nat) : Int) = 16777216 := by decide
  rw [e24] at l0 s24
  rw [e16] at l1 s16
  rw [e8] at l2 s8
  have o1 := c_or y0 y1 24 (by decide) 16777216 (by decide) (by omega) (by omega) (by omega)
  generalize y0 ||| y1 = z1 at *
  have r4 := rng32 z1
  have o2 := c_or z1 y2 16 (by decide) 65536 (by decide) (by omega) (by omega) (by omega)
  generalize z1 ||| y2 = z2 at *
  have r5 := rng32 z2
  have o3 := c_or z2 x3 8 (by decide) 256 (by decide) (by omega) (by omega) (by omega)
  generalize z2 ||| x3 = z3 at *
  have r6 := rng32 z3
  rw [← Int32.toInt_inj]
  omega
theorem own_mod5 (x : Int32) : (x &&& (2147483647 : Int32)) % (5 : Int32) = 0 ∨ (x &&& (2147483647 : Int32)) % (5 : Int32) = 1 ∨ (x &&& (2147483647 : Int32)) % (5 : Int32) = 2 ∨ (x &&& (2147483647 : Int32)) % (5 : Int32) = 3 ∨ (x &&& (2147483647 : Int32)) % (5 : Int32) = 4 := by
  have h := (c_and x 2147483647 (by decide)).1
  have h1 := (c_irem (x &&& 2147483647) 5 5 (by decide)).1 h
  have k0 : (0 : Int32).toInt = 0 := by decide
  have k1 : (1 : Int32).toInt = 1 := by decide
  have k2 : (2 : Int32).toInt = 2 := by decide
  have k3 : (3 : Int32).toInt = 3 := by decide
  have k4 : (4 : Int32).toInt = 4 := by decide
  simp only [← Int32.toInt_inj, k0, k1, k2, k3, k4]
  omega
theorem d1_0 : decode prog_35_method_2_code 0 = .ok (.aload_n 0, 1) := by decide +kernel
theorem d1_1 : decode prog_35_method_2_code 1 = .ok (.iload_n 1, 1) := by decide +kernel
theorem d1_2 : decode prog_35_method_2_code 2 = .ok (.baload, 1) := by decide +kernel
theorem d1_3 : decode prog_35_method_2_code 3 = .ok (.sipush 255, 3) := by decide +kernel
theorem d1_6 : decode prog_35_method_2_code 6 = .ok (.iand, 1) := by decide +kernel
theorem d1_7 : decode prog_35_method_2_code 7 = .ok (.bipush 24, 2) := by decide +kernel
theorem d1_9 : decode prog_35_method_2_code 9 = .ok (.ishl, 1) := by decide +kernel
theorem d1_10 : decode prog_35_method_2_code 10 = .ok (.aload_n 0, 1) := by decide +kernel
theorem d1_11 : decode prog_35_method_2_code 11 = .ok (.iload_n 1, 1) := by decide +kernel
theorem d1_12 : decode prog_35_method_2_code 12 = .ok (.iconst 1, 1) := by decide +kernel
theorem d1_13 : decode prog_35_method_2_code 13 = .ok (.iadd, 1) := by decide +kernel
theorem d1_14 : decode prog_35_method_2_code 14 = .ok (.baload, 1) := by decide +kernel
theorem d1_15 : decode prog_35_method_2_code 15 = .ok (.sipush 255, 3) := by decide +kernel
theorem d1_18 : decode prog_35_method_2_code 18 = .ok (.iand, 1) := by decide +kernel
theorem d1_19 : decode prog_35_method_2_code 19 = .ok (.bipush 16, 2) := by decide +kernel
theorem d1_21 : decode prog_35_method_2_code 21 = .ok (.ishl, 1) := by decide +kernel
theorem d1_22 : decode prog_35_method_2_code 22 = .ok (.ior, 1) := by decide +kernel
theorem d1_23 : decode prog_35_method_2_code 23 = .ok (.aload_n 0, 1) := by decide +kernel
theorem d1_24 : decode prog_35_method_2_code 24 = .ok (.iload_n 1, 1) := by decide +kernel
theorem d1_25 : decode prog_35_method_2_code 25 = .ok (.iconst 2, 1) := by decide +kernel
theorem d1_26 : decode prog_35_method_2_code 26 = .ok (.iadd, 1) := by decide +kernel
theorem d1_27 : decode prog_35_method_2_code 27 = .ok (.baload, 1) := by decide +kernel
theorem d1_28 : decode prog_35_method_2_code 28 = .ok (.sipush 255, 3) := by decide +kernel
theorem d1_31 : decode prog_35_method_2_code 31 = .ok (.iand, 1) := by decide +kernel
theorem d1_32 : decode prog_35_method_2_code 32 = .ok (.bipush 8, 2) := by decide +kernel
theorem d1_34 : decode prog_35_method_2_code 34 = .ok (.ishl, 1) := by decide +kernel
theorem d1_35 : decode prog_35_method_2_code 35 = .ok (.ior, 1) := by decide +kernel
theorem d1_36 : decode prog_35_method_2_code 36 = .ok (.aload_n 0, 1) := by decide +kernel
theorem d1_37 : decode prog_35_method_2_code 37 = .ok (.iload_n 1, 1) := by decide +kernel
theorem d1_38 : decode prog_35_method_2_code 38 = .ok (.iconst 3, 1) := by decide +kernel
theorem d1_39 : decode prog_35_method_2_code 39 = .ok (.iadd, 1) := by decide +kernel
theorem d1_40 : decode prog_35_method_2_code 40 = .ok (.baload, 1) := by decide +kernel
theorem d1_41 : decode prog_35_method_2_code 41 = .ok (.sipush 255, 3) := by decide +kernel
theorem d1_44 : decode prog_35_method_2_code 44 = .ok (.iand, 1) := by decide +kernel
theorem d1_45 : decode prog_35_method_2_code 45 = .ok (.ior, 1) := by decide +kernel
theorem d1_46 : decode prog_35_method_2_code 46 = .ok (.ireturn, 1) := by decide +kernel
theorem pn_1 : plainName "com/example/onceward/onceward/journal/BigEndian" = true := by first | (simp [plainName, overriddenIn]; done) | decide +kernel
theorem ef_rm1 (m : MethodId) (a : Addr) (u : Int32) : entryFrame m #[(.ref a), (.int u)] 2 = mkF m 0 #[.val (.ref a), .val (.int u)] [] := by first | (simp [entryFrame, mkF, argsToLocals, Value.category]; done) | rfl
def Q_rm1 (Z : State) (a : Addr) (u : Int32) (cl : Cell) (b0 : Int32) (b1 : Int32) (b2 : Int32) (b3 : Int32) (h0 : Heap) (n0 : Nat) (v : Option Value) (h : Heap) (L : List Loc) : Prop := v = some (.int (own_be b0 b1 b2 b3)) ∧ Fr n0 L ∧ h = h0
set_option maxRecDepth 65536 in
set_option maxHeartbeats 40000000 in
theorem rm1 (l : Launch) (Z : State) (a0 : Array Value) (hw : ∀ d ∈ tables_1, d.before a0 Z = true) (ws : List Jvm.Cond) (a : Addr) (u : Int32) (cl : Cell) (b0 : Int32) (b1 : Int32) (b2 : Int32) (b3 : Int32) (h0 : Heap) (n0 : Nat) (Z0 : n0 ≤ h0.size) (Ar : Arr Z h0 a cl .byte) (hin0 : ¬ (u < 0 ∨ cl.slots.size ≤ (u).toNatClampNeg)) (hin1 : ¬ ((u + (1 : Int32)) < 0 ∨ cl.slots.size ≤ ((u + (1 : Int32))).toNatClampNeg)) (hin2 : ¬ ((u + (2 : Int32)) < 0 ∨ cl.slots.size ≤ ((u + (2 : Int32))).toNatClampNeg)) (hin3 : ¬ ((u + (3 : Int32)) < 0 ∨ cl.slots.size ≤ ((u + (3 : Int32))).toNatClampNeg)) (hat0 : cl.slots[(u).toNatClampNeg]? = some (.int b0)) (hat1 : cl.slots[((u + (1 : Int32))).toNatClampNeg]? = some (.int b1)) (hat2 : cl.slots[((u + (2 : Int32))).toNatClampNeg]? = some (.int b2)) (hat3 : cl.slots[((u + (3 : Int32))).toNatClampNeg]? = some (.int b3)) :
    MetFree l (⟨"com/example/onceward/onceward/journal/BigEndian", "intAt", "([BI)I"⟩ : MethodName) (head1 (Jvm.Cond.code (⟨"com/example/onceward/onceward/journal/BigEndian", "intAt", "([BI)I"⟩ : MethodName) prog_35_method_2_code 2 (some .int) :: ws) ({ frames := 0, cells := 0, slots := 0, locals := 0 } : Room)) (fun zz UU => zz = #[(.ref a), (.int u)] ∧ Z.Warmed39 UU.vm ∧ UU.heap = h0) (fun _ _ _ _ _ => True) (fun _ U o U' => ∃ v L, o = .returned v ∧ Q_rm1 Z a u cl b0 b1 b2 b3 h0 n0 v U'.heap L ∧ FrameEnd U o U' L ({ frames := 0, cells := 0, slots := 0, locals := 0 } : Room).cells ({ frames := 0, cells := 0, slots := 0, locals := 0 } : Room).slots) := by
  refine MetFree.of_bodySF (plainFor_of_name pn_1) hisR ?_
  intro p e s m args below meth c s₁ Bd hml0 hP hK
  obtain ⟨rfl, hZ, hh⟩ := hP
  have hx := Bd.exec
  have hby := Bd.bytes
  have hml : c.maxLocals = 2 := hml0
  have hown : s.vm.findClass "com/example/onceward/onceward/journal/BigEndian" = some m.cls := findClass_of_methodNamed Bd.named
  have hnm := (name_of_methodNamed Bd.named Bd.method).1
  have hlk : meth.locks = false := BodyLoose.notSynchronized Bd
  have X0 : Stand p l e ({ frames := 0, cells := 0, slots := 0, locals := 0 } : Room) s m #[(.ref a), (.int u)] below meth c s₁ [] 0 0 := Stand.of_body Bd
  have e0 : s₁.heap = h0 := by rw [← hh, Bd.state]; rfl
  have N0 := Fr.nil n0
  show own_Go p.tables e below (Q_rm1 Z a u cl b0 b1 b2 b3 h0 n0) s ({ frames := 0, cells := 0, slots := 0, locals := 0 } : Room).cells ({ frames := 0, cells := 0, slots := 0, locals := 0 } : Room).slots s₁ (entryFrame m #[(.ref a), (.int u)] 2)
  rw [ef_rm1 m a u]
  refine own_by (T' := s₁) (g' := (mkF m 1 #[.val (.ref a), .val (.int u)] [(.ref a)])) (fun _ k => XS.aloadN X0.here hx rfl (hb hby d1_0) rfl rfl k) ?_
  refine own_by (T' := s₁) (g' := (mkF m 2 #[.val (.ref a), .val (.int u)] [(.int u), (.ref a)])) (fun _ k => XS.iloadN X0.here hx rfl (hb hby d1_1) rfl k) ?_
  refine own_by (T' := s₁) (g' := (mkF m 3 #[.val (.ref a), .val (.int u)] [(.int b0)])) (fun _ k => X0.baloadBytes hx (j := u) (v := (.int b0)) (by rw [e0]; exact Ar.1) (State.isArrayOf_alike hZ.alike Ar.2.1) Ar.2.2 hin0 hat0 (g := (mkF m 2 #[.val (.ref a), .val (.int u)] [(.int u), (.ref a)])) rfl rfl (hb hby d1_2) _ k) ?_
  refine own_by (T' := s₁) (g' := (mkF m 6 #[.val (.ref a), .val (.int u)] [(.int (255 : Int32)), (.int b0)])) (fun _ k => XS.sipush X0.here hx rfl (hb hby d1_3) k) ?_
  refine own_by (T' := s₁) (g' := (mkF m 7 #[.val (.ref a), .val (.int u)] [(.int (b0 &&& (255 : Int32)))])) (fun _ k => XS.iand X0.here hx rfl (hb hby d1_6) rfl k) ?_
  refine own_by (T' := s₁) (g' := (mkF m 9 #[.val (.ref a), .val (.int u)] [(.int (24 : Int32)), (.int (b0 &&& (255 : Int32)))])) (fun _ k => XS.bipush X0.here hx rfl (hb hby d1_7) k) ?_
  refine own_by (T' := s₁) (g' := (mkF m 10 #[.val (.ref a), .val (.int u)] [(.int ((b0 &&& (255 : Int32)) <<< ((24 : Int32) &&& 31)))])) (fun _ k => XS.ishl X0.here hx rfl (hb hby d1_9) rfl k) ?_
  refine own_by (T' := s₁) (g' := (mkF m 11 #[.val (.ref a), .val (.int u)] [(.ref a), (.int ((b0 &&& (255 : Int32)) <<< ((24 : Int32) &&& 31)))])) (fun _ k => XS.aloadN X0.here hx rfl (hb hby d1_10) rfl rfl k) ?_
  refine own_by (T' := s₁) (g' := (mkF m 12 #[.val (.ref a), .val (.int u)] [(.int u), (.ref a), (.int ((b0 &&& (255 : Int32)) <<< ((24 : Int32) &&& 31)))])) (fun _ k => XS.iloadN X0.here hx rfl (hb hby d1_11) rfl k) ?_
  refine own_by (T' := s₁) (g' := (mkF m 13 #[.val (.ref a), .val (.int u)] [(.int (1 : Int32)), (.int u), (.ref a), (.int ((b0 &&& (255 : Int32)) <<< ((24 : Int32) &&& 31)))])) (fun _ k => XS.iconst X0.here hx rfl (hb hby d1_12) k) ?_
  refine own_by (T' := s₁) (g' := (mkF m 14 #[.val (.ref a), .val (.int u)] [(.int (u + (1 : Int32))), (.ref a), (.int ((b0 &&& (255 : Int32)) <<< ((24 : Int32) &&& 31)))])) (fun _ k => XS.iadd X0.here hx rfl (hb hby d1_13) rfl k) ?_
  refine own_by (T' := s₁) (g' := (mkF m 15 #[.val (.ref a), .val (.int u)] [(.int b1), (.int ((b0 &&& (255 : Int32)) <<< ((24 : Int32) &&& 31)))])) (fun _ k => X0.baloadBytes hx (j := (u + (1 : Int32))) (v := (.int b1)) (by rw [e0]; exact Ar.1) (State.isArrayOf_alike hZ.alike Ar.2.1) Ar.2.2 hin1 hat1 (g := (mkF m 14 #[.val (.ref a), .val (.int u)] [(.int (u + (1 : Int32))), (.ref a), (.int ((b0 &&& (255 : Int32)) <<< ((24 : Int32) &&& 31)))])) rfl rfl (hb hby d1_14) _ k) ?_
  refine own_by (T' := s₁) (g' := (mkF m 18 #[.val (.ref a), .val (.int u)] [(.int (255 : Int32)), (.int b1), (.int ((b0 &&& (255 : Int32)) <<< ((24 : Int32) &&& 31)))])) (fun _ k => XS.sipush X0.here hx rfl (hb hby d1_15) k) ?_
  refine own_by (T' := s₁) (g' := (mkF m 19 #[.val (.ref a), .val (.int u)] [(.int (b1 &&& (255 : Int32))), (.int ((b0 &&& (255 : Int32)) <<< ((24 : Int32) &&& 31)))])) (fun _ k => XS.iand X0.here hx rfl (hb hby d1_18) rfl k) ?_
  refine own_by (T' := s₁) (g' := (mkF m 21 #[.val (.ref a), .val (.int u)] [(.int (16 : Int32)), (.int (b1 &&& (255 : Int32))), (.int ((b0 &&& (255 : Int32)) <<< ((24 : Int32) &&& 31)))])) (fun _ k => XS.bipush X0.here hx rfl (hb hby d1_19) k) ?_
  refine own_by (T' := s₁) (g' := (mkF m 22 #[.val (.ref a), .val (.int u)] [(.int ((b1 &&& (255 : Int32)) <<< ((16 : Int32) &&& 31))), (.int ((b0 &&& (255 : Int32)) <<< ((24 : Int32) &&& 31)))])) (fun _ k => XS.ishl X0.here hx rfl (hb hby d1_21) rfl k) ?_
  refine own_by (T' := s₁) (g' := (mkF m 23 #[.val (.ref a), .val (.int u)] [(.int (((b0 &&& (255 : Int32)) <<< ((24 : Int32) &&& 31)) ||| ((b1 &&& (255 : Int32)) <<< ((16 : Int32) &&& 31))))])) (fun _ k => XS.ior X0.here hx rfl (hb hby d1_22) rfl k) ?_
  refine own_by (T' := s₁) (g' := (mkF m 24 #[.val (.ref a), .val (.int u)] [(.ref a), (.int (((b0 &&& (255 : Int32)) <<< ((24 : Int32) &&& 31)) ||| ((b1 &&& (255 : Int32)) <<< ((16 : Int32) &&& 31))))])) (fun _ k => XS.aloadN X0.here hx rfl (hb hby d1_23) rfl rfl k) ?_
  refine own_by (T' := s₁) (g' := (mkF m 25 #[.val (.ref a), .val (.int u)] [(.int u), (.ref a), (.int (((b0 &&& (255 : Int32)) <<< ((24 : Int32) &&& 31)) ||| ((b1 &&& (255 : Int32)) <<< ((16 : Int32) &&& 31))))])) (fun _ k => XS.iloadN X0.here hx rfl (hb hby d1_24) rfl k) ?_
  refine own_by (T' := s₁) (g' := (mkF m 26 #[.val (.ref a), .val (.int u)] [(.int (2 : Int32)), (.int u), (.ref a), (.int (((b0 &&& (255 : Int32)) <<< ((24 : Int32) &&& 31)) ||| ((b1 &&& (255 : Int32)) <<< ((16 : Int32) &&& 31))))])) (fun _ k => XS.iconst X0.here hx rfl (hb hby d1_25) k) ?_
  refine own_by (T' := s₁) (g' := (mkF m 27 #[.val (.ref a), .val (.int u)] [(.int (u + (2 : Int32))), (.ref a), (.int (((b0 &&& (255 : Int32)) <<< ((24 : Int32) &&& 31)) ||| ((b1 &&& (255 : Int32)) <<< ((16 : Int32) &&& 31))))])) (fun _ k => XS.iadd X0.here hx rfl (hb hby d1_26) rfl k) ?_
  refine own_by (T' := s₁) (g' := (mkF m 28 #[.val (.ref a), .val (.int u)] [(.int b2), (.int (((b0 &&& (255 : Int32)) <<< ((24 : Int32) &&& 31)) ||| ((b1 &&& (255 : Int32)) <<< ((16 : Int32) &&& 31))))])) (fun _ k => X0.baloadBytes hx (j := (u + (2 : Int32))) (v := (.int b2)) (by rw [e0]; exact Ar.1) (State.isArrayOf_alike hZ.alike Ar.2.1) Ar.2.2 hin2 hat2 (g := (mkF m 27 #[.val (.ref a), .val (.int u)] [(.int (u + (2 : Int32))), (.ref a), (.int (((b0 &&& (255 : Int32)) <<< ((24 : Int32) &&& 31)) ||| ((b1 &&& (255 : Int32)) <<< ((16 : Int32) &&& 31))))])) rfl rfl (hb hby d1_27) _ k) ?_
  refine own_by (T' := s₁) (g' := (mkF m 31 #[.val (.ref a), .val (.int u)] [(.int (255 : Int32)), (.int b2), (.int (((b0 &&& (255 : Int32)) <<< ((24 : Int32) &&& 31)) ||| ((b1 &&& (255 : Int32)) <<< ((16 : Int32) &&& 31))))])) (fun _ k => XS.sipush X0.here hx rfl (hb hby d1_28) k) ?_
  refine own_by (T' := s₁) (g' := (mkF m 32 #[.val (.ref a), .val (.int u)] [(.int (b2 &&& (255 : Int32))), (.int (((b0 &&& (255 : Int32)) <<< ((24 : Int32) &&& 31)) ||| ((b1 &&& (255 : Int32)) <<< ((16 : Int32) &&& 31))))])) (fun _ k => XS.iand X0.here hx rfl (hb hby d1_31) rfl k) ?_
  refine own_by (T' := s₁) (g' := (mkF m 34 #[.val (.ref a), .val (.int u)] [(.int (8 : Int32)), (.int (b2 &&& (255 : Int32))), (.int (((b0 &&& (255 : Int32)) <<< ((24 : Int32) &&& 31)) ||| ((b1 &&& (255 : Int32)) <<< ((16 : Int32) &&& 31))))])) (fun _ k => XS.bipush X0.here hx rfl (hb hby d1_32) k) ?_
  refine own_by (T' := s₁) (g' := (mkF m 35 #[.val (.ref a), .val (.int u)] [(.int ((b2 &&& (255 : Int32)) <<< ((8 : Int32) &&& 31))), (.int (((b0 &&& (255 : Int32)) <<< ((24 : Int32) &&& 31)) ||| ((b1 &&& (255 : Int32)) <<< ((16 : Int32) &&& 31))))])) (fun _ k => XS.ishl X0.here hx rfl (hb hby d1_34) rfl k) ?_
  refine own_by (T' := s₁) (g' := (mkF m 36 #[.val (.ref a), .val (.int u)] [(.int ((((b0 &&& (255 : Int32)) <<< ((24 : Int32) &&& 31)) ||| ((b1 &&& (255 : Int32)) <<< ((16 : Int32) &&& 31))) ||| ((b2 &&& (255 : Int32)) <<< ((8 : Int32) &&& 31))))])) (fun _ k => XS.ior X0.here hx rfl (hb hby d1_35) rfl k) ?_
  refine own_by (T' := s₁) (g' := (mkF m 37 #[.val (.ref a), .val (.int u)] [(.ref a), (.int ((((b0 &&& (255 : Int32)) <<< ((24 : Int32) &&& 31)) ||| ((b1 &&& (255 : Int32)) <<< ((16 : Int32) &&& 31))) ||| ((b2 &&& (255 : Int32)) <<< ((8 : Int32) &&& 31))))])) (fun _ k => XS.aloadN X0.here hx rfl (hb hby d1_36) rfl rfl k) ?_
  refine own_by (T' := s₁) (g' := (mkF m 38 #[.val (.ref a), .val (.int u)] [(.int u), (.ref a), (.int ((((b0 &&& (255 : Int32)) <<< ((24 : Int32) &&& 31)) ||| ((b1 &&& (255 : Int32)) <<< ((16 : Int32) &&& 31))) ||| ((b2 &&& (255 : Int32)) <<< ((8 : Int32) &&& 31))))])) (fun _ k => XS.iloadN X0.here hx rfl (hb hby d1_37) rfl k) ?_
  refine own_by (T' := s₁) (g' := (mkF m 39 #[.val (.ref a), .val (.int u)] [(.int (3 : Int32)), (.int u), (.ref a), (.int ((((b0 &&& (255 : Int32)) <<< ((24 : Int32) &&& 31)) ||| ((b1 &&& (255 : Int32)) <<< ((16 : Int32) &&& 31))) ||| ((b2 &&& (255 : Int32)) <<< ((8 : Int32) &&& 31))))])) (fun _ k => XS.iconst X0.here hx rfl (hb hby d1_38) k) ?_
  refine own_by (T' := s₁) (g' := (mkF m 40 #[.val (.ref a), .val (.int u)] [(.int (u + (3 : Int32))), (.ref a), (.int ((((b0 &&& (255 : Int32)) <<< ((24 : Int32) &&& 31)) ||| ((b1 &&& (255 : Int32)) <<< ((16 : Int32) &&& 31))) ||| ((b2 &&& (255 : Int32)) <<< ((8 : Int32) &&& 31))))])) (fun _ k => XS.iadd X0.here hx rfl (hb hby d1_39) rfl k) ?_
  refine own_by (T' := s₁) (g' := (mkF m 41 #[.val (.ref a), .val (.int u)] [(.int b3), (.int ((((b0 &&& (255 : Int32)) <<< ((24 : Int32) &&& 31)) ||| ((b1 &&& (255 : Int32)) <<< ((16 : Int32) &&& 31))) ||| ((b2 &&& (255 : Int32)) <<< ((8 : Int32) &&& 31))))])) (fun _ k => X0.baloadBytes hx (j := (u + (3 : Int32))) (v := (.int b3)) (by rw [e0]; exact Ar.1) (State.isArrayOf_alike hZ.alike Ar.2.1) Ar.2.2 hin3 hat3 (g := (mkF m 40 #[.val (.ref a), .val (.int u)] [(.int (u + (3 : Int32))), (.ref a), (.int ((((b0 &&& (255 : Int32)) <<< ((24 : Int32) &&& 31)) ||| ((b1 &&& (255 : Int32)) <<< ((16 : Int32) &&& 31))) ||| ((b2 &&& (255 : Int32)) <<< ((8 : Int32) &&& 31))))])) rfl rfl (hb hby d1_40) _ k) ?_
  refine own_by (T' := s₁) (g' := (mkF m 44 #[.val (.ref a), .val (.int u)] [(.int (255 : Int32)), (.int b3), (.int ((((b0 &&& (255 : Int32)) <<< ((24 : Int32) &&& 31)) ||| ((b1 &&& (255 : Int32)) <<< ((16 : Int32) &&& 31))) ||| ((b2 &&& (255 : Int32)) <<< ((8 : Int32) &&& 31))))])) (fun _ k => XS.sipush X0.here hx rfl (hb hby d1_41) k) ?_
  refine own_by (T' := s₁) (g' := (mkF m 45 #[.val (.ref a), .val (.int u)] [(.int (b3 &&& (255 : Int32))), (.int ((((b0 &&& (255 : Int32)) <<< ((24 : Int32) &&& 31)) ||| ((b1 &&& (255 : Int32)) <<< ((16 : Int32) &&& 31))) ||| ((b2 &&& (255 : Int32)) <<< ((8 : Int32) &&& 31))))])) (fun _ k => XS.iand X0.here hx rfl (hb hby d1_44) rfl k) ?_
  refine own_by (T' := s₁) (g' := (mkF m 46 #[.val (.ref a), .val (.int u)] [(.int (((((b0 &&& (255 : Int32)) <<< ((24 : Int32) &&& 31)) ||| ((b1 &&& (255 : Int32)) <<< ((16 : Int32) &&& 31))) ||| ((b2 &&& (255 : Int32)) <<< ((8 : Int32) &&& 31))) ||| (b3 &&& (255 : Int32))))])) (fun _ k => XS.ior X0.here hx rfl (hb hby d1_45) rfl k) ?_
  refine own_ret X0 hlk (v := some (.int (((((b0 &&& (255 : Int32)) <<< ((24 : Int32) &&& 31)) ||| ((b1 &&& (255 : Int32)) <<< ((16 : Int32) &&& 31))) ||| ((b2 &&& (255 : Int32)) <<< ((8 : Int32) &&& 31))) ||| (b3 &&& (255 : Int32))))) (fun h => by rw [Bd.returns] at h; cases h) (fun fs hr => retI X0 hx Bd.returns (hb hby d1_46) hr) ?_ (by decide) (by decide)
  rw [e0]
  exact ⟨rfl, N0, rfl⟩
theorem pn_0 : plainName "com/example/onceward/onceward/journal/BigEndianIntAtPinLaw" = true := by first | (simp [plainName, overriddenIn]; done) | decide +kernel
theorem ef_rm0 (m : MethodId) (u : Int32) (r : Int32) (f : Int64) : entryFrame m #[(.int u), (.int r), (.long f)] maxLocals = mkF m 0 #[.val (.int u), .val (.int r), .val (.long f), .second, .unset, .unset] [] := by first | (simp [entryFrame, mkF, argsToLocals, Value.category, maxLocals]; done) | rfl
def Q_rm0 (Z : State) (u : Int32) (r : Int32) (f : Int64) (h0 : Heap) (n0 : Nat) (v : Option Value) (h : Heap) (L : List Loc) : Prop := v = some (.int 1) ∧ Fr n0 L
set_option maxRecDepth 65536 in
set_option maxHeartbeats 40000000 in
theorem rm0 (l : Launch) (Z : State) (a0 : Array Value) (hw : ∀ d ∈ tables_1, d.before a0 Z = true) (ws : List Jvm.Cond) (u : Int32) (r : Int32) (f : Int64) (h0 : Heap) (n0 : Nat) (Z0 : n0 ≤ h0.size) :
    MetFree l x (head1 (Jvm.Cond.code x code maxLocals ret :: ws) room_1) (fun zz UU => zz = #[(.int u), (.int r), (.long f)] ∧ Z.Warmed39 UU.vm ∧ UU.heap = h0) (fun _ _ _ _ _ => True) (fun _ U o U' => ∃ v L, o = .returned v ∧ Q_rm0 Z u r f h0 n0 v U'.heap L ∧ FrameEnd U o U' L 16 128) := by
  refine MetFree.of_bodySF (plainFor_of_name pn_0) hisR ?_
  intro p e s m args below meth c s₁ Bd hml0 hP hK
  obtain ⟨rfl, hZ, hh⟩ := hP
  have hx := Bd.exec
  have hby := Bd.bytes
  have hml : c.maxLocals = 6 := hml0
  have hown : s.vm.findClass "com/example/onceward/onceward/journal/BigEndianIntAtPinLaw" = some m.cls := findClass_of_methodNamed Bd.named
  have hnm := (name_of_methodNamed Bd.named Bd.method).1
  have hlk : meth.locks = false := BodyLoose.notSynchronized Bd
  have X0 : Stand p l e room_1 s m #[(.int u), (.int r), (.long f)] below meth c s₁ [] 0 0 := Stand.of_body Bd
  have e0 : s₁.heap = h0 := by rw [← hh, Bd.state]; rfl
  have N0 := Fr.nil n0
  show own_Go p.tables e below (Q_rm0 Z u r f h0 n0) s 16 128 s₁ (entryFrame m #[(.int u), (.int r), (.long f)] maxLocals)
  rw [ef_rm0 m u r f]
  refine own_by (T' := s₁) (g' := (mkF m 1 #[.val (.int u), .val (.int r), .val (.long f), .second, .unset, .unset] [(.int r)])) (fun _ k => XS.iloadN X0.here hx rfl (hb hby at_0) rfl k) ?_
  refine own_by (T' := s₁) (g' := (mkF m 3 #[.val (.int u), .val (.int r), .val (.long f), .second, .unset, .unset] [(.int (2147483647 : Int32)), (.int r)])) (fun _ k => ldcI X0 hx hown (mvT hZ (hw _ (List.mem_of_getElem? (i := 0) rfl))) rfl (hb hby at_1) k) ?_
  refine own_by (T' := s₁) (g' := (mkF m 4 #[.val (.int u), .val (.int r), .val (.long f), .second, .unset, .unset] [(.int (r &&& (2147483647 : Int32)))])) (fun _ k => XS.iand X0.here hx rfl (hb hby at_3) rfl k) ?_
  refine own_by (T' := s₁) (g' := (mkF m 5 #[.val (.int u), .val (.int r), .val (.long f), .second, .unset, .unset] [(.int (5 : Int32)), (.int (r &&& (2147483647 : Int32)))])) (fun _ k => XS.iconst X0.here hx rfl (hb hby at_4) k) ?_
  refine own_by (T' := s₁) (g' := (mkF m 6 #[.val (.int u), .val (.int r), .val (.long f), .second, .unset, .unset] [(.int ((r &&& (2147483647 : Int32)) % (5 : Int32)))])) (fun _ k => iremM X0 hx rfl (hb hby at_5) rfl (by decide) k) ?_
  refine own_by (T' := s₁) (g' := (mkF m 8 #[.val (.int u), .val (.int r), .val (.long f), .second, .val (.int ((r &&& (2147483647 : Int32)) % (5 : Int32))), .unset] [])) (fun _ k => XS.istore X0.here hx rfl (hb hby at_6) rfl (l' := #[.val (.int u), .val (.int r), .val (.long f), .second, .val (.int ((r &&& (2147483647 : Int32)) % (5 : Int32))), .unset]) rfl k) ?_
  refine own_by (T' := s₁) (g' := (mkF m 10 #[.val (.int u), .val (.int r), .val (.long f), .second, .val (.int ((r &&& (2147483647 : Int32)) % (5 : Int32))), .unset] [(.int (8 : Int32))])) (fun _ k => XS.bipush X0.here hx rfl (hb hby at_8) k) ?_
  obtain ⟨T1, h1, k1, X1, e1, E1, A1, st1⟩ := newP X0 hx hZ (hw _ (List.mem_of_getElem? (i := 1) rfl)) e0 (g := (mkF m 10 #[.val (.int u), .val (.int r), .val (.long f), .second, .val (.int ((r &&& (2147483647 : Int32)) % (5 : Int32))), .unset] [(.int (8 : Int32))])) rfl (hb hby at_10) rfl (by decide) (cap := 8) (by decide) (by decide) (by decide) (by decide)
  obtain ⟨b1, g1⟩ : ∃ z, z = h0.size := ⟨_, rfl⟩
  rw [← g1] at A1 st1
  have V_b1 : Arv Z h1 b1 k1 .byte (8 : Int32) [(.int (0 : Int32)), (.int (0 : Int32)), (.int (0 : Int32)), (.int (0 : Int32)), (.int (0 : Int32)), (.int (0 : Int32)), (.int (0 : Int32)), (.int (0 : Int32))] (.int (0 : Int32)) := (Arv.new A1 (by decide)).pad (pad_rep [] (.int (0 : Int32)) 8)
  have g_b1 : n0 ≤ b1 := Nat.le_trans Z0 (Nat.le_of_eq g1.symm)
  have sz_b1 : h0.size ≤ b1 := Nat.le_trans (Keep.refl h0 []).1 (Nat.le_of_eq g1.symm)
  have K1 : Keep h0 h1 [] := Keep.ext (Keep.refl h0 []) E1
  refine own_by (T' := T1) (g' := (mkF m 12 #[.val (.int u), .val (.int r), .val (.long f), .second, .val (.int ((r &&& (2147483647 : Int32)) % (5 : Int32))), .unset] [(.ref b1)])) (fun _ k => st1 _ k) ?_
  refine own_by (T' := T1) (g' := (mkF m 14 #[.val (.int u), .val (.int r), .val (.long f), .second, .val (.int ((r &&& (2147483647 : Int32)) % (5 : Int32))), .val (.ref b1)] [])) (fun _ k => XS.astore X1.here hx rfl (hb hby at_12) rfl rfl (l' := #[.val (.int u), .val (.int r), .val (.long f), .second, .val (.int ((r &&& (2147483647 : Int32)) % (5 : Int32))), .val (.ref b1)]) rfl k) ?_
  refine own_by (T' := T1) (g' := (mkF m 16 #[.val (.int u), .val (.int r), .val (.long f), .second, .val (.int ((r &&& (2147483647 : Int32)) % (5 : Int32))), .val (.ref b1)] [(.ref b1)])) (fun _ k => XS.aload X1.here hx rfl (hb hby at_14) rfl rfl k) ?_
  refine own_by (T' := T1) (g' := (mkF m 17 #[.val (.int u), .val (.int r), .val (.long f), .second, .val (.int ((r &&& (2147483647 : Int32)) % (5 : Int32))), .val (.ref b1)] [(.int (0 : Int32)), (.ref b1)])) (fun _ k => XS.iconst X1.here hx rfl (hb hby at_16) k) ?_
  refine own_by (T' := T1) (g' := (mkF m 18 #[.val (.int u), .val (.int r), .val (.long f), .second, .val (.int ((r &&& (2147483647 : Int32)) % (5 : Int32))), .val (.ref b1)] [(.long f), (.int (0 : Int32)), (.ref b1)])) (fun _ k => XS.lloadN X1.here hx rfl (hb hby at_17) rfl k) ?_
  refine own_by (T' := T1) (g' := (mkF m 19 #[.val (.int u), .val (.int r), .val (.long f), .second, .val (.int ((r &&& (2147483647 : Int32)) % (5 : Int32))), .val (.ref b1)] [(.int (f.toInt32)), (.int (0 : Int32)), (.ref b1)])) (fun _ k => XS.l2i X1.here hx rfl (hb hby at_18) rfl k) ?_
  refine own_by (T' := T1) (g' := (mkF m 20 #[.val (.int u), .val (.int r), .val (.long f), .second, .val (.int ((r &&& (2147483647 : Int32)) % (5 : Int32))), .val (.ref b1)] [(.int ((f.toInt32).toInt8.toInt32)), (.int (0 : Int32)), (.ref b1)])) (fun _ k => XS.i2b X1.here hx rfl (hb hby at_19) rfl k) ?_
  obtain ⟨cl2, Ar2, q2, S2, N_2, H2, G2⟩ := V_b1
  have hin2 : ¬ ((0 : Int32) < 0 ∨ cl2.slots.size ≤ ((0 : Int32)).toNatClampNeg) := inb_of S2 ⟨by decide, by decide⟩
  obtain ⟨T3, h3, X3, e3, W3, st3⟩ := stB X1 hx hZ e1 Ar2 (j := (0 : Int32)) hin2 (g := (mkF m 20 #[.val (.int u), .val (.int r), .val (.long f), .second, .val (.int ((r &&& (2147483647 : Int32)) % (5 : Int32))), .val (.ref b1)] [(.int ((f.toInt32).toInt8.toInt32)), (.int (0 : Int32)), (.ref b1)])) rfl rfl (hb hby at_20)
  have V3 : Arv Z h3 b1 k1 .byte (8 : Int32) [(.int (nar .byte ((f.toInt32).toInt8.toInt32))), (.int (0 : Int32)), (.int (0 : Int32)), (.int (0 : Int32)), (.int (0 : Int32)), (.int (0 : Int32)), (.int (0 : Int32)), (.int (0 : Int32))] (.int (0 : Int32)) := Arv.set Ar2 q2 S2 N_2 H2 G2 (fits_nar_byte _) W3 0 rfl (Nat.le_of_ble_eq_true rfl)
  have K3 : Keep h0 h3 [] := Keep.wr K1 W3 (Or.inr sz_b1)
  have N3 := Fr.snoc X3 N0 g_b1
  refine own_by (T' := T3) (g' := (mkF m 21 #[.val (.int u), .val (.int r), .val (.long f), .second, .val (.int ((r &&& (2147483647 : Int32)) % (5 : Int32))), .val (.ref b1)] [])) (fun _ k => st3 _ k) ?_
  refine own_by (T' := T3) (g' := (mkF m 23 #[.val (.int u), .val (.int r), .val (.long f), .second, .val (.int ((r &&& (2147483647 : Int32)) % (5 : Int32))), .val (.ref b1)] [(.ref b1)])) (fun _ k => XS.aload X3.here hx rfl (hb hby at_21) rfl rfl k) ?_
  refine own_by (T' := T3) (g' := (mkF m 24 #[.val (.int u), .val (.int r), .val (.long f), .second, .val (.int ((r &&& (2147483647 : Int32)) % (5 : Int32))), .val (.ref b1)] [(.int (1 : Int32)), (.ref b1)])) (fun _ k => XS.iconst X3.here hx rfl (hb hby at_23) k) ?_
  refine own_by (T' := T3) (g' := (mkF m 25 #[.val (.int u), .val (.int r), .val (.long f), .second, .val (.int ((r &&& (2147483647 : Int32)) % (5 : Int32))), .val (.ref b1)] [(.long f), (.int (1 : Int32)), (.ref b1)])) (fun _ k => XS.lloadN X3.here hx rfl (hb hby at_24) rfl k) ?_
  refine own_by (T' := T3) (g' := (mkF m 27 #[.val (.int u), .val (.int r), .val (.long f), .second, .val (.int ((r &&& (2147483647 : Int32)) % (5 : Int32))), .val (.ref b1)] [(.int (8 : Int32)), (.long f), (.int (1 : Int32)), (.ref b1)])) (fun _ k => XS.bipush X3.here hx rfl (hb hby at_25) k) ?_
  refine own_by (T' := T3) (g' := (mkF m 28 #[.val (.int u), .val (.int r), .val (.long f), .second, .val (.int ((r &&& (2147483647 : Int32)) % (5 : Int32))), .val (.ref b1)] [(.long ((f.toUInt64 >>> ((8 : Int32) &&& 0x3f).toInt64.toUInt64).toInt64)), (.int (1 : Int32)), (.ref b1)])) (fun _ k => XS.lushr X3.here hx rfl (hb hby at_27) rfl k) ?_
  refine own_by (T' := T3) (g' := (mkF m 29 #[.val (.int u), .val (.int r), .val (.long f), .second, .val (.int ((r &&& (2147483647 : Int32)) % (5 : Int32))), .val (.ref b1)] [(.int (((f.toUInt64 >>> ((8 : Int32) &&& 0x3f).toInt64.toUInt64).toInt64).toInt32)), (.int (1 : Int32)), (.ref b1)])) (fun _ k => XS.l2i X3.here hx rfl (hb hby at_28) rfl k) ?_
  refine own_by (T' := T3) (g' := (mkF m 30 #[.val (.int u), .val (.int r), .val (.long f), .second, .val (.int ((r &&& (2147483647 : Int32)) % (5 : Int32))), .val (.ref b1)] [(.int ((((f.toUInt64 >>> ((8 : Int32) &&& 0x3f).toInt64.toUInt64).toInt64).toInt32).toInt8.toInt32)), (.int (1 : Int32)), (.ref b1)])) (fun _ k => XS.i2b X3.here hx rfl (hb hby at_29) rfl k) ?_
  obtain ⟨cl4, Ar4, q4, S4, N_4, H4, G4⟩ := V3
  have hin4 : ¬ ((1 : Int32) < 0 ∨ cl4.slots.size ≤ ((1 : Int32)).toNatClampNeg) := inb_of S4 ⟨by decide, by decide⟩
  obtain ⟨T5, h5, X5, e5, W5, st5⟩ := stB X3 hx hZ e3 Ar4 (j := (1 : Int32)) hin4 (g := (mkF m 30 #[.val (.int u), .val (.int r), .val (.long f), .second, .val (.int ((r &&& (2147483647 : Int32)) % (5 : Int32))), .val (.ref b1)] [(.int ((((f.toUInt64 >>> ((8 : Int32) &&& 0x3f).toInt64.toUInt64).toInt64).toInt32).toInt8.toInt32)), (.int (1 : Int32)), (.ref b1)])) rfl rfl (hb hby at_30)
  have V5 : Arv Z h5 b1 k1 .byte (8 : Int32) [(.int (nar .byte ((f.toInt32).toInt8.toInt32))), (.int (nar .byte ((((f.toUInt64 >>> ((8 : Int32) &&& 0x3f).toInt64.toUInt64).toInt64).toInt32).toInt8.toInt32))), (.int (0 : Int32)), (.int (0 : Int32)), (.int (0 : Int32)), (.int (0 : Int32)), (.int (0 : Int32)), (.int (0 : Int32))] (.int (0 : Int32)) := Arv.set Ar4 q4 S4 N_4 H4 G4 (fits_nar_byte _) W5 1 rfl (Nat.le_of_ble_eq_true rfl)
  have K5 : Keep h0 h5 [] := Keep.wr K3 W5 (Or.inr sz_b1)
  have N5 := Fr.snoc X5 N3 g_b1
  refine own_by (T' := T5) (g' := (mkF m 31 #[.val (.int u), .val (.int r), .val (.long f), .second, .val (.int ((r &&& (2147483647 : Int32)) % (5 : Int32))), .val (.ref b1)] [])) (fun _ k => st5 _ k) ?_
  refine own_by (T' := T5) (g' := (mkF m 33 #[.val (.int u), .val (.int r), .val (.long f), .second, .val (.int ((r &&& (2147483647 : Int32)) % (5 : Int32))), .val (.ref b1)] [(.ref b1)])) (fun _ k => XS.aload X5.here hx rfl (hb hby at_31) rfl rfl k) ?_
  refine own_by (T' := T5) (g' := (mkF m 34 #[.val (.int u), .val (.int r), .val (.long f), .second, .val (.int ((r &&& (2147483647 : Int32)) % (5 : Int32))), .val (.ref b1)] [(.int (2 : Int32)), (.ref b1)])) (fun _ k => XS.iconst X5.here hx rfl (hb hby at_33) k) ?_
  refine own_by (T' := T5) (g' := (mkF m 35 #[.val (.int u), .val (.int r), .val (.long f), .second, .val (.int ((r &&& (2147483647 : Int32)) % (5 : Int32))), .val (.ref b1)] [(.long f), (.int (2 : Int32)), (.ref b1)])) (fun _ k => XS.lloadN X5.here hx rfl (hb hby at_34) rfl k) ?_
  refine own_by (T' := T5) (g' := (mkF m 37 #[.val (.int u), .val (.int r), .val (.long f), .second, .val (.int ((r &&& (2147483647 : Int32)) % (5 : Int32))), .val (.ref b1)] [(.int (16 : Int32)), (.long f), (.int (2 : Int32)), (.ref b1)])) (fun _ k => XS.bipush X5.here hx rfl (hb hby at_35) k) ?_
  refine own_by (T' := T5) (g' := (mkF m 38 #[.val (.int u), .val (.int r), .val (.long f), .second, .val (.int ((r &&& (2147483647 : Int32)) % (5 : Int32))), .val (.ref b1)] [(.long ((f.toUInt64 >>> ((16 : Int32) &&& 0x3f).toInt64.toUInt64).toInt64)), (.int (2 : Int32)), (.ref b1)])) (fun _ k => XS.lushr X5.here hx rfl (hb hby at_37) rfl k) ?_
  refine own_by (T' := T5) (g' := (mkF m 39 #[.val (.int u), .val (.int r), .val (.long f), .second, .val (.int ((r &&& (2147483647 : Int32)) % (5 : Int32))), .val (.ref b1)] [(.int (((f.toUInt64 >>> ((16 : Int32) &&& 0x3f).toInt64.toUInt64).toInt64).toInt32)), (.int (2 : Int32)), (.ref b1)])) (fun _ k => XS.l2i X5.here hx rfl (hb hby at_38) rfl k) ?_
  refine own_by (T' := T5) (g' := (mkF m 40 #[.val (.int u), .val (.int r), .val (.long f), .second, .val (.int ((r &&& (2147483647 : Int32)) % (5 : Int32))), .val (.ref b1)] [(.int ((((f.toUInt64 >>> ((16 : Int32) &&& 0x3f).toInt64.toUInt64).toInt64).toInt32).toInt8.toInt32)), (.int (2 : Int32)), (.ref b1)])) (fun _ k => XS.i2b X5.here hx rfl (hb hby at_39) rfl k) ?_
  obtain ⟨cl6, Ar6, q6, S6, N_6, H6, G6⟩ := V5
  have hin6 : ¬ ((2 : Int32) < 0 ∨ cl6.slots.size ≤ ((2 : Int32)).toNatClampNeg) := inb_of S6 ⟨by decide, by decide⟩
  obtain ⟨T7, h7, X7, e7, W7, st7⟩ := stB X5 hx hZ e5 Ar6 (j := (2 : Int32)) hin6 (g := (mkF m 40 #[.val (.int u), .val (.int r), .val (.long f), .second, .val (.int ((r &&& (2147483647 : Int32)) % (5 : Int32))), .val (.ref b1)] [(.int ((((f.toUInt64 >>> ((16 : Int32) &&& 0x3f).toInt64.toUInt64).toInt64).toInt32).toInt8.toInt32)), (.int (2 : Int32)), (.ref b1)])) rfl rfl (hb hby at_40)
  have V7 : Arv Z h7 b1 k1 .byte (8 : Int32) [(.int (nar .byte ((f.toInt32).toInt8.toInt32))), (.int (nar .byte ((((f.toUInt64 >>> ((8 : Int32) &&& 0x3f).toInt64.toUInt64).toInt64).toInt32).toInt8.toInt32))), (.int (nar .byte ((((f.toUInt64 >>> ((16 : Int32) &&& 0x3f).toInt64.toUInt64).toInt64).toInt32).toInt8.toInt32))), (.int (0 : Int32)), (.int (0 : Int32)), (.int (0 : Int32)), (.int (0 : Int32)), (.int (0 : Int32))] (.int (0 : Int32)) := Arv.set Ar6 q6 S6 N_6 H6 G6 (fits_nar_byte _) W7 2 rfl (Nat.le_of_ble_eq_true rfl)
  have K7 : Keep h0 h7 [] := Keep.wr K5 W7 (Or.inr sz_b1)
  have N7 := Fr.snoc X7 N5 g_b1
  refine own_by (T' := T7) (g' := (mkF m 41 #[.val (.int u), .val (.int r), .val (.long f), .second, .val (.int ((r &&& (2147483647 : Int32)) % (5 : Int32))), .val (.ref b1)] [])) (fun _ k => st7 _ k) ?_
  refine own_by (T' := T7) (g' := (mkF m 43 #[.val (.int u), .val (.int r), .val (.long f), .second, .val (.int ((r &&& (2147483647 : Int32)) % (5 : Int32))), .val (.ref b1)] [(.ref b1)])) (fun _ k => XS.aload X7.here hx rfl (hb hby at_41) rfl rfl k) ?_
  refine own_by (T' := T7) (g' := (mkF m 44 #[.val (.int u), .val (.int r), .val (.long f), .second, .val (.int ((r &&& (2147483647 : Int32)) % (5 : Int32))), .val (.ref b1)] [(.int (3 : Int32)), (.ref b1)])) (fun _ k => XS.iconst X7.here hx rfl (hb hby at_43) k) ?_
  refine own_by (T' := T7) (g' := (mkF m 45 #[.val (.int u), .val (.int r), .val (.long f), .second, .val (.int ((r &&& (2147483647 : Int32)) % (5 : Int32))), .val (.ref b1)] [(.long f), (.int (3 : Int32)), (.ref b1)])) (fun _ k => XS.lloadN X7.here hx rfl (hb hby at_44) rfl k) ?_
  refine own_by (T' := T7) (g' := (mkF m 47 #[.val (.int u), .val (.int r), .val (.long f), .second, .val (.int ((r &&& (2147483647 : Int32)) % (5 : Int32))), .val (.ref b1)] [(.int (24 : Int32)), (.long f), (.int (3 : Int32)), (.ref b1)])) (fun _ k => XS.bipush X7.here hx rfl (hb hby at_45) k) ?_
  refine own_by (T' := T7) (g' := (mkF m 48 #[.val (.int u), .val (.int r), .val (.long f), .second, .val (.int ((r &&& (2147483647 : Int32)) % (5 : Int32))), .val (.ref b1)] [(.long ((f.toUInt64 >>> ((24 : Int32) &&& 0x3f).toInt64.toUInt64).toInt64)), (.int (3 : Int32)), (.ref b1)])) (fun _ k => XS.lushr X7.here hx rfl (hb hby at_47) rfl k) ?_
  refine own_by (T' := T7) (g' := (mkF m 49 #[.val (.int u), .val (.int r), .val (.long f), .second, .val (.int ((r &&& (2147483647 : Int32)) % (5 : Int32))), .val (.ref b1)] [(.int (((f.toUInt64 >>> ((24 : Int32) &&& 0x3f).toInt64.toUInt64).toInt64).toInt32)), (.int (3 : Int32)), (.ref b1)])) (fun _ k => XS.l2i X7.here hx rfl (hb hby at_48) rfl k) ?_
  refine own_by (T' := T7) (g' := (mkF m 50 #[.val (.int u), .val (.int r), .val (.long f), .second, .val (.int ((r &&& (2147483647 : Int32)) % (5 : Int32))), .val (.ref b1)] [(.int ((((f.toUInt64 >>> ((24 : Int32) &&& 0x3f).toInt64.toUInt64).toInt64).toInt32).toInt8.toInt32)), (.int (3 : Int32)), (.ref b1)])) (fun _ k => XS.i2b X7.here hx rfl (hb hby at_49) rfl k) ?_
  obtain ⟨cl8, Ar8, q8, S8, N_8, H8, G8⟩ := V7
  have hin8 : ¬ ((3 : Int32) < 0 ∨ cl8.slots.size ≤ ((3 : Int32)).toNatClampNeg) := inb_of S8 ⟨by decide, by decide⟩
  obtain ⟨T9, h9, X9, e9, W9, st9⟩ := stB X7 hx hZ e7 Ar8 (j := (3 : Int32)) hin8 (g := (mkF m 50 #[.val (.int u), .val (.int r), .val (.long f), .second, .val (.int ((r &&& (2147483647 : Int32)) % (5 : Int32))), .val (.ref b1)] [(.int ((((f.toUInt64 >>> ((24 : Int32) &&& 0x3f).toInt64.toUInt64).toInt64).toInt32).toInt8.toInt32)), (.int (3 : Int32)), (.ref b1)])) rfl rfl (hb hby at_50)
  have V9 : Arv Z h9 b1 k1 .byte (8 : Int32) [(.int (nar .byte ((f.toInt32).toInt8.toInt32))), (.int (nar .byte ((((f.toUInt64 >>> ((8 : Int32) &&& 0x3f).toInt64.toUInt64).toInt64).toInt32).toInt8.toInt32))), (.int (nar .byte ((((f.toUInt64 >>> ((16 : Int32) &&& 0x3f).toInt64.toUInt64).toInt64).toInt32).toInt8.toInt32))), (.int (nar .byte ((((f.toUInt64 >>> ((24 : Int32) &&& 0x3f).toInt64.toUInt64).toInt64).toInt32).toInt8.toInt32))), (.int (0 : Int32)), (.int (0 : Int32)), (.int (0 : Int32)), (.int (0 : Int32))] (.int (0 : Int32)) := Arv.set Ar8 q8 S8 N_8 H8 G8 (fits_nar_byte _) W9 3 rfl (Nat.le_of_ble_eq_true rfl)
  have K9 : Keep h0 h9 [] := Keep.wr K7 W9 (Or.inr sz_b1)
  have N9 := Fr.snoc X9 N7 g_b1
  refine own_by (T' := T9) (g' := (mkF m 51 #[.val (.int u), .val (.int r), .val (.long f), .second, .val (.int ((r &&& (2147483647 : Int32)) % (5 : Int32))), .val (.ref b1)] [])) (fun _ k => st9 _ k) ?_
  refine own_by (T' := T9) (g' := (mkF m 53 #[.val (.int u), .val (.int r), .val (.long f), .second, .val (.int ((r &&& (2147483647 : Int32)) % (5 : Int32))), .val (.ref b1)] [(.ref b1)])) (fun _ k => XS.aload X9.here hx rfl (hb hby at_51) rfl rfl k) ?_
  refine own_by (T' := T9) (g' := (mkF m 54 #[.val (.int u), .val (.int r), .val (.long f), .second, .val (.int ((r &&& (2147483647 : Int32)) % (5 : Int32))), .val (.ref b1)] [(.int (4 : Int32)), (.ref b1)])) (fun _ k => XS.iconst X9.here hx rfl (hb hby at_53) k) ?_
  refine own_by (T' := T9) (g' := (mkF m 55 #[.val (.int u), .val (.int r), .val (.long f), .second, .val (.int ((r &&& (2147483647 : Int32)) % (5 : Int32))), .val (.ref b1)] [(.long f), (.int (4 : Int32)), (.ref b1)])) (fun _ k => XS.lloadN X9.here hx rfl (hb hby at_54) rfl k) ?_
  refine own_by (T' := T9) (g' := (mkF m 57 #[.val (.int u), .val (.int r), .val (.long f), .second, .val (.int ((r &&& (2147483647 : Int32)) % (5 : Int32))), .val (.ref b1)] [(.int (32 : Int32)), (.long f), (.int (4 : Int32)), (.ref b1)])) (fun _ k => XS.bipush X9.here hx rfl (hb hby at_55) k) ?_
  refine own_by (T' := T9) (g' := (mkF m 58 #[.val (.int u), .val (.int r), .val (.long f), .second, .val (.int ((r &&& (2147483647 : Int32)) % (5 : Int32))), .val (.ref b1)] [(.long ((f.toUInt64 >>> ((32 : Int32) &&& 0x3f).toInt64.toUInt64).toInt64)), (.int (4 : Int32)), (.ref b1)])) (fun _ k => XS.lushr X9.here hx rfl (hb hby at_57) rfl k) ?_
  refine own_by (T' := T9) (g' := (mkF m 59 #[.val (.int u), .val (.int r), .val (.long f), .second, .val (.int ((r &&& (2147483647 : Int32)) % (5 : Int32))), .val (.ref b1)] [(.int (((f.toUInt64 >>> ((32 : Int32) &&& 0x3f).toInt64.toUInt64).toInt64).toInt32)), (.int (4 : Int32)), (.ref b1)])) (fun _ k => XS.l2i X9.here hx rfl (hb hby at_58) rfl k) ?_
  refine own_by (T' := T9) (g' := (mkF m 60 #[.val (.int u), .val (.int r), .val (.long f), .second, .val (.int ((r &&& (2147483647 : Int32)) % (5 : Int32))), .val (.ref b1)] [(.int ((((f.toUInt64 >>> ((32 : Int32) &&& 0x3f).toInt64.toUInt64).toInt64).toInt32).toInt8.toInt32)), (.int (4 : Int32)), (.ref b1)])) (fun _ k => XS.i2b X9.here hx rfl (hb hby at_59) rfl k) ?_
  obtain ⟨cl10, Ar10, q10, S10, N_10, H10, G10⟩ := V9
  have hin10 : ¬ ((4 : Int32) < 0 ∨ cl10.slots.size ≤ ((4 : Int32)).toNatClampNeg) := inb_of S10 ⟨by decide, by decide⟩
  obtain ⟨T11, h11, X11, e11, W11, st11⟩ := stB X9 hx hZ e9 Ar10 (j := (4 : Int32)) hin10 (g := (mkF m 60 #[.val (.int u), .val (.int r), .val (.long f), .second, .val (.int ((r &&& (2147483647 : Int32)) % (5 : Int32))), .val (.ref b1)] [(.int ((((f.toUInt64 >>> ((32 : Int32) &&& 0x3f).toInt64.toUInt64).toInt64).toInt32).toInt8.toInt32)), (.int (4 : Int32)), (.ref b1)])) rfl rfl (hb hby at_60)
  have V11 : Arv Z h11 b1 k1 .byte (8 : Int32) [(.int (nar .byte ((f.toInt32).toInt8.toInt32))), (.int (nar .byte ((((f.toUInt64 >>> ((8 : Int32) &&& 0x3f).toInt64.toUInt64).toInt64).toInt32).toInt8.toInt32))), (.int (nar .byte ((((f.toUInt64 >>> ((16 : Int32) &&& 0x3f).toInt64.toUInt64).toInt64).toInt32).toInt8.toInt32))), (.int (nar .byte ((((f.toUInt64 >>> ((24 : Int32) &&& 0x3f).toInt64.toUInt64).toInt64).toInt32).toInt8.toInt32))), (.int (nar .byte ((((f.toUInt64 >>> ((32 : Int32) &&& 0x3f).toInt64.toUInt64).toInt64).toInt32).toInt8.toInt32))), (.int (0 : Int32)), (.int (0 : Int32)), (.int (0 : Int32))] (.int (0 : Int32)) := Arv.set Ar10 q10 S10 N_10 H10 G10 (fits_nar_byte _) W11 4 rfl (Nat.le_of_ble_eq_true rfl)
  have K11 : Keep h0 h11 [] := Keep.wr K9 W11 (Or.inr sz_b1)
  have N11 := Fr.snoc X11 N9 g_b1
  refine own_by (T' := T11) (g' := (mkF m 61 #[.val (.int u), .val (.int r), .val (.long f), .second, .val (.int ((r &&& (2147483647 : Int32)) % (5 : Int32))), .val (.ref b1)] [])) (fun _ k => st11 _ k) ?_
  refine own_by (T' := T11) (g' := (mkF m 63 #[.val (.int u), .val (.int r), .val (.long f), .second, .val (.int ((r &&& (2147483647 : Int32)) % (5 : Int32))), .val (.ref b1)] [(.ref b1)])) (fun _ k => XS.aload X11.here hx rfl (hb hby at_61) rfl rfl k) ?_
  refine own_by (T' := T11) (g' := (mkF m 64 #[.val (.int u), .val (.int r), .val (.long f), .second, .val (.int ((r &&& (2147483647 : Int32)) % (5 : Int32))), .val (.ref b1)] [(.int (5 : Int32)), (.ref b1)])) (fun _ k => XS.iconst X11.here hx rfl (hb hby at_63) k) ?_
  refine own_by (T' := T11) (g' := (mkF m 65 #[.val (.int u), .val (.int r), .val (.long f), .second, .val (.int ((r &&& (2147483647 : Int32)) % (5 : Int32))), .val (.ref b1)] [(.long f), (.int (5 : Int32)), (.ref b1)])) (fun _ k => XS.lloadN X11.here hx rfl (hb hby at_64) rfl k) ?_
  refine own_by (T' := T11) (g' := (mkF m 67 #[.val (.int u), .val (.int r), .val (.long f), .second, .val (.int ((r &&& (2147483647 : Int32)) % (5 : Int32))), .val (.ref b1)] [(.int (40 : Int32)), (.long f), (.int (5 : Int32)), (.ref b1)])) (fun _ k => XS.bipush X11.here hx rfl (hb hby at_65) k) ?_
  refine own_by (T' := T11) (g' := (mkF m 68 #[.val (.int u), .val (.int r), .val (.long f), .second, .val (.int ((r &&& (2147483647 : Int32)) % (5 : Int32))), .val (.ref b1)] [(.long ((f.toUInt64 >>> ((40 : Int32) &&& 0x3f).toInt64.toUInt64).toInt64)), (.int (5 : Int32)), (.ref b1)])) (fun _ k => XS.lushr X11.here hx rfl (hb hby at_67) rfl k) ?_
  refine own_by (T' := T11) (g' := (mkF m 69 #[.val (.int u), .val (.int r), .val (.long f), .second, .val (.int ((r &&& (2147483647 : Int32)) % (5 : Int32))), .val (.ref b1)] [(.int (((f.toUInt64 >>> ((40 : Int32) &&& 0x3f).toInt64.toUInt64).toInt64).toInt32)), (.int (5 : Int32)), (.ref b1)])) (fun _ k => XS.l2i X11.here hx rfl (hb hby at_68) rfl k) ?_
  refine own_by (T' := T11) (g' := (mkF m 70 #[.val (.int u), .val (.int r), .val (.long f), .second, .val (.int ((r &&& (2147483647 : Int32)) % (5 : Int32))), .val (.ref b1)] [(.int ((((f.toUInt64 >>> ((40 : Int32) &&& 0x3f).toInt64.toUInt64).toInt64).toInt32).toInt8.toInt32)), (.int (5 : Int32)), (.ref b1)])) (fun _ k => XS.i2b X11.here hx rfl (hb hby at_69) rfl k) ?_
  obtain ⟨cl12, Ar12, q12, S12, N_12, H12, G12⟩ := V11
  have hin12 : ¬ ((5 : Int32) < 0 ∨ cl12.slots.size ≤ ((5 : Int32)).toNatClampNeg) := inb_of S12 ⟨by decide, by decide⟩
  obtain ⟨T13, h13, X13, e13, W13, st13⟩ := stB X11 hx hZ e11 Ar12 (j := (5 : Int32)) hin12 (g := (mkF m 70 #[.val (.int u), .val (.int r), .val (.long f), .second, .val (.int ((r &&& (2147483647 : Int32)) % (5 : Int32))), .val (.ref b1)] [(.int ((((f.toUInt64 >>> ((40 : Int32) &&& 0x3f).toInt64.toUInt64).toInt64).toInt32).toInt8.toInt32)), (.int (5 : Int32)), (.ref b1)])) rfl rfl (hb hby at_70)
  have V13 : Arv Z h13 b1 k1 .byte (8 : Int32) [(.int (nar .byte ((f.toInt32).toInt8.toInt32))), (.int (nar .byte ((((f.toUInt64 >>> ((8 : Int32) &&& 0x3f).toInt64.toUInt64).toInt64).toInt32).toInt8.toInt32))), (.int (nar .byte ((((f.toUInt64 >>> ((16 : Int32) &&& 0x3f).toInt64.toUInt64).toInt64).toInt32).toInt8.toInt32))), (.int (nar .byte ((((f.toUInt64 >>> ((24 : Int32) &&& 0x3f).toInt64.toUInt64).toInt64).toInt32).toInt8.toInt32))), (.int (nar .byte ((((f.toUInt64 >>> ((32 : Int32) &&& 0x3f).toInt64.toUInt64).toInt64).toInt32).toInt8.toInt32))), (.int (nar .byte ((((f.toUInt64 >>> ((40 : Int32) &&& 0x3f).toInt64.toUInt64).toInt64).toInt32).toInt8.toInt32))), (.int (0 : Int32)), (.int (0 : Int32))] (.int (0 : Int32)) := Arv.set Ar12 q12 S12 N_12 H12 G12 (fits_nar_byte _) W13 5 rfl (Nat.le_of_ble_eq_true rfl)
  have K13 : Keep h0 h13 [] := Keep.wr K11 W13 (Or.inr sz_b1)
  have N13 := Fr.snoc X13 N11 g_b1
  refine own_by (T' := T13) (g' := (mkF m 71 #[.val (.int u), .val (.int r), .val (.long f), .second, .val (.int ((r &&& (2147483647 : Int32)) % (5 : Int32))), .val (.ref b1)] [])) (fun _ k => st13 _ k) ?_
  refine own_by (T' := T13) (g' := (mkF m 73 #[.val (.int u), .val (.int r), .val (.long f), .second, .val (.int ((r &&& (2147483647 : Int32)) % (5 : Int32))), .val (.ref b1)] [(.ref b1)])) (fun _ k => XS.aload X13.here hx rfl (hb hby at_71) rfl rfl k) ?_
  refine own_by (T' := T13) (g' := (mkF m 75 #[.val (.int u), .val (.int r), .val (.long f), .second, .val (.int ((r &&& (2147483647 : Int32)) % (5 : Int32))), .val (.ref b1)] [(.int (6 : Int32)), (.ref b1)])) (fun _ k => XS.bipush X13.here hx rfl (hb hby at_73) k) ?_
  refine own_by (T' := T13) (g' := (mkF m 76 #[.val (.int u), .val (.int r), .val (.long f), .second, .val (.int ((r &&& (2147483647 : Int32)) % (5 : Int32))), .val (.ref b1)] [(.long f), (.int (6 : Int32)), (.ref b1)])) (fun _ k => XS.lloadN X13.here hx rfl (hb hby at_75) rfl k) ?_
  refine own_by (T' := T13) (g' := (mkF m 78 #[.val (.int u), .val (.int r), .val (.long f), .second, .val (.int ((r &&& (2147483647 : Int32)) % (5 : Int32))), .val (.ref b1)] [(.int (48 : Int32)), (.long f), (.int (6 : Int32)), (.ref b1)])) (fun _ k => XS.bipush X13.here hx rfl (hb hby at_76) k) ?_
  refine own_by (T' := T13) (g' := (mkF m 79 #[.val (.int u), .val (.int r), .val (.long f), .second, .val (.int ((r &&& (2147483647 : Int32)) % (5 : Int32))), .val (.ref b1)] [(.long ((f.toUInt64 >>> ((48 : Int32) &&& 0x3f).toInt64.toUInt64).toInt64)), (.int (6 : Int32)), (.ref b1)])) (fun _ k => XS.lushr X13.here hx rfl (hb hby at_78) rfl k) ?_
  refine own_by (T' := T13) (g' := (mkF m 80 #[.val (.int u), .val (.int r), .val (.long f), .second, .val (.int ((r &&& (2147483647 : Int32)) % (5 : Int32))), .val (.ref b1)] [(.int (((f.toUInt64 >>> ((48 : Int32) &&& 0x3f).toInt64.toUInt64).toInt64).toInt32)), (.int (6 : Int32)), (.ref b1)])) (fun _ k => XS.l2i X13.here hx rfl (hb hby at_79) rfl k) ?_
  refine own_by (T' := T13) (g' := (mkF m 81 #[.val (.int u), .val (.int r), .val (.long f), .second, .val (.int ((r &&& (2147483647 : Int32)) % (5 : Int32))), .val (.ref b1)] [(.int ((((f.toUInt64 >>> ((48 : Int32) &&& 0x3f).toInt64.toUInt64).toInt64).toInt32).toInt8.toInt32)), (.int (6 : Int32)), (.ref b1)])) (fun _ k => XS.i2b X13.here hx rfl (hb hby at_80) rfl k) ?_
  obtain ⟨cl14, Ar14, q14, S14, N_14, H14, G14⟩ := V13
  have hin14 : ¬ ((6 : Int32) < 0 ∨ cl14.slots.size ≤ ((6 : Int32)).toNatClampNeg) := inb_of S14 ⟨by decide, by decide⟩
  obtain ⟨T15, h15, X15, e15, W15, st15⟩ := stB X13 hx hZ e13 Ar14 (j := (6 : Int32)) hin14 (g := (mkF m 81 #[.val (.int u), .val (.int r), .val (.long f), .second, .val (.int ((r &&& (2147483647 : Int32)) % (5 : Int32))), .val (.ref b1)] [(.int ((((f.toUInt64 >>> ((48 : Int32) &&& 0x3f).toInt64.toUInt64).toInt64).toInt32).toInt8.toInt32)), (.int (6 : Int32)), (.ref b1)])) rfl rfl (hb hby at_81)
  have V15 : Arv Z h15 b1 k1 .byte (8 : Int32) [(.int (nar .byte ((f.toInt32).toInt8.toInt32))), (.int (nar .byte ((((f.toUInt64 >>> ((8 : Int32) &&& 0x3f).toInt64.toUInt64).toInt64).toInt32).toInt8.toInt32))), (.int (nar .byte ((((f.toUInt64 >>> ((16 : Int32) &&& 0x3f).toInt64.toUInt64).toInt64).toInt32).toInt8.toInt32))), (.int (nar .byte ((((f.toUInt64 >>> ((24 : Int32) &&& 0x3f).toInt64.toUInt64).toInt64).toInt32).toInt8.toInt32))), (.int (nar .byte ((((f.toUInt64 >>> ((32 : Int32) &&& 0x3f).toInt64.toUInt64).toInt64).toInt32).toInt8.toInt32))), (.int (nar .byte ((((f.toUInt64 >>> ((40 : Int32) &&& 0x3f).toInt64.toUInt64).toInt64).toInt32).toInt8.toInt32))), (.int (nar .byte ((((f.toUInt64 >>> ((48 : Int32) &&& 0x3f).toInt64.toUInt64).toInt64).toInt32).toInt8.toInt32))), (.int (0 : Int32))] (.int (0 : Int32)) := Arv.set Ar14 q14 S14 N_14 H14 G14 (fits_nar_byte _) W15 6 rfl (Nat.le_of_ble_eq_true rfl)
  have K15 : Keep h0 h15 [] := Keep.wr K13 W15 (Or.inr sz_b1)
  have N15 := Fr.snoc X15 N13 g_b1
  refine own_by (T' := T15) (g' := (mkF m 82 #[.val (.int u), .val (.int r), .val (.long f), .second, .val (.int ((r &&& (2147483647 : Int32)) % (5 : Int32))), .val (.ref b1)] [])) (fun _ k => st15 _ k) ?_
  refine own_by (T' := T15) (g' := (mkF m 84 #[.val (.int u), .val (.int r), .val (.long f), .second, .val (.int ((r &&& (2147483647 : Int32)) % (5 : Int32))), .val (.ref b1)] [(.ref b1)])) (fun _ k => XS.aload X15.here hx rfl (hb hby at_82) rfl rfl k) ?_
  refine own_by (T' := T15) (g' := (mkF m 86 #[.val (.int u), .val (.int r), .val (.long f), .second, .val (.int ((r &&& (2147483647 : Int32)) % (5 : Int32))), .val (.ref b1)] [(.int (7 : Int32)), (.ref b1)])) (fun _ k => XS.bipush X15.here hx rfl (hb hby at_84) k) ?_
  refine own_by (T' := T15) (g' := (mkF m 87 #[.val (.int u), .val (.int r), .val (.long f), .second, .val (.int ((r &&& (2147483647 : Int32)) % (5 : Int32))), .val (.ref b1)] [(.long f), (.int (7 : Int32)), (.ref b1)])) (fun _ k => XS.lloadN X15.here hx rfl (hb hby at_86) rfl k) ?_
  refine own_by (T' := T15) (g' := (mkF m 89 #[.val (.int u), .val (.int r), .val (.long f), .second, .val (.int ((r &&& (2147483647 : Int32)) % (5 : Int32))), .val (.ref b1)] [(.int (56 : Int32)), (.long f), (.int (7 : Int32)), (.ref b1)])) (fun _ k => XS.bipush X15.here hx rfl (hb hby at_87) k) ?_
  refine own_by (T' := T15) (g' := (mkF m 90 #[.val (.int u), .val (.int r), .val (.long f), .second, .val (.int ((r &&& (2147483647 : Int32)) % (5 : Int32))), .val (.ref b1)] [(.long ((f.toUInt64 >>> ((56 : Int32) &&& 0x3f).toInt64.toUInt64).toInt64)), (.int (7 : Int32)), (.ref b1)])) (fun _ k => XS.lushr X15.here hx rfl (hb hby at_89) rfl k) ?_
  refine own_by (T' := T15) (g' := (mkF m 91 #[.val (.int u), .val (.int r), .val (.long f), .second, .val (.int ((r &&& (2147483647 : Int32)) % (5 : Int32))), .val (.ref b1)] [(.int (((f.toUInt64 >>> ((56 : Int32) &&& 0x3f).toInt64.toUInt64).toInt64).toInt32)), (.int (7 : Int32)), (.ref b1)])) (fun _ k => XS.l2i X15.here hx rfl (hb hby at_90) rfl k) ?_
  refine own_by (T' := T15) (g' := (mkF m 92 #[.val (.int u), .val (.int r), .val (.long f), .second, .val (.int ((r &&& (2147483647 : Int32)) % (5 : Int32))), .val (.ref b1)] [(.int ((((f.toUInt64 >>> ((56 : Int32) &&& 0x3f).toInt64.toUInt64).toInt64).toInt32).toInt8.toInt32)), (.int (7 : Int32)), (.ref b1)])) (fun _ k => XS.i2b X15.here hx rfl (hb hby at_91) rfl k) ?_
  obtain ⟨cl16, Ar16, q16, S16, N_16, H16, G16⟩ := V15
  have hin16 : ¬ ((7 : Int32) < 0 ∨ cl16.slots.size ≤ ((7 : Int32)).toNatClampNeg) := inb_of S16 ⟨by decide, by decide⟩
  obtain ⟨T17, h17, X17, e17, W17, st17⟩ := stB X15 hx hZ e15 Ar16 (j := (7 : Int32)) hin16 (g := (mkF m 92 #[.val (.int u), .val (.int r), .val (.long f), .second, .val (.int ((r &&& (2147483647 : Int32)) % (5 : Int32))), .val (.ref b1)] [(.int ((((f.toUInt64 >>> ((56 : Int32) &&& 0x3f).toInt64.toUInt64).toInt64).toInt32).toInt8.toInt32)), (.int (7 : Int32)), (.ref b1)])) rfl rfl (hb hby at_92)
  have V17 : Arv Z h17 b1 k1 .byte (8 : Int32) [(.int (nar .byte ((f.toInt32).toInt8.toInt32))), (.int (nar .byte ((((f.toUInt64 >>> ((8 : Int32) &&& 0x3f).toInt64.toUInt64).toInt64).toInt32).toInt8.toInt32))), (.int (nar .byte ((((f.toUInt64 >>> ((16 : Int32) &&& 0x3f).toInt64.toUInt64).toInt64).toInt32).toInt8.toInt32))), (.int (nar .byte ((((f.toUInt64 >>> ((24 : Int32) &&& 0x3f).toInt64.toUInt64).toInt64).toInt32).toInt8.toInt32))), (.int (nar .byte ((((f.toUInt64 >>> ((32 : Int32) &&& 0x3f).toInt64.toUInt64).toInt64).toInt32).toInt8.toInt32))), (.int (nar .byte ((((f.toUInt64 >>> ((40 : Int32) &&& 0x3f).toInt64.toUInt64).toInt64).toInt32).toInt8.toInt32))), (.int (nar .byte ((((f.toUInt64 >>> ((48 : Int32) &&& 0x3f).toInt64.toUInt64).toInt64).toInt32).toInt8.toInt32))), (.int (nar .byte ((((f.toUInt64 >>> ((56 : Int32) &&& 0x3f).toInt64.toUInt64).toInt64).toInt32).toInt8.toInt32)))] (.int (0 : Int32)) := Arv.set Ar16 q16 S16 N_16 H16 G16 (fits_nar_byte _) W17 7 rfl (Nat.le_of_ble_eq_true rfl)
  have K17 : Keep h0 h17 [] := Keep.wr K15 W17 (Or.inr sz_b1)
  have N17 := Fr.snoc X17 N15 g_b1
  refine own_by (T' := T17) (g' := (mkF m 93 #[.val (.int u), .val (.int r), .val (.long f), .second, .val (.int ((r &&& (2147483647 : Int32)) % (5 : Int32))), .val (.ref b1)] [])) (fun _ k => st17 _ k) ?_
  rcases own_mod5 r with hq18 | hq18 | hq18 | hq18 | hq18
  · skip
    rw [hq18]
    refine own_by (T' := T17) (g' := (mkF m 95 #[.val (.int u), .val (.int r), .val (.long f), .second, .val (.int (0 : Int32)), .val (.ref b1)] [(.ref b1)])) (fun _ k => XS.aload X17.here hx rfl (hb hby at_93) rfl rfl k) ?_
    refine own_by (T' := T17) (g' := (mkF m 97 #[.val (.int u), .val (.int r), .val (.long f), .second, .val (.int (0 : Int32)), .val (.ref b1)] [(.int (0 : Int32)), (.ref b1)])) (fun _ k => XS.iload X17.here hx rfl (hb hby at_95) rfl k) ?_
    refine own_by (T' := T17) (g' := (mkF m 98 #[.val (.int u), .val (.int r), .val (.long f), .second, .val (.int (0 : Int32)), .val (.ref b1)] [(.int u), (.int (0 : Int32)), (.ref b1)])) (fun _ k => XS.iloadN X17.here hx rfl (hb hby at_97) rfl k) ?_
    refine own_by (T' := T17) (g' := (mkF m 100 #[.val (.int u), .val (.int r), .val (.long f), .second, .val (.int (0 : Int32)), .val (.ref b1)] [(.int (24 : Int32)), (.int u), (.int (0 : Int32)), (.ref b1)])) (fun _ k => XS.bipush X17.here hx rfl (hb hby at_98) k) ?_
    refine own_by (T' := T17) (g' := (mkF m 101 #[.val (.int u), .val (.int r), .val (.long f), .second, .val (.int (0 : Int32)), .val (.ref b1)] [(.int ((u.toUInt32 >>> ((24 : Int32) &&& 31).toUInt32).toInt32)), (.int (0 : Int32)), (.ref b1)])) (fun _ k => XS.iushr X17.here hx rfl (hb hby at_100) rfl k) ?_
    refine own_by (T' := T17) (g' := (mkF m 102 #[.val (.int u), .val (.int r), .val (.long f), .second, .val (.int (0 : Int32)), .val (.ref b1)] [(.int (((u.toUInt32 >>> ((24 : Int32) &&& 31).toUInt32).toInt32).toInt8.toInt32)), (.int (0 : Int32)), (.ref b1)])) (fun _ k => XS.i2b X17.here hx rfl (hb hby at_101) rfl k) ?_
    obtain ⟨cl19, Ar19, q19, S19, N_19, H19, G19⟩ := V17
    have hin19 : ¬ ((0 : Int32) < 0 ∨ cl19.slots.size ≤ ((0 : Int32)).toNatClampNeg) := inb_of S19 ⟨by decide, by decide⟩
    obtain ⟨T20, h20, X20, e20, W20, st20⟩ := stB X17 hx hZ e17 Ar19 (j := (0 : Int32)) hin19 (g := (mkF m 102 #[.val (.int u), .val (.int r), .val (.long f), .second, .val (.int (0 : Int32)), .val (.ref b1)] [(.int (((u.toUInt32 >>> ((24 : Int32) &&& 31).toUInt32).toInt32).toInt8.toInt32)), (.int (0 : Int32)), (.ref b1)])) rfl rfl (hb hby at_102)
    have V20 : Arv Z h20 b1 k1 .byte (8 : Int32) [(.int (nar .byte (((u.toUInt32 >>> ((24 : Int32) &&& 31).toUInt32).toInt32).toInt8.toInt32))), (.int (nar .byte ((((f.toUInt64 >>> ((8 : Int32) &&& 0x3f).toInt64.toUInt64).toInt64).toInt32).toInt8.toInt32))), (.int (nar .byte ((((f.toUInt64 >>> ((16 : Int32) &&& 0x3f).toInt64.toUInt64).toInt64).toInt32).toInt8.toInt32))), (.int (nar .byte ((((f.toUInt64 >>> ((24 : Int32) &&& 0x3f).toInt64.toUInt64).toInt64).toInt32).toInt8.toInt32))), (.int (nar .byte ((((f.toUInt64 >>> ((32 : Int32) &&& 0x3f).toInt64.toUInt64).toInt64).toInt32).toInt8.toInt32))), (.int (nar .byte ((((f.toUInt64 >>> ((40 : Int32) &&& 0x3f).toInt64.toUInt64).toInt64).toInt32).toInt8.toInt32))), (.int (nar .byte ((((f.toUInt64 >>> ((48 : Int32) &&& 0x3f).toInt64.toUInt64).toInt64).toInt32).toInt8.toInt32))), (.int (nar .byte ((((f.toUInt64 >>> ((56 : Int32) &&& 0x3f).toInt64.toUInt64).toInt64).toInt32).toInt8.toInt32)))] (.int (0 : Int32)) := Arv.set Ar19 q19 S19 N_19 H19 G19 (fits_nar_byte _) W20 0 rfl (Nat.le_of_ble_eq_true rfl)
    have K20 : Keep h0 h20 [] := Keep.wr K17 W20 (Or.inr sz_b1)
    have N20 := Fr.snoc X20 N17 g_b1
    refine own_by (T' := T20) (g' := (mkF m 103 #[.val (.int u), .val (.int r), .val (.long f), .second, .val (.int (0 : Int32)), .val (.ref b1)] [])) (fun _ k => st20 _ k) ?_
    refine own_by (T' := T20) (g' := (mkF m 105 #[.val (.int u), .val (.int r), .val (.long f), .second, .val (.int (0 : Int32)), .val (.ref b1)] [(.ref b1)])) (fun _ k => XS.aload X20.here hx rfl (hb hby at_103) rfl rfl k) ?_
    refine own_by (T' := T20) (g' := (mkF m 107 #[.val (.int u), .val (.int r), .val (.long f), .second, .val (.int (0 : Int32)), .val (.ref b1)] [(.int (0 : Int32)), (.ref b1)])) (fun _ k => XS.iload X20.here hx rfl (hb hby at_105) rfl k) ?_
    refine own_by (T' := T20) (g' := (mkF m 108 #[.val (.int u), .val (.int r), .val (.long f), .second, .val (.int (0 : Int32)), .val (.ref b1)] [(.int (1 : Int32)), (.int (0 : Int32)), (.ref b1)])) (fun _ k => XS.iconst X20.here hx rfl (hb hby at_107) k) ?_
    refine own_by (T' := T20) (g' := (mkF m 109 #[.val (.int u), .val (.int r), .val (.long f), .second, .val (.int (0 : Int32)), .val (.ref b1)] [(.int (1 : Int32)), (.ref b1)])) (fun _ k => XS.iadd X20.here hx rfl (hb hby at_108) rfl k) ?_
    refine own_by (T' := T20) (g' := (mkF m 110 #[.val (.int u), .val (.int r), .val (.long f), .second, .val (.int (0 : Int32)), .val (.ref b1)] [(.int u), (.int (1 : Int32)), (.ref b1)])) (fun _ k => XS.iloadN X20.here hx rfl (hb hby at_109) rfl k) ?_
    refine own_by (T' := T20) (g' := (mkF m 112 #[.val (.int u), .val (.int r), .val (.long f), .second, .val (.int (0 : Int32)), .val (.ref b1)] [(.int (16 : Int32)), (.int u), (.int (1 : Int32)), (.ref b1)])) (fun _ k => XS.bipush X20.here hx rfl (hb hby at_110) k) ?_
    refine own_by (T' := T20) (g' := (mkF m 113 #[.val (.int u), .val (.int r), .val (.long f), .second, .val (.int (0 : Int32)), .val (.ref b1)] [(.int ((u.toUInt32 >>> ((16 : Int32) &&& 31).toUInt32).toInt32)), (.int (1 : Int32)), (.ref b1)])) (fun _ k => XS.iushr X20.here hx rfl (hb hby at_112) rfl k) ?_
    refine own_by (T' := T20) (g' := (mkF m 114 #[.val (.int u), .val (.int r), .val (.long f), .second, .val (.int (0 : Int32)), .val (.ref b1)] [(.int (((u.toUInt32 >>> ((16 : Int32) &&& 31).toUInt32).toInt32).toInt8.toInt32)), (.int (1 : Int32)), (.ref b1)])) (fun _ k => XS.i2b X20.here hx rfl (hb hby at_113) rfl k) ?_
    obtain ⟨cl21, Ar21, q21, S21, N_21, H21, G21⟩ := V20
    have hin21 : ¬ ((1 : Int32) < 0 ∨ cl21.slots.size ≤ ((1 : Int32)).toNatClampNeg) := inb_of S21 ⟨by decide, by decide⟩
    obtain ⟨T22, h22, X22, e22, W22, st22⟩ := stB X20 hx hZ e20 Ar21 (j := (1 : Int32)) hin21 (g := (mkF m 114 #[.val (.int u), .val (.int r), .val (.long f), .second, .val (.int (0 : Int32)), .val (.ref b1)] [(.int (((u.toUInt32 >>> ((16 : Int32) &&& 31).toUInt32).toInt32).toInt8.toInt32)), (.int (1 : Int32)), (.ref b1)])) rfl rfl (hb hby at_114)
    have V22 : Arv Z h22 b1 k1 .byte (8 : Int32) [(.int (nar .byte (((u.toUInt32 >>> ((24 : Int32) &&& 31).toUInt32).toInt32).toInt8.toInt32))), (.int (nar .byte (((u.toUInt32 >>> ((16 : Int32) &&& 31).toUInt32).toInt32).toInt8.toInt32))), (.int (nar .byte ((((f.toUInt64 >>> ((16 : Int32) &&& 0x3f).toInt64.toUInt64).toInt64).toInt32).toInt8.toInt32))), (.int (nar .byte ((((f.toUInt64 >>> ((24 : Int32) &&& 0x3f).toInt64.toUInt64).toInt64).toInt32).toInt8.toInt32))), (.int (nar .byte ((((f.toUInt64 >>> ((32 : Int32) &&& 0x3f).toInt64.toUInt64).toInt64).toInt32).toInt8.toInt32))), (.int (nar .byte ((((f.toUInt64 >>> ((40 : Int32) &&& 0x3f).toInt64.toUInt64).toInt64).toInt32).toInt8.toInt32))), (.int (nar .byte ((((f.toUInt64 >>> ((48 : Int32) &&& 0x3f).toInt64.toUInt64).toInt64).toInt32).toInt8.toInt32))), (.int (nar .byte ((((f.toUInt64 >>> ((56 : Int32) &&& 0x3f).toInt64.toUInt64).toInt64).toInt32).toInt8.toInt32)))] (.int (0 : Int32)) := Arv.set Ar21 q21 S21 N_21 H21 G21 (fits_nar_byte _) W22 1 rfl (Nat.le_of_ble_eq_true rfl)
    have K22 : Keep h0 h22 [] := Keep.wr K20 W22 (Or.inr sz_b1)
    have N22 := Fr.snoc X22 N20 g_b1
    refine own_by (T' := T22) (g' := (mkF m 115 #[.val (.int u), .val (.int r), .val (.long f), .second, .val (.int (0 : Int32)), .val (.ref b1)] [])) (fun _ k => st22 _ k) ?_
    refine own_by (T' := T22) (g' := (mkF m 117 #[.val (.int u), .val (.int r), .val (.long f), .second, .val (.int (0 : Int32)), .val (.ref b1)] [(.ref b1)])) (fun _ k => XS.aload X22.here hx rfl (hb hby at_115) rfl rfl k) ?_
    refine own_by (T' := T22) (g' := (mkF m 119 #[.val (.int u), .val (.int r), .val (.long f), .second, .val (.int (0 : Int32)), .val (.ref b1)] [(.int (0 : Int32)), (.ref b1)])) (fun _ k => XS.iload X22.here hx rfl (hb hby at_117) rfl k) ?_
    refine own_by (T' := T22) (g' := (mkF m 120 #[.val (.int u), .val (.int r), .val (.long f), .second, .val (.int (0 : Int32)), .val (.ref b1)] [(.int (2 : Int32)), (.int (0 : Int32)), (.ref b1)])) (fun _ k => XS.iconst X22.here hx rfl (hb hby at_119) k) ?_
    refine own_by (T' := T22) (g' := (mkF m 121 #[.val (.int u), .val (.int r), .val (.long f), .second, .val (.int (0 : Int32)), .val (.ref b1)] [(.int (2 : Int32)), (.ref b1)])) (fun _ k => XS.iadd X22.here hx rfl (hb hby at_120) rfl k) ?_
    refine own_by (T' := T22) (g' := (mkF m 122 #[.val (.int u), .val (.int r), .val (.long f), .second, .val (.int (0 : Int32)), .val (.ref b1)] [(.int u), (.int (2 : Int32)), (.ref b1)])) (fun _ k => XS.iloadN X22.here hx rfl (hb hby at_121) rfl k) ?_
    refine own_by (T' := T22) (g' := (mkF m 124 #[.val (.int u), .val (.int r), .val (.long f), .second, .val (.int (0 : Int32)), .val (.ref b1)] [(.int (8 : Int32)), (.int u), (.int (2 : Int32)), (.ref b1)])) (fun _ k => XS.bipush X22.here hx rfl (hb hby at_122) k) ?_
    refine own_by (T' := T22) (g' := (mkF m 125 #[.val (.int u), .val (.int r), .val (.long f), .second, .val (.int (0 : Int32)), .val (.ref b1)] [(.int ((u.toUInt32 >>> ((8 : Int32) &&& 31).toUInt32).toInt32)), (.int (2 : Int32)), (.ref b1)])) (fun _ k => XS.iushr X22.here hx rfl (hb hby at_124) rfl k) ?_
    refine own_by (T' := T22) (g' := (mkF m 126 #[.val (.int u), .val (.int r), .val (.long f), .second, .val (.int (0 : Int32)), .val (.ref b1)] [(.int (((u.toUInt32 >>> ((8 : Int32) &&& 31).toUInt32).toInt32).toInt8.toInt32)), (.int (2 : Int32)), (.ref b1)])) (fun _ k => XS.i2b X22.here hx rfl (hb hby at_125) rfl k) ?_
    obtain ⟨cl23, Ar23, q23, S23, N_23, H23, G23⟩ := V22
    have hin23 : ¬ ((2 : Int32) < 0 ∨ cl23.slots.size ≤ ((2 : Int32)).toNatClampNeg) := inb_of S23 ⟨by decide, by decide⟩
    obtain ⟨T24, h24, X24, e24, W24, st24⟩ := stB X22 hx hZ e22 Ar23 (j := (2 : Int32)) hin23 (g := (mkF m 126 #[.val (.int u), .val (.int r), .val (.long f), .second, .val (.int (0 : Int32)), .val (.ref b1)] [(.int (((u.toUInt32 >>> ((8 : Int32) &&& 31).toUInt32).toInt32).toInt8.toInt32)), (.int (2 : Int32)), (.ref b1)])) rfl rfl (hb hby at_126)
    have V24 : Arv Z h24 b1 k1 .byte (8 : Int32) [(.int (nar .byte (((u.toUInt32 >>> ((24 : Int32) &&& 31).toUInt32).toInt32).toInt8.toInt32))), (.int (nar .byte (((u.toUInt32 >>> ((16 : Int32) &&& 31).toUInt32).toInt32).toInt8.toInt32))), (.int (nar .byte (((u.toUInt32 >>> ((8 : Int32) &&& 31).toUInt32).toInt32).toInt8.toInt32))), (.int (nar .byte ((((f.toUInt64 >>> ((24 : Int32) &&& 0x3f).toInt64.toUInt64).toInt64).toInt32).toInt8.toInt32))), (.int (nar .byte ((((f.toUInt64 >>> ((32 : Int32) &&& 0x3f).toInt64.toUInt64).toInt64).toInt32).toInt8.toInt32))), (.int (nar .byte ((((f.toUInt64 >>> ((40 : Int32) &&& 0x3f).toInt64.toUInt64).toInt64).toInt32).toInt8.toInt32))), (.int (nar .byte ((((f.toUInt64 >>> ((48 : Int32) &&& 0x3f).toInt64.toUInt64).toInt64).toInt32).toInt8.toInt32))), (.int (nar .byte ((((f.toUInt64 >>> ((56 : Int32) &&& 0x3f).toInt64.toUInt64).toInt64).toInt32).toInt8.toInt32)))] (.int (0 : Int32)) := Arv.set Ar23 q23 S23 N_23 H23 G23 (fits_nar_byte _) W24 2 rfl (Nat.le_of_ble_eq_true rfl)
    have K24 : Keep h0 h24 [] := Keep.wr K22 W24 (Or.inr sz_b1)
    have N24 := Fr.snoc X24 N22 g_b1
    refine own_by (T' := T24) (g' := (mkF m 127 #[.val (.int u), .val (.int r), .val (.long f), .second, .val (.int (0 : Int32)), .val (.ref b1)] [])) (fun _ k => st24 _ k) ?_
    refine own_by (T' := T24) (g' := (mkF m 129 #[.val (.int u), .val (.int r), .val (.long f), .second, .val (.int (0 : Int32)), .val (.ref b1)] [(.ref b1)])) (fun _ k => XS.aload X24.here hx rfl (hb hby at_127) rfl rfl k) ?_
    refine own_by (T' := T24) (g' := (mkF m 131 #[.val (.int u), .val (.int r), .val (.long f), .second, .val (.int (0 : Int32)), .val (.ref b1)] [(.int (0 : Int32)), (.ref b1)])) (fun _ k => XS.iload X24.here hx rfl (hb hby at_129) rfl k) ?_
    refine own_by (T' := T24) (g' := (mkF m 132 #[.val (.int u), .val (.int r), .val (.long f), .second, .val (.int (0 : Int32)), .val (.ref b1)] [(.int (3 : Int32)), (.int (0 : Int32)), (.ref b1)])) (fun _ k => XS.iconst X24.here hx rfl (hb hby at_131) k) ?_
    refine own_by (T' := T24) (g' := (mkF m 133 #[.val (.int u), .val (.int r), .val (.long f), .second, .val (.int (0 : Int32)), .val (.ref b1)] [(.int (3 : Int32)), (.ref b1)])) (fun _ k => XS.iadd X24.here hx rfl (hb hby at_132) rfl k) ?_
    refine own_by (T' := T24) (g' := (mkF m 134 #[.val (.int u), .val (.int r), .val (.long f), .second, .val (.int (0 : Int32)), .val (.ref b1)] [(.int u), (.int (3 : Int32)), (.ref b1)])) (fun _ k => XS.iloadN X24.here hx rfl (hb hby at_133) rfl k) ?_
    refine own_by (T' := T24) (g' := (mkF m 135 #[.val (.int u), .val (.int r), .val (.long f), .second, .val (.int (0 : Int32)), .val (.ref b1)] [(.int (u.toInt8.toInt32)), (.int (3 : Int32)), (.ref b1)])) (fun _ k => XS.i2b X24.here hx rfl (hb hby at_134) rfl k) ?_
    obtain ⟨cl25, Ar25, q25, S25, N_25, H25, G25⟩ := V24
    have hin25 : ¬ ((3 : Int32) < 0 ∨ cl25.slots.size ≤ ((3 : Int32)).toNatClampNeg) := inb_of S25 ⟨by decide, by decide⟩
    obtain ⟨T26, h26, X26, e26, W26, st26⟩ := stB X24 hx hZ e24 Ar25 (j := (3 : Int32)) hin25 (g := (mkF m 135 #[.val (.int u), .val (.int r), .val (.long f), .second, .val (.int (0 : Int32)), .val (.ref b1)] [(.int (u.toInt8.toInt32)), (.int (3 : Int32)), (.ref b1)])) rfl rfl (hb hby at_135)
    have V26 : Arv Z h26 b1 k1 .byte (8 : Int32) [(.int (nar .byte (((u.toUInt32 >>> ((24 : Int32) &&& 31).toUInt32).toInt32).toInt8.toInt32))), (.int (nar .byte (((u.toUInt32 >>> ((16 : Int32) &&& 31).toUInt32).toInt32).toInt8.toInt32))), (.int (nar .byte (((u.toUInt32 >>> ((8 : Int32) &&& 31).toUInt32).toInt32).toInt8.toInt32))), (.int (nar .byte (u.toInt8.toInt32))), (.int (nar .byte ((((f.toUInt64 >>> ((32 : Int32) &&& 0x3f).toInt64.toUInt64).toInt64).toInt32).toInt8.toInt32))), (.int (nar .byte ((((f.toUInt64 >>> ((40 : Int32) &&& 0x3f).toInt64.toUInt64).toInt64).toInt32).toInt8.toInt32))), (.int (nar .byte ((((f.toUInt64 >>> ((48 : Int32) &&& 0x3f).toInt64.toUInt64).toInt64).toInt32).toInt8.toInt32))), (.int (nar .byte ((((f.toUInt64 >>> ((56 : Int32) &&& 0x3f).toInt64.toUInt64).toInt64).toInt32).toInt8.toInt32)))] (.int (0 : Int32)) := Arv.set Ar25 q25 S25 N_25 H25 G25 (fits_nar_byte _) W26 3 rfl (Nat.le_of_ble_eq_true rfl)
    have K26 : Keep h0 h26 [] := Keep.wr K24 W26 (Or.inr sz_b1)
    have N26 := Fr.snoc X26 N24 g_b1
    refine own_by (T' := T26) (g' := (mkF m 136 #[.val (.int u), .val (.int r), .val (.long f), .second, .val (.int (0 : Int32)), .val (.ref b1)] [])) (fun _ k => st26 _ k) ?_
    refine own_by (T' := T26) (g' := (mkF m 138 #[.val (.int u), .val (.int r), .val (.long f), .second, .val (.int (0 : Int32)), .val (.ref b1)] [(.ref b1)])) (fun _ k => XS.aload X26.here hx rfl (hb hby at_136) rfl rfl k) ?_
    refine own_by (T' := T26) (g' := (mkF m 140 #[.val (.int u), .val (.int r), .val (.long f), .second, .val (.int (0 : Int32)), .val (.ref b1)] [(.int (0 : Int32)), (.ref b1)])) (fun _ k => XS.iload X26.here hx rfl (hb hby at_138) rfl k) ?_
    obtain ⟨cl27, Ar27, q27, S27, N_27, H27, G27⟩ := V26
    have hin27_0 : ¬ ((0 : Int32) < 0 ∨ cl27.slots.size ≤ ((0 : Int32)).toNatClampNeg) := inb_of S27 ⟨by decide, by decide⟩
    have hin27_1 : ¬ (((0 : Int32) + (1 : Int32)) < 0 ∨ cl27.slots.size ≤ (((0 : Int32) + (1 : Int32))).toNatClampNeg) := inb_of S27 ⟨by decide, by decide⟩
    have hin27_2 : ¬ (((0 : Int32) + (2 : Int32)) < 0 ∨ cl27.slots.size ≤ (((0 : Int32) + (2 : Int32))).toNatClampNeg) := inb_of S27 ⟨by decide, by decide⟩
    have hin27_3 : ¬ (((0 : Int32) + (3 : Int32)) < 0 ∨ cl27.slots.size ≤ (((0 : Int32) + (3 : Int32))).toNatClampNeg) := inb_of S27 ⟨by decide, by decide⟩
    obtain ⟨_, _, ⟨T28, L28, k28, n28⟩, -, X28, ⟨Lc28, hQ28, l28, y28, z28⟩, st28⟩ := Jvm.LawKit.callS X26 hx (y := (⟨"com/example/onceward/onceward/journal/BigEndian", "intAt", "([BI)I"⟩ : MethodName)) hown (mvT hZ (hw _ (List.mem_of_getElem? (i := 2) rfl))) (mvT hZ (hw _ (List.mem_of_getElem? (i := 3) rfl))) (mvT hZ (hw _ (List.mem_of_getElem? (i := 4) rfl))) (mvT hZ (hw _ (List.mem_of_getElem? (i := 5) rfl))) (by decide) (backOf (W := 0) (rm1 l Z a0 hw [] b1 (0 : Int32) cl27 (nar .byte (((u.toUInt32 >>> ((24 : Int32) &&& 31).toUInt32).toInt32).toInt8.toInt32)) (nar .byte (((u.toUInt32 >>> ((16 : Int32) &&& 31).toUInt32).toInt32).toInt8.toInt32)) (nar .byte (((u.toUInt32 >>> ((8 : Int32) &&& 31).toUInt32).toInt32).toInt8.toInt32)) (nar .byte (u.toInt8.toInt32)) h26 n0 (Nat.le_trans (Nat.le_trans (Nat.le_trans (Nat.le_trans (Nat.le_trans (Nat.le_trans (Nat.le_trans (Nat.le_trans (Nat.le_trans (Nat.le_trans (Nat.le_trans (Nat.le_trans (Nat.le_trans Z0 E1.1) (Keep.of_wr W3).1) (Keep.of_wr W5).1) (Keep.of_wr W7).1) (Keep.of_wr W9).1) (Keep.of_wr W11).1) (Keep.of_wr W13).1) (Keep.of_wr W15).1) (Keep.of_wr W17).1) (Keep.of_wr W20).1) (Keep.of_wr W22).1) (Keep.of_wr W24).1) (Keep.of_wr W26).1) Ar27 hin27_0 hin27_1 hin27_2 hin27_3 (Has.at H27 hin27_0 rfl) (Has.at H27 hin27_1 rfl) (Has.at H27 hin27_2 rfl) (Has.at H27 hin27_3 rfl)) hZ (hw _ (List.mem_of_getElem? (i := 5) rfl)) (hw _ (List.mem_of_getElem? (i := 4) rfl)) (by decide) (by decide)) (g := (mkF m 140 #[.val (.int u), .val (.int r), .val (.long f), .second, .val (.int (0 : Int32)), .val (.ref b1)] [(.int (0 : Int32)), (.ref b1)])) rfl (by rw [hml]; rfl) (argsL := [(.ref b1), (.int (0 : Int32))]) (rest := []) (lenOf pd_0 rfl) rfl (by show 2 * 0 + _ ≤ _; exact Nat.le_of_eq rfl) (hb hby at_140) (fun _ _ => ⟨rfl, e26, (by decide : (0 + 1) + 0 ≤ _), (by decide : (0 + 8) + 0 ≤ _)⟩)
    dsimp only [Pt.U, Pt.locs, Pt.cells, Pt.slots] at X28 l28 y28 z28 st28 hQ28
    subst l28 y28 z28
    obtain ⟨rfl, N28q, e28⟩ := hQ28
    have N28 := Fr.app N26 N28q
    refine own_by (T' := T28) (g' := (mkF m 143 #[.val (.int u), .val (.int r), .val (.long f), .second, .val (.int (0 : Int32)), .val (.ref b1)] [(.int (own_be (nar .byte (((u.toUInt32 >>> ((24 : Int32) &&& 31).toUInt32).toInt32).toInt8.toInt32)) (nar .byte (((u.toUInt32 >>> ((16 : Int32) &&& 31).toUInt32).toInt32).toInt8.toInt32)) (nar .byte (((u.toUInt32 >>> ((8 : Int32) &&& 31).toUInt32).toInt32).toInt8.toInt32)) (nar .byte (u.toInt8.toInt32))))])) (fun _ k => st28 _ k) ?_
    refine own_by (T' := T28) (g' := (mkF m 144 #[.val (.int u), .val (.int r), .val (.long f), .second, .val (.int (0 : Int32)), .val (.ref b1)] [(.int u), (.int (own_be (nar .byte (((u.toUInt32 >>> ((24 : Int32) &&& 31).toUInt32).toInt32).toInt8.toInt32)) (nar .byte (((u.toUInt32 >>> ((16 : Int32) &&& 31).toUInt32).toInt32).toInt8.toInt32)) (nar .byte (((u.toUInt32 >>> ((8 : Int32) &&& 31).toUInt32).toInt32).toInt8.toInt32)) (nar .byte (u.toInt8.toInt32))))])) (fun _ k => XS.iloadN X28.here hx rfl (hb hby at_143) rfl k) ?_
    refine own_by (T' := T28) (g' := (mkF m 147 #[.val (.int u), .val (.int r), .val (.long f), .second, .val (.int (0 : Int32)), .val (.ref b1)] [])) (fun _ k => XS.icmpNo X28.here hx rfl (hb hby at_144) rfl (teq (own_bytes u)).2 k) ?_
    refine own_by (T' := T28) (g' := (mkF m 148 #[.val (.int u), .val (.int r), .val (.long f), .second, .val (.int (0 : Int32)), .val (.ref b1)] [(.int (1 : Int32))])) (fun _ k => XS.iconst X28.here hx rfl (hb hby at_147) k) ?_
    refine own_by (T' := T28) (g' := (mkF m 152 #[.val (.int u), .val (.int r), .val (.long f), .second, .val (.int (0 : Int32)), .val (.ref b1)] [(.int (1 : Int32))])) (fun _ k => XS.goto X28.here hx rfl (pc0 := 148) (pc' := 152) rfl (hb hby at_148) (by decide) (by decide) k) ?_
    refine own_ret X28 hlk (v := some (.int (1 : Int32))) (fun h => by rw [Bd.returns] at h; cases h) (fun fs hr => retN X28 hx (t := .boolean) Bd.returns (by simp) (hb hby at_152) hr) ?_ (by decide) (by decide)
    rw [e28]
    exact ⟨rfl, N28⟩
  · skip
    rw [hq18]
    refine own_by (T' := T17) (g' := (mkF m 95 #[.val (.int u), .val (.int r), .val (.long f), .second, .val (.int (1 : Int32)), .val (.ref b1)] [(.ref b1)])) (fun _ k => XS.aload X17.here hx rfl (hb hby at_93) rfl rfl k) ?_
    refine own_by (T' := T17) (g' := (mkF m 97 #[.val (.int u), .val (.int r), .val (.long f), .second, .val (.int (1 : Int32)), .val (.ref b1)] [(.int (1 : Int32)), (.ref b1)])) (fun _ k => XS.iload X17.here hx rfl (hb hby at_95) rfl k) ?_
    refine own_by (T' := T17) (g' := (mkF m 98 #[.val (.int u), .val (.int r), .val (.long f), .second, .val (.int (1 : Int32)), .val (.ref b1)] [(.int u), (.int (1 : Int32)), (.ref b1)])) (fun _ k => XS.iloadN X17.here hx rfl (hb hby at_97) rfl k) ?_
    refine own_by (T' := T17) (g' := (mkF m 100 #[.val (.int u), .val (.int r), .val (.long f), .second, .val (.int (1 : Int32)), .val (.ref b1)] [(.int (24 : Int32)), (.int u), (.int (1 : Int32)), (.ref b1)])) (fun _ k => XS.bipush X17.here hx rfl (hb hby at_98) k) ?_
    refine own_by (T' := T17) (g' := (mkF m 101 #[.val (.int u), .val (.int r), .val (.long f), .second, .val (.int (1 : Int32)), .val (.ref b1)] [(.int ((u.toUInt32 >>> ((24 : Int32) &&& 31).toUInt32).toInt32)), (.int (1 : Int32)), (.ref b1)])) (fun _ k => XS.iushr X17.here hx rfl (hb hby at_100) rfl k) ?_
    refine own_by (T' := T17) (g' := (mkF m 102 #[.val (.int u), .val (.int r), .val (.long f), .second, .val (.int (1 : Int32)), .val (.ref b1)] [(.int (((u.toUInt32 >>> ((24 : Int32) &&& 31).toUInt32).toInt32).toInt8.toInt32)), (.int (1 : Int32)), (.ref b1)])) (fun _ k => XS.i2b X17.here hx rfl (hb hby at_101) rfl k) ?_
    obtain ⟨cl29, Ar29, q29, S29, N_29, H29, G29⟩ := V17
    have hin29 : ¬ ((1 : Int32) < 0 ∨ cl29.slots.size ≤ ((1 : Int32)).toNatClampNeg) := inb_of S29 ⟨by decide, by decide⟩
    obtain ⟨T30, h30, X30, e30, W30, st30⟩ := stB X17 hx hZ e17 Ar29 (j := (1 : Int32)) hin29 (g := (mkF m 102 #[.val (.int u), .val (.int r), .val (.long f), .second, .val (.int (1 : Int32)), .val (.ref b1)] [(.int (((u.toUInt32 >>> ((24 : Int32) &&& 31).toUInt32).toInt32).toInt8.toInt32)), (.int (1 : Int32)), (.ref b1)])) rfl rfl (hb hby at_102)
    have V30 : Arv Z h30 b1 k1 .byte (8 : Int32) [(.int (nar .byte ((f.toInt32).toInt8.toInt32))), (.int (nar .byte (((u.toUInt32 >>> ((24 : Int32) &&& 31).toUInt32).toInt32).toInt8.toInt32))), (.int (nar .byte ((((f.toUInt64 >>> ((16 : Int32) &&& 0x3f).toInt64.toUInt64).toInt64).toInt32).toInt8.toInt32))), (.int (nar .byte ((((f.toUInt64 >>> ((24 : Int32) &&& 0x3f).toInt64.toUInt64).toInt64).toInt32).toInt8.toInt32))), (.int (nar .byte ((((f.toUInt64 >>> ((32 : Int32) &&& 0x3f).toInt64.toUInt64).toInt64).toInt32).toInt8.toInt32))), (.int (nar .byte ((((f.toUInt64 >>> ((40 : Int32) &&& 0x3f).toInt64.toUInt64).toInt64).toInt32).toInt8.toInt32))), (.int (nar .byte ((((f.toUInt64 >>> ((48 : Int32) &&& 0x3f).toInt64.toUInt64).toInt64).toInt32).toInt8.toInt32))), (.int (nar .byte ((((f.toUInt64 >>> ((56 : Int32) &&& 0x3f).toInt64.toUInt64).toInt64).toInt32).toInt8.toInt32)))] (.int (0 : Int32)) := Arv.set Ar29 q29 S29 N_29 H29 G29 (fits_nar_byte _) W30 1 rfl (Nat.le_of_ble_eq_true rfl)
    have K30 : Keep h0 h30 [] := Keep.wr K17 W30 (Or.inr sz_b1)
    have N30 := Fr.snoc X30 N17 g_b1
    refine own_by (T' := T30) (g' := (mkF m 103 #[.val (.int u), .val (.int r), .val (.long f), .second, .val (.int (1 : Int32)), .val (.ref b1)] [])) (fun _ k => st30 _ k) ?_
    refine own_by (T' := T30) (g' := (mkF m 105 #[.val (.int u), .val (.int r), .val (.long f), .second, .val (.int (1 : Int32)), .val (.ref b1)] [(.ref b1)])) (fun _ k => XS.aload X30.here hx rfl (hb hby at_103) rfl rfl k) ?_
    refine own_by (T' := T30) (g' := (mkF m 107 #[.val (.int u), .val (.int r), .val (.long f), .second, .val (.int (1 : Int32)), .val (.ref b1)] [(.int (1 : Int32)), (.ref b1)])) (fun _ k => XS.iload X30.here hx rfl (hb hby at_105) rfl k) ?_
    refine own_by (T' := T30) (g' := (mkF m 108 #[.val (.int u), .val (.int r), .val (.long f), .second, .val (.int (1 : Int32)), .val (.ref b1)] [(.int (1 : Int32)), (.int (1 : Int32)), (.ref b1)])) (fun _ k => XS.iconst X30.here hx rfl (hb hby at_107) k) ?_
    refine own_by (T' := T30) (g' := (mkF m 109 #[.val (.int u), .val (.int r), .val (.long f), .second, .val (.int (1 : Int32)), .val (.ref b1)] [(.int (2 : Int32)), (.ref b1)])) (fun _ k => XS.iadd X30.here hx rfl (hb hby at_108) rfl k) ?_
    refine own_by (T' := T30) (g' := (mkF m 110 #[.val (.int u), .val (.int r), .val (.long f), .second, .val (.int (1 : Int32)), .val (.ref b1)] [(.int u), (.int (2 : Int32)), (.ref b1)])) (fun _ k => XS.iloadN X30.here hx rfl (hb hby at_109) rfl k) ?_
    refine own_by (T' := T30) (g' := (mkF m 112 #[.val (.int u), .val (.int r), .val (.long f), .second, .val (.int (1 : Int32)), .val (.ref b1)] [(.int (16 : Int32)), (.int u), (.int (2 : Int32)), (.ref b1)])) (fun _ k => XS.bipush X30.here hx rfl (hb hby at_110) k) ?_
    refine own_by (T' := T30) (g' := (mkF m 113 #[.val (.int u), .val (.int r), .val (.long f), .second, .val (.int (1 : Int32)), .val (.ref b1)] [(.int ((u.toUInt32 >>> ((16 : Int32) &&& 31).toUInt32).toInt32)), (.int (2 : Int32)), (.ref b1)])) (fun _ k => XS.iushr X30.here hx rfl (hb hby at_112) rfl k) ?_
    refine own_by (T' := T30) (g' := (mkF m 114 #[.val (.int u), .val (.int r), .val (.long f), .second, .val (.int (1 : Int32)), .val (.ref b1)] [(.int (((u.toUInt32 >>> ((16 : Int32) &&& 31).toUInt32).toInt32).toInt8.toInt32)), (.int (2 : Int32)), (.ref b1)])) (fun _ k => XS.i2b X30.here hx rfl (hb hby at_113) rfl k) ?_
    obtain ⟨cl31, Ar31, q31, S31, N_31, H31, G31⟩ := V30
    have hin31 : ¬ ((2 : Int32) < 0 ∨ cl31.slots.size ≤ ((2 : Int32)).toNatClampNeg) := inb_of S31 ⟨by decide, by decide⟩
    obtain ⟨T32, h32, X32, e32, W32, st32⟩ := stB X30 hx hZ e30 Ar31 (j := (2 : Int32)) hin31 (g := (mkF m 114 #[.val (.int u), .val (.int r), .val (.long f), .second, .val (.int (1 : Int32)), .val (.ref b1)] [(.int (((u.toUInt32 >>> ((16 : Int32) &&& 31).toUInt32).toInt32).toInt8.toInt32)), (.int (2 : Int32)), (.ref b1)])) rfl rfl (hb hby at_114)
    have V32 : Arv Z h32 b1 k1 .byte (8 : Int32) [(.int (nar .byte ((f.toInt32).toInt8.toInt32))), (.int (nar .byte (((u.toUInt32 >>> ((24 : Int32) &&& 31).toUInt32).toInt32).toInt8.toInt32))), (.int (nar .byte (((u.toUInt32 >>> ((16 : Int32) &&& 31).toUInt32).toInt32).toInt8.toInt32))), (.int (nar .byte ((((f.toUInt64 >>> ((24 : Int32) &&& 0x3f).toInt64.toUInt64).toInt64).toInt32).toInt8.toInt32))), (.int (nar .byte ((((f.toUInt64 >>> ((32 : Int32) &&& 0x3f).toInt64.toUInt64).toInt64).toInt32).toInt8.toInt32))), (.int (nar .byte ((((f.toUInt64 >>> ((40 : Int32) &&& 0x3f).toInt64.toUInt64).toInt64).toInt32).toInt8.toInt32))), (.int (nar .byte ((((f.toUInt64 >>> ((48 : Int32) &&& 0x3f).toInt64.toUInt64).toInt64).toInt32).toInt8.toInt32))), (.int (nar .byte ((((f.toUInt64 >>> ((56 : Int32) &&& 0x3f).toInt64.toUInt64).toInt64).toInt32).toInt8.toInt32)))] (.int (0 : Int32)) := Arv.set Ar31 q31 S31 N_31 H31 G31 (fits_nar_byte _) W32 2 rfl (Nat.le_of_ble_eq_true rfl)
    have K32 : Keep h0 h32 [] := Keep.wr K30 W32 (Or.inr sz_b1)
    have N32 := Fr.snoc X32 N30 g_b1
    refine own_by (T' := T32) (g' := (mkF m 115 #[.val (.int u), .val (.int r), .val (.long f), .second, .val (.int (1 : Int32)), .val (.ref b1)] [])) (fun _ k => st32 _ k) ?_
    refine own_by (T' := T32) (g' := (mkF m 117 #[.val (.int u), .val (.int r), .val (.long f), .second, .val (.int (1 : Int32)), .val (.ref b1)] [(.ref b1)])) (fun _ k => XS.aload X32.here hx rfl (hb hby at_115) rfl rfl k) ?_
    refine own_by (T' := T32) (g' := (mkF m 119 #[.val (.int u), .val (.int r), .val (.long f), .second, .val (.int (1 : Int32)), .val (.ref b1)] [(.int (1 : Int32)), (.ref b1)])) (fun _ k => XS.iload X32.here hx rfl (hb hby at_117) rfl k) ?_
    refine own_by (T' := T32) (g' := (mkF m 120 #[.val (.int u), .val (.int r), .val (.long f), .second, .val (.int (1 : Int32)), .val (.ref b1)] [(.int (2 : Int32)), (.int (1 : Int32)), (.ref b1)])) (fun _ k => XS.iconst X32.here hx rfl (hb hby at_119) k) ?_
    refine own_by (T' := T32) (g' := (mkF m 121 #[.val (.int u), .val (.int r), .val (.long f), .second, .val (.int (1 : Int32)), .val (.ref b1)] [(.int (3 : Int32)), (.ref b1)])) (fun _ k => XS.iadd X32.here hx rfl (hb hby at_120) rfl k) ?_
    refine own_by (T' := T32) (g' := (mkF m 122 #[.val (.int u), .val (.int r), .val (.long f), .second, .val (.int (1 : Int32)), .val (.ref b1)] [(.int u), (.int (3 : Int32)), (.ref b1)])) (fun _ k => XS.iloadN X32.here hx rfl (hb hby at_121) rfl k) ?_
    refine own_by (T' := T32) (g' := (mkF m 124 #[.val (.int u), .val (.int r), .val (.long f), .second, .val (.int (1 : Int32)), .val (.ref b1)] [(.int (8 : Int32)), (.int u), (.int (3 : Int32)), (.ref b1)])) (fun _ k => XS.bipush X32.here hx rfl (hb hby at_122) k) ?_
    refine own_by (T' := T32) (g' := (mkF m 125 #[.val (.int u), .val (.int r), .val (.long f), .second, .val (.int (1 : Int32)), .val (.ref b1)] [(.int ((u.toUInt32 >>> ((8 : Int32) &&& 31).toUInt32).toInt32)), (.int (3 : Int32)), (.ref b1)])) (fun _ k => XS.iushr X32.here hx rfl (hb hby at_124) rfl k) ?_
    refine own_by (T' := T32) (g' := (mkF m 126 #[.val (.int u), .val (.int r), .val (.long f), .second, .val (.int (1 : Int32)), .val (.ref b1)] [(.int (((u.toUInt32 >>> ((8 : Int32) &&& 31).toUInt32).toInt32).toInt8.toInt32)), (.int (3 : Int32)), (.ref b1)])) (fun _ k => XS.i2b X32.here hx rfl (hb hby at_125) rfl k) ?_
    obtain ⟨cl33, Ar33, q33, S33, N_33, H33, G33⟩ := V32
    have hin33 : ¬ ((3 : Int32) < 0 ∨ cl33.slots.size ≤ ((3 : Int32)).toNatClampNeg) := inb_of S33 ⟨by decide, by decide⟩
    obtain ⟨T34, h34, X34, e34, W34, st34⟩ := stB X32 hx hZ e32 Ar33 (j := (3 : Int32)) hin33 (g := (mkF m 126 #[.val (.int u), .val (.int r), .val (.long f), .second, .val (.int (1 : Int32)), .val (.ref b1)] [(.int (((u.toUInt32 >>> ((8 : Int32) &&& 31).toUInt32).toInt32).toInt8.toInt32)), (.int (3 : Int32)), (.ref b1)])) rfl rfl (hb hby at_126)
    have V34 : Arv Z h34 b1 k1 .byte (8 : Int32) [(.int (nar .byte ((f.toInt32).toInt8.toInt32))), (.int (nar .byte (((u.toUInt32 >>> ((24 : Int32) &&& 31).toUInt32).toInt32).toInt8.toInt32))), (.int (nar .byte (((u.toUInt32 >>> ((16 : Int32) &&& 31).toUInt32).toInt32).toInt8.toInt32))), (.int (nar .byte (((u.toUInt32 >>> ((8 : Int32) &&& 31).toUInt32).toInt32).toInt8.toInt32))), (.int (nar .byte ((((f.toUInt64 >>> ((32 : Int32) &&& 0x3f).toInt64.toUInt64).toInt64).toInt32).toInt8.toInt32))), (.int (nar .byte ((((f.toUInt64 >>> ((40 : Int32) &&& 0x3f).toInt64.toUInt64).toInt64).toInt32).toInt8.toInt32))), (.int (nar .byte ((((f.toUInt64 >>> ((48 : Int32) &&& 0x3f).toInt64.toUInt64).toInt64).toInt32).toInt8.toInt32))), (.int (nar .byte ((((f.toUInt64 >>> ((56 : Int32) &&& 0x3f).toInt64.toUInt64).toInt64).toInt32).toInt8.toInt32)))] (.int (0 : Int32)) := Arv.set Ar33 q33 S33 N_33 H33 G33 (fits_nar_byte _) W34 3 rfl (Nat.le_of_ble_eq_true rfl)
    have K34 : Keep h0 h34 [] := Keep.wr K32 W34 (Or.inr sz_b1)
    have N34 := Fr.snoc X34 N32 g_b1
    refine own_by (T' := T34) (g' := (mkF m 127 #[.val (.int u), .val (.int r), .val (.long f), .second, .val (.int (1 : Int32)), .val (.ref b1)] [])) (fun _ k => st34 _ k) ?_
    refine own_by (T' := T34) (g' := (mkF m 129 #[.val (.int u), .val (.int r), .val (.long f), .second, .val (.int (1 : Int32)), .val (.ref b1)] [(.ref b1)])) (fun _ k => XS.aload X34.here hx rfl (hb hby at_127) rfl rfl k) ?_
    refine own_by (T' := T34) (g' := (mkF m 131 #[.val (.int u), .val (.int r), .val (.long f), .second, .val (.int (1 : Int32)), .val (.ref b1)] [(.int (1 : Int32)), (.ref b1)])) (fun _ k => XS.iload X34.here hx rfl (hb hby at_129) rfl k) ?_
    refine own_by (T' := T34) (g' := (mkF m 132 #[.val (.int u), .val (.int r), .val (.long f), .second, .val (.int (1 : Int32)), .val (.ref b1)] [(.int (3 : Int32)), (.int (1 : Int32)), (.ref b1)])) (fun _ k => XS.iconst X34.here hx rfl (hb hby at_131) k) ?_
    refine own_by (T' := T34) (g' := (mkF m 133 #[.val (.int u), .val (.int r), .val (.long f), .second, .val (.int (1 : Int32)), .val (.ref b1)] [(.int (4 : Int32)), (.ref b1)])) (fun _ k => XS.iadd X34.here hx rfl (hb hby at_132) rfl k) ?_
    refine own_by (T' := T34) (g' := (mkF m 134 #[.val (.int u), .val (.int r), .val (.long f), .second, .val (.int (1 : Int32)), .val (.ref b1)] [(.int u), (.int (4 : Int32)), (.ref b1)])) (fun _ k => XS.iloadN X34.here hx rfl (hb hby at_133) rfl k) ?_
    refine own_by (T' := T34) (g' := (mkF m 135 #[.val (.int u), .val (.int r), .val (.long f), .second, .val (.int (1 : Int32)), .val (.ref b1)] [(.int (u.toInt8.toInt32)), (.int (4 : Int32)), (.ref b1)])) (fun _ k => XS.i2b X34.here hx rfl (hb hby at_134) rfl k) ?_
    obtain ⟨cl35, Ar35, q35, S35, N_35, H35, G35⟩ := V34
    have hin35 : ¬ ((4 : Int32) < 0 ∨ cl35.slots.size ≤ ((4 : Int32)).toNatClampNeg) := inb_of S35 ⟨by decide, by decide⟩
    obtain ⟨T36, h36, X36, e36, W36, st36⟩ := stB X34 hx hZ e34 Ar35 (j := (4 : Int32)) hin35 (g := (mkF m 135 #[.val (.int u), .val (.int r), .val (.long f), .second, .val (.int (1 : Int32)), .val (.ref b1)] [(.int (u.toInt8.toInt32)), (.int (4 : Int32)), (.ref b1)])) rfl rfl (hb hby at_135)
    have V36 : Arv Z h36 b1 k1 .byte (8 : Int32) [(.int (nar .byte ((f.toInt32).toInt8.toInt32))), (.int (nar .byte (((u.toUInt32 >>> ((24 : Int32) &&& 31).toUInt32).toInt32).toInt8.toInt32))), (.int (nar .byte (((u.toUInt32 >>> ((16 : Int32) &&& 31).toUInt32).toInt32).toInt8.toInt32))), (.int (nar .byte (((u.toUInt32 >>> ((8 : Int32) &&& 31).toUInt32).toInt32).toInt8.toInt32))), (.int (nar .byte (u.toInt8.toInt32))), (.int (nar .byte ((((f.toUInt64 >>> ((40 : Int32) &&& 0x3f).toInt64.toUInt64).toInt64).toInt32).toInt8.toInt32))), (.int (nar .byte ((((f.toUInt64 >>> ((48 : Int32) &&& 0x3f).toInt64.toUInt64).toInt64).toInt32).toInt8.toInt32))), (.int (nar .byte ((((f.toUInt64 >>> ((56 : Int32) &&& 0x3f).toInt64.toUInt64).toInt64).toInt32).toInt8.toInt32)))] (.int (0 : Int32)) := Arv.set Ar35 q35 S35 N_35 H35 G35 (fits_nar_byte _) W36 4 rfl (Nat.le_of_ble_eq_true rfl)
    have K36 : Keep h0 h36 [] := Keep.wr K34 W36 (Or.inr sz_b1)
    have N36 := Fr.snoc X36 N34 g_b1
    refine own_by (T' := T36) (g' := (mkF m 136 #[.val (.int u), .val (.int r), .val (.long f), .second, .val (.int (1 : Int32)), .val (.ref b1)] [])) (fun _ k => st36 _ k) ?_
    refine own_by (T' := T36) (g' := (mkF m 138 #[.val (.int u), .val (.int r), .val (.long f), .second, .val (.int (1 : Int32)), .val (.ref b1)] [(.ref b1)])) (fun _ k => XS.aload X36.here hx rfl (hb hby at_136) rfl rfl k) ?_
    refine own_by (T' := T36) (g' := (mkF m 140 #[.val (.int u), .val (.int r), .val (.long f), .second, .val (.int (1 : Int32)), .val (.ref b1)] [(.int (1 : Int32)), (.ref b1)])) (fun _ k => XS.iload X36.here hx rfl (hb hby at_138) rfl k) ?_
    obtain ⟨cl37, Ar37, q37, S37, N_37, H37, G37⟩ := V36
    have hin37_0 : ¬ ((1 : Int32) < 0 ∨ cl37.slots.size ≤ ((1 : Int32)).toNatClampNeg) := inb_of S37 ⟨by decide, by decide⟩
    have hin37_1 : ¬ (((1 : Int32) + (1 : Int32)) < 0 ∨ cl37.slots.size ≤ (((1 : Int32) + (1 : Int32))).toNatClampNeg) := inb_of S37 ⟨by decide, by decide⟩
    have hin37_2 : ¬ (((1 : Int32) + (2 : Int32)) < 0 ∨ cl37.slots.size ≤ (((1 : Int32) + (2 : Int32))).toNatClampNeg) := inb_of S37 ⟨by decide, by decide⟩
    have hin37_3 : ¬ (((1 : Int32) + (3 : Int32)) < 0 ∨ cl37.slots.size ≤ (((1 : Int32) + (3 : Int32))).toNatClampNeg) := inb_of S37 ⟨by decide, by decide⟩
    obtain ⟨_, _, ⟨T38, L38, k38, n38⟩, -, X38, ⟨Lc38, hQ38, l38, y38, z38⟩, st38⟩ := Jvm.LawKit.callS X36 hx (y := (⟨"com/example/onceward/onceward/journal/BigEndian", "intAt", "([BI)I"⟩ : MethodName)) hown (mvT hZ (hw _ (List.mem_of_getElem? (i := 2) rfl))) (mvT hZ (hw _ (List.mem_of_getElem? (i := 3) rfl))) (mvT hZ (hw _ (List.mem_of_getElem? (i := 4) rfl))) (mvT hZ (hw _ (List.mem_of_getElem? (i := 5) rfl))) (by decide) (backOf (W := 0) (rm1 l Z a0 hw [] b1 (1 : Int32) cl37 (nar .byte (((u.toUInt32 >>> ((24 : Int32) &&& 31).toUInt32).toInt32).toInt8.toInt32)) (nar .byte (((u.toUInt32 >>> ((16 : Int32) &&& 31).toUInt32).toInt32).toInt8.toInt32)) (nar .byte (((u.toUInt32 >>> ((8 : Int32) &&& 31).toUInt32).toInt32).toInt8.toInt32)) (nar .byte (u.toInt8.toInt32)) h36 n0 (Nat.le_trans (Nat.le_trans (Nat.le_trans (Nat.le_trans (Nat.le_trans (Nat.le_trans (Nat.le_trans (Nat.le_trans (Nat.le_trans (Nat.le_trans (Nat.le_trans (Nat.le_trans (Nat.le_trans Z0 E1.1) (Keep.of_wr W3).1) (Keep.of_wr W5).1) (Keep.of_wr W7).1) (Keep.of_wr W9).1) (Keep.of_wr W11).1) (Keep.of_wr W13).1) (Keep.of_wr W15).1) (Keep.of_wr W17).1) (Keep.of_wr W30).1) (Keep.of_wr W32).1) (Keep.of_wr W34).1) (Keep.of_wr W36).1) Ar37 hin37_0 hin37_1 hin37_2 hin37_3 (Has.at H37 hin37_0 rfl) (Has.at H37 hin37_1 rfl) (Has.at H37 hin37_2 rfl) (Has.at H37 hin37_3 rfl)) hZ (hw _ (List.mem_of_getElem? (i := 5) rfl)) (hw _ (List.mem_of_getElem? (i := 4) rfl)) (by decide) (by decide)) (g := (mkF m 140 #[.val (.int u), .val (.int r), .val (.long f), .second, .val (.int (1 : Int32)), .val (.ref b1)] [(.int (1 : Int32)), (.ref b1)])) rfl (by rw [hml]; rfl) (argsL := [(.ref b1), (.int (1 : Int32))]) (rest := []) (lenOf pd_0 rfl) rfl (by show 2 * 0 + _ ≤ _; exact Nat.le_of_eq rfl) (hb hby at_140) (fun _ _ => ⟨rfl, e36, (by decide : (0 + 1) + 0 ≤ _), (by decide : (0 + 8) + 0 ≤ _)⟩)
    dsimp only [Pt.U, Pt.locs, Pt.cells, Pt.slots] at X38 l38 y38 z38 st38 hQ38
    subst l38 y38 z38
    obtain ⟨rfl, N38q, e38⟩ := hQ38
    have N38 := Fr.app N36 N38q
    refine own_by (T' := T38) (g' := (mkF m 143 #[.val (.int u), .val (.int r), .val (.long f), .second, .val (.int (1 : Int32)), .val (.ref b1)] [(.int (own_be (nar .byte (((u.toUInt32 >>> ((24 : Int32) &&& 31).toUInt32).toInt32).toInt8.toInt32)) (nar .byte (((u.toUInt32 >>> ((16 : Int32) &&& 31).toUInt32).toInt32).toInt8.toInt32)) (nar .byte (((u.toUInt32 >>> ((8 : Int32) &&& 31).toUInt32).toInt32).toInt8.toInt32)) (nar .byte (u.toInt8.toInt32))))])) (fun _ k => st38 _ k) ?_
    refine own_by (T' := T38) (g' := (mkF m 144 #[.val (.int u), .val (.int r), .val (.long f), .second, .val (.int (1 : Int32)), .val (.ref b1)] [(.int u), (.int (own_be (nar .byte (((u.toUInt32 >>> ((24 : Int32) &&& 31).toUInt32).toInt32).toInt8.toInt32)) (nar .byte (((u.toUInt32 >>> ((16 : Int32) &&& 31).toUInt32).toInt32).toInt8.toInt32)) (nar .byte (((u.toUInt32 >>> ((8 : Int32) &&& 31).toUInt32).toInt32).toInt8.toInt32)) (nar .byte (u.toInt8.toInt32))))])) (fun _ k => XS.iloadN X38.here hx rfl (hb hby at_143) rfl k) ?_
    refine own_by (T' := T38) (g' := (mkF m 147 #[.val (.int u), .val (.int r), .val (.long f), .second, .val (.int (1 : Int32)), .val (.ref b1)] [])) (fun _ k => XS.icmpNo X38.here hx rfl (hb hby at_144) rfl (teq (own_bytes u)).2 k) ?_
    refine own_by (T' := T38) (g' := (mkF m 148 #[.val (.int u), .val (.int r), .val (.long f), .second, .val (.int (1 : Int32)), .val (.ref b1)] [(.int (1 : Int32))])) (fun _ k => XS.iconst X38.here hx rfl (hb hby at_147) k) ?_
    refine own_by (T' := T38) (g' := (mkF m 152 #[.val (.int u), .val (.int r), .val (.long f), .second, .val (.int (1 : Int32)), .val (.ref b1)] [(.int (1 : Int32))])) (fun _ k => XS.goto X38.here hx rfl (pc0 := 148) (pc' := 152) rfl (hb hby at_148) (by decide) (by decide) k) ?_
    refine own_ret X38 hlk (v := some (.int (1 : Int32))) (fun h => by rw [Bd.returns] at h; cases h) (fun fs hr => retN X38 hx (t := .boolean) Bd.returns (by simp) (hb hby at_152) hr) ?_ (by decide) (by decide)
    rw [e38]
    exact ⟨rfl, N38⟩
  · skip
    rw [hq18]
    refine own_by (T' := T17) (g' := (mkF m 95 #[.val (.int u), .val (.int r), .val (.long f), .second, .val (.int (2 : Int32)), .val (.ref b1)] [(.ref b1)])) (fun _ k => XS.aload X17.here hx rfl (hb hby at_93) rfl rfl k) ?_
    refine own_by (T' := T17) (g' := (mkF m 97 #[.val (.int u), .val (.int r), .val (.long f), .second, .val (.int (2 : Int32)), .val (.ref b1)] [(.int (2 : Int32)), (.ref b1)])) (fun _ k => XS.iload X17.here hx rfl (hb hby at_95) rfl k) ?_
    refine own_by (T' := T17) (g' := (mkF m 98 #[.val (.int u), .val (.int r), .val (.long f), .second, .val (.int (2 : Int32)), .val (.ref b1)] [(.int u), (.int (2 : Int32)), (.ref b1)])) (fun _ k => XS.iloadN X17.here hx rfl (hb hby at_97) rfl k) ?_
    refine own_by (T' := T17) (g' := (mkF m 100 #[.val (.int u), .val (.int r), .val (.long f), .second, .val (.int (2 : Int32)), .val (.ref b1)] [(.int (24 : Int32)), (.int u), (.int (2 : Int32)), (.ref b1)])) (fun _ k => XS.bipush X17.here hx rfl (hb hby at_98) k) ?_
    refine own_by (T' := T17) (g' := (mkF m 101 #[.val (.int u), .val (.int r), .val (.long f), .second, .val (.int (2 : Int32)), .val (.ref b1)] [(.int ((u.toUInt32 >>> ((24 : Int32) &&& 31).toUInt32).toInt32)), (.int (2 : Int32)), (.ref b1)])) (fun _ k => XS.iushr X17.here hx rfl (hb hby at_100) rfl k) ?_
    refine own_by (T' := T17) (g' := (mkF m 102 #[.val (.int u), .val (.int r), .val (.long f), .second, .val (.int (2 : Int32)), .val (.ref b1)] [(.int (((u.toUInt32 >>> ((24 : Int32) &&& 31).toUInt32).toInt32).toInt8.toInt32)), (.int (2 : Int32)), (.ref b1)])) (fun _ k => XS.i2b X17.here hx rfl (hb hby at_101) rfl k) ?_
    obtain ⟨cl39, Ar39, q39, S39, N_39, H39, G39⟩ := V17
    have hin39 : ¬ ((2 : Int32) < 0 ∨ cl39.slots.size ≤ ((2 : Int32)).toNatClampNeg) := inb_of S39 ⟨by decide, by decide⟩
    obtain ⟨T40, h40, X40, e40, W40, st40⟩ := stB X17 hx hZ e17 Ar39 (j := (2 : Int32)) hin39 (g := (mkF m 102 #[.val (.int u), .val (.int r), .val (.long f), .second, .val (.int (2 : Int32)), .val (.ref b1)] [(.int (((u.toUInt32 >>> ((24 : Int32) &&& 31).toUInt32).toInt32).toInt8.toInt32)), (.int (2 : Int32)), (.ref b1)])) rfl rfl (hb hby at_102)
    have V40 : Arv Z h40 b1 k1 .byte (8 : Int32) [(.int (nar .byte ((f.toInt32).toInt8.toInt32))), (.int (nar .byte ((((f.toUInt64 >>> ((8 : Int32) &&& 0x3f).toInt64.toUInt64).toInt64).toInt32).toInt8.toInt32))), (.int (nar .byte (((u.toUInt32 >>> ((24 : Int32) &&& 31).toUInt32).toInt32).toInt8.toInt32))), (.int (nar .byte ((((f.toUInt64 >>> ((24 : Int32) &&& 0x3f).toInt64.toUInt64).toInt64).toInt32).toInt8.toInt32))), (.int (nar .byte ((((f.toUInt64 >>> ((32 : Int32) &&& 0x3f).toInt64.toUInt64).toInt64).toInt32).toInt8.toInt32))), (.int (nar .byte ((((f.toUInt64 >>> ((40 : Int32) &&& 0x3f).toInt64.toUInt64).toInt64).toInt32).toInt8.toInt32))), (.int (nar .byte ((((f.toUInt64 >>> ((48 : Int32) &&& 0x3f).toInt64.toUInt64).toInt64).toInt32).toInt8.toInt32))), (.int (nar .byte ((((f.toUInt64 >>> ((56 : Int32) &&& 0x3f).toInt64.toUInt64).toInt64).toInt32).toInt8.toInt32)))] (.int (0 : Int32)) := Arv.set Ar39 q39 S39 N_39 H39 G39 (fits_nar_byte _) W40 2 rfl (Nat.le_of_ble_eq_true rfl)
    have K40 : Keep h0 h40 [] := Keep.wr K17 W40 (Or.inr sz_b1)
    have N40 := Fr.snoc X40 N17 g_b1
    refine own_by (T' := T40) (g' := (mkF m 103 #[.val (.int u), .val (.int r), .val (.long f), .second, .val (.int (2 : Int32)), .val (.ref b1)] [])) (fun _ k => st40 _ k) ?_
    refine own_by (T' := T40) (g' := (mkF m 105 #[.val (.int u), .val (.int r), .val (.long f), .second, .val (.int (2 : Int32)), .val (.ref b1)] [(.ref b1)])) (fun _ k => XS.aload X40.here hx rfl (hb hby at_103) rfl rfl k) ?_
    refine own_by (T' := T40) (g' := (mkF m 107 #[.val (.int u), .val (.int r), .val (.long f), .second, .val (.int (2 : Int32)), .val (.ref b1)] [(.int (2 : Int32)), (.ref b1)])) (fun _ k => XS.iload X40.here hx rfl (hb hby at_105) rfl k) ?_
    refine own_by (T' := T40) (g' := (mkF m 108 #[.val (.int u), .val (.int r), .val (.long f), .second, .val (.int (2 : Int32)), .val (.ref b1)] [(.int (1 : Int32)), (.int (2 : Int32)), (.ref b1)])) (fun _ k => XS.iconst X40.here hx rfl (hb hby at_107) k) ?_
    refine own_by (T' := T40) (g' := (mkF m 109 #[.val (.int u), .val (.int r), .val (.long f), .second, .val (.int (2 : Int32)), .val (.ref b1)] [(.int (3 : Int32)), (.ref b1)])) (fun _ k => XS.iadd X40.here hx rfl (hb hby at_108) rfl k) ?_
    refine own_by (T' := T40) (g' := (mkF m 110 #[.val (.int u), .val (.int r), .val (.long f), .second, .val (.int (2 : Int32)), .val (.ref b1)] [(.int u), (.int (3 : Int32)), (.ref b1)])) (fun _ k => XS.iloadN X40.here hx rfl (hb hby at_109) rfl k) ?_
    refine own_by (T' := T40) (g' := (mkF m 112 #[.val (.int u), .val (.int r), .val (.long f), .second, .val (.int (2 : Int32)), .val (.ref b1)] [(.int (16 : Int32)), (.int u), (.int (3 : Int32)), (.ref b1)])) (fun _ k => XS.bipush X40.here hx rfl (hb hby at_110) k) ?_
    refine own_by (T' := T40) (g' := (mkF m 113 #[.val (.int u), .val (.int r), .val (.long f), .second, .val (.int (2 : Int32)), .val (.ref b1)] [(.int ((u.toUInt32 >>> ((16 : Int32) &&& 31).toUInt32).toInt32)), (.int (3 : Int32)), (.ref b1)])) (fun _ k => XS.iushr X40.here hx rfl (hb hby at_112) rfl k) ?_
    refine own_by (T' := T40) (g' := (mkF m 114 #[.val (.int u), .val (.int r), .val (.long f), .second, .val (.int (2 : Int32)), .val (.ref b1)] [(.int (((u.toUInt32 >>> ((16 : Int32) &&& 31).toUInt32).toInt32).toInt8.toInt32)), (.int (3 : Int32)), (.ref b1)])) (fun _ k => XS.i2b X40.here hx rfl (hb hby at_113) rfl k) ?_
    obtain ⟨cl41, Ar41, q41, S41, N_41, H41, G41⟩ := V40
    have hin41 : ¬ ((3 : Int32) < 0 ∨ cl41.slots.size ≤ ((3 : Int32)).toNatClampNeg) := inb_of S41 ⟨by decide, by decide⟩
    obtain ⟨T42, h42, X42, e42, W42, st42⟩ := stB X40 hx hZ e40 Ar41 (j := (3 : Int32)) hin41 (g := (mkF m 114 #[.val (.int u), .val (.int r), .val (.long f), .second, .val (.int (2 : Int32)), .val (.ref b1)] [(.int (((u.toUInt32 >>> ((16 : Int32) &&& 31).toUInt32).toInt32).toInt8.toInt32)), (.int (3 : Int32)), (.ref b1)])) rfl rfl (hb hby at_114)
    have V42 : Arv Z h42 b1 k1 .byte (8 : Int32) [(.int (nar .byte ((f.toInt32).toInt8.toInt32))), (.int (nar .byte ((((f.toUInt64 >>> ((8 : Int32) &&& 0x3f).toInt64.toUInt64).toInt64).toInt32).toInt8.toInt32))), (.int (nar .byte (((u.toUInt32 >>> ((24 : Int32) &&& 31).toUInt32).toInt32).toInt8.toInt32))), (.int (nar .byte (((u.toUInt32 >>> ((16 : Int32) &&& 31).toUInt32).toInt32).toInt8.toInt32))), (.int (nar .byte ((((f.toUInt64 >>> ((32 : Int32) &&& 0x3f).toInt64.toUInt64).toInt64).toInt32).toInt8.toInt32))), (.int (nar .byte ((((f.toUInt64 >>> ((40 : Int32) &&& 0x3f).toInt64.toUInt64).toInt64).toInt32).toInt8.toInt32))), (.int (nar .byte ((((f.toUInt64 >>> ((48 : Int32) &&& 0x3f).toInt64.toUInt64).toInt64).toInt32).toInt8.toInt32))), (.int (nar .byte ((((f.toUInt64 >>> ((56 : Int32) &&& 0x3f).toInt64.toUInt64).toInt64).toInt32).toInt8.toInt32)))] (.int (0 : Int32)) := Arv.set Ar41 q41 S41 N_41 H41 G41 (fits_nar_byte _) W42 3 rfl (Nat.le_of_ble_eq_true rfl)
    have K42 : Keep h0 h42 [] := Keep.wr K40 W42 (Or.inr sz_b1)
    have N42 := Fr.snoc X42 N40 g_b1
    refine own_by (T' := T42) (g' := (mkF m 115 #[.val (.int u), .val (.int r), .val (.long f), .second, .val (.int (2 : Int32)), .val (.ref b1)] [])) (fun _ k => st42 _ k) ?_
    refine own_by (T' := T42) (g' := (mkF m 117 #[.val (.int u), .val (.int r), .val (.long f), .second, .val (.int (2 : Int32)), .val (.ref b1)] [(.ref b1)])) (fun _ k => XS.aload X42.here hx rfl (hb hby at_115) rfl rfl k) ?_
    refine own_by (T' := T42) (g' := (mkF m 119 #[.val (.int u), .val (.int r), .val (.long f), .second, .val (.int (2 : Int32)), .val (.ref b1)] [(.int (2 : Int32)), (.ref b1)])) (fun _ k => XS.iload X42.here hx rfl (hb hby at_117) rfl k) ?_
    refine own_by (T' := T42) (g' := (mkF m 120 #[.val (.int u), .val (.int r), .val (.long f), .second, .val (.int (2 : Int32)), .val (.ref b1)] [(.int (2 : Int32)), (.int (2 : Int32)), (.ref b1)])) (fun _ k => XS.iconst X42.here hx rfl (hb hby at_119) k) ?_
    refine own_by (T' := T42) (g' := (mkF m 121 #[.val (.int u), .val (.int r), .val (.long f), .second, .val (.int (2 : Int32)), .val (.ref b1)] [(.int (4 : Int32)), (.ref b1)])) (fun _ k => XS.iadd X42.here hx rfl (hb hby at_120) rfl k) ?_
    refine own_by (T' := T42) (g' := (mkF m 122 #[.val (.int u), .val (.int r), .val (.long f), .second, .val (.int (2 : Int32)), .val (.ref b1)] [(.int u), (.int (4 : Int32)), (.ref b1)])) (fun _ k => XS.iloadN X42.here hx rfl (hb hby at_121) rfl k) ?_
    refine own_by (T' := T42) (g' := (mkF m 124 #[.val (.int u), .val (.int r), .val (.long f), .second, .val (.int (2 : Int32)), .val (.ref b1)] [(.int (8 : Int32)), (.int u), (.int (4 : Int32)), (.ref b1)])) (fun _ k => XS.bipush X42.here hx rfl (hb hby at_122) k) ?_
    refine own_by (T' := T42) (g' := (mkF m 125 #[.val (.int u), .val (.int r), .val (.long f), .second, .val (.int (2 : Int32)), .val (.ref b1)] [(.int ((u.toUInt32 >>> ((8 : Int32) &&& 31).toUInt32).toInt32)), (.int (4 : Int32)), (.ref b1)])) (fun _ k => XS.iushr X42.here hx rfl (hb hby at_124) rfl k) ?_
    refine own_by (T' := T42) (g' := (mkF m 126 #[.val (.int u), .val (.int r), .val (.long f), .second, .val (.int (2 : Int32)), .val (.ref b1)] [(.int (((u.toUInt32 >>> ((8 : Int32) &&& 31).toUInt32).toInt32).toInt8.toInt32)), (.int (4 : Int32)), (.ref b1)])) (fun _ k => XS.i2b X42.here hx rfl (hb hby at_125) rfl k) ?_
    obtain ⟨cl43, Ar43, q43, S43, N_43, H43, G43⟩ := V42
    have hin43 : ¬ ((4 : Int32) < 0 ∨ cl43.slots.size ≤ ((4 : Int32)).toNatClampNeg) := inb_of S43 ⟨by decide, by decide⟩
    obtain ⟨T44, h44, X44, e44, W44, st44⟩ := stB X42 hx hZ e42 Ar43 (j := (4 : Int32)) hin43 (g := (mkF m 126 #[.val (.int u), .val (.int r), .val (.long f), .second, .val (.int (2 : Int32)), .val (.ref b1)] [(.int (((u.toUInt32 >>> ((8 : Int32) &&& 31).toUInt32).toInt32).toInt8.toInt32)), (.int (4 : Int32)), (.ref b1)])) rfl rfl (hb hby at_126)
    have V44 : Arv Z h44 b1 k1 .byte (8 : Int32) [(.int (nar .byte ((f.toInt32).toInt8.toInt32))), (.int (nar .byte ((((f.toUInt64 >>> ((8 : Int32) &&& 0x3f).toInt64.toUInt64).toInt64).toInt32).toInt8.toInt32))), (.int (nar .byte (((u.toUInt32 >>> ((24 : Int32) &&& 31).toUInt32).toInt32).toInt8.toInt32))), (.int (nar .byte (((u.toUInt32 >>> ((16 : Int32) &&& 31).toUInt32).toInt32).toInt8.toInt32))), (.int (nar .byte (((u.toUInt32 >>> ((8 : Int32) &&& 31).toUInt32).toInt32).toInt8.toInt32))), (.int (nar .byte ((((f.toUInt64 >>> ((40 : Int32) &&& 0x3f).toInt64.toUInt64).toInt64).toInt32).toInt8.toInt32))), (.int (nar .byte ((((f.toUInt64 >>> ((48 : Int32) &&& 0x3f).toInt64.toUInt64).toInt64).toInt32).toInt8.toInt32))), (.int (nar .byte ((((f.toUInt64 >>> ((56 : Int32) &&& 0x3f).toInt64.toUInt64).toInt64).toInt32).toInt8.toInt32)))] (.int (0 : Int32)) := Arv.set Ar43 q43 S43 N_43 H43 G43 (fits_nar_byte _) W44 4 rfl (Nat.le_of_ble_eq_true rfl)
    have K44 : Keep h0 h44 [] := Keep.wr K42 W44 (Or.inr sz_b1)
    have N44 := Fr.snoc X44 N42 g_b1
    refine own_by (T' := T44) (g' := (mkF m 127 #[.val (.int u), .val (.int r), .val (.long f), .second, .val (.int (2 : Int32)), .val (.ref b1)] [])) (fun _ k => st44 _ k) ?_
    refine own_by (T' := T44) (g' := (mkF m 129 #[.val (.int u), .val (.int r), .val (.long f), .second, .val (.int (2 : Int32)), .val (.ref b1)] [(.ref b1)])) (fun _ k => XS.aload X44.here hx rfl (hb hby at_127) rfl rfl k) ?_
    refine own_by (T' := T44) (g' := (mkF m 131 #[.val (.int u), .val (.int r), .val (.long f), .second, .val (.int (2 : Int32)), .val (.ref b1)] [(.int (2 : Int32)), (.ref b1)])) (fun _ k => XS.iload X44.here hx rfl (hb hby at_129) rfl k) ?_
    refine own_by (T' := T44) (g' := (mkF m 132 #[.val (.int u), .val (.int r), .val (.long f), .second, .val (.int (2 : Int32)), .val (.ref b1)] [(.int (3 : Int32)), (.int (2 : Int32)), (.ref b1)])) (fun _ k => XS.iconst X44.here hx rfl (hb hby at_131) k) ?_
    refine own_by (T' := T44) (g' := (mkF m 133 #[.val (.int u), .val (.int r), .val (.long f), .second, .val (.int (2 : Int32)), .val (.ref b1)] [(.int (5 : Int32)), (.ref b1)])) (fun _ k => XS.iadd X44.here hx rfl (hb hby at_132) rfl k) ?_
    refine own_by (T' := T44) (g' := (mkF m 134 #[.val (.int u), .val (.int r), .val (.long f), .second, .val (.int (2 : Int32)), .val (.ref b1)] [(.int u), (.int (5 : Int32)), (.ref b1)])) (fun _ k => XS.iloadN X44.here hx rfl (hb hby at_133) rfl k) ?_
    refine own_by (T' := T44) (g' := (mkF m 135 #[.val (.int u), .val (.int r), .val (.long f), .second, .val (.int (2 : Int32)), .val (.ref b1)] [(.int (u.toInt8.toInt32)), (.int (5 : Int32)), (.ref b1)])) (fun _ k => XS.i2b X44.here hx rfl (hb hby at_134) rfl k) ?_
    obtain ⟨cl45, Ar45, q45, S45, N_45, H45, G45⟩ := V44
    have hin45 : ¬ ((5 : Int32) < 0 ∨ cl45.slots.size ≤ ((5 : Int32)).toNatClampNeg) := inb_of S45 ⟨by decide, by decide⟩
    obtain ⟨T46, h46, X46, e46, W46, st46⟩ := stB X44 hx hZ e44 Ar45 (j := (5 : Int32)) hin45 (g := (mkF m 135 #[.val (.int u), .val (.int r), .val (.long f), .second, .val (.int (2 : Int32)), .val (.ref b1)] [(.int (u.toInt8.toInt32)), (.int (5 : Int32)), (.ref b1)])) rfl rfl (hb hby at_135)
    have V46 : Arv Z h46 b1 k1 .byte (8 : Int32) [(.int (nar .byte ((f.toInt32).toInt8.toInt32))), (.int (nar .byte ((((f.toUInt64 >>> ((8 : Int32) &&& 0x3f).toInt64.toUInt64).toInt64).toInt32).toInt8.toInt32))), (.int (nar .byte (((u.toUInt32 >>> ((24 : Int32) &&& 31).toUInt32).toInt32).toInt8.toInt32))), (.int (nar .byte (((u.toUInt32 >>> ((16 : Int32) &&& 31).toUInt32).toInt32).toInt8.toInt32))), (.int (nar .byte (((u.toUInt32 >>> ((8 : Int32) &&& 31).toUInt32).toInt32).toInt8.toInt32))), (.int (nar .byte (u.toInt8.toInt32))), (.int (nar .byte ((((f.toUInt64 >>> ((48 : Int32) &&& 0x3f).toInt64.toUInt64).toInt64).toInt32).toInt8.toInt32))), (.int (nar .byte ((((f.toUInt64 >>> ((56 : Int32) &&& 0x3f).toInt64.toUInt64).toInt64).toInt32).toInt8.toInt32)))] (.int (0 : Int32)) := Arv.set Ar45 q45 S45 N_45 H45 G45 (fits_nar_byte _) W46 5 rfl (Nat.le_of_ble_eq_true rfl)
    have K46 : Keep h0 h46 [] := Keep.wr K44 W46 (Or.inr sz_b1)
    have N46 := Fr.snoc X46 N44 g_b1
    refine own_by (T' := T46) (g' := (mkF m 136 #[.val (.int u), .val (.int r), .val (.long f), .second, .val (.int (2 : Int32)), .val (.ref b1)] [])) (fun _ k => st46 _ k) ?_
    refine own_by (T' := T46) (g' := (mkF m 138 #[.val (.int u), .val (.int r), .val (.long f), .second, .val (.int (2 : Int32)), .val (.ref b1)] [(.ref b1)])) (fun _ k => XS.aload X46.here hx rfl (hb hby at_136) rfl rfl k) ?_
    refine own_by (T' := T46) (g' := (mkF m 140 #[.val (.int u), .val (.int r), .val (.long f), .second, .val (.int (2 : Int32)), .val (.ref b1)] [(.int (2 : Int32)), (.ref b1)])) (fun _ k => XS.iload X46.here hx rfl (hb hby at_138) rfl k) ?_
    obtain ⟨cl47, Ar47, q47, S47, N_47, H47, G47⟩ := V46
    have hin47_0 : ¬ ((2 : Int32) < 0 ∨ cl47.slots.size ≤ ((2 : Int32)).toNatClampNeg) := inb_of S47 ⟨by decide, by decide⟩
    have hin47_1 : ¬ (((2 : Int32) + (1 : Int32)) < 0 ∨ cl47.slots.size ≤ (((2 : Int32) + (1 : Int32))).toNatClampNeg) := inb_of S47 ⟨by decide, by decide⟩
    have hin47_2 : ¬ (((2 : Int32) + (2 : Int32)) < 0 ∨ cl47.slots.size ≤ (((2 : Int32) + (2 : Int32))).toNatClampNeg) := inb_of S47 ⟨by decide, by decide⟩
    have hin47_3 : ¬ (((2 : Int32) + (3 : Int32)) < 0 ∨ cl47.slots.size ≤ (((2 : Int32) + (3 : Int32))).toNatClampNeg) := inb_of S47 ⟨by decide, by decide⟩
    obtain ⟨_, _, ⟨T48, L48, k48, n48⟩, -, X48, ⟨Lc48, hQ48, l48, y48, z48⟩, st48⟩ := Jvm.LawKit.callS X46 hx (y := (⟨"com/example/onceward/onceward/journal/BigEndian", "intAt", "([BI)I"⟩ : MethodName)) hown (mvT hZ (hw _ (List.mem_of_getElem? (i := 2) rfl))) (mvT hZ (hw _ (List.mem_of_getElem? (i := 3) rfl))) (mvT hZ (hw _ (List.mem_of_getElem? (i := 4) rfl))) (mvT hZ (hw _ (List.mem_of_getElem? (i := 5) rfl))) (by decide) (backOf (W := 0) (rm1 l Z a0 hw [] b1 (2 : Int32) cl47 (nar .byte (((u.toUInt32 >>> ((24 : Int32) &&& 31).toUInt32).toInt32).toInt8.toInt32)) (nar .byte (((u.toUInt32 >>> ((16 : Int32) &&& 31).toUInt32).toInt32).toInt8.toInt32)) (nar .byte (((u.toUInt32 >>> ((8 : Int32) &&& 31).toUInt32).toInt32).toInt8.toInt32)) (nar .byte (u.toInt8.toInt32)) h46 n0 (Nat.le_trans (Nat.le_trans (Nat.le_trans (Nat.le_trans (Nat.le_trans (Nat.le_trans (Nat.le_trans (Nat.le_trans (Nat.le_trans (Nat.le_trans (Nat.le_trans (Nat.le_trans (Nat.le_trans Z0 E1.1) (Keep.of_wr W3).1) (Keep.of_wr W5).1) (Keep.of_wr W7).1) (Keep.of_wr W9).1) (Keep.of_wr W11).1) (Keep.of_wr W13).1) (Keep.of_wr W15).1) (Keep.of_wr W17).1) (Keep.of_wr W40).1) (Keep.of_wr W42).1) (Keep.of_wr W44).1) (Keep.of_wr W46).1) Ar47 hin47_0 hin47_1 hin47_2 hin47_3 (Has.at H47 hin47_0 rfl) (Has.at H47 hin47_1 rfl) (Has.at H47 hin47_2 rfl) (Has.at H47 hin47_3 rfl)) hZ (hw _ (List.mem_of_getElem? (i := 5) rfl)) (hw _ (List.mem_of_getElem? (i := 4) rfl)) (by decide) (by decide)) (g := (mkF m 140 #[.val (.int u), .val (.int r), .val (.long f), .second, .val (.int (2 : Int32)), .val (.ref b1)] [(.int (2 : Int32)), (.ref b1)])) rfl (by rw [hml]; rfl) (argsL := [(.ref b1), (.int (2 : Int32))]) (rest := []) (lenOf pd_0 rfl) rfl (by show 2 * 0 + _ ≤ _; exact Nat.le_of_eq rfl) (hb hby at_140) (fun _ _ => ⟨rfl, e46, (by decide : (0 + 1) + 0 ≤ _), (by decide : (0 + 8) + 0 ≤ _)⟩)
    dsimp only [Pt.U, Pt.locs, Pt.cells, Pt.slots] at X48 l48 y48 z48 st48 hQ48
    subst l48 y48 z48
    obtain ⟨rfl, N48q, e48⟩ := hQ48
    have N48 := Fr.app N46 N48q
    refine own_by (T' := T48) (g' := (mkF m 143 #[.val (.int u), .val (.int r), .val (.long f), .second, .val (.int (2 : Int32)), .val (.ref b1)] [(.int (own_be (nar .byte (((u.toUInt32 >>> ((24 : Int32) &&& 31).toUInt32).toInt32).toInt8.toInt32)) (nar .byte (((u.toUInt32 >>> ((16 : Int32) &&& 31).toUInt32).toInt32).toInt8.toInt32)) (nar .byte (((u.toUInt32 >>> ((8 : Int32) &&& 31).toUInt32).toInt32).toInt8.toInt32)) (nar .byte (u.toInt8.toInt32))))])) (fun _ k => st48 _ k) ?_
    refine own_by (T' := T48) (g' := (mkF m 144 #[.val (.int u), .val (.int r), .val (.long f), .second, .val (.int (2 : Int32)), .val (.ref b1)] [(.int u), (.int (own_be (nar .byte (((u.toUInt32 >>> ((24 : Int32) &&& 31).toUInt32).toInt32).toInt8.toInt32)) (nar .byte (((u.toUInt32 >>> ((16 : Int32) &&& 31).toUInt32).toInt32).toInt8.toInt32)) (nar .byte (((u.toUInt32 >>> ((8 : Int32) &&& 31).toUInt32).toInt32).toInt8.toInt32)) (nar .byte (u.toInt8.toInt32))))])) (fun _ k => XS.iloadN X48.here hx rfl (hb hby at_143) rfl k) ?_
    refine own_by (T' := T48) (g' := (mkF m 147 #[.val (.int u), .val (.int r), .val (.long f), .second, .val (.int (2 : Int32)), .val (.ref b1)] [])) (fun _ k => XS.icmpNo X48.here hx rfl (hb hby at_144) rfl (teq (own_bytes u)).2 k) ?_
    refine own_by (T' := T48) (g' := (mkF m 148 #[.val (.int u), .val (.int r), .val (.long f), .second, .val (.int (2 : Int32)), .val (.ref b1)] [(.int (1 : Int32))])) (fun _ k => XS.iconst X48.here hx rfl (hb hby at_147) k) ?_
    refine own_by (T' := T48) (g' := (mkF m 152 #[.val (.int u), .val (.int r), .val (.long f), .second, .val (.int (2 : Int32)), .val (.ref b1)] [(.int (1 : Int32))])) (fun _ k => XS.goto X48.here hx rfl (pc0 := 148) (pc' := 152) rfl (hb hby at_148) (by decide) (by decide) k) ?_
    refine own_ret X48 hlk (v := some (.int (1 : Int32))) (fun h => by rw [Bd.returns] at h; cases h) (fun fs hr => retN X48 hx (t := .boolean) Bd.returns (by simp) (hb hby at_152) hr) ?_ (by decide) (by decide)
    rw [e48]
    exact ⟨rfl, N48⟩
  · skip
    rw [hq18]
    refine own_by (T' := T17) (g' := (mkF m 95 #[.val (.int u), .val (.int r), .val (.long f), .second, .val (.int (3 : Int32)), .val (.ref b1)] [(.ref b1)])) (fun _ k => XS.aload X17.here hx rfl (hb hby at_93) rfl rfl k) ?_
    refine own_by (T' := T17) (g' := (mkF m 97 #[.val (.int u), .val (.int r), .val (.long f), .second, .val (.int (3 : Int32)), .val (.ref b1)] [(.int (3 : Int32)), (.ref b1)])) (fun _ k => XS.iload X17.here hx rfl (hb hby at_95) rfl k) ?_
    refine own_by (T' := T17) (g' := (mkF m 98 #[.val (.int u), .val (.int r), .val (.long f), .second, .val (.int (3 : Int32)), .val (.ref b1)] [(.int u), (.int (3 : Int32)), (.ref b1)])) (fun _ k => XS.iloadN X17.here hx rfl (hb hby at_97) rfl k) ?_
    refine own_by (T' := T17) (g' := (mkF m 100 #[.val (.int u), .val (.int r), .val (.long f), .second, .val (.int (3 : Int32)), .val (.ref b1)] [(.int (24 : Int32)), (.int u), (.int (3 : Int32)), (.ref b1)])) (fun _ k => XS.bipush X17.here hx rfl (hb hby at_98) k) ?_
    refine own_by (T' := T17) (g' := (mkF m 101 #[.val (.int u), .val (.int r), .val (.long f), .second, .val (.int (3 : Int32)), .val (.ref b1)] [(.int ((u.toUInt32 >>> ((24 : Int32) &&& 31).toUInt32).toInt32)), (.int (3 : Int32)), (.ref b1)])) (fun _ k => XS.iushr X17.here hx rfl (hb hby at_100) rfl k) ?_
    refine own_by (T' := T17) (g' := (mkF m 102 #[.val (.int u), .val (.int r), .val (.long f), .second, .val (.int (3 : Int32)), .val (.ref b1)] [(.int (((u.toUInt32 >>> ((24 : Int32) &&& 31).toUInt32).toInt32).toInt8.toInt32)), (.int (3 : Int32)), (.ref b1)])) (fun _ k => XS.i2b X17.here hx rfl (hb hby at_101) rfl k) ?_
    obtain ⟨cl49, Ar49, q49, S49, N_49, H49, G49⟩ := V17
    have hin49 : ¬ ((3 : Int32) < 0 ∨ cl49.slots.size ≤ ((3 : Int32)).toNatClampNeg) := inb_of S49 ⟨by decide, by decide⟩
    obtain ⟨T50, h50, X50, e50, W50, st50⟩ := stB X17 hx hZ e17 Ar49 (j := (3 : Int32)) hin49 (g := (mkF m 102 #[.val (.int u), .val (.int r), .val (.long f), .second, .val (.int (3 : Int32)), .val (.ref b1)] [(.int (((u.toUInt32 >>> ((24 : Int32) &&& 31).toUInt32).toInt32).toInt8.toInt32)), (.int (3 : Int32)), (.ref b1)])) rfl rfl (hb hby at_102)
    have V50 : Arv Z h50 b1 k1 .byte (8 : Int32) [(.int (nar .byte ((f.toInt32).toInt8.toInt32))), (.int (nar .byte ((((f.toUInt64 >>> ((8 : Int32) &&& 0x3f).toInt64.toUInt64).toInt64).toInt32).toInt8.toInt32))), (.int (nar .byte ((((f.toUInt64 >>> ((16 : Int32) &&& 0x3f).toInt64.toUInt64).toInt64).toInt32).toInt8.toInt32))), (.int (nar .byte (((u.toUInt32 >>> ((24 : Int32) &&& 31).toUInt32).toInt32).toInt8.toInt32))), (.int (nar .byte ((((f.toUInt64 >>> ((32 : Int32) &&& 0x3f).toInt64.toUInt64).toInt64).toInt32).toInt8.toInt32))), (.int (nar .byte ((((f.toUInt64 >>> ((40 : Int32) &&& 0x3f).toInt64.toUInt64).toInt64).toInt32).toInt8.toInt32))), (.int (nar .byte ((((f.toUInt64 >>> ((48 : Int32) &&& 0x3f).toInt64.toUInt64).toInt64).toInt32).toInt8.toInt32))), (.int (nar .byte ((((f.toUInt64 >>> ((56 : Int32) &&& 0x3f).toInt64.toUInt64).toInt64).toInt32).toInt8.toInt32)))] (.int (0 : Int32)) := Arv.set Ar49 q49 S49 N_49 H49 G49 (fits_nar_byte _) W50 3 rfl (Nat.le_of_ble_eq_true rfl)
    have K50 : Keep h0 h50 [] := Keep.wr K17 W50 (Or.inr sz_b1)
    have N50 := Fr.snoc X50 N17 g_b1
    refine own_by (T' := T50) (g' := (mkF m 103 #[.val (.int u), .val (.int r), .val (.long f), .second, .val (.int (3 : Int32)), .val (.ref b1)] [])) (fun _ k => st50 _ k) ?_
    refine own_by (T' := T50) (g' := (mkF m 105 #[.val (.int u), .val (.int r), .val (.long f), .second, .val (.int (3 : Int32)), .val (.ref b1)] [(.ref b1)])) (fun _ k => XS.aload X50.here hx rfl (hb hby at_103) rfl rfl k) ?_
    refine own_by (T' := T50) (g' := (mkF m 107 #[.val (.int u), .val (.int r), .val (.long f), .second, .val (.int (3 : Int32)), .val (.ref b1)] [(.int (3 : Int32)), (.ref b1)])) (fun _ k => XS.iload X50.here hx rfl (hb hby at_105) rfl k) ?_
    refine own_by (T' := T50) (g' := (mkF m 108 #[.val (.int u), .val (.int r), .val (.long f), .second, .val (.int (3 : Int32)), .val (.ref b1)] [(.int (1 : Int32)), (.int (3 : Int32)), (.ref b1)])) (fun _ k => XS.iconst X50.here hx rfl (hb hby at_107) k) ?_
    refine own_by (T' := T50) (g' := (mkF m 109 #[.val (.int u), .val (.int r), .val (.long f), .second, .val (.int (3 : Int32)), .val (.ref b1)] [(.int (4 : Int32)), (.ref b1)])) (fun _ k => XS.iadd X50.here hx rfl (hb hby at_108) rfl k) ?_
    refine own_by (T' := T50) (g' := (mkF m 110 #[.val (.int u), .val (.int r), .val (.long f), .second, .val (.int (3 : Int32)), .val (.ref b1)] [(.int u), (.int (4 : Int32)), (.ref b1)])) (fun _ k => XS.iloadN X50.here hx rfl (hb hby at_109) rfl k) ?_
    refine own_by (T' := T50) (g' := (mkF m 112 #[.val (.int u), .val (.int r), .val (.long f), .second, .val (.int (3 : Int32)), .val (.ref b1)] [(.int (16 : Int32)), (.int u), (.int (4 : Int32)), (.ref b1)])) (fun _ k => XS.bipush X50.here hx rfl (hb hby at_110) k) ?_
    refine own_by (T' := T50) (g' := (mkF m 113 #[.val (.int u), .val (.int r), .val (.long f), .second, .val (.int (3 : Int32)), .val (.ref b1)] [(.int ((u.toUInt32 >>> ((16 : Int32) &&& 31).toUInt32).toInt32)), (.int (4 : Int32)), (.ref b1)])) (fun _ k => XS.iushr X50.here hx rfl (hb hby at_112) rfl k) ?_
    refine own_by (T' := T50) (g' := (mkF m 114 #[.val (.int u), .val (.int r), .val (.long f), .second, .val (.int (3 : Int32)), .val (.ref b1)] [(.int (((u.toUInt32 >>> ((16 : Int32) &&& 31).toUInt32).toInt32).toInt8.toInt32)), (.int (4 : Int32)), (.ref b1)])) (fun _ k => XS.i2b X50.here hx rfl (hb hby at_113) rfl k) ?_
    obtain ⟨cl51, Ar51, q51, S51, N_51, H51, G51⟩ := V50
    have hin51 : ¬ ((4 : Int32) < 0 ∨ cl51.slots.size ≤ ((4 : Int32)).toNatClampNeg) := inb_of S51 ⟨by decide, by decide⟩
    obtain ⟨T52, h52, X52, e52, W52, st52⟩ := stB X50 hx hZ e50 Ar51 (j := (4 : Int32)) hin51 (g := (mkF m 114 #[.val (.int u), .val (.int r), .val (.long f), .second, .val (.int (3 : Int32)), .val (.ref b1)] [(.int (((u.toUInt32 >>> ((16 : Int32) &&& 31).toUInt32).toInt32).toInt8.toInt32)), (.int (4 : Int32)), (.ref b1)])) rfl rfl (hb hby at_114)
    have V52 : Arv Z h52 b1 k1 .byte (8 : Int32) [(.int (nar .byte ((f.toInt32).toInt8.toInt32))), (.int (nar .byte ((((f.toUInt64 >>> ((8 : Int32) &&& 0x3f).toInt64.toUInt64).toInt64).toInt32).toInt8.toInt32))), (.int (nar .byte ((((f.toUInt64 >>> ((16 : Int32) &&& 0x3f).toInt64.toUInt64).toInt64).toInt32).toInt8.toInt32))), (.int (nar .byte (((u.toUInt32 >>> ((24 : Int32) &&& 31).toUInt32).toInt32).toInt8.toInt32))), (.int (nar .byte (((u.toUInt32 >>> ((16 : Int32) &&& 31).toUInt32).toInt32).toInt8.toInt32))), (.int (nar .byte ((((f.toUInt64 >>> ((40 : Int32) &&& 0x3f).toInt64.toUInt64).toInt64).toInt32).toInt8.toInt32))), (.int (nar .byte ((((f.toUInt64 >>> ((48 : Int32) &&& 0x3f).toInt64.toUInt64).toInt64).toInt32).toInt8.toInt32))), (.int (nar .byte ((((f.toUInt64 >>> ((56 : Int32) &&& 0x3f).toInt64.toUInt64).toInt64).toInt32).toInt8.toInt32)))] (.int (0 : Int32)) := Arv.set Ar51 q51 S51 N_51 H51 G51 (fits_nar_byte _) W52 4 rfl (Nat.le_of_ble_eq_true rfl)
    have K52 : Keep h0 h52 [] := Keep.wr K50 W52 (Or.inr sz_b1)
    have N52 := Fr.snoc X52 N50 g_b1
    refine own_by (T' := T52) (g' := (mkF m 115 #[.val (.int u), .val (.int r), .val (.long f), .second, .val (.int (3 : Int32)), .val (.ref b1)] [])) (fun _ k => st52 _ k) ?_
    refine own_by (T' := T52) (g' := (mkF m 117 #[.val (.int u), .val (.int r), .val (.long f), .second, .val (.int (3 : Int32)), .val (.ref b1)] [(.ref b1)])) (fun _ k => XS.aload X52.here hx rfl (hb hby at_115) rfl rfl k) ?_
    refine own_by (T' := T52) (g' := (mkF m 119 #[.val (.int u), .val (.int r), .val (.long f), .second, .val (.int (3 : Int32)), .val (.ref b1)] [(.int (3 : Int32)), (.ref b1)])) (fun _ k => XS.iload X52.here hx rfl (hb hby at_117) rfl k) ?_
    refine own_by (T' := T52) (g' := (mkF m 120 #[.val (.int u), .val (.int r), .val (.long f), .second, .val (.int (3 : Int32)), .val (.ref b1)] [(.int (2 : Int32)), (.int (3 : Int32)), (.ref b1)])) (fun _ k => XS.iconst X52.here hx rfl (hb hby at_119) k) ?_
    refine own_by (T' := T52) (g' := (mkF m 121 #[.val (.int u), .val (.int r), .val (.long f), .second, .val (.int (3 : Int32)), .val (.ref b1)] [(.int (5 : Int32)), (.ref b1)])) (fun _ k => XS.iadd X52.here hx rfl (hb hby at_120) rfl k) ?_
    refine own_by (T' := T52) (g' := (mkF m 122 #[.val (.int u), .val (.int r), .val (.long f), .second, .val (.int (3 : Int32)), .val (.ref b1)] [(.int u), (.int (5 : Int32)), (.ref b1)])) (fun _ k => XS.iloadN X52.here hx rfl (hb hby at_121) rfl k) ?_
    refine own_by (T' := T52) (g' := (mkF m 124 #[.val (.int u), .val (.int r), .val (.long f), .second, .val (.int (3 : Int32)), .val (.ref b1)] [(.int (8 : Int32)), (.int u), (.int (5 : Int32)), (.ref b1)])) (fun _ k => XS.bipush X52.here hx rfl (hb hby at_122) k) ?_
    refine own_by (T' := T52) (g' := (mkF m 125 #[.val (.int u), .val (.int r), .val (.long f), .second, .val (.int (3 : Int32)), .val (.ref b1)] [(.int ((u.toUInt32 >>> ((8 : Int32) &&& 31).toUInt32).toInt32)), (.int (5 : Int32)), (.ref b1)])) (fun _ k => XS.iushr X52.here hx rfl (hb hby at_124) rfl k) ?_
    refine own_by (T' := T52) (g' := (mkF m 126 #[.val (.int u), .val (.int r), .val (.long f), .second, .val (.int (3 : Int32)), .val (.ref b1)] [(.int (((u.toUInt32 >>> ((8 : Int32) &&& 31).toUInt32).toInt32).toInt8.toInt32)), (.int (5 : Int32)), (.ref b1)])) (fun _ k => XS.i2b X52.here hx rfl (hb hby at_125) rfl k) ?_
    obtain ⟨cl53, Ar53, q53, S53, N_53, H53, G53⟩ := V52
    have hin53 : ¬ ((5 : Int32) < 0 ∨ cl53.slots.size ≤ ((5 : Int32)).toNatClampNeg) := inb_of S53 ⟨by decide, by decide⟩
    obtain ⟨T54, h54, X54, e54, W54, st54⟩ := stB X52 hx hZ e52 Ar53 (j := (5 : Int32)) hin53 (g := (mkF m 126 #[.val (.int u), .val (.int r), .val (.long f), .second, .val (.int (3 : Int32)), .val (.ref b1)] [(.int (((u.toUInt32 >>> ((8 : Int32) &&& 31).toUInt32).toInt32).toInt8.toInt32)), (.int (5 : Int32)), (.ref b1)])) rfl rfl (hb hby at_126)
    have V54 : Arv Z h54 b1 k1 .byte (8 : Int32) [(.int (nar .byte ((f.toInt32).toInt8.toInt32))), (.int (nar .byte ((((f.toUInt64 >>> ((8 : Int32) &&& 0x3f).toInt64.toUInt64).toInt64).toInt32).toInt8.toInt32))), (.int (nar .byte ((((f.toUInt64 >>> ((16 : Int32) &&& 0x3f).toInt64.toUInt64).toInt64).toInt32).toInt8.toInt32))), (.int (nar .byte (((u.toUInt32 >>> ((24 : Int32) &&& 31).toUInt32).toInt32).toInt8.toInt32))), (.int (nar .byte (((u.toUInt32 >>> ((16 : Int32) &&& 31).toUInt32).toInt32).toInt8.toInt32))), (.int (nar .byte (((u.toUInt32 >>> ((8 : Int32) &&& 31).toUInt32).toInt32).toInt8.toInt32))), (.int (nar .byte ((((f.toUInt64 >>> ((48 : Int32) &&& 0x3f).toInt64.toUInt64).toInt64).toInt32).toInt8.toInt32))), (.int (nar .byte ((((f.toUInt64 >>> ((56 : Int32) &&& 0x3f).toInt64.toUInt64).toInt64).toInt32).toInt8.toInt32)))] (.int (0 : Int32)) := Arv.set Ar53 q53 S53 N_53 H53 G53 (fits_nar_byte _) W54 5 rfl (Nat.le_of_ble_eq_true rfl)
    have K54 : Keep h0 h54 [] := Keep.wr K52 W54 (Or.inr sz_b1)
    have N54 := Fr.snoc X54 N52 g_b1
    refine own_by (T' := T54) (g' := (mkF m 127 #[.val (.int u), .val (.int r), .val (.long f), .second, .val (.int (3 : Int32)), .val (.ref b1)] [])) (fun _ k => st54 _ k) ?_
    refine own_by (T' := T54) (g' := (mkF m 129 #[.val (.int u), .val (.int r), .val (.long f), .second, .val (.int (3 : Int32)), .val (.ref b1)] [(.ref b1)])) (fun _ k => XS.aload X54.here hx rfl (hb hby at_127) rfl rfl k) ?_
    refine own_by (T' := T54) (g' := (mkF m 131 #[.val (.int u), .val (.int r), .val (.long f), .second, .val (.int (3 : Int32)), .val (.ref b1)] [(.int (3 : Int32)), (.ref b1)])) (fun _ k => XS.iload X54.here hx rfl (hb hby at_129) rfl k) ?_
    refine own_by (T' := T54) (g' := (mkF m 132 #[.val (.int u), .val (.int r), .val (.long f), .second, .val (.int (3 : Int32)), .val (.ref b1)] [(.int (3 : Int32)), (.int (3 : Int32)), (.ref b1)])) (fun _ k => XS.iconst X54.here hx rfl (hb hby at_131) k) ?_
    refine own_by (T' := T54) (g' := (mkF m 133 #[.val (.int u), .val (.int r), .val (.long f), .second, .val (.int (3 : Int32)), .val (.ref b1)] [(.int (6 : Int32)), (.ref b1)])) (fun _ k => XS.iadd X54.here hx rfl (hb hby at_132) rfl k) ?_
    refine own_by (T' := T54) (g' := (mkF m 134 #[.val (.int u), .val (.int r), .val (.long f), .second, .val (.int (3 : Int32)), .val (.ref b1)] [(.int u), (.int (6 : Int32)), (.ref b1)])) (fun _ k => XS.iloadN X54.here hx rfl (hb hby at_133) rfl k) ?_
    refine own_by (T' := T54) (g' := (mkF m 135 #[.val (.int u), .val (.int r), .val (.long f), .second, .val (.int (3 : Int32)), .val (.ref b1)] [(.int (u.toInt8.toInt32)), (.int (6 : Int32)), (.ref b1)])) (fun _ k => XS.i2b X54.here hx rfl (hb hby at_134) rfl k) ?_
    obtain ⟨cl55, Ar55, q55, S55, N_55, H55, G55⟩ := V54
    have hin55 : ¬ ((6 : Int32) < 0 ∨ cl55.slots.size ≤ ((6 : Int32)).toNatClampNeg) := inb_of S55 ⟨by decide, by decide⟩
    obtain ⟨T56, h56, X56, e56, W56, st56⟩ := stB X54 hx hZ e54 Ar55 (j := (6 : Int32)) hin55 (g := (mkF m 135 #[.val (.int u), .val (.int r), .val (.long f), .second, .val (.int (3 : Int32)), .val (.ref b1)] [(.int (u.toInt8.toInt32)), (.int (6 : Int32)), (.ref b1)])) rfl rfl (hb hby at_135)
    have V56 : Arv Z h56 b1 k1 .byte (8 : Int32) [(.int (nar .byte ((f.toInt32).toInt8.toInt32))), (.int (nar .byte ((((f.toUInt64 >>> ((8 : Int32) &&& 0x3f).toInt64.toUInt64).toInt64).toInt32).toInt8.toInt32))), (.int (nar .byte ((((f.toUInt64 >>> ((16 : Int32) &&& 0x3f).toInt64.toUInt64).toInt64).toInt32).toInt8.toInt32))), (.int (nar .byte (((u.toUInt32 >>> ((24 : Int32) &&& 31).toUInt32).toInt32).toInt8.toInt32))), (.int (nar .byte (((u.toUInt32 >>> ((16 : Int32) &&& 31).toUInt32).toInt32).toInt8.toInt32))), (.int (nar .byte (((u.toUInt32 >>> ((8 : Int32) &&& 31).toUInt32).toInt32).toInt8.toInt32))), (.int (nar .byte (u.toInt8.toInt32))), (.int (nar .byte ((((f.toUInt64 >>> ((56 : Int32) &&& 0x3f).toInt64.toUInt64).toInt64).toInt32).toInt8.toInt32)))] (.int (0 : Int32)) := Arv.set Ar55 q55 S55 N_55 H55 G55 (fits_nar_byte _) W56 6 rfl (Nat.le_of_ble_eq_true rfl)
    have K56 : Keep h0 h56 [] := Keep.wr K54 W56 (Or.inr sz_b1)
    have N56 := Fr.snoc X56 N54 g_b1
    refine own_by (T' := T56) (g' := (mkF m 136 #[.val (.int u), .val (.int r), .val (.long f), .second, .val (.int (3 : Int32)), .val (.ref b1)] [])) (fun _ k => st56 _ k) ?_
    refine own_by (T' := T56) (g' := (mkF m 138 #[.val (.int u), .val (.int r), .val (.long f), .second, .val (.int (3 : Int32)), .val (.ref b1)] [(.ref b1)])) (fun _ k => XS.aload X56.here hx rfl (hb hby at_136) rfl rfl k) ?_
    refine own_by (T' := T56) (g' := (mkF m 140 #[.val (.int u), .val (.int r), .val (.long f), .second, .val (.int (3 : Int32)), .val (.ref b1)] [(.int (3 : Int32)), (.ref b1)])) (fun _ k => XS.iload X56.here hx rfl (hb hby at_138) rfl k) ?_
    obtain ⟨cl57, Ar57, q57, S57, N_57, H57, G57⟩ := V56
    have hin57_0 : ¬ ((3 : Int32) < 0 ∨ cl57.slots.size ≤ ((3 : Int32)).toNatClampNeg) := inb_of S57 ⟨by decide, by decide⟩
    have hin57_1 : ¬ (((3 : Int32) + (1 : Int32)) < 0 ∨ cl57.slots.size ≤ (((3 : Int32) + (1 : Int32))).toNatClampNeg) := inb_of S57 ⟨by decide, by decide⟩
    have hin57_2 : ¬ (((3 : Int32) + (2 : Int32)) < 0 ∨ cl57.slots.size ≤ (((3 : Int32) + (2 : Int32))).toNatClampNeg) := inb_of S57 ⟨by decide, by decide⟩
    have hin57_3 : ¬ (((3 : Int32) + (3 : Int32)) < 0 ∨ cl57.slots.size ≤ (((3 : Int32) + (3 : Int32))).toNatClampNeg) := inb_of S57 ⟨by decide, by decide⟩
    obtain ⟨_, _, ⟨T58, L58, k58, n58⟩, -, X58, ⟨Lc58, hQ58, l58, y58, z58⟩, st58⟩ := Jvm.LawKit.callS X56 hx (y := (⟨"com/example/onceward/onceward/journal/BigEndian", "intAt", "([BI)I"⟩ : MethodName)) hown (mvT hZ (hw _ (List.mem_of_getElem? (i := 2) rfl))) (mvT hZ (hw _ (List.mem_of_getElem? (i := 3) rfl))) (mvT hZ (hw _ (List.mem_of_getElem? (i := 4) rfl))) (mvT hZ (hw _ (List.mem_of_getElem? (i := 5) rfl))) (by decide) (backOf (W := 0) (rm1 l Z a0 hw [] b1 (3 : Int32) cl57 (nar .byte (((u.toUInt32 >>> ((24 : Int32) &&& 31).toUInt32).toInt32).toInt8.toInt32)) (nar .byte (((u.toUInt32 >>> ((16 : Int32) &&& 31).toUInt32).toInt32).toInt8.toInt32)) (nar .byte (((u.toUInt32 >>> ((8 : Int32) &&& 31).toUInt32).toInt32).toInt8.toInt32)) (nar .byte (u.toInt8.toInt32)) h56 n0 (Nat.le_trans (Nat.le_trans (Nat.le_trans (Nat.le_trans (Nat.le_trans (Nat.le_trans (Nat.le_trans (Nat.le_trans (Nat.le_trans (Nat.le_trans (Nat.le_trans (Nat.le_trans (Nat.le_trans Z0 E1.1) (Keep.of_wr W3).1) (Keep.of_wr W5).1) (Keep.of_wr W7).1) (Keep.of_wr W9).1) (Keep.of_wr W11).1) (Keep.of_wr W13).1) (Keep.of_wr W15).1) (Keep.of_wr W17).1) (Keep.of_wr W50).1) (Keep.of_wr W52).1) (Keep.of_wr W54).1) (Keep.of_wr W56).1) Ar57 hin57_0 hin57_1 hin57_2 hin57_3 (Has.at H57 hin57_0 rfl) (Has.at H57 hin57_1 rfl) (Has.at H57 hin57_2 rfl) (Has.at H57 hin57_3 rfl)) hZ (hw _ (List.mem_of_getElem? (i := 5) rfl)) (hw _ (List.mem_of_getElem? (i := 4) rfl)) (by decide) (by decide)) (g := (mkF m 140 #[.val (.int u), .val (.int r), .val (.long f), .second, .val (.int (3 : Int32)), .val (.ref b1)] [(.int (3 : Int32)), (.ref b1)])) rfl (by rw [hml]; rfl) (argsL := [(.ref b1), (.int (3 : Int32))]) (rest := []) (lenOf pd_0 rfl) rfl (by show 2 * 0 + _ ≤ _; exact Nat.le_of_eq rfl) (hb hby at_140) (fun _ _ => ⟨rfl, e56, (by decide : (0 + 1) + 0 ≤ _), (by decide : (0 + 8) + 0 ≤ _)⟩)
    dsimp only [Pt.U, Pt.locs, Pt.cells, Pt.slots] at X58 l58 y58 z58 st58 hQ58
    subst l58 y58 z58
    obtain ⟨rfl, N58q, e58⟩ := hQ58
    have N58 := Fr.app N56 N58q
    refine own_by (T' := T58) (g' := (mkF m 143 #[.val (.int u), .val (.int r), .val (.long f), .second, .val (.int (3 : Int32)), .val (.ref b1)] [(.int (own_be (nar .byte (((u.toUInt32 >>> ((24 : Int32) &&& 31).toUInt32).toInt32).toInt8.toInt32)) (nar .byte (((u.toUInt32 >>> ((16 : Int32) &&& 31).toUInt32).toInt32).toInt8.toInt32)) (nar .byte (((u.toUInt32 >>> ((8 : Int32) &&& 31).toUInt32).toInt32).toInt8.toInt32)) (nar .byte (u.toInt8.toInt32))))])) (fun _ k => st58 _ k) ?_
    refine own_by (T' := T58) (g' := (mkF m 144 #[.val (.int u), .val (.int r), .val (.long f), .second, .val (.int (3 : Int32)), .val (.ref b1)] [(.int u), (.int (own_be (nar .byte (((u.toUInt32 >>> ((24 : Int32) &&& 31).toUInt32).toInt32).toInt8.toInt32)) (nar .byte (((u.toUInt32 >>> ((16 : Int32) &&& 31).toUInt32).toInt32).toInt8.toInt32)) (nar .byte (((u.toUInt32 >>> ((8 : Int32) &&& 31).toUInt32).toInt32).toInt8.toInt32)) (nar .byte (u.toInt8.toInt32))))])) (fun _ k => XS.iloadN X58.here hx rfl (hb hby at_143) rfl k) ?_
    refine own_by (T' := T58) (g' := (mkF m 147 #[.val (.int u), .val (.int r), .val (.long f), .second, .val (.int (3 : Int32)), .val (.ref b1)] [])) (fun _ k => XS.icmpNo X58.here hx rfl (hb hby at_144) rfl (teq (own_bytes u)).2 k) ?_
    refine own_by (T' := T58) (g' := (mkF m 148 #[.val (.int u), .val (.int r), .val (.long f), .second, .val (.int (3 : Int32)), .val (.ref b1)] [(.int (1 : Int32))])) (fun _ k => XS.iconst X58.here hx rfl (hb hby at_147) k) ?_
    refine own_by (T' := T58) (g' := (mkF m 152 #[.val (.int u), .val (.int r), .val (.long f), .second, .val (.int (3 : Int32)), .val (.ref b1)] [(.int (1 : Int32))])) (fun _ k => XS.goto X58.here hx rfl (pc0 := 148) (pc' := 152) rfl (hb hby at_148) (by decide) (by decide) k) ?_
    refine own_ret X58 hlk (v := some (.int (1 : Int32))) (fun h => by rw [Bd.returns] at h; cases h) (fun fs hr => retN X58 hx (t := .boolean) Bd.returns (by simp) (hb hby at_152) hr) ?_ (by decide) (by decide)
    rw [e58]
    exact ⟨rfl, N58⟩
  · skip
    rw [hq18]
    refine own_by (T' := T17) (g' := (mkF m 95 #[.val (.int u), .val (.int r), .val (.long f), .second, .val (.int (4 : Int32)), .val (.ref b1)] [(.ref b1)])) (fun _ k => XS.aload X17.here hx rfl (hb hby at_93) rfl rfl k) ?_
    refine own_by (T' := T17) (g' := (mkF m 97 #[.val (.int u), .val (.int r), .val (.long f), .second, .val (.int (4 : Int32)), .val (.ref b1)] [(.int (4 : Int32)), (.ref b1)])) (fun _ k => XS.iload X17.here hx rfl (hb hby at_95) rfl k) ?_
    refine own_by (T' := T17) (g' := (mkF m 98 #[.val (.int u), .val (.int r), .val (.long f), .second, .val (.int (4 : Int32)), .val (.ref b1)] [(.int u), (.int (4 : Int32)), (.ref b1)])) (fun _ k => XS.iloadN X17.here hx rfl (hb hby at_97) rfl k) ?_
    refine own_by (T' := T17) (g' := (mkF m 100 #[.val (.int u), .val (.int r), .val (.long f), .second, .val (.int (4 : Int32)), .val (.ref b1)] [(.int (24 : Int32)), (.int u), (.int (4 : Int32)), (.ref b1)])) (fun _ k => XS.bipush X17.here hx rfl (hb hby at_98) k) ?_
    refine own_by (T' := T17) (g' := (mkF m 101 #[.val (.int u), .val (.int r), .val (.long f), .second, .val (.int (4 : Int32)), .val (.ref b1)] [(.int ((u.toUInt32 >>> ((24 : Int32) &&& 31).toUInt32).toInt32)), (.int (4 : Int32)), (.ref b1)])) (fun _ k => XS.iushr X17.here hx rfl (hb hby at_100) rfl k) ?_
    refine own_by (T' := T17) (g' := (mkF m 102 #[.val (.int u), .val (.int r), .val (.long f), .second, .val (.int (4 : Int32)), .val (.ref b1)] [(.int (((u.toUInt32 >>> ((24 : Int32) &&& 31).toUInt32).toInt32).toInt8.toInt32)), (.int (4 : Int32)), (.ref b1)])) (fun _ k => XS.i2b X17.here hx rfl (hb hby at_101) rfl k) ?_
    obtain ⟨cl59, Ar59, q59, S59, N_59, H59, G59⟩ := V17
    have hin59 : ¬ ((4 : Int32) < 0 ∨ cl59.slots.size ≤ ((4 : Int32)).toNatClampNeg) := inb_of S59 ⟨by decide, by decide⟩
    obtain ⟨T60, h60, X60, e60, W60, st60⟩ := stB X17 hx hZ e17 Ar59 (j := (4 : Int32)) hin59 (g := (mkF m 102 #[.val (.int u), .val (.int r), .val (.long f), .second, .val (.int (4 : Int32)), .val (.ref b1)] [(.int (((u.toUInt32 >>> ((24 : Int32) &&& 31).toUInt32).toInt32).toInt8.toInt32)), (.int (4 : Int32)), (.ref b1)])) rfl rfl (hb hby at_102)
    have V60 : Arv Z h60 b1 k1 .byte (8 : Int32) [(.int (nar .byte ((f.toInt32).toInt8.toInt32))), (.int (nar .byte ((((f.toUInt64 >>> ((8 : Int32) &&& 0x3f).toInt64.toUInt64).toInt64).toInt32).toInt8.toInt32))), (.int (nar .byte ((((f.toUInt64 >>> ((16 : Int32) &&& 0x3f).toInt64.toUInt64).toInt64).toInt32).toInt8.toInt32))), (.int (nar .byte ((((f.toUInt64 >>> ((24 : Int32) &&& 0x3f).toInt64.toUInt64).toInt64).toInt32).toInt8.toInt32))), (.int (nar .byte (((u.toUInt32 >>> ((24 : Int32) &&& 31).toUInt32).toInt32).toInt8.toInt32))), (.int (nar .byte ((((f.toUInt64 >>> ((40 : Int32) &&& 0x3f).toInt64.toUInt64).toInt64).toInt32).toInt8.toInt32))), (.int (nar .byte ((((f.toUInt64 >>> ((48 : Int32) &&& 0x3f).toInt64.toUInt64).toInt64).toInt32).toInt8.toInt32))), (.int (nar .byte ((((f.toUInt64 >>> ((56 : Int32) &&& 0x3f).toInt64.toUInt64).toInt64).toInt32).toInt8.toInt32)))] (.int (0 : Int32)) := Arv.set Ar59 q59 S59 N_59 H59 G59 (fits_nar_byte _) W60 4 rfl (Nat.le_of_ble_eq_true rfl)
    have K60 : Keep h0 h60 [] := Keep.wr K17 W60 (Or.inr sz_b1)
    have N60 := Fr.snoc X60 N17 g_b1
    refine own_by (T' := T60) (g' := (mkF m 103 #[.val (.int u), .val (.int r), .val (.long f), .second, .val (.int (4 : Int32)), .val (.ref b1)] [])) (fun _ k => st60 _ k) ?_
    refine own_by (T' := T60) (g' := (mkF m 105 #[.val (.int u), .val (.int r), .val (.long f), .second, .val (.int (4 : Int32)), .val (.ref b1)] [(.ref b1)])) (fun _ k => XS.aload X60.here hx rfl (hb hby at_103) rfl rfl k) ?_
    refine own_by (T' := T60) (g' := (mkF m 107 #[.val (.int u), .val (.int r), .val (.long f), .second, .val (.int (4 : Int32)), .val (.ref b1)] [(.int (4 : Int32)), (.ref b1)])) (fun _ k => XS.iload X60.here hx rfl (hb hby at_105) rfl k) ?_
    refine own_by (T' := T60) (g' := (mkF m 108 #[.val (.int u), .val (.int r), .val (.long f), .second, .val (.int (4 : Int32)), .val (.ref b1)] [(.int (1 : Int32)), (.int (4 : Int32)), (.ref b1)])) (fun _ k => XS.iconst X60.here hx rfl (hb hby at_107) k) ?_
    refine own_by (T' := T60) (g' := (mkF m 109 #[.val (.int u), .val (.int r), .val (.long f), .second, .val (.int (4 : Int32)), .val (.ref b1)] [(.int (5 : Int32)), (.ref b1)])) (fun _ k => XS.iadd X60.here hx rfl (hb hby at_108) rfl k) ?_
    refine own_by (T' := T60) (g' := (mkF m 110 #[.val (.int u), .val (.int r), .val (.long f), .second, .val (.int (4 : Int32)), .val (.ref b1)] [(.int u), (.int (5 : Int32)), (.ref b1)])) (fun _ k => XS.iloadN X60.here hx rfl (hb hby at_109) rfl k) ?_
    refine own_by (T' := T60) (g' := (mkF m 112 #[.val (.int u), .val (.int r), .val (.long f), .second, .val (.int (4 : Int32)), .val (.ref b1)] [(.int (16 : Int32)), (.int u), (.int (5 : Int32)), (.ref b1)])) (fun _ k => XS.bipush X60.here hx rfl (hb hby at_110) k) ?_
    refine own_by (T' := T60) (g' := (mkF m 113 #[.val (.int u), .val (.int r), .val (.long f), .second, .val (.int (4 : Int32)), .val (.ref b1)] [(.int ((u.toUInt32 >>> ((16 : Int32) &&& 31).toUInt32).toInt32)), (.int (5 : Int32)), (.ref b1)])) (fun _ k => XS.iushr X60.here hx rfl (hb hby at_112) rfl k) ?_
    refine own_by (T' := T60) (g' := (mkF m 114 #[.val (.int u), .val (.int r), .val (.long f), .second, .val (.int (4 : Int32)), .val (.ref b1)] [(.int (((u.toUInt32 >>> ((16 : Int32) &&& 31).toUInt32).toInt32).toInt8.toInt32)), (.int (5 : Int32)), (.ref b1)])) (fun _ k => XS.i2b X60.here hx rfl (hb hby at_113) rfl k) ?_
    obtain ⟨cl61, Ar61, q61, S61, N_61, H61, G61⟩ := V60
    have hin61 : ¬ ((5 : Int32) < 0 ∨ cl61.slots.size ≤ ((5 : Int32)).toNatClampNeg) := inb_of S61 ⟨by decide, by decide⟩
    obtain ⟨T62, h62, X62, e62, W62, st62⟩ := stB X60 hx hZ e60 Ar61 (j := (5 : Int32)) hin61 (g := (mkF m 114 #[.val (.int u), .val (.int r), .val (.long f), .second, .val (.int (4 : Int32)), .val (.ref b1)] [(.int (((u.toUInt32 >>> ((16 : Int32) &&& 31).toUInt32).toInt32).toInt8.toInt32)), (.int (5 : Int32)), (.ref b1)])) rfl rfl (hb hby at_114)
    have V62 : Arv Z h62 b1 k1 .byte (8 : Int32) [(.int (nar .byte ((f.toInt32).toInt8.toInt32))), (.int (nar .byte ((((f.toUInt64 >>> ((8 : Int32) &&& 0x3f).toInt64.toUInt64).toInt64).toInt32).toInt8.toInt32))), (.int (nar .byte ((((f.toUInt64 >>> ((16 : Int32) &&& 0x3f).toInt64.toUInt64).toInt64).toInt32).toInt8.toInt32))), (.int (nar .byte ((((f.toUInt64 >>> ((24 : Int32) &&& 0x3f).toInt64.toUInt64).toInt64).toInt32).toInt8.toInt32))), (.int (nar .byte (((u.toUInt32 >>> ((24 : Int32) &&& 31).toUInt32).toInt32).toInt8.toInt32))), (.int (nar .byte (((u.toUInt32 >>> ((16 : Int32) &&& 31).toUInt32).toInt32).toInt8.toInt32))), (.int (nar .byte ((((f.toUInt64 >>> ((48 : Int32) &&& 0x3f).toInt64.toUInt64).toInt64).toInt32).toInt8.toInt32))), (.int (nar .byte ((((f.toUInt64 >>> ((56 : Int32) &&& 0x3f).toInt64.toUInt64).toInt64).toInt32).toInt8.toInt32)))] (.int (0 : Int32)) := Arv.set Ar61 q61 S61 N_61 H61 G61 (fits_nar_byte _) W62 5 rfl (Nat.le_of_ble_eq_true rfl)
    have K62 : Keep h0 h62 [] := Keep.wr K60 W62 (Or.inr sz_b1)
    have N62 := Fr.snoc X62 N60 g_b1
    refine own_by (T' := T62) (g' := (mkF m 115 #[.val (.int u), .val (.int r), .val (.long f), .second, .val (.int (4 : Int32)), .val (.ref b1)] [])) (fun _ k => st62 _ k) ?_
    refine own_by (T' := T62) (g' := (mkF m 117 #[.val (.int u), .val (.int r), .val (.long f), .second, .val (.int (4 : Int32)), .val (.ref b1)] [(.ref b1)])) (fun _ k => XS.aload X62.here hx rfl (hb hby at_115) rfl rfl k) ?_
    refine own_by (T' := T62) (g' := (mkF m 119 #[.val (.int u), .val (.int r), .val (.long f), .second, .val (.int (4 : Int32)), .val (.ref b1)] [(.int (4 : Int32)), (.ref b1)])) (fun _ k => XS.iload X62.here hx rfl (hb hby at_117) rfl k) ?_
    refine own_by (T' := T62) (g' := (mkF m 120 #[.val (.int u), .val (.int r), .val (.long f), .second, .val (.int (4 : Int32)), .val (.ref b1)] [(.int (2 : Int32)), (.int (4 : Int32)), (.ref b1)])) (fun _ k => XS.iconst X62.here hx rfl (hb hby at_119) k) ?_
    refine own_by (T' := T62) (g' := (mkF m 121 #[.val (.int u), .val (.int r), .val (.long f), .second, .val (.int (4 : Int32)), .val (.ref b1)] [(.int (6 : Int32)), (.ref b1)])) (fun _ k => XS.iadd X62.here hx rfl (hb hby at_120) rfl k) ?_
    refine own_by (T' := T62) (g' := (mkF m 122 #[.val (.int u), .val (.int r), .val (.long f), .second, .val (.int (4 : Int32)), .val (.ref b1)] [(.int u), (.int (6 : Int32)), (.ref b1)])) (fun _ k => XS.iloadN X62.here hx rfl (hb hby at_121) rfl k) ?_
    refine own_by (T' := T62) (g' := (mkF m 124 #[.val (.int u), .val (.int r), .val (.long f), .second, .val (.int (4 : Int32)), .val (.ref b1)] [(.int (8 : Int32)), (.int u), (.int (6 : Int32)), (.ref b1)])) (fun _ k => XS.bipush X62.here hx rfl (hb hby at_122) k) ?_
    refine own_by (T' := T62) (g' := (mkF m 125 #[.val (.int u), .val (.int r), .val (.long f), .second, .val (.int (4 : Int32)), .val (.ref b1)] [(.int ((u.toUInt32 >>> ((8 : Int32) &&& 31).toUInt32).toInt32)), (.int (6 : Int32)), (.ref b1)])) (fun _ k => XS.iushr X62.here hx rfl (hb hby at_124) rfl k) ?_
    refine own_by (T' := T62) (g' := (mkF m 126 #[.val (.int u), .val (.int r), .val (.long f), .second, .val (.int (4 : Int32)), .val (.ref b1)] [(.int (((u.toUInt32 >>> ((8 : Int32) &&& 31).toUInt32).toInt32).toInt8.toInt32)), (.int (6 : Int32)), (.ref b1)])) (fun _ k => XS.i2b X62.here hx rfl (hb hby at_125) rfl k) ?_
    obtain ⟨cl63, Ar63, q63, S63, N_63, H63, G63⟩ := V62
    have hin63 : ¬ ((6 : Int32) < 0 ∨ cl63.slots.size ≤ ((6 : Int32)).toNatClampNeg) := inb_of S63 ⟨by decide, by decide⟩
    obtain ⟨T64, h64, X64, e64, W64, st64⟩ := stB X62 hx hZ e62 Ar63 (j := (6 : Int32)) hin63 (g := (mkF m 126 #[.val (.int u), .val (.int r), .val (.long f), .second, .val (.int (4 : Int32)), .val (.ref b1)] [(.int (((u.toUInt32 >>> ((8 : Int32) &&& 31).toUInt32).toInt32).toInt8.toInt32)), (.int (6 : Int32)), (.ref b1)])) rfl rfl (hb hby at_126)
    have V64 : Arv Z h64 b1 k1 .byte (8 : Int32) [(.int (nar .byte ((f.toInt32).toInt8.toInt32))), (.int (nar .byte ((((f.toUInt64 >>> ((8 : Int32) &&& 0x3f).toInt64.toUInt64).toInt64).toInt32).toInt8.toInt32))), (.int (nar .byte ((((f.toUInt64 >>> ((16 : Int32) &&& 0x3f).toInt64.toUInt64).toInt64).toInt32).toInt8.toInt32))), (.int (nar .byte ((((f.toUInt64 >>> ((24 : Int32) &&& 0x3f).toInt64.toUInt64).toInt64).toInt32).toInt8.toInt32))), (.int (nar .byte (((u.toUInt32 >>> ((24 : Int32) &&& 31).toUInt32).toInt32).toInt8.toInt32))), (.int (nar .byte (((u.toUInt32 >>> ((16 : Int32) &&& 31).toUInt32).toInt32).toInt8.toInt32))), (.int (nar .byte (((u.toUInt32 >>> ((8 : Int32) &&& 31).toUInt32).toInt32).toInt8.toInt32))), (.int (nar .byte ((((f.toUInt64 >>> ((56 : Int32) &&& 0x3f).toInt64.toUInt64).toInt64).toInt32).toInt8.toInt32)))] (.int (0 : Int32)) := Arv.set Ar63 q63 S63 N_63 H63 G63 (fits_nar_byte _) W64 6 rfl (Nat.le_of_ble_eq_true rfl)
    have K64 : Keep h0 h64 [] := Keep.wr K62 W64 (Or.inr sz_b1)
    have N64 := Fr.snoc X64 N62 g_b1
    refine own_by (T' := T64) (g' := (mkF m 127 #[.val (.int u), .val (.int r), .val (.long f), .second, .val (.int (4 : Int32)), .val (.ref b1)] [])) (fun _ k => st64 _ k) ?_
    refine own_by (T' := T64) (g' := (mkF m 129 #[.val (.int u), .val (.int r), .val (.long f), .second, .val (.int (4 : Int32)), .val (.ref b1)] [(.ref b1)])) (fun _ k => XS.aload X64.here hx rfl (hb hby at_127) rfl rfl k) ?_
    refine own_by (T' := T64) (g' := (mkF m 131 #[.val (.int u), .val (.int r), .val (.long f), .second, .val (.int (4 : Int32)), .val (.ref b1)] [(.int (4 : Int32)), (.ref b1)])) (fun _ k => XS.iload X64.here hx rfl (hb hby at_129) rfl k) ?_
    refine own_by (T' := T64) (g' := (mkF m 132 #[.val (.int u), .val (.int r), .val (.long f), .second, .val (.int (4 : Int32)), .val (.ref b1)] [(.int (3 : Int32)), (.int (4 : Int32)), (.ref b1)])) (fun _ k => XS.iconst X64.here hx rfl (hb hby at_131) k) ?_
    refine own_by (T' := T64) (g' := (mkF m 133 #[.val (.int u), .val (.int r), .val (.long f), .second, .val (.int (4 : Int32)), .val (.ref b1)] [(.int (7 : Int32)), (.ref b1)])) (fun _ k => XS.iadd X64.here hx rfl (hb hby at_132) rfl k) ?_
    refine own_by (T' := T64) (g' := (mkF m 134 #[.val (.int u), .val (.int r), .val (.long f), .second, .val (.int (4 : Int32)), .val (.ref b1)] [(.int u), (.int (7 : Int32)), (.ref b1)])) (fun _ k => XS.iloadN X64.here hx rfl (hb hby at_133) rfl k) ?_
    refine own_by (T' := T64) (g' := (mkF m 135 #[.val (.int u), .val (.int r), .val (.long f), .second, .val (.int (4 : Int32)), .val (.ref b1)] [(.int (u.toInt8.toInt32)), (.int (7 : Int32)), (.ref b1)])) (fun _ k => XS.i2b X64.here hx rfl (hb hby at_134) rfl k) ?_
    obtain ⟨cl65, Ar65, q65, S65, N_65, H65, G65⟩ := V64
    have hin65 : ¬ ((7 : Int32) < 0 ∨ cl65.slots.size ≤ ((7 : Int32)).toNatClampNeg) := inb_of S65 ⟨by decide, by decide⟩
    obtain ⟨T66, h66, X66, e66, W66, st66⟩ := stB X64 hx hZ e64 Ar65 (j := (7 : Int32)) hin65 (g := (mkF m 135 #[.val (.int u), .val (.int r), .val (.long f), .second, .val (.int (4 : Int32)), .val (.ref b1)] [(.int (u.toInt8.toInt32)), (.int (7 : Int32)), (.ref b1)])) rfl rfl (hb hby at_135)
    have V66 : Arv Z h66 b1 k1 .byte (8 : Int32) [(.int (nar .byte ((f.toInt32).toInt8.toInt32))), (.int (nar .byte ((((f.toUInt64 >>> ((8 : Int32) &&& 0x3f).toInt64.toUInt64).toInt64).toInt32).toInt8.toInt32))), (.int (nar .byte ((((f.toUInt64 >>> ((16 : Int32) &&& 0x3f).toInt64.toUInt64).toInt64).toInt32).toInt8.toInt32))), (.int (nar .byte ((((f.toUInt64 >>> ((24 : Int32) &&& 0x3f).toInt64.toUInt64).toInt64).toInt32).toInt8.toInt32))), (.int (nar .byte (((u.toUInt32 >>> ((24 : Int32) &&& 31).toUInt32).toInt32).toInt8.toInt32))), (.int (nar .byte (((u.toUInt32 >>> ((16 : Int32) &&& 31).toUInt32).toInt32).toInt8.toInt32))), (.int (nar .byte (((u.toUInt32 >>> ((8 : Int32) &&& 31).toUInt32).toInt32).toInt8.toInt32))), (.int (nar .byte (u.toInt8.toInt32)))] (.int (0 : Int32)) := Arv.set Ar65 q65 S65 N_65 H65 G65 (fits_nar_byte _) W66 7 rfl (Nat.le_of_ble_eq_true rfl)
    have K66 : Keep h0 h66 [] := Keep.wr K64 W66 (Or.inr sz_b1)
    have N66 := Fr.snoc X66 N64 g_b1
    refine own_by (T' := T66) (g' := (mkF m 136 #[.val (.int u), .val (.int r), .val (.long f), .second, .val (.int (4 : Int32)), .val (.ref b1)] [])) (fun _ k => st66 _ k) ?_
    refine own_by (T' := T66) (g' := (mkF m 138 #[.val (.int u), .val (.int r), .val (.long f), .second, .val (.int (4 : Int32)), .val (.ref b1)] [(.ref b1)])) (fun _ k => XS.aload X66.here hx rfl (hb hby at_136) rfl rfl k) ?_
    refine own_by (T' := T66) (g' := (mkF m 140 #[.val (.int u), .val (.int r), .val (.long f), .second, .val (.int (4 : Int32)), .val (.ref b1)] [(.int (4 : Int32)), (.ref b1)])) (fun _ k => XS.iload X66.here hx rfl (hb hby at_138) rfl k) ?_
    obtain ⟨cl67, Ar67, q67, S67, N_67, H67, G67⟩ := V66
    have hin67_0 : ¬ ((4 : Int32) < 0 ∨ cl67.slots.size ≤ ((4 : Int32)).toNatClampNeg) := inb_of S67 ⟨by decide, by decide⟩
    have hin67_1 : ¬ (((4 : Int32) + (1 : Int32)) < 0 ∨ cl67.slots.size ≤ (((4 : Int32) + (1 : Int32))).toNatClampNeg) := inb_of S67 ⟨by decide, by decide⟩
    have hin67_2 : ¬ (((4 : Int32) + (2 : Int32)) < 0 ∨ cl67.slots.size ≤ (((4 : Int32) + (2 : Int32))).toNatClampNeg) := inb_of S67 ⟨by decide, by decide⟩
    have hin67_3 : ¬ (((4 : Int32) + (3 : Int32)) < 0 ∨ cl67.slots.size ≤ (((4 : Int32) + (3 : Int32))).toNatClampNeg) := inb_of S67 ⟨by decide, by decide⟩
    obtain ⟨_, _, ⟨T68, L68, k68, n68⟩, -, X68, ⟨Lc68, hQ68, l68, y68, z68⟩, st68⟩ := Jvm.LawKit.callS X66 hx (y := (⟨"com/example/onceward/onceward/journal/BigEndian", "intAt", "([BI)I"⟩ : MethodName)) hown (mvT hZ (hw _ (List.mem_of_getElem? (i := 2) rfl))) (mvT hZ (hw _ (List.mem_of_getElem? (i := 3) rfl))) (mvT hZ (hw _ (List.mem_of_getElem? (i := 4) rfl))) (mvT hZ (hw _ (List.mem_of_getElem? (i := 5) rfl))) (by decide) (backOf (W := 0) (rm1 l Z a0 hw [] b1 (4 : Int32) cl67 (nar .byte (((u.toUInt32 >>> ((24 : Int32) &&& 31).toUInt32).toInt32).toInt8.toInt32)) (nar .byte (((u.toUInt32 >>> ((16 : Int32) &&& 31).toUInt32).toInt32).toInt8.toInt32)) (nar .byte (((u.toUInt32 >>> ((8 : Int32) &&& 31).toUInt32).toInt32).toInt8.toInt32)) (nar .byte (u.toInt8.toInt32)) h66 n0 (Nat.le_trans (Nat.le_trans (Nat.le_trans (Nat.le_trans (Nat.le_trans (Nat.le_trans (Nat.le_trans (Nat.le_trans (Nat.le_trans (Nat.le_trans (Nat.le_trans (Nat.le_trans (Nat.le_trans Z0 E1.1) (Keep.of_wr W3).1) (Keep.of_wr W5).1) (Keep.of_wr W7).1) (Keep.of_wr W9).1) (Keep.of_wr W11).1) (Keep.of_wr W13).1) (Keep.of_wr W15).1) (Keep.of_wr W17).1) (Keep.of_wr W60).1) (Keep.of_wr W62).1) (Keep.of_wr W64).1) (Keep.of_wr W66).1) Ar67 hin67_0 hin67_1 hin67_2 hin67_3 (Has.at H67 hin67_0 rfl) (Has.at H67 hin67_1 rfl) (Has.at H67 hin67_2 rfl) (Has.at H67 hin67_3 rfl)) hZ (hw _ (List.mem_of_getElem? (i := 5) rfl)) (hw _ (List.mem_of_getElem? (i := 4) rfl)) (by decide) (by decide)) (g := (mkF m 140 #[.val (.int u), .val (.int r), .val (.long f), .second, .val (.int (4 : Int32)), .val (.ref b1)] [(.int (4 : Int32)), (.ref b1)])) rfl (by rw [hml]; rfl) (argsL := [(.ref b1), (.int (4 : Int32))]) (rest := []) (lenOf pd_0 rfl) rfl (by show 2 * 0 + _ ≤ _; exact Nat.le_of_eq rfl) (hb hby at_140) (fun _ _ => ⟨rfl, e66, (by decide : (0 + 1) + 0 ≤ _), (by decide : (0 + 8) + 0 ≤ _)⟩)
    dsimp only [Pt.U, Pt.locs, Pt.cells, Pt.slots] at X68 l68 y68 z68 st68 hQ68
    subst l68 y68 z68
    obtain ⟨rfl, N68q, e68⟩ := hQ68
    have N68 := Fr.app N66 N68q
    refine own_by (T' := T68) (g' := (mkF m 143 #[.val (.int u), .val (.int r), .val (.long f), .second, .val (.int (4 : Int32)), .val (.ref b1)] [(.int (own_be (nar .byte (((u.toUInt32 >>> ((24 : Int32) &&& 31).toUInt32).toInt32).toInt8.toInt32)) (nar .byte (((u.toUInt32 >>> ((16 : Int32) &&& 31).toUInt32).toInt32).toInt8.toInt32)) (nar .byte (((u.toUInt32 >>> ((8 : Int32) &&& 31).toUInt32).toInt32).toInt8.toInt32)) (nar .byte (u.toInt8.toInt32))))])) (fun _ k => st68 _ k) ?_
    refine own_by (T' := T68) (g' := (mkF m 144 #[.val (.int u), .val (.int r), .val (.long f), .second, .val (.int (4 : Int32)), .val (.ref b1)] [(.int u), (.int (own_be (nar .byte (((u.toUInt32 >>> ((24 : Int32) &&& 31).toUInt32).toInt32).toInt8.toInt32)) (nar .byte (((u.toUInt32 >>> ((16 : Int32) &&& 31).toUInt32).toInt32).toInt8.toInt32)) (nar .byte (((u.toUInt32 >>> ((8 : Int32) &&& 31).toUInt32).toInt32).toInt8.toInt32)) (nar .byte (u.toInt8.toInt32))))])) (fun _ k => XS.iloadN X68.here hx rfl (hb hby at_143) rfl k) ?_
    refine own_by (T' := T68) (g' := (mkF m 147 #[.val (.int u), .val (.int r), .val (.long f), .second, .val (.int (4 : Int32)), .val (.ref b1)] [])) (fun _ k => XS.icmpNo X68.here hx rfl (hb hby at_144) rfl (teq (own_bytes u)).2 k) ?_
    refine own_by (T' := T68) (g' := (mkF m 148 #[.val (.int u), .val (.int r), .val (.long f), .second, .val (.int (4 : Int32)), .val (.ref b1)] [(.int (1 : Int32))])) (fun _ k => XS.iconst X68.here hx rfl (hb hby at_147) k) ?_
    refine own_by (T' := T68) (g' := (mkF m 152 #[.val (.int u), .val (.int r), .val (.long f), .second, .val (.int (4 : Int32)), .val (.ref b1)] [(.int (1 : Int32))])) (fun _ k => XS.goto X68.here hx rfl (pc0 := 148) (pc' := 152) rfl (hb hby at_148) (by decide) (by decide) k) ?_
    refine own_ret X68 hlk (v := some (.int (1 : Int32))) (fun h => by rw [Bd.returns] at h; cases h) (fun fs hr => retN X68 hx (t := .boolean) Bd.returns (by simp) (hb hby at_152) hr) ?_ (by decide) (by decide)
    rw [e68]
    exact ⟨rfl, N68⟩
set_option maxRecDepth 65536 in
set_option maxHeartbeats 40000000 in
theorem comes_1 {Post : Tables → Env → Array Value → State → Outcome → State → Prop} (hpost : ∀ tb e args s v u, (limb_1_1.after args s (.returned v) u = true ∧ limb_1_2.after args s (.returned v) u = true ∧ True) → FrameEnd s (.returned v) u (Jvm.fieldLocs frame_1_writes args s ++ Jvm.arrayLocs frame_1_arrays args s ++ Jvm.staticLocs frame_1_statics s) 16 128 → Post tb e args s (.returned v) u) :
    ArmFor flags0 classFile x code maxLocals ret World_1 tables_1 room_1 Calls_1 rest_1 Pre_1 Post := by
  intro l hfl _ _ p e ha hc hk s m args below hf hA hF happ hP
  obtain ⟨hcalls, hrest, hpre⟩ := hP
  obtain ⟨-, -, -, hnamed, -, -, -, hat⟩ := (Spec.applies_iff hf).mp happ
  obtain ⟨hg, hn⟩ := and_e (Cond.before_iff.mp (show (Jvm.Cond.and given_1 narrow_1).before args s = true from hpre))
  obtain ⟨g1, g2⟩ := and_e hg
  obtain ⟨g3, g4⟩ := and_e g2
  obtain ⟨g5, g6⟩ := and_e g4
  obtain ⟨w0, w1, w2, rfl⟩ : ∃ w0 w1 w2 : Value, args = #[w0, w1, w2] := by
    have hs : args.size = 3 := by simpa [Cond.value, given_1] using g1
    obtain ⟨L⟩ := args
    match L, hs with
    | [w0, w1, w2], _ => exact ⟨w0, w1, w2, rfl⟩
  have hw := fun d (hd : d ∈ tables_1) => atoms_spec (ws := Jvm.Cond.code x code maxLocals ret :: tables_1) hat d (List.mem_cons_of_mem _ hd)
  have hfit : Fit s := fun {y c} hc i hi => by
    obtain ⟨ha, rfl⟩ := Array.getElem?_eq_some_iff.mp hc
    have q := List.all_eq_true.mp ((Array.all_eq_true_iff_forall_mem.mp hF) _ (Array.getElem_mem ha)) i (List.mem_range.mpr hi)
    simpa [Array.getElem?_eq_getElem hi] using q
  obtain ⟨i0, ei0⟩ := is_v g3
  obtain rfl : w0 = (.int i0) := Option.some.inj ei0
  obtain ⟨i1, ei1⟩ := is_v g5
  obtain rfl : w1 = (.int i1) := Option.some.inj ei1
  obtain ⟨i2, ei2⟩ := isL_v g6
  obtain rfl : w2 = (.long i2) := Option.some.inj ei2
  obtain ⟨n, o, h1, h2, h3, _, L, rfl, ⟨rfl, N⟩, hq⟩ := rm0 l s _ hw tables_1 i0 i1 i2 s.heap s.heap.size (Nat.le_refl _)  p e ha hc hk s m _ below hf ((Spec.applies_iff_loose hf).mp happ).1 ⟨rfl, State.Warmed39.refl s, rfl⟩ trivial
  refine ⟨n, _, h1, h2, h3, hpost _ _ _ _ _ _ ⟨Cond.after_iff.mpr rfl, Cond.after_iff.mpr (eq_i res_at (Term.int_eval (1)) rfl), trivial⟩ ⟨hq.1, hq.2.1, (hq.2.2.sift fun y hy => Or.inr (N y hy)).mono (by decide) (by decide)⟩⟩
theorem main_1_1 : Claimed_1_1 := comes_1 fun _ _ _ _ _ _ h hF => ⟨h.1, hF⟩
theorem main_1_2 : Claimed_1_2 := comes_1 fun _ _ _ _ _ _ h hF => ⟨h.2.1, hF⟩
end Jvm.Pilot.@@N@@
namespace Jvm.Pilot.@@N@@
open Jvm Jvm.ClassFile Sem Op Lib Jvm.Free Jvm.Stand Jvm.Pilot.@@N@@.Jvm.D
/-! MADE BY PROGRAM (witnessworld.py) out of the Statement's table words and the real class files: 9 classes; the members and pool entries that the words name. The judged class is class 1, her method 1. -/
namespace start1
open Jvm.ClassFile
def u (s : String) : CpInfo := .utf8 (stringToUtf16 s)
/-- a pool by its gaps: so many unusable entries, then the entry; so many at the end -/
def gap : Nat → List CpInfo → List CpInfo
  | 0, r => r
  | n + 1, r => .unusable :: gap n r
def poolList (es : List (Nat × CpInfo)) (last : Nat) : List CpInfo := es.foldr (fun e r => gap e.1 (e.2 :: r)) (gap last [])
def pool (es : List (Nat × CpInfo)) (last : Nat) : Array CpInfo := ⟨poolList es last⟩
def fileOf (pool : Array CpInfo) (this : Nat) (attrs : Array Attribute := #[]) (ms : Array MethodInfo := #[]) (fl : Nat := 33) (sup : Nat := 0) (ifs : Array Nat := #[]) (fds : Array FieldInfo := #[]) : ClassFile where
  minorVersion := 0
  majorVersion := 65
  constantPool := pool
  accessFlags := fl
  thisClass := this
  superClass := sup
  interfaces := ifs
  fields := fds
  methods := ms
  attributes := attrs
def plain (name : String) (sup : Option ClassId) : Class where
  name := name
  kind := .ordinary
  loader := none
  accessFlags := 33
  super := sup
  interfaces := #[]
  cf := none
  fields := #[]
  methods := #[]
  instanceTypes := #[]
  staticTypes := #[]
  resolved := #[]
  callSites := []
  init := .initialized
  statics := none
  mirror := none

def pool0 : Array CpInfo := pool [(5, u "<init>"), (0, u "()V"), (1, .class_ 10), (1, u "java/lang/Object")] 113

def k0m0 : Method := { name := "<init>", desc := "()V", sig := { parameters := [], returnType := none }, accessFlags := 1, code := none }
/-- java/lang/Object -/
def k0 : Class := { plain "java/lang/Object" none with
  accessFlags := 33
  interfaces := #[]
  cf := some (fileOf pool0 8 #[] #[{ accessFlags := 1, nameIndex := 5, descriptorIndex := 6, attributes := #[] }] 33 0 #[] #[])
  fields := #[]
  methods := #[k0m0]
  instanceTypes := #[]
  staticTypes := #[]
  resolved := Array.replicate 124 none
  statics := none }

def pool1 : Array CpInfo := pool [(2, .class_ 4), (1, u "java/lang/Object"), (0, u "<init>"), (0, u "()V"), (0, .integer 2147483647), (0, .methodref 9 10), (0, .class_ 11), (0, .nameAndType 12 13), (0, u "com/example/onceward/onceward/journal/BigEndian"), (0, u "intAt"), (0, u "([BI)I"), (0, .class_ 15), (0, u "com/example/onceward/onceward/journal/BigEndianIntAtPinLaw"), (2, u "law"), (0, u "(IIJ)Z")] 5

def k1m0 : Method := { name := "<init>", desc := "()V", sig := { parameters := [], returnType := none }, accessFlags := 2, code := none }
def k1c1 : Code := { maxStack := 5, maxLocals := 6, code := code, exceptionTable := #[], attributes := #[] }
def k1m1 : Method := { name := "law", desc := "(IIJ)Z", sig := { parameters := [.int, .int, .long], returnType := some .boolean }, accessFlags := 9, code := some k1c1 }
/-- com/example/onceward/onceward/journal/BigEndianIntAtPinLaw -/
def k1 : Class := { plain "com/example/onceward/onceward/journal/BigEndianIntAtPinLaw" (some 0) with
  accessFlags := 49
  interfaces := #[]
  cf := some (fileOf pool1 14 #[] #[{ accessFlags := 2, nameIndex := 5, descriptorIndex := 6, attributes := #[] }, { accessFlags := 9, nameIndex := 18, descriptorIndex := 19, attributes := #[] }] 49 2 #[] #[])
  fields := #[]
  methods := #[k1m0, k1m1]
  instanceTypes := #[]
  staticTypes := #[]
  resolved := Array.replicate 25 none
  statics := none }

def pool2 : Array CpInfo := pool [(2, .class_ 4), (1, u "java/lang/Object"), (0, u "<init>"), (0, u "()V"), (1, .class_ 10), (1, u "com/example/onceward/onceward/journal/BigEndian"), (0, u "intAt"), (0, u "([BI)I")] 10

def k2m0 : Method := { name := "<init>", desc := "()V", sig := { parameters := [], returnType := none }, accessFlags := 2, code := none }
def k2c1 : Code := { maxStack := 4, maxLocals := 2, code := prog_35_method_2_code, exceptionTable := #[], attributes := #[] }
def k2m1 : Method := { name := "intAt", desc := "([BI)I", sig := { parameters := [(.array .byte), .int], returnType := some .int }, accessFlags := 8, code := some k2c1 }
/-- com/example/onceward/onceward/journal/BigEndian -/
def k2 : Class := { plain "com/example/onceward/onceward/journal/BigEndian" (some 0) with
  accessFlags := 48
  interfaces := #[]
  cf := some (fileOf pool2 8 #[] #[{ accessFlags := 2, nameIndex := 5, descriptorIndex := 6, attributes := #[] }, { accessFlags := 8, nameIndex := 11, descriptorIndex := 12, attributes := #[] }] 48 2 #[] #[])
  fields := #[]
  methods := #[k2m0, k2m1]
  instanceTypes := #[]
  staticTypes := #[]
  resolved := Array.replicate 23 none
  statics := none }

def pool3 : Array CpInfo := pool [(1, u "java/lang/Cloneable"), (0, .class_ 1), (0, u "java/lang/Object"), (0, .class_ 3)] 3

/-- java/lang/Cloneable -/
def k3 : Class := { plain "java/lang/Cloneable" (some 0) with
  accessFlags := 1537
  interfaces := #[]
  cf := some (fileOf pool3 2 #[] #[] 1537 4 #[] #[])
  fields := #[]
  methods := #[]
  instanceTypes := #[]
  staticTypes := #[]
  resolved := Array.replicate 8 none
  statics := none }

def pool4 : Array CpInfo := pool [(1, u "java/io/Serializable"), (0, .class_ 1), (0, u "java/lang/Object"), (0, .class_ 3)] 3

/-- java/io/Serializable -/
def k4 : Class := { plain "java/io/Serializable" (some 0) with
  accessFlags := 1537
  interfaces := #[]
  cf := some (fileOf pool4 2 #[] #[] 1537 4 #[] #[])
  fields := #[]
  methods := #[]
  instanceTypes := #[]
  staticTypes := #[]
  resolved := Array.replicate 8 none
  statics := none }

/-- the primitive byte -/
def k5 : Class := { plain "byte" none with kind := .primitive 'B', accessFlags := 0x411 }
/-- [B -/
def k6 : Class := { plain "[B" (some 0) with kind := .array 5 .byte, interfaces := #[3, 4], accessFlags := 1041 }

/-- the primitive int -/
def k7 : Class := { plain "int" none with kind := .primitive 'I', accessFlags := 0x411 }
/-- [I -/
def k8 : Class := { plain "[I" (some 0) with kind := .array 7 .int, interfaces := #[3, 4], accessFlags := 1041 }

def heap : Heap := #[]
def classes : Array Class := #[k0, k1, k2, k3, k4, k5, k6, k7, k8]
def interned : List (Array UInt16 × Addr) := []
def slotsUsed : Nat := 0
def theMethod : MethodId := ⟨1, 1⟩
def args0 : Array Value := #[.int 5, .int 7, .long 1]
def aboutOver (below : List Frame) : State where
  vm := { classes := classes, interned := interned.toArray }
  heap := heap
  slotsUsed := slotsUsed
  threads := #[{ frames := .invoking theMethod args0 :: below }]
def below0 : List Frame := [.native { method := ⟨0, 0⟩, args := #[] }]
def about1 : State := aboutOver below0
def p0 : Program := .bare "" "" ""
def e0 : Env := launch0.env 0 0 0
theorem w_frames : about1.frames = Frame.invoking theMethod args0 :: below0 := rfl
set_option maxRecDepth 65536 in
theorem w_args : argsFit about1.vm theMethod args0 = true := by decide +kernel
set_option maxRecDepth 65536 in
theorem w_heap : heapFits about1 = true := by decide +kernel
set_option maxRecDepth 65536 in
theorem w_runnable : about1.curStatus? = some .runnable := by decide +kernel
set_option maxRecDepth 65536 in
theorem w_alone : about1.alone = true := by decide +kernel
set_option maxRecDepth 65536 in
theorem w_named : about1.methodNamed? x = some theMethod := by decide +kernel
set_option maxRecDepth 65536 in
theorem w_hears : about1.hears theMethod below0 = true := by decide +kernel
set_option maxRecDepth 65536 in
theorem w_ripe : about1.ripe theMethod args0 below0 = true := by decide +kernel
theorem w_running : about1.status = .running := rfl
set_option maxRecDepth 65536 in
theorem w_room : about1.hasRoom e0.platform room_1 = true :=
  launch0.hasRoom_least _ room_1 (by decide +kernel) (by decide +kernel) (by decide +kernel) (by decide +kernel) (by decide +kernel) (by decide +kernel)
theorem allAtoms_all (ts : List Jvm.Cond) (a : Array Jvm.Value) (st : Jvm.State) : (allAtoms ts).before a st = ts.all (fun c => c.before a st) := by
  induction ts with
  | nil => rfl
  | cons c t ih =>
    show (Jvm.Cond.and c (allAtoms t)).before a st = _
    rw [Jvm.Cond.before_and, ih, List.all_cons]
def words1 : List Jvm.Cond := Jvm.Cond.code x code maxLocals ret :: tables_1
/-- a 'code' word, met by the world's own term for the bytes: nothing is compared byte by byte -/
theorem code_word {y : MethodName} {bytes : ByteArray} {mx : Nat} {rt : Option FieldType} {a : Array Value} {s : State} {m : MethodId} {meth : Method} {c : Code} (h1 : s.methodNamed? y = some m) (h2 : s.vm.method? m = some meth) (h3 : meth.code = some c) (h4 : c.code = bytes)
    (h5 : (c.maxLocals == mx && c.exceptionTable.isEmpty && decide (c.maxStack ≤ mostOperands) && decide (meth.sig.returnType = rt) && !meth.locks && decide (parseMethodDescriptor y.desc = some meth.sig)) = true) : (Jvm.Cond.code y bytes mx rt).before a s = true := by
  simp only [Bool.and_eq_true, beq_iff_eq, Bool.not_eq_true', decide_eq_true_eq] at h5
  obtain ⟨⟨⟨⟨⟨g1, g2⟩, g3⟩, g4⟩, g5⟩, g6⟩ := h5
  simp [Cond.before, Cond.holds, Cond.value, h1, h2, h3, h4, g1, g2, g3, g4, g5, g6]
def isCode : Jvm.Cond → Bool
  | .code _ _ _ _ => true
  | _ => false
theorem all_split {L : List Jvm.Cond} {P : Jvm.Cond → Bool} (h1 : L.all (fun c => isCode c || P c) = true) (h2 : ∀ c ∈ L.filter isCode, P c = true) : L.all P = true := by
  refine List.all_eq_true.mpr fun c hc => ?_
  have h := List.all_eq_true.mp h1 c hc
  rcases Bool.eq_false_or_eq_true (isCode c) with hi | hi
  · exact h2 c (List.mem_filter.mpr ⟨hc, hi⟩)
  · simpa [hi] using h
set_option maxRecDepth 65536 in
theorem w_c0 : (Jvm.Cond.code x code maxLocals ret).before args0 about1 = true := code_word (m := ⟨1, 1⟩) (meth := k1m1) (c := k1c1) (by decide +kernel) rfl rfl rfl (by decide +kernel)
set_option maxRecDepth 65536 in
theorem w_c1 : (Jvm.Cond.code ({ cls := "com/example/onceward/onceward/journal/BigEndian", name := "intAt", desc := "([BI)I" } : Jvm.MethodName) prog_35_method_2_code (2 : Nat) (Option.some Jvm.ClassFile.FieldType.int)).before args0 about1 = true := code_word (m := ⟨2, 1⟩) (meth := k2m1) (c := k2c1) (by decide +kernel) rfl rfl rfl (by decide +kernel)
def codes1 : List Jvm.Cond := [Jvm.Cond.code x code maxLocals ret, Jvm.Cond.code ({ cls := "com/example/onceward/onceward/journal/BigEndian", name := "intAt", desc := "([BI)I" } : Jvm.MethodName) prog_35_method_2_code (2 : Nat) (Option.some Jvm.ClassFile.FieldType.int)]
set_option maxRecDepth 65536 in
theorem codes_eq : words1.filter isCode = codes1 := rfl
theorem w_codes : ∀ c ∈ words1.filter isCode, c.before args0 about1 = true := by
  rw [codes_eq]
  intro c hc
  simp only [codes1, List.mem_cons, List.not_mem_nil, or_false] at hc
  rcases hc with rfl | rfl
  · exact w_c0
  · exact w_c1
set_option maxRecDepth 65536 in
theorem w_t1 : words1.all (fun c => isCode c || c.before args0 about1) = true := by decide +kernel
theorem w_tables : (allAtoms (Jvm.Cond.code x code maxLocals ret :: tables_1)).before args0 about1 = true := by
  rw [allAtoms_all]
  show words1.all (fun c => c.before args0 about1) = true
  refine all_split ?_ w_codes
  rw [w_t1]
set_option maxRecDepth 65536 in
theorem w_case : (Jvm.Cond.and given_1 narrow_1).before args0 about1 = true := by decide +kernel
theorem w_applies : (headSpec (Jvm.Cond.code x code maxLocals ret :: tables_1) room_1).applies x e0.platform about1 = true :=
  (Spec.applies_iff w_frames).mpr ⟨w_running, w_runnable, w_alone, w_named, w_hears, w_ripe, w_room, w_tables⟩
theorem atStart : AtStart classFile x code maxLocals ret World_1 tables_1 room_1 Calls_1 rest_1 Pre_1 launch0 p0 e0 about1 theMethod args0 below0 :=
  ⟨lists_1, trivial, launch0.admits_env _ _ _, launch0.least_env, fairChoices_fair.cas, fairChoices_fair.clock, w_frames, w_args, w_heap, w_applies, trivial, trivial, w_case⟩
end start1
theorem witness_1 : WitnessClaimed_1 := ⟨start1.p0, start1.e0, start1.about1, start1.theMethod, start1.args0, start1.below0, start1.atStart⟩
end Jvm.Pilot.@@N@@
