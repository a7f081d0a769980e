import JvmDerived
import JvmDerived.Pilot.@@N@@Statement
import JvmDerived.Pilot.@@N@@Code
set_option linter.unusedVariables false
set_option linter.unusedSimpArgs false
namespace Jvm.RoadKit
open Sem ClassFile Op Lib Jvm.Stand Jvm.Free Jvm.LawKit
section New
variable {p : Program} {l : Launch} {e : Env} {R : Room} {s : State} {m : MethodId} {args : Array Value} {below : List Frame} {meth : Method} {c : Code} {T : State} {locs : List Loc} {cells slots : Nat}
theorem retI (X : Stand p l e R s m args below meth c T locs cells slots) (hx : p.tables.exec = Jvm.exec) {pc : Nat} {Ls : Array Slot} {z : Int32} {rest : List Value} (hret : meth.sig.returnType = some .int) (hd : decode c.code pc = .ok (.ireturn, 1)) {fs : List Frame}
    (hl : ∀ (f : JFrame) (acts : List Action), f.method = m → f.locked = none → f.entered = [] → (doReturn e (T.setTop f) acts (some (.int z))).1 = T.setFrames fs) : Steps p.tables e below (T.setTop (mkF m pc Ls (.int z :: rest))) (T.setFrames fs) := by
  have hm' : T.vm.method? m = some meth := X.method'
  have hn : narrow .int (.int z) = .int z := rfl
  show Steps p.tables e below (T.setTop { method := m, pc := pc, locals := Ls, stack := _ :: rest, locked := none }) _
  jvm_step X.here [X.here.top, hx, hd, hm', hret, hn]
  first | (intro acts; rw [hl _ acts rfl rfl rfl]) | rw [hl _ _ rfl rfl rfl]
  exact Steps.refl _
/-- from the state T with the frame g on top the run ends, returned, with Q -/
def own_Go (tb : Tables) (e : Env) (below : List Frame) (Q : Option Value → Heap → List Loc → Prop) (s : State) (C S : Nat) (T : State) (g : JFrame) : Prop :=
  ∃ t o, Steps tb e below (T.setTop g) t ∧ t.status = .running ∧ Ended t below o ∧ ∃ v L, o = .returned v ∧ Q v t.heap L ∧ FrameEnd s o t L C S
theorem own_by {tb : Tables} {Q : Option Value → Heap → List Loc → Prop} {C S : Nat} {T T' : State} {g g' : JFrame} (st : ∀ target, Steps tb e below (T'.setTop g') target → Steps tb e below (T.setTop g) target) (k : own_Go tb e below Q s C S T' g') : own_Go tb e below Q s C S T g := by
  obtain ⟨t, o, h1, h2⟩ := k
  exact ⟨t, o, st t h1, h2⟩
theorem bN {tb : Tables} {Q : Option Value → Heap → List Loc → Prop} {C S : Nat} {T : State} {g : JFrame} (T' : State) (g' : JFrame) (st : ∀ target, Steps tb e below (T'.setTop g') target → Steps tb e below (T.setTop g) target) (k : own_Go tb e below Q s C S T' g') : own_Go tb e below Q s C S T g := own_by st k
/-- the contract of a body: from the heap h0, with the arguments A, it returns, with Q -/
abbrev own_M (l : Launch) (y : MethodName) (code : ByteArray) (ml : Nat) (rt : Option FieldType) (ws : List Cond) (R : Room) (Z : State) (A : Array Value) (h0 : Heap) (Q : Option Value → Heap → List Loc → Prop) : Prop :=
  MetFree l y (head1 (Cond.code y code ml rt :: ws) R) (fun a U => a = A ∧ Z.Warmed39 U.vm ∧ U.heap = h0) (fun _ _ _ _ _ => True) (fun _ U o U' => ∃ v L, o = .returned v ∧ Q v U'.heap L ∧ FrameEnd U o U' L R.cells R.slots)
theorem own_bd {y : MethodName} {code : ByteArray} {ml : Nat} {rt : Option FieldType} {ws : List Cond} {Z : State} {A : Array Value} {h0 : Heap} {Q : Option Value → Heap → List Loc → Prop} (hpl : plainFor y = true)
    (k : ∀ p e s m below meth c s₁, BodyLoose p l y (head1 (Cond.code y code ml rt :: ws) R) code ml rt e s m A below meth c s₁ → p.tables.exec = Jvm.exec → c.code = code → c.maxLocals = ml → s.vm.findClass y.cls = some m.cls → meth.name = y.name → meth.locks = false → Z.Warmed39 s.vm → Stand p l e R s m A below meth c s₁ [] 0 0 → s₁.heap = h0 → own_Go p.tables e below Q s R.cells R.slots s₁ (entryFrame m A ml)) : own_M l y code ml rt ws R Z A h0 Q := by
  refine MetFree.of_bodySF hpl hisR ?_
  intro p e s m args below meth c s₁ Bd hml hP hK
  obtain ⟨rfl, hZ, hh⟩ := hP
  exact k p e s m below meth c s₁ Bd Bd.exec Bd.bytes hml (findClass_of_methodNamed Bd.named) (name_of_methodNamed Bd.named Bd.method).1 Bd.notSynchronized hZ (Stand.of_body Bd) (by rw [← hh, Bd.state]; rfl)
theorem own_ret {Q : Option Value → Heap → List Loc → Prop} {C S : Nat} {g : JFrame} (X : Stand p l e R s m args below meth c T locs cells slots) (hlk : meth.locks = false) {v : Option Value} (hv : meth.sig.returnType = none → v = none)
    (st : ∀ fs, (∀ (f : JFrame) (acts : List Action), f.method = m → f.locked = none → f.entered = [] → (doReturn e (T.setTop f) acts v).1 = T.setFrames fs) → Steps p.tables e below (T.setTop g) (T.setFrames fs))
    (hq : Q v T.heap locs) (hc : cells ≤ C) (hs : slots ≤ S) : own_Go p.tables e below Q s C S T g := by
  obtain ⟨fs, hr, hrun, hended, hW, hsame⟩ := X.leave (v := v) hv hlk
  exact ⟨_, _, st fs hr, hrun, hended, v, locs, rfl, hq, ⟨v, rfl⟩, hW, hsame.mono hc hs⟩
end New
end Jvm.RoadKit
namespace Jvm.Pilot.@@N@@
open Jvm Jvm.ClassFile Sem Op Lib Jvm.Free Jvm.Stand Jvm.LawKit Jvm.RoadKit Bundle Jvm.Pilot.@@N@@.Jvm.D
theorem pd_0 : parseMethodDescriptor "([CI[BII)I" = some ⟨[(.array .char), .int, (.array .byte), .int, .int], some .int⟩ := by decide +kernel
theorem pd_1 : parseMethodDescriptor "([CII)[B" = some ⟨[(.array .char), .int, .int], some (.array .byte)⟩ := by decide +kernel
theorem pd_2 : parseMethodDescriptor "([BI)B" = some ⟨[(.array .byte), .int], some .byte⟩ := by decide +kernel
theorem pd_3 : parseMethodDescriptor "([CIILjava/lang/Void;)V" = some ⟨[(.array .char), .int, .int, (.object "java/lang/Void")], none⟩ := by decide +kernel
theorem pd_4 : parseMethodDescriptor "(Lcom/example/millrace/millrace/Cell$Type;[BLjava/lang/String;[BJ[BJ)V" = some ⟨[(.object "com/example/millrace/millrace/Cell$Type"), (.array .byte), (.object "java/lang/String"), (.array .byte), .long, (.array .byte), .long], none⟩ := by decide +kernel
theorem pd_5 : parseMethodDescriptor "(I)Lcom/example/millrace/millrace/Cell$Type;" = some ⟨[.int], some (.object "com/example/millrace/millrace/Cell$Type")⟩ := by decide +kernel
theorem pd_6 : parseMethodDescriptor "([C)V" = some ⟨[(.array .char)], none⟩ := by decide +kernel
theorem pd_7 : parseMethodDescriptor "(J[BLjava/lang/String;)Lcom/example/millrace/millrace/Cell;" = some ⟨[.long, (.array .byte), (.object "java/lang/String")], some (.object "com/example/millrace/millrace/Cell")⟩ := by decide +kernel
theorem pd_8 : parseMethodDescriptor "()Lcom/example/millrace/millrace/Cell$Type;" = some ⟨[], some (.object "com/example/millrace/millrace/Cell$Type")⟩ := by decide +kernel
theorem pd_9 : parseMethodDescriptor "()[B" = some ⟨[], some (.array .byte)⟩ := by decide +kernel
theorem pd_10 : parseMethodDescriptor "()Ljava/lang/String;" = some ⟨[], some (.object "java/lang/String")⟩ := by decide +kernel
theorem pd_11 : parseMethodDescriptor "()J" = some ⟨[], some .long⟩ := by decide +kernel
theorem own_fld {args : Array Value} {s : State} {t : Term} {C n d : String} {a : Addr} {k : Int32} (ht : t.eval args s none [] s = some (.ref a)) (h : (Jvm.Cond.eq (.field t C n d) (.int k)).value args s none s [] = some true) : Fld s s.heap a C n d (.int k) := by
  refine Fld.start ?_
  rw [← fld_at (args := args) (first := s) (o := none) (idx := []) (s := s) (C := C) (n := n) (dd := d) ht]
  obtain ⟨x, y, e1, e2, -, -⟩ := cmp_v (Or.inl h)
  rw [Term.int_eval k] at e2
  obtain rfl : Value.int k = y := Option.some.inj e2
  cases x <;> simp [Jvm.Cond.value, e1, Term.int_eval] at h
  rw [e1, h]
theorem own_eqi {args : Array Value} {s : State} {a : Term} {k : Int32} (h : (Jvm.Cond.eq a (.int k)).value args s none s [] = some true) : a.eval args s none [] s = some (.int k) := by
  obtain ⟨x, y, e1, e2, -, -⟩ := cmp_v (Or.inl h)
  rw [Term.int_eval k] at e2
  obtain rfl : Value.int k = y := Option.some.inj e2
  cases x <;> simp [Jvm.Cond.value, e1, Term.int_eval] at h
  rw [e1, h]
theorem own_len {args : Array Value} {s : State} {t : Term} {a : Addr} {cl : Cell} {n : Int32} (ht : t.eval args s none [] s = some (.ref a)) (ha : s.arrayAt? a = some cl) (h : (Jvm.Cond.eq (.length t) (.int n)).value args s none s [] = some true) : cl.slots.size < 2 ^ 31 ∧ cl.slots.size.toInt32 = n := by
  have e := own_eqi h
  simp [Term.eval, ht, ha] at e
  exact e
theorem own_ne0 {args : Array Value} {s : State} {a : Term} {x k : Int32} (e : a.eval args s none [] s = some (.int x)) (h : (Jvm.Cond.not (.eq a (.int k))).before args s = true) : ¬ x = k := by
  have h1 := not_v (Cond.before_iff.mp h)
  intro q
  subst q
  simp [Jvm.Cond.value, e, Term.int_eval] at h1
theorem own_eqr {args : Array Value} {s : State} {a b : Term} {x : Addr} (eb : b.eval args s none [] s = some (.ref x)) (h : (Jvm.Cond.eq a b).value args s none s [] = some true) : a.eval args s none [] s = some (.ref x) := by
  obtain ⟨u, y, e1, e2, -, -⟩ := cmp_v (Or.inl h)
  rw [eb] at e2
  obtain rfl : Value.ref x = y := Option.some.inj e2
  cases u <;> simp [Jvm.Cond.value, e1, eb] at h
  rw [e1, h]
theorem own_c255 (x : Int32) : ¬ (255 : Int32) < nar .char ((x &&& (255 : Int32)).toUInt32.toUInt16.toUInt32.toInt32) := by
  have e : nar .char ((x &&& (255 : Int32)).toUInt32.toUInt16.toUInt32.toInt32) = x &&& 255 := by
    have h : nar .char ((x &&& (255 : Int32)).toUInt32.toUInt16.toUInt32.toInt32) = ((x &&& (255 : Int32)).toUInt32.toUInt16.toUInt32.toInt32).toUInt32.toUInt16.toUInt32.toInt32 := rfl
    rw [h, i2c_mask, i2c_mask]
  rw [e, Int32.lt_iff_toInt_lt]
  have h := (c_and x 255 (by decide)).2
  have k : (255 : Int32).toInt = 255 := by decide
  omega
def own_pick (i : Int32) (a0 a1 a2 a3 : Addr) : Addr := if i = 0 then a0 else if i = 1 then a1 else if i = 2 then a2 else a3
theorem d6_0 : decode jdk_52_method_21_code 0 = .ok (.iconst 0, 1) := by decide +kernel
theorem d6_1 : decode jdk_52_method_21_code 1 = .ok (.istore 5, 2) := by decide +kernel
theorem d6_3 : decode jdk_52_method_21_code 3 = .ok (.iload 5, 2) := by decide +kernel
theorem d6_5 : decode jdk_52_method_21_code 5 = .ok (.iload 4, 2) := by decide +kernel
theorem d6_7 : decode jdk_52_method_21_code 7 = .ok (.if_icmp .ge 37, 3) := by decide +kernel
theorem d6_10 : decode jdk_52_method_21_code 10 = .ok (.aload_n 0, 1) := by decide +kernel
theorem d6_11 : decode jdk_52_method_21_code 11 = .ok (.iload_n 1, 1) := by decide +kernel
theorem d6_12 : decode jdk_52_method_21_code 12 = .ok (.caload, 1) := by decide +kernel
theorem d6_13 : decode jdk_52_method_21_code 13 = .ok (.istore 6, 2) := by decide +kernel
theorem d6_15 : decode jdk_52_method_21_code 15 = .ok (.iload 6, 2) := by decide +kernel
theorem d6_17 : decode jdk_52_method_21_code 17 = .ok (.sipush 255, 3) := by decide +kernel
theorem d6_20 : decode jdk_52_method_21_code 20 = .ok (.if_icmp .le 6, 3) := by decide +kernel
theorem d6_26 : decode jdk_52_method_21_code 26 = .ok (.aload_n 2, 1) := by decide +kernel
theorem d6_27 : decode jdk_52_method_21_code 27 = .ok (.iload_n 3, 1) := by decide +kernel
theorem d6_28 : decode jdk_52_method_21_code 28 = .ok (.iload 6, 2) := by decide +kernel
theorem d6_30 : decode jdk_52_method_21_code 30 = .ok (.i2b, 1) := by decide +kernel
theorem d6_31 : decode jdk_52_method_21_code 31 = .ok (.bastore, 1) := by decide +kernel
theorem d6_32 : decode jdk_52_method_21_code 32 = .ok (.iinc 1 1, 3) := by decide +kernel
theorem d6_35 : decode jdk_52_method_21_code 35 = .ok (.iinc 3 1, 3) := by decide +kernel
theorem d6_38 : decode jdk_52_method_21_code 38 = .ok (.iinc 5 1, 3) := by decide +kernel
theorem d6_41 : decode jdk_52_method_21_code 41 = .ok (.goto (-38), 3) := by decide +kernel
theorem d6_44 : decode jdk_52_method_21_code 44 = .ok (.iload 4, 2) := by decide +kernel
theorem d6_46 : decode jdk_52_method_21_code 46 = .ok (.ireturn, 1) := by decide +kernel
theorem pn_6 : plainName "java/lang/StringUTF16" = true := by first | (simp [plainName, overriddenIn]; done) | decide +kernel
theorem ef_cmp5_2 (m : MethodId) (ca : Addr) (ba : Addr) : entryFrame m #[(.ref ca), (.int (0 : Int32)), (.ref ba), (.int (0 : Int32)), (.int (2 : Int32))] 7 = mkF m 0 #[.val (.ref ca), .val (.int (0 : Int32)), .val (.ref ba), .val (.int (0 : Int32)), .val (.int (2 : Int32)), .unset, .unset] [] := by first | (simp [entryFrame, mkF, argsToLocals, Value.category]; done) | rfl
def Q_cmp5_2 (Z : State) (ca : Addr) (ba : Addr) (kc : ClassId) (kb : ClassId) (c0 : Int32) (c1 : Int32) (h0 : Heap) (n0 : Nat) (v : Option Value) (h : Heap) (L : List Loc) : Prop := v = some (.int (2 : Int32)) ∧ Fr n0 L ∧ Keep h0 h [ba] ∧ Arv Z h ba kb .byte (2 : Int32) [(.int (nar .byte (c0.toInt8.toInt32))), (.int (nar .byte (c1.toInt8.toInt32)))] (.int (0 : Int32))
set_option maxRecDepth 65536 in
set_option maxHeartbeats 40000000 in
theorem cmp5_2 (l : Launch) (Z : State) (a0 : Array Value) (hw : ∀ d ∈ tables_1, d.before a0 Z = true) (ws : List Jvm.Cond) (ca : Addr) (ba : Addr) (kc : ClassId) (kb : ClassId) (c0 : Int32) (c1 : Int32) (h0 : Heap) (n0 : Nat) (Z0 : n0 ≤ h0.size) (V_ca : Arv Z h0 ca kc .char (2 : Int32) [(.int c0), (.int c1)] (.int (0 : Int32))) (V_ba : Arv Z h0 ba kb .byte (2 : Int32) [(.int (0 : Int32)), (.int (0 : Int32))] (.int (0 : Int32))) (g_ba : n0 ≤ ba) (neab : ca ≠ ba) (hc0 : ¬ (255 : Int32) < c0) (hc1 : ¬ (255 : Int32) < c1) :
    MetFree l (⟨"java/lang/StringUTF16", "compress", "([CI[BII)I"⟩ : MethodName) (head1 (Jvm.Cond.code (⟨"java/lang/StringUTF16", "compress", "([CI[BII)I"⟩ : MethodName) jdk_52_method_21_code 7 (some .int) :: ws) ({ frames := 0, cells := 0, slots := 0, locals := 0 } : Room)) (fun zz UU => zz = #[(.ref ca), (.int (0 : Int32)), (.ref ba), (.int (0 : Int32)), (.int (2 : Int32))] ∧ Z.Warmed39 UU.vm ∧ UU.heap = h0) (fun _ _ _ _ _ => True) (fun _ U o U' => ∃ v L, o = .returned v ∧ Q_cmp5_2 Z ca ba kc kb c0 c1 h0 n0 v U'.heap L ∧ FrameEnd U o U' L ({ frames := 0, cells := 0, slots := 0, locals := 0 } : Room).cells ({ frames := 0, cells := 0, slots := 0, locals := 0 } : Room).slots) := by
  refine MetFree.of_bodySF (plainFor_of_name pn_6) hisR ?_
  intro p e s m args below meth c s₁ Bd hml0 hP hK
  obtain ⟨rfl, hZ, hh⟩ := hP
  have hx := Bd.exec
  have hby := Bd.bytes
  have hml : c.maxLocals = 7 := hml0
  have hown : s.vm.findClass "java/lang/StringUTF16" = some m.cls := findClass_of_methodNamed Bd.named
  have hnm := (name_of_methodNamed Bd.named Bd.method).1
  have hlk : meth.locks = false := BodyLoose.notSynchronized Bd
  have X0 : Stand p l e ({ frames := 0, cells := 0, slots := 0, locals := 0 } : Room) s m #[(.ref ca), (.int (0 : Int32)), (.ref ba), (.int (0 : Int32)), (.int (2 : Int32))] below meth c s₁ [] 0 0 := Stand.of_body Bd
  have e0 : s₁.heap = h0 := by rw [← hh, Bd.state]; rfl
  have N0 := Fr.nil n0
  show own_Go p.tables e below (Q_cmp5_2 Z ca ba kc kb c0 c1 h0 n0) s ({ frames := 0, cells := 0, slots := 0, locals := 0 } : Room).cells ({ frames := 0, cells := 0, slots := 0, locals := 0 } : Room).slots s₁ (entryFrame m #[(.ref ca), (.int (0 : Int32)), (.ref ba), (.int (0 : Int32)), (.int (2 : Int32))] 7)
  rw [ef_cmp5_2 m ca ba]
  refine own_by (T' := s₁) (g' := (mkF m 1 #[.val (.ref ca), .val (.int (0 : Int32)), .val (.ref ba), .val (.int (0 : Int32)), .val (.int (2 : Int32)), .unset, .unset] [(.int (0 : Int32))])) (fun _ k => XS.iconst X0.here hx rfl (hb hby d6_0) k) ?_
  refine own_by (T' := s₁) (g' := (mkF m 3 #[.val (.ref ca), .val (.int (0 : Int32)), .val (.ref ba), .val (.int (0 : Int32)), .val (.int (2 : Int32)), .val (.int (0 : Int32)), .unset] [])) (fun _ k => XS.istore X0.here hx rfl (hb hby d6_1) rfl (l' := #[.val (.ref ca), .val (.int (0 : Int32)), .val (.ref ba), .val (.int (0 : Int32)), .val (.int (2 : Int32)), .val (.int (0 : Int32)), .unset]) rfl k) ?_
  refine own_by (T' := s₁) (g' := (mkF m 5 #[.val (.ref ca), .val (.int (0 : Int32)), .val (.ref ba), .val (.int (0 : Int32)), .val (.int (2 : Int32)), .val (.int (0 : Int32)), .unset] [(.int (0 : Int32))])) (fun _ k => XS.iload X0.here hx rfl (hb hby d6_3) rfl k) ?_
  refine own_by (T' := s₁) (g' := (mkF m 7 #[.val (.ref ca), .val (.int (0 : Int32)), .val (.ref ba), .val (.int (0 : Int32)), .val (.int (2 : Int32)), .val (.int (0 : Int32)), .unset] [(.int (2 : Int32)), (.int (0 : Int32))])) (fun _ k => XS.iload X0.here hx rfl (hb hby d6_5) rfl k) ?_
  refine own_by (T' := s₁) (g' := (mkF m 10 #[.val (.ref ca), .val (.int (0 : Int32)), .val (.ref ba), .val (.int (0 : Int32)), .val (.int (2 : Int32)), .val (.int (0 : Int32)), .unset] [])) (fun _ k => XS.icmpNo X0.here hx rfl (hb hby d6_7) rfl (tlt (by decide)).2.1 k) ?_
  refine own_by (T' := s₁) (g' := (mkF m 11 #[.val (.ref ca), .val (.int (0 : Int32)), .val (.ref ba), .val (.int (0 : Int32)), .val (.int (2 : Int32)), .val (.int (0 : Int32)), .unset] [(.ref ca)])) (fun _ k => XS.aloadN X0.here hx rfl (hb hby d6_10) rfl rfl k) ?_
  refine own_by (T' := s₁) (g' := (mkF m 12 #[.val (.ref ca), .val (.int (0 : Int32)), .val (.ref ba), .val (.int (0 : Int32)), .val (.int (2 : Int32)), .val (.int (0 : Int32)), .unset] [(.int (0 : Int32)), (.ref ca)])) (fun _ k => XS.iloadN X0.here hx rfl (hb hby d6_11) rfl k) ?_
  obtain ⟨cl21, Ar21, q21, S21, N_21, H21, G21⟩ := id V_ca
  have hin21 : ¬ ((0 : Int32) < 0 ∨ cl21.slots.size ≤ ((0 : Int32)).toNatClampNeg) := inb_of S21 ⟨by decide, by decide⟩
  refine own_by (T' := s₁) (g' := (mkF m 13 #[.val (.ref ca), .val (.int (0 : Int32)), .val (.ref ba), .val (.int (0 : Int32)), .val (.int (2 : Int32)), .val (.int (0 : Int32)), .unset] [(.int c0)])) (fun _ k => X0.caload hx (j := (0 : Int32)) (v := (.int c0)) (by rw [e0]; exact Ar21.1) (State.isArrayOf_alike hZ.alike Ar21.2.1) Ar21.2.2 hin21 (Has.at H21 hin21 rfl) (g := (mkF m 12 #[.val (.ref ca), .val (.int (0 : Int32)), .val (.ref ba), .val (.int (0 : Int32)), .val (.int (2 : Int32)), .val (.int (0 : Int32)), .unset] [(.int (0 : Int32)), (.ref ca)])) rfl rfl (hb hby d6_12) _ k) ?_
  refine own_by (T' := s₁) (g' := (mkF m 15 #[.val (.ref ca), .val (.int (0 : Int32)), .val (.ref ba), .val (.int (0 : Int32)), .val (.int (2 : Int32)), .val (.int (0 : Int32)), .val (.int c0)] [])) (fun _ k => XS.istore X0.here hx rfl (hb hby d6_13) rfl (l' := #[.val (.ref ca), .val (.int (0 : Int32)), .val (.ref ba), .val (.int (0 : Int32)), .val (.int (2 : Int32)), .val (.int (0 : Int32)), .val (.int c0)]) rfl k) ?_
  refine own_by (T' := s₁) (g' := (mkF m 17 #[.val (.ref ca), .val (.int (0 : Int32)), .val (.ref ba), .val (.int (0 : Int32)), .val (.int (2 : Int32)), .val (.int (0 : Int32)), .val (.int c0)] [(.int c0)])) (fun _ k => XS.iload X0.here hx rfl (hb hby d6_15) rfl k) ?_
  refine own_by (T' := s₁) (g' := (mkF m 20 #[.val (.ref ca), .val (.int (0 : Int32)), .val (.ref ba), .val (.int (0 : Int32)), .val (.int (2 : Int32)), .val (.int (0 : Int32)), .val (.int c0)] [(.int (255 : Int32)), (.int c0)])) (fun _ k => XS.sipush X0.here hx rfl (hb hby d6_17) k) ?_
  refine own_by (T' := s₁) (g' := (mkF m 26 #[.val (.ref ca), .val (.int (0 : Int32)), .val (.ref ba), .val (.int (0 : Int32)), .val (.int (2 : Int32)), .val (.int (0 : Int32)), .val (.int c0)] [])) (fun _ k => XS.icmpYes X0.here hx rfl (pc0 := 20) (pc' := 26) rfl (hb hby d6_20) rfl (flt hc0).2.2.2 (by decide) (by decide) k) ?_
  refine own_by (T' := s₁) (g' := (mkF m 27 #[.val (.ref ca), .val (.int (0 : Int32)), .val (.ref ba), .val (.int (0 : Int32)), .val (.int (2 : Int32)), .val (.int (0 : Int32)), .val (.int c0)] [(.ref ba)])) (fun _ k => XS.aloadN X0.here hx rfl (hb hby d6_26) rfl rfl k) ?_
  refine own_by (T' := s₁) (g' := (mkF m 28 #[.val (.ref ca), .val (.int (0 : Int32)), .val (.ref ba), .val (.int (0 : Int32)), .val (.int (2 : Int32)), .val (.int (0 : Int32)), .val (.int c0)] [(.int (0 : Int32)), (.ref ba)])) (fun _ k => XS.iloadN X0.here hx rfl (hb hby d6_27) rfl k) ?_
  refine own_by (T' := s₁) (g' := (mkF m 30 #[.val (.ref ca), .val (.int (0 : Int32)), .val (.ref ba), .val (.int (0 : Int32)), .val (.int (2 : Int32)), .val (.int (0 : Int32)), .val (.int c0)] [(.int c0), (.int (0 : Int32)), (.ref ba)])) (fun _ k => XS.iload X0.here hx rfl (hb hby d6_28) rfl k) ?_
  refine own_by (T' := s₁) (g' := (mkF m 31 #[.val (.ref ca), .val (.int (0 : Int32)), .val (.ref ba), .val (.int (0 : Int32)), .val (.int (2 : Int32)), .val (.int (0 : Int32)), .val (.int c0)] [(.int (c0.toInt8.toInt32)), (.int (0 : Int32)), (.ref ba)])) (fun _ k => XS.i2b X0.here hx rfl (hb hby d6_30) rfl k) ?_
  obtain ⟨cl22, Ar22, q22, S22, N_22, H22, G22⟩ := id V_ba
  have hin22 : ¬ ((0 : Int32) < 0 ∨ cl22.slots.size ≤ ((0 : Int32)).toNatClampNeg) := inb_of S22 ⟨by decide, by decide⟩
  obtain ⟨T23, h23, X23, e23, W23, st23⟩ := stB X0 hx hZ e0 Ar22 (j := (0 : Int32)) hin22 (g := (mkF m 31 #[.val (.ref ca), .val (.int (0 : Int32)), .val (.ref ba), .val (.int (0 : Int32)), .val (.int (2 : Int32)), .val (.int (0 : Int32)), .val (.int c0)] [(.int (c0.toInt8.toInt32)), (.int (0 : Int32)), (.ref ba)])) rfl rfl (hb hby d6_31)
  have V23 : Arv Z h23 ba kb .byte (2 : Int32) [(.int (nar .byte (c0.toInt8.toInt32))), (.int (0 : Int32))] (.int (0 : Int32)) := Arv.set Ar22 q22 S22 N_22 H22 G22 (fits_nar_byte _) W23 0 rfl (Nat.le_of_ble_eq_true rfl)
  have K23 : Keep h0 h23 [ba] := Keep.wr (Keep.refl h0 [ba]) W23 (Or.inl (List.mem_of_getElem? (i := 0) rfl))
  have N23 := Fr.snoc X23 N0 g_ba
  refine own_by (T' := T23) (g' := (mkF m 32 #[.val (.ref ca), .val (.int (0 : Int32)), .val (.ref ba), .val (.int (0 : Int32)), .val (.int (2 : Int32)), .val (.int (0 : Int32)), .val (.int c0)] [])) (fun _ k => st23 _ k) ?_
  refine own_by (T' := T23) (g' := (mkF m 35 #[.val (.ref ca), .val (.int (1 : Int32)), .val (.ref ba), .val (.int (0 : Int32)), .val (.int (2 : Int32)), .val (.int (0 : Int32)), .val (.int c0)] [])) (fun _ k => XS.iinc X23.here hx rfl (hb hby d6_32) rfl (l' := #[.val (.ref ca), .val (.int (1 : Int32)), .val (.ref ba), .val (.int (0 : Int32)), .val (.int (2 : Int32)), .val (.int (0 : Int32)), .val (.int c0)]) rfl k) ?_
  refine own_by (T' := T23) (g' := (mkF m 38 #[.val (.ref ca), .val (.int (1 : Int32)), .val (.ref ba), .val (.int (1 : Int32)), .val (.int (2 : Int32)), .val (.int (0 : Int32)), .val (.int c0)] [])) (fun _ k => XS.iinc X23.here hx rfl (hb hby d6_35) rfl (l' := #[.val (.ref ca), .val (.int (1 : Int32)), .val (.ref ba), .val (.int (1 : Int32)), .val (.int (2 : Int32)), .val (.int (0 : Int32)), .val (.int c0)]) rfl k) ?_
  refine own_by (T' := T23) (g' := (mkF m 41 #[.val (.ref ca), .val (.int (1 : Int32)), .val (.ref ba), .val (.int (1 : Int32)), .val (.int (2 : Int32)), .val (.int (1 : Int32)), .val (.int c0)] [])) (fun _ k => XS.iinc X23.here hx rfl (hb hby d6_38) rfl (l' := #[.val (.ref ca), .val (.int (1 : Int32)), .val (.ref ba), .val (.int (1 : Int32)), .val (.int (2 : Int32)), .val (.int (1 : Int32)), .val (.int c0)]) rfl k) ?_
  refine own_by (T' := T23) (g' := (mkF m 3 #[.val (.ref ca), .val (.int (1 : Int32)), .val (.ref ba), .val (.int (1 : Int32)), .val (.int (2 : Int32)), .val (.int (1 : Int32)), .val (.int c0)] [])) (fun _ k => XS.goto X23.here hx rfl (pc0 := 41) (pc' := 3) rfl (hb hby d6_41) (by decide) (by decide) k) ?_
  refine own_by (T' := T23) (g' := (mkF m 5 #[.val (.ref ca), .val (.int (1 : Int32)), .val (.ref ba), .val (.int (1 : Int32)), .val (.int (2 : Int32)), .val (.int (1 : Int32)), .val (.int c0)] [(.int (1 : Int32))])) (fun _ k => XS.iload X23.here hx rfl (hb hby d6_3) rfl k) ?_
  refine own_by (T' := T23) (g' := (mkF m 7 #[.val (.ref ca), .val (.int (1 : Int32)), .val (.ref ba), .val (.int (1 : Int32)), .val (.int (2 : Int32)), .val (.int (1 : Int32)), .val (.int c0)] [(.int (2 : Int32)), (.int (1 : Int32))])) (fun _ k => XS.iload X23.here hx rfl (hb hby d6_5) rfl k) ?_
  refine own_by (T' := T23) (g' := (mkF m 10 #[.val (.ref ca), .val (.int (1 : Int32)), .val (.ref ba), .val (.int (1 : Int32)), .val (.int (2 : Int32)), .val (.int (1 : Int32)), .val (.int c0)] [])) (fun _ k => XS.icmpNo X23.here hx rfl (hb hby d6_7) rfl (tlt (by decide)).2.1 k) ?_
  refine own_by (T' := T23) (g' := (mkF m 11 #[.val (.ref ca), .val (.int (1 : Int32)), .val (.ref ba), .val (.int (1 : Int32)), .val (.int (2 : Int32)), .val (.int (1 : Int32)), .val (.int c0)] [(.ref ca)])) (fun _ k => XS.aloadN X23.here hx rfl (hb hby d6_10) rfl rfl k) ?_
  refine own_by (T' := T23) (g' := (mkF m 12 #[.val (.ref ca), .val (.int (1 : Int32)), .val (.ref ba), .val (.int (1 : Int32)), .val (.int (2 : Int32)), .val (.int (1 : Int32)), .val (.int c0)] [(.int (1 : Int32)), (.ref ca)])) (fun _ k => XS.iloadN X23.here hx rfl (hb hby d6_11) rfl k) ?_
  obtain ⟨cl24, Ar24, q24, S24, N_24, H24, G24⟩ := id (Arv.other V_ca W23 neab)
  have hin24 : ¬ ((1 : Int32) < 0 ∨ cl24.slots.size ≤ ((1 : Int32)).toNatClampNeg) := inb_of S24 ⟨by decide, by decide⟩
  refine own_by (T' := T23) (g' := (mkF m 13 #[.val (.ref ca), .val (.int (1 : Int32)), .val (.ref ba), .val (.int (1 : Int32)), .val (.int (2 : Int32)), .val (.int (1 : Int32)), .val (.int c0)] [(.int c1)])) (fun _ k => X23.caload hx (j := (1 : Int32)) (v := (.int c1)) (by rw [e23]; exact Ar24.1) (State.isArrayOf_alike hZ.alike Ar24.2.1) Ar24.2.2 hin24 (Has.at H24 hin24 rfl) (g := (mkF m 12 #[.val (.ref ca), .val (.int (1 : Int32)), .val (.ref ba), .val (.int (1 : Int32)), .val (.int (2 : Int32)), .val (.int (1 : Int32)), .val (.int c0)] [(.int (1 : Int32)), (.ref ca)])) rfl rfl (hb hby d6_12) _ k) ?_
  refine own_by (T' := T23) (g' := (mkF m 15 #[.val (.ref ca), .val (.int (1 : Int32)), .val (.ref ba), .val (.int (1 : Int32)), .val (.int (2 : Int32)), .val (.int (1 : Int32)), .val (.int c1)] [])) (fun _ k => XS.istore X23.here hx rfl (hb hby d6_13) rfl (l' := #[.val (.ref ca), .val (.int (1 : Int32)), .val (.ref ba), .val (.int (1 : Int32)), .val (.int (2 : Int32)), .val (.int (1 : Int32)), .val (.int c1)]) rfl k) ?_
  refine own_by (T' := T23) (g' := (mkF m 17 #[.val (.ref ca), .val (.int (1 : Int32)), .val (.ref ba), .val (.int (1 : Int32)), .val (.int (2 : Int32)), .val (.int (1 : Int32)), .val (.int c1)] [(.int c1)])) (fun _ k => XS.iload X23.here hx rfl (hb hby d6_15) rfl k) ?_
  refine own_by (T' := T23) (g' := (mkF m 20 #[.val (.ref ca), .val (.int (1 : Int32)), .val (.ref ba), .val (.int (1 : Int32)), .val (.int (2 : Int32)), .val (.int (1 : Int32)), .val (.int c1)] [(.int (255 : Int32)), (.int c1)])) (fun _ k => XS.sipush X23.here hx rfl (hb hby d6_17) k) ?_
  refine own_by (T' := T23) (g' := (mkF m 26 #[.val (.ref ca), .val (.int (1 : Int32)), .val (.ref ba), .val (.int (1 : Int32)), .val (.int (2 : Int32)), .val (.int (1 : Int32)), .val (.int c1)] [])) (fun _ k => XS.icmpYes X23.here hx rfl (pc0 := 20) (pc' := 26) rfl (hb hby d6_20) rfl (flt hc1).2.2.2 (by decide) (by decide) k) ?_
  refine own_by (T' := T23) (g' := (mkF m 27 #[.val (.ref ca), .val (.int (1 : Int32)), .val (.ref ba), .val (.int (1 : Int32)), .val (.int (2 : Int32)), .val (.int (1 : Int32)), .val (.int c1)] [(.ref ba)])) (fun _ k => XS.aloadN X23.here hx rfl (hb hby d6_26) rfl rfl k) ?_
  refine own_by (T' := T23) (g' := (mkF m 28 #[.val (.ref ca), .val (.int (1 : Int32)), .val (.ref ba), .val (.int (1 : Int32)), .val (.int (2 : Int32)), .val (.int (1 : Int32)), .val (.int c1)] [(.int (1 : Int32)), (.ref ba)])) (fun _ k => XS.iloadN X23.here hx rfl (hb hby d6_27) rfl k) ?_
  refine own_by (T' := T23) (g' := (mkF m 30 #[.val (.ref ca), .val (.int (1 : Int32)), .val (.ref ba), .val (.int (1 : Int32)), .val (.int (2 : Int32)), .val (.int (1 : Int32)), .val (.int c1)] [(.int c1), (.int (1 : Int32)), (.ref ba)])) (fun _ k => XS.iload X23.here hx rfl (hb hby d6_28) rfl k) ?_
  refine own_by (T' := T23) (g' := (mkF m 31 #[.val (.ref ca), .val (.int (1 : Int32)), .val (.ref ba), .val (.int (1 : Int32)), .val (.int (2 : Int32)), .val (.int (1 : Int32)), .val (.int c1)] [(.int (c1.toInt8.toInt32)), (.int (1 : Int32)), (.ref ba)])) (fun _ k => XS.i2b X23.here hx rfl (hb hby d6_30) rfl k) ?_
  obtain ⟨cl25, Ar25, q25, S25, N_25, H25, G25⟩ := id V23
  have hin25 : ¬ ((1 : Int32) < 0 ∨ cl25.slots.size ≤ ((1 : Int32)).toNatClampNeg) := inb_of S25 ⟨by decide, by decide⟩
  obtain ⟨T26, h26, X26, e26, W26, st26⟩ := stB X23 hx hZ e23 Ar25 (j := (1 : Int32)) hin25 (g := (mkF m 31 #[.val (.ref ca), .val (.int (1 : Int32)), .val (.ref ba), .val (.int (1 : Int32)), .val (.int (2 : Int32)), .val (.int (1 : Int32)), .val (.int c1)] [(.int (c1.toInt8.toInt32)), (.int (1 : Int32)), (.ref ba)])) rfl rfl (hb hby d6_31)
  have V26 : Arv Z h26 ba kb .byte (2 : Int32) [(.int (nar .byte (c0.toInt8.toInt32))), (.int (nar .byte (c1.toInt8.toInt32)))] (.int (0 : Int32)) := Arv.set Ar25 q25 S25 N_25 H25 G25 (fits_nar_byte _) W26 1 rfl (Nat.le_of_ble_eq_true rfl)
  have K26 : Keep h0 h26 [ba] := Keep.wr K23 W26 (Or.inl (List.mem_of_getElem? (i := 0) rfl))
  have N26 := Fr.snoc X26 N23 g_ba
  refine own_by (T' := T26) (g' := (mkF m 32 #[.val (.ref ca), .val (.int (1 : Int32)), .val (.ref ba), .val (.int (1 : Int32)), .val (.int (2 : Int32)), .val (.int (1 : Int32)), .val (.int c1)] [])) (fun _ k => st26 _ k) ?_
  refine own_by (T' := T26) (g' := (mkF m 35 #[.val (.ref ca), .val (.int (2 : Int32)), .val (.ref ba), .val (.int (1 : Int32)), .val (.int (2 : Int32)), .val (.int (1 : Int32)), .val (.int c1)] [])) (fun _ k => XS.iinc X26.here hx rfl (hb hby d6_32) rfl (l' := #[.val (.ref ca), .val (.int (2 : Int32)), .val (.ref ba), .val (.int (1 : Int32)), .val (.int (2 : Int32)), .val (.int (1 : Int32)), .val (.int c1)]) rfl k) ?_
  refine own_by (T' := T26) (g' := (mkF m 38 #[.val (.ref ca), .val (.int (2 : Int32)), .val (.ref ba), .val (.int (2 : Int32)), .val (.int (2 : Int32)), .val (.int (1 : Int32)), .val (.int c1)] [])) (fun _ k => XS.iinc X26.here hx rfl (hb hby d6_35) rfl (l' := #[.val (.ref ca), .val (.int (2 : Int32)), .val (.ref ba), .val (.int (2 : Int32)), .val (.int (2 : Int32)), .val (.int (1 : Int32)), .val (.int c1)]) rfl k) ?_
  refine own_by (T' := T26) (g' := (mkF m 41 #[.val (.ref ca), .val (.int (2 : Int32)), .val (.ref ba), .val (.int (2 : Int32)), .val (.int (2 : Int32)), .val (.int (2 : Int32)), .val (.int c1)] [])) (fun _ k => XS.iinc X26.here hx rfl (hb hby d6_38) rfl (l' := #[.val (.ref ca), .val (.int (2 : Int32)), .val (.ref ba), .val (.int (2 : Int32)), .val (.int (2 : Int32)), .val (.int (2 : Int32)), .val (.int c1)]) rfl k) ?_
  refine own_by (T' := T26) (g' := (mkF m 3 #[.val (.ref ca), .val (.int (2 : Int32)), .val (.ref ba), .val (.int (2 : Int32)), .val (.int (2 : Int32)), .val (.int (2 : Int32)), .val (.int c1)] [])) (fun _ k => XS.goto X26.here hx rfl (pc0 := 41) (pc' := 3) rfl (hb hby d6_41) (by decide) (by decide) k) ?_
  refine own_by (T' := T26) (g' := (mkF m 5 #[.val (.ref ca), .val (.int (2 : Int32)), .val (.ref ba), .val (.int (2 : Int32)), .val (.int (2 : Int32)), .val (.int (2 : Int32)), .val (.int c1)] [(.int (2 : Int32))])) (fun _ k => XS.iload X26.here hx rfl (hb hby d6_3) rfl k) ?_
  refine own_by (T' := T26) (g' := (mkF m 7 #[.val (.ref ca), .val (.int (2 : Int32)), .val (.ref ba), .val (.int (2 : Int32)), .val (.int (2 : Int32)), .val (.int (2 : Int32)), .val (.int c1)] [(.int (2 : Int32)), (.int (2 : Int32))])) (fun _ k => XS.iload X26.here hx rfl (hb hby d6_5) rfl k) ?_
  refine own_by (T' := T26) (g' := (mkF m 44 #[.val (.ref ca), .val (.int (2 : Int32)), .val (.ref ba), .val (.int (2 : Int32)), .val (.int (2 : Int32)), .val (.int (2 : Int32)), .val (.int c1)] [])) (fun _ k => XS.icmpYes X26.here hx rfl (pc0 := 7) (pc' := 44) rfl (hb hby d6_7) rfl (flt (by decide)).2.1 (by decide) (by decide) k) ?_
  refine own_by (T' := T26) (g' := (mkF m 46 #[.val (.ref ca), .val (.int (2 : Int32)), .val (.ref ba), .val (.int (2 : Int32)), .val (.int (2 : Int32)), .val (.int (2 : Int32)), .val (.int c1)] [(.int (2 : Int32))])) (fun _ k => XS.iload X26.here hx rfl (hb hby d6_44) rfl k) ?_
  refine own_ret X26 hlk (v := some (.int (2 : Int32))) (fun h => by rw [Bd.returns] at h; cases h) (fun fs hr => retI X26 hx Bd.returns (hb hby d6_46) hr) ?_ (by decide) (by decide)
  rw [e26]
  exact ⟨rfl, N26, K26, V26⟩
theorem d5_0 : decode jdk_52_method_16_code 0 = .ok (.iload_n 2, 1) := by decide +kernel
theorem d5_1 : decode jdk_52_method_16_code 1 = .ok (.newarray .byte, 2) := by decide +kernel
theorem d5_3 : decode jdk_52_method_16_code 3 = .ok (.astore_n 3, 1) := by decide +kernel
theorem d5_4 : decode jdk_52_method_16_code 4 = .ok (.aload_n 0, 1) := by decide +kernel
theorem d5_5 : decode jdk_52_method_16_code 5 = .ok (.iload_n 1, 1) := by decide +kernel
theorem d5_6 : decode jdk_52_method_16_code 6 = .ok (.aload_n 3, 1) := by decide +kernel
theorem d5_7 : decode jdk_52_method_16_code 7 = .ok (.iconst 0, 1) := by decide +kernel
theorem d5_8 : decode jdk_52_method_16_code 8 = .ok (.iload_n 2, 1) := by decide +kernel
theorem d5_9 : decode jdk_52_method_16_code 9 = .ok (.invokestatic 115, 3) := by decide +kernel
theorem d5_12 : decode jdk_52_method_16_code 12 = .ok (.istore 4, 2) := by decide +kernel
theorem d5_14 : decode jdk_52_method_16_code 14 = .ok (.iload 4, 2) := by decide +kernel
theorem d5_16 : decode jdk_52_method_16_code 16 = .ok (.iload_n 2, 1) := by decide +kernel
theorem d5_17 : decode jdk_52_method_16_code 17 = .ok (.if_icmp .eq 40, 3) := by decide +kernel
theorem d5_57 : decode jdk_52_method_16_code 57 = .ok (.aload_n 3, 1) := by decide +kernel
theorem d5_58 : decode jdk_52_method_16_code 58 = .ok (.areturn, 1) := by decide +kernel
theorem pn_5 : plainName "java/lang/StringUTF16" = true := by first | (simp [plainName, overriddenIn]; done) | decide +kernel
theorem ef_cmp3_2 (m : MethodId) (ca : Addr) : entryFrame m #[(.ref ca), (.int (0 : Int32)), (.int (2 : Int32))] 6 = mkF m 0 #[.val (.ref ca), .val (.int (0 : Int32)), .val (.int (2 : Int32)), .unset, .unset, .unset] [] := by first | (simp [entryFrame, mkF, argsToLocals, Value.category]; done) | rfl
def Q_cmp3_2 (Z : State) (ca : Addr) (kc : ClassId) (c0 : Int32) (c1 : Int32) (h0 : Heap) (n0 : Nat) (v : Option Value) (h : Heap) (L : List Loc) : Prop := ∃ (t : Addr) (kb : ClassId), v = some (.ref t) ∧ Fr n0 L ∧ Keep h0 h [] ∧ h0.size ≤ t ∧ Arv Z h t kb .byte (2 : Int32) [(.int (nar .byte (c0.toInt8.toInt32))), (.int (nar .byte (c1.toInt8.toInt32)))] (.int (0 : Int32))
set_option maxRecDepth 65536 in
set_option maxHeartbeats 40000000 in
theorem cmp3_2 (l : Launch) (Z : State) (a0 : Array Value) (hw : ∀ d ∈ tables_1, d.before a0 Z = true) (ws : List Jvm.Cond) (ca : Addr) (kc : ClassId) (c0 : Int32) (c1 : Int32) (h0 : Heap) (n0 : Nat) (Z0 : n0 ≤ h0.size) (V_ca : Arv Z h0 ca kc .char (2 : Int32) [(.int c0), (.int c1)] (.int (0 : Int32))) (hc0 : ¬ (255 : Int32) < c0) (hc1 : ¬ (255 : Int32) < c1) :
    MetFree l (⟨"java/lang/StringUTF16", "compress", "([CII)[B"⟩ : MethodName) (head1 (Jvm.Cond.code (⟨"java/lang/StringUTF16", "compress", "([CII)[B"⟩ : MethodName) jdk_52_method_16_code 6 (some (.array .byte)) :: ws) ({ frames := 1, cells := 1, slots := 2, locals := 18 } : Room)) (fun zz UU => zz = #[(.ref ca), (.int (0 : Int32)), (.int (2 : Int32))] ∧ Z.Warmed39 UU.vm ∧ UU.heap = h0) (fun _ _ _ _ _ => True) (fun _ U o U' => ∃ v L, o = .returned v ∧ Q_cmp3_2 Z ca kc c0 c1 h0 n0 v U'.heap L ∧ FrameEnd U o U' L ({ frames := 1, cells := 1, slots := 2, locals := 18 } : Room).cells ({ frames := 1, cells := 1, slots := 2, locals := 18 } : Room).slots) := by
  refine MetFree.of_bodySF (plainFor_of_name pn_5) hisR ?_
  intro p e s m args below meth c s₁ Bd hml0 hP hK
  obtain ⟨rfl, hZ, hh⟩ := hP
  have hx := Bd.exec
  have hby := Bd.bytes
  have hml : c.maxLocals = 6 := hml0
  have hown : s.vm.findClass "java/lang/StringUTF16" = some m.cls := findClass_of_methodNamed Bd.named
  have hnm := (name_of_methodNamed Bd.named Bd.method).1
  have hlk : meth.locks = false := BodyLoose.notSynchronized Bd
  have X0 : Stand p l e ({ frames := 1, cells := 1, slots := 2, locals := 18 } : Room) s m #[(.ref ca), (.int (0 : Int32)), (.int (2 : Int32))] below meth c s₁ [] 0 0 := Stand.of_body Bd
  have e0 : s₁.heap = h0 := by rw [← hh, Bd.state]; rfl
  have N0 := Fr.nil n0
  show own_Go p.tables e below (Q_cmp3_2 Z ca kc c0 c1 h0 n0) s ({ frames := 1, cells := 1, slots := 2, locals := 18 } : Room).cells ({ frames := 1, cells := 1, slots := 2, locals := 18 } : Room).slots s₁ (entryFrame m #[(.ref ca), (.int (0 : Int32)), (.int (2 : Int32))] 6)
  rw [ef_cmp3_2 m ca]
  refine own_by (T' := s₁) (g' := (mkF m 1 #[.val (.ref ca), .val (.int (0 : Int32)), .val (.int (2 : Int32)), .unset, .unset, .unset] [(.int (2 : Int32))])) (fun _ k => XS.iloadN X0.here hx rfl (hb hby d5_0) rfl k) ?_
  obtain ⟨T21, h21, k21, X21, e21, E21, A21, st21⟩ := newP X0 hx hZ (hw _ (List.mem_of_getElem? (i := 7) rfl)) e0 (g := (mkF m 1 #[.val (.ref ca), .val (.int (0 : Int32)), .val (.int (2 : Int32)), .unset, .unset, .unset] [(.int (2 : Int32))])) rfl (hb hby d5_1) rfl (by decide) (cap := 2) (by decide) (by decide) (by decide) (by decide)
  obtain ⟨b21, g21⟩ : ∃ z, z = h0.size := ⟨_, rfl⟩
  rw [← g21] at A21 st21
  have V_b21 : Arv Z h21 b21 k21 .byte (2 : Int32) [(.int (0 : Int32)), (.int (0 : Int32))] (.int (0 : Int32)) := (Arv.new A21 (by decide)).pad (pad_rep [] (.int (0 : Int32)) 2)
  have g_b21 : n0 ≤ b21 := Nat.le_trans Z0 (Nat.le_of_eq g21.symm)
  have sz_b21 : h0.size ≤ b21 := Nat.le_trans (Keep.refl h0 []).1 (Nat.le_of_eq g21.symm)
  have K21 : Keep h0 h21 [] := Keep.ext (Keep.refl h0 []) E21
  refine own_by (T' := T21) (g' := (mkF m 3 #[.val (.ref ca), .val (.int (0 : Int32)), .val (.int (2 : Int32)), .unset, .unset, .unset] [(.ref b21)])) (fun _ k => st21 _ k) ?_
  refine own_by (T' := T21) (g' := (mkF m 4 #[.val (.ref ca), .val (.int (0 : Int32)), .val (.int (2 : Int32)), .val (.ref b21), .unset, .unset] [])) (fun _ k => XS.astoreN X21.here hx rfl (hb hby d5_3) rfl rfl (l' := #[.val (.ref ca), .val (.int (0 : Int32)), .val (.int (2 : Int32)), .val (.ref b21), .unset, .unset]) rfl k) ?_
  refine own_by (T' := T21) (g' := (mkF m 5 #[.val (.ref ca), .val (.int (0 : Int32)), .val (.int (2 : Int32)), .val (.ref b21), .unset, .unset] [(.ref ca)])) (fun _ k => XS.aloadN X21.here hx rfl (hb hby d5_4) rfl rfl k) ?_
  refine own_by (T' := T21) (g' := (mkF m 6 #[.val (.ref ca), .val (.int (0 : Int32)), .val (.int (2 : Int32)), .val (.ref b21), .unset, .unset] [(.int (0 : Int32)), (.ref ca)])) (fun _ k => XS.iloadN X21.here hx rfl (hb hby d5_5) rfl k) ?_
  refine own_by (T' := T21) (g' := (mkF m 7 #[.val (.ref ca), .val (.int (0 : Int32)), .val (.int (2 : Int32)), .val (.ref b21), .unset, .unset] [(.ref b21), (.int (0 : Int32)), (.ref ca)])) (fun _ k => XS.aloadN X21.here hx rfl (hb hby d5_6) rfl rfl k) ?_
  refine own_by (T' := T21) (g' := (mkF m 8 #[.val (.ref ca), .val (.int (0 : Int32)), .val (.int (2 : Int32)), .val (.ref b21), .unset, .unset] [(.int (0 : Int32)), (.ref b21), (.int (0 : Int32)), (.ref ca)])) (fun _ k => XS.iconst X21.here hx rfl (hb hby d5_7) k) ?_
  refine own_by (T' := T21) (g' := (mkF m 9 #[.val (.ref ca), .val (.int (0 : Int32)), .val (.int (2 : Int32)), .val (.ref b21), .unset, .unset] [(.int (2 : Int32)), (.int (0 : Int32)), (.ref b21), (.int (0 : Int32)), (.ref ca)])) (fun _ k => XS.iloadN X21.here hx rfl (hb hby d5_8) rfl k) ?_
  obtain ⟨_, _, ⟨T22, L22, k22, n22⟩, -, X22, ⟨Lc22, hQ22, l22, y22, z22⟩, st22⟩ := Jvm.LawKit.callS X21 hx (y := (⟨"java/lang/StringUTF16", "compress", "([CI[BII)I"⟩ : MethodName)) hown (mvT hZ (hw _ (List.mem_of_getElem? (i := 27) rfl))) (mvT hZ (hw _ (List.mem_of_getElem? (i := 28) rfl))) (mvT hZ (hw _ (List.mem_of_getElem? (i := 25) rfl))) (mvT hZ (hw _ (List.mem_of_getElem? (i := 29) rfl))) (by decide) (backOf (W := 0) (cmp5_2 l Z a0 hw [] ca b21 kc k21 c0 c1 h21 n0 (Nat.le_trans Z0 E21.1) (Arv.ext V_ca E21) V_b21 g_b21 (Nat.ne_of_lt (Nat.lt_of_lt_of_le V_ca.lt (Nat.le_of_eq g21.symm))) hc0 hc1) hZ (hw _ (List.mem_of_getElem? (i := 29) rfl)) (hw _ (List.mem_of_getElem? (i := 25) rfl)) (by decide) (by decide)) (g := (mkF m 9 #[.val (.ref ca), .val (.int (0 : Int32)), .val (.int (2 : Int32)), .val (.ref b21), .unset, .unset] [(.int (2 : Int32)), (.int (0 : Int32)), (.ref b21), (.int (0 : Int32)), (.ref ca)])) rfl (by rw [hml]; rfl) (argsL := [(.ref ca), (.int (0 : Int32)), (.ref b21), (.int (0 : Int32)), (.int (2 : Int32))]) (rest := []) (lenOf pd_0 rfl) rfl (by show 2 * 0 + _ ≤ _; exact Nat.le_of_eq rfl) (hb hby d5_9) (fun _ _ => ⟨rfl, e21, (by decide : (0 + 1) + 0 ≤ _), (by decide : (0 + 2) + 0 ≤ _)⟩)
  dsimp only [Pt.U, Pt.locs, Pt.cells, Pt.slots] at X22 l22 y22 z22 st22 hQ22
  subst l22 y22 z22
  obtain ⟨rfl, N22q, K22, V5_22⟩ := hQ22
  have N22 := Fr.app N0 N22q
  have KK22 : Keep h0 T22.heap [] := Keep.trans K21 K22 (allS (Or.inr sz_b21) all0)
  refine own_by (T' := T22) (g' := (mkF m 12 #[.val (.ref ca), .val (.int (0 : Int32)), .val (.int (2 : Int32)), .val (.ref b21), .unset, .unset] [(.int (2 : Int32))])) (fun _ k => st22 _ k) ?_
  refine own_by (T' := T22) (g' := (mkF m 14 #[.val (.ref ca), .val (.int (0 : Int32)), .val (.int (2 : Int32)), .val (.ref b21), .val (.int (2 : Int32)), .unset] [])) (fun _ k => XS.istore X22.here hx rfl (hb hby d5_12) rfl (l' := #[.val (.ref ca), .val (.int (0 : Int32)), .val (.int (2 : Int32)), .val (.ref b21), .val (.int (2 : Int32)), .unset]) rfl k) ?_
  refine own_by (T' := T22) (g' := (mkF m 16 #[.val (.ref ca), .val (.int (0 : Int32)), .val (.int (2 : Int32)), .val (.ref b21), .val (.int (2 : Int32)), .unset] [(.int (2 : Int32))])) (fun _ k => XS.iload X22.here hx rfl (hb hby d5_14) rfl k) ?_
  refine own_by (T' := T22) (g' := (mkF m 17 #[.val (.ref ca), .val (.int (0 : Int32)), .val (.int (2 : Int32)), .val (.ref b21), .val (.int (2 : Int32)), .unset] [(.int (2 : Int32)), (.int (2 : Int32))])) (fun _ k => XS.iloadN X22.here hx rfl (hb hby d5_16) rfl k) ?_
  refine own_by (T' := T22) (g' := (mkF m 57 #[.val (.ref ca), .val (.int (0 : Int32)), .val (.int (2 : Int32)), .val (.ref b21), .val (.int (2 : Int32)), .unset] [])) (fun _ k => XS.icmpYes X22.here hx rfl (pc0 := 17) (pc' := 57) rfl (hb hby d5_17) rfl (teq (by decide)).1 (by decide) (by decide) k) ?_
  refine own_by (T' := T22) (g' := (mkF m 58 #[.val (.ref ca), .val (.int (0 : Int32)), .val (.int (2 : Int32)), .val (.ref b21), .val (.int (2 : Int32)), .unset] [(.ref b21)])) (fun _ k => XS.aloadN X22.here hx rfl (hb hby d5_57) rfl rfl k) ?_
  refine own_ret X22 hlk (v := some (.ref b21)) (fun h => by rw [Bd.returns] at h; cases h) (fun fs hr => retOut X22 hx Bd.returns rfl (Or.inr (Or.inr (Or.inr (Or.inr ⟨rfl, rfl, rfl⟩)))) (hb hby d5_58) hr) ?_ (by decide) (by decide)
  exact ⟨_, _, rfl, N22, KK22, sz_b21, V5_22⟩
theorem d7_0 : decode jdk_52_method_15_code 0 = .ok (.iload_n 1, 1) := by decide +kernel
theorem d7_1 : decode jdk_52_method_15_code 1 = .ok (.aload_n 0, 1) := by decide +kernel
theorem d7_2 : decode jdk_52_method_15_code 2 = .ok (.arraylength, 1) := by decide +kernel
theorem d7_3 : decode jdk_52_method_15_code 3 = .ok (.isub, 1) := by decide +kernel
theorem d7_4 : decode jdk_52_method_15_code 4 = .ok (.bipush 31, 2) := by decide +kernel
theorem d7_6 : decode jdk_52_method_15_code 6 = .ok (.iushr, 1) := by decide +kernel
theorem d7_7 : decode jdk_52_method_15_code 7 = .ok (.i2b, 1) := by decide +kernel
theorem d7_8 : decode jdk_52_method_15_code 8 = .ok (.ireturn, 1) := by decide +kernel
theorem pn_7 : plainName "java/lang/StringUTF16" = true := by first | (simp [plainName, overriddenIn]; done) | decide +kernel
theorem ef_cod_2 (m : MethodId) (ba : Addr) : entryFrame m #[(.ref ba), (.int (2 : Int32))] 2 = mkF m 0 #[.val (.ref ba), .val (.int (2 : Int32))] [] := by first | (simp [entryFrame, mkF, argsToLocals, Value.category]; done) | rfl
def Q_cod_2 (Z : State) (ba : Addr) (kb : ClassId) (c0 : Int32) (c1 : Int32) (h0 : Heap) (n0 : Nat) (v : Option Value) (h : Heap) (L : List Loc) : Prop := v = some (.int (0 : Int32)) ∧ Fr n0 L ∧ h = h0
set_option maxRecDepth 65536 in
set_option maxHeartbeats 40000000 in
theorem cod_2 (l : Launch) (Z : State) (a0 : Array Value) (hw : ∀ d ∈ tables_1, d.before a0 Z = true) (ws : List Jvm.Cond) (ba : Addr) (kb : ClassId) (c0 : Int32) (c1 : Int32) (h0 : Heap) (n0 : Nat) (Z0 : n0 ≤ h0.size) (V_ba : Arv Z h0 ba kb .byte (2 : Int32) [(.int (nar .byte (c0.toInt8.toInt32))), (.int (nar .byte (c1.toInt8.toInt32)))] (.int (0 : Int32))) :
    MetFree l (⟨"java/lang/StringUTF16", "coderFromArrayLen", "([BI)B"⟩ : MethodName) (head1 (Jvm.Cond.code (⟨"java/lang/StringUTF16", "coderFromArrayLen", "([BI)B"⟩ : MethodName) jdk_52_method_15_code 2 (some .byte) :: ws) ({ frames := 0, cells := 0, slots := 0, locals := 0 } : Room)) (fun zz UU => zz = #[(.ref ba), (.int (2 : Int32))] ∧ Z.Warmed39 UU.vm ∧ UU.heap = h0) (fun _ _ _ _ _ => True) (fun _ U o U' => ∃ v L, o = .returned v ∧ Q_cod_2 Z ba kb c0 c1 h0 n0 v U'.heap L ∧ FrameEnd U o U' L ({ frames := 0, cells := 0, slots := 0, locals := 0 } : Room).cells ({ frames := 0, cells := 0, slots := 0, locals := 0 } : Room).slots) := by
  refine MetFree.of_bodySF (plainFor_of_name pn_7) hisR ?_
  intro p e s m args below meth c s₁ Bd hml0 hP hK
  obtain ⟨rfl, hZ, hh⟩ := hP
  have hx := Bd.exec
  have hby := Bd.bytes
  have hml : c.maxLocals = 2 := hml0
  have hown : s.vm.findClass "java/lang/StringUTF16" = some m.cls := findClass_of_methodNamed Bd.named
  have hnm := (name_of_methodNamed Bd.named Bd.method).1
  have hlk : meth.locks = false := BodyLoose.notSynchronized Bd
  have X0 : Stand p l e ({ frames := 0, cells := 0, slots := 0, locals := 0 } : Room) s m #[(.ref ba), (.int (2 : Int32))] below meth c s₁ [] 0 0 := Stand.of_body Bd
  have e0 : s₁.heap = h0 := by rw [← hh, Bd.state]; rfl
  have N0 := Fr.nil n0
  show own_Go p.tables e below (Q_cod_2 Z ba kb c0 c1 h0 n0) s ({ frames := 0, cells := 0, slots := 0, locals := 0 } : Room).cells ({ frames := 0, cells := 0, slots := 0, locals := 0 } : Room).slots s₁ (entryFrame m #[(.ref ba), (.int (2 : Int32))] 2)
  rw [ef_cod_2 m ba]
  refine own_by (T' := s₁) (g' := (mkF m 1 #[.val (.ref ba), .val (.int (2 : Int32))] [(.int (2 : Int32))])) (fun _ k => XS.iloadN X0.here hx rfl (hb hby d7_0) rfl k) ?_
  refine own_by (T' := s₁) (g' := (mkF m 2 #[.val (.ref ba), .val (.int (2 : Int32))] [(.ref ba), (.int (2 : Int32))])) (fun _ k => XS.aloadN X0.here hx rfl (hb hby d7_1) rfl rfl k) ?_
  obtain ⟨cl21, Ar21, q21, S21, N_21, H21, G21⟩ := id V_ba
  refine own_by (T' := s₁) (g' := (mkF m 3 #[.val (.ref ba), .val (.int (2 : Int32))] [(.int (2 : Int32)), (.int (2 : Int32))])) (fun _ k => X0.arraylength hx (by rw [e0]; exact Ar21.1) (State.isArrayOf_alike hZ.alike Ar21.2.1) (g := (mkF m 2 #[.val (.ref ba), .val (.int (2 : Int32))] [(.ref ba), (.int (2 : Int32))])) rfl rfl (hb hby d7_2) _ (by rw [len_of S21 N_21]; exact k)) ?_
  refine own_by (T' := s₁) (g' := (mkF m 4 #[.val (.ref ba), .val (.int (2 : Int32))] [(.int (0 : Int32))])) (fun _ k => XS.isub X0.here hx rfl (hb hby d7_3) rfl k) ?_
  refine own_by (T' := s₁) (g' := (mkF m 6 #[.val (.ref ba), .val (.int (2 : Int32))] [(.int (31 : Int32)), (.int (0 : Int32))])) (fun _ k => XS.bipush X0.here hx rfl (hb hby d7_4) k) ?_
  refine own_by (T' := s₁) (g' := (mkF m 7 #[.val (.ref ba), .val (.int (2 : Int32))] [(.int (0 : Int32))])) (fun _ k => XS.iushr X0.here hx rfl (hb hby d7_6) rfl k) ?_
  refine own_by (T' := s₁) (g' := (mkF m 8 #[.val (.ref ba), .val (.int (2 : Int32))] [(.int (0 : Int32))])) (fun _ k => XS.i2b X0.here hx rfl (hb hby d7_7) rfl k) ?_
  refine own_ret X0 hlk (v := some (.int (0 : Int32))) (fun h => by rw [Bd.returns] at h; cases h) (fun fs hr => retN X0 hx (t := .byte) Bd.returns (by simp) (hb hby d7_8) hr) ?_ (by decide) (by decide)
  rw [e0]
  exact ⟨rfl, N0, rfl⟩
theorem d3_0 : decode jdk_42_method_149_code 0 = .ok (.aload_n 0, 1) := by decide +kernel
theorem d3_1 : decode jdk_42_method_149_code 1 = .ok (.invokespecial 1, 3) := by decide +kernel
theorem d3_4 : decode jdk_42_method_149_code 4 = .ok (.iload_n 3, 1) := by decide +kernel
theorem d3_5 : decode jdk_42_method_149_code 5 = .ok (.ifCond .ne 22, 3) := by decide +kernel
theorem d3_27 : decode jdk_42_method_149_code 27 = .ok (.getstatic 38, 3) := by decide +kernel
theorem d3_30 : decode jdk_42_method_149_code 30 = .ok (.ifCond .eq 28, 3) := by decide +kernel
theorem d3_33 : decode jdk_42_method_149_code 33 = .ok (.aload_n 1, 1) := by decide +kernel
theorem d3_34 : decode jdk_42_method_149_code 34 = .ok (.iload_n 2, 1) := by decide +kernel
theorem d3_35 : decode jdk_42_method_149_code 35 = .ok (.iload_n 3, 1) := by decide +kernel
theorem d3_36 : decode jdk_42_method_149_code 36 = .ok (.invokestatic 177, 3) := by decide +kernel
theorem d3_39 : decode jdk_42_method_149_code 39 = .ok (.astore 5, 2) := by decide +kernel
theorem d3_41 : decode jdk_42_method_149_code 41 = .ok (.aload_n 0, 1) := by decide +kernel
theorem d3_42 : decode jdk_42_method_149_code 42 = .ok (.aload 5, 2) := by decide +kernel
theorem d3_44 : decode jdk_42_method_149_code 44 = .ok (.iload_n 3, 1) := by decide +kernel
theorem d3_45 : decode jdk_42_method_149_code 45 = .ok (.invokestatic 47, 3) := by decide +kernel
theorem d3_48 : decode jdk_42_method_149_code 48 = .ok (.putfield 15, 3) := by decide +kernel
theorem d3_51 : decode jdk_42_method_149_code 51 = .ok (.aload_n 0, 1) := by decide +kernel
theorem d3_52 : decode jdk_42_method_149_code 52 = .ok (.aload 5, 2) := by decide +kernel
theorem d3_54 : decode jdk_42_method_149_code 54 = .ok (.putfield 9, 3) := by decide +kernel
theorem d3_57 : decode jdk_42_method_149_code 57 = .ok (.return_, 1) := by decide +kernel
theorem pn_3 : plainName "java/lang/String" = true := by first | (simp [plainName, overriddenIn]; done) | decide +kernel
theorem ef_sin4_2 (m : MethodId) (a : Addr) (ca : Addr) : entryFrame m #[(.ref a), (.ref ca), (.int (0 : Int32)), (.int (2 : Int32)), .null] 6 = mkF m 0 #[.val (.ref a), .val (.ref ca), .val (.int (0 : Int32)), .val (.int (2 : Int32)), .val .null, .unset] [] := by first | (simp [entryFrame, mkF, argsToLocals, Value.category]; done) | rfl
def Q_sin4_2 (Z : State) (a : Addr) (ca : Addr) (kc : ClassId) (cs : Int32) (c0 : Int32) (c1 : Int32) (h0 : Heap) (n0 : Nat) (v : Option Value) (h : Heap) (L : List Loc) : Prop := v = none ∧ Fr n0 L ∧ Keep h0 h [a] ∧ Fld Z h a "java/lang/String" "coder" "B" (.int (0 : Int32)) ∧ ∃ (t : Addr) (kb : ClassId), h0.size ≤ t ∧ Fld Z h a "java/lang/String" "value" "[B" (.ref t) ∧ Arv Z h t kb .byte (2 : Int32) [(.int (nar .byte (c0.toInt8.toInt32))), (.int (nar .byte (c1.toInt8.toInt32)))] (.int (0 : Int32))
set_option maxRecDepth 65536 in
set_option maxHeartbeats 40000000 in
theorem sin4_2 (l : Launch) (Z : State) (a0 : Array Value) (hw : ∀ d ∈ tables_1, d.before a0 Z = true) (ws : List Jvm.Cond) (a : Addr) (ca : Addr) (kc : ClassId) (cs : Int32) (c0 : Int32) (c1 : Int32) (h0 : Heap) (n0 : Nat) (Z0 : n0 ≤ h0.size) (E_a : Exa Z h0 a "java/lang/String") (F_value_a : Fld Z h0 a "java/lang/String" "value" "[B" .null) (F_coder_a : Fld Z h0 a "java/lang/String" "coder" "B" (.int (0 : Int32))) (g_a : n0 ≤ a) (V_ca : Arv Z h0 ca kc .char (2 : Int32) [(.int c0), (.int c1)] (.int (0 : Int32))) (S_CS : Sta Z h0 "java/lang/String" "COMPACT_STRINGS" "Z" (.int cs)) (hcs : ¬ cs = (0 : Int32)) (hc0 : ¬ (255 : Int32) < c0) (hc1 : ¬ (255 : Int32) < c1) :
    MetFree l (⟨"java/lang/String", "<init>", "([CIILjava/lang/Void;)V"⟩ : MethodName) (head1 (Jvm.Cond.code (⟨"java/lang/String", "<init>", "([CIILjava/lang/Void;)V"⟩ : MethodName) jdk_42_method_149_code 6 none :: ws) ({ frames := 2, cells := 1, slots := 2, locals := 35 } : Room)) (fun zz UU => zz = #[(.ref a), (.ref ca), (.int (0 : Int32)), (.int (2 : Int32)), .null] ∧ Z.Warmed39 UU.vm ∧ UU.heap = h0) (fun _ _ _ _ _ => True) (fun _ U o U' => ∃ v L, o = .returned v ∧ Q_sin4_2 Z a ca kc cs c0 c1 h0 n0 v U'.heap L ∧ FrameEnd U o U' L ({ frames := 2, cells := 1, slots := 2, locals := 35 } : Room).cells ({ frames := 2, cells := 1, slots := 2, locals := 35 } : Room).slots) := by
  refine MetFree.of_bodySF (plainFor_of_name pn_3) hisR ?_
  intro p e s m args below meth c s₁ Bd hml0 hP hK
  obtain ⟨rfl, hZ, hh⟩ := hP
  have hx := Bd.exec
  have hby := Bd.bytes
  have hml : c.maxLocals = 6 := hml0
  have hown : s.vm.findClass "java/lang/String" = some m.cls := findClass_of_methodNamed Bd.named
  have hnm := (name_of_methodNamed Bd.named Bd.method).1
  have hlk : meth.locks = false := BodyLoose.notSynchronized Bd
  have X0 : Stand p l e ({ frames := 2, cells := 1, slots := 2, locals := 35 } : Room) s m #[(.ref a), (.ref ca), (.int (0 : Int32)), (.int (2 : Int32)), .null] below meth c s₁ [] 0 0 := Stand.of_body Bd
  have e0 : s₁.heap = h0 := by rw [← hh, Bd.state]; rfl
  have N0 := Fr.nil n0
  show own_Go p.tables e below (Q_sin4_2 Z a ca kc cs c0 c1 h0 n0) s ({ frames := 2, cells := 1, slots := 2, locals := 35 } : Room).cells ({ frames := 2, cells := 1, slots := 2, locals := 35 } : Room).slots s₁ (entryFrame m #[(.ref a), (.ref ca), (.int (0 : Int32)), (.int (2 : Int32)), .null] 6)
  rw [ef_sin4_2 m a ca]
  refine own_by (T' := s₁) (g' := (mkF m 1 #[.val (.ref a), .val (.ref ca), .val (.int (0 : Int32)), .val (.int (2 : Int32)), .val .null, .unset] [(.ref a)])) (fun _ k => XS.aloadN X0.here hx rfl (hb hby d3_0) rfl rfl k) ?_
  obtain ⟨T21, X21, e21, st21⟩ := initO X0 hx hZ hown (hw _ (List.mem_of_getElem? (i := 19) rfl)) (hw _ (List.mem_of_getElem? (i := 20) rfl)) (hw _ (List.mem_of_getElem? (i := 21) rfl)) e0 (g := (mkF m 1 #[.val (.ref a), .val (.ref ca), .val (.int (0 : Int32)), .val (.int (2 : Int32)), .val .null, .unset] [(.ref a)])) rfl (by rw [hml]; rfl) rfl (hb hby d3_1) (by decide) (W := 0) (by show 2 * 0 + _ ≤ _; exact Nat.le_of_eq rfl) (by decide)
  refine own_by (T' := T21) (g' := (mkF m 4 #[.val (.ref a), .val (.ref ca), .val (.int (0 : Int32)), .val (.int (2 : Int32)), .val .null, .unset] [])) (fun _ k => st21 _ k) ?_
  refine own_by (T' := T21) (g' := (mkF m 5 #[.val (.ref a), .val (.ref ca), .val (.int (0 : Int32)), .val (.int (2 : Int32)), .val .null, .unset] [(.int (2 : Int32))])) (fun _ k => XS.iloadN X21.here hx rfl (hb hby d3_4) rfl k) ?_
  refine own_by (T' := T21) (g' := (mkF m 27 #[.val (.ref a), .val (.ref ca), .val (.int (0 : Int32)), .val (.int (2 : Int32)), .val .null, .unset] [])) (fun _ k => XS.ifYes X21.here hx rfl (pc0 := 5) (pc' := 27) rfl (hb hby d3_5) rfl ((if0 _ _).trans (feq (by decide)).2) (by decide) (by decide) k) ?_
  obtain ⟨T22, X22, e22, st22⟩ := getS2 X21 hx hZ hown (host := "") (Or.inl (hw _ (List.mem_of_getElem? (i := 22) rfl))) Via.refl e21 S_CS (g := (mkF m 27 #[.val (.ref a), .val (.ref ca), .val (.int (0 : Int32)), .val (.int (2 : Int32)), .val .null, .unset] [])) rfl (hb hby d3_27)
  refine own_by (T' := T22) (g' := (mkF m 30 #[.val (.ref a), .val (.ref ca), .val (.int (0 : Int32)), .val (.int (2 : Int32)), .val .null, .unset] [(.int cs)])) (fun _ k => st22 _ k) ?_
  refine own_by (T' := T22) (g' := (mkF m 33 #[.val (.ref a), .val (.ref ca), .val (.int (0 : Int32)), .val (.int (2 : Int32)), .val .null, .unset] [])) (fun _ k => XS.ifNo X22.here hx rfl (hb hby d3_30) rfl ((if0 _ _).trans (feq hcs).1) k) ?_
  refine own_by (T' := T22) (g' := (mkF m 34 #[.val (.ref a), .val (.ref ca), .val (.int (0 : Int32)), .val (.int (2 : Int32)), .val .null, .unset] [(.ref ca)])) (fun _ k => XS.aloadN X22.here hx rfl (hb hby d3_33) rfl rfl k) ?_
  refine own_by (T' := T22) (g' := (mkF m 35 #[.val (.ref a), .val (.ref ca), .val (.int (0 : Int32)), .val (.int (2 : Int32)), .val .null, .unset] [(.int (0 : Int32)), (.ref ca)])) (fun _ k => XS.iloadN X22.here hx rfl (hb hby d3_34) rfl k) ?_
  refine own_by (T' := T22) (g' := (mkF m 36 #[.val (.ref a), .val (.ref ca), .val (.int (0 : Int32)), .val (.int (2 : Int32)), .val .null, .unset] [(.int (2 : Int32)), (.int (0 : Int32)), (.ref ca)])) (fun _ k => XS.iloadN X22.here hx rfl (hb hby d3_35) rfl k) ?_
  obtain ⟨_, _, ⟨T23, L23, k23, n23⟩, -, X23, ⟨Lc23, hQ23, l23, y23, z23⟩, st23⟩ := Jvm.LawKit.callS X22 hx (y := (⟨"java/lang/StringUTF16", "compress", "([CII)[B"⟩ : MethodName)) hown (mvT hZ (hw _ (List.mem_of_getElem? (i := 23) rfl))) (mvT hZ (hw _ (List.mem_of_getElem? (i := 24) rfl))) (mvT hZ (hw _ (List.mem_of_getElem? (i := 25) rfl))) (mvT hZ (hw _ (List.mem_of_getElem? (i := 26) rfl))) (by decide) (backOf (W := 0) (cmp3_2 l Z a0 hw [] ca kc c0 c1 h0 n0 Z0 V_ca hc0 hc1) hZ (hw _ (List.mem_of_getElem? (i := 26) rfl)) (hw _ (List.mem_of_getElem? (i := 25) rfl)) (by decide) (by decide)) (g := (mkF m 36 #[.val (.ref a), .val (.ref ca), .val (.int (0 : Int32)), .val (.int (2 : Int32)), .val .null, .unset] [(.int (2 : Int32)), (.int (0 : Int32)), (.ref ca)])) rfl (by rw [hml]; rfl) (argsL := [(.ref ca), (.int (0 : Int32)), (.int (2 : Int32))]) (rest := []) (lenOf pd_1 rfl) rfl (by show 2 * 0 + _ ≤ _; exact Nat.le_of_eq rfl) (hb hby d3_36) (fun _ _ => ⟨rfl, e22, (by decide : 0 + 1 ≤ _), (by decide : 0 + 2 ≤ _)⟩)
  dsimp only [Pt.U, Pt.locs, Pt.cells, Pt.slots] at X23 l23 y23 z23 st23 hQ23
  subst l23 y23 z23
  obtain ⟨t23, kb23, rfl, N23q, K23, zt23, V23⟩ := hQ23
  have N23 := Fr.app N0 N23q
  have KK23 : Keep h0 T23.heap [a] := Keep.trans (Keep.refl h0 [a]) K23 all0
  have sz_t23 : h0.size ≤ t23 := Nat.le_trans (Keep.refl h0 [a]).1 zt23
  have g_t23 : n0 ≤ t23 := Nat.le_trans Z0 sz_t23
  refine own_by (T' := T23) (g' := (mkF m 39 #[.val (.ref a), .val (.ref ca), .val (.int (0 : Int32)), .val (.int (2 : Int32)), .val .null, .unset] [(.ref t23)])) (fun _ k => st23 _ k) ?_
  refine own_by (T' := T23) (g' := (mkF m 41 #[.val (.ref a), .val (.ref ca), .val (.int (0 : Int32)), .val (.int (2 : Int32)), .val .null, .val (.ref t23)] [])) (fun _ k => XS.astore X23.here hx rfl (hb hby d3_39) rfl rfl (l' := #[.val (.ref a), .val (.ref ca), .val (.int (0 : Int32)), .val (.int (2 : Int32)), .val .null, .val (.ref t23)]) rfl k) ?_
  refine own_by (T' := T23) (g' := (mkF m 42 #[.val (.ref a), .val (.ref ca), .val (.int (0 : Int32)), .val (.int (2 : Int32)), .val .null, .val (.ref t23)] [(.ref a)])) (fun _ k => XS.aloadN X23.here hx rfl (hb hby d3_41) rfl rfl k) ?_
  refine own_by (T' := T23) (g' := (mkF m 44 #[.val (.ref a), .val (.ref ca), .val (.int (0 : Int32)), .val (.int (2 : Int32)), .val .null, .val (.ref t23)] [(.ref t23), (.ref a)])) (fun _ k => XS.aload X23.here hx rfl (hb hby d3_42) rfl rfl k) ?_
  refine own_by (T' := T23) (g' := (mkF m 45 #[.val (.ref a), .val (.ref ca), .val (.int (0 : Int32)), .val (.int (2 : Int32)), .val .null, .val (.ref t23)] [(.int (2 : Int32)), (.ref t23), (.ref a)])) (fun _ k => XS.iloadN X23.here hx rfl (hb hby d3_44) rfl k) ?_
  obtain ⟨_, _, ⟨T24, L24, k24, n24⟩, -, X24, ⟨Lc24, hQ24, l24, y24, z24⟩, st24⟩ := Jvm.LawKit.callS X23 hx (y := (⟨"java/lang/StringUTF16", "coderFromArrayLen", "([BI)B"⟩ : MethodName)) hown (mvT hZ (hw _ (List.mem_of_getElem? (i := 30) rfl))) (mvT hZ (hw _ (List.mem_of_getElem? (i := 31) rfl))) (mvT hZ (hw _ (List.mem_of_getElem? (i := 25) rfl))) (mvT hZ (hw _ (List.mem_of_getElem? (i := 32) rfl))) (by decide) (backOf (W := 1) (cod_2 l Z a0 hw [] t23 kb23 c0 c1 T23.heap n0 (Nat.le_trans Z0 K23.1) V23) hZ (hw _ (List.mem_of_getElem? (i := 32) rfl)) (hw _ (List.mem_of_getElem? (i := 25) rfl)) (by decide) (by decide)) (g := (mkF m 45 #[.val (.ref a), .val (.ref ca), .val (.int (0 : Int32)), .val (.int (2 : Int32)), .val .null, .val (.ref t23)] [(.int (2 : Int32)), (.ref t23), (.ref a)])) rfl (by rw [hml]; rfl) (argsL := [(.ref t23), (.int (2 : Int32))]) (rest := [(.ref a)]) (lenOf pd_2 rfl) rfl (by show 2 * 0 + _ ≤ _; exact Nat.le_of_eq rfl) (hb hby d3_45) (fun _ _ => ⟨rfl, rfl, (by decide : (0 + 1) + 0 ≤ _), (by decide : (0 + 2) + 0 ≤ _)⟩)
  dsimp only [Pt.U, Pt.locs, Pt.cells, Pt.slots] at X24 l24 y24 z24 st24 hQ24
  subst l24 y24 z24
  obtain ⟨rfl, N24q, e24⟩ := hQ24
  have N24 := Fr.app N23 N24q
  refine own_by (T' := T24) (g' := (mkF m 48 #[.val (.ref a), .val (.ref ca), .val (.int (0 : Int32)), .val (.int (2 : Int32)), .val .null, .val (.ref t23)] [(.int (0 : Int32)), (.ref a)])) (fun _ k => st24 _ k) ?_
  obtain ⟨T25, h25, X25, e25, W25, st25⟩ := putFN X24 hx hZ hown (hw _ (List.mem_of_getElem? (i := 33) rfl)) Via.refl e24 (Fld.keep F_coder_a K23 nin0) (Exa.keep E_a K23) (Or.inr ⟨(hw _ (List.mem_of_getElem? (i := 34) rfl)), rfl, hnm⟩) (hw _ (List.mem_of_getElem? (i := 9) rfl)) (ty := .byte) (v' := (.int (0 : Int32))) (by decide) rfl (by decide) (g := (mkF m 48 #[.val (.ref a), .val (.ref ca), .val (.int (0 : Int32)), .val (.int (2 : Int32)), .val .null, .val (.ref t23)] [(.int (0 : Int32)), (.ref a)])) rfl rfl (hb hby d3_48)
  have Fw25 : Fld Z h25 a "java/lang/String" "coder" "B" (.int (0 : Int32)) := Fld.same W25 (Fld.keep F_coder_a K23 nin0)
  have K25 : Keep h0 h25 [a] := Keep.wr KK23 W25 (Or.inl (List.mem_of_getElem? (i := 0) rfl))
  have N25 := Fr.snoc X25 N24 g_a
  refine own_by (T' := T25) (g' := (mkF m 51 #[.val (.ref a), .val (.ref ca), .val (.int (0 : Int32)), .val (.int (2 : Int32)), .val .null, .val (.ref t23)] [])) (fun _ k => st25 _ k) ?_
  refine own_by (T' := T25) (g' := (mkF m 52 #[.val (.ref a), .val (.ref ca), .val (.int (0 : Int32)), .val (.int (2 : Int32)), .val .null, .val (.ref t23)] [(.ref a)])) (fun _ k => XS.aloadN X25.here hx rfl (hb hby d3_51) rfl rfl k) ?_
  refine own_by (T' := T25) (g' := (mkF m 54 #[.val (.ref a), .val (.ref ca), .val (.int (0 : Int32)), .val (.int (2 : Int32)), .val .null, .val (.ref t23)] [(.ref t23), (.ref a)])) (fun _ k => XS.aload X25.here hx rfl (hb hby d3_52) rfl rfl k) ?_
  obtain ⟨T26, h26, X26, e26, W26, st26⟩ := putF X25 hx hZ hown (host := "") (Or.inl (hw _ (List.mem_of_getElem? (i := 35) rfl))) Via.refl e25 (Fld.other W25 (Fld.keep F_value_a K23 nin0) (Or.inr (slot_ne (a0 := a0) (Or.inr (hw _ (List.mem_of_getElem? (i := 36) rfl))) (Or.inr (hw _ (List.mem_of_getElem? (i := 34) rfl))) (by decide) (t := (.array .byte)) (t' := .byte) (by decide) (by decide)))) (Exa.wr W25 (Exa.keep E_a K23)) (Or.inr ⟨(hw _ (List.mem_of_getElem? (i := 36) rfl)), rfl, hnm⟩) (hw _ (List.mem_of_getElem? (i := 9) rfl)) (ty := (.array .byte)) (by decide) rfl rfl (g := (mkF m 54 #[.val (.ref a), .val (.ref ca), .val (.int (0 : Int32)), .val (.int (2 : Int32)), .val .null, .val (.ref t23)] [(.ref t23), (.ref a)])) rfl rfl (hb hby d3_54)
  have Fw26 : Fld Z h26 a "java/lang/String" "value" "[B" (.ref t23) := Fld.same W26 (Fld.other W25 (Fld.keep F_value_a K23 nin0) (Or.inr (slot_ne (a0 := a0) (Or.inr (hw _ (List.mem_of_getElem? (i := 36) rfl))) (Or.inr (hw _ (List.mem_of_getElem? (i := 34) rfl))) (by decide) (t := (.array .byte)) (t' := .byte) (by decide) (by decide))))
  have K26 : Keep h0 h26 [a] := Keep.wr K25 W26 (Or.inl (List.mem_of_getElem? (i := 0) rfl))
  have N26 := Fr.snoc X26 N25 g_a
  refine own_by (T' := T26) (g' := (mkF m 57 #[.val (.ref a), .val (.ref ca), .val (.int (0 : Int32)), .val (.int (2 : Int32)), .val .null, .val (.ref t23)] [])) (fun _ k => st26 _ k) ?_
  refine own_ret X26 hlk (v := none) (fun _ => rfl) (fun fs hr => X26.returnOut hx Bd.returns (hb hby d3_57) hr) ?_ (by decide) (by decide)
  rw [e26]
  exact ⟨rfl, N26, K26, (Fld.other W26 Fw25 (Or.inr (slot_ne (a0 := a0) (Or.inr (hw _ (List.mem_of_getElem? (i := 34) rfl))) (Or.inr (hw _ (List.mem_of_getElem? (i := 36) rfl))) (by decide) (t := .byte) (t' := (.array .byte)) (by decide) (by decide)))), _, _, sz_t23, Fw26, (Arv.other (Arv.other V23 W25 (Ne.symm (Nat.ne_of_lt (Nat.lt_of_lt_of_le (E_a).lt zt23)))) W26 (Ne.symm (Nat.ne_of_lt (Nat.lt_of_lt_of_le (E_a).lt zt23))))⟩
theorem d2_0 : decode jdk_42_method_3_code 0 = .ok (.aload_n 0, 1) := by decide +kernel
theorem d2_1 : decode jdk_42_method_3_code 1 = .ok (.aload_n 1, 1) := by decide +kernel
theorem d2_2 : decode jdk_42_method_3_code 2 = .ok (.iconst 0, 1) := by decide +kernel
theorem d2_3 : decode jdk_42_method_3_code 3 = .ok (.aload_n 1, 1) := by decide +kernel
theorem d2_4 : decode jdk_42_method_3_code 4 = .ok (.arraylength, 1) := by decide +kernel
theorem d2_5 : decode jdk_42_method_3_code 5 = .ok (.aconst_null, 1) := by decide +kernel
theorem d2_6 : decode jdk_42_method_3_code 6 = .ok (.invokespecial 27, 3) := by decide +kernel
theorem d2_9 : decode jdk_42_method_3_code 9 = .ok (.return_, 1) := by decide +kernel
theorem pn_2 : plainName "java/lang/String" = true := by first | (simp [plainName, overriddenIn]; done) | decide +kernel
theorem ef_sin1_2 (m : MethodId) (a : Addr) (ca : Addr) : entryFrame m #[(.ref a), (.ref ca)] 2 = mkF m 0 #[.val (.ref a), .val (.ref ca)] [] := by first | (simp [entryFrame, mkF, argsToLocals, Value.category]; done) | rfl
def Q_sin1_2 (Z : State) (a : Addr) (ca : Addr) (kc : ClassId) (cs : Int32) (c0 : Int32) (c1 : Int32) (h0 : Heap) (n0 : Nat) (v : Option Value) (h : Heap) (L : List Loc) : Prop := v = none ∧ Fr n0 L ∧ Keep h0 h [a] ∧ Fld Z h a "java/lang/String" "coder" "B" (.int (0 : Int32)) ∧ ∃ (t : Addr) (kb : ClassId), h0.size ≤ t ∧ Fld Z h a "java/lang/String" "value" "[B" (.ref t) ∧ Arv Z h t kb .byte (2 : Int32) [(.int (nar .byte (c0.toInt8.toInt32))), (.int (nar .byte (c1.toInt8.toInt32)))] (.int (0 : Int32))
set_option maxRecDepth 65536 in
set_option maxHeartbeats 40000000 in
theorem sin1_2 (l : Launch) (Z : State) (a0 : Array Value) (hw : ∀ d ∈ tables_1, d.before a0 Z = true) (ws : List Jvm.Cond) (a : Addr) (ca : Addr) (kc : ClassId) (cs : Int32) (c0 : Int32) (c1 : Int32) (h0 : Heap) (n0 : Nat) (Z0 : n0 ≤ h0.size) (E_a : Exa Z h0 a "java/lang/String") (F_value_a : Fld Z h0 a "java/lang/String" "value" "[B" .null) (F_coder_a : Fld Z h0 a "java/lang/String" "coder" "B" (.int (0 : Int32))) (g_a : n0 ≤ a) (V_ca : Arv Z h0 ca kc .char (2 : Int32) [(.int c0), (.int c1)] (.int (0 : Int32))) (S_CS : Sta Z h0 "java/lang/String" "COMPACT_STRINGS" "Z" (.int cs)) (hcs : ¬ cs = (0 : Int32)) (hc0 : ¬ (255 : Int32) < c0) (hc1 : ¬ (255 : Int32) < c1) :
    MetFree l (⟨"java/lang/String", "<init>", "([C)V"⟩ : MethodName) (head1 (Jvm.Cond.code (⟨"java/lang/String", "<init>", "([C)V"⟩ : MethodName) jdk_42_method_3_code 2 none :: ws) ({ frames := 3, cells := 1, slots := 2, locals := 52 } : Room)) (fun zz UU => zz = #[(.ref a), (.ref ca)] ∧ Z.Warmed39 UU.vm ∧ UU.heap = h0) (fun _ _ _ _ _ => True) (fun _ U o U' => ∃ v L, o = .returned v ∧ Q_sin1_2 Z a ca kc cs c0 c1 h0 n0 v U'.heap L ∧ FrameEnd U o U' L ({ frames := 3, cells := 1, slots := 2, locals := 52 } : Room).cells ({ frames := 3, cells := 1, slots := 2, locals := 52 } : Room).slots) := by
  refine MetFree.of_bodySF (plainFor_of_name pn_2) hisR ?_
  intro p e s m args below meth c s₁ Bd hml0 hP hK
  obtain ⟨rfl, hZ, hh⟩ := hP
  have hx := Bd.exec
  have hby := Bd.bytes
  have hml : c.maxLocals = 2 := hml0
  have hown : s.vm.findClass "java/lang/String" = some m.cls := findClass_of_methodNamed Bd.named
  have hnm := (name_of_methodNamed Bd.named Bd.method).1
  have hlk : meth.locks = false := BodyLoose.notSynchronized Bd
  have X0 : Stand p l e ({ frames := 3, cells := 1, slots := 2, locals := 52 } : Room) s m #[(.ref a), (.ref ca)] below meth c s₁ [] 0 0 := Stand.of_body Bd
  have e0 : s₁.heap = h0 := by rw [← hh, Bd.state]; rfl
  have N0 := Fr.nil n0
  show own_Go p.tables e below (Q_sin1_2 Z a ca kc cs c0 c1 h0 n0) s ({ frames := 3, cells := 1, slots := 2, locals := 52 } : Room).cells ({ frames := 3, cells := 1, slots := 2, locals := 52 } : Room).slots s₁ (entryFrame m #[(.ref a), (.ref ca)] 2)
  rw [ef_sin1_2 m a ca]
  refine own_by (T' := s₁) (g' := (mkF m 1 #[.val (.ref a), .val (.ref ca)] [(.ref a)])) (fun _ k => XS.aloadN X0.here hx rfl (hb hby d2_0) rfl rfl k) ?_
  refine own_by (T' := s₁) (g' := (mkF m 2 #[.val (.ref a), .val (.ref ca)] [(.ref ca), (.ref a)])) (fun _ k => XS.aloadN X0.here hx rfl (hb hby d2_1) rfl rfl k) ?_
  refine own_by (T' := s₁) (g' := (mkF m 3 #[.val (.ref a), .val (.ref ca)] [(.int (0 : Int32)), (.ref ca), (.ref a)])) (fun _ k => XS.iconst X0.here hx rfl (hb hby d2_2) k) ?_
  refine own_by (T' := s₁) (g' := (mkF m 4 #[.val (.ref a), .val (.ref ca)] [(.ref ca), (.int (0 : Int32)), (.ref ca), (.ref a)])) (fun _ k => XS.aloadN X0.here hx rfl (hb hby d2_3) rfl rfl k) ?_
  obtain ⟨cl21, Ar21, q21, S21, N_21, H21, G21⟩ := id V_ca
  refine own_by (T' := s₁) (g' := (mkF m 5 #[.val (.ref a), .val (.ref ca)] [(.int (2 : Int32)), (.int (0 : Int32)), (.ref ca), (.ref a)])) (fun _ k => X0.arraylength hx (by rw [e0]; exact Ar21.1) (State.isArrayOf_alike hZ.alike Ar21.2.1) (g := (mkF m 4 #[.val (.ref a), .val (.ref ca)] [(.ref ca), (.int (0 : Int32)), (.ref ca), (.ref a)])) rfl rfl (hb hby d2_4) _ (by rw [len_of S21 N_21]; exact k)) ?_
  refine own_by (T' := s₁) (g' := (mkF m 6 #[.val (.ref a), .val (.ref ca)] [.null, (.int (2 : Int32)), (.int (0 : Int32)), (.ref ca), (.ref a)])) (fun _ k => XS.aconstNull X0.here hx rfl (hb hby d2_5) k) ?_
  obtain ⟨_, _, ⟨T22, L22, k22, n22⟩, -, X22, ⟨Lc22, hQ22, l22, y22, z22⟩, st22⟩ := X0.specialBack hx (y := (⟨"java/lang/String", "<init>", "([CIILjava/lang/Void;)V"⟩ : MethodName)) rfl hown (mvT hZ (hw _ (List.mem_of_getElem? (i := 15) rfl))) (mvT hZ (hw _ (List.mem_of_getElem? (i := 16) rfl))) (mvT hZ (hw _ (List.mem_of_getElem? (i := 18) rfl))) (by decide) (backOf (W := 0) (sin4_2 l Z a0 hw [] a ca kc cs c0 c1 h0 n0 Z0 E_a F_value_a F_coder_a g_a V_ca S_CS hcs hc0 hc1) hZ (hw _ (List.mem_of_getElem? (i := 18) rfl)) (hw _ (List.mem_of_getElem? (i := 10) rfl)) (by decide) (by decide)) (g := (mkF m 6 #[.val (.ref a), .val (.ref ca)] [.null, (.int (2 : Int32)), (.int (0 : Int32)), (.ref ca), (.ref a)])) rfl (by rw [hml]; rfl) (Steps.refl _) (a := a) (argsL := [(.ref ca), (.int (0 : Int32)), (.int (2 : Int32)), .null]) (rest := []) (lenOf pd_3 rfl) rfl (by show 2 * 0 + _ ≤ _; exact Nat.le_of_eq rfl) (hb hby d2_6) (fun _ _ => ⟨rfl, e0, (by decide : 0 + 1 ≤ _), (by decide : 0 + 2 ≤ _)⟩)
  dsimp only [Pt.U, Pt.locs, Pt.cells, Pt.slots] at X22 l22 y22 z22 st22 hQ22
  subst l22 y22 z22
  obtain ⟨rfl, N22q, K22, Fc22, t22, kb22, zt22, Fv22, V22⟩ := hQ22
  have N22 := Fr.app N0 N22q
  have KK22 : Keep h0 T22.heap [a] := Keep.trans (Keep.refl h0 [a]) K22 (allS (Or.inl (List.mem_of_getElem? (i := 0) rfl)) all0)
  have sz_t22 : h0.size ≤ t22 := zt22
  refine own_by (T' := T22) (g' := (mkF m 9 #[.val (.ref a), .val (.ref ca)] [])) (fun _ k => st22.trans k) ?_
  refine own_ret X22 hlk (v := none) (fun _ => rfl) (fun fs hr => X22.returnOut hx Bd.returns (hb hby d2_9) hr) ?_ (by decide) (by decide)
  exact ⟨rfl, N22, KK22, Fc22, _, _, sz_t22, Fv22, V22⟩
theorem d1_0 : decode method_2_code 0 = .ok (.iload_n 0, 1) := by decide +kernel
theorem d1_1 : decode method_2_code 1 = .ok (.ifCond .ne 7, 3) := by decide +kernel
theorem d1_4 : decode method_2_code 4 = .ok (.getstatic 7, 3) := by decide +kernel
theorem d1_7 : decode method_2_code 7 = .ok (.areturn, 1) := by decide +kernel
theorem d1_8 : decode method_2_code 8 = .ok (.iload_n 0, 1) := by decide +kernel
theorem d1_9 : decode method_2_code 9 = .ok (.iconst 1, 1) := by decide +kernel
theorem d1_10 : decode method_2_code 10 = .ok (.if_icmp .ne 7, 3) := by decide +kernel
theorem d1_13 : decode method_2_code 13 = .ok (.getstatic 13, 3) := by decide +kernel
theorem d1_16 : decode method_2_code 16 = .ok (.areturn, 1) := by decide +kernel
theorem d1_17 : decode method_2_code 17 = .ok (.iload_n 0, 1) := by decide +kernel
theorem d1_18 : decode method_2_code 18 = .ok (.iconst 2, 1) := by decide +kernel
theorem d1_19 : decode method_2_code 19 = .ok (.if_icmp .ne 7, 3) := by decide +kernel
theorem d1_22 : decode method_2_code 22 = .ok (.getstatic 16, 3) := by decide +kernel
theorem d1_25 : decode method_2_code 25 = .ok (.areturn, 1) := by decide +kernel
theorem d1_26 : decode method_2_code 26 = .ok (.getstatic 19, 3) := by decide +kernel
theorem d1_29 : decode method_2_code 29 = .ok (.areturn, 1) := by decide +kernel
theorem pn_1 : plainName "com/example/millrace/millrace/CellWithSequenceIdPinLaw" = true := by first | (simp [plainName, overriddenIn]; done) | decide +kernel
theorem ef_rm1 (m : MethodId) (i : Int32) : entryFrame m #[(.int i)] 1 = mkF m 0 #[.val (.int i)] [] := by first | (simp [entryFrame, mkF, argsToLocals, Value.category]; done) | rfl
def Q_rm1 (Z : State) (i : Int32) (a_DELETE_ROW : Addr) (a_DELETE_FAMILY : Addr) (a_DELETE_COLUMN : Addr) (a_PUT : Addr) (h0 : Heap) (n0 : Nat) (v : Option Value) (h : Heap) (L : List Loc) : Prop := v = some (.ref (own_pick i a_DELETE_ROW a_DELETE_FAMILY a_DELETE_COLUMN a_PUT)) ∧ Fr n0 L ∧ h = h0
set_option maxRecDepth 65536 in
set_option maxHeartbeats 40000000 in
theorem rm1 (l : Launch) (Z : State) (a0 : Array Value) (hw : ∀ d ∈ tables_1, d.before a0 Z = true) (ws : List Jvm.Cond) (i : Int32) (a_DELETE_ROW : Addr) (a_DELETE_FAMILY : Addr) (a_DELETE_COLUMN : Addr) (a_PUT : Addr) (h0 : Heap) (n0 : Nat) (Z0 : n0 ≤ h0.size) (S_DELETE_ROW : Sta Z h0 "com/example/millrace/millrace/Cell$Type" "DELETE_ROW" "Lcom/example/millrace/millrace/Cell$Type;" (.ref a_DELETE_ROW)) (S_DELETE_FAMILY : Sta Z h0 "com/example/millrace/millrace/Cell$Type" "DELETE_FAMILY" "Lcom/example/millrace/millrace/Cell$Type;" (.ref a_DELETE_FAMILY)) (S_DELETE_COLUMN : Sta Z h0 "com/example/millrace/millrace/Cell$Type" "DELETE_COLUMN" "Lcom/example/millrace/millrace/Cell$Type;" (.ref a_DELETE_COLUMN)) (S_PUT : Sta Z h0 "com/example/millrace/millrace/Cell$Type" "PUT" "Lcom/example/millrace/millrace/Cell$Type;" (.ref a_PUT)) :
    MetFree l (⟨"com/example/millrace/millrace/CellWithSequenceIdPinLaw", "pick", "(I)Lcom/example/millrace/millrace/Cell$Type;"⟩ : MethodName) (head1 (Jvm.Cond.code (⟨"com/example/millrace/millrace/CellWithSequenceIdPinLaw", "pick", "(I)Lcom/example/millrace/millrace/Cell$Type;"⟩ : MethodName) method_2_code 1 (some (.object "com/example/millrace/millrace/Cell$Type")) :: ws) ({ frames := 0, cells := 0, slots := 0, locals := 0 } : Room)) (fun zz UU => zz = #[(.int i)] ∧ Z.Warmed39 UU.vm ∧ UU.heap = h0) (fun _ _ _ _ _ => True) (fun _ U o U' => ∃ v L, o = .returned v ∧ Q_rm1 Z i a_DELETE_ROW a_DELETE_FAMILY a_DELETE_COLUMN a_PUT h0 n0 v U'.heap L ∧ FrameEnd U o U' L ({ frames := 0, cells := 0, slots := 0, locals := 0 } : Room).cells ({ frames := 0, cells := 0, slots := 0, locals := 0 } : Room).slots) := by
  refine MetFree.of_bodySF (plainFor_of_name pn_1) hisR ?_
  intro p e s m args below meth c s₁ Bd hml0 hP hK
  obtain ⟨rfl, hZ, hh⟩ := hP
  have hx := Bd.exec
  have hby := Bd.bytes
  have hml : c.maxLocals = 1 := hml0
  have hown : s.vm.findClass "com/example/millrace/millrace/CellWithSequenceIdPinLaw" = some m.cls := findClass_of_methodNamed Bd.named
  have hnm := (name_of_methodNamed Bd.named Bd.method).1
  have hlk : meth.locks = false := BodyLoose.notSynchronized Bd
  have X0 : Stand p l e ({ frames := 0, cells := 0, slots := 0, locals := 0 } : Room) s m #[(.int i)] below meth c s₁ [] 0 0 := Stand.of_body Bd
  have e0 : s₁.heap = h0 := by rw [← hh, Bd.state]; rfl
  have N0 := Fr.nil n0
  show own_Go p.tables e below (Q_rm1 Z i a_DELETE_ROW a_DELETE_FAMILY a_DELETE_COLUMN a_PUT h0 n0) s ({ frames := 0, cells := 0, slots := 0, locals := 0 } : Room).cells ({ frames := 0, cells := 0, slots := 0, locals := 0 } : Room).slots s₁ (entryFrame m #[(.int i)] 1)
  rw [ef_rm1 m i]
  refine own_by (T' := s₁) (g' := (mkF m 1 #[.val (.int i)] [(.int i)])) (fun _ k => XS.iloadN X0.here hx rfl (hb hby d1_0) rfl k) ?_
  by_cases hc1_21 : i = (0 : Int32)
  · skip
    refine own_by (T' := s₁) (g' := (mkF m 4 #[.val (.int i)] [])) (fun _ k => XS.ifNo X0.here hx rfl (hb hby d1_1) rfl ((if0 _ _).trans (teq hc1_21).2) k) ?_
    obtain ⟨T22, X22, e22, st22⟩ := getS2 X0 hx hZ hown (host := "") (Or.inl (hw _ (List.mem_of_getElem? (i := 4) rfl))) Via.refl e0 S_DELETE_ROW (g := (mkF m 4 #[.val (.int i)] [])) rfl (hb hby d1_4)
    refine own_by (T' := T22) (g' := (mkF m 7 #[.val (.int i)] [(.ref a_DELETE_ROW)])) (fun _ k => st22 _ k) ?_
    refine own_ret X22 hlk (v := some (.ref a_DELETE_ROW)) (fun h => by rw [Bd.returns] at h; cases h) (fun fs hr => retOut X22 hx Bd.returns rfl (Or.inr (Or.inr (Or.inr (Or.inr ⟨rfl, rfl, rfl⟩)))) (hb hby d1_7) hr) ?_ (by decide) (by decide)
    rw [e22]
    exact ⟨congrArg (fun z => some (Value.ref z)) (if_pos hc1_21).symm, N0, rfl⟩
  · skip
    refine own_by (T' := s₁) (g' := (mkF m 8 #[.val (.int i)] [])) (fun _ k => XS.ifYes X0.here hx rfl (pc0 := 1) (pc' := 8) rfl (hb hby d1_1) rfl ((if0 _ _).trans (feq hc1_21).2) (by decide) (by decide) k) ?_
    refine own_by (T' := s₁) (g' := (mkF m 9 #[.val (.int i)] [(.int i)])) (fun _ k => XS.iloadN X0.here hx rfl (hb hby d1_8) rfl k) ?_
    refine own_by (T' := s₁) (g' := (mkF m 10 #[.val (.int i)] [(.int (1 : Int32)), (.int i)])) (fun _ k => XS.iconst X0.here hx rfl (hb hby d1_9) k) ?_
    by_cases hc10_23 : i = (1 : Int32)
    · skip
      refine own_by (T' := s₁) (g' := (mkF m 13 #[.val (.int i)] [])) (fun _ k => XS.icmpNo X0.here hx rfl (hb hby d1_10) rfl (teq hc10_23).2 k) ?_
      obtain ⟨T24, X24, e24, st24⟩ := getS2 X0 hx hZ hown (host := "") (Or.inl (hw _ (List.mem_of_getElem? (i := 100) rfl))) Via.refl e0 S_DELETE_FAMILY (g := (mkF m 13 #[.val (.int i)] [])) rfl (hb hby d1_13)
      refine own_by (T' := T24) (g' := (mkF m 16 #[.val (.int i)] [(.ref a_DELETE_FAMILY)])) (fun _ k => st24 _ k) ?_
      refine own_ret X24 hlk (v := some (.ref a_DELETE_FAMILY)) (fun h => by rw [Bd.returns] at h; cases h) (fun fs hr => retOut X24 hx Bd.returns rfl (Or.inr (Or.inr (Or.inr (Or.inr ⟨rfl, rfl, rfl⟩)))) (hb hby d1_16) hr) ?_ (by decide) (by decide)
      rw [e24]
      exact ⟨congrArg (fun z => some (Value.ref z)) ((if_neg hc1_21).trans (if_pos hc10_23)).symm, N0, rfl⟩
    · skip
      refine own_by (T' := s₁) (g' := (mkF m 17 #[.val (.int i)] [])) (fun _ k => XS.icmpYes X0.here hx rfl (pc0 := 10) (pc' := 17) rfl (hb hby d1_10) rfl (feq hc10_23).2 (by decide) (by decide) k) ?_
      refine own_by (T' := s₁) (g' := (mkF m 18 #[.val (.int i)] [(.int i)])) (fun _ k => XS.iloadN X0.here hx rfl (hb hby d1_17) rfl k) ?_
      refine own_by (T' := s₁) (g' := (mkF m 19 #[.val (.int i)] [(.int (2 : Int32)), (.int i)])) (fun _ k => XS.iconst X0.here hx rfl (hb hby d1_18) k) ?_
      by_cases hc19_25 : i = (2 : Int32)
      · skip
        refine own_by (T' := s₁) (g' := (mkF m 22 #[.val (.int i)] [])) (fun _ k => XS.icmpNo X0.here hx rfl (hb hby d1_19) rfl (teq hc19_25).2 k) ?_
        obtain ⟨T26, X26, e26, st26⟩ := getS2 X0 hx hZ hown (host := "") (Or.inl (hw _ (List.mem_of_getElem? (i := 102) rfl))) Via.refl e0 S_DELETE_COLUMN (g := (mkF m 22 #[.val (.int i)] [])) rfl (hb hby d1_22)
        refine own_by (T' := T26) (g' := (mkF m 25 #[.val (.int i)] [(.ref a_DELETE_COLUMN)])) (fun _ k => st26 _ k) ?_
        refine own_ret X26 hlk (v := some (.ref a_DELETE_COLUMN)) (fun h => by rw [Bd.returns] at h; cases h) (fun fs hr => retOut X26 hx Bd.returns rfl (Or.inr (Or.inr (Or.inr (Or.inr ⟨rfl, rfl, rfl⟩)))) (hb hby d1_25) hr) ?_ (by decide) (by decide)
        rw [e26]
        exact ⟨congrArg (fun z => some (Value.ref z)) (((if_neg hc1_21).trans (if_neg hc10_23)).trans (if_pos hc19_25)).symm, N0, rfl⟩
      · skip
        refine own_by (T' := s₁) (g' := (mkF m 26 #[.val (.int i)] [])) (fun _ k => XS.icmpYes X0.here hx rfl (pc0 := 19) (pc' := 26) rfl (hb hby d1_19) rfl (feq hc19_25).2 (by decide) (by decide) k) ?_
        obtain ⟨T27, X27, e27, st27⟩ := getS2 X0 hx hZ hown (host := "") (Or.inl (hw _ (List.mem_of_getElem? (i := 104) rfl))) Via.refl e0 S_PUT (g := (mkF m 26 #[.val (.int i)] [])) rfl (hb hby d1_26)
        refine own_by (T' := T27) (g' := (mkF m 29 #[.val (.int i)] [(.ref a_PUT)])) (fun _ k => st27 _ k) ?_
        refine own_ret X27 hlk (v := some (.ref a_PUT)) (fun h => by rw [Bd.returns] at h; cases h) (fun fs hr => retOut X27 hx Bd.returns rfl (Or.inr (Or.inr (Or.inr (Or.inr ⟨rfl, rfl, rfl⟩)))) (hb hby d1_29) hr) ?_ (by decide) (by decide)
        rw [e27]
        exact ⟨congrArg (fun z => some (Value.ref z)) (((if_neg hc1_21).trans (if_neg hc10_23)).trans (if_neg hc19_25)).symm, N0, rfl⟩
theorem d8_0 : decode prog_1_method_2_code 0 = .ok (.aload_n 0, 1) := by decide +kernel
theorem d8_1 : decode prog_1_method_2_code 1 = .ok (.invokespecial 13, 3) := by decide +kernel
theorem d8_4 : decode prog_1_method_2_code 4 = .ok (.aload_n 0, 1) := by decide +kernel
theorem d8_5 : decode prog_1_method_2_code 5 = .ok (.aload_n 1, 1) := by decide +kernel
theorem d8_6 : decode prog_1_method_2_code 6 = .ok (.putfield 18, 3) := by decide +kernel
theorem d8_9 : decode prog_1_method_2_code 9 = .ok (.aload_n 0, 1) := by decide +kernel
theorem d8_10 : decode prog_1_method_2_code 10 = .ok (.aload_n 2, 1) := by decide +kernel
theorem d8_11 : decode prog_1_method_2_code 11 = .ok (.putfield 21, 3) := by decide +kernel
theorem d8_14 : decode prog_1_method_2_code 14 = .ok (.aload_n 0, 1) := by decide +kernel
theorem d8_15 : decode prog_1_method_2_code 15 = .ok (.aload_n 3, 1) := by decide +kernel
theorem d8_16 : decode prog_1_method_2_code 16 = .ok (.putfield 25, 3) := by decide +kernel
theorem d8_19 : decode prog_1_method_2_code 19 = .ok (.aload_n 0, 1) := by decide +kernel
theorem d8_20 : decode prog_1_method_2_code 20 = .ok (.aload 4, 2) := by decide +kernel
theorem d8_22 : decode prog_1_method_2_code 22 = .ok (.putfield 29, 3) := by decide +kernel
theorem d8_25 : decode prog_1_method_2_code 25 = .ok (.aload_n 0, 1) := by decide +kernel
theorem d8_26 : decode prog_1_method_2_code 26 = .ok (.lload 5, 2) := by decide +kernel
theorem d8_28 : decode prog_1_method_2_code 28 = .ok (.putfield 32, 3) := by decide +kernel
theorem d8_31 : decode prog_1_method_2_code 31 = .ok (.aload_n 0, 1) := by decide +kernel
theorem d8_32 : decode prog_1_method_2_code 32 = .ok (.aload 7, 2) := by decide +kernel
theorem d8_34 : decode prog_1_method_2_code 34 = .ok (.putfield 36, 3) := by decide +kernel
theorem d8_37 : decode prog_1_method_2_code 37 = .ok (.aload_n 0, 1) := by decide +kernel
theorem d8_38 : decode prog_1_method_2_code 38 = .ok (.lload 8, 2) := by decide +kernel
theorem d8_40 : decode prog_1_method_2_code 40 = .ok (.putfield 39, 3) := by decide +kernel
theorem d8_43 : decode prog_1_method_2_code 43 = .ok (.return_, 1) := by decide +kernel
theorem pn_8 : plainName "com/example/millrace/millrace/Cell" = true := by first | (simp [plainName, overriddenIn]; done) | decide +kernel
theorem ef_rm8 (m : MethodId) (a : Addr) (x1 : Addr) (x2 : Addr) (x3 : Addr) (x4 : Addr) (q5 : Int64) (x6 : Addr) (q7 : Int64) : entryFrame m #[(.ref a), (.ref x1), (.ref x2), (.ref x3), (.ref x4), (.long q5), (.ref x6), (.long q7)] 10 = mkF m 0 #[.val (.ref a), .val (.ref x1), .val (.ref x2), .val (.ref x3), .val (.ref x4), .val (.long q5), .second, .val (.ref x6), .val (.long q7), .second] [] := by first | (simp [entryFrame, mkF, argsToLocals, Value.category]; done) | rfl
def Q_rm8 (Z : State) (a : Addr) (x1 : Addr) (x2 : Addr) (x3 : Addr) (x4 : Addr) (q5 : Int64) (x6 : Addr) (q7 : Int64) (h0 : Heap) (n0 : Nat) (v : Option Value) (h : Heap) (L : List Loc) : Prop := v = none ∧ Fr n0 L ∧ Keep h0 h [a] ∧ Fld Z h a "com/example/millrace/millrace/Cell" "type" "Lcom/example/millrace/millrace/Cell$Type;" (.ref x1) ∧ Fld Z h a "com/example/millrace/millrace/Cell" "row" "[B" (.ref x2) ∧ Fld Z h a "com/example/millrace/millrace/Cell" "family" "Ljava/lang/String;" (.ref x3) ∧ Fld Z h a "com/example/millrace/millrace/Cell" "qualifier" "[B" (.ref x4) ∧ Fld Z h a "com/example/millrace/millrace/Cell" "timestamp" "J" (.long q5) ∧ Fld Z h a "com/example/millrace/millrace/Cell" "value" "[B" (.ref x6) ∧ Fld Z h a "com/example/millrace/millrace/Cell" "sequenceId" "J" (.long q7)
set_option maxRecDepth 65536 in
set_option maxHeartbeats 40000000 in
theorem rm8 (l : Launch) (Z : State) (a0 : Array Value) (hw : ∀ d ∈ tables_1, d.before a0 Z = true) (ws : List Jvm.Cond) (a : Addr) (x1 : Addr) (x2 : Addr) (x3 : Addr) (x4 : Addr) (q5 : Int64) (x6 : Addr) (q7 : Int64) (h0 : Heap) (n0 : Nat) (Z0 : n0 ≤ h0.size) (E_a : Exa Z h0 a "com/example/millrace/millrace/Cell") (F_type_a : Fld Z h0 a "com/example/millrace/millrace/Cell" "type" "Lcom/example/millrace/millrace/Cell$Type;" .null) (F_row_a : Fld Z h0 a "com/example/millrace/millrace/Cell" "row" "[B" .null) (F_family_a : Fld Z h0 a "com/example/millrace/millrace/Cell" "family" "Ljava/lang/String;" .null) (F_qualifier_a : Fld Z h0 a "com/example/millrace/millrace/Cell" "qualifier" "[B" .null) (F_timestamp_a : Fld Z h0 a "com/example/millrace/millrace/Cell" "timestamp" "J" (.long (0 : Int64))) (F_value_a : Fld Z h0 a "com/example/millrace/millrace/Cell" "value" "[B" .null) (F_sequenceId_a : Fld Z h0 a "com/example/millrace/millrace/Cell" "sequenceId" "J" (.long (0 : Int64))) (g_a : n0 ≤ a) :
    MetFree l (⟨"com/example/millrace/millrace/Cell", "<init>", "(Lcom/example/millrace/millrace/Cell$Type;[BLjava/lang/String;[BJ[BJ)V"⟩ : MethodName) (head1 (Jvm.Cond.code (⟨"com/example/millrace/millrace/Cell", "<init>", "(Lcom/example/millrace/millrace/Cell$Type;[BLjava/lang/String;[BJ[BJ)V"⟩ : MethodName) prog_1_method_2_code 10 none :: ws) ({ frames := 1, cells := 0, slots := 0, locals := 12 } : Room)) (fun zz UU => zz = #[(.ref a), (.ref x1), (.ref x2), (.ref x3), (.ref x4), (.long q5), (.ref x6), (.long q7)] ∧ Z.Warmed39 UU.vm ∧ UU.heap = h0) (fun _ _ _ _ _ => True) (fun _ U o U' => ∃ v L, o = .returned v ∧ Q_rm8 Z a x1 x2 x3 x4 q5 x6 q7 h0 n0 v U'.heap L ∧ FrameEnd U o U' L ({ frames := 1, cells := 0, slots := 0, locals := 12 } : Room).cells ({ frames := 1, cells := 0, slots := 0, locals := 12 } : Room).slots) := by
  refine MetFree.of_bodySF (plainFor_of_name pn_8) hisR ?_
  intro p e s m args below meth c s₁ Bd hml0 hP hK
  obtain ⟨rfl, hZ, hh⟩ := hP
  have hx := Bd.exec
  have hby := Bd.bytes
  have hml : c.maxLocals = 10 := hml0
  have hown : s.vm.findClass "com/example/millrace/millrace/Cell" = some m.cls := findClass_of_methodNamed Bd.named
  have hnm := (name_of_methodNamed Bd.named Bd.method).1
  have hlk : meth.locks = false := BodyLoose.notSynchronized Bd
  have X0 : Stand p l e ({ frames := 1, cells := 0, slots := 0, locals := 12 } : Room) s m #[(.ref a), (.ref x1), (.ref x2), (.ref x3), (.ref x4), (.long q5), (.ref x6), (.long q7)] below meth c s₁ [] 0 0 := Stand.of_body Bd
  have e0 : s₁.heap = h0 := by rw [← hh, Bd.state]; rfl
  have N0 := Fr.nil n0
  show own_Go p.tables e below (Q_rm8 Z a x1 x2 x3 x4 q5 x6 q7 h0 n0) s ({ frames := 1, cells := 0, slots := 0, locals := 12 } : Room).cells ({ frames := 1, cells := 0, slots := 0, locals := 12 } : Room).slots s₁ (entryFrame m #[(.ref a), (.ref x1), (.ref x2), (.ref x3), (.ref x4), (.long q5), (.ref x6), (.long q7)] 10)
  rw [ef_rm8 m a x1 x2 x3 x4 q5 x6 q7]
  refine own_by (T' := s₁) (g' := (mkF m 1 #[.val (.ref a), .val (.ref x1), .val (.ref x2), .val (.ref x3), .val (.ref x4), .val (.long q5), .second, .val (.ref x6), .val (.long q7), .second] [(.ref a)])) (fun _ k => XS.aloadN X0.here hx rfl (hb hby d8_0) rfl rfl k) ?_
  obtain ⟨T21, X21, e21, st21⟩ := initO X0 hx hZ hown (hw _ (List.mem_of_getElem? (i := 43) rfl)) (hw _ (List.mem_of_getElem? (i := 20) rfl)) (hw _ (List.mem_of_getElem? (i := 21) rfl)) e0 (g := (mkF m 1 #[.val (.ref a), .val (.ref x1), .val (.ref x2), .val (.ref x3), .val (.ref x4), .val (.long q5), .second, .val (.ref x6), .val (.long q7), .second] [(.ref a)])) rfl (by rw [hml]; rfl) rfl (hb hby d8_1) (by decide) (W := 0) (by show 2 * 0 + _ ≤ _; exact Nat.le_of_eq rfl) (by decide)
  refine own_by (T' := T21) (g' := (mkF m 4 #[.val (.ref a), .val (.ref x1), .val (.ref x2), .val (.ref x3), .val (.ref x4), .val (.long q5), .second, .val (.ref x6), .val (.long q7), .second] [])) (fun _ k => st21 _ k) ?_
  refine own_by (T' := T21) (g' := (mkF m 5 #[.val (.ref a), .val (.ref x1), .val (.ref x2), .val (.ref x3), .val (.ref x4), .val (.long q5), .second, .val (.ref x6), .val (.long q7), .second] [(.ref a)])) (fun _ k => XS.aloadN X21.here hx rfl (hb hby d8_4) rfl rfl k) ?_
  refine own_by (T' := T21) (g' := (mkF m 6 #[.val (.ref a), .val (.ref x1), .val (.ref x2), .val (.ref x3), .val (.ref x4), .val (.long q5), .second, .val (.ref x6), .val (.long q7), .second] [(.ref x1), (.ref a)])) (fun _ k => XS.aloadN X21.here hx rfl (hb hby d8_5) rfl rfl k) ?_
  obtain ⟨T22, h22, X22, e22, W22, st22⟩ := putF X21 hx hZ hown (host := "") (Or.inl (hw _ (List.mem_of_getElem? (i := 44) rfl))) Via.refl e21 F_type_a E_a (Or.inr ⟨(hw _ (List.mem_of_getElem? (i := 45) rfl)), rfl, hnm⟩) (hw _ (List.mem_of_getElem? (i := 38) rfl)) (ty := (.object "com/example/millrace/millrace/Cell$Type")) (by decide) rfl rfl (g := (mkF m 6 #[.val (.ref a), .val (.ref x1), .val (.ref x2), .val (.ref x3), .val (.ref x4), .val (.long q5), .second, .val (.ref x6), .val (.long q7), .second] [(.ref x1), (.ref a)])) rfl rfl (hb hby d8_6)
  have Fw22 : Fld Z h22 a "com/example/millrace/millrace/Cell" "type" "Lcom/example/millrace/millrace/Cell$Type;" (.ref x1) := Fld.same W22 F_type_a
  have K22 : Keep h0 h22 [a] := Keep.wr (Keep.refl h0 [a]) W22 (Or.inl (List.mem_of_getElem? (i := 0) rfl))
  have N22 := Fr.snoc X22 N0 g_a
  refine own_by (T' := T22) (g' := (mkF m 9 #[.val (.ref a), .val (.ref x1), .val (.ref x2), .val (.ref x3), .val (.ref x4), .val (.long q5), .second, .val (.ref x6), .val (.long q7), .second] [])) (fun _ k => st22 _ k) ?_
  refine own_by (T' := T22) (g' := (mkF m 10 #[.val (.ref a), .val (.ref x1), .val (.ref x2), .val (.ref x3), .val (.ref x4), .val (.long q5), .second, .val (.ref x6), .val (.long q7), .second] [(.ref a)])) (fun _ k => XS.aloadN X22.here hx rfl (hb hby d8_9) rfl rfl k) ?_
  refine own_by (T' := T22) (g' := (mkF m 11 #[.val (.ref a), .val (.ref x1), .val (.ref x2), .val (.ref x3), .val (.ref x4), .val (.long q5), .second, .val (.ref x6), .val (.long q7), .second] [(.ref x2), (.ref a)])) (fun _ k => XS.aloadN X22.here hx rfl (hb hby d8_10) rfl rfl k) ?_
  obtain ⟨T23, h23, X23, e23, W23, st23⟩ := putF X22 hx hZ hown (host := "") (Or.inl (hw _ (List.mem_of_getElem? (i := 46) rfl))) Via.refl e22 (Fld.other W22 F_row_a (Or.inr (slot_ne (a0 := a0) (Or.inr (hw _ (List.mem_of_getElem? (i := 47) rfl))) (Or.inr (hw _ (List.mem_of_getElem? (i := 45) rfl))) (by decide) (t := (.array .byte)) (t' := (.object "com/example/millrace/millrace/Cell$Type")) (by decide) (by decide)))) (Exa.wr W22 E_a) (Or.inr ⟨(hw _ (List.mem_of_getElem? (i := 47) rfl)), rfl, hnm⟩) (hw _ (List.mem_of_getElem? (i := 38) rfl)) (ty := (.array .byte)) (by decide) rfl rfl (g := (mkF m 11 #[.val (.ref a), .val (.ref x1), .val (.ref x2), .val (.ref x3), .val (.ref x4), .val (.long q5), .second, .val (.ref x6), .val (.long q7), .second] [(.ref x2), (.ref a)])) rfl rfl (hb hby d8_11)
  have Fw23 : Fld Z h23 a "com/example/millrace/millrace/Cell" "row" "[B" (.ref x2) := Fld.same W23 (Fld.other W22 F_row_a (Or.inr (slot_ne (a0 := a0) (Or.inr (hw _ (List.mem_of_getElem? (i := 47) rfl))) (Or.inr (hw _ (List.mem_of_getElem? (i := 45) rfl))) (by decide) (t := (.array .byte)) (t' := (.object "com/example/millrace/millrace/Cell$Type")) (by decide) (by decide))))
  have K23 : Keep h0 h23 [a] := Keep.wr K22 W23 (Or.inl (List.mem_of_getElem? (i := 0) rfl))
  have N23 := Fr.snoc X23 N22 g_a
  refine own_by (T' := T23) (g' := (mkF m 14 #[.val (.ref a), .val (.ref x1), .val (.ref x2), .val (.ref x3), .val (.ref x4), .val (.long q5), .second, .val (.ref x6), .val (.long q7), .second] [])) (fun _ k => st23 _ k) ?_
  refine own_by (T' := T23) (g' := (mkF m 15 #[.val (.ref a), .val (.ref x1), .val (.ref x2), .val (.ref x3), .val (.ref x4), .val (.long q5), .second, .val (.ref x6), .val (.long q7), .second] [(.ref a)])) (fun _ k => XS.aloadN X23.here hx rfl (hb hby d8_14) rfl rfl k) ?_
  refine own_by (T' := T23) (g' := (mkF m 16 #[.val (.ref a), .val (.ref x1), .val (.ref x2), .val (.ref x3), .val (.ref x4), .val (.long q5), .second, .val (.ref x6), .val (.long q7), .second] [(.ref x3), (.ref a)])) (fun _ k => XS.aloadN X23.here hx rfl (hb hby d8_15) rfl rfl k) ?_
  obtain ⟨T24, h24, X24, e24, W24, st24⟩ := putF X23 hx hZ hown (host := "") (Or.inl (hw _ (List.mem_of_getElem? (i := 48) rfl))) Via.refl e23 (Fld.other W23 (Fld.other W22 F_family_a (Or.inr (slot_ne (a0 := a0) (Or.inr (hw _ (List.mem_of_getElem? (i := 49) rfl))) (Or.inr (hw _ (List.mem_of_getElem? (i := 45) rfl))) (by decide) (t := (.object "java/lang/String")) (t' := (.object "com/example/millrace/millrace/Cell$Type")) (by decide) (by decide)))) (Or.inr (slot_ne (a0 := a0) (Or.inr (hw _ (List.mem_of_getElem? (i := 49) rfl))) (Or.inr (hw _ (List.mem_of_getElem? (i := 47) rfl))) (by decide) (t := (.object "java/lang/String")) (t' := (.array .byte)) (by decide) (by decide)))) (Exa.wr W23 (Exa.wr W22 E_a)) (Or.inr ⟨(hw _ (List.mem_of_getElem? (i := 49) rfl)), rfl, hnm⟩) (hw _ (List.mem_of_getElem? (i := 38) rfl)) (ty := (.object "java/lang/String")) (by decide) rfl rfl (g := (mkF m 16 #[.val (.ref a), .val (.ref x1), .val (.ref x2), .val (.ref x3), .val (.ref x4), .val (.long q5), .second, .val (.ref x6), .val (.long q7), .second] [(.ref x3), (.ref a)])) rfl rfl (hb hby d8_16)
  have Fw24 : Fld Z h24 a "com/example/millrace/millrace/Cell" "family" "Ljava/lang/String;" (.ref x3) := Fld.same W24 (Fld.other W23 (Fld.other W22 F_family_a (Or.inr (slot_ne (a0 := a0) (Or.inr (hw _ (List.mem_of_getElem? (i := 49) rfl))) (Or.inr (hw _ (List.mem_of_getElem? (i := 45) rfl))) (by decide) (t := (.object "java/lang/String")) (t' := (.object "com/example/millrace/millrace/Cell$Type")) (by decide) (by decide)))) (Or.inr (slot_ne (a0 := a0) (Or.inr (hw _ (List.mem_of_getElem? (i := 49) rfl))) (Or.inr (hw _ (List.mem_of_getElem? (i := 47) rfl))) (by decide) (t := (.object "java/lang/String")) (t' := (.array .byte)) (by decide) (by decide))))
  have K24 : Keep h0 h24 [a] := Keep.wr K23 W24 (Or.inl (List.mem_of_getElem? (i := 0) rfl))
  have N24 := Fr.snoc X24 N23 g_a
  refine own_by (T' := T24) (g' := (mkF m 19 #[.val (.ref a), .val (.ref x1), .val (.ref x2), .val (.ref x3), .val (.ref x4), .val (.long q5), .second, .val (.ref x6), .val (.long q7), .second] [])) (fun _ k => st24 _ k) ?_
  refine own_by (T' := T24) (g' := (mkF m 20 #[.val (.ref a), .val (.ref x1), .val (.ref x2), .val (.ref x3), .val (.ref x4), .val (.long q5), .second, .val (.ref x6), .val (.long q7), .second] [(.ref a)])) (fun _ k => XS.aloadN X24.here hx rfl (hb hby d8_19) rfl rfl k) ?_
  refine own_by (T' := T24) (g' := (mkF m 22 #[.val (.ref a), .val (.ref x1), .val (.ref x2), .val (.ref x3), .val (.ref x4), .val (.long q5), .second, .val (.ref x6), .val (.long q7), .second] [(.ref x4), (.ref a)])) (fun _ k => XS.aload X24.here hx rfl (hb hby d8_20) rfl rfl k) ?_
  obtain ⟨T25, h25, X25, e25, W25, st25⟩ := putF X24 hx hZ hown (host := "") (Or.inl (hw _ (List.mem_of_getElem? (i := 50) rfl))) Via.refl e24 (Fld.other W24 (Fld.other W23 (Fld.other W22 F_qualifier_a (Or.inr (slot_ne (a0 := a0) (Or.inr (hw _ (List.mem_of_getElem? (i := 51) rfl))) (Or.inr (hw _ (List.mem_of_getElem? (i := 45) rfl))) (by decide) (t := (.array .byte)) (t' := (.object "com/example/millrace/millrace/Cell$Type")) (by decide) (by decide)))) (Or.inr (slot_ne (a0 := a0) (Or.inr (hw _ (List.mem_of_getElem? (i := 51) rfl))) (Or.inr (hw _ (List.mem_of_getElem? (i := 47) rfl))) (by decide) (t := (.array .byte)) (t' := (.array .byte)) (by decide) (by decide)))) (Or.inr (slot_ne (a0 := a0) (Or.inr (hw _ (List.mem_of_getElem? (i := 51) rfl))) (Or.inr (hw _ (List.mem_of_getElem? (i := 49) rfl))) (by decide) (t := (.array .byte)) (t' := (.object "java/lang/String")) (by decide) (by decide)))) (Exa.wr W24 (Exa.wr W23 (Exa.wr W22 E_a))) (Or.inr ⟨(hw _ (List.mem_of_getElem? (i := 51) rfl)), rfl, hnm⟩) (hw _ (List.mem_of_getElem? (i := 38) rfl)) (ty := (.array .byte)) (by decide) rfl rfl (g := (mkF m 22 #[.val (.ref a), .val (.ref x1), .val (.ref x2), .val (.ref x3), .val (.ref x4), .val (.long q5), .second, .val (.ref x6), .val (.long q7), .second] [(.ref x4), (.ref a)])) rfl rfl (hb hby d8_22)
  have Fw25 : Fld Z h25 a "com/example/millrace/millrace/Cell" "qualifier" "[B" (.ref x4) := Fld.same W25 (Fld.other W24 (Fld.other W23 (Fld.other W22 F_qualifier_a (Or.inr (slot_ne (a0 := a0) (Or.inr (hw _ (List.mem_of_getElem? (i := 51) rfl))) (Or.inr (hw _ (List.mem_of_getElem? (i := 45) rfl))) (by decide) (t := (.array .byte)) (t' := (.object "com/example/millrace/millrace/Cell$Type")) (by decide) (by decide)))) (Or.inr (slot_ne (a0 := a0) (Or.inr (hw _ (List.mem_of_getElem? (i := 51) rfl))) (Or.inr (hw _ (List.mem_of_getElem? (i := 47) rfl))) (by decide) (t := (.array .byte)) (t' := (.array .byte)) (by decide) (by decide)))) (Or.inr (slot_ne (a0 := a0) (Or.inr (hw _ (List.mem_of_getElem? (i := 51) rfl))) (Or.inr (hw _ (List.mem_of_getElem? (i := 49) rfl))) (by decide) (t := (.array .byte)) (t' := (.object "java/lang/String")) (by decide) (by decide))))
  have K25 : Keep h0 h25 [a] := Keep.wr K24 W25 (Or.inl (List.mem_of_getElem? (i := 0) rfl))
  have N25 := Fr.snoc X25 N24 g_a
  refine own_by (T' := T25) (g' := (mkF m 25 #[.val (.ref a), .val (.ref x1), .val (.ref x2), .val (.ref x3), .val (.ref x4), .val (.long q5), .second, .val (.ref x6), .val (.long q7), .second] [])) (fun _ k => st25 _ k) ?_
  refine own_by (T' := T25) (g' := (mkF m 26 #[.val (.ref a), .val (.ref x1), .val (.ref x2), .val (.ref x3), .val (.ref x4), .val (.long q5), .second, .val (.ref x6), .val (.long q7), .second] [(.ref a)])) (fun _ k => XS.aloadN X25.here hx rfl (hb hby d8_25) rfl rfl k) ?_
  refine own_by (T' := T25) (g' := (mkF m 28 #[.val (.ref a), .val (.ref x1), .val (.ref x2), .val (.ref x3), .val (.ref x4), .val (.long q5), .second, .val (.ref x6), .val (.long q7), .second] [(.long q5), (.ref a)])) (fun _ k => XS.lload X25.here hx rfl (hb hby d8_26) rfl k) ?_
  obtain ⟨T26, h26, X26, e26, W26, st26⟩ := putF X25 hx hZ hown (host := "") (Or.inl (hw _ (List.mem_of_getElem? (i := 52) rfl))) Via.refl e25 (Fld.other W25 (Fld.other W24 (Fld.other W23 (Fld.other W22 F_timestamp_a (Or.inr (slot_ne (a0 := a0) (Or.inr (hw _ (List.mem_of_getElem? (i := 53) rfl))) (Or.inr (hw _ (List.mem_of_getElem? (i := 45) rfl))) (by decide) (t := .long) (t' := (.object "com/example/millrace/millrace/Cell$Type")) (by decide) (by decide)))) (Or.inr (slot_ne (a0 := a0) (Or.inr (hw _ (List.mem_of_getElem? (i := 53) rfl))) (Or.inr (hw _ (List.mem_of_getElem? (i := 47) rfl))) (by decide) (t := .long) (t' := (.array .byte)) (by decide) (by decide)))) (Or.inr (slot_ne (a0 := a0) (Or.inr (hw _ (List.mem_of_getElem? (i := 53) rfl))) (Or.inr (hw _ (List.mem_of_getElem? (i := 49) rfl))) (by decide) (t := .long) (t' := (.object "java/lang/String")) (by decide) (by decide)))) (Or.inr (slot_ne (a0 := a0) (Or.inr (hw _ (List.mem_of_getElem? (i := 53) rfl))) (Or.inr (hw _ (List.mem_of_getElem? (i := 51) rfl))) (by decide) (t := .long) (t' := (.array .byte)) (by decide) (by decide)))) (Exa.wr W25 (Exa.wr W24 (Exa.wr W23 (Exa.wr W22 E_a)))) (Or.inr ⟨(hw _ (List.mem_of_getElem? (i := 53) rfl)), rfl, hnm⟩) (hw _ (List.mem_of_getElem? (i := 38) rfl)) (ty := .long) (by decide) rfl rfl (g := (mkF m 28 #[.val (.ref a), .val (.ref x1), .val (.ref x2), .val (.ref x3), .val (.ref x4), .val (.long q5), .second, .val (.ref x6), .val (.long q7), .second] [(.long q5), (.ref a)])) rfl rfl (hb hby d8_28)
  have Fw26 : Fld Z h26 a "com/example/millrace/millrace/Cell" "timestamp" "J" (.long q5) := Fld.same W26 (Fld.other W25 (Fld.other W24 (Fld.other W23 (Fld.other W22 F_timestamp_a (Or.inr (slot_ne (a0 := a0) (Or.inr (hw _ (List.mem_of_getElem? (i := 53) rfl))) (Or.inr (hw _ (List.mem_of_getElem? (i := 45) rfl))) (by decide) (t := .long) (t' := (.object "com/example/millrace/millrace/Cell$Type")) (by decide) (by decide)))) (Or.inr (slot_ne (a0 := a0) (Or.inr (hw _ (List.mem_of_getElem? (i := 53) rfl))) (Or.inr (hw _ (List.mem_of_getElem? (i := 47) rfl))) (by decide) (t := .long) (t' := (.array .byte)) (by decide) (by decide)))) (Or.inr (slot_ne (a0 := a0) (Or.inr (hw _ (List.mem_of_getElem? (i := 53) rfl))) (Or.inr (hw _ (List.mem_of_getElem? (i := 49) rfl))) (by decide) (t := .long) (t' := (.object "java/lang/String")) (by decide) (by decide)))) (Or.inr (slot_ne (a0 := a0) (Or.inr (hw _ (List.mem_of_getElem? (i := 53) rfl))) (Or.inr (hw _ (List.mem_of_getElem? (i := 51) rfl))) (by decide) (t := .long) (t' := (.array .byte)) (by decide) (by decide))))
  have K26 : Keep h0 h26 [a] := Keep.wr K25 W26 (Or.inl (List.mem_of_getElem? (i := 0) rfl))
  have N26 := Fr.snoc X26 N25 g_a
  refine own_by (T' := T26) (g' := (mkF m 31 #[.val (.ref a), .val (.ref x1), .val (.ref x2), .val (.ref x3), .val (.ref x4), .val (.long q5), .second, .val (.ref x6), .val (.long q7), .second] [])) (fun _ k => st26 _ k) ?_
  refine own_by (T' := T26) (g' := (mkF m 32 #[.val (.ref a), .val (.ref x1), .val (.ref x2), .val (.ref x3), .val (.ref x4), .val (.long q5), .second, .val (.ref x6), .val (.long q7), .second] [(.ref a)])) (fun _ k => XS.aloadN X26.here hx rfl (hb hby d8_31) rfl rfl k) ?_
  refine own_by (T' := T26) (g' := (mkF m 34 #[.val (.ref a), .val (.ref x1), .val (.ref x2), .val (.ref x3), .val (.ref x4), .val (.long q5), .second, .val (.ref x6), .val (.long q7), .second] [(.ref x6), (.ref a)])) (fun _ k => XS.aload X26.here hx rfl (hb hby d8_32) rfl rfl k) ?_
  obtain ⟨T27, h27, X27, e27, W27, st27⟩ := putF X26 hx hZ hown (host := "") (Or.inl (hw _ (List.mem_of_getElem? (i := 54) rfl))) Via.refl e26 (Fld.other W26 (Fld.other W25 (Fld.other W24 (Fld.other W23 (Fld.other W22 F_value_a (Or.inr (slot_ne (a0 := a0) (Or.inr (hw _ (List.mem_of_getElem? (i := 55) rfl))) (Or.inr (hw _ (List.mem_of_getElem? (i := 45) rfl))) (by decide) (t := (.array .byte)) (t' := (.object "com/example/millrace/millrace/Cell$Type")) (by decide) (by decide)))) (Or.inr (slot_ne (a0 := a0) (Or.inr (hw _ (List.mem_of_getElem? (i := 55) rfl))) (Or.inr (hw _ (List.mem_of_getElem? (i := 47) rfl))) (by decide) (t := (.array .byte)) (t' := (.array .byte)) (by decide) (by decide)))) (Or.inr (slot_ne (a0 := a0) (Or.inr (hw _ (List.mem_of_getElem? (i := 55) rfl))) (Or.inr (hw _ (List.mem_of_getElem? (i := 49) rfl))) (by decide) (t := (.array .byte)) (t' := (.object "java/lang/String")) (by decide) (by decide)))) (Or.inr (slot_ne (a0 := a0) (Or.inr (hw _ (List.mem_of_getElem? (i := 55) rfl))) (Or.inr (hw _ (List.mem_of_getElem? (i := 51) rfl))) (by decide) (t := (.array .byte)) (t' := (.array .byte)) (by decide) (by decide)))) (Or.inr (slot_ne (a0 := a0) (Or.inr (hw _ (List.mem_of_getElem? (i := 55) rfl))) (Or.inr (hw _ (List.mem_of_getElem? (i := 53) rfl))) (by decide) (t := (.array .byte)) (t' := .long) (by decide) (by decide)))) (Exa.wr W26 (Exa.wr W25 (Exa.wr W24 (Exa.wr W23 (Exa.wr W22 E_a))))) (Or.inr ⟨(hw _ (List.mem_of_getElem? (i := 55) rfl)), rfl, hnm⟩) (hw _ (List.mem_of_getElem? (i := 38) rfl)) (ty := (.array .byte)) (by decide) rfl rfl (g := (mkF m 34 #[.val (.ref a), .val (.ref x1), .val (.ref x2), .val (.ref x3), .val (.ref x4), .val (.long q5), .second, .val (.ref x6), .val (.long q7), .second] [(.ref x6), (.ref a)])) rfl rfl (hb hby d8_34)
  have Fw27 : Fld Z h27 a "com/example/millrace/millrace/Cell" "value" "[B" (.ref x6) := Fld.same W27 (Fld.other W26 (Fld.other W25 (Fld.other W24 (Fld.other W23 (Fld.other W22 F_value_a (Or.inr (slot_ne (a0 := a0) (Or.inr (hw _ (List.mem_of_getElem? (i := 55) rfl))) (Or.inr (hw _ (List.mem_of_getElem? (i := 45) rfl))) (by decide) (t := (.array .byte)) (t' := (.object "com/example/millrace/millrace/Cell$Type")) (by decide) (by decide)))) (Or.inr (slot_ne (a0 := a0) (Or.inr (hw _ (List.mem_of_getElem? (i := 55) rfl))) (Or.inr (hw _ (List.mem_of_getElem? (i := 47) rfl))) (by decide) (t := (.array .byte)) (t' := (.array .byte)) (by decide) (by decide)))) (Or.inr (slot_ne (a0 := a0) (Or.inr (hw _ (List.mem_of_getElem? (i := 55) rfl))) (Or.inr (hw _ (List.mem_of_getElem? (i := 49) rfl))) (by decide) (t := (.array .byte)) (t' := (.object "java/lang/String")) (by decide) (by decide)))) (Or.inr (slot_ne (a0 := a0) (Or.inr (hw _ (List.mem_of_getElem? (i := 55) rfl))) (Or.inr (hw _ (List.mem_of_getElem? (i := 51) rfl))) (by decide) (t := (.array .byte)) (t' := (.array .byte)) (by decide) (by decide)))) (Or.inr (slot_ne (a0 := a0) (Or.inr (hw _ (List.mem_of_getElem? (i := 55) rfl))) (Or.inr (hw _ (List.mem_of_getElem? (i := 53) rfl))) (by decide) (t := (.array .byte)) (t' := .long) (by decide) (by decide))))
  have K27 : Keep h0 h27 [a] := Keep.wr K26 W27 (Or.inl (List.mem_of_getElem? (i := 0) rfl))
  have N27 := Fr.snoc X27 N26 g_a
  refine own_by (T' := T27) (g' := (mkF m 37 #[.val (.ref a), .val (.ref x1), .val (.ref x2), .val (.ref x3), .val (.ref x4), .val (.long q5), .second, .val (.ref x6), .val (.long q7), .second] [])) (fun _ k => st27 _ k) ?_
  refine own_by (T' := T27) (g' := (mkF m 38 #[.val (.ref a), .val (.ref x1), .val (.ref x2), .val (.ref x3), .val (.ref x4), .val (.long q5), .second, .val (.ref x6), .val (.long q7), .second] [(.ref a)])) (fun _ k => XS.aloadN X27.here hx rfl (hb hby d8_37) rfl rfl k) ?_
  refine own_by (T' := T27) (g' := (mkF m 40 #[.val (.ref a), .val (.ref x1), .val (.ref x2), .val (.ref x3), .val (.ref x4), .val (.long q5), .second, .val (.ref x6), .val (.long q7), .second] [(.long q7), (.ref a)])) (fun _ k => XS.lload X27.here hx rfl (hb hby d8_38) rfl k) ?_
  obtain ⟨T28, h28, X28, e28, W28, st28⟩ := putF X27 hx hZ hown (host := "") (Or.inl (hw _ (List.mem_of_getElem? (i := 56) rfl))) Via.refl e27 (Fld.other W27 (Fld.other W26 (Fld.other W25 (Fld.other W24 (Fld.other W23 (Fld.other W22 F_sequenceId_a (Or.inr (slot_ne (a0 := a0) (Or.inr (hw _ (List.mem_of_getElem? (i := 57) rfl))) (Or.inr (hw _ (List.mem_of_getElem? (i := 45) rfl))) (by decide) (t := .long) (t' := (.object "com/example/millrace/millrace/Cell$Type")) (by decide) (by decide)))) (Or.inr (slot_ne (a0 := a0) (Or.inr (hw _ (List.mem_of_getElem? (i := 57) rfl))) (Or.inr (hw _ (List.mem_of_getElem? (i := 47) rfl))) (by decide) (t := .long) (t' := (.array .byte)) (by decide) (by decide)))) (Or.inr (slot_ne (a0 := a0) (Or.inr (hw _ (List.mem_of_getElem? (i := 57) rfl))) (Or.inr (hw _ (List.mem_of_getElem? (i := 49) rfl))) (by decide) (t := .long) (t' := (.object "java/lang/String")) (by decide) (by decide)))) (Or.inr (slot_ne (a0 := a0) (Or.inr (hw _ (List.mem_of_getElem? (i := 57) rfl))) (Or.inr (hw _ (List.mem_of_getElem? (i := 51) rfl))) (by decide) (t := .long) (t' := (.array .byte)) (by decide) (by decide)))) (Or.inr (slot_ne (a0 := a0) (Or.inr (hw _ (List.mem_of_getElem? (i := 57) rfl))) (Or.inr (hw _ (List.mem_of_getElem? (i := 53) rfl))) (by decide) (t := .long) (t' := .long) (by decide) (by decide)))) (Or.inr (slot_ne (a0 := a0) (Or.inr (hw _ (List.mem_of_getElem? (i := 57) rfl))) (Or.inr (hw _ (List.mem_of_getElem? (i := 55) rfl))) (by decide) (t := .long) (t' := (.array .byte)) (by decide) (by decide)))) (Exa.wr W27 (Exa.wr W26 (Exa.wr W25 (Exa.wr W24 (Exa.wr W23 (Exa.wr W22 E_a)))))) (Or.inr ⟨(hw _ (List.mem_of_getElem? (i := 57) rfl)), rfl, hnm⟩) (hw _ (List.mem_of_getElem? (i := 38) rfl)) (ty := .long) (by decide) rfl rfl (g := (mkF m 40 #[.val (.ref a), .val (.ref x1), .val (.ref x2), .val (.ref x3), .val (.ref x4), .val (.long q5), .second, .val (.ref x6), .val (.long q7), .second] [(.long q7), (.ref a)])) rfl rfl (hb hby d8_40)
  have Fw28 : Fld Z h28 a "com/example/millrace/millrace/Cell" "sequenceId" "J" (.long q7) := Fld.same W28 (Fld.other W27 (Fld.other W26 (Fld.other W25 (Fld.other W24 (Fld.other W23 (Fld.other W22 F_sequenceId_a (Or.inr (slot_ne (a0 := a0) (Or.inr (hw _ (List.mem_of_getElem? (i := 57) rfl))) (Or.inr (hw _ (List.mem_of_getElem? (i := 45) rfl))) (by decide) (t := .long) (t' := (.object "com/example/millrace/millrace/Cell$Type")) (by decide) (by decide)))) (Or.inr (slot_ne (a0 := a0) (Or.inr (hw _ (List.mem_of_getElem? (i := 57) rfl))) (Or.inr (hw _ (List.mem_of_getElem? (i := 47) rfl))) (by decide) (t := .long) (t' := (.array .byte)) (by decide) (by decide)))) (Or.inr (slot_ne (a0 := a0) (Or.inr (hw _ (List.mem_of_getElem? (i := 57) rfl))) (Or.inr (hw _ (List.mem_of_getElem? (i := 49) rfl))) (by decide) (t := .long) (t' := (.object "java/lang/String")) (by decide) (by decide)))) (Or.inr (slot_ne (a0 := a0) (Or.inr (hw _ (List.mem_of_getElem? (i := 57) rfl))) (Or.inr (hw _ (List.mem_of_getElem? (i := 51) rfl))) (by decide) (t := .long) (t' := (.array .byte)) (by decide) (by decide)))) (Or.inr (slot_ne (a0 := a0) (Or.inr (hw _ (List.mem_of_getElem? (i := 57) rfl))) (Or.inr (hw _ (List.mem_of_getElem? (i := 53) rfl))) (by decide) (t := .long) (t' := .long) (by decide) (by decide)))) (Or.inr (slot_ne (a0 := a0) (Or.inr (hw _ (List.mem_of_getElem? (i := 57) rfl))) (Or.inr (hw _ (List.mem_of_getElem? (i := 55) rfl))) (by decide) (t := .long) (t' := (.array .byte)) (by decide) (by decide))))
  have K28 : Keep h0 h28 [a] := Keep.wr K27 W28 (Or.inl (List.mem_of_getElem? (i := 0) rfl))
  have N28 := Fr.snoc X28 N27 g_a
  refine own_by (T' := T28) (g' := (mkF m 43 #[.val (.ref a), .val (.ref x1), .val (.ref x2), .val (.ref x3), .val (.ref x4), .val (.long q5), .second, .val (.ref x6), .val (.long q7), .second] [])) (fun _ k => st28 _ k) ?_
  refine own_ret X28 hlk (v := none) (fun _ => rfl) (fun fs hr => X28.returnOut hx Bd.returns (hb hby d8_43) hr) ?_ (by decide) (by decide)
  rw [e28]
  exact ⟨rfl, N28, K28, (Fld.other W28 (Fld.other W27 (Fld.other W26 (Fld.other W25 (Fld.other W24 (Fld.other W23 Fw22 (Or.inr (slot_ne (a0 := a0) (Or.inr (hw _ (List.mem_of_getElem? (i := 45) rfl))) (Or.inr (hw _ (List.mem_of_getElem? (i := 47) rfl))) (by decide) (t := (.object "com/example/millrace/millrace/Cell$Type")) (t' := (.array .byte)) (by decide) (by decide)))) (Or.inr (slot_ne (a0 := a0) (Or.inr (hw _ (List.mem_of_getElem? (i := 45) rfl))) (Or.inr (hw _ (List.mem_of_getElem? (i := 49) rfl))) (by decide) (t := (.object "com/example/millrace/millrace/Cell$Type")) (t' := (.object "java/lang/String")) (by decide) (by decide)))) (Or.inr (slot_ne (a0 := a0) (Or.inr (hw _ (List.mem_of_getElem? (i := 45) rfl))) (Or.inr (hw _ (List.mem_of_getElem? (i := 51) rfl))) (by decide) (t := (.object "com/example/millrace/millrace/Cell$Type")) (t' := (.array .byte)) (by decide) (by decide)))) (Or.inr (slot_ne (a0 := a0) (Or.inr (hw _ (List.mem_of_getElem? (i := 45) rfl))) (Or.inr (hw _ (List.mem_of_getElem? (i := 53) rfl))) (by decide) (t := (.object "com/example/millrace/millrace/Cell$Type")) (t' := .long) (by decide) (by decide)))) (Or.inr (slot_ne (a0 := a0) (Or.inr (hw _ (List.mem_of_getElem? (i := 45) rfl))) (Or.inr (hw _ (List.mem_of_getElem? (i := 55) rfl))) (by decide) (t := (.object "com/example/millrace/millrace/Cell$Type")) (t' := (.array .byte)) (by decide) (by decide)))) (Or.inr (slot_ne (a0 := a0) (Or.inr (hw _ (List.mem_of_getElem? (i := 45) rfl))) (Or.inr (hw _ (List.mem_of_getElem? (i := 57) rfl))) (by decide) (t := (.object "com/example/millrace/millrace/Cell$Type")) (t' := .long) (by decide) (by decide)))), (Fld.other W28 (Fld.other W27 (Fld.other W26 (Fld.other W25 (Fld.other W24 Fw23 (Or.inr (slot_ne (a0 := a0) (Or.inr (hw _ (List.mem_of_getElem? (i := 47) rfl))) (Or.inr (hw _ (List.mem_of_getElem? (i := 49) rfl))) (by decide) (t := (.array .byte)) (t' := (.object "java/lang/String")) (by decide) (by decide)))) (Or.inr (slot_ne (a0 := a0) (Or.inr (hw _ (List.mem_of_getElem? (i := 47) rfl))) (Or.inr (hw _ (List.mem_of_getElem? (i := 51) rfl))) (by decide) (t := (.array .byte)) (t' := (.array .byte)) (by decide) (by decide)))) (Or.inr (slot_ne (a0 := a0) (Or.inr (hw _ (List.mem_of_getElem? (i := 47) rfl))) (Or.inr (hw _ (List.mem_of_getElem? (i := 53) rfl))) (by decide) (t := (.array .byte)) (t' := .long) (by decide) (by decide)))) (Or.inr (slot_ne (a0 := a0) (Or.inr (hw _ (List.mem_of_getElem? (i := 47) rfl))) (Or.inr (hw _ (List.mem_of_getElem? (i := 55) rfl))) (by decide) (t := (.array .byte)) (t' := (.array .byte)) (by decide) (by decide)))) (Or.inr (slot_ne (a0 := a0) (Or.inr (hw _ (List.mem_of_getElem? (i := 47) rfl))) (Or.inr (hw _ (List.mem_of_getElem? (i := 57) rfl))) (by decide) (t := (.array .byte)) (t' := .long) (by decide) (by decide)))), (Fld.other W28 (Fld.other W27 (Fld.other W26 (Fld.other W25 Fw24 (Or.inr (slot_ne (a0 := a0) (Or.inr (hw _ (List.mem_of_getElem? (i := 49) rfl))) (Or.inr (hw _ (List.mem_of_getElem? (i := 51) rfl))) (by decide) (t := (.object "java/lang/String")) (t' := (.array .byte)) (by decide) (by decide)))) (Or.inr (slot_ne (a0 := a0) (Or.inr (hw _ (List.mem_of_getElem? (i := 49) rfl))) (Or.inr (hw _ (List.mem_of_getElem? (i := 53) rfl))) (by decide) (t := (.object "java/lang/String")) (t' := .long) (by decide) (by decide)))) (Or.inr (slot_ne (a0 := a0) (Or.inr (hw _ (List.mem_of_getElem? (i := 49) rfl))) (Or.inr (hw _ (List.mem_of_getElem? (i := 55) rfl))) (by decide) (t := (.object "java/lang/String")) (t' := (.array .byte)) (by decide) (by decide)))) (Or.inr (slot_ne (a0 := a0) (Or.inr (hw _ (List.mem_of_getElem? (i := 49) rfl))) (Or.inr (hw _ (List.mem_of_getElem? (i := 57) rfl))) (by decide) (t := (.object "java/lang/String")) (t' := .long) (by decide) (by decide)))), (Fld.other W28 (Fld.other W27 (Fld.other W26 Fw25 (Or.inr (slot_ne (a0 := a0) (Or.inr (hw _ (List.mem_of_getElem? (i := 51) rfl))) (Or.inr (hw _ (List.mem_of_getElem? (i := 53) rfl))) (by decide) (t := (.array .byte)) (t' := .long) (by decide) (by decide)))) (Or.inr (slot_ne (a0 := a0) (Or.inr (hw _ (List.mem_of_getElem? (i := 51) rfl))) (Or.inr (hw _ (List.mem_of_getElem? (i := 55) rfl))) (by decide) (t := (.array .byte)) (t' := (.array .byte)) (by decide) (by decide)))) (Or.inr (slot_ne (a0 := a0) (Or.inr (hw _ (List.mem_of_getElem? (i := 51) rfl))) (Or.inr (hw _ (List.mem_of_getElem? (i := 57) rfl))) (by decide) (t := (.array .byte)) (t' := .long) (by decide) (by decide)))), (Fld.other W28 (Fld.other W27 Fw26 (Or.inr (slot_ne (a0 := a0) (Or.inr (hw _ (List.mem_of_getElem? (i := 53) rfl))) (Or.inr (hw _ (List.mem_of_getElem? (i := 55) rfl))) (by decide) (t := .long) (t' := (.array .byte)) (by decide) (by decide)))) (Or.inr (slot_ne (a0 := a0) (Or.inr (hw _ (List.mem_of_getElem? (i := 53) rfl))) (Or.inr (hw _ (List.mem_of_getElem? (i := 57) rfl))) (by decide) (t := .long) (t' := .long) (by decide) (by decide)))), (Fld.other W28 Fw27 (Or.inr (slot_ne (a0 := a0) (Or.inr (hw _ (List.mem_of_getElem? (i := 55) rfl))) (Or.inr (hw _ (List.mem_of_getElem? (i := 57) rfl))) (by decide) (t := (.array .byte)) (t' := .long) (by decide) (by decide)))), Fw28⟩
theorem d9_0 : decode prog_1_method_4_code 0 = .ok (.new 8, 3) := by decide +kernel
theorem d9_3 : decode prog_1_method_4_code 3 = .ok (.dup, 1) := by decide +kernel
theorem d9_4 : decode prog_1_method_4_code 4 = .ok (.aload_n 0, 1) := by decide +kernel
theorem d9_5 : decode prog_1_method_4_code 5 = .ok (.getfield 18, 3) := by decide +kernel
theorem d9_8 : decode prog_1_method_4_code 8 = .ok (.aload_n 3, 1) := by decide +kernel
theorem d9_9 : decode prog_1_method_4_code 9 = .ok (.aload 4, 2) := by decide +kernel
theorem d9_11 : decode prog_1_method_4_code 11 = .ok (.aload_n 0, 1) := by decide +kernel
theorem d9_12 : decode prog_1_method_4_code 12 = .ok (.getfield 29, 3) := by decide +kernel
theorem d9_15 : decode prog_1_method_4_code 15 = .ok (.aload_n 0, 1) := by decide +kernel
theorem d9_16 : decode prog_1_method_4_code 16 = .ok (.getfield 32, 3) := by decide +kernel
theorem d9_19 : decode prog_1_method_4_code 19 = .ok (.aload_n 0, 1) := by decide +kernel
theorem d9_20 : decode prog_1_method_4_code 20 = .ok (.getfield 36, 3) := by decide +kernel
theorem d9_23 : decode prog_1_method_4_code 23 = .ok (.lload_n 1, 1) := by decide +kernel
theorem d9_24 : decode prog_1_method_4_code 24 = .ok (.invokespecial 7, 3) := by decide +kernel
theorem d9_27 : decode prog_1_method_4_code 27 = .ok (.areturn, 1) := by decide +kernel
theorem pn_9 : plainName "com/example/millrace/millrace/Cell" = true := by first | (simp [plainName, overriddenIn]; done) | decide +kernel
theorem ef_rm9 (m : MethodId) (a : Addr) (q8 : Int64) (y2 : Addr) (y3 : Addr) : entryFrame m #[(.ref a), (.long q8), (.ref y2), (.ref y3)] 5 = mkF m 0 #[.val (.ref a), .val (.long q8), .second, .val (.ref y2), .val (.ref y3)] [] := by first | (simp [entryFrame, mkF, argsToLocals, Value.category]; done) | rfl
def Q_rm9 (Z : State) (a : Addr) (q8 : Int64) (y2 : Addr) (y3 : Addr) (x1 : Addr) (x2 : Addr) (x3 : Addr) (x4 : Addr) (q5 : Int64) (x6 : Addr) (q7 : Int64) (h0 : Heap) (n0 : Nat) (v : Option Value) (h : Heap) (L : List Loc) : Prop := ∃ t : Addr, v = some (.ref t) ∧ Fr n0 L ∧ Keep h0 h [] ∧ h0.size ≤ t ∧ Exa Z h t "com/example/millrace/millrace/Cell" ∧ Fld Z h t "com/example/millrace/millrace/Cell" "type" "Lcom/example/millrace/millrace/Cell$Type;" (.ref x1) ∧ Fld Z h t "com/example/millrace/millrace/Cell" "row" "[B" (.ref y2) ∧ Fld Z h t "com/example/millrace/millrace/Cell" "family" "Ljava/lang/String;" (.ref y3) ∧ Fld Z h t "com/example/millrace/millrace/Cell" "qualifier" "[B" (.ref x4) ∧ Fld Z h t "com/example/millrace/millrace/Cell" "timestamp" "J" (.long q5) ∧ Fld Z h t "com/example/millrace/millrace/Cell" "value" "[B" (.ref x6) ∧ Fld Z h t "com/example/millrace/millrace/Cell" "sequenceId" "J" (.long q8)
set_option maxRecDepth 65536 in
set_option maxHeartbeats 40000000 in
theorem rm9 (l : Launch) (Z : State) (a0 : Array Value) (hw : ∀ d ∈ tables_1, d.before a0 Z = true) (ws : List Jvm.Cond) (a : Addr) (q8 : Int64) (y2 : Addr) (y3 : Addr) (x1 : Addr) (x2 : Addr) (x3 : Addr) (x4 : Addr) (q5 : Int64) (x6 : Addr) (q7 : Int64) (h0 : Heap) (n0 : Nat) (Z0 : n0 ≤ h0.size) (F_type_a : Fld Z h0 a "com/example/millrace/millrace/Cell" "type" "Lcom/example/millrace/millrace/Cell$Type;" (.ref x1)) (F_row_a : Fld Z h0 a "com/example/millrace/millrace/Cell" "row" "[B" (.ref x2)) (F_family_a : Fld Z h0 a "com/example/millrace/millrace/Cell" "family" "Ljava/lang/String;" (.ref x3)) (F_qualifier_a : Fld Z h0 a "com/example/millrace/millrace/Cell" "qualifier" "[B" (.ref x4)) (F_timestamp_a : Fld Z h0 a "com/example/millrace/millrace/Cell" "timestamp" "J" (.long q5)) (F_value_a : Fld Z h0 a "com/example/millrace/millrace/Cell" "value" "[B" (.ref x6)) (F_sequenceId_a : Fld Z h0 a "com/example/millrace/millrace/Cell" "sequenceId" "J" (.long q7)) :
    MetFree l (⟨"com/example/millrace/millrace/Cell", "withSequenceId", "(J[BLjava/lang/String;)Lcom/example/millrace/millrace/Cell;"⟩ : MethodName) (head1 (Jvm.Cond.code (⟨"com/example/millrace/millrace/Cell", "withSequenceId", "(J[BLjava/lang/String;)Lcom/example/millrace/millrace/Cell;"⟩ : MethodName) prog_1_method_4_code 5 (some (.object "com/example/millrace/millrace/Cell")) :: ws) ({ frames := 2, cells := 1, slots := 7, locals := 34 } : Room)) (fun zz UU => zz = #[(.ref a), (.long q8), (.ref y2), (.ref y3)] ∧ Z.Warmed39 UU.vm ∧ UU.heap = h0) (fun _ _ _ _ _ => True) (fun _ U o U' => ∃ v L, o = .returned v ∧ Q_rm9 Z a q8 y2 y3 x1 x2 x3 x4 q5 x6 q7 h0 n0 v U'.heap L ∧ FrameEnd U o U' L ({ frames := 2, cells := 1, slots := 7, locals := 34 } : Room).cells ({ frames := 2, cells := 1, slots := 7, locals := 34 } : Room).slots) := by
  refine MetFree.of_bodySF (plainFor_of_name pn_9) hisR ?_
  intro p e s m args below meth c s₁ Bd hml0 hP hK
  obtain ⟨rfl, hZ, hh⟩ := hP
  have hx := Bd.exec
  have hby := Bd.bytes
  have hml : c.maxLocals = 5 := hml0
  have hown : s.vm.findClass "com/example/millrace/millrace/Cell" = some m.cls := findClass_of_methodNamed Bd.named
  have hnm := (name_of_methodNamed Bd.named Bd.method).1
  have hlk : meth.locks = false := BodyLoose.notSynchronized Bd
  have X0 : Stand p l e ({ frames := 2, cells := 1, slots := 7, locals := 34 } : Room) s m #[(.ref a), (.long q8), (.ref y2), (.ref y3)] below meth c s₁ [] 0 0 := Stand.of_body Bd
  have e0 : s₁.heap = h0 := by rw [← hh, Bd.state]; rfl
  have N0 := Fr.nil n0
  show own_Go p.tables e below (Q_rm9 Z a q8 y2 y3 x1 x2 x3 x4 q5 x6 q7 h0 n0) s ({ frames := 2, cells := 1, slots := 7, locals := 34 } : Room).cells ({ frames := 2, cells := 1, slots := 7, locals := 34 } : Room).slots s₁ (entryFrame m #[(.ref a), (.long q8), (.ref y2), (.ref y3)] 5)
  rw [ef_rm9 m a q8 y2 y3]
  obtain ⟨T21, h21, X21, e21, E21, A21, D21, -, st21⟩ := newO X0 hx hZ hown (hw _ (List.mem_of_getElem? (i := 63) rfl)) (hw _ (List.mem_of_getElem? (i := 38) rfl)) (hw _ (List.mem_of_getElem? (i := 39) rfl)) e0 (g := (mkF m 0 #[.val (.ref a), .val (.long q8), .second, .val (.ref y2), .val (.ref y3)] [])) rfl (hb hby d9_0) (by decide) (by decide)
  obtain ⟨b21, g21⟩ : ∃ z, z = h0.size := ⟨_, rfl⟩
  rw [← g21] at A21 D21 st21
  have E_b21 : Exa Z h21 b21 "com/example/millrace/millrace/Cell" := A21
  have F_type_b21 : Fld Z h21 b21 "com/example/millrace/millrace/Cell" "type" "Lcom/example/millrace/millrace/Cell$Type;" .null := D21 (Or.inr (hw _ (List.mem_of_getElem? (i := 45) rfl))) (ty := (.object "com/example/millrace/millrace/Cell$Type")) (by decide)
  have F_row_b21 : Fld Z h21 b21 "com/example/millrace/millrace/Cell" "row" "[B" .null := D21 (Or.inr (hw _ (List.mem_of_getElem? (i := 47) rfl))) (ty := (.array .byte)) (by decide)
  have F_family_b21 : Fld Z h21 b21 "com/example/millrace/millrace/Cell" "family" "Ljava/lang/String;" .null := D21 (Or.inr (hw _ (List.mem_of_getElem? (i := 49) rfl))) (ty := (.object "java/lang/String")) (by decide)
  have F_qualifier_b21 : Fld Z h21 b21 "com/example/millrace/millrace/Cell" "qualifier" "[B" .null := D21 (Or.inr (hw _ (List.mem_of_getElem? (i := 51) rfl))) (ty := (.array .byte)) (by decide)
  have F_timestamp_b21 : Fld Z h21 b21 "com/example/millrace/millrace/Cell" "timestamp" "J" (.long (0 : Int64)) := D21 (Or.inr (hw _ (List.mem_of_getElem? (i := 53) rfl))) (ty := .long) (by decide)
  have F_value_b21 : Fld Z h21 b21 "com/example/millrace/millrace/Cell" "value" "[B" .null := D21 (Or.inr (hw _ (List.mem_of_getElem? (i := 55) rfl))) (ty := (.array .byte)) (by decide)
  have F_sequenceId_b21 : Fld Z h21 b21 "com/example/millrace/millrace/Cell" "sequenceId" "J" (.long (0 : Int64)) := D21 (Or.inr (hw _ (List.mem_of_getElem? (i := 57) rfl))) (ty := .long) (by decide)
  have g_b21 : n0 ≤ b21 := Nat.le_trans Z0 (Nat.le_of_eq g21.symm)
  have sz_b21 : h0.size ≤ b21 := Nat.le_trans (Keep.refl h0 []).1 (Nat.le_of_eq g21.symm)
  have K21 : Keep h0 h21 [] := Keep.ext (Keep.refl h0 []) E21
  refine own_by (T' := T21) (g' := (mkF m 3 #[.val (.ref a), .val (.long q8), .second, .val (.ref y2), .val (.ref y3)] [(.ref b21)])) (fun _ k => st21 _ k) ?_
  refine own_by (T' := T21) (g' := (mkF m 4 #[.val (.ref a), .val (.long q8), .second, .val (.ref y2), .val (.ref y3)] [(.ref b21), (.ref b21)])) (fun _ k => XS.dup X21.here hx rfl (hb hby d9_3) rfl rfl k) ?_
  refine own_by (T' := T21) (g' := (mkF m 5 #[.val (.ref a), .val (.long q8), .second, .val (.ref y2), .val (.ref y3)] [(.ref a), (.ref b21), (.ref b21)])) (fun _ k => XS.aloadN X21.here hx rfl (hb hby d9_4) rfl rfl k) ?_
  obtain ⟨T22, X22, e22, st22⟩ := getF X21 hx hZ hown (host := "") (Or.inl (hw _ (List.mem_of_getElem? (i := 44) rfl))) Via.refl e21 (Fld.ext E21 F_type_a) (g := (mkF m 5 #[.val (.ref a), .val (.long q8), .second, .val (.ref y2), .val (.ref y3)] [(.ref a), (.ref b21), (.ref b21)])) rfl rfl (hb hby d9_5)
  refine own_by (T' := T22) (g' := (mkF m 8 #[.val (.ref a), .val (.long q8), .second, .val (.ref y2), .val (.ref y3)] [(.ref x1), (.ref b21), (.ref b21)])) (fun _ k => st22 _ k) ?_
  refine own_by (T' := T22) (g' := (mkF m 9 #[.val (.ref a), .val (.long q8), .second, .val (.ref y2), .val (.ref y3)] [(.ref y2), (.ref x1), (.ref b21), (.ref b21)])) (fun _ k => XS.aloadN X22.here hx rfl (hb hby d9_8) rfl rfl k) ?_
  refine own_by (T' := T22) (g' := (mkF m 11 #[.val (.ref a), .val (.long q8), .second, .val (.ref y2), .val (.ref y3)] [(.ref y3), (.ref y2), (.ref x1), (.ref b21), (.ref b21)])) (fun _ k => XS.aload X22.here hx rfl (hb hby d9_9) rfl rfl k) ?_
  refine own_by (T' := T22) (g' := (mkF m 12 #[.val (.ref a), .val (.long q8), .second, .val (.ref y2), .val (.ref y3)] [(.ref a), (.ref y3), (.ref y2), (.ref x1), (.ref b21), (.ref b21)])) (fun _ k => XS.aloadN X22.here hx rfl (hb hby d9_11) rfl rfl k) ?_
  obtain ⟨T23, X23, e23, st23⟩ := getF X22 hx hZ hown (host := "") (Or.inl (hw _ (List.mem_of_getElem? (i := 50) rfl))) Via.refl e22 (Fld.ext E21 F_qualifier_a) (g := (mkF m 12 #[.val (.ref a), .val (.long q8), .second, .val (.ref y2), .val (.ref y3)] [(.ref a), (.ref y3), (.ref y2), (.ref x1), (.ref b21), (.ref b21)])) rfl rfl (hb hby d9_12)
  refine own_by (T' := T23) (g' := (mkF m 15 #[.val (.ref a), .val (.long q8), .second, .val (.ref y2), .val (.ref y3)] [(.ref x4), (.ref y3), (.ref y2), (.ref x1), (.ref b21), (.ref b21)])) (fun _ k => st23 _ k) ?_
  refine own_by (T' := T23) (g' := (mkF m 16 #[.val (.ref a), .val (.long q8), .second, .val (.ref y2), .val (.ref y3)] [(.ref a), (.ref x4), (.ref y3), (.ref y2), (.ref x1), (.ref b21), (.ref b21)])) (fun _ k => XS.aloadN X23.here hx rfl (hb hby d9_15) rfl rfl k) ?_
  obtain ⟨T24, X24, e24, st24⟩ := getF X23 hx hZ hown (host := "") (Or.inl (hw _ (List.mem_of_getElem? (i := 52) rfl))) Via.refl e23 (Fld.ext E21 F_timestamp_a) (g := (mkF m 16 #[.val (.ref a), .val (.long q8), .second, .val (.ref y2), .val (.ref y3)] [(.ref a), (.ref x4), (.ref y3), (.ref y2), (.ref x1), (.ref b21), (.ref b21)])) rfl rfl (hb hby d9_16)
  refine own_by (T' := T24) (g' := (mkF m 19 #[.val (.ref a), .val (.long q8), .second, .val (.ref y2), .val (.ref y3)] [(.long q5), (.ref x4), (.ref y3), (.ref y2), (.ref x1), (.ref b21), (.ref b21)])) (fun _ k => st24 _ k) ?_
  refine own_by (T' := T24) (g' := (mkF m 20 #[.val (.ref a), .val (.long q8), .second, .val (.ref y2), .val (.ref y3)] [(.ref a), (.long q5), (.ref x4), (.ref y3), (.ref y2), (.ref x1), (.ref b21), (.ref b21)])) (fun _ k => XS.aloadN X24.here hx rfl (hb hby d9_19) rfl rfl k) ?_
  obtain ⟨T25, X25, e25, st25⟩ := getF X24 hx hZ hown (host := "") (Or.inl (hw _ (List.mem_of_getElem? (i := 54) rfl))) Via.refl e24 (Fld.ext E21 F_value_a) (g := (mkF m 20 #[.val (.ref a), .val (.long q8), .second, .val (.ref y2), .val (.ref y3)] [(.ref a), (.long q5), (.ref x4), (.ref y3), (.ref y2), (.ref x1), (.ref b21), (.ref b21)])) rfl rfl (hb hby d9_20)
  refine own_by (T' := T25) (g' := (mkF m 23 #[.val (.ref a), .val (.long q8), .second, .val (.ref y2), .val (.ref y3)] [(.ref x6), (.long q5), (.ref x4), (.ref y3), (.ref y2), (.ref x1), (.ref b21), (.ref b21)])) (fun _ k => st25 _ k) ?_
  refine own_by (T' := T25) (g' := (mkF m 24 #[.val (.ref a), .val (.long q8), .second, .val (.ref y2), .val (.ref y3)] [(.long q8), (.ref x6), (.long q5), (.ref x4), (.ref y3), (.ref y2), (.ref x1), (.ref b21), (.ref b21)])) (fun _ k => XS.lloadN X25.here hx rfl (hb hby d9_23) rfl k) ?_
  obtain ⟨_, _, ⟨T26, L26, k26, n26⟩, -, X26, ⟨Lc26, hQ26, l26, y26, z26⟩, st26⟩ := X25.specialBack hx (y := (⟨"com/example/millrace/millrace/Cell", "<init>", "(Lcom/example/millrace/millrace/Cell$Type;[BLjava/lang/String;[BJ[BJ)V"⟩ : MethodName)) rfl hown (mvT hZ (hw _ (List.mem_of_getElem? (i := 64) rfl))) (mvT hZ (hw _ (List.mem_of_getElem? (i := 41) rfl))) (mvT hZ (hw _ (List.mem_of_getElem? (i := 42) rfl))) (by decide) (backOf (W := 1) (rm8 l Z a0 hw [] b21 x1 y2 y3 x4 q5 x6 q8  h21 n0 (Nat.le_trans Z0 E21.1) E_b21 F_type_b21 F_row_b21 F_family_b21 F_qualifier_b21 F_timestamp_b21 F_value_b21 F_sequenceId_b21 g_b21) hZ (hw _ (List.mem_of_getElem? (i := 42) rfl)) (hw _ (List.mem_of_getElem? (i := 39) rfl)) (by decide) (by decide)) (g := (mkF m 24 #[.val (.ref a), .val (.long q8), .second, .val (.ref y2), .val (.ref y3)] [(.long q8), (.ref x6), (.long q5), (.ref x4), (.ref y3), (.ref y2), (.ref x1), (.ref b21), (.ref b21)])) rfl (by rw [hml]; rfl) (Steps.refl _) (a := b21) (argsL := [(.ref x1), (.ref y2), (.ref y3), (.ref x4), (.long q5), (.ref x6), (.long q8)]) (rest := [(.ref b21)]) (lenOf pd_4 rfl) rfl (by show 2 * 0 + _ ≤ _; exact Nat.le_of_eq rfl) (hb hby d9_24) (fun _ _ => ⟨rfl, e25, (by decide : (0 + 1) + 0 ≤ _), (by decide : (0 + 7) + 0 ≤ _)⟩)
  dsimp only [Pt.U, Pt.locs, Pt.cells, Pt.slots] at X26 l26 y26 z26 st26 hQ26
  subst l26 y26 z26
  obtain ⟨rfl, N26q, K26, F0_26, F1_26, F2_26, F3_26, F4_26, F5_26, F6_26⟩ := hQ26
  have N26 := Fr.app N0 N26q
  have KK26 : Keep h0 T26.heap [] := Keep.trans K21 K26 (allS (Or.inr sz_b21) all0)
  refine own_by (T' := T26) (g' := (mkF m 27 #[.val (.ref a), .val (.long q8), .second, .val (.ref y2), .val (.ref y3)] [(.ref b21)])) (fun _ k => st26.trans k) ?_
  refine own_ret X26 hlk (v := some (.ref b21)) (fun h => by rw [Bd.returns] at h; cases h) (fun fs hr => retOut X26 hx Bd.returns rfl (Or.inr (Or.inr (Or.inr (Or.inr ⟨rfl, rfl, rfl⟩)))) (hb hby d9_27) hr) ?_ (by decide) (by decide)
  exact ⟨_, rfl, N26, KK26, sz_b21, (Exa.keep E_b21 K26), F0_26, F1_26, F2_26, F3_26, F4_26, F5_26, F6_26⟩
theorem d10_0 : decode prog_1_method_10_code 0 = .ok (.aload_n 0, 1) := by decide +kernel
theorem d10_1 : decode prog_1_method_10_code 1 = .ok (.getfield 18, 3) := by decide +kernel
theorem d10_4 : decode prog_1_method_10_code 4 = .ok (.areturn, 1) := by decide +kernel
theorem pn_10 : plainName "com/example/millrace/millrace/Cell" = true := by first | (simp [plainName, overriddenIn]; done) | decide +kernel
theorem ef_get_type (m : MethodId) (a : Addr) : entryFrame m #[(.ref a)] 1 = mkF m 0 #[.val (.ref a)] [] := by first | (simp [entryFrame, mkF, argsToLocals, Value.category]; done) | rfl
def Q_get_type (Z : State) (a : Addr) (x1 : Addr) (h0 : Heap) (n0 : Nat) (v : Option Value) (h : Heap) (L : List Loc) : Prop := v = some (.ref x1) ∧ Fr n0 L ∧ h = h0
set_option maxRecDepth 65536 in
set_option maxHeartbeats 40000000 in
theorem get_type (l : Launch) (Z : State) (a0 : Array Value) (hw : ∀ d ∈ tables_1, d.before a0 Z = true) (ws : List Jvm.Cond) (a : Addr) (x1 : Addr) (h0 : Heap) (n0 : Nat) (Z0 : n0 ≤ h0.size) (F_type_a : Fld Z h0 a "com/example/millrace/millrace/Cell" "type" "Lcom/example/millrace/millrace/Cell$Type;" (.ref x1)) :
    MetFree l (⟨"com/example/millrace/millrace/Cell", "type", "()Lcom/example/millrace/millrace/Cell$Type;"⟩ : MethodName) (head1 (Jvm.Cond.code (⟨"com/example/millrace/millrace/Cell", "type", "()Lcom/example/millrace/millrace/Cell$Type;"⟩ : MethodName) prog_1_method_10_code 1 (some (.object "com/example/millrace/millrace/Cell$Type")) :: ws) ({ frames := 0, cells := 0, slots := 0, locals := 0 } : Room)) (fun zz UU => zz = #[(.ref a)] ∧ Z.Warmed39 UU.vm ∧ UU.heap = h0) (fun _ _ _ _ _ => True) (fun _ U o U' => ∃ v L, o = .returned v ∧ Q_get_type Z a x1 h0 n0 v U'.heap L ∧ FrameEnd U o U' L ({ frames := 0, cells := 0, slots := 0, locals := 0 } : Room).cells ({ frames := 0, cells := 0, slots := 0, locals := 0 } : Room).slots) := by
  refine MetFree.of_bodySF (plainFor_of_name pn_10) hisR ?_
  intro p e s m args below meth c s₁ Bd hml0 hP hK
  obtain ⟨rfl, hZ, hh⟩ := hP
  have hx := Bd.exec
  have hby := Bd.bytes
  have hml : c.maxLocals = 1 := hml0
  have hown : s.vm.findClass "com/example/millrace/millrace/Cell" = some m.cls := findClass_of_methodNamed Bd.named
  have hnm := (name_of_methodNamed Bd.named Bd.method).1
  have hlk : meth.locks = false := BodyLoose.notSynchronized Bd
  have X0 : Stand p l e ({ frames := 0, cells := 0, slots := 0, locals := 0 } : Room) s m #[(.ref a)] below meth c s₁ [] 0 0 := Stand.of_body Bd
  have e0 : s₁.heap = h0 := by rw [← hh, Bd.state]; rfl
  have N0 := Fr.nil n0
  show own_Go p.tables e below (Q_get_type Z a x1 h0 n0) s ({ frames := 0, cells := 0, slots := 0, locals := 0 } : Room).cells ({ frames := 0, cells := 0, slots := 0, locals := 0 } : Room).slots s₁ (entryFrame m #[(.ref a)] 1)
  rw [ef_get_type m a]
  refine own_by (T' := s₁) (g' := (mkF m 1 #[.val (.ref a)] [(.ref a)])) (fun _ k => XS.aloadN X0.here hx rfl (hb hby d10_0) rfl rfl k) ?_
  obtain ⟨T21, X21, e21, st21⟩ := getF X0 hx hZ hown (host := "") (Or.inl (hw _ (List.mem_of_getElem? (i := 44) rfl))) Via.refl e0 F_type_a (g := (mkF m 1 #[.val (.ref a)] [(.ref a)])) rfl rfl (hb hby d10_1)
  refine own_by (T' := T21) (g' := (mkF m 4 #[.val (.ref a)] [(.ref x1)])) (fun _ k => st21 _ k) ?_
  refine own_ret X21 hlk (v := some (.ref x1)) (fun h => by rw [Bd.returns] at h; cases h) (fun fs hr => retOut X21 hx Bd.returns rfl (Or.inr (Or.inr (Or.inr (Or.inr ⟨rfl, rfl, rfl⟩)))) (hb hby d10_4) hr) ?_ (by decide) (by decide)
  rw [e21]
  exact ⟨rfl, N0, rfl⟩
theorem d11_0 : decode prog_1_method_11_code 0 = .ok (.aload_n 0, 1) := by decide +kernel
theorem d11_1 : decode prog_1_method_11_code 1 = .ok (.getfield 21, 3) := by decide +kernel
theorem d11_4 : decode prog_1_method_11_code 4 = .ok (.areturn, 1) := by decide +kernel
theorem pn_11 : plainName "com/example/millrace/millrace/Cell" = true := by first | (simp [plainName, overriddenIn]; done) | decide +kernel
theorem ef_get_rowBytes (m : MethodId) (a : Addr) : entryFrame m #[(.ref a)] 1 = mkF m 0 #[.val (.ref a)] [] := by first | (simp [entryFrame, mkF, argsToLocals, Value.category]; done) | rfl
def Q_get_rowBytes (Z : State) (a : Addr) (x1 : Addr) (h0 : Heap) (n0 : Nat) (v : Option Value) (h : Heap) (L : List Loc) : Prop := v = some (.ref x1) ∧ Fr n0 L ∧ h = h0
set_option maxRecDepth 65536 in
set_option maxHeartbeats 40000000 in
theorem get_rowBytes (l : Launch) (Z : State) (a0 : Array Value) (hw : ∀ d ∈ tables_1, d.before a0 Z = true) (ws : List Jvm.Cond) (a : Addr) (x1 : Addr) (h0 : Heap) (n0 : Nat) (Z0 : n0 ≤ h0.size) (F_row_a : Fld Z h0 a "com/example/millrace/millrace/Cell" "row" "[B" (.ref x1)) :
    MetFree l (⟨"com/example/millrace/millrace/Cell", "rowBytes", "()[B"⟩ : MethodName) (head1 (Jvm.Cond.code (⟨"com/example/millrace/millrace/Cell", "rowBytes", "()[B"⟩ : MethodName) prog_1_method_11_code 1 (some (.array .byte)) :: ws) ({ frames := 0, cells := 0, slots := 0, locals := 0 } : Room)) (fun zz UU => zz = #[(.ref a)] ∧ Z.Warmed39 UU.vm ∧ UU.heap = h0) (fun _ _ _ _ _ => True) (fun _ U o U' => ∃ v L, o = .returned v ∧ Q_get_rowBytes Z a x1 h0 n0 v U'.heap L ∧ FrameEnd U o U' L ({ frames := 0, cells := 0, slots := 0, locals := 0 } : Room).cells ({ frames := 0, cells := 0, slots := 0, locals := 0 } : Room).slots) := by
  refine MetFree.of_bodySF (plainFor_of_name pn_11) hisR ?_
  intro p e s m args below meth c s₁ Bd hml0 hP hK
  obtain ⟨rfl, hZ, hh⟩ := hP
  have hx := Bd.exec
  have hby := Bd.bytes
  have hml : c.maxLocals = 1 := hml0
  have hown : s.vm.findClass "com/example/millrace/millrace/Cell" = some m.cls := findClass_of_methodNamed Bd.named
  have hnm := (name_of_methodNamed Bd.named Bd.method).1
  have hlk : meth.locks = false := BodyLoose.notSynchronized Bd
  have X0 : Stand p l e ({ frames := 0, cells := 0, slots := 0, locals := 0 } : Room) s m #[(.ref a)] below meth c s₁ [] 0 0 := Stand.of_body Bd
  have e0 : s₁.heap = h0 := by rw [← hh, Bd.state]; rfl
  have N0 := Fr.nil n0
  show own_Go p.tables e below (Q_get_rowBytes Z a x1 h0 n0) s ({ frames := 0, cells := 0, slots := 0, locals := 0 } : Room).cells ({ frames := 0, cells := 0, slots := 0, locals := 0 } : Room).slots s₁ (entryFrame m #[(.ref a)] 1)
  rw [ef_get_rowBytes m a]
  refine own_by (T' := s₁) (g' := (mkF m 1 #[.val (.ref a)] [(.ref a)])) (fun _ k => XS.aloadN X0.here hx rfl (hb hby d11_0) rfl rfl k) ?_
  obtain ⟨T21, X21, e21, st21⟩ := getF X0 hx hZ hown (host := "") (Or.inl (hw _ (List.mem_of_getElem? (i := 46) rfl))) Via.refl e0 F_row_a (g := (mkF m 1 #[.val (.ref a)] [(.ref a)])) rfl rfl (hb hby d11_1)
  refine own_by (T' := T21) (g' := (mkF m 4 #[.val (.ref a)] [(.ref x1)])) (fun _ k => st21 _ k) ?_
  refine own_ret X21 hlk (v := some (.ref x1)) (fun h => by rw [Bd.returns] at h; cases h) (fun fs hr => retOut X21 hx Bd.returns rfl (Or.inr (Or.inr (Or.inr (Or.inr ⟨rfl, rfl, rfl⟩)))) (hb hby d11_4) hr) ?_ (by decide) (by decide)
  rw [e21]
  exact ⟨rfl, N0, rfl⟩
theorem d12_0 : decode prog_1_method_6_code 0 = .ok (.aload_n 0, 1) := by decide +kernel
theorem d12_1 : decode prog_1_method_6_code 1 = .ok (.getfield 25, 3) := by decide +kernel
theorem d12_4 : decode prog_1_method_6_code 4 = .ok (.areturn, 1) := by decide +kernel
theorem pn_12 : plainName "com/example/millrace/millrace/Cell" = true := by first | (simp [plainName, overriddenIn]; done) | decide +kernel
theorem ef_get_family (m : MethodId) (a : Addr) : entryFrame m #[(.ref a)] 1 = mkF m 0 #[.val (.ref a)] [] := by first | (simp [entryFrame, mkF, argsToLocals, Value.category]; done) | rfl
def Q_get_family (Z : State) (a : Addr) (x1 : Addr) (h0 : Heap) (n0 : Nat) (v : Option Value) (h : Heap) (L : List Loc) : Prop := v = some (.ref x1) ∧ Fr n0 L ∧ h = h0
set_option maxRecDepth 65536 in
set_option maxHeartbeats 40000000 in
theorem get_family (l : Launch) (Z : State) (a0 : Array Value) (hw : ∀ d ∈ tables_1, d.before a0 Z = true) (ws : List Jvm.Cond) (a : Addr) (x1 : Addr) (h0 : Heap) (n0 : Nat) (Z0 : n0 ≤ h0.size) (F_family_a : Fld Z h0 a "com/example/millrace/millrace/Cell" "family" "Ljava/lang/String;" (.ref x1)) :
    MetFree l (⟨"com/example/millrace/millrace/Cell", "family", "()Ljava/lang/String;"⟩ : MethodName) (head1 (Jvm.Cond.code (⟨"com/example/millrace/millrace/Cell", "family", "()Ljava/lang/String;"⟩ : MethodName) prog_1_method_6_code 1 (some (.object "java/lang/String")) :: ws) ({ frames := 0, cells := 0, slots := 0, locals := 0 } : Room)) (fun zz UU => zz = #[(.ref a)] ∧ Z.Warmed39 UU.vm ∧ UU.heap = h0) (fun _ _ _ _ _ => True) (fun _ U o U' => ∃ v L, o = .returned v ∧ Q_get_family Z a x1 h0 n0 v U'.heap L ∧ FrameEnd U o U' L ({ frames := 0, cells := 0, slots := 0, locals := 0 } : Room).cells ({ frames := 0, cells := 0, slots := 0, locals := 0 } : Room).slots) := by
  refine MetFree.of_bodySF (plainFor_of_name pn_12) hisR ?_
  intro p e s m args below meth c s₁ Bd hml0 hP hK
  obtain ⟨rfl, hZ, hh⟩ := hP
  have hx := Bd.exec
  have hby := Bd.bytes
  have hml : c.maxLocals = 1 := hml0
  have hown : s.vm.findClass "com/example/millrace/millrace/Cell" = some m.cls := findClass_of_methodNamed Bd.named
  have hnm := (name_of_methodNamed Bd.named Bd.method).1
  have hlk : meth.locks = false := BodyLoose.notSynchronized Bd
  have X0 : Stand p l e ({ frames := 0, cells := 0, slots := 0, locals := 0 } : Room) s m #[(.ref a)] below meth c s₁ [] 0 0 := Stand.of_body Bd
  have e0 : s₁.heap = h0 := by rw [← hh, Bd.state]; rfl
  have N0 := Fr.nil n0
  show own_Go p.tables e below (Q_get_family Z a x1 h0 n0) s ({ frames := 0, cells := 0, slots := 0, locals := 0 } : Room).cells ({ frames := 0, cells := 0, slots := 0, locals := 0 } : Room).slots s₁ (entryFrame m #[(.ref a)] 1)
  rw [ef_get_family m a]
  refine own_by (T' := s₁) (g' := (mkF m 1 #[.val (.ref a)] [(.ref a)])) (fun _ k => XS.aloadN X0.here hx rfl (hb hby d12_0) rfl rfl k) ?_
  obtain ⟨T21, X21, e21, st21⟩ := getF X0 hx hZ hown (host := "") (Or.inl (hw _ (List.mem_of_getElem? (i := 48) rfl))) Via.refl e0 F_family_a (g := (mkF m 1 #[.val (.ref a)] [(.ref a)])) rfl rfl (hb hby d12_1)
  refine own_by (T' := T21) (g' := (mkF m 4 #[.val (.ref a)] [(.ref x1)])) (fun _ k => st21 _ k) ?_
  refine own_ret X21 hlk (v := some (.ref x1)) (fun h => by rw [Bd.returns] at h; cases h) (fun fs hr => retOut X21 hx Bd.returns rfl (Or.inr (Or.inr (Or.inr (Or.inr ⟨rfl, rfl, rfl⟩)))) (hb hby d12_4) hr) ?_ (by decide) (by decide)
  rw [e21]
  exact ⟨rfl, N0, rfl⟩
theorem d13_0 : decode prog_1_method_12_code 0 = .ok (.aload_n 0, 1) := by decide +kernel
theorem d13_1 : decode prog_1_method_12_code 1 = .ok (.getfield 29, 3) := by decide +kernel
theorem d13_4 : decode prog_1_method_12_code 4 = .ok (.areturn, 1) := by decide +kernel
theorem pn_13 : plainName "com/example/millrace/millrace/Cell" = true := by first | (simp [plainName, overriddenIn]; done) | decide +kernel
theorem ef_get_qualifierBytes (m : MethodId) (a : Addr) : entryFrame m #[(.ref a)] 1 = mkF m 0 #[.val (.ref a)] [] := by first | (simp [entryFrame, mkF, argsToLocals, Value.category]; done) | rfl
def Q_get_qualifierBytes (Z : State) (a : Addr) (x1 : Addr) (h0 : Heap) (n0 : Nat) (v : Option Value) (h : Heap) (L : List Loc) : Prop := v = some (.ref x1) ∧ Fr n0 L ∧ h = h0
set_option maxRecDepth 65536 in
set_option maxHeartbeats 40000000 in
theorem get_qualifierBytes (l : Launch) (Z : State) (a0 : Array Value) (hw : ∀ d ∈ tables_1, d.before a0 Z = true) (ws : List Jvm.Cond) (a : Addr) (x1 : Addr) (h0 : Heap) (n0 : Nat) (Z0 : n0 ≤ h0.size) (F_qualifier_a : Fld Z h0 a "com/example/millrace/millrace/Cell" "qualifier" "[B" (.ref x1)) :
    MetFree l (⟨"com/example/millrace/millrace/Cell", "qualifierBytes", "()[B"⟩ : MethodName) (head1 (Jvm.Cond.code (⟨"com/example/millrace/millrace/Cell", "qualifierBytes", "()[B"⟩ : MethodName) prog_1_method_12_code 1 (some (.array .byte)) :: ws) ({ frames := 0, cells := 0, slots := 0, locals := 0 } : Room)) (fun zz UU => zz = #[(.ref a)] ∧ Z.Warmed39 UU.vm ∧ UU.heap = h0) (fun _ _ _ _ _ => True) (fun _ U o U' => ∃ v L, o = .returned v ∧ Q_get_qualifierBytes Z a x1 h0 n0 v U'.heap L ∧ FrameEnd U o U' L ({ frames := 0, cells := 0, slots := 0, locals := 0 } : Room).cells ({ frames := 0, cells := 0, slots := 0, locals := 0 } : Room).slots) := by
  refine MetFree.of_bodySF (plainFor_of_name pn_13) hisR ?_
  intro p e s m args below meth c s₁ Bd hml0 hP hK
  obtain ⟨rfl, hZ, hh⟩ := hP
  have hx := Bd.exec
  have hby := Bd.bytes
  have hml : c.maxLocals = 1 := hml0
  have hown : s.vm.findClass "com/example/millrace/millrace/Cell" = some m.cls := findClass_of_methodNamed Bd.named
  have hnm := (name_of_methodNamed Bd.named Bd.method).1
  have hlk : meth.locks = false := BodyLoose.notSynchronized Bd
  have X0 : Stand p l e ({ frames := 0, cells := 0, slots := 0, locals := 0 } : Room) s m #[(.ref a)] below meth c s₁ [] 0 0 := Stand.of_body Bd
  have e0 : s₁.heap = h0 := by rw [← hh, Bd.state]; rfl
  have N0 := Fr.nil n0
  show own_Go p.tables e below (Q_get_qualifierBytes Z a x1 h0 n0) s ({ frames := 0, cells := 0, slots := 0, locals := 0 } : Room).cells ({ frames := 0, cells := 0, slots := 0, locals := 0 } : Room).slots s₁ (entryFrame m #[(.ref a)] 1)
  rw [ef_get_qualifierBytes m a]
  refine own_by (T' := s₁) (g' := (mkF m 1 #[.val (.ref a)] [(.ref a)])) (fun _ k => XS.aloadN X0.here hx rfl (hb hby d13_0) rfl rfl k) ?_
  obtain ⟨T21, X21, e21, st21⟩ := getF X0 hx hZ hown (host := "") (Or.inl (hw _ (List.mem_of_getElem? (i := 50) rfl))) Via.refl e0 F_qualifier_a (g := (mkF m 1 #[.val (.ref a)] [(.ref a)])) rfl rfl (hb hby d13_1)
  refine own_by (T' := T21) (g' := (mkF m 4 #[.val (.ref a)] [(.ref x1)])) (fun _ k => st21 _ k) ?_
  refine own_ret X21 hlk (v := some (.ref x1)) (fun h => by rw [Bd.returns] at h; cases h) (fun fs hr => retOut X21 hx Bd.returns rfl (Or.inr (Or.inr (Or.inr (Or.inr ⟨rfl, rfl, rfl⟩)))) (hb hby d13_4) hr) ?_ (by decide) (by decide)
  rw [e21]
  exact ⟨rfl, N0, rfl⟩
theorem d14_0 : decode prog_1_method_8_code 0 = .ok (.aload_n 0, 1) := by decide +kernel
theorem d14_1 : decode prog_1_method_8_code 1 = .ok (.getfield 32, 3) := by decide +kernel
theorem d14_4 : decode prog_1_method_8_code 4 = .ok (.lreturn, 1) := by decide +kernel
theorem pn_14 : plainName "com/example/millrace/millrace/Cell" = true := by first | (simp [plainName, overriddenIn]; done) | decide +kernel
theorem ef_get_timestamp (m : MethodId) (a : Addr) : entryFrame m #[(.ref a)] 1 = mkF m 0 #[.val (.ref a)] [] := by first | (simp [entryFrame, mkF, argsToLocals, Value.category]; done) | rfl
def Q_get_timestamp (Z : State) (a : Addr) (x1 : Int64) (h0 : Heap) (n0 : Nat) (v : Option Value) (h : Heap) (L : List Loc) : Prop := v = some (.long x1) ∧ Fr n0 L ∧ h = h0
set_option maxRecDepth 65536 in
set_option maxHeartbeats 40000000 in
theorem get_timestamp (l : Launch) (Z : State) (a0 : Array Value) (hw : ∀ d ∈ tables_1, d.before a0 Z = true) (ws : List Jvm.Cond) (a : Addr) (x1 : Int64) (h0 : Heap) (n0 : Nat) (Z0 : n0 ≤ h0.size) (F_timestamp_a : Fld Z h0 a "com/example/millrace/millrace/Cell" "timestamp" "J" (.long x1)) :
    MetFree l (⟨"com/example/millrace/millrace/Cell", "timestamp", "()J"⟩ : MethodName) (head1 (Jvm.Cond.code (⟨"com/example/millrace/millrace/Cell", "timestamp", "()J"⟩ : MethodName) prog_1_method_8_code 1 (some .long) :: ws) ({ frames := 0, cells := 0, slots := 0, locals := 0 } : Room)) (fun zz UU => zz = #[(.ref a)] ∧ Z.Warmed39 UU.vm ∧ UU.heap = h0) (fun _ _ _ _ _ => True) (fun _ U o U' => ∃ v L, o = .returned v ∧ Q_get_timestamp Z a x1 h0 n0 v U'.heap L ∧ FrameEnd U o U' L ({ frames := 0, cells := 0, slots := 0, locals := 0 } : Room).cells ({ frames := 0, cells := 0, slots := 0, locals := 0 } : Room).slots) := by
  refine MetFree.of_bodySF (plainFor_of_name pn_14) hisR ?_
  intro p e s m args below meth c s₁ Bd hml0 hP hK
  obtain ⟨rfl, hZ, hh⟩ := hP
  have hx := Bd.exec
  have hby := Bd.bytes
  have hml : c.maxLocals = 1 := hml0
  have hown : s.vm.findClass "com/example/millrace/millrace/Cell" = some m.cls := findClass_of_methodNamed Bd.named
  have hnm := (name_of_methodNamed Bd.named Bd.method).1
  have hlk : meth.locks = false := BodyLoose.notSynchronized Bd
  have X0 : Stand p l e ({ frames := 0, cells := 0, slots := 0, locals := 0 } : Room) s m #[(.ref a)] below meth c s₁ [] 0 0 := Stand.of_body Bd
  have e0 : s₁.heap = h0 := by rw [← hh, Bd.state]; rfl
  have N0 := Fr.nil n0
  show own_Go p.tables e below (Q_get_timestamp Z a x1 h0 n0) s ({ frames := 0, cells := 0, slots := 0, locals := 0 } : Room).cells ({ frames := 0, cells := 0, slots := 0, locals := 0 } : Room).slots s₁ (entryFrame m #[(.ref a)] 1)
  rw [ef_get_timestamp m a]
  refine own_by (T' := s₁) (g' := (mkF m 1 #[.val (.ref a)] [(.ref a)])) (fun _ k => XS.aloadN X0.here hx rfl (hb hby d14_0) rfl rfl k) ?_
  obtain ⟨T21, X21, e21, st21⟩ := getF X0 hx hZ hown (host := "") (Or.inl (hw _ (List.mem_of_getElem? (i := 52) rfl))) Via.refl e0 F_timestamp_a (g := (mkF m 1 #[.val (.ref a)] [(.ref a)])) rfl rfl (hb hby d14_1)
  refine own_by (T' := T21) (g' := (mkF m 4 #[.val (.ref a)] [(.long x1)])) (fun _ k => st21 _ k) ?_
  refine own_ret X21 hlk (v := some (.long x1)) (fun h => by rw [Bd.returns] at h; cases h) (fun fs hr => retOut X21 hx Bd.returns rfl (Or.inr (Or.inl ⟨rfl, rfl, _, rfl⟩)) (hb hby d14_4) hr) ?_ (by decide) (by decide)
  rw [e21]
  exact ⟨rfl, N0, rfl⟩
theorem d15_0 : decode prog_1_method_13_code 0 = .ok (.aload_n 0, 1) := by decide +kernel
theorem d15_1 : decode prog_1_method_13_code 1 = .ok (.getfield 36, 3) := by decide +kernel
theorem d15_4 : decode prog_1_method_13_code 4 = .ok (.areturn, 1) := by decide +kernel
theorem pn_15 : plainName "com/example/millrace/millrace/Cell" = true := by first | (simp [plainName, overriddenIn]; done) | decide +kernel
theorem ef_get_valueBytes (m : MethodId) (a : Addr) : entryFrame m #[(.ref a)] 1 = mkF m 0 #[.val (.ref a)] [] := by first | (simp [entryFrame, mkF, argsToLocals, Value.category]; done) | rfl
def Q_get_valueBytes (Z : State) (a : Addr) (x1 : Addr) (h0 : Heap) (n0 : Nat) (v : Option Value) (h : Heap) (L : List Loc) : Prop := v = some (.ref x1) ∧ Fr n0 L ∧ h = h0
set_option maxRecDepth 65536 in
set_option maxHeartbeats 40000000 in
theorem get_valueBytes (l : Launch) (Z : State) (a0 : Array Value) (hw : ∀ d ∈ tables_1, d.before a0 Z = true) (ws : List Jvm.Cond) (a : Addr) (x1 : Addr) (h0 : Heap) (n0 : Nat) (Z0 : n0 ≤ h0.size) (F_value_a : Fld Z h0 a "com/example/millrace/millrace/Cell" "value" "[B" (.ref x1)) :
    MetFree l (⟨"com/example/millrace/millrace/Cell", "valueBytes", "()[B"⟩ : MethodName) (head1 (Jvm.Cond.code (⟨"com/example/millrace/millrace/Cell", "valueBytes", "()[B"⟩ : MethodName) prog_1_method_13_code 1 (some (.array .byte)) :: ws) ({ frames := 0, cells := 0, slots := 0, locals := 0 } : Room)) (fun zz UU => zz = #[(.ref a)] ∧ Z.Warmed39 UU.vm ∧ UU.heap = h0) (fun _ _ _ _ _ => True) (fun _ U o U' => ∃ v L, o = .returned v ∧ Q_get_valueBytes Z a x1 h0 n0 v U'.heap L ∧ FrameEnd U o U' L ({ frames := 0, cells := 0, slots := 0, locals := 0 } : Room).cells ({ frames := 0, cells := 0, slots := 0, locals := 0 } : Room).slots) := by
  refine MetFree.of_bodySF (plainFor_of_name pn_15) hisR ?_
  intro p e s m args below meth c s₁ Bd hml0 hP hK
  obtain ⟨rfl, hZ, hh⟩ := hP
  have hx := Bd.exec
  have hby := Bd.bytes
  have hml : c.maxLocals = 1 := hml0
  have hown : s.vm.findClass "com/example/millrace/millrace/Cell" = some m.cls := findClass_of_methodNamed Bd.named
  have hnm := (name_of_methodNamed Bd.named Bd.method).1
  have hlk : meth.locks = false := BodyLoose.notSynchronized Bd
  have X0 : Stand p l e ({ frames := 0, cells := 0, slots := 0, locals := 0 } : Room) s m #[(.ref a)] below meth c s₁ [] 0 0 := Stand.of_body Bd
  have e0 : s₁.heap = h0 := by rw [← hh, Bd.state]; rfl
  have N0 := Fr.nil n0
  show own_Go p.tables e below (Q_get_valueBytes Z a x1 h0 n0) s ({ frames := 0, cells := 0, slots := 0, locals := 0 } : Room).cells ({ frames := 0, cells := 0, slots := 0, locals := 0 } : Room).slots s₁ (entryFrame m #[(.ref a)] 1)
  rw [ef_get_valueBytes m a]
  refine own_by (T' := s₁) (g' := (mkF m 1 #[.val (.ref a)] [(.ref a)])) (fun _ k => XS.aloadN X0.here hx rfl (hb hby d15_0) rfl rfl k) ?_
  obtain ⟨T21, X21, e21, st21⟩ := getF X0 hx hZ hown (host := "") (Or.inl (hw _ (List.mem_of_getElem? (i := 54) rfl))) Via.refl e0 F_value_a (g := (mkF m 1 #[.val (.ref a)] [(.ref a)])) rfl rfl (hb hby d15_1)
  refine own_by (T' := T21) (g' := (mkF m 4 #[.val (.ref a)] [(.ref x1)])) (fun _ k => st21 _ k) ?_
  refine own_ret X21 hlk (v := some (.ref x1)) (fun h => by rw [Bd.returns] at h; cases h) (fun fs hr => retOut X21 hx Bd.returns rfl (Or.inr (Or.inr (Or.inr (Or.inr ⟨rfl, rfl, rfl⟩)))) (hb hby d15_4) hr) ?_ (by decide) (by decide)
  rw [e21]
  exact ⟨rfl, N0, rfl⟩
theorem d16_0 : decode prog_1_method_14_code 0 = .ok (.aload_n 0, 1) := by decide +kernel
theorem d16_1 : decode prog_1_method_14_code 1 = .ok (.getfield 39, 3) := by decide +kernel
theorem d16_4 : decode prog_1_method_14_code 4 = .ok (.lreturn, 1) := by decide +kernel
theorem pn_16 : plainName "com/example/millrace/millrace/Cell" = true := by first | (simp [plainName, overriddenIn]; done) | decide +kernel
theorem ef_get_sequenceId (m : MethodId) (a : Addr) : entryFrame m #[(.ref a)] 1 = mkF m 0 #[.val (.ref a)] [] := by first | (simp [entryFrame, mkF, argsToLocals, Value.category]; done) | rfl
def Q_get_sequenceId (Z : State) (a : Addr) (x1 : Int64) (h0 : Heap) (n0 : Nat) (v : Option Value) (h : Heap) (L : List Loc) : Prop := v = some (.long x1) ∧ Fr n0 L ∧ h = h0
set_option maxRecDepth 65536 in
set_option maxHeartbeats 40000000 in
theorem get_sequenceId (l : Launch) (Z : State) (a0 : Array Value) (hw : ∀ d ∈ tables_1, d.before a0 Z = true) (ws : List Jvm.Cond) (a : Addr) (x1 : Int64) (h0 : Heap) (n0 : Nat) (Z0 : n0 ≤ h0.size) (F_sequenceId_a : Fld Z h0 a "com/example/millrace/millrace/Cell" "sequenceId" "J" (.long x1)) :
    MetFree l (⟨"com/example/millrace/millrace/Cell", "sequenceId", "()J"⟩ : MethodName) (head1 (Jvm.Cond.code (⟨"com/example/millrace/millrace/Cell", "sequenceId", "()J"⟩ : MethodName) prog_1_method_14_code 1 (some .long) :: ws) ({ frames := 0, cells := 0, slots := 0, locals := 0 } : Room)) (fun zz UU => zz = #[(.ref a)] ∧ Z.Warmed39 UU.vm ∧ UU.heap = h0) (fun _ _ _ _ _ => True) (fun _ U o U' => ∃ v L, o = .returned v ∧ Q_get_sequenceId Z a x1 h0 n0 v U'.heap L ∧ FrameEnd U o U' L ({ frames := 0, cells := 0, slots := 0, locals := 0 } : Room).cells ({ frames := 0, cells := 0, slots := 0, locals := 0 } : Room).slots) := by
  refine MetFree.of_bodySF (plainFor_of_name pn_16) hisR ?_
  intro p e s m args below meth c s₁ Bd hml0 hP hK
  obtain ⟨rfl, hZ, hh⟩ := hP
  have hx := Bd.exec
  have hby := Bd.bytes
  have hml : c.maxLocals = 1 := hml0
  have hown : s.vm.findClass "com/example/millrace/millrace/Cell" = some m.cls := findClass_of_methodNamed Bd.named
  have hnm := (name_of_methodNamed Bd.named Bd.method).1
  have hlk : meth.locks = false := BodyLoose.notSynchronized Bd
  have X0 : Stand p l e ({ frames := 0, cells := 0, slots := 0, locals := 0 } : Room) s m #[(.ref a)] below meth c s₁ [] 0 0 := Stand.of_body Bd
  have e0 : s₁.heap = h0 := by rw [← hh, Bd.state]; rfl
  have N0 := Fr.nil n0
  show own_Go p.tables e below (Q_get_sequenceId Z a x1 h0 n0) s ({ frames := 0, cells := 0, slots := 0, locals := 0 } : Room).cells ({ frames := 0, cells := 0, slots := 0, locals := 0 } : Room).slots s₁ (entryFrame m #[(.ref a)] 1)
  rw [ef_get_sequenceId m a]
  refine own_by (T' := s₁) (g' := (mkF m 1 #[.val (.ref a)] [(.ref a)])) (fun _ k => XS.aloadN X0.here hx rfl (hb hby d16_0) rfl rfl k) ?_
  obtain ⟨T21, X21, e21, st21⟩ := getF X0 hx hZ hown (host := "") (Or.inl (hw _ (List.mem_of_getElem? (i := 56) rfl))) Via.refl e0 F_sequenceId_a (g := (mkF m 1 #[.val (.ref a)] [(.ref a)])) rfl rfl (hb hby d16_1)
  refine own_by (T' := T21) (g' := (mkF m 4 #[.val (.ref a)] [(.long x1)])) (fun _ k => st21 _ k) ?_
  refine own_ret X21 hlk (v := some (.long x1)) (fun h => by rw [Bd.returns] at h; cases h) (fun fs hr => retOut X21 hx Bd.returns rfl (Or.inr (Or.inl ⟨rfl, rfl, _, rfl⟩)) (hb hby d16_4) hr) ?_ (by decide) (by decide)
  rw [e21]
  exact ⟨rfl, N0, rfl⟩
theorem pn_0 : plainName "com/example/millrace/millrace/CellWithSequenceIdPinLaw" = true := by first | (simp [plainName, overriddenIn]; done) | decide +kernel
theorem ef_rm0 (m : MethodId) (sel : Int32) (ts : Int64) (sq0 : Int64) (sq : Int64) (da : Int32) (chs : Int32) : entryFrame m #[(.int sel), (.long ts), (.long sq0), (.long sq), (.int da), (.int chs)] maxLocals = mkF m 0 #[.val (.int sel), .val (.long ts), .second, .val (.long sq0), .second, .val (.long sq), .second, .val (.int da), .val (.int chs), .unset, .unset, .unset, .unset, .unset, .unset, .unset, .unset, .unset, .unset, .unset] [] := by first | (simp [entryFrame, mkF, argsToLocals, Value.category, maxLocals]; done) | rfl
def Q_rm0 (Z : State) (sel : Int32) (ts : Int64) (sq0 : Int64) (sq : Int64) (da : Int32) (chs : Int32) (a_DELETE_ROW : Addr) (a_DELETE_FAMILY : Addr) (a_DELETE_COLUMN : Addr) (a_PUT : Addr) (cs : Int32) (h0 : Heap) (n0 : Nat) (v : Option Value) (h : Heap) (L : List Loc) : Prop := v = some (.int 1) ∧ Fr n0 L
set_option maxRecDepth 65536 in
set_option maxHeartbeats 40000000 in
theorem rm0 (l : Launch) (Z : State) (a0 : Array Value) (hw : ∀ d ∈ tables_1, d.before a0 Z = true) (ws : List Jvm.Cond) (sel : Int32) (ts : Int64) (sq0 : Int64) (sq : Int64) (da : Int32) (chs : Int32) (a_DELETE_ROW : Addr) (a_DELETE_FAMILY : Addr) (a_DELETE_COLUMN : Addr) (a_PUT : Addr) (cs : Int32) (h0 : Heap) (n0 : Nat) (Z0 : n0 ≤ h0.size) (O0 : Old Z n0 h0) (S_DELETE_ROW : Sta Z Z.heap "com/example/millrace/millrace/Cell$Type" "DELETE_ROW" "Lcom/example/millrace/millrace/Cell$Type;" (.ref a_DELETE_ROW)) (S_DELETE_FAMILY : Sta Z Z.heap "com/example/millrace/millrace/Cell$Type" "DELETE_FAMILY" "Lcom/example/millrace/millrace/Cell$Type;" (.ref a_DELETE_FAMILY)) (S_DELETE_COLUMN : Sta Z Z.heap "com/example/millrace/millrace/Cell$Type" "DELETE_COLUMN" "Lcom/example/millrace/millrace/Cell$Type;" (.ref a_DELETE_COLUMN)) (S_PUT : Sta Z Z.heap "com/example/millrace/millrace/Cell$Type" "PUT" "Lcom/example/millrace/millrace/Cell$Type;" (.ref a_PUT)) (S_CS : Sta Z Z.heap "java/lang/String" "COMPACT_STRINGS" "Z" (.int cs)) (hcs : ¬ cs = (0 : Int32)) :
    MetFree l x (head1 (Jvm.Cond.code x code maxLocals ret :: ws) room_1) (fun zz UU => zz = #[(.int sel), (.long ts), (.long sq0), (.long sq), (.int da), (.int chs)] ∧ Z.Warmed39 UU.vm ∧ UU.heap = h0) (fun _ _ _ _ _ => True) (fun _ U o U' => ∃ v L, o = .returned v ∧ Q_rm0 Z sel ts sq0 sq da chs a_DELETE_ROW a_DELETE_FAMILY a_DELETE_COLUMN a_PUT cs h0 n0 v U'.heap L ∧ FrameEnd U o U' L 32 192) := by
  refine MetFree.of_bodySF (plainFor_of_name pn_0) hisR ?_
  intro p e s m args below meth c s₁ Bd hml0 hP hK
  obtain ⟨rfl, hZ, hh⟩ := hP
  have hx := Bd.exec
  have hby := Bd.bytes
  have hml : c.maxLocals = 20 := hml0
  have hown : s.vm.findClass "com/example/millrace/millrace/CellWithSequenceIdPinLaw" = some m.cls := findClass_of_methodNamed Bd.named
  have hnm := (name_of_methodNamed Bd.named Bd.method).1
  have hlk : meth.locks = false := BodyLoose.notSynchronized Bd
  have X0 : Stand p l e room_1 s m #[(.int sel), (.long ts), (.long sq0), (.long sq), (.int da), (.int chs)] below meth c s₁ [] 0 0 := Stand.of_body Bd
  have e0 : s₁.heap = h0 := by rw [← hh, Bd.state]; rfl
  have N0 := Fr.nil n0
  show own_Go p.tables e below (Q_rm0 Z sel ts sq0 sq da chs a_DELETE_ROW a_DELETE_FAMILY a_DELETE_COLUMN a_PUT cs h0 n0) s 32 192 s₁ (entryFrame m #[(.int sel), (.long ts), (.long sq0), (.long sq), (.int da), (.int chs)] maxLocals)
  rw [ef_rm0 m sel ts sq0 sq da chs]
  refine own_by (T' := s₁) (g' := (mkF m 1 #[.val (.int sel), .val (.long ts), .second, .val (.long sq0), .second, .val (.long sq), .second, .val (.int da), .val (.int chs), .unset, .unset, .unset, .unset, .unset, .unset, .unset, .unset, .unset, .unset, .unset] [(.int sel)])) (fun _ k => XS.iloadN X0.here hx rfl (hb hby at_0) rfl k) ?_
  refine own_by (T' := s₁) (g' := (mkF m 2 #[.val (.int sel), .val (.long ts), .second, .val (.long sq0), .second, .val (.long sq), .second, .val (.int da), .val (.int chs), .unset, .unset, .unset, .unset, .unset, .unset, .unset, .unset, .unset, .unset, .unset] [(.int (3 : Int32)), (.int sel)])) (fun _ k => XS.iconst X0.here hx rfl (hb hby at_1) k) ?_
  refine own_by (T' := s₁) (g' := (mkF m 3 #[.val (.int sel), .val (.long ts), .second, .val (.long sq0), .second, .val (.long sq), .second, .val (.int da), .val (.int chs), .unset, .unset, .unset, .unset, .unset, .unset, .unset, .unset, .unset, .unset, .unset] [(.int (sel &&& (3 : Int32)))])) (fun _ k => XS.iand X0.here hx rfl (hb hby at_2) rfl k) ?_
  obtain ⟨_, _, ⟨T21, L21, k21, n21⟩, -, X21, ⟨Lc21, hQ21, l21, y21, z21⟩, st21⟩ := Jvm.LawKit.callS X0 hx (y := (⟨"com/example/millrace/millrace/CellWithSequenceIdPinLaw", "pick", "(I)Lcom/example/millrace/millrace/Cell$Type;"⟩ : MethodName)) hown (mvT hZ (hw _ (List.mem_of_getElem? (i := 0) rfl))) (mvT hZ (hw _ (List.mem_of_getElem? (i := 1) rfl))) (mvT hZ (hw _ (List.mem_of_getElem? (i := 2) rfl))) (mvT hZ (hw _ (List.mem_of_getElem? (i := 3) rfl))) (by decide) (backOf (W := 0) (rm1 l Z a0 hw [] (sel &&& (3 : Int32)) a_DELETE_ROW a_DELETE_FAMILY a_DELETE_COLUMN a_PUT h0 n0 Z0 (Sta.ext (O0).2 S_DELETE_ROW) (Sta.ext (O0).2 S_DELETE_FAMILY) (Sta.ext (O0).2 S_DELETE_COLUMN) (Sta.ext (O0).2 S_PUT)) hZ (hw _ (List.mem_of_getElem? (i := 3) rfl)) (hw _ (List.mem_of_getElem? (i := 2) rfl)) (by decide) (by decide)) (g := (mkF m 3 #[.val (.int sel), .val (.long ts), .second, .val (.long sq0), .second, .val (.long sq), .second, .val (.int da), .val (.int chs), .unset, .unset, .unset, .unset, .unset, .unset, .unset, .unset, .unset, .unset, .unset] [(.int (sel &&& (3 : Int32)))])) rfl (by rw [hml]; rfl) (argsL := [(.int (sel &&& (3 : Int32)))]) (rest := []) (lenOf pd_5 rfl) rfl (by show 2 * 0 + _ ≤ _; exact Nat.le_of_eq rfl) (hb hby at_3) (fun _ _ => ⟨rfl, e0, (by decide : 0 + 0 ≤ _), (by decide : 0 + 0 ≤ _)⟩)
  dsimp only [Pt.U, Pt.locs, Pt.cells, Pt.slots] at X21 l21 y21 z21 st21 hQ21
  subst l21 y21 z21
  obtain ⟨rfl, N21q, e21⟩ := hQ21
  have N21 := Fr.app N0 N21q
  refine own_by (T' := T21) (g' := (mkF m 6 #[.val (.int sel), .val (.long ts), .second, .val (.long sq0), .second, .val (.long sq), .second, .val (.int da), .val (.int chs), .unset, .unset, .unset, .unset, .unset, .unset, .unset, .unset, .unset, .unset, .unset] [(.ref (own_pick (sel &&& (3 : Int32)) a_DELETE_ROW a_DELETE_FAMILY a_DELETE_COLUMN a_PUT))])) (fun _ k => st21 _ k) ?_
  refine own_by (T' := T21) (g' := (mkF m 8 #[.val (.int sel), .val (.long ts), .second, .val (.long sq0), .second, .val (.long sq), .second, .val (.int da), .val (.int chs), .val (.ref (own_pick (sel &&& (3 : Int32)) a_DELETE_ROW a_DELETE_FAMILY a_DELETE_COLUMN a_PUT)), .unset, .unset, .unset, .unset, .unset, .unset, .unset, .unset, .unset, .unset] [])) (fun _ k => XS.astore X21.here hx rfl (hb hby at_6) rfl rfl (l' := #[.val (.int sel), .val (.long ts), .second, .val (.long sq0), .second, .val (.long sq), .second, .val (.int da), .val (.int chs), .val (.ref (own_pick (sel &&& (3 : Int32)) a_DELETE_ROW a_DELETE_FAMILY a_DELETE_COLUMN a_PUT)), .unset, .unset, .unset, .unset, .unset, .unset, .unset, .unset, .unset, .unset]) rfl k) ?_
  generalize (own_pick (sel &&& (3 : Int32)) a_DELETE_ROW a_DELETE_FAMILY a_DELETE_COLUMN a_PUT) = aty
  refine own_by (T' := T21) (g' := (mkF m 9 #[.val (.int sel), .val (.long ts), .second, .val (.long sq0), .second, .val (.long sq), .second, .val (.int da), .val (.int chs), .val (.ref aty), .unset, .unset, .unset, .unset, .unset, .unset, .unset, .unset, .unset, .unset] [(.int (1 : Int32))])) (fun _ k => XS.iconst X21.here hx rfl (hb hby at_8) k) ?_
  obtain ⟨T22, h22, k22, X22, e22, E22, A22, st22⟩ := newP X21 hx hZ (hw _ (List.mem_of_getElem? (i := 7) rfl)) e21 (g := (mkF m 9 #[.val (.int sel), .val (.long ts), .second, .val (.long sq0), .second, .val (.long sq), .second, .val (.int da), .val (.int chs), .val (.ref aty), .unset, .unset, .unset, .unset, .unset, .unset, .unset, .unset, .unset, .unset] [(.int (1 : Int32))])) rfl (hb hby at_9) rfl (by decide) (cap := 1) (by decide) (by decide) (by decide) (by decide)
  obtain ⟨b22, g22⟩ : ∃ z, z = h0.size := ⟨_, rfl⟩
  rw [← g22] at A22 st22
  have V_b22 : Arv Z h22 b22 k22 .byte (1 : Int32) [(.int (0 : Int32))] (.int (0 : Int32)) := (Arv.new A22 (by decide)).pad (pad_rep [] (.int (0 : Int32)) 1)
  have g_b22 : n0 ≤ b22 := Nat.le_trans Z0 (Nat.le_of_eq g22.symm)
  have sz_b22 : h0.size ≤ b22 := Nat.le_trans (Keep.refl h0 []).1 (Nat.le_of_eq g22.symm)
  have K22 : Keep h0 h22 [] := Keep.ext (Keep.refl h0 []) E22
  refine own_by (T' := T22) (g' := (mkF m 11 #[.val (.int sel), .val (.long ts), .second, .val (.long sq0), .second, .val (.long sq), .second, .val (.int da), .val (.int chs), .val (.ref aty), .unset, .unset, .unset, .unset, .unset, .unset, .unset, .unset, .unset, .unset] [(.ref b22)])) (fun _ k => st22 _ k) ?_
  refine own_by (T' := T22) (g' := (mkF m 12 #[.val (.int sel), .val (.long ts), .second, .val (.long sq0), .second, .val (.long sq), .second, .val (.int da), .val (.int chs), .val (.ref aty), .unset, .unset, .unset, .unset, .unset, .unset, .unset, .unset, .unset, .unset] [(.ref b22), (.ref b22)])) (fun _ k => XS.dup X22.here hx rfl (hb hby at_11) rfl rfl k) ?_
  refine own_by (T' := T22) (g' := (mkF m 13 #[.val (.int sel), .val (.long ts), .second, .val (.long sq0), .second, .val (.long sq), .second, .val (.int da), .val (.int chs), .val (.ref aty), .unset, .unset, .unset, .unset, .unset, .unset, .unset, .unset, .unset, .unset] [(.int (0 : Int32)), (.ref b22), (.ref b22)])) (fun _ k => XS.iconst X22.here hx rfl (hb hby at_12) k) ?_
  refine own_by (T' := T22) (g' := (mkF m 15 #[.val (.int sel), .val (.long ts), .second, .val (.long sq0), .second, .val (.long sq), .second, .val (.int da), .val (.int chs), .val (.ref aty), .unset, .unset, .unset, .unset, .unset, .unset, .unset, .unset, .unset, .unset] [(.int da), (.int (0 : Int32)), (.ref b22), (.ref b22)])) (fun _ k => XS.iload X22.here hx rfl (hb hby at_13) rfl k) ?_
  refine own_by (T' := T22) (g' := (mkF m 16 #[.val (.int sel), .val (.long ts), .second, .val (.long sq0), .second, .val (.long sq), .second, .val (.int da), .val (.int chs), .val (.ref aty), .unset, .unset, .unset, .unset, .unset, .unset, .unset, .unset, .unset, .unset] [(.int (da.toInt8.toInt32)), (.int (0 : Int32)), (.ref b22), (.ref b22)])) (fun _ k => XS.i2b X22.here hx rfl (hb hby at_15) rfl k) ?_
  obtain ⟨cl23, Ar23, q23, S23, N_23, H23, G23⟩ := id V_b22
  have hin23 : ¬ ((0 : Int32) < 0 ∨ cl23.slots.size ≤ ((0 : Int32)).toNatClampNeg) := inb_of S23 ⟨by decide, by decide⟩
  obtain ⟨T24, h24, X24, e24, W24, st24⟩ := stB X22 hx hZ e22 Ar23 (j := (0 : Int32)) hin23 (g := (mkF m 16 #[.val (.int sel), .val (.long ts), .second, .val (.long sq0), .second, .val (.long sq), .second, .val (.int da), .val (.int chs), .val (.ref aty), .unset, .unset, .unset, .unset, .unset, .unset, .unset, .unset, .unset, .unset] [(.int (da.toInt8.toInt32)), (.int (0 : Int32)), (.ref b22), (.ref b22)])) rfl rfl (hb hby at_16)
  have V24 : Arv Z h24 b22 k22 .byte (1 : Int32) [(.int (nar .byte (da.toInt8.toInt32)))] (.int (0 : Int32)) := Arv.set Ar23 q23 S23 N_23 H23 G23 (fits_nar_byte _) W24 0 rfl (Nat.le_of_ble_eq_true rfl)
  have K24 : Keep h0 h24 [] := Keep.wr K22 W24 (Or.inr sz_b22)
  have N24 := Fr.snoc X24 N21 g_b22
  refine own_by (T' := T24) (g' := (mkF m 17 #[.val (.int sel), .val (.long ts), .second, .val (.long sq0), .second, .val (.long sq), .second, .val (.int da), .val (.int chs), .val (.ref aty), .unset, .unset, .unset, .unset, .unset, .unset, .unset, .unset, .unset, .unset] [(.ref b22)])) (fun _ k => st24 _ k) ?_
  refine own_by (T' := T24) (g' := (mkF m 19 #[.val (.int sel), .val (.long ts), .second, .val (.long sq0), .second, .val (.long sq), .second, .val (.int da), .val (.int chs), .val (.ref aty), .val (.ref b22), .unset, .unset, .unset, .unset, .unset, .unset, .unset, .unset, .unset] [])) (fun _ k => XS.astore X24.here hx rfl (hb hby at_17) rfl rfl (l' := #[.val (.int sel), .val (.long ts), .second, .val (.long sq0), .second, .val (.long sq), .second, .val (.int da), .val (.int chs), .val (.ref aty), .val (.ref b22), .unset, .unset, .unset, .unset, .unset, .unset, .unset, .unset, .unset]) rfl k) ?_
  refine own_by (T' := T24) (g' := (mkF m 20 #[.val (.int sel), .val (.long ts), .second, .val (.long sq0), .second, .val (.long sq), .second, .val (.int da), .val (.int chs), .val (.ref aty), .val (.ref b22), .unset, .unset, .unset, .unset, .unset, .unset, .unset, .unset, .unset] [(.int (1 : Int32))])) (fun _ k => XS.iconst X24.here hx rfl (hb hby at_19) k) ?_
  obtain ⟨T25, h25, k25, X25, e25, E25, A25, st25⟩ := newP X24 hx hZ (hw _ (List.mem_of_getElem? (i := 7) rfl)) e24 (g := (mkF m 20 #[.val (.int sel), .val (.long ts), .second, .val (.long sq0), .second, .val (.long sq), .second, .val (.int da), .val (.int chs), .val (.ref aty), .val (.ref b22), .unset, .unset, .unset, .unset, .unset, .unset, .unset, .unset, .unset] [(.int (1 : Int32))])) rfl (hb hby at_20) rfl (by decide) (cap := 1) (by decide) (by decide) (by decide) (by decide)
  obtain ⟨b25, g25⟩ : ∃ z, z = h24.size := ⟨_, rfl⟩
  rw [← g25] at A25 st25
  have V_b25 : Arv Z h25 b25 k25 .byte (1 : Int32) [(.int (0 : Int32))] (.int (0 : Int32)) := (Arv.new A25 (by decide)).pad (pad_rep [] (.int (0 : Int32)) 1)
  have g_b25 : n0 ≤ b25 := Nat.le_trans (Nat.le_trans (Nat.le_trans Z0 E22.1) (Keep.of_wr W24).1) (Nat.le_of_eq g25.symm)
  have sz_b25 : h0.size ≤ b25 := Nat.le_trans K24.1 (Nat.le_of_eq g25.symm)
  have K25 : Keep h0 h25 [] := Keep.ext K24 E25
  refine own_by (T' := T25) (g' := (mkF m 22 #[.val (.int sel), .val (.long ts), .second, .val (.long sq0), .second, .val (.long sq), .second, .val (.int da), .val (.int chs), .val (.ref aty), .val (.ref b22), .unset, .unset, .unset, .unset, .unset, .unset, .unset, .unset, .unset] [(.ref b25)])) (fun _ k => st25 _ k) ?_
  refine own_by (T' := T25) (g' := (mkF m 23 #[.val (.int sel), .val (.long ts), .second, .val (.long sq0), .second, .val (.long sq), .second, .val (.int da), .val (.int chs), .val (.ref aty), .val (.ref b22), .unset, .unset, .unset, .unset, .unset, .unset, .unset, .unset, .unset] [(.ref b25), (.ref b25)])) (fun _ k => XS.dup X25.here hx rfl (hb hby at_22) rfl rfl k) ?_
  refine own_by (T' := T25) (g' := (mkF m 24 #[.val (.int sel), .val (.long ts), .second, .val (.long sq0), .second, .val (.long sq), .second, .val (.int da), .val (.int chs), .val (.ref aty), .val (.ref b22), .unset, .unset, .unset, .unset, .unset, .unset, .unset, .unset, .unset] [(.int (0 : Int32)), (.ref b25), (.ref b25)])) (fun _ k => XS.iconst X25.here hx rfl (hb hby at_23) k) ?_
  refine own_by (T' := T25) (g' := (mkF m 26 #[.val (.int sel), .val (.long ts), .second, .val (.long sq0), .second, .val (.long sq), .second, .val (.int da), .val (.int chs), .val (.ref aty), .val (.ref b22), .unset, .unset, .unset, .unset, .unset, .unset, .unset, .unset, .unset] [(.int da), (.int (0 : Int32)), (.ref b25), (.ref b25)])) (fun _ k => XS.iload X25.here hx rfl (hb hby at_24) rfl k) ?_
  refine own_by (T' := T25) (g' := (mkF m 27 #[.val (.int sel), .val (.long ts), .second, .val (.long sq0), .second, .val (.long sq), .second, .val (.int da), .val (.int chs), .val (.ref aty), .val (.ref b22), .unset, .unset, .unset, .unset, .unset, .unset, .unset, .unset, .unset] [(.int (da.toInt8.toInt32)), (.int (0 : Int32)), (.ref b25), (.ref b25)])) (fun _ k => XS.i2b X25.here hx rfl (hb hby at_26) rfl k) ?_
  obtain ⟨cl26, Ar26, q26, S26, N_26, H26, G26⟩ := id V_b25
  have hin26 : ¬ ((0 : Int32) < 0 ∨ cl26.slots.size ≤ ((0 : Int32)).toNatClampNeg) := inb_of S26 ⟨by decide, by decide⟩
  obtain ⟨T27, h27, X27, e27, W27, st27⟩ := stB X25 hx hZ e25 Ar26 (j := (0 : Int32)) hin26 (g := (mkF m 27 #[.val (.int sel), .val (.long ts), .second, .val (.long sq0), .second, .val (.long sq), .second, .val (.int da), .val (.int chs), .val (.ref aty), .val (.ref b22), .unset, .unset, .unset, .unset, .unset, .unset, .unset, .unset, .unset] [(.int (da.toInt8.toInt32)), (.int (0 : Int32)), (.ref b25), (.ref b25)])) rfl rfl (hb hby at_27)
  have V27 : Arv Z h27 b25 k25 .byte (1 : Int32) [(.int (nar .byte (da.toInt8.toInt32)))] (.int (0 : Int32)) := Arv.set Ar26 q26 S26 N_26 H26 G26 (fits_nar_byte _) W27 0 rfl (Nat.le_of_ble_eq_true rfl)
  have K27 : Keep h0 h27 [] := Keep.wr K25 W27 (Or.inr sz_b25)
  have N27 := Fr.snoc X27 N24 g_b25
  refine own_by (T' := T27) (g' := (mkF m 28 #[.val (.int sel), .val (.long ts), .second, .val (.long sq0), .second, .val (.long sq), .second, .val (.int da), .val (.int chs), .val (.ref aty), .val (.ref b22), .unset, .unset, .unset, .unset, .unset, .unset, .unset, .unset, .unset] [(.ref b25)])) (fun _ k => st27 _ k) ?_
  refine own_by (T' := T27) (g' := (mkF m 30 #[.val (.int sel), .val (.long ts), .second, .val (.long sq0), .second, .val (.long sq), .second, .val (.int da), .val (.int chs), .val (.ref aty), .val (.ref b22), .val (.ref b25), .unset, .unset, .unset, .unset, .unset, .unset, .unset, .unset] [])) (fun _ k => XS.astore X27.here hx rfl (hb hby at_28) rfl rfl (l' := #[.val (.int sel), .val (.long ts), .second, .val (.long sq0), .second, .val (.long sq), .second, .val (.int da), .val (.int chs), .val (.ref aty), .val (.ref b22), .val (.ref b25), .unset, .unset, .unset, .unset, .unset, .unset, .unset, .unset]) rfl k) ?_
  refine own_by (T' := T27) (g' := (mkF m 31 #[.val (.int sel), .val (.long ts), .second, .val (.long sq0), .second, .val (.long sq), .second, .val (.int da), .val (.int chs), .val (.ref aty), .val (.ref b22), .val (.ref b25), .unset, .unset, .unset, .unset, .unset, .unset, .unset, .unset] [(.int (1 : Int32))])) (fun _ k => XS.iconst X27.here hx rfl (hb hby at_30) k) ?_
  obtain ⟨T28, h28, k28, X28, e28, E28, A28, st28⟩ := newP X27 hx hZ (hw _ (List.mem_of_getElem? (i := 7) rfl)) e27 (g := (mkF m 31 #[.val (.int sel), .val (.long ts), .second, .val (.long sq0), .second, .val (.long sq), .second, .val (.int da), .val (.int chs), .val (.ref aty), .val (.ref b22), .val (.ref b25), .unset, .unset, .unset, .unset, .unset, .unset, .unset, .unset] [(.int (1 : Int32))])) rfl (hb hby at_31) rfl (by decide) (cap := 1) (by decide) (by decide) (by decide) (by decide)
  obtain ⟨b28, g28⟩ : ∃ z, z = h27.size := ⟨_, rfl⟩
  rw [← g28] at A28 st28
  have V_b28 : Arv Z h28 b28 k28 .byte (1 : Int32) [(.int (0 : Int32))] (.int (0 : Int32)) := (Arv.new A28 (by decide)).pad (pad_rep [] (.int (0 : Int32)) 1)
  have g_b28 : n0 ≤ b28 := Nat.le_trans (Nat.le_trans (Nat.le_trans (Nat.le_trans (Nat.le_trans Z0 E22.1) (Keep.of_wr W24).1) E25.1) (Keep.of_wr W27).1) (Nat.le_of_eq g28.symm)
  have sz_b28 : h0.size ≤ b28 := Nat.le_trans K27.1 (Nat.le_of_eq g28.symm)
  have K28 : Keep h0 h28 [] := Keep.ext K27 E28
  refine own_by (T' := T28) (g' := (mkF m 33 #[.val (.int sel), .val (.long ts), .second, .val (.long sq0), .second, .val (.long sq), .second, .val (.int da), .val (.int chs), .val (.ref aty), .val (.ref b22), .val (.ref b25), .unset, .unset, .unset, .unset, .unset, .unset, .unset, .unset] [(.ref b28)])) (fun _ k => st28 _ k) ?_
  refine own_by (T' := T28) (g' := (mkF m 34 #[.val (.int sel), .val (.long ts), .second, .val (.long sq0), .second, .val (.long sq), .second, .val (.int da), .val (.int chs), .val (.ref aty), .val (.ref b22), .val (.ref b25), .unset, .unset, .unset, .unset, .unset, .unset, .unset, .unset] [(.ref b28), (.ref b28)])) (fun _ k => XS.dup X28.here hx rfl (hb hby at_33) rfl rfl k) ?_
  refine own_by (T' := T28) (g' := (mkF m 35 #[.val (.int sel), .val (.long ts), .second, .val (.long sq0), .second, .val (.long sq), .second, .val (.int da), .val (.int chs), .val (.ref aty), .val (.ref b22), .val (.ref b25), .unset, .unset, .unset, .unset, .unset, .unset, .unset, .unset] [(.int (0 : Int32)), (.ref b28), (.ref b28)])) (fun _ k => XS.iconst X28.here hx rfl (hb hby at_34) k) ?_
  refine own_by (T' := T28) (g' := (mkF m 37 #[.val (.int sel), .val (.long ts), .second, .val (.long sq0), .second, .val (.long sq), .second, .val (.int da), .val (.int chs), .val (.ref aty), .val (.ref b22), .val (.ref b25), .unset, .unset, .unset, .unset, .unset, .unset, .unset, .unset] [(.int da), (.int (0 : Int32)), (.ref b28), (.ref b28)])) (fun _ k => XS.iload X28.here hx rfl (hb hby at_35) rfl k) ?_
  refine own_by (T' := T28) (g' := (mkF m 39 #[.val (.int sel), .val (.long ts), .second, .val (.long sq0), .second, .val (.long sq), .second, .val (.int da), .val (.int chs), .val (.ref aty), .val (.ref b22), .val (.ref b25), .unset, .unset, .unset, .unset, .unset, .unset, .unset, .unset] [(.int (8 : Int32)), (.int da), (.int (0 : Int32)), (.ref b28), (.ref b28)])) (fun _ k => XS.bipush X28.here hx rfl (hb hby at_37) k) ?_
  refine own_by (T' := T28) (g' := (mkF m 40 #[.val (.int sel), .val (.long ts), .second, .val (.long sq0), .second, .val (.long sq), .second, .val (.int da), .val (.int chs), .val (.ref aty), .val (.ref b22), .val (.ref b25), .unset, .unset, .unset, .unset, .unset, .unset, .unset, .unset] [(.int ((da.toUInt32 >>> ((8 : Int32) &&& 31).toUInt32).toInt32)), (.int (0 : Int32)), (.ref b28), (.ref b28)])) (fun _ k => XS.iushr X28.here hx rfl (hb hby at_39) rfl k) ?_
  refine own_by (T' := T28) (g' := (mkF m 41 #[.val (.int sel), .val (.long ts), .second, .val (.long sq0), .second, .val (.long sq), .second, .val (.int da), .val (.int chs), .val (.ref aty), .val (.ref b22), .val (.ref b25), .unset, .unset, .unset, .unset, .unset, .unset, .unset, .unset] [(.int (((da.toUInt32 >>> ((8 : Int32) &&& 31).toUInt32).toInt32).toInt8.toInt32)), (.int (0 : Int32)), (.ref b28), (.ref b28)])) (fun _ k => XS.i2b X28.here hx rfl (hb hby at_40) rfl k) ?_
  obtain ⟨cl29, Ar29, q29, S29, N_29, H29, G29⟩ := id V_b28
  have hin29 : ¬ ((0 : Int32) < 0 ∨ cl29.slots.size ≤ ((0 : Int32)).toNatClampNeg) := inb_of S29 ⟨by decide, by decide⟩
  obtain ⟨T30, h30, X30, e30, W30, st30⟩ := stB X28 hx hZ e28 Ar29 (j := (0 : Int32)) hin29 (g := (mkF m 41 #[.val (.int sel), .val (.long ts), .second, .val (.long sq0), .second, .val (.long sq), .second, .val (.int da), .val (.int chs), .val (.ref aty), .val (.ref b22), .val (.ref b25), .unset, .unset, .unset, .unset, .unset, .unset, .unset, .unset] [(.int (((da.toUInt32 >>> ((8 : Int32) &&& 31).toUInt32).toInt32).toInt8.toInt32)), (.int (0 : Int32)), (.ref b28), (.ref b28)])) rfl rfl (hb hby at_41)
  have V30 : Arv Z h30 b28 k28 .byte (1 : Int32) [(.int (nar .byte (((da.toUInt32 >>> ((8 : Int32) &&& 31).toUInt32).toInt32).toInt8.toInt32)))] (.int (0 : Int32)) := Arv.set Ar29 q29 S29 N_29 H29 G29 (fits_nar_byte _) W30 0 rfl (Nat.le_of_ble_eq_true rfl)
  have K30 : Keep h0 h30 [] := Keep.wr K28 W30 (Or.inr sz_b28)
  have N30 := Fr.snoc X30 N27 g_b28
  refine own_by (T' := T30) (g' := (mkF m 42 #[.val (.int sel), .val (.long ts), .second, .val (.long sq0), .second, .val (.long sq), .second, .val (.int da), .val (.int chs), .val (.ref aty), .val (.ref b22), .val (.ref b25), .unset, .unset, .unset, .unset, .unset, .unset, .unset, .unset] [(.ref b28)])) (fun _ k => st30 _ k) ?_
  refine own_by (T' := T30) (g' := (mkF m 44 #[.val (.int sel), .val (.long ts), .second, .val (.long sq0), .second, .val (.long sq), .second, .val (.int da), .val (.int chs), .val (.ref aty), .val (.ref b22), .val (.ref b25), .val (.ref b28), .unset, .unset, .unset, .unset, .unset, .unset, .unset] [])) (fun _ k => XS.astore X30.here hx rfl (hb hby at_42) rfl rfl (l' := #[.val (.int sel), .val (.long ts), .second, .val (.long sq0), .second, .val (.long sq), .second, .val (.int da), .val (.int chs), .val (.ref aty), .val (.ref b22), .val (.ref b25), .val (.ref b28), .unset, .unset, .unset, .unset, .unset, .unset, .unset]) rfl k) ?_
  refine own_by (T' := T30) (g' := (mkF m 45 #[.val (.int sel), .val (.long ts), .second, .val (.long sq0), .second, .val (.long sq), .second, .val (.int da), .val (.int chs), .val (.ref aty), .val (.ref b22), .val (.ref b25), .val (.ref b28), .unset, .unset, .unset, .unset, .unset, .unset, .unset] [(.int (2 : Int32))])) (fun _ k => XS.iconst X30.here hx rfl (hb hby at_44) k) ?_
  obtain ⟨T31, h31, k31, X31, e31, E31, A31, st31⟩ := newP X30 hx hZ (hw _ (List.mem_of_getElem? (i := 7) rfl)) e30 (g := (mkF m 45 #[.val (.int sel), .val (.long ts), .second, .val (.long sq0), .second, .val (.long sq), .second, .val (.int da), .val (.int chs), .val (.ref aty), .val (.ref b22), .val (.ref b25), .val (.ref b28), .unset, .unset, .unset, .unset, .unset, .unset, .unset] [(.int (2 : Int32))])) rfl (hb hby at_45) rfl (by decide) (cap := 2) (by decide) (by decide) (by decide) (by decide)
  obtain ⟨b31, g31⟩ : ∃ z, z = h30.size := ⟨_, rfl⟩
  rw [← g31] at A31 st31
  have V_b31 : Arv Z h31 b31 k31 .byte (2 : Int32) [(.int (0 : Int32)), (.int (0 : Int32))] (.int (0 : Int32)) := (Arv.new A31 (by decide)).pad (pad_rep [] (.int (0 : Int32)) 2)
  have g_b31 : n0 ≤ b31 := Nat.le_trans (Nat.le_trans (Nat.le_trans (Nat.le_trans (Nat.le_trans (Nat.le_trans (Nat.le_trans Z0 E22.1) (Keep.of_wr W24).1) E25.1) (Keep.of_wr W27).1) E28.1) (Keep.of_wr W30).1) (Nat.le_of_eq g31.symm)
  have sz_b31 : h0.size ≤ b31 := Nat.le_trans K30.1 (Nat.le_of_eq g31.symm)
  have K31 : Keep h0 h31 [] := Keep.ext K30 E31
  refine own_by (T' := T31) (g' := (mkF m 47 #[.val (.int sel), .val (.long ts), .second, .val (.long sq0), .second, .val (.long sq), .second, .val (.int da), .val (.int chs), .val (.ref aty), .val (.ref b22), .val (.ref b25), .val (.ref b28), .unset, .unset, .unset, .unset, .unset, .unset, .unset] [(.ref b31)])) (fun _ k => st31 _ k) ?_
  refine own_by (T' := T31) (g' := (mkF m 48 #[.val (.int sel), .val (.long ts), .second, .val (.long sq0), .second, .val (.long sq), .second, .val (.int da), .val (.int chs), .val (.ref aty), .val (.ref b22), .val (.ref b25), .val (.ref b28), .unset, .unset, .unset, .unset, .unset, .unset, .unset] [(.ref b31), (.ref b31)])) (fun _ k => XS.dup X31.here hx rfl (hb hby at_47) rfl rfl k) ?_
  refine own_by (T' := T31) (g' := (mkF m 49 #[.val (.int sel), .val (.long ts), .second, .val (.long sq0), .second, .val (.long sq), .second, .val (.int da), .val (.int chs), .val (.ref aty), .val (.ref b22), .val (.ref b25), .val (.ref b28), .unset, .unset, .unset, .unset, .unset, .unset, .unset] [(.int (0 : Int32)), (.ref b31), (.ref b31)])) (fun _ k => XS.iconst X31.here hx rfl (hb hby at_48) k) ?_
  refine own_by (T' := T31) (g' := (mkF m 51 #[.val (.int sel), .val (.long ts), .second, .val (.long sq0), .second, .val (.long sq), .second, .val (.int da), .val (.int chs), .val (.ref aty), .val (.ref b22), .val (.ref b25), .val (.ref b28), .unset, .unset, .unset, .unset, .unset, .unset, .unset] [(.int da), (.int (0 : Int32)), (.ref b31), (.ref b31)])) (fun _ k => XS.iload X31.here hx rfl (hb hby at_49) rfl k) ?_
  refine own_by (T' := T31) (g' := (mkF m 53 #[.val (.int sel), .val (.long ts), .second, .val (.long sq0), .second, .val (.long sq), .second, .val (.int da), .val (.int chs), .val (.ref aty), .val (.ref b22), .val (.ref b25), .val (.ref b28), .unset, .unset, .unset, .unset, .unset, .unset, .unset] [(.int (16 : Int32)), (.int da), (.int (0 : Int32)), (.ref b31), (.ref b31)])) (fun _ k => XS.bipush X31.here hx rfl (hb hby at_51) k) ?_
  refine own_by (T' := T31) (g' := (mkF m 54 #[.val (.int sel), .val (.long ts), .second, .val (.long sq0), .second, .val (.long sq), .second, .val (.int da), .val (.int chs), .val (.ref aty), .val (.ref b22), .val (.ref b25), .val (.ref b28), .unset, .unset, .unset, .unset, .unset, .unset, .unset] [(.int ((da.toUInt32 >>> ((16 : Int32) &&& 31).toUInt32).toInt32)), (.int (0 : Int32)), (.ref b31), (.ref b31)])) (fun _ k => XS.iushr X31.here hx rfl (hb hby at_53) rfl k) ?_
  refine own_by (T' := T31) (g' := (mkF m 55 #[.val (.int sel), .val (.long ts), .second, .val (.long sq0), .second, .val (.long sq), .second, .val (.int da), .val (.int chs), .val (.ref aty), .val (.ref b22), .val (.ref b25), .val (.ref b28), .unset, .unset, .unset, .unset, .unset, .unset, .unset] [(.int (((da.toUInt32 >>> ((16 : Int32) &&& 31).toUInt32).toInt32).toInt8.toInt32)), (.int (0 : Int32)), (.ref b31), (.ref b31)])) (fun _ k => XS.i2b X31.here hx rfl (hb hby at_54) rfl k) ?_
  obtain ⟨cl32, Ar32, q32, S32, N_32, H32, G32⟩ := id V_b31
  have hin32 : ¬ ((0 : Int32) < 0 ∨ cl32.slots.size ≤ ((0 : Int32)).toNatClampNeg) := inb_of S32 ⟨by decide, by decide⟩
  obtain ⟨T33, h33, X33, e33, W33, st33⟩ := stB X31 hx hZ e31 Ar32 (j := (0 : Int32)) hin32 (g := (mkF m 55 #[.val (.int sel), .val (.long ts), .second, .val (.long sq0), .second, .val (.long sq), .second, .val (.int da), .val (.int chs), .val (.ref aty), .val (.ref b22), .val (.ref b25), .val (.ref b28), .unset, .unset, .unset, .unset, .unset, .unset, .unset] [(.int (((da.toUInt32 >>> ((16 : Int32) &&& 31).toUInt32).toInt32).toInt8.toInt32)), (.int (0 : Int32)), (.ref b31), (.ref b31)])) rfl rfl (hb hby at_55)
  have V33 : Arv Z h33 b31 k31 .byte (2 : Int32) [(.int (nar .byte (((da.toUInt32 >>> ((16 : Int32) &&& 31).toUInt32).toInt32).toInt8.toInt32))), (.int (0 : Int32))] (.int (0 : Int32)) := Arv.set Ar32 q32 S32 N_32 H32 G32 (fits_nar_byte _) W33 0 rfl (Nat.le_of_ble_eq_true rfl)
  have K33 : Keep h0 h33 [] := Keep.wr K31 W33 (Or.inr sz_b31)
  have N33 := Fr.snoc X33 N30 g_b31
  refine own_by (T' := T33) (g' := (mkF m 56 #[.val (.int sel), .val (.long ts), .second, .val (.long sq0), .second, .val (.long sq), .second, .val (.int da), .val (.int chs), .val (.ref aty), .val (.ref b22), .val (.ref b25), .val (.ref b28), .unset, .unset, .unset, .unset, .unset, .unset, .unset] [(.ref b31)])) (fun _ k => st33 _ k) ?_
  refine own_by (T' := T33) (g' := (mkF m 57 #[.val (.int sel), .val (.long ts), .second, .val (.long sq0), .second, .val (.long sq), .second, .val (.int da), .val (.int chs), .val (.ref aty), .val (.ref b22), .val (.ref b25), .val (.ref b28), .unset, .unset, .unset, .unset, .unset, .unset, .unset] [(.ref b31), (.ref b31)])) (fun _ k => XS.dup X33.here hx rfl (hb hby at_56) rfl rfl k) ?_
  refine own_by (T' := T33) (g' := (mkF m 58 #[.val (.int sel), .val (.long ts), .second, .val (.long sq0), .second, .val (.long sq), .second, .val (.int da), .val (.int chs), .val (.ref aty), .val (.ref b22), .val (.ref b25), .val (.ref b28), .unset, .unset, .unset, .unset, .unset, .unset, .unset] [(.int (1 : Int32)), (.ref b31), (.ref b31)])) (fun _ k => XS.iconst X33.here hx rfl (hb hby at_57) k) ?_
  refine own_by (T' := T33) (g' := (mkF m 60 #[.val (.int sel), .val (.long ts), .second, .val (.long sq0), .second, .val (.long sq), .second, .val (.int da), .val (.int chs), .val (.ref aty), .val (.ref b22), .val (.ref b25), .val (.ref b28), .unset, .unset, .unset, .unset, .unset, .unset, .unset] [(.int da), (.int (1 : Int32)), (.ref b31), (.ref b31)])) (fun _ k => XS.iload X33.here hx rfl (hb hby at_58) rfl k) ?_
  refine own_by (T' := T33) (g' := (mkF m 62 #[.val (.int sel), .val (.long ts), .second, .val (.long sq0), .second, .val (.long sq), .second, .val (.int da), .val (.int chs), .val (.ref aty), .val (.ref b22), .val (.ref b25), .val (.ref b28), .unset, .unset, .unset, .unset, .unset, .unset, .unset] [(.int (24 : Int32)), (.int da), (.int (1 : Int32)), (.ref b31), (.ref b31)])) (fun _ k => XS.bipush X33.here hx rfl (hb hby at_60) k) ?_
  refine own_by (T' := T33) (g' := (mkF m 63 #[.val (.int sel), .val (.long ts), .second, .val (.long sq0), .second, .val (.long sq), .second, .val (.int da), .val (.int chs), .val (.ref aty), .val (.ref b22), .val (.ref b25), .val (.ref b28), .unset, .unset, .unset, .unset, .unset, .unset, .unset] [(.int ((da.toUInt32 >>> ((24 : Int32) &&& 31).toUInt32).toInt32)), (.int (1 : Int32)), (.ref b31), (.ref b31)])) (fun _ k => XS.iushr X33.here hx rfl (hb hby at_62) rfl k) ?_
  refine own_by (T' := T33) (g' := (mkF m 64 #[.val (.int sel), .val (.long ts), .second, .val (.long sq0), .second, .val (.long sq), .second, .val (.int da), .val (.int chs), .val (.ref aty), .val (.ref b22), .val (.ref b25), .val (.ref b28), .unset, .unset, .unset, .unset, .unset, .unset, .unset] [(.int (((da.toUInt32 >>> ((24 : Int32) &&& 31).toUInt32).toInt32).toInt8.toInt32)), (.int (1 : Int32)), (.ref b31), (.ref b31)])) (fun _ k => XS.i2b X33.here hx rfl (hb hby at_63) rfl k) ?_
  obtain ⟨cl34, Ar34, q34, S34, N_34, H34, G34⟩ := id V33
  have hin34 : ¬ ((1 : Int32) < 0 ∨ cl34.slots.size ≤ ((1 : Int32)).toNatClampNeg) := inb_of S34 ⟨by decide, by decide⟩
  obtain ⟨T35, h35, X35, e35, W35, st35⟩ := stB X33 hx hZ e33 Ar34 (j := (1 : Int32)) hin34 (g := (mkF m 64 #[.val (.int sel), .val (.long ts), .second, .val (.long sq0), .second, .val (.long sq), .second, .val (.int da), .val (.int chs), .val (.ref aty), .val (.ref b22), .val (.ref b25), .val (.ref b28), .unset, .unset, .unset, .unset, .unset, .unset, .unset] [(.int (((da.toUInt32 >>> ((24 : Int32) &&& 31).toUInt32).toInt32).toInt8.toInt32)), (.int (1 : Int32)), (.ref b31), (.ref b31)])) rfl rfl (hb hby at_64)
  have V35 : Arv Z h35 b31 k31 .byte (2 : Int32) [(.int (nar .byte (((da.toUInt32 >>> ((16 : Int32) &&& 31).toUInt32).toInt32).toInt8.toInt32))), (.int (nar .byte (((da.toUInt32 >>> ((24 : Int32) &&& 31).toUInt32).toInt32).toInt8.toInt32)))] (.int (0 : Int32)) := Arv.set Ar34 q34 S34 N_34 H34 G34 (fits_nar_byte _) W35 1 rfl (Nat.le_of_ble_eq_true rfl)
  have K35 : Keep h0 h35 [] := Keep.wr K33 W35 (Or.inr sz_b31)
  have N35 := Fr.snoc X35 N33 g_b31
  refine own_by (T' := T35) (g' := (mkF m 65 #[.val (.int sel), .val (.long ts), .second, .val (.long sq0), .second, .val (.long sq), .second, .val (.int da), .val (.int chs), .val (.ref aty), .val (.ref b22), .val (.ref b25), .val (.ref b28), .unset, .unset, .unset, .unset, .unset, .unset, .unset] [(.ref b31)])) (fun _ k => st35 _ k) ?_
  refine own_by (T' := T35) (g' := (mkF m 67 #[.val (.int sel), .val (.long ts), .second, .val (.long sq0), .second, .val (.long sq), .second, .val (.int da), .val (.int chs), .val (.ref aty), .val (.ref b22), .val (.ref b25), .val (.ref b28), .val (.ref b31), .unset, .unset, .unset, .unset, .unset, .unset] [])) (fun _ k => XS.astore X35.here hx rfl (hb hby at_65) rfl rfl (l' := #[.val (.int sel), .val (.long ts), .second, .val (.long sq0), .second, .val (.long sq), .second, .val (.int da), .val (.int chs), .val (.ref aty), .val (.ref b22), .val (.ref b25), .val (.ref b28), .val (.ref b31), .unset, .unset, .unset, .unset, .unset, .unset]) rfl k) ?_
  refine own_by (T' := T35) (g' := (mkF m 69 #[.val (.int sel), .val (.long ts), .second, .val (.long sq0), .second, .val (.long sq), .second, .val (.int da), .val (.int chs), .val (.ref aty), .val (.ref b22), .val (.ref b25), .val (.ref b28), .val (.ref b31), .unset, .unset, .unset, .unset, .unset, .unset] [(.int chs)])) (fun _ k => XS.iload X35.here hx rfl (hb hby at_67) rfl k) ?_
  refine own_by (T' := T35) (g' := (mkF m 72 #[.val (.int sel), .val (.long ts), .second, .val (.long sq0), .second, .val (.long sq), .second, .val (.int da), .val (.int chs), .val (.ref aty), .val (.ref b22), .val (.ref b25), .val (.ref b28), .val (.ref b31), .unset, .unset, .unset, .unset, .unset, .unset] [(.int (255 : Int32)), (.int chs)])) (fun _ k => XS.sipush X35.here hx rfl (hb hby at_69) k) ?_
  refine own_by (T' := T35) (g' := (mkF m 73 #[.val (.int sel), .val (.long ts), .second, .val (.long sq0), .second, .val (.long sq), .second, .val (.int da), .val (.int chs), .val (.ref aty), .val (.ref b22), .val (.ref b25), .val (.ref b28), .val (.ref b31), .unset, .unset, .unset, .unset, .unset, .unset] [(.int (chs &&& (255 : Int32)))])) (fun _ k => XS.iand X35.here hx rfl (hb hby at_72) rfl k) ?_
  refine own_by (T' := T35) (g' := (mkF m 74 #[.val (.int sel), .val (.long ts), .second, .val (.long sq0), .second, .val (.long sq), .second, .val (.int da), .val (.int chs), .val (.ref aty), .val (.ref b22), .val (.ref b25), .val (.ref b28), .val (.ref b31), .unset, .unset, .unset, .unset, .unset, .unset] [(.int ((chs &&& (255 : Int32)).toUInt32.toUInt16.toUInt32.toInt32))])) (fun _ k => XS.i2c X35.here hx rfl (hb hby at_73) rfl k) ?_
  refine own_by (T' := T35) (g' := (mkF m 76 #[.val (.int sel), .val (.long ts), .second, .val (.long sq0), .second, .val (.long sq), .second, .val (.int da), .val (.int chs), .val (.ref aty), .val (.ref b22), .val (.ref b25), .val (.ref b28), .val (.ref b31), .val (.int ((chs &&& (255 : Int32)).toUInt32.toUInt16.toUInt32.toInt32)), .unset, .unset, .unset, .unset, .unset] [])) (fun _ k => XS.istore X35.here hx rfl (hb hby at_74) rfl (l' := #[.val (.int sel), .val (.long ts), .second, .val (.long sq0), .second, .val (.long sq), .second, .val (.int da), .val (.int chs), .val (.ref aty), .val (.ref b22), .val (.ref b25), .val (.ref b28), .val (.ref b31), .val (.int ((chs &&& (255 : Int32)).toUInt32.toUInt16.toUInt32.toInt32)), .unset, .unset, .unset, .unset, .unset]) rfl k) ?_
  refine own_by (T' := T35) (g' := (mkF m 78 #[.val (.int sel), .val (.long ts), .second, .val (.long sq0), .second, .val (.long sq), .second, .val (.int da), .val (.int chs), .val (.ref aty), .val (.ref b22), .val (.ref b25), .val (.ref b28), .val (.ref b31), .val (.int ((chs &&& (255 : Int32)).toUInt32.toUInt16.toUInt32.toInt32)), .unset, .unset, .unset, .unset, .unset] [(.int chs)])) (fun _ k => XS.iload X35.here hx rfl (hb hby at_76) rfl k) ?_
  refine own_by (T' := T35) (g' := (mkF m 80 #[.val (.int sel), .val (.long ts), .second, .val (.long sq0), .second, .val (.long sq), .second, .val (.int da), .val (.int chs), .val (.ref aty), .val (.ref b22), .val (.ref b25), .val (.ref b28), .val (.ref b31), .val (.int ((chs &&& (255 : Int32)).toUInt32.toUInt16.toUInt32.toInt32)), .unset, .unset, .unset, .unset, .unset] [(.int (8 : Int32)), (.int chs)])) (fun _ k => XS.bipush X35.here hx rfl (hb hby at_78) k) ?_
  refine own_by (T' := T35) (g' := (mkF m 81 #[.val (.int sel), .val (.long ts), .second, .val (.long sq0), .second, .val (.long sq), .second, .val (.int da), .val (.int chs), .val (.ref aty), .val (.ref b22), .val (.ref b25), .val (.ref b28), .val (.ref b31), .val (.int ((chs &&& (255 : Int32)).toUInt32.toUInt16.toUInt32.toInt32)), .unset, .unset, .unset, .unset, .unset] [(.int ((chs.toUInt32 >>> ((8 : Int32) &&& 31).toUInt32).toInt32))])) (fun _ k => XS.iushr X35.here hx rfl (hb hby at_80) rfl k) ?_
  refine own_by (T' := T35) (g' := (mkF m 84 #[.val (.int sel), .val (.long ts), .second, .val (.long sq0), .second, .val (.long sq), .second, .val (.int da), .val (.int chs), .val (.ref aty), .val (.ref b22), .val (.ref b25), .val (.ref b28), .val (.ref b31), .val (.int ((chs &&& (255 : Int32)).toUInt32.toUInt16.toUInt32.toInt32)), .unset, .unset, .unset, .unset, .unset] [(.int (255 : Int32)), (.int ((chs.toUInt32 >>> ((8 : Int32) &&& 31).toUInt32).toInt32))])) (fun _ k => XS.sipush X35.here hx rfl (hb hby at_81) k) ?_
  refine own_by (T' := T35) (g' := (mkF m 85 #[.val (.int sel), .val (.long ts), .second, .val (.long sq0), .second, .val (.long sq), .second, .val (.int da), .val (.int chs), .val (.ref aty), .val (.ref b22), .val (.ref b25), .val (.ref b28), .val (.ref b31), .val (.int ((chs &&& (255 : Int32)).toUInt32.toUInt16.toUInt32.toInt32)), .unset, .unset, .unset, .unset, .unset] [(.int (((chs.toUInt32 >>> ((8 : Int32) &&& 31).toUInt32).toInt32) &&& (255 : Int32)))])) (fun _ k => XS.iand X35.here hx rfl (hb hby at_84) rfl k) ?_
  refine own_by (T' := T35) (g' := (mkF m 86 #[.val (.int sel), .val (.long ts), .second, .val (.long sq0), .second, .val (.long sq), .second, .val (.int da), .val (.int chs), .val (.ref aty), .val (.ref b22), .val (.ref b25), .val (.ref b28), .val (.ref b31), .val (.int ((chs &&& (255 : Int32)).toUInt32.toUInt16.toUInt32.toInt32)), .unset, .unset, .unset, .unset, .unset] [(.int ((((chs.toUInt32 >>> ((8 : Int32) &&& 31).toUInt32).toInt32) &&& (255 : Int32)).toUInt32.toUInt16.toUInt32.toInt32))])) (fun _ k => XS.i2c X35.here hx rfl (hb hby at_85) rfl k) ?_
  refine own_by (T' := T35) (g' := (mkF m 88 #[.val (.int sel), .val (.long ts), .second, .val (.long sq0), .second, .val (.long sq), .second, .val (.int da), .val (.int chs), .val (.ref aty), .val (.ref b22), .val (.ref b25), .val (.ref b28), .val (.ref b31), .val (.int ((chs &&& (255 : Int32)).toUInt32.toUInt16.toUInt32.toInt32)), .val (.int ((((chs.toUInt32 >>> ((8 : Int32) &&& 31).toUInt32).toInt32) &&& (255 : Int32)).toUInt32.toUInt16.toUInt32.toInt32)), .unset, .unset, .unset, .unset] [])) (fun _ k => XS.istore X35.here hx rfl (hb hby at_86) rfl (l' := #[.val (.int sel), .val (.long ts), .second, .val (.long sq0), .second, .val (.long sq), .second, .val (.int da), .val (.int chs), .val (.ref aty), .val (.ref b22), .val (.ref b25), .val (.ref b28), .val (.ref b31), .val (.int ((chs &&& (255 : Int32)).toUInt32.toUInt16.toUInt32.toInt32)), .val (.int ((((chs.toUInt32 >>> ((8 : Int32) &&& 31).toUInt32).toInt32) &&& (255 : Int32)).toUInt32.toUInt16.toUInt32.toInt32)), .unset, .unset, .unset, .unset]) rfl k) ?_
  obtain ⟨T36, h36, X36, e36, E36, A36, D36, -, st36⟩ := newO X35 hx hZ hown (hw _ (List.mem_of_getElem? (i := 8) rfl)) (hw _ (List.mem_of_getElem? (i := 9) rfl)) (hw _ (List.mem_of_getElem? (i := 10) rfl)) e35 (g := (mkF m 88 #[.val (.int sel), .val (.long ts), .second, .val (.long sq0), .second, .val (.long sq), .second, .val (.int da), .val (.int chs), .val (.ref aty), .val (.ref b22), .val (.ref b25), .val (.ref b28), .val (.ref b31), .val (.int ((chs &&& (255 : Int32)).toUInt32.toUInt16.toUInt32.toInt32)), .val (.int ((((chs.toUInt32 >>> ((8 : Int32) &&& 31).toUInt32).toInt32) &&& (255 : Int32)).toUInt32.toUInt16.toUInt32.toInt32)), .unset, .unset, .unset, .unset] [])) rfl (hb hby at_88) (by decide) (by decide)
  obtain ⟨b36, g36⟩ : ∃ z, z = h35.size := ⟨_, rfl⟩
  rw [← g36] at A36 D36 st36
  have E_b36 : Exa Z h36 b36 "java/lang/String" := A36
  have F_coder_b36 : Fld Z h36 b36 "java/lang/String" "coder" "B" (.int (0 : Int32)) := D36 (Or.inr (hw _ (List.mem_of_getElem? (i := 34) rfl))) (ty := .byte) (by decide)
  have F_value_b36 : Fld Z h36 b36 "java/lang/String" "value" "[B" .null := D36 (Or.inr (hw _ (List.mem_of_getElem? (i := 36) rfl))) (ty := (.array .byte)) (by decide)
  have g_b36 : n0 ≤ b36 := Nat.le_trans (Nat.le_trans (Nat.le_trans (Nat.le_trans (Nat.le_trans (Nat.le_trans (Nat.le_trans (Nat.le_trans (Nat.le_trans (Nat.le_trans Z0 E22.1) (Keep.of_wr W24).1) E25.1) (Keep.of_wr W27).1) E28.1) (Keep.of_wr W30).1) E31.1) (Keep.of_wr W33).1) (Keep.of_wr W35).1) (Nat.le_of_eq g36.symm)
  have sz_b36 : h0.size ≤ b36 := Nat.le_trans K35.1 (Nat.le_of_eq g36.symm)
  have K36 : Keep h0 h36 [] := Keep.ext K35 E36
  refine own_by (T' := T36) (g' := (mkF m 91 #[.val (.int sel), .val (.long ts), .second, .val (.long sq0), .second, .val (.long sq), .second, .val (.int da), .val (.int chs), .val (.ref aty), .val (.ref b22), .val (.ref b25), .val (.ref b28), .val (.ref b31), .val (.int ((chs &&& (255 : Int32)).toUInt32.toUInt16.toUInt32.toInt32)), .val (.int ((((chs.toUInt32 >>> ((8 : Int32) &&& 31).toUInt32).toInt32) &&& (255 : Int32)).toUInt32.toUInt16.toUInt32.toInt32)), .unset, .unset, .unset, .unset] [(.ref b36)])) (fun _ k => st36 _ k) ?_
  refine own_by (T' := T36) (g' := (mkF m 92 #[.val (.int sel), .val (.long ts), .second, .val (.long sq0), .second, .val (.long sq), .second, .val (.int da), .val (.int chs), .val (.ref aty), .val (.ref b22), .val (.ref b25), .val (.ref b28), .val (.ref b31), .val (.int ((chs &&& (255 : Int32)).toUInt32.toUInt16.toUInt32.toInt32)), .val (.int ((((chs.toUInt32 >>> ((8 : Int32) &&& 31).toUInt32).toInt32) &&& (255 : Int32)).toUInt32.toUInt16.toUInt32.toInt32)), .unset, .unset, .unset, .unset] [(.ref b36), (.ref b36)])) (fun _ k => XS.dup X36.here hx rfl (hb hby at_91) rfl rfl k) ?_
  refine own_by (T' := T36) (g' := (mkF m 93 #[.val (.int sel), .val (.long ts), .second, .val (.long sq0), .second, .val (.long sq), .second, .val (.int da), .val (.int chs), .val (.ref aty), .val (.ref b22), .val (.ref b25), .val (.ref b28), .val (.ref b31), .val (.int ((chs &&& (255 : Int32)).toUInt32.toUInt16.toUInt32.toInt32)), .val (.int ((((chs.toUInt32 >>> ((8 : Int32) &&& 31).toUInt32).toInt32) &&& (255 : Int32)).toUInt32.toUInt16.toUInt32.toInt32)), .unset, .unset, .unset, .unset] [(.int (2 : Int32)), (.ref b36), (.ref b36)])) (fun _ k => XS.iconst X36.here hx rfl (hb hby at_92) k) ?_
  obtain ⟨T37, h37, k37, X37, e37, E37, A37, st37⟩ := newP X36 hx hZ (hw _ (List.mem_of_getElem? (i := 11) rfl)) e36 (g := (mkF m 93 #[.val (.int sel), .val (.long ts), .second, .val (.long sq0), .second, .val (.long sq), .second, .val (.int da), .val (.int chs), .val (.ref aty), .val (.ref b22), .val (.ref b25), .val (.ref b28), .val (.ref b31), .val (.int ((chs &&& (255 : Int32)).toUInt32.toUInt16.toUInt32.toInt32)), .val (.int ((((chs.toUInt32 >>> ((8 : Int32) &&& 31).toUInt32).toInt32) &&& (255 : Int32)).toUInt32.toUInt16.toUInt32.toInt32)), .unset, .unset, .unset, .unset] [(.int (2 : Int32)), (.ref b36), (.ref b36)])) rfl (hb hby at_93) rfl (by decide) (cap := 2) (by decide) (by decide) (by decide) (by decide)
  obtain ⟨b37, g37⟩ : ∃ z, z = h36.size := ⟨_, rfl⟩
  rw [← g37] at A37 st37
  have V_b37 : Arv Z h37 b37 k37 .char (2 : Int32) [(.int (0 : Int32)), (.int (0 : Int32))] (.int (0 : Int32)) := (Arv.new A37 (by decide)).pad (pad_rep [] (.int (0 : Int32)) 2)
  have g_b37 : n0 ≤ b37 := Nat.le_trans (Nat.le_trans (Nat.le_trans (Nat.le_trans (Nat.le_trans (Nat.le_trans (Nat.le_trans (Nat.le_trans (Nat.le_trans (Nat.le_trans (Nat.le_trans Z0 E22.1) (Keep.of_wr W24).1) E25.1) (Keep.of_wr W27).1) E28.1) (Keep.of_wr W30).1) E31.1) (Keep.of_wr W33).1) (Keep.of_wr W35).1) E36.1) (Nat.le_of_eq g37.symm)
  have sz_b37 : h0.size ≤ b37 := Nat.le_trans K36.1 (Nat.le_of_eq g37.symm)
  have K37 : Keep h0 h37 [] := Keep.ext K36 E37
  refine own_by (T' := T37) (g' := (mkF m 95 #[.val (.int sel), .val (.long ts), .second, .val (.long sq0), .second, .val (.long sq), .second, .val (.int da), .val (.int chs), .val (.ref aty), .val (.ref b22), .val (.ref b25), .val (.ref b28), .val (.ref b31), .val (.int ((chs &&& (255 : Int32)).toUInt32.toUInt16.toUInt32.toInt32)), .val (.int ((((chs.toUInt32 >>> ((8 : Int32) &&& 31).toUInt32).toInt32) &&& (255 : Int32)).toUInt32.toUInt16.toUInt32.toInt32)), .unset, .unset, .unset, .unset] [(.ref b37), (.ref b36), (.ref b36)])) (fun _ k => st37 _ k) ?_
  refine own_by (T' := T37) (g' := (mkF m 96 #[.val (.int sel), .val (.long ts), .second, .val (.long sq0), .second, .val (.long sq), .second, .val (.int da), .val (.int chs), .val (.ref aty), .val (.ref b22), .val (.ref b25), .val (.ref b28), .val (.ref b31), .val (.int ((chs &&& (255 : Int32)).toUInt32.toUInt16.toUInt32.toInt32)), .val (.int ((((chs.toUInt32 >>> ((8 : Int32) &&& 31).toUInt32).toInt32) &&& (255 : Int32)).toUInt32.toUInt16.toUInt32.toInt32)), .unset, .unset, .unset, .unset] [(.ref b37), (.ref b37), (.ref b36), (.ref b36)])) (fun _ k => XS.dup X37.here hx rfl (hb hby at_95) rfl rfl k) ?_
  refine own_by (T' := T37) (g' := (mkF m 97 #[.val (.int sel), .val (.long ts), .second, .val (.long sq0), .second, .val (.long sq), .second, .val (.int da), .val (.int chs), .val (.ref aty), .val (.ref b22), .val (.ref b25), .val (.ref b28), .val (.ref b31), .val (.int ((chs &&& (255 : Int32)).toUInt32.toUInt16.toUInt32.toInt32)), .val (.int ((((chs.toUInt32 >>> ((8 : Int32) &&& 31).toUInt32).toInt32) &&& (255 : Int32)).toUInt32.toUInt16.toUInt32.toInt32)), .unset, .unset, .unset, .unset] [(.int (0 : Int32)), (.ref b37), (.ref b37), (.ref b36), (.ref b36)])) (fun _ k => XS.iconst X37.here hx rfl (hb hby at_96) k) ?_
  refine own_by (T' := T37) (g' := (mkF m 99 #[.val (.int sel), .val (.long ts), .second, .val (.long sq0), .second, .val (.long sq), .second, .val (.int da), .val (.int chs), .val (.ref aty), .val (.ref b22), .val (.ref b25), .val (.ref b28), .val (.ref b31), .val (.int ((chs &&& (255 : Int32)).toUInt32.toUInt16.toUInt32.toInt32)), .val (.int ((((chs.toUInt32 >>> ((8 : Int32) &&& 31).toUInt32).toInt32) &&& (255 : Int32)).toUInt32.toUInt16.toUInt32.toInt32)), .unset, .unset, .unset, .unset] [(.int ((chs &&& (255 : Int32)).toUInt32.toUInt16.toUInt32.toInt32)), (.int (0 : Int32)), (.ref b37), (.ref b37), (.ref b36), (.ref b36)])) (fun _ k => XS.iload X37.here hx rfl (hb hby at_97) rfl k) ?_
  obtain ⟨cl38, Ar38, q38, S38, N_38, H38, G38⟩ := id V_b37
  have hin38 : ¬ ((0 : Int32) < 0 ∨ cl38.slots.size ≤ ((0 : Int32)).toNatClampNeg) := inb_of S38 ⟨by decide, by decide⟩
  obtain ⟨T39, h39, X39, e39, W39, st39⟩ := stC X37 hx hZ e37 Ar38 (j := (0 : Int32)) hin38 (g := (mkF m 99 #[.val (.int sel), .val (.long ts), .second, .val (.long sq0), .second, .val (.long sq), .second, .val (.int da), .val (.int chs), .val (.ref aty), .val (.ref b22), .val (.ref b25), .val (.ref b28), .val (.ref b31), .val (.int ((chs &&& (255 : Int32)).toUInt32.toUInt16.toUInt32.toInt32)), .val (.int ((((chs.toUInt32 >>> ((8 : Int32) &&& 31).toUInt32).toInt32) &&& (255 : Int32)).toUInt32.toUInt16.toUInt32.toInt32)), .unset, .unset, .unset, .unset] [(.int ((chs &&& (255 : Int32)).toUInt32.toUInt16.toUInt32.toInt32)), (.int (0 : Int32)), (.ref b37), (.ref b37), (.ref b36), (.ref b36)])) rfl rfl (hb hby at_99)
  have V39 : Arv Z h39 b37 k37 .char (2 : Int32) [(.int (nar .char ((chs &&& (255 : Int32)).toUInt32.toUInt16.toUInt32.toInt32))), (.int (0 : Int32))] (.int (0 : Int32)) := Arv.set Ar38 q38 S38 N_38 H38 G38 (fits_nar_char _) W39 0 rfl (Nat.le_of_ble_eq_true rfl)
  have K39 : Keep h0 h39 [] := Keep.wr K37 W39 (Or.inr sz_b37)
  have N39 := Fr.snoc X39 N35 g_b37
  refine own_by (T' := T39) (g' := (mkF m 100 #[.val (.int sel), .val (.long ts), .second, .val (.long sq0), .second, .val (.long sq), .second, .val (.int da), .val (.int chs), .val (.ref aty), .val (.ref b22), .val (.ref b25), .val (.ref b28), .val (.ref b31), .val (.int ((chs &&& (255 : Int32)).toUInt32.toUInt16.toUInt32.toInt32)), .val (.int ((((chs.toUInt32 >>> ((8 : Int32) &&& 31).toUInt32).toInt32) &&& (255 : Int32)).toUInt32.toUInt16.toUInt32.toInt32)), .unset, .unset, .unset, .unset] [(.ref b37), (.ref b36), (.ref b36)])) (fun _ k => st39 _ k) ?_
  refine own_by (T' := T39) (g' := (mkF m 101 #[.val (.int sel), .val (.long ts), .second, .val (.long sq0), .second, .val (.long sq), .second, .val (.int da), .val (.int chs), .val (.ref aty), .val (.ref b22), .val (.ref b25), .val (.ref b28), .val (.ref b31), .val (.int ((chs &&& (255 : Int32)).toUInt32.toUInt16.toUInt32.toInt32)), .val (.int ((((chs.toUInt32 >>> ((8 : Int32) &&& 31).toUInt32).toInt32) &&& (255 : Int32)).toUInt32.toUInt16.toUInt32.toInt32)), .unset, .unset, .unset, .unset] [(.ref b37), (.ref b37), (.ref b36), (.ref b36)])) (fun _ k => XS.dup X39.here hx rfl (hb hby at_100) rfl rfl k) ?_
  refine own_by (T' := T39) (g' := (mkF m 102 #[.val (.int sel), .val (.long ts), .second, .val (.long sq0), .second, .val (.long sq), .second, .val (.int da), .val (.int chs), .val (.ref aty), .val (.ref b22), .val (.ref b25), .val (.ref b28), .val (.ref b31), .val (.int ((chs &&& (255 : Int32)).toUInt32.toUInt16.toUInt32.toInt32)), .val (.int ((((chs.toUInt32 >>> ((8 : Int32) &&& 31).toUInt32).toInt32) &&& (255 : Int32)).toUInt32.toUInt16.toUInt32.toInt32)), .unset, .unset, .unset, .unset] [(.int (1 : Int32)), (.ref b37), (.ref b37), (.ref b36), (.ref b36)])) (fun _ k => XS.iconst X39.here hx rfl (hb hby at_101) k) ?_
  refine own_by (T' := T39) (g' := (mkF m 104 #[.val (.int sel), .val (.long ts), .second, .val (.long sq0), .second, .val (.long sq), .second, .val (.int da), .val (.int chs), .val (.ref aty), .val (.ref b22), .val (.ref b25), .val (.ref b28), .val (.ref b31), .val (.int ((chs &&& (255 : Int32)).toUInt32.toUInt16.toUInt32.toInt32)), .val (.int ((((chs.toUInt32 >>> ((8 : Int32) &&& 31).toUInt32).toInt32) &&& (255 : Int32)).toUInt32.toUInt16.toUInt32.toInt32)), .unset, .unset, .unset, .unset] [(.int ((((chs.toUInt32 >>> ((8 : Int32) &&& 31).toUInt32).toInt32) &&& (255 : Int32)).toUInt32.toUInt16.toUInt32.toInt32)), (.int (1 : Int32)), (.ref b37), (.ref b37), (.ref b36), (.ref b36)])) (fun _ k => XS.iload X39.here hx rfl (hb hby at_102) rfl k) ?_
  obtain ⟨cl40, Ar40, q40, S40, N_40, H40, G40⟩ := id V39
  have hin40 : ¬ ((1 : Int32) < 0 ∨ cl40.slots.size ≤ ((1 : Int32)).toNatClampNeg) := inb_of S40 ⟨by decide, by decide⟩
  obtain ⟨T41, h41, X41, e41, W41, st41⟩ := stC X39 hx hZ e39 Ar40 (j := (1 : Int32)) hin40 (g := (mkF m 104 #[.val (.int sel), .val (.long ts), .second, .val (.long sq0), .second, .val (.long sq), .second, .val (.int da), .val (.int chs), .val (.ref aty), .val (.ref b22), .val (.ref b25), .val (.ref b28), .val (.ref b31), .val (.int ((chs &&& (255 : Int32)).toUInt32.toUInt16.toUInt32.toInt32)), .val (.int ((((chs.toUInt32 >>> ((8 : Int32) &&& 31).toUInt32).toInt32) &&& (255 : Int32)).toUInt32.toUInt16.toUInt32.toInt32)), .unset, .unset, .unset, .unset] [(.int ((((chs.toUInt32 >>> ((8 : Int32) &&& 31).toUInt32).toInt32) &&& (255 : Int32)).toUInt32.toUInt16.toUInt32.toInt32)), (.int (1 : Int32)), (.ref b37), (.ref b37), (.ref b36), (.ref b36)])) rfl rfl (hb hby at_104)
  have V41 : Arv Z h41 b37 k37 .char (2 : Int32) [(.int (nar .char ((chs &&& (255 : Int32)).toUInt32.toUInt16.toUInt32.toInt32))), (.int (nar .char ((((chs.toUInt32 >>> ((8 : Int32) &&& 31).toUInt32).toInt32) &&& (255 : Int32)).toUInt32.toUInt16.toUInt32.toInt32)))] (.int (0 : Int32)) := Arv.set Ar40 q40 S40 N_40 H40 G40 (fits_nar_char _) W41 1 rfl (Nat.le_of_ble_eq_true rfl)
  have K41 : Keep h0 h41 [] := Keep.wr K39 W41 (Or.inr sz_b37)
  have N41 := Fr.snoc X41 N39 g_b37
  refine own_by (T' := T41) (g' := (mkF m 105 #[.val (.int sel), .val (.long ts), .second, .val (.long sq0), .second, .val (.long sq), .second, .val (.int da), .val (.int chs), .val (.ref aty), .val (.ref b22), .val (.ref b25), .val (.ref b28), .val (.ref b31), .val (.int ((chs &&& (255 : Int32)).toUInt32.toUInt16.toUInt32.toInt32)), .val (.int ((((chs.toUInt32 >>> ((8 : Int32) &&& 31).toUInt32).toInt32) &&& (255 : Int32)).toUInt32.toUInt16.toUInt32.toInt32)), .unset, .unset, .unset, .unset] [(.ref b37), (.ref b36), (.ref b36)])) (fun _ k => st41 _ k) ?_
  obtain ⟨_, _, ⟨T42, L42, k42, n42⟩, -, X42, ⟨Lc42, hQ42, l42, y42, z42⟩, st42⟩ := X41.specialBack hx (y := (⟨"java/lang/String", "<init>", "([C)V"⟩ : MethodName)) rfl hown (mvT hZ (hw _ (List.mem_of_getElem? (i := 12) rfl))) (mvT hZ (hw _ (List.mem_of_getElem? (i := 13) rfl))) (mvT hZ (hw _ (List.mem_of_getElem? (i := 14) rfl))) (by decide) (backOf (W := 1) (sin1_2 l Z a0 hw [] b36 b37 k37 cs (nar .char ((chs &&& (255 : Int32)).toUInt32.toUInt16.toUInt32.toInt32)) (nar .char ((((chs.toUInt32 >>> ((8 : Int32) &&& 31).toUInt32).toInt32) &&& (255 : Int32)).toUInt32.toUInt16.toUInt32.toInt32)) h41 n0 (Nat.le_trans (Nat.le_trans (Nat.le_trans (Nat.le_trans (Nat.le_trans (Nat.le_trans (Nat.le_trans (Nat.le_trans (Nat.le_trans (Nat.le_trans (Nat.le_trans (Nat.le_trans (Nat.le_trans Z0 E22.1) (Keep.of_wr W24).1) E25.1) (Keep.of_wr W27).1) E28.1) (Keep.of_wr W30).1) E31.1) (Keep.of_wr W33).1) (Keep.of_wr W35).1) E36.1) E37.1) (Keep.of_wr W39).1) (Keep.of_wr W41).1) (Exa.wr W41 (Exa.wr W39 (Exa.ext E37 E_b36))) (Fld.other W41 (Fld.other W39 (Fld.ext E37 F_value_b36) (Or.inl (Nat.ne_of_lt (Nat.lt_of_lt_of_le E_b36.lt (Nat.le_of_eq g37.symm))))) (Or.inl (Nat.ne_of_lt (Nat.lt_of_lt_of_le E_b36.lt (Nat.le_of_eq g37.symm))))) (Fld.other W41 (Fld.other W39 (Fld.ext E37 F_coder_b36) (Or.inl (Nat.ne_of_lt (Nat.lt_of_lt_of_le E_b36.lt (Nat.le_of_eq g37.symm))))) (Or.inl (Nat.ne_of_lt (Nat.lt_of_lt_of_le E_b36.lt (Nat.le_of_eq g37.symm))))) g_b36 V41 (Sta.ext ((Old.wr (Old.wr (Old.ext (Old.ext (Old.wr (Old.wr (Old.ext (Old.wr (Old.ext (Old.wr (Old.ext (Old.wr (Old.ext O0 E22) W24 g_b22) E25) W27 g_b25) E28) W30 g_b28) E31) W33 g_b31) W35 g_b31) E36) E37) W39 g_b37) W41 g_b37)).2 S_CS) hcs (own_c255 chs) (own_c255 ((chs.toUInt32 >>> ((8 : Int32) &&& 31).toUInt32).toInt32))) hZ (hw _ (List.mem_of_getElem? (i := 14) rfl)) (hw _ (List.mem_of_getElem? (i := 10) rfl)) (by decide) (by decide)) (g := (mkF m 105 #[.val (.int sel), .val (.long ts), .second, .val (.long sq0), .second, .val (.long sq), .second, .val (.int da), .val (.int chs), .val (.ref aty), .val (.ref b22), .val (.ref b25), .val (.ref b28), .val (.ref b31), .val (.int ((chs &&& (255 : Int32)).toUInt32.toUInt16.toUInt32.toInt32)), .val (.int ((((chs.toUInt32 >>> ((8 : Int32) &&& 31).toUInt32).toInt32) &&& (255 : Int32)).toUInt32.toUInt16.toUInt32.toInt32)), .unset, .unset, .unset, .unset] [(.ref b37), (.ref b36), (.ref b36)])) rfl (by rw [hml]; rfl) (Steps.refl _) (a := b36) (argsL := [(.ref b37)]) (rest := [(.ref b36)]) (lenOf pd_6 rfl) rfl (by show 2 * 0 + _ ≤ _; exact Nat.le_of_eq rfl) (hb hby at_105) (fun _ _ => ⟨rfl, e41, (by decide : (((((((0 + 0) + 1) + 1) + 1) + 1) + 1) + 1) + 1 ≤ _), (by decide : (((((((0 + 0) + 1) + 1) + 1) + 2) + 4) + 2) + 2 ≤ _)⟩)
  dsimp only [Pt.U, Pt.locs, Pt.cells, Pt.slots] at X42 l42 y42 z42 st42 hQ42
  subst l42 y42 z42
  obtain ⟨rfl, N42q, K42, Fc42, t42, kb42, zt42, Fv42, V42⟩ := hQ42
  have N42 := Fr.app N41 N42q
  have KK42 : Keep h0 T42.heap [] := Keep.trans K41 K42 (allS (Or.inr sz_b36) all0)
  have sz_t42 : h0.size ≤ t42 := Nat.le_trans K41.1 zt42
  have g_t42 : n0 ≤ t42 := Nat.le_trans Z0 sz_t42
  refine own_by (T' := T42) (g' := (mkF m 108 #[.val (.int sel), .val (.long ts), .second, .val (.long sq0), .second, .val (.long sq), .second, .val (.int da), .val (.int chs), .val (.ref aty), .val (.ref b22), .val (.ref b25), .val (.ref b28), .val (.ref b31), .val (.int ((chs &&& (255 : Int32)).toUInt32.toUInt16.toUInt32.toInt32)), .val (.int ((((chs.toUInt32 >>> ((8 : Int32) &&& 31).toUInt32).toInt32) &&& (255 : Int32)).toUInt32.toUInt16.toUInt32.toInt32)), .unset, .unset, .unset, .unset] [(.ref b36)])) (fun _ k => st42.trans k) ?_
  refine own_by (T' := T42) (g' := (mkF m 110 #[.val (.int sel), .val (.long ts), .second, .val (.long sq0), .second, .val (.long sq), .second, .val (.int da), .val (.int chs), .val (.ref aty), .val (.ref b22), .val (.ref b25), .val (.ref b28), .val (.ref b31), .val (.int ((chs &&& (255 : Int32)).toUInt32.toUInt16.toUInt32.toInt32)), .val (.int ((((chs.toUInt32 >>> ((8 : Int32) &&& 31).toUInt32).toInt32) &&& (255 : Int32)).toUInt32.toUInt16.toUInt32.toInt32)), .val (.ref b36), .unset, .unset, .unset] [])) (fun _ k => XS.astore X42.here hx rfl (hb hby at_108) rfl rfl (l' := #[.val (.int sel), .val (.long ts), .second, .val (.long sq0), .second, .val (.long sq), .second, .val (.int da), .val (.int chs), .val (.ref aty), .val (.ref b22), .val (.ref b25), .val (.ref b28), .val (.ref b31), .val (.int ((chs &&& (255 : Int32)).toUInt32.toUInt16.toUInt32.toInt32)), .val (.int ((((chs.toUInt32 >>> ((8 : Int32) &&& 31).toUInt32).toInt32) &&& (255 : Int32)).toUInt32.toUInt16.toUInt32.toInt32)), .val (.ref b36), .unset, .unset, .unset]) rfl k) ?_
  obtain ⟨T43, h43, X43, e43, E43, A43, D43, -, st43⟩ := newO X42 hx hZ hown (hw _ (List.mem_of_getElem? (i := 8) rfl)) (hw _ (List.mem_of_getElem? (i := 9) rfl)) (hw _ (List.mem_of_getElem? (i := 10) rfl)) rfl (g := (mkF m 110 #[.val (.int sel), .val (.long ts), .second, .val (.long sq0), .second, .val (.long sq), .second, .val (.int da), .val (.int chs), .val (.ref aty), .val (.ref b22), .val (.ref b25), .val (.ref b28), .val (.ref b31), .val (.int ((chs &&& (255 : Int32)).toUInt32.toUInt16.toUInt32.toInt32)), .val (.int ((((chs.toUInt32 >>> ((8 : Int32) &&& 31).toUInt32).toInt32) &&& (255 : Int32)).toUInt32.toUInt16.toUInt32.toInt32)), .val (.ref b36), .unset, .unset, .unset] [])) rfl (hb hby at_110) (by decide) (by decide)
  obtain ⟨b43, g43⟩ : ∃ z, z = T42.heap.size := ⟨_, rfl⟩
  rw [← g43] at A43 D43 st43
  have E_b43 : Exa Z h43 b43 "java/lang/String" := A43
  have F_coder_b43 : Fld Z h43 b43 "java/lang/String" "coder" "B" (.int (0 : Int32)) := D43 (Or.inr (hw _ (List.mem_of_getElem? (i := 34) rfl))) (ty := .byte) (by decide)
  have F_value_b43 : Fld Z h43 b43 "java/lang/String" "value" "[B" .null := D43 (Or.inr (hw _ (List.mem_of_getElem? (i := 36) rfl))) (ty := (.array .byte)) (by decide)
  have g_b43 : n0 ≤ b43 := Nat.le_trans (Nat.le_trans (Nat.le_trans (Nat.le_trans (Nat.le_trans (Nat.le_trans (Nat.le_trans (Nat.le_trans (Nat.le_trans (Nat.le_trans (Nat.le_trans (Nat.le_trans (Nat.le_trans (Nat.le_trans (Nat.le_trans Z0 E22.1) (Keep.of_wr W24).1) E25.1) (Keep.of_wr W27).1) E28.1) (Keep.of_wr W30).1) E31.1) (Keep.of_wr W33).1) (Keep.of_wr W35).1) E36.1) E37.1) (Keep.of_wr W39).1) (Keep.of_wr W41).1) K42.1) (Nat.le_of_eq g43.symm)
  have sz_b43 : h0.size ≤ b43 := Nat.le_trans KK42.1 (Nat.le_of_eq g43.symm)
  have K43 : Keep h0 h43 [] := Keep.ext KK42 E43
  refine own_by (T' := T43) (g' := (mkF m 113 #[.val (.int sel), .val (.long ts), .second, .val (.long sq0), .second, .val (.long sq), .second, .val (.int da), .val (.int chs), .val (.ref aty), .val (.ref b22), .val (.ref b25), .val (.ref b28), .val (.ref b31), .val (.int ((chs &&& (255 : Int32)).toUInt32.toUInt16.toUInt32.toInt32)), .val (.int ((((chs.toUInt32 >>> ((8 : Int32) &&& 31).toUInt32).toInt32) &&& (255 : Int32)).toUInt32.toUInt16.toUInt32.toInt32)), .val (.ref b36), .unset, .unset, .unset] [(.ref b43)])) (fun _ k => st43 _ k) ?_
  refine own_by (T' := T43) (g' := (mkF m 114 #[.val (.int sel), .val (.long ts), .second, .val (.long sq0), .second, .val (.long sq), .second, .val (.int da), .val (.int chs), .val (.ref aty), .val (.ref b22), .val (.ref b25), .val (.ref b28), .val (.ref b31), .val (.int ((chs &&& (255 : Int32)).toUInt32.toUInt16.toUInt32.toInt32)), .val (.int ((((chs.toUInt32 >>> ((8 : Int32) &&& 31).toUInt32).toInt32) &&& (255 : Int32)).toUInt32.toUInt16.toUInt32.toInt32)), .val (.ref b36), .unset, .unset, .unset] [(.ref b43), (.ref b43)])) (fun _ k => XS.dup X43.here hx rfl (hb hby at_113) rfl rfl k) ?_
  refine own_by (T' := T43) (g' := (mkF m 115 #[.val (.int sel), .val (.long ts), .second, .val (.long sq0), .second, .val (.long sq), .second, .val (.int da), .val (.int chs), .val (.ref aty), .val (.ref b22), .val (.ref b25), .val (.ref b28), .val (.ref b31), .val (.int ((chs &&& (255 : Int32)).toUInt32.toUInt16.toUInt32.toInt32)), .val (.int ((((chs.toUInt32 >>> ((8 : Int32) &&& 31).toUInt32).toInt32) &&& (255 : Int32)).toUInt32.toUInt16.toUInt32.toInt32)), .val (.ref b36), .unset, .unset, .unset] [(.int (2 : Int32)), (.ref b43), (.ref b43)])) (fun _ k => XS.iconst X43.here hx rfl (hb hby at_114) k) ?_
  obtain ⟨T44, h44, k44, X44, e44, E44, A44, st44⟩ := newP X43 hx hZ (hw _ (List.mem_of_getElem? (i := 11) rfl)) e43 (g := (mkF m 115 #[.val (.int sel), .val (.long ts), .second, .val (.long sq0), .second, .val (.long sq), .second, .val (.int da), .val (.int chs), .val (.ref aty), .val (.ref b22), .val (.ref b25), .val (.ref b28), .val (.ref b31), .val (.int ((chs &&& (255 : Int32)).toUInt32.toUInt16.toUInt32.toInt32)), .val (.int ((((chs.toUInt32 >>> ((8 : Int32) &&& 31).toUInt32).toInt32) &&& (255 : Int32)).toUInt32.toUInt16.toUInt32.toInt32)), .val (.ref b36), .unset, .unset, .unset] [(.int (2 : Int32)), (.ref b43), (.ref b43)])) rfl (hb hby at_115) rfl (by decide) (cap := 2) (by decide) (by decide) (by decide) (by decide)
  obtain ⟨b44, g44⟩ : ∃ z, z = h43.size := ⟨_, rfl⟩
  rw [← g44] at A44 st44
  have V_b44 : Arv Z h44 b44 k44 .char (2 : Int32) [(.int (0 : Int32)), (.int (0 : Int32))] (.int (0 : Int32)) := (Arv.new A44 (by decide)).pad (pad_rep [] (.int (0 : Int32)) 2)
  have g_b44 : n0 ≤ b44 := Nat.le_trans (Nat.le_trans (Nat.le_trans (Nat.le_trans (Nat.le_trans (Nat.le_trans (Nat.le_trans (Nat.le_trans (Nat.le_trans (Nat.le_trans (Nat.le_trans (Nat.le_trans (Nat.le_trans (Nat.le_trans (Nat.le_trans (Nat.le_trans Z0 E22.1) (Keep.of_wr W24).1) E25.1) (Keep.of_wr W27).1) E28.1) (Keep.of_wr W30).1) E31.1) (Keep.of_wr W33).1) (Keep.of_wr W35).1) E36.1) E37.1) (Keep.of_wr W39).1) (Keep.of_wr W41).1) K42.1) E43.1) (Nat.le_of_eq g44.symm)
  have sz_b44 : h0.size ≤ b44 := Nat.le_trans K43.1 (Nat.le_of_eq g44.symm)
  have K44 : Keep h0 h44 [] := Keep.ext K43 E44
  refine own_by (T' := T44) (g' := (mkF m 117 #[.val (.int sel), .val (.long ts), .second, .val (.long sq0), .second, .val (.long sq), .second, .val (.int da), .val (.int chs), .val (.ref aty), .val (.ref b22), .val (.ref b25), .val (.ref b28), .val (.ref b31), .val (.int ((chs &&& (255 : Int32)).toUInt32.toUInt16.toUInt32.toInt32)), .val (.int ((((chs.toUInt32 >>> ((8 : Int32) &&& 31).toUInt32).toInt32) &&& (255 : Int32)).toUInt32.toUInt16.toUInt32.toInt32)), .val (.ref b36), .unset, .unset, .unset] [(.ref b44), (.ref b43), (.ref b43)])) (fun _ k => st44 _ k) ?_
  refine own_by (T' := T44) (g' := (mkF m 118 #[.val (.int sel), .val (.long ts), .second, .val (.long sq0), .second, .val (.long sq), .second, .val (.int da), .val (.int chs), .val (.ref aty), .val (.ref b22), .val (.ref b25), .val (.ref b28), .val (.ref b31), .val (.int ((chs &&& (255 : Int32)).toUInt32.toUInt16.toUInt32.toInt32)), .val (.int ((((chs.toUInt32 >>> ((8 : Int32) &&& 31).toUInt32).toInt32) &&& (255 : Int32)).toUInt32.toUInt16.toUInt32.toInt32)), .val (.ref b36), .unset, .unset, .unset] [(.ref b44), (.ref b44), (.ref b43), (.ref b43)])) (fun _ k => XS.dup X44.here hx rfl (hb hby at_117) rfl rfl k) ?_
  refine own_by (T' := T44) (g' := (mkF m 119 #[.val (.int sel), .val (.long ts), .second, .val (.long sq0), .second, .val (.long sq), .second, .val (.int da), .val (.int chs), .val (.ref aty), .val (.ref b22), .val (.ref b25), .val (.ref b28), .val (.ref b31), .val (.int ((chs &&& (255 : Int32)).toUInt32.toUInt16.toUInt32.toInt32)), .val (.int ((((chs.toUInt32 >>> ((8 : Int32) &&& 31).toUInt32).toInt32) &&& (255 : Int32)).toUInt32.toUInt16.toUInt32.toInt32)), .val (.ref b36), .unset, .unset, .unset] [(.int (0 : Int32)), (.ref b44), (.ref b44), (.ref b43), (.ref b43)])) (fun _ k => XS.iconst X44.here hx rfl (hb hby at_118) k) ?_
  refine own_by (T' := T44) (g' := (mkF m 121 #[.val (.int sel), .val (.long ts), .second, .val (.long sq0), .second, .val (.long sq), .second, .val (.int da), .val (.int chs), .val (.ref aty), .val (.ref b22), .val (.ref b25), .val (.ref b28), .val (.ref b31), .val (.int ((chs &&& (255 : Int32)).toUInt32.toUInt16.toUInt32.toInt32)), .val (.int ((((chs.toUInt32 >>> ((8 : Int32) &&& 31).toUInt32).toInt32) &&& (255 : Int32)).toUInt32.toUInt16.toUInt32.toInt32)), .val (.ref b36), .unset, .unset, .unset] [(.int ((chs &&& (255 : Int32)).toUInt32.toUInt16.toUInt32.toInt32)), (.int (0 : Int32)), (.ref b44), (.ref b44), (.ref b43), (.ref b43)])) (fun _ k => XS.iload X44.here hx rfl (hb hby at_119) rfl k) ?_
  obtain ⟨cl45, Ar45, q45, S45, N_45, H45, G45⟩ := id V_b44
  have hin45 : ¬ ((0 : Int32) < 0 ∨ cl45.slots.size ≤ ((0 : Int32)).toNatClampNeg) := inb_of S45 ⟨by decide, by decide⟩
  obtain ⟨T46, h46, X46, e46, W46, st46⟩ := stC X44 hx hZ e44 Ar45 (j := (0 : Int32)) hin45 (g := (mkF m 121 #[.val (.int sel), .val (.long ts), .second, .val (.long sq0), .second, .val (.long sq), .second, .val (.int da), .val (.int chs), .val (.ref aty), .val (.ref b22), .val (.ref b25), .val (.ref b28), .val (.ref b31), .val (.int ((chs &&& (255 : Int32)).toUInt32.toUInt16.toUInt32.toInt32)), .val (.int ((((chs.toUInt32 >>> ((8 : Int32) &&& 31).toUInt32).toInt32) &&& (255 : Int32)).toUInt32.toUInt16.toUInt32.toInt32)), .val (.ref b36), .unset, .unset, .unset] [(.int ((chs &&& (255 : Int32)).toUInt32.toUInt16.toUInt32.toInt32)), (.int (0 : Int32)), (.ref b44), (.ref b44), (.ref b43), (.ref b43)])) rfl rfl (hb hby at_121)
  have V46 : Arv Z h46 b44 k44 .char (2 : Int32) [(.int (nar .char ((chs &&& (255 : Int32)).toUInt32.toUInt16.toUInt32.toInt32))), (.int (0 : Int32))] (.int (0 : Int32)) := Arv.set Ar45 q45 S45 N_45 H45 G45 (fits_nar_char _) W46 0 rfl (Nat.le_of_ble_eq_true rfl)
  have K46 : Keep h0 h46 [] := Keep.wr K44 W46 (Or.inr sz_b44)
  have N46 := Fr.snoc X46 N42 g_b44
  refine own_by (T' := T46) (g' := (mkF m 122 #[.val (.int sel), .val (.long ts), .second, .val (.long sq0), .second, .val (.long sq), .second, .val (.int da), .val (.int chs), .val (.ref aty), .val (.ref b22), .val (.ref b25), .val (.ref b28), .val (.ref b31), .val (.int ((chs &&& (255 : Int32)).toUInt32.toUInt16.toUInt32.toInt32)), .val (.int ((((chs.toUInt32 >>> ((8 : Int32) &&& 31).toUInt32).toInt32) &&& (255 : Int32)).toUInt32.toUInt16.toUInt32.toInt32)), .val (.ref b36), .unset, .unset, .unset] [(.ref b44), (.ref b43), (.ref b43)])) (fun _ k => st46 _ k) ?_
  refine own_by (T' := T46) (g' := (mkF m 123 #[.val (.int sel), .val (.long ts), .second, .val (.long sq0), .second, .val (.long sq), .second, .val (.int da), .val (.int chs), .val (.ref aty), .val (.ref b22), .val (.ref b25), .val (.ref b28), .val (.ref b31), .val (.int ((chs &&& (255 : Int32)).toUInt32.toUInt16.toUInt32.toInt32)), .val (.int ((((chs.toUInt32 >>> ((8 : Int32) &&& 31).toUInt32).toInt32) &&& (255 : Int32)).toUInt32.toUInt16.toUInt32.toInt32)), .val (.ref b36), .unset, .unset, .unset] [(.ref b44), (.ref b44), (.ref b43), (.ref b43)])) (fun _ k => XS.dup X46.here hx rfl (hb hby at_122) rfl rfl k) ?_
  refine own_by (T' := T46) (g' := (mkF m 124 #[.val (.int sel), .val (.long ts), .second, .val (.long sq0), .second, .val (.long sq), .second, .val (.int da), .val (.int chs), .val (.ref aty), .val (.ref b22), .val (.ref b25), .val (.ref b28), .val (.ref b31), .val (.int ((chs &&& (255 : Int32)).toUInt32.toUInt16.toUInt32.toInt32)), .val (.int ((((chs.toUInt32 >>> ((8 : Int32) &&& 31).toUInt32).toInt32) &&& (255 : Int32)).toUInt32.toUInt16.toUInt32.toInt32)), .val (.ref b36), .unset, .unset, .unset] [(.int (1 : Int32)), (.ref b44), (.ref b44), (.ref b43), (.ref b43)])) (fun _ k => XS.iconst X46.here hx rfl (hb hby at_123) k) ?_
  refine own_by (T' := T46) (g' := (mkF m 126 #[.val (.int sel), .val (.long ts), .second, .val (.long sq0), .second, .val (.long sq), .second, .val (.int da), .val (.int chs), .val (.ref aty), .val (.ref b22), .val (.ref b25), .val (.ref b28), .val (.ref b31), .val (.int ((chs &&& (255 : Int32)).toUInt32.toUInt16.toUInt32.toInt32)), .val (.int ((((chs.toUInt32 >>> ((8 : Int32) &&& 31).toUInt32).toInt32) &&& (255 : Int32)).toUInt32.toUInt16.toUInt32.toInt32)), .val (.ref b36), .unset, .unset, .unset] [(.int ((((chs.toUInt32 >>> ((8 : Int32) &&& 31).toUInt32).toInt32) &&& (255 : Int32)).toUInt32.toUInt16.toUInt32.toInt32)), (.int (1 : Int32)), (.ref b44), (.ref b44), (.ref b43), (.ref b43)])) (fun _ k => XS.iload X46.here hx rfl (hb hby at_124) rfl k) ?_
  obtain ⟨cl47, Ar47, q47, S47, N_47, H47, G47⟩ := id V46
  have hin47 : ¬ ((1 : Int32) < 0 ∨ cl47.slots.size ≤ ((1 : Int32)).toNatClampNeg) := inb_of S47 ⟨by decide, by decide⟩
  obtain ⟨T48, h48, X48, e48, W48, st48⟩ := stC X46 hx hZ e46 Ar47 (j := (1 : Int32)) hin47 (g := (mkF m 126 #[.val (.int sel), .val (.long ts), .second, .val (.long sq0), .second, .val (.long sq), .second, .val (.int da), .val (.int chs), .val (.ref aty), .val (.ref b22), .val (.ref b25), .val (.ref b28), .val (.ref b31), .val (.int ((chs &&& (255 : Int32)).toUInt32.toUInt16.toUInt32.toInt32)), .val (.int ((((chs.toUInt32 >>> ((8 : Int32) &&& 31).toUInt32).toInt32) &&& (255 : Int32)).toUInt32.toUInt16.toUInt32.toInt32)), .val (.ref b36), .unset, .unset, .unset] [(.int ((((chs.toUInt32 >>> ((8 : Int32) &&& 31).toUInt32).toInt32) &&& (255 : Int32)).toUInt32.toUInt16.toUInt32.toInt32)), (.int (1 : Int32)), (.ref b44), (.ref b44), (.ref b43), (.ref b43)])) rfl rfl (hb hby at_126)
  have V48 : Arv Z h48 b44 k44 .char (2 : Int32) [(.int (nar .char ((chs &&& (255 : Int32)).toUInt32.toUInt16.toUInt32.toInt32))), (.int (nar .char ((((chs.toUInt32 >>> ((8 : Int32) &&& 31).toUInt32).toInt32) &&& (255 : Int32)).toUInt32.toUInt16.toUInt32.toInt32)))] (.int (0 : Int32)) := Arv.set Ar47 q47 S47 N_47 H47 G47 (fits_nar_char _) W48 1 rfl (Nat.le_of_ble_eq_true rfl)
  have K48 : Keep h0 h48 [] := Keep.wr K46 W48 (Or.inr sz_b44)
  have N48 := Fr.snoc X48 N46 g_b44
  refine own_by (T' := T48) (g' := (mkF m 127 #[.val (.int sel), .val (.long ts), .second, .val (.long sq0), .second, .val (.long sq), .second, .val (.int da), .val (.int chs), .val (.ref aty), .val (.ref b22), .val (.ref b25), .val (.ref b28), .val (.ref b31), .val (.int ((chs &&& (255 : Int32)).toUInt32.toUInt16.toUInt32.toInt32)), .val (.int ((((chs.toUInt32 >>> ((8 : Int32) &&& 31).toUInt32).toInt32) &&& (255 : Int32)).toUInt32.toUInt16.toUInt32.toInt32)), .val (.ref b36), .unset, .unset, .unset] [(.ref b44), (.ref b43), (.ref b43)])) (fun _ k => st48 _ k) ?_
  obtain ⟨_, _, ⟨T49, L49, k49, n49⟩, -, X49, ⟨Lc49, hQ49, l49, y49, z49⟩, st49⟩ := X48.specialBack hx (y := (⟨"java/lang/String", "<init>", "([C)V"⟩ : MethodName)) rfl hown (mvT hZ (hw _ (List.mem_of_getElem? (i := 12) rfl))) (mvT hZ (hw _ (List.mem_of_getElem? (i := 13) rfl))) (mvT hZ (hw _ (List.mem_of_getElem? (i := 14) rfl))) (by decide) (backOf (W := 1) (sin1_2 l Z a0 hw [] b43 b44 k44 cs (nar .char ((chs &&& (255 : Int32)).toUInt32.toUInt16.toUInt32.toInt32)) (nar .char ((((chs.toUInt32 >>> ((8 : Int32) &&& 31).toUInt32).toInt32) &&& (255 : Int32)).toUInt32.toUInt16.toUInt32.toInt32)) h48 n0 (Nat.le_trans (Nat.le_trans (Nat.le_trans (Nat.le_trans (Nat.le_trans (Nat.le_trans (Nat.le_trans (Nat.le_trans (Nat.le_trans (Nat.le_trans (Nat.le_trans (Nat.le_trans (Nat.le_trans (Nat.le_trans (Nat.le_trans (Nat.le_trans (Nat.le_trans (Nat.le_trans Z0 E22.1) (Keep.of_wr W24).1) E25.1) (Keep.of_wr W27).1) E28.1) (Keep.of_wr W30).1) E31.1) (Keep.of_wr W33).1) (Keep.of_wr W35).1) E36.1) E37.1) (Keep.of_wr W39).1) (Keep.of_wr W41).1) K42.1) E43.1) E44.1) (Keep.of_wr W46).1) (Keep.of_wr W48).1) (Exa.wr W48 (Exa.wr W46 (Exa.ext E44 E_b43))) (Fld.other W48 (Fld.other W46 (Fld.ext E44 F_value_b43) (Or.inl (Nat.ne_of_lt (Nat.lt_of_lt_of_le E_b43.lt (Nat.le_of_eq g44.symm))))) (Or.inl (Nat.ne_of_lt (Nat.lt_of_lt_of_le E_b43.lt (Nat.le_of_eq g44.symm))))) (Fld.other W48 (Fld.other W46 (Fld.ext E44 F_coder_b43) (Or.inl (Nat.ne_of_lt (Nat.lt_of_lt_of_le E_b43.lt (Nat.le_of_eq g44.symm))))) (Or.inl (Nat.ne_of_lt (Nat.lt_of_lt_of_le E_b43.lt (Nat.le_of_eq g44.symm))))) g_b43 V48 (Sta.ext ((Old.wr (Old.wr (Old.ext (Old.ext (Old.keep (Old.wr (Old.wr (Old.ext (Old.ext (Old.wr (Old.wr (Old.ext (Old.wr (Old.ext (Old.wr (Old.ext (Old.wr (Old.ext O0 E22) W24 g_b22) E25) W27 g_b25) E28) W30 g_b28) E31) W33 g_b31) W35 g_b31) E36) E37) W39 g_b37) W41 g_b37) K42 (allS g_b36 all0)) E43) E44) W46 g_b44) W48 g_b44)).2 S_CS) hcs (own_c255 chs) (own_c255 ((chs.toUInt32 >>> ((8 : Int32) &&& 31).toUInt32).toInt32))) hZ (hw _ (List.mem_of_getElem? (i := 14) rfl)) (hw _ (List.mem_of_getElem? (i := 10) rfl)) (by decide) (by decide)) (g := (mkF m 127 #[.val (.int sel), .val (.long ts), .second, .val (.long sq0), .second, .val (.long sq), .second, .val (.int da), .val (.int chs), .val (.ref aty), .val (.ref b22), .val (.ref b25), .val (.ref b28), .val (.ref b31), .val (.int ((chs &&& (255 : Int32)).toUInt32.toUInt16.toUInt32.toInt32)), .val (.int ((((chs.toUInt32 >>> ((8 : Int32) &&& 31).toUInt32).toInt32) &&& (255 : Int32)).toUInt32.toUInt16.toUInt32.toInt32)), .val (.ref b36), .unset, .unset, .unset] [(.ref b44), (.ref b43), (.ref b43)])) rfl (by rw [hml]; rfl) (Steps.refl _) (a := b43) (argsL := [(.ref b44)]) (rest := [(.ref b43)]) (lenOf pd_6 rfl) rfl (by show 2 * 0 + _ ≤ _; exact Nat.le_of_eq rfl) (hb hby at_127) (fun _ _ => ⟨rfl, e48, (by decide : ((((((((((0 + 0) + 1) + 1) + 1) + 1) + 1) + 1) + 1) + 1) + 1) + 1 ≤ _), (by decide : ((((((((((0 + 0) + 1) + 1) + 1) + 2) + 4) + 2) + 2) + 4) + 2) + 2 ≤ _)⟩)
  dsimp only [Pt.U, Pt.locs, Pt.cells, Pt.slots] at X49 l49 y49 z49 st49 hQ49
  subst l49 y49 z49
  obtain ⟨rfl, N49q, K49, Fc49, t49, kb49, zt49, Fv49, V49⟩ := hQ49
  have N49 := Fr.app N48 N49q
  have KK49 : Keep h0 T49.heap [] := Keep.trans K48 K49 (allS (Or.inr sz_b43) all0)
  have sz_t49 : h0.size ≤ t49 := Nat.le_trans K48.1 zt49
  have g_t49 : n0 ≤ t49 := Nat.le_trans Z0 sz_t49
  refine own_by (T' := T49) (g' := (mkF m 130 #[.val (.int sel), .val (.long ts), .second, .val (.long sq0), .second, .val (.long sq), .second, .val (.int da), .val (.int chs), .val (.ref aty), .val (.ref b22), .val (.ref b25), .val (.ref b28), .val (.ref b31), .val (.int ((chs &&& (255 : Int32)).toUInt32.toUInt16.toUInt32.toInt32)), .val (.int ((((chs.toUInt32 >>> ((8 : Int32) &&& 31).toUInt32).toInt32) &&& (255 : Int32)).toUInt32.toUInt16.toUInt32.toInt32)), .val (.ref b36), .unset, .unset, .unset] [(.ref b43)])) (fun _ k => st49.trans k) ?_
  refine own_by (T' := T49) (g' := (mkF m 132 #[.val (.int sel), .val (.long ts), .second, .val (.long sq0), .second, .val (.long sq), .second, .val (.int da), .val (.int chs), .val (.ref aty), .val (.ref b22), .val (.ref b25), .val (.ref b28), .val (.ref b31), .val (.int ((chs &&& (255 : Int32)).toUInt32.toUInt16.toUInt32.toInt32)), .val (.int ((((chs.toUInt32 >>> ((8 : Int32) &&& 31).toUInt32).toInt32) &&& (255 : Int32)).toUInt32.toUInt16.toUInt32.toInt32)), .val (.ref b36), .val (.ref b43), .unset, .unset] [])) (fun _ k => XS.astore X49.here hx rfl (hb hby at_130) rfl rfl (l' := #[.val (.int sel), .val (.long ts), .second, .val (.long sq0), .second, .val (.long sq), .second, .val (.int da), .val (.int chs), .val (.ref aty), .val (.ref b22), .val (.ref b25), .val (.ref b28), .val (.ref b31), .val (.int ((chs &&& (255 : Int32)).toUInt32.toUInt16.toUInt32.toInt32)), .val (.int ((((chs.toUInt32 >>> ((8 : Int32) &&& 31).toUInt32).toInt32) &&& (255 : Int32)).toUInt32.toUInt16.toUInt32.toInt32)), .val (.ref b36), .val (.ref b43), .unset, .unset]) rfl k) ?_
  obtain ⟨T50, h50, X50, e50, E50, A50, D50, -, st50⟩ := newO X49 hx hZ hown (hw _ (List.mem_of_getElem? (i := 37) rfl)) (hw _ (List.mem_of_getElem? (i := 38) rfl)) (hw _ (List.mem_of_getElem? (i := 39) rfl)) rfl (g := (mkF m 132 #[.val (.int sel), .val (.long ts), .second, .val (.long sq0), .second, .val (.long sq), .second, .val (.int da), .val (.int chs), .val (.ref aty), .val (.ref b22), .val (.ref b25), .val (.ref b28), .val (.ref b31), .val (.int ((chs &&& (255 : Int32)).toUInt32.toUInt16.toUInt32.toInt32)), .val (.int ((((chs.toUInt32 >>> ((8 : Int32) &&& 31).toUInt32).toInt32) &&& (255 : Int32)).toUInt32.toUInt16.toUInt32.toInt32)), .val (.ref b36), .val (.ref b43), .unset, .unset] [])) rfl (hb hby at_132) (by decide) (by decide)
  obtain ⟨b50, g50⟩ : ∃ z, z = T49.heap.size := ⟨_, rfl⟩
  rw [← g50] at A50 D50 st50
  have E_b50 : Exa Z h50 b50 "com/example/millrace/millrace/Cell" := A50
  have F_type_b50 : Fld Z h50 b50 "com/example/millrace/millrace/Cell" "type" "Lcom/example/millrace/millrace/Cell$Type;" .null := D50 (Or.inr (hw _ (List.mem_of_getElem? (i := 45) rfl))) (ty := (.object "com/example/millrace/millrace/Cell$Type")) (by decide)
  have F_row_b50 : Fld Z h50 b50 "com/example/millrace/millrace/Cell" "row" "[B" .null := D50 (Or.inr (hw _ (List.mem_of_getElem? (i := 47) rfl))) (ty := (.array .byte)) (by decide)
  have F_family_b50 : Fld Z h50 b50 "com/example/millrace/millrace/Cell" "family" "Ljava/lang/String;" .null := D50 (Or.inr (hw _ (List.mem_of_getElem? (i := 49) rfl))) (ty := (.object "java/lang/String")) (by decide)
  have F_qualifier_b50 : Fld Z h50 b50 "com/example/millrace/millrace/Cell" "qualifier" "[B" .null := D50 (Or.inr (hw _ (List.mem_of_getElem? (i := 51) rfl))) (ty := (.array .byte)) (by decide)
  have F_timestamp_b50 : Fld Z h50 b50 "com/example/millrace/millrace/Cell" "timestamp" "J" (.long (0 : Int64)) := D50 (Or.inr (hw _ (List.mem_of_getElem? (i := 53) rfl))) (ty := .long) (by decide)
  have F_value_b50 : Fld Z h50 b50 "com/example/millrace/millrace/Cell" "value" "[B" .null := D50 (Or.inr (hw _ (List.mem_of_getElem? (i := 55) rfl))) (ty := (.array .byte)) (by decide)
  have F_sequenceId_b50 : Fld Z h50 b50 "com/example/millrace/millrace/Cell" "sequenceId" "J" (.long (0 : Int64)) := D50 (Or.inr (hw _ (List.mem_of_getElem? (i := 57) rfl))) (ty := .long) (by decide)
  have g_b50 : n0 ≤ b50 := Nat.le_trans (Nat.le_trans (Nat.le_trans (Nat.le_trans (Nat.le_trans (Nat.le_trans (Nat.le_trans (Nat.le_trans (Nat.le_trans (Nat.le_trans (Nat.le_trans (Nat.le_trans (Nat.le_trans (Nat.le_trans (Nat.le_trans (Nat.le_trans (Nat.le_trans (Nat.le_trans (Nat.le_trans (Nat.le_trans Z0 E22.1) (Keep.of_wr W24).1) E25.1) (Keep.of_wr W27).1) E28.1) (Keep.of_wr W30).1) E31.1) (Keep.of_wr W33).1) (Keep.of_wr W35).1) E36.1) E37.1) (Keep.of_wr W39).1) (Keep.of_wr W41).1) K42.1) E43.1) E44.1) (Keep.of_wr W46).1) (Keep.of_wr W48).1) K49.1) (Nat.le_of_eq g50.symm)
  have sz_b50 : h0.size ≤ b50 := Nat.le_trans KK49.1 (Nat.le_of_eq g50.symm)
  have K50 : Keep h0 h50 [] := Keep.ext KK49 E50
  refine own_by (T' := T50) (g' := (mkF m 135 #[.val (.int sel), .val (.long ts), .second, .val (.long sq0), .second, .val (.long sq), .second, .val (.int da), .val (.int chs), .val (.ref aty), .val (.ref b22), .val (.ref b25), .val (.ref b28), .val (.ref b31), .val (.int ((chs &&& (255 : Int32)).toUInt32.toUInt16.toUInt32.toInt32)), .val (.int ((((chs.toUInt32 >>> ((8 : Int32) &&& 31).toUInt32).toInt32) &&& (255 : Int32)).toUInt32.toUInt16.toUInt32.toInt32)), .val (.ref b36), .val (.ref b43), .unset, .unset] [(.ref b50)])) (fun _ k => st50 _ k) ?_
  refine own_by (T' := T50) (g' := (mkF m 136 #[.val (.int sel), .val (.long ts), .second, .val (.long sq0), .second, .val (.long sq), .second, .val (.int da), .val (.int chs), .val (.ref aty), .val (.ref b22), .val (.ref b25), .val (.ref b28), .val (.ref b31), .val (.int ((chs &&& (255 : Int32)).toUInt32.toUInt16.toUInt32.toInt32)), .val (.int ((((chs.toUInt32 >>> ((8 : Int32) &&& 31).toUInt32).toInt32) &&& (255 : Int32)).toUInt32.toUInt16.toUInt32.toInt32)), .val (.ref b36), .val (.ref b43), .unset, .unset] [(.ref b50), (.ref b50)])) (fun _ k => XS.dup X50.here hx rfl (hb hby at_135) rfl rfl k) ?_
  refine own_by (T' := T50) (g' := (mkF m 138 #[.val (.int sel), .val (.long ts), .second, .val (.long sq0), .second, .val (.long sq), .second, .val (.int da), .val (.int chs), .val (.ref aty), .val (.ref b22), .val (.ref b25), .val (.ref b28), .val (.ref b31), .val (.int ((chs &&& (255 : Int32)).toUInt32.toUInt16.toUInt32.toInt32)), .val (.int ((((chs.toUInt32 >>> ((8 : Int32) &&& 31).toUInt32).toInt32) &&& (255 : Int32)).toUInt32.toUInt16.toUInt32.toInt32)), .val (.ref b36), .val (.ref b43), .unset, .unset] [(.ref aty), (.ref b50), (.ref b50)])) (fun _ k => XS.aload X50.here hx rfl (hb hby at_136) rfl rfl k) ?_
  refine own_by (T' := T50) (g' := (mkF m 140 #[.val (.int sel), .val (.long ts), .second, .val (.long sq0), .second, .val (.long sq), .second, .val (.int da), .val (.int chs), .val (.ref aty), .val (.ref b22), .val (.ref b25), .val (.ref b28), .val (.ref b31), .val (.int ((chs &&& (255 : Int32)).toUInt32.toUInt16.toUInt32.toInt32)), .val (.int ((((chs.toUInt32 >>> ((8 : Int32) &&& 31).toUInt32).toInt32) &&& (255 : Int32)).toUInt32.toUInt16.toUInt32.toInt32)), .val (.ref b36), .val (.ref b43), .unset, .unset] [(.ref b22), (.ref aty), (.ref b50), (.ref b50)])) (fun _ k => XS.aload X50.here hx rfl (hb hby at_138) rfl rfl k) ?_
  refine own_by (T' := T50) (g' := (mkF m 142 #[.val (.int sel), .val (.long ts), .second, .val (.long sq0), .second, .val (.long sq), .second, .val (.int da), .val (.int chs), .val (.ref aty), .val (.ref b22), .val (.ref b25), .val (.ref b28), .val (.ref b31), .val (.int ((chs &&& (255 : Int32)).toUInt32.toUInt16.toUInt32.toInt32)), .val (.int ((((chs.toUInt32 >>> ((8 : Int32) &&& 31).toUInt32).toInt32) &&& (255 : Int32)).toUInt32.toUInt16.toUInt32.toInt32)), .val (.ref b36), .val (.ref b43), .unset, .unset] [(.ref b36), (.ref b22), (.ref aty), (.ref b50), (.ref b50)])) (fun _ k => XS.aload X50.here hx rfl (hb hby at_140) rfl rfl k) ?_
  refine own_by (T' := T50) (g' := (mkF m 144 #[.val (.int sel), .val (.long ts), .second, .val (.long sq0), .second, .val (.long sq), .second, .val (.int da), .val (.int chs), .val (.ref aty), .val (.ref b22), .val (.ref b25), .val (.ref b28), .val (.ref b31), .val (.int ((chs &&& (255 : Int32)).toUInt32.toUInt16.toUInt32.toInt32)), .val (.int ((((chs.toUInt32 >>> ((8 : Int32) &&& 31).toUInt32).toInt32) &&& (255 : Int32)).toUInt32.toUInt16.toUInt32.toInt32)), .val (.ref b36), .val (.ref b43), .unset, .unset] [(.ref b28), (.ref b36), (.ref b22), (.ref aty), (.ref b50), (.ref b50)])) (fun _ k => XS.aload X50.here hx rfl (hb hby at_142) rfl rfl k) ?_
  refine own_by (T' := T50) (g' := (mkF m 145 #[.val (.int sel), .val (.long ts), .second, .val (.long sq0), .second, .val (.long sq), .second, .val (.int da), .val (.int chs), .val (.ref aty), .val (.ref b22), .val (.ref b25), .val (.ref b28), .val (.ref b31), .val (.int ((chs &&& (255 : Int32)).toUInt32.toUInt16.toUInt32.toInt32)), .val (.int ((((chs.toUInt32 >>> ((8 : Int32) &&& 31).toUInt32).toInt32) &&& (255 : Int32)).toUInt32.toUInt16.toUInt32.toInt32)), .val (.ref b36), .val (.ref b43), .unset, .unset] [(.long ts), (.ref b28), (.ref b36), (.ref b22), (.ref aty), (.ref b50), (.ref b50)])) (fun _ k => XS.lloadN X50.here hx rfl (hb hby at_144) rfl k) ?_
  refine own_by (T' := T50) (g' := (mkF m 147 #[.val (.int sel), .val (.long ts), .second, .val (.long sq0), .second, .val (.long sq), .second, .val (.int da), .val (.int chs), .val (.ref aty), .val (.ref b22), .val (.ref b25), .val (.ref b28), .val (.ref b31), .val (.int ((chs &&& (255 : Int32)).toUInt32.toUInt16.toUInt32.toInt32)), .val (.int ((((chs.toUInt32 >>> ((8 : Int32) &&& 31).toUInt32).toInt32) &&& (255 : Int32)).toUInt32.toUInt16.toUInt32.toInt32)), .val (.ref b36), .val (.ref b43), .unset, .unset] [(.ref b31), (.long ts), (.ref b28), (.ref b36), (.ref b22), (.ref aty), (.ref b50), (.ref b50)])) (fun _ k => XS.aload X50.here hx rfl (hb hby at_145) rfl rfl k) ?_
  refine own_by (T' := T50) (g' := (mkF m 148 #[.val (.int sel), .val (.long ts), .second, .val (.long sq0), .second, .val (.long sq), .second, .val (.int da), .val (.int chs), .val (.ref aty), .val (.ref b22), .val (.ref b25), .val (.ref b28), .val (.ref b31), .val (.int ((chs &&& (255 : Int32)).toUInt32.toUInt16.toUInt32.toInt32)), .val (.int ((((chs.toUInt32 >>> ((8 : Int32) &&& 31).toUInt32).toInt32) &&& (255 : Int32)).toUInt32.toUInt16.toUInt32.toInt32)), .val (.ref b36), .val (.ref b43), .unset, .unset] [(.long sq0), (.ref b31), (.long ts), (.ref b28), (.ref b36), (.ref b22), (.ref aty), (.ref b50), (.ref b50)])) (fun _ k => XS.lloadN X50.here hx rfl (hb hby at_147) rfl k) ?_
  obtain ⟨_, _, ⟨T51, L51, k51, n51⟩, -, X51, ⟨Lc51, hQ51, l51, y51, z51⟩, st51⟩ := X50.specialBack hx (y := (⟨"com/example/millrace/millrace/Cell", "<init>", "(Lcom/example/millrace/millrace/Cell$Type;[BLjava/lang/String;[BJ[BJ)V"⟩ : MethodName)) rfl hown (mvT hZ (hw _ (List.mem_of_getElem? (i := 40) rfl))) (mvT hZ (hw _ (List.mem_of_getElem? (i := 41) rfl))) (mvT hZ (hw _ (List.mem_of_getElem? (i := 42) rfl))) (by decide) (backOf (W := 1) (rm8 l Z a0 hw [] b50 aty b22 b36 b28 ts b31 sq0  h50 n0 (Nat.le_trans (Nat.le_trans (Nat.le_trans (Nat.le_trans (Nat.le_trans (Nat.le_trans (Nat.le_trans (Nat.le_trans (Nat.le_trans (Nat.le_trans (Nat.le_trans (Nat.le_trans (Nat.le_trans (Nat.le_trans (Nat.le_trans (Nat.le_trans (Nat.le_trans (Nat.le_trans (Nat.le_trans (Nat.le_trans Z0 E22.1) (Keep.of_wr W24).1) E25.1) (Keep.of_wr W27).1) E28.1) (Keep.of_wr W30).1) E31.1) (Keep.of_wr W33).1) (Keep.of_wr W35).1) E36.1) E37.1) (Keep.of_wr W39).1) (Keep.of_wr W41).1) K42.1) E43.1) E44.1) (Keep.of_wr W46).1) (Keep.of_wr W48).1) K49.1) E50.1) E_b50 F_type_b50 F_row_b50 F_family_b50 F_qualifier_b50 F_timestamp_b50 F_value_b50 F_sequenceId_b50 g_b50) hZ (hw _ (List.mem_of_getElem? (i := 42) rfl)) (hw _ (List.mem_of_getElem? (i := 39) rfl)) (by decide) (by decide)) (g := (mkF m 148 #[.val (.int sel), .val (.long ts), .second, .val (.long sq0), .second, .val (.long sq), .second, .val (.int da), .val (.int chs), .val (.ref aty), .val (.ref b22), .val (.ref b25), .val (.ref b28), .val (.ref b31), .val (.int ((chs &&& (255 : Int32)).toUInt32.toUInt16.toUInt32.toInt32)), .val (.int ((((chs.toUInt32 >>> ((8 : Int32) &&& 31).toUInt32).toInt32) &&& (255 : Int32)).toUInt32.toUInt16.toUInt32.toInt32)), .val (.ref b36), .val (.ref b43), .unset, .unset] [(.long sq0), (.ref b31), (.long ts), (.ref b28), (.ref b36), (.ref b22), (.ref aty), (.ref b50), (.ref b50)])) rfl (by rw [hml]; rfl) (Steps.refl _) (a := b50) (argsL := [(.ref aty), (.ref b22), (.ref b36), (.ref b28), (.long ts), (.ref b31), (.long sq0)]) (rest := [(.ref b50)]) (lenOf pd_4 rfl) rfl (by show 2 * 0 + _ ≤ _; exact Nat.le_of_eq rfl) (hb hby at_148) (fun _ _ => ⟨rfl, e50, (by decide : ((((((((((((0 + 0) + 1) + 1) + 1) + 1) + 1) + 1) + 1) + 1) + 1) + 1) + 1) + 0 ≤ _), (by decide : ((((((((((((0 + 0) + 1) + 1) + 1) + 2) + 4) + 2) + 2) + 4) + 2) + 2) + 7) + 0 ≤ _)⟩)
  dsimp only [Pt.U, Pt.locs, Pt.cells, Pt.slots] at X51 l51 y51 z51 st51 hQ51
  subst l51 y51 z51
  obtain ⟨rfl, N51q, K51, F0_51, F1_51, F2_51, F3_51, F4_51, F5_51, F6_51⟩ := hQ51
  have N51 := Fr.app N49 N51q
  have KK51 : Keep h0 T51.heap [] := Keep.trans K50 K51 (allS (Or.inr sz_b50) all0)
  refine own_by (T' := T51) (g' := (mkF m 151 #[.val (.int sel), .val (.long ts), .second, .val (.long sq0), .second, .val (.long sq), .second, .val (.int da), .val (.int chs), .val (.ref aty), .val (.ref b22), .val (.ref b25), .val (.ref b28), .val (.ref b31), .val (.int ((chs &&& (255 : Int32)).toUInt32.toUInt16.toUInt32.toInt32)), .val (.int ((((chs.toUInt32 >>> ((8 : Int32) &&& 31).toUInt32).toInt32) &&& (255 : Int32)).toUInt32.toUInt16.toUInt32.toInt32)), .val (.ref b36), .val (.ref b43), .unset, .unset] [(.ref b50)])) (fun _ k => st51.trans k) ?_
  refine own_by (T' := T51) (g' := (mkF m 153 #[.val (.int sel), .val (.long ts), .second, .val (.long sq0), .second, .val (.long sq), .second, .val (.int da), .val (.int chs), .val (.ref aty), .val (.ref b22), .val (.ref b25), .val (.ref b28), .val (.ref b31), .val (.int ((chs &&& (255 : Int32)).toUInt32.toUInt16.toUInt32.toInt32)), .val (.int ((((chs.toUInt32 >>> ((8 : Int32) &&& 31).toUInt32).toInt32) &&& (255 : Int32)).toUInt32.toUInt16.toUInt32.toInt32)), .val (.ref b36), .val (.ref b43), .val (.ref b50), .unset] [])) (fun _ k => XS.astore X51.here hx rfl (hb hby at_151) rfl rfl (l' := #[.val (.int sel), .val (.long ts), .second, .val (.long sq0), .second, .val (.long sq), .second, .val (.int da), .val (.int chs), .val (.ref aty), .val (.ref b22), .val (.ref b25), .val (.ref b28), .val (.ref b31), .val (.int ((chs &&& (255 : Int32)).toUInt32.toUInt16.toUInt32.toInt32)), .val (.int ((((chs.toUInt32 >>> ((8 : Int32) &&& 31).toUInt32).toInt32) &&& (255 : Int32)).toUInt32.toUInt16.toUInt32.toInt32)), .val (.ref b36), .val (.ref b43), .val (.ref b50), .unset]) rfl k) ?_
  refine own_by (T' := T51) (g' := (mkF m 155 #[.val (.int sel), .val (.long ts), .second, .val (.long sq0), .second, .val (.long sq), .second, .val (.int da), .val (.int chs), .val (.ref aty), .val (.ref b22), .val (.ref b25), .val (.ref b28), .val (.ref b31), .val (.int ((chs &&& (255 : Int32)).toUInt32.toUInt16.toUInt32.toInt32)), .val (.int ((((chs.toUInt32 >>> ((8 : Int32) &&& 31).toUInt32).toInt32) &&& (255 : Int32)).toUInt32.toUInt16.toUInt32.toInt32)), .val (.ref b36), .val (.ref b43), .val (.ref b50), .unset] [(.ref b50)])) (fun _ k => XS.aload X51.here hx rfl (hb hby at_153) rfl rfl k) ?_
  refine own_by (T' := T51) (g' := (mkF m 157 #[.val (.int sel), .val (.long ts), .second, .val (.long sq0), .second, .val (.long sq), .second, .val (.int da), .val (.int chs), .val (.ref aty), .val (.ref b22), .val (.ref b25), .val (.ref b28), .val (.ref b31), .val (.int ((chs &&& (255 : Int32)).toUInt32.toUInt16.toUInt32.toInt32)), .val (.int ((((chs.toUInt32 >>> ((8 : Int32) &&& 31).toUInt32).toInt32) &&& (255 : Int32)).toUInt32.toUInt16.toUInt32.toInt32)), .val (.ref b36), .val (.ref b43), .val (.ref b50), .unset] [(.long sq), (.ref b50)])) (fun _ k => XS.lload X51.here hx rfl (hb hby at_155) rfl k) ?_
  refine own_by (T' := T51) (g' := (mkF m 159 #[.val (.int sel), .val (.long ts), .second, .val (.long sq0), .second, .val (.long sq), .second, .val (.int da), .val (.int chs), .val (.ref aty), .val (.ref b22), .val (.ref b25), .val (.ref b28), .val (.ref b31), .val (.int ((chs &&& (255 : Int32)).toUInt32.toUInt16.toUInt32.toInt32)), .val (.int ((((chs.toUInt32 >>> ((8 : Int32) &&& 31).toUInt32).toInt32) &&& (255 : Int32)).toUInt32.toUInt16.toUInt32.toInt32)), .val (.ref b36), .val (.ref b43), .val (.ref b50), .unset] [(.ref b25), (.long sq), (.ref b50)])) (fun _ k => XS.aload X51.here hx rfl (hb hby at_157) rfl rfl k) ?_
  refine own_by (T' := T51) (g' := (mkF m 161 #[.val (.int sel), .val (.long ts), .second, .val (.long sq0), .second, .val (.long sq), .second, .val (.int da), .val (.int chs), .val (.ref aty), .val (.ref b22), .val (.ref b25), .val (.ref b28), .val (.ref b31), .val (.int ((chs &&& (255 : Int32)).toUInt32.toUInt16.toUInt32.toInt32)), .val (.int ((((chs.toUInt32 >>> ((8 : Int32) &&& 31).toUInt32).toInt32) &&& (255 : Int32)).toUInt32.toUInt16.toUInt32.toInt32)), .val (.ref b36), .val (.ref b43), .val (.ref b50), .unset] [(.ref b43), (.ref b25), (.long sq), (.ref b50)])) (fun _ k => XS.aload X51.here hx rfl (hb hby at_159) rfl rfl k) ?_
  obtain ⟨cq52, kq52, q52a, q52b, q52c⟩ := isOf hZ rfl (Exa.keep E_b50 K51)
  obtain ⟨_, _, ⟨T52, L52, k52, n52⟩, -, X52, ⟨Lc52, hQ52, l52, y52, z52⟩, st52⟩ := X51.virtualBack hx (y := (⟨"com/example/millrace/millrace/Cell", "withSequenceId", "(J[BLjava/lang/String;)Lcom/example/millrace/millrace/Cell;"⟩ : MethodName)) (z := (⟨"com/example/millrace/millrace/Cell", "withSequenceId", "(J[BLjava/lang/String;)Lcom/example/millrace/millrace/Cell;"⟩ : MethodName)) hown (mvT hZ (hw _ (List.mem_of_getElem? (i := 58) rfl))) (mvT hZ (hw _ (List.mem_of_getElem? (i := 59) rfl))) (notFace_of_selects (args := #[]) (mvT hZ (hw _ (List.mem_of_getElem? (i := 61) rfl)))) (mvT hZ (hw _ (List.mem_of_getElem? (i := 61) rfl))) (mvT hZ (hw _ (List.mem_of_getElem? (i := 60) rfl))) (by decide) (backOf (W := 0) (rm9 l Z a0 hw [] b50 sq b25 b43 aty b22 b36 b28 ts b31 sq0 T51.heap n0 (Nat.le_trans (Nat.le_trans (Nat.le_trans (Nat.le_trans (Nat.le_trans (Nat.le_trans (Nat.le_trans (Nat.le_trans (Nat.le_trans (Nat.le_trans (Nat.le_trans (Nat.le_trans (Nat.le_trans (Nat.le_trans (Nat.le_trans (Nat.le_trans (Nat.le_trans (Nat.le_trans (Nat.le_trans (Nat.le_trans (Nat.le_trans Z0 E22.1) (Keep.of_wr W24).1) E25.1) (Keep.of_wr W27).1) E28.1) (Keep.of_wr W30).1) E31.1) (Keep.of_wr W33).1) (Keep.of_wr W35).1) E36.1) E37.1) (Keep.of_wr W39).1) (Keep.of_wr W41).1) K42.1) E43.1) E44.1) (Keep.of_wr W46).1) (Keep.of_wr W48).1) K49.1) E50.1) K51.1) F0_51 F1_51 F2_51 F3_51 F4_51 F5_51 F6_51) hZ (hw _ (List.mem_of_getElem? (i := 62) rfl)) (hw _ (List.mem_of_getElem? (i := 39) rfl)) (by decide) (by decide)) q52a q52c (g := (mkF m 161 #[.val (.int sel), .val (.long ts), .second, .val (.long sq0), .second, .val (.long sq), .second, .val (.int da), .val (.int chs), .val (.ref aty), .val (.ref b22), .val (.ref b25), .val (.ref b28), .val (.ref b31), .val (.int ((chs &&& (255 : Int32)).toUInt32.toUInt16.toUInt32.toInt32)), .val (.int ((((chs.toUInt32 >>> ((8 : Int32) &&& 31).toUInt32).toInt32) &&& (255 : Int32)).toUInt32.toUInt16.toUInt32.toInt32)), .val (.ref b36), .val (.ref b43), .val (.ref b50), .unset] [(.ref b43), (.ref b25), (.long sq), (.ref b50)])) rfl (by rw [hml]; rfl) (Steps.refl _) (argsL := [(.long sq), (.ref b25), (.ref b43)]) (rest := []) (lenOf pd_7 rfl) rfl (by show 2 * 0 + _ ≤ _; exact Nat.le_of_eq rfl) (hb hby at_161) (fun _ _ => ⟨rfl, rfl, (by decide : (((((((((((((0 + 0) + 1) + 1) + 1) + 1) + 1) + 1) + 1) + 1) + 1) + 1) + 1) + 0) + 1 ≤ _), (by decide : (((((((((((((0 + 0) + 1) + 1) + 1) + 2) + 4) + 2) + 2) + 4) + 2) + 2) + 7) + 0) + 7 ≤ _)⟩)
  dsimp only [Pt.U, Pt.locs, Pt.cells, Pt.slots] at X52 l52 y52 z52 st52 hQ52
  subst l52 y52 z52
  obtain ⟨t52, rfl, N52q, K52, zt52, E52, F0_52, F1_52, F2_52, F3_52, F4_52, F5_52, F6_52⟩ := hQ52
  have N52 := Fr.app N51 N52q
  have KK52 : Keep h0 T52.heap [] := Keep.trans KK51 K52 all0
  refine own_by (T' := T52) (g' := (mkF m 164 #[.val (.int sel), .val (.long ts), .second, .val (.long sq0), .second, .val (.long sq), .second, .val (.int da), .val (.int chs), .val (.ref aty), .val (.ref b22), .val (.ref b25), .val (.ref b28), .val (.ref b31), .val (.int ((chs &&& (255 : Int32)).toUInt32.toUInt16.toUInt32.toInt32)), .val (.int ((((chs.toUInt32 >>> ((8 : Int32) &&& 31).toUInt32).toInt32) &&& (255 : Int32)).toUInt32.toUInt16.toUInt32.toInt32)), .val (.ref b36), .val (.ref b43), .val (.ref b50), .unset] [(.ref t52)])) (fun _ k => st52.trans k) ?_
  refine own_by (T' := T52) (g' := (mkF m 166 #[.val (.int sel), .val (.long ts), .second, .val (.long sq0), .second, .val (.long sq), .second, .val (.int da), .val (.int chs), .val (.ref aty), .val (.ref b22), .val (.ref b25), .val (.ref b28), .val (.ref b31), .val (.int ((chs &&& (255 : Int32)).toUInt32.toUInt16.toUInt32.toInt32)), .val (.int ((((chs.toUInt32 >>> ((8 : Int32) &&& 31).toUInt32).toInt32) &&& (255 : Int32)).toUInt32.toUInt16.toUInt32.toInt32)), .val (.ref b36), .val (.ref b43), .val (.ref b50), .val (.ref t52)] [])) (fun _ k => XS.astore X52.here hx rfl (hb hby at_164) rfl rfl (l' := #[.val (.int sel), .val (.long ts), .second, .val (.long sq0), .second, .val (.long sq), .second, .val (.int da), .val (.int chs), .val (.ref aty), .val (.ref b22), .val (.ref b25), .val (.ref b28), .val (.ref b31), .val (.int ((chs &&& (255 : Int32)).toUInt32.toUInt16.toUInt32.toInt32)), .val (.int ((((chs.toUInt32 >>> ((8 : Int32) &&& 31).toUInt32).toInt32) &&& (255 : Int32)).toUInt32.toUInt16.toUInt32.toInt32)), .val (.ref b36), .val (.ref b43), .val (.ref b50), .val (.ref t52)]) rfl k) ?_
  refine own_by (T' := T52) (g' := (mkF m 168 #[.val (.int sel), .val (.long ts), .second, .val (.long sq0), .second, .val (.long sq), .second, .val (.int da), .val (.int chs), .val (.ref aty), .val (.ref b22), .val (.ref b25), .val (.ref b28), .val (.ref b31), .val (.int ((chs &&& (255 : Int32)).toUInt32.toUInt16.toUInt32.toInt32)), .val (.int ((((chs.toUInt32 >>> ((8 : Int32) &&& 31).toUInt32).toInt32) &&& (255 : Int32)).toUInt32.toUInt16.toUInt32.toInt32)), .val (.ref b36), .val (.ref b43), .val (.ref b50), .val (.ref t52)] [(.ref t52)])) (fun _ k => XS.aload X52.here hx rfl (hb hby at_166) rfl rfl k) ?_
  obtain ⟨cq53, kq53, q53a, q53b, q53c⟩ := isOf hZ rfl E52
  obtain ⟨_, _, ⟨T53, L53, k53, n53⟩, -, X53, ⟨Lc53, hQ53, l53, y53, z53⟩, st53⟩ := X52.virtualBack hx (y := (⟨"com/example/millrace/millrace/Cell", "type", "()Lcom/example/millrace/millrace/Cell$Type;"⟩ : MethodName)) (z := (⟨"com/example/millrace/millrace/Cell", "type", "()Lcom/example/millrace/millrace/Cell$Type;"⟩ : MethodName)) hown (mvT hZ (hw _ (List.mem_of_getElem? (i := 65) rfl))) (mvT hZ (hw _ (List.mem_of_getElem? (i := 66) rfl))) (notFace_of_selects (args := #[]) (mvT hZ (hw _ (List.mem_of_getElem? (i := 68) rfl)))) (mvT hZ (hw _ (List.mem_of_getElem? (i := 68) rfl))) (mvT hZ (hw _ (List.mem_of_getElem? (i := 67) rfl))) (by decide) (backOf (W := 0) (get_type l Z a0 hw [] t52 aty T52.heap n0 (Nat.le_trans (Nat.le_trans (Nat.le_trans (Nat.le_trans (Nat.le_trans (Nat.le_trans (Nat.le_trans (Nat.le_trans (Nat.le_trans (Nat.le_trans (Nat.le_trans (Nat.le_trans (Nat.le_trans (Nat.le_trans (Nat.le_trans (Nat.le_trans (Nat.le_trans (Nat.le_trans (Nat.le_trans (Nat.le_trans (Nat.le_trans (Nat.le_trans Z0 E22.1) (Keep.of_wr W24).1) E25.1) (Keep.of_wr W27).1) E28.1) (Keep.of_wr W30).1) E31.1) (Keep.of_wr W33).1) (Keep.of_wr W35).1) E36.1) E37.1) (Keep.of_wr W39).1) (Keep.of_wr W41).1) K42.1) E43.1) E44.1) (Keep.of_wr W46).1) (Keep.of_wr W48).1) K49.1) E50.1) K51.1) K52.1) F0_52) hZ (hw _ (List.mem_of_getElem? (i := 69) rfl)) (hw _ (List.mem_of_getElem? (i := 39) rfl)) (by decide) (by decide)) q53a q53c (g := (mkF m 168 #[.val (.int sel), .val (.long ts), .second, .val (.long sq0), .second, .val (.long sq), .second, .val (.int da), .val (.int chs), .val (.ref aty), .val (.ref b22), .val (.ref b25), .val (.ref b28), .val (.ref b31), .val (.int ((chs &&& (255 : Int32)).toUInt32.toUInt16.toUInt32.toInt32)), .val (.int ((((chs.toUInt32 >>> ((8 : Int32) &&& 31).toUInt32).toInt32) &&& (255 : Int32)).toUInt32.toUInt16.toUInt32.toInt32)), .val (.ref b36), .val (.ref b43), .val (.ref b50), .val (.ref t52)] [(.ref t52)])) rfl (by rw [hml]; rfl) (Steps.refl _) (argsL := []) (rest := []) (lenOf pd_8 rfl) rfl (by show 2 * 0 + _ ≤ _; exact Nat.le_of_eq rfl) (hb hby at_168) (fun _ _ => ⟨rfl, rfl, (by decide : ((((((((((((((0 + 0) + 1) + 1) + 1) + 1) + 1) + 1) + 1) + 1) + 1) + 1) + 1) + 0) + 1) + 0 ≤ _), (by decide : ((((((((((((((0 + 0) + 1) + 1) + 1) + 2) + 4) + 2) + 2) + 4) + 2) + 2) + 7) + 0) + 7) + 0 ≤ _)⟩)
  dsimp only [Pt.U, Pt.locs, Pt.cells, Pt.slots] at X53 l53 y53 z53 st53 hQ53
  subst l53 y53 z53
  obtain ⟨rfl, N53q, e53⟩ := hQ53
  have N53 := Fr.app N52 N53q
  refine own_by (T' := T53) (g' := (mkF m 171 #[.val (.int sel), .val (.long ts), .second, .val (.long sq0), .second, .val (.long sq), .second, .val (.int da), .val (.int chs), .val (.ref aty), .val (.ref b22), .val (.ref b25), .val (.ref b28), .val (.ref b31), .val (.int ((chs &&& (255 : Int32)).toUInt32.toUInt16.toUInt32.toInt32)), .val (.int ((((chs.toUInt32 >>> ((8 : Int32) &&& 31).toUInt32).toInt32) &&& (255 : Int32)).toUInt32.toUInt16.toUInt32.toInt32)), .val (.ref b36), .val (.ref b43), .val (.ref b50), .val (.ref t52)] [(.ref aty)])) (fun _ k => st53.trans k) ?_
  refine own_by (T' := T53) (g' := (mkF m 173 #[.val (.int sel), .val (.long ts), .second, .val (.long sq0), .second, .val (.long sq), .second, .val (.int da), .val (.int chs), .val (.ref aty), .val (.ref b22), .val (.ref b25), .val (.ref b28), .val (.ref b31), .val (.int ((chs &&& (255 : Int32)).toUInt32.toUInt16.toUInt32.toInt32)), .val (.int ((((chs.toUInt32 >>> ((8 : Int32) &&& 31).toUInt32).toInt32) &&& (255 : Int32)).toUInt32.toUInt16.toUInt32.toInt32)), .val (.ref b36), .val (.ref b43), .val (.ref b50), .val (.ref t52)] [(.ref aty), (.ref aty)])) (fun _ k => XS.aload X53.here hx rfl (hb hby at_171) rfl rfl k) ?_
  refine own_by (T' := T53) (g' := (mkF m 176 #[.val (.int sel), .val (.long ts), .second, .val (.long sq0), .second, .val (.long sq), .second, .val (.int da), .val (.int chs), .val (.ref aty), .val (.ref b22), .val (.ref b25), .val (.ref b28), .val (.ref b31), .val (.int ((chs &&& (255 : Int32)).toUInt32.toUInt16.toUInt32.toInt32)), .val (.int ((((chs.toUInt32 >>> ((8 : Int32) &&& 31).toUInt32).toInt32) &&& (255 : Int32)).toUInt32.toUInt16.toUInt32.toInt32)), .val (.ref b36), .val (.ref b43), .val (.ref b50), .val (.ref t52)] [])) (fun _ k => Jvm.RoadKit.acmp (g := (mkF m 173 #[.val (.int sel), .val (.long ts), .second, .val (.long sq0), .second, .val (.long sq), .second, .val (.int da), .val (.int chs), .val (.ref aty), .val (.ref b22), .val (.ref b25), .val (.ref b28), .val (.ref b31), .val (.int ((chs &&& (255 : Int32)).toUInt32.toUInt16.toUInt32.toInt32)), .val (.int ((((chs.toUInt32 >>> ((8 : Int32) &&& 31).toUInt32).toInt32) &&& (255 : Int32)).toUInt32.toUInt16.toUInt32.toInt32)), .val (.ref b36), .val (.ref b43), .val (.ref b50), .val (.ref t52)] [(.ref aty), (.ref aty)])) X53 hx rfl rfl rfl (pc0 := 173) (pc' := 176) (same := true) rfl (hb hby at_173) rfl (decide_eq_true rfl) (by decide) (by decide) k) ?_
  refine own_by (T' := T53) (g' := (mkF m 178 #[.val (.int sel), .val (.long ts), .second, .val (.long sq0), .second, .val (.long sq), .second, .val (.int da), .val (.int chs), .val (.ref aty), .val (.ref b22), .val (.ref b25), .val (.ref b28), .val (.ref b31), .val (.int ((chs &&& (255 : Int32)).toUInt32.toUInt16.toUInt32.toInt32)), .val (.int ((((chs.toUInt32 >>> ((8 : Int32) &&& 31).toUInt32).toInt32) &&& (255 : Int32)).toUInt32.toUInt16.toUInt32.toInt32)), .val (.ref b36), .val (.ref b43), .val (.ref b50), .val (.ref t52)] [(.ref t52)])) (fun _ k => XS.aload X53.here hx rfl (hb hby at_176) rfl rfl k) ?_
  obtain ⟨cq54, kq54, q54a, q54b, q54c⟩ := isOf hZ e53 E52
  obtain ⟨_, _, ⟨T54, L54, k54, n54⟩, -, X54, ⟨Lc54, hQ54, l54, y54, z54⟩, st54⟩ := X53.virtualBack hx (y := (⟨"com/example/millrace/millrace/Cell", "rowBytes", "()[B"⟩ : MethodName)) (z := (⟨"com/example/millrace/millrace/Cell", "rowBytes", "()[B"⟩ : MethodName)) hown (mvT hZ (hw _ (List.mem_of_getElem? (i := 70) rfl))) (mvT hZ (hw _ (List.mem_of_getElem? (i := 71) rfl))) (notFace_of_selects (args := #[]) (mvT hZ (hw _ (List.mem_of_getElem? (i := 73) rfl)))) (mvT hZ (hw _ (List.mem_of_getElem? (i := 73) rfl))) (mvT hZ (hw _ (List.mem_of_getElem? (i := 72) rfl))) (by decide) (backOf (W := 0) (get_rowBytes l Z a0 hw [] t52 b25 T52.heap n0 (Nat.le_trans (Nat.le_trans (Nat.le_trans (Nat.le_trans (Nat.le_trans (Nat.le_trans (Nat.le_trans (Nat.le_trans (Nat.le_trans (Nat.le_trans (Nat.le_trans (Nat.le_trans (Nat.le_trans (Nat.le_trans (Nat.le_trans (Nat.le_trans (Nat.le_trans (Nat.le_trans (Nat.le_trans (Nat.le_trans (Nat.le_trans (Nat.le_trans Z0 E22.1) (Keep.of_wr W24).1) E25.1) (Keep.of_wr W27).1) E28.1) (Keep.of_wr W30).1) E31.1) (Keep.of_wr W33).1) (Keep.of_wr W35).1) E36.1) E37.1) (Keep.of_wr W39).1) (Keep.of_wr W41).1) K42.1) E43.1) E44.1) (Keep.of_wr W46).1) (Keep.of_wr W48).1) K49.1) E50.1) K51.1) K52.1) F1_52) hZ (hw _ (List.mem_of_getElem? (i := 74) rfl)) (hw _ (List.mem_of_getElem? (i := 39) rfl)) (by decide) (by decide)) q54a q54c (g := (mkF m 178 #[.val (.int sel), .val (.long ts), .second, .val (.long sq0), .second, .val (.long sq), .second, .val (.int da), .val (.int chs), .val (.ref aty), .val (.ref b22), .val (.ref b25), .val (.ref b28), .val (.ref b31), .val (.int ((chs &&& (255 : Int32)).toUInt32.toUInt16.toUInt32.toInt32)), .val (.int ((((chs.toUInt32 >>> ((8 : Int32) &&& 31).toUInt32).toInt32) &&& (255 : Int32)).toUInt32.toUInt16.toUInt32.toInt32)), .val (.ref b36), .val (.ref b43), .val (.ref b50), .val (.ref t52)] [(.ref t52)])) rfl (by rw [hml]; rfl) (Steps.refl _) (argsL := []) (rest := []) (lenOf pd_9 rfl) rfl (by show 2 * 0 + _ ≤ _; exact Nat.le_of_eq rfl) (hb hby at_178) (fun _ _ => ⟨rfl, e53, (by decide : (((((((((((((((0 + 0) + 1) + 1) + 1) + 1) + 1) + 1) + 1) + 1) + 1) + 1) + 1) + 0) + 1) + 0) + 0 ≤ _), (by decide : (((((((((((((((0 + 0) + 1) + 1) + 1) + 2) + 4) + 2) + 2) + 4) + 2) + 2) + 7) + 0) + 7) + 0) + 0 ≤ _)⟩)
  dsimp only [Pt.U, Pt.locs, Pt.cells, Pt.slots] at X54 l54 y54 z54 st54 hQ54
  subst l54 y54 z54
  obtain ⟨rfl, N54q, e54⟩ := hQ54
  have N54 := Fr.app N53 N54q
  refine own_by (T' := T54) (g' := (mkF m 181 #[.val (.int sel), .val (.long ts), .second, .val (.long sq0), .second, .val (.long sq), .second, .val (.int da), .val (.int chs), .val (.ref aty), .val (.ref b22), .val (.ref b25), .val (.ref b28), .val (.ref b31), .val (.int ((chs &&& (255 : Int32)).toUInt32.toUInt16.toUInt32.toInt32)), .val (.int ((((chs.toUInt32 >>> ((8 : Int32) &&& 31).toUInt32).toInt32) &&& (255 : Int32)).toUInt32.toUInt16.toUInt32.toInt32)), .val (.ref b36), .val (.ref b43), .val (.ref b50), .val (.ref t52)] [(.ref b25)])) (fun _ k => st54.trans k) ?_
  refine own_by (T' := T54) (g' := (mkF m 183 #[.val (.int sel), .val (.long ts), .second, .val (.long sq0), .second, .val (.long sq), .second, .val (.int da), .val (.int chs), .val (.ref aty), .val (.ref b22), .val (.ref b25), .val (.ref b28), .val (.ref b31), .val (.int ((chs &&& (255 : Int32)).toUInt32.toUInt16.toUInt32.toInt32)), .val (.int ((((chs.toUInt32 >>> ((8 : Int32) &&& 31).toUInt32).toInt32) &&& (255 : Int32)).toUInt32.toUInt16.toUInt32.toInt32)), .val (.ref b36), .val (.ref b43), .val (.ref b50), .val (.ref t52)] [(.ref b25), (.ref b25)])) (fun _ k => XS.aload X54.here hx rfl (hb hby at_181) rfl rfl k) ?_
  refine own_by (T' := T54) (g' := (mkF m 186 #[.val (.int sel), .val (.long ts), .second, .val (.long sq0), .second, .val (.long sq), .second, .val (.int da), .val (.int chs), .val (.ref aty), .val (.ref b22), .val (.ref b25), .val (.ref b28), .val (.ref b31), .val (.int ((chs &&& (255 : Int32)).toUInt32.toUInt16.toUInt32.toInt32)), .val (.int ((((chs.toUInt32 >>> ((8 : Int32) &&& 31).toUInt32).toInt32) &&& (255 : Int32)).toUInt32.toUInt16.toUInt32.toInt32)), .val (.ref b36), .val (.ref b43), .val (.ref b50), .val (.ref t52)] [])) (fun _ k => Jvm.RoadKit.acmp (g := (mkF m 183 #[.val (.int sel), .val (.long ts), .second, .val (.long sq0), .second, .val (.long sq), .second, .val (.int da), .val (.int chs), .val (.ref aty), .val (.ref b22), .val (.ref b25), .val (.ref b28), .val (.ref b31), .val (.int ((chs &&& (255 : Int32)).toUInt32.toUInt16.toUInt32.toInt32)), .val (.int ((((chs.toUInt32 >>> ((8 : Int32) &&& 31).toUInt32).toInt32) &&& (255 : Int32)).toUInt32.toUInt16.toUInt32.toInt32)), .val (.ref b36), .val (.ref b43), .val (.ref b50), .val (.ref t52)] [(.ref b25), (.ref b25)])) X54 hx rfl rfl rfl (pc0 := 183) (pc' := 186) (same := true) rfl (hb hby at_183) rfl (decide_eq_true rfl) (by decide) (by decide) k) ?_
  refine own_by (T' := T54) (g' := (mkF m 188 #[.val (.int sel), .val (.long ts), .second, .val (.long sq0), .second, .val (.long sq), .second, .val (.int da), .val (.int chs), .val (.ref aty), .val (.ref b22), .val (.ref b25), .val (.ref b28), .val (.ref b31), .val (.int ((chs &&& (255 : Int32)).toUInt32.toUInt16.toUInt32.toInt32)), .val (.int ((((chs.toUInt32 >>> ((8 : Int32) &&& 31).toUInt32).toInt32) &&& (255 : Int32)).toUInt32.toUInt16.toUInt32.toInt32)), .val (.ref b36), .val (.ref b43), .val (.ref b50), .val (.ref t52)] [(.ref t52)])) (fun _ k => XS.aload X54.here hx rfl (hb hby at_186) rfl rfl k) ?_
  obtain ⟨cq55, kq55, q55a, q55b, q55c⟩ := isOf hZ e54 E52
  obtain ⟨_, _, ⟨T55, L55, k55, n55⟩, -, X55, ⟨Lc55, hQ55, l55, y55, z55⟩, st55⟩ := X54.virtualBack hx (y := (⟨"com/example/millrace/millrace/Cell", "family", "()Ljava/lang/String;"⟩ : MethodName)) (z := (⟨"com/example/millrace/millrace/Cell", "family", "()Ljava/lang/String;"⟩ : MethodName)) hown (mvT hZ (hw _ (List.mem_of_getElem? (i := 75) rfl))) (mvT hZ (hw _ (List.mem_of_getElem? (i := 76) rfl))) (notFace_of_selects (args := #[]) (mvT hZ (hw _ (List.mem_of_getElem? (i := 78) rfl)))) (mvT hZ (hw _ (List.mem_of_getElem? (i := 78) rfl))) (mvT hZ (hw _ (List.mem_of_getElem? (i := 77) rfl))) (by decide) (backOf (W := 0) (get_family l Z a0 hw [] t52 b43 T52.heap n0 (Nat.le_trans (Nat.le_trans (Nat.le_trans (Nat.le_trans (Nat.le_trans (Nat.le_trans (Nat.le_trans (Nat.le_trans (Nat.le_trans (Nat.le_trans (Nat.le_trans (Nat.le_trans (Nat.le_trans (Nat.le_trans (Nat.le_trans (Nat.le_trans (Nat.le_trans (Nat.le_trans (Nat.le_trans (Nat.le_trans (Nat.le_trans (Nat.le_trans Z0 E22.1) (Keep.of_wr W24).1) E25.1) (Keep.of_wr W27).1) E28.1) (Keep.of_wr W30).1) E31.1) (Keep.of_wr W33).1) (Keep.of_wr W35).1) E36.1) E37.1) (Keep.of_wr W39).1) (Keep.of_wr W41).1) K42.1) E43.1) E44.1) (Keep.of_wr W46).1) (Keep.of_wr W48).1) K49.1) E50.1) K51.1) K52.1) F2_52) hZ (hw _ (List.mem_of_getElem? (i := 79) rfl)) (hw _ (List.mem_of_getElem? (i := 39) rfl)) (by decide) (by decide)) q55a q55c (g := (mkF m 188 #[.val (.int sel), .val (.long ts), .second, .val (.long sq0), .second, .val (.long sq), .second, .val (.int da), .val (.int chs), .val (.ref aty), .val (.ref b22), .val (.ref b25), .val (.ref b28), .val (.ref b31), .val (.int ((chs &&& (255 : Int32)).toUInt32.toUInt16.toUInt32.toInt32)), .val (.int ((((chs.toUInt32 >>> ((8 : Int32) &&& 31).toUInt32).toInt32) &&& (255 : Int32)).toUInt32.toUInt16.toUInt32.toInt32)), .val (.ref b36), .val (.ref b43), .val (.ref b50), .val (.ref t52)] [(.ref t52)])) rfl (by rw [hml]; rfl) (Steps.refl _) (argsL := []) (rest := []) (lenOf pd_10 rfl) rfl (by show 2 * 0 + _ ≤ _; exact Nat.le_of_eq rfl) (hb hby at_188) (fun _ _ => ⟨rfl, e54, (by decide : ((((((((((((((((0 + 0) + 1) + 1) + 1) + 1) + 1) + 1) + 1) + 1) + 1) + 1) + 1) + 0) + 1) + 0) + 0) + 0 ≤ _), (by decide : ((((((((((((((((0 + 0) + 1) + 1) + 1) + 2) + 4) + 2) + 2) + 4) + 2) + 2) + 7) + 0) + 7) + 0) + 0) + 0 ≤ _)⟩)
  dsimp only [Pt.U, Pt.locs, Pt.cells, Pt.slots] at X55 l55 y55 z55 st55 hQ55
  subst l55 y55 z55
  obtain ⟨rfl, N55q, e55⟩ := hQ55
  have N55 := Fr.app N54 N55q
  refine own_by (T' := T55) (g' := (mkF m 191 #[.val (.int sel), .val (.long ts), .second, .val (.long sq0), .second, .val (.long sq), .second, .val (.int da), .val (.int chs), .val (.ref aty), .val (.ref b22), .val (.ref b25), .val (.ref b28), .val (.ref b31), .val (.int ((chs &&& (255 : Int32)).toUInt32.toUInt16.toUInt32.toInt32)), .val (.int ((((chs.toUInt32 >>> ((8 : Int32) &&& 31).toUInt32).toInt32) &&& (255 : Int32)).toUInt32.toUInt16.toUInt32.toInt32)), .val (.ref b36), .val (.ref b43), .val (.ref b50), .val (.ref t52)] [(.ref b43)])) (fun _ k => st55.trans k) ?_
  refine own_by (T' := T55) (g' := (mkF m 193 #[.val (.int sel), .val (.long ts), .second, .val (.long sq0), .second, .val (.long sq), .second, .val (.int da), .val (.int chs), .val (.ref aty), .val (.ref b22), .val (.ref b25), .val (.ref b28), .val (.ref b31), .val (.int ((chs &&& (255 : Int32)).toUInt32.toUInt16.toUInt32.toInt32)), .val (.int ((((chs.toUInt32 >>> ((8 : Int32) &&& 31).toUInt32).toInt32) &&& (255 : Int32)).toUInt32.toUInt16.toUInt32.toInt32)), .val (.ref b36), .val (.ref b43), .val (.ref b50), .val (.ref t52)] [(.ref b43), (.ref b43)])) (fun _ k => XS.aload X55.here hx rfl (hb hby at_191) rfl rfl k) ?_
  refine own_by (T' := T55) (g' := (mkF m 196 #[.val (.int sel), .val (.long ts), .second, .val (.long sq0), .second, .val (.long sq), .second, .val (.int da), .val (.int chs), .val (.ref aty), .val (.ref b22), .val (.ref b25), .val (.ref b28), .val (.ref b31), .val (.int ((chs &&& (255 : Int32)).toUInt32.toUInt16.toUInt32.toInt32)), .val (.int ((((chs.toUInt32 >>> ((8 : Int32) &&& 31).toUInt32).toInt32) &&& (255 : Int32)).toUInt32.toUInt16.toUInt32.toInt32)), .val (.ref b36), .val (.ref b43), .val (.ref b50), .val (.ref t52)] [])) (fun _ k => Jvm.RoadKit.acmp (g := (mkF m 193 #[.val (.int sel), .val (.long ts), .second, .val (.long sq0), .second, .val (.long sq), .second, .val (.int da), .val (.int chs), .val (.ref aty), .val (.ref b22), .val (.ref b25), .val (.ref b28), .val (.ref b31), .val (.int ((chs &&& (255 : Int32)).toUInt32.toUInt16.toUInt32.toInt32)), .val (.int ((((chs.toUInt32 >>> ((8 : Int32) &&& 31).toUInt32).toInt32) &&& (255 : Int32)).toUInt32.toUInt16.toUInt32.toInt32)), .val (.ref b36), .val (.ref b43), .val (.ref b50), .val (.ref t52)] [(.ref b43), (.ref b43)])) X55 hx rfl rfl rfl (pc0 := 193) (pc' := 196) (same := true) rfl (hb hby at_193) rfl (decide_eq_true rfl) (by decide) (by decide) k) ?_
  refine own_by (T' := T55) (g' := (mkF m 198 #[.val (.int sel), .val (.long ts), .second, .val (.long sq0), .second, .val (.long sq), .second, .val (.int da), .val (.int chs), .val (.ref aty), .val (.ref b22), .val (.ref b25), .val (.ref b28), .val (.ref b31), .val (.int ((chs &&& (255 : Int32)).toUInt32.toUInt16.toUInt32.toInt32)), .val (.int ((((chs.toUInt32 >>> ((8 : Int32) &&& 31).toUInt32).toInt32) &&& (255 : Int32)).toUInt32.toUInt16.toUInt32.toInt32)), .val (.ref b36), .val (.ref b43), .val (.ref b50), .val (.ref t52)] [(.ref t52)])) (fun _ k => XS.aload X55.here hx rfl (hb hby at_196) rfl rfl k) ?_
  obtain ⟨cq56, kq56, q56a, q56b, q56c⟩ := isOf hZ e55 E52
  obtain ⟨_, _, ⟨T56, L56, k56, n56⟩, -, X56, ⟨Lc56, hQ56, l56, y56, z56⟩, st56⟩ := X55.virtualBack hx (y := (⟨"com/example/millrace/millrace/Cell", "qualifierBytes", "()[B"⟩ : MethodName)) (z := (⟨"com/example/millrace/millrace/Cell", "qualifierBytes", "()[B"⟩ : MethodName)) hown (mvT hZ (hw _ (List.mem_of_getElem? (i := 80) rfl))) (mvT hZ (hw _ (List.mem_of_getElem? (i := 81) rfl))) (notFace_of_selects (args := #[]) (mvT hZ (hw _ (List.mem_of_getElem? (i := 83) rfl)))) (mvT hZ (hw _ (List.mem_of_getElem? (i := 83) rfl))) (mvT hZ (hw _ (List.mem_of_getElem? (i := 82) rfl))) (by decide) (backOf (W := 0) (get_qualifierBytes l Z a0 hw [] t52 b28 T52.heap n0 (Nat.le_trans (Nat.le_trans (Nat.le_trans (Nat.le_trans (Nat.le_trans (Nat.le_trans (Nat.le_trans (Nat.le_trans (Nat.le_trans (Nat.le_trans (Nat.le_trans (Nat.le_trans (Nat.le_trans (Nat.le_trans (Nat.le_trans (Nat.le_trans (Nat.le_trans (Nat.le_trans (Nat.le_trans (Nat.le_trans (Nat.le_trans (Nat.le_trans Z0 E22.1) (Keep.of_wr W24).1) E25.1) (Keep.of_wr W27).1) E28.1) (Keep.of_wr W30).1) E31.1) (Keep.of_wr W33).1) (Keep.of_wr W35).1) E36.1) E37.1) (Keep.of_wr W39).1) (Keep.of_wr W41).1) K42.1) E43.1) E44.1) (Keep.of_wr W46).1) (Keep.of_wr W48).1) K49.1) E50.1) K51.1) K52.1) F3_52) hZ (hw _ (List.mem_of_getElem? (i := 84) rfl)) (hw _ (List.mem_of_getElem? (i := 39) rfl)) (by decide) (by decide)) q56a q56c (g := (mkF m 198 #[.val (.int sel), .val (.long ts), .second, .val (.long sq0), .second, .val (.long sq), .second, .val (.int da), .val (.int chs), .val (.ref aty), .val (.ref b22), .val (.ref b25), .val (.ref b28), .val (.ref b31), .val (.int ((chs &&& (255 : Int32)).toUInt32.toUInt16.toUInt32.toInt32)), .val (.int ((((chs.toUInt32 >>> ((8 : Int32) &&& 31).toUInt32).toInt32) &&& (255 : Int32)).toUInt32.toUInt16.toUInt32.toInt32)), .val (.ref b36), .val (.ref b43), .val (.ref b50), .val (.ref t52)] [(.ref t52)])) rfl (by rw [hml]; rfl) (Steps.refl _) (argsL := []) (rest := []) (lenOf pd_9 rfl) rfl (by show 2 * 0 + _ ≤ _; exact Nat.le_of_eq rfl) (hb hby at_198) (fun _ _ => ⟨rfl, e55, (by decide : (((((((((((((((((0 + 0) + 1) + 1) + 1) + 1) + 1) + 1) + 1) + 1) + 1) + 1) + 1) + 0) + 1) + 0) + 0) + 0) + 0 ≤ _), (by decide : (((((((((((((((((0 + 0) + 1) + 1) + 1) + 2) + 4) + 2) + 2) + 4) + 2) + 2) + 7) + 0) + 7) + 0) + 0) + 0) + 0 ≤ _)⟩)
  dsimp only [Pt.U, Pt.locs, Pt.cells, Pt.slots] at X56 l56 y56 z56 st56 hQ56
  subst l56 y56 z56
  obtain ⟨rfl, N56q, e56⟩ := hQ56
  have N56 := Fr.app N55 N56q
  refine own_by (T' := T56) (g' := (mkF m 201 #[.val (.int sel), .val (.long ts), .second, .val (.long sq0), .second, .val (.long sq), .second, .val (.int da), .val (.int chs), .val (.ref aty), .val (.ref b22), .val (.ref b25), .val (.ref b28), .val (.ref b31), .val (.int ((chs &&& (255 : Int32)).toUInt32.toUInt16.toUInt32.toInt32)), .val (.int ((((chs.toUInt32 >>> ((8 : Int32) &&& 31).toUInt32).toInt32) &&& (255 : Int32)).toUInt32.toUInt16.toUInt32.toInt32)), .val (.ref b36), .val (.ref b43), .val (.ref b50), .val (.ref t52)] [(.ref b28)])) (fun _ k => st56.trans k) ?_
  refine own_by (T' := T56) (g' := (mkF m 203 #[.val (.int sel), .val (.long ts), .second, .val (.long sq0), .second, .val (.long sq), .second, .val (.int da), .val (.int chs), .val (.ref aty), .val (.ref b22), .val (.ref b25), .val (.ref b28), .val (.ref b31), .val (.int ((chs &&& (255 : Int32)).toUInt32.toUInt16.toUInt32.toInt32)), .val (.int ((((chs.toUInt32 >>> ((8 : Int32) &&& 31).toUInt32).toInt32) &&& (255 : Int32)).toUInt32.toUInt16.toUInt32.toInt32)), .val (.ref b36), .val (.ref b43), .val (.ref b50), .val (.ref t52)] [(.ref b28), (.ref b28)])) (fun _ k => XS.aload X56.here hx rfl (hb hby at_201) rfl rfl k) ?_
  refine own_by (T' := T56) (g' := (mkF m 206 #[.val (.int sel), .val (.long ts), .second, .val (.long sq0), .second, .val (.long sq), .second, .val (.int da), .val (.int chs), .val (.ref aty), .val (.ref b22), .val (.ref b25), .val (.ref b28), .val (.ref b31), .val (.int ((chs &&& (255 : Int32)).toUInt32.toUInt16.toUInt32.toInt32)), .val (.int ((((chs.toUInt32 >>> ((8 : Int32) &&& 31).toUInt32).toInt32) &&& (255 : Int32)).toUInt32.toUInt16.toUInt32.toInt32)), .val (.ref b36), .val (.ref b43), .val (.ref b50), .val (.ref t52)] [])) (fun _ k => Jvm.RoadKit.acmp (g := (mkF m 203 #[.val (.int sel), .val (.long ts), .second, .val (.long sq0), .second, .val (.long sq), .second, .val (.int da), .val (.int chs), .val (.ref aty), .val (.ref b22), .val (.ref b25), .val (.ref b28), .val (.ref b31), .val (.int ((chs &&& (255 : Int32)).toUInt32.toUInt16.toUInt32.toInt32)), .val (.int ((((chs.toUInt32 >>> ((8 : Int32) &&& 31).toUInt32).toInt32) &&& (255 : Int32)).toUInt32.toUInt16.toUInt32.toInt32)), .val (.ref b36), .val (.ref b43), .val (.ref b50), .val (.ref t52)] [(.ref b28), (.ref b28)])) X56 hx rfl rfl rfl (pc0 := 203) (pc' := 206) (same := true) rfl (hb hby at_203) rfl (decide_eq_true rfl) (by decide) (by decide) k) ?_
  refine own_by (T' := T56) (g' := (mkF m 208 #[.val (.int sel), .val (.long ts), .second, .val (.long sq0), .second, .val (.long sq), .second, .val (.int da), .val (.int chs), .val (.ref aty), .val (.ref b22), .val (.ref b25), .val (.ref b28), .val (.ref b31), .val (.int ((chs &&& (255 : Int32)).toUInt32.toUInt16.toUInt32.toInt32)), .val (.int ((((chs.toUInt32 >>> ((8 : Int32) &&& 31).toUInt32).toInt32) &&& (255 : Int32)).toUInt32.toUInt16.toUInt32.toInt32)), .val (.ref b36), .val (.ref b43), .val (.ref b50), .val (.ref t52)] [(.ref t52)])) (fun _ k => XS.aload X56.here hx rfl (hb hby at_206) rfl rfl k) ?_
  obtain ⟨cq57, kq57, q57a, q57b, q57c⟩ := isOf hZ e56 E52
  obtain ⟨_, _, ⟨T57, L57, k57, n57⟩, -, X57, ⟨Lc57, hQ57, l57, y57, z57⟩, st57⟩ := X56.virtualBack hx (y := (⟨"com/example/millrace/millrace/Cell", "timestamp", "()J"⟩ : MethodName)) (z := (⟨"com/example/millrace/millrace/Cell", "timestamp", "()J"⟩ : MethodName)) hown (mvT hZ (hw _ (List.mem_of_getElem? (i := 85) rfl))) (mvT hZ (hw _ (List.mem_of_getElem? (i := 86) rfl))) (notFace_of_selects (args := #[]) (mvT hZ (hw _ (List.mem_of_getElem? (i := 88) rfl)))) (mvT hZ (hw _ (List.mem_of_getElem? (i := 88) rfl))) (mvT hZ (hw _ (List.mem_of_getElem? (i := 87) rfl))) (by decide) (backOf (W := 0) (get_timestamp l Z a0 hw [] t52 ts T52.heap n0 (Nat.le_trans (Nat.le_trans (Nat.le_trans (Nat.le_trans (Nat.le_trans (Nat.le_trans (Nat.le_trans (Nat.le_trans (Nat.le_trans (Nat.le_trans (Nat.le_trans (Nat.le_trans (Nat.le_trans (Nat.le_trans (Nat.le_trans (Nat.le_trans (Nat.le_trans (Nat.le_trans (Nat.le_trans (Nat.le_trans (Nat.le_trans (Nat.le_trans Z0 E22.1) (Keep.of_wr W24).1) E25.1) (Keep.of_wr W27).1) E28.1) (Keep.of_wr W30).1) E31.1) (Keep.of_wr W33).1) (Keep.of_wr W35).1) E36.1) E37.1) (Keep.of_wr W39).1) (Keep.of_wr W41).1) K42.1) E43.1) E44.1) (Keep.of_wr W46).1) (Keep.of_wr W48).1) K49.1) E50.1) K51.1) K52.1) F4_52) hZ (hw _ (List.mem_of_getElem? (i := 89) rfl)) (hw _ (List.mem_of_getElem? (i := 39) rfl)) (by decide) (by decide)) q57a q57c (g := (mkF m 208 #[.val (.int sel), .val (.long ts), .second, .val (.long sq0), .second, .val (.long sq), .second, .val (.int da), .val (.int chs), .val (.ref aty), .val (.ref b22), .val (.ref b25), .val (.ref b28), .val (.ref b31), .val (.int ((chs &&& (255 : Int32)).toUInt32.toUInt16.toUInt32.toInt32)), .val (.int ((((chs.toUInt32 >>> ((8 : Int32) &&& 31).toUInt32).toInt32) &&& (255 : Int32)).toUInt32.toUInt16.toUInt32.toInt32)), .val (.ref b36), .val (.ref b43), .val (.ref b50), .val (.ref t52)] [(.ref t52)])) rfl (by rw [hml]; rfl) (Steps.refl _) (argsL := []) (rest := []) (lenOf pd_11 rfl) rfl (by show 2 * 0 + _ ≤ _; exact Nat.le_of_eq rfl) (hb hby at_208) (fun _ _ => ⟨rfl, e56, (by decide : ((((((((((((((((((0 + 0) + 1) + 1) + 1) + 1) + 1) + 1) + 1) + 1) + 1) + 1) + 1) + 0) + 1) + 0) + 0) + 0) + 0) + 0 ≤ _), (by decide : ((((((((((((((((((0 + 0) + 1) + 1) + 1) + 2) + 4) + 2) + 2) + 4) + 2) + 2) + 7) + 0) + 7) + 0) + 0) + 0) + 0) + 0 ≤ _)⟩)
  dsimp only [Pt.U, Pt.locs, Pt.cells, Pt.slots] at X57 l57 y57 z57 st57 hQ57
  subst l57 y57 z57
  obtain ⟨rfl, N57q, e57⟩ := hQ57
  have N57 := Fr.app N56 N57q
  refine own_by (T' := T57) (g' := (mkF m 211 #[.val (.int sel), .val (.long ts), .second, .val (.long sq0), .second, .val (.long sq), .second, .val (.int da), .val (.int chs), .val (.ref aty), .val (.ref b22), .val (.ref b25), .val (.ref b28), .val (.ref b31), .val (.int ((chs &&& (255 : Int32)).toUInt32.toUInt16.toUInt32.toInt32)), .val (.int ((((chs.toUInt32 >>> ((8 : Int32) &&& 31).toUInt32).toInt32) &&& (255 : Int32)).toUInt32.toUInt16.toUInt32.toInt32)), .val (.ref b36), .val (.ref b43), .val (.ref b50), .val (.ref t52)] [(.long ts)])) (fun _ k => st57.trans k) ?_
  refine own_by (T' := T57) (g' := (mkF m 212 #[.val (.int sel), .val (.long ts), .second, .val (.long sq0), .second, .val (.long sq), .second, .val (.int da), .val (.int chs), .val (.ref aty), .val (.ref b22), .val (.ref b25), .val (.ref b28), .val (.ref b31), .val (.int ((chs &&& (255 : Int32)).toUInt32.toUInt16.toUInt32.toInt32)), .val (.int ((((chs.toUInt32 >>> ((8 : Int32) &&& 31).toUInt32).toInt32) &&& (255 : Int32)).toUInt32.toUInt16.toUInt32.toInt32)), .val (.ref b36), .val (.ref b43), .val (.ref b50), .val (.ref t52)] [(.long ts), (.long ts)])) (fun _ k => XS.lloadN X57.here hx rfl (hb hby at_211) rfl k) ?_
  refine own_by (T' := T57) (g' := (mkF m 213 #[.val (.int sel), .val (.long ts), .second, .val (.long sq0), .second, .val (.long sq), .second, .val (.int da), .val (.int chs), .val (.ref aty), .val (.ref b22), .val (.ref b25), .val (.ref b28), .val (.ref b31), .val (.int ((chs &&& (255 : Int32)).toUInt32.toUInt16.toUInt32.toInt32)), .val (.int ((((chs.toUInt32 >>> ((8 : Int32) &&& 31).toUInt32).toInt32) &&& (255 : Int32)).toUInt32.toUInt16.toUInt32.toInt32)), .val (.ref b36), .val (.ref b43), .val (.ref b50), .val (.ref t52)] [(.int (lcmpW ts ts))])) (fun _ k => XS.lcmp X57.here hx rfl (hb hby at_212) rfl k) ?_
  refine own_by (T' := T57) (g' := (mkF m 216 #[.val (.int sel), .val (.long ts), .second, .val (.long sq0), .second, .val (.long sq), .second, .val (.int da), .val (.int chs), .val (.ref aty), .val (.ref b22), .val (.ref b25), .val (.ref b28), .val (.ref b31), .val (.int ((chs &&& (255 : Int32)).toUInt32.toUInt16.toUInt32.toInt32)), .val (.int ((((chs.toUInt32 >>> ((8 : Int32) &&& 31).toUInt32).toInt32) &&& (255 : Int32)).toUInt32.toUInt16.toUInt32.toInt32)), .val (.ref b36), .val (.ref b43), .val (.ref b50), .val (.ref t52)] [])) (fun _ k => XS.ifNo X57.here hx rfl (hb hby at_213) rfl ((if0 _ _).trans (teq ((lw_eq _ _).mpr rfl)).2) k) ?_
  refine own_by (T' := T57) (g' := (mkF m 218 #[.val (.int sel), .val (.long ts), .second, .val (.long sq0), .second, .val (.long sq), .second, .val (.int da), .val (.int chs), .val (.ref aty), .val (.ref b22), .val (.ref b25), .val (.ref b28), .val (.ref b31), .val (.int ((chs &&& (255 : Int32)).toUInt32.toUInt16.toUInt32.toInt32)), .val (.int ((((chs.toUInt32 >>> ((8 : Int32) &&& 31).toUInt32).toInt32) &&& (255 : Int32)).toUInt32.toUInt16.toUInt32.toInt32)), .val (.ref b36), .val (.ref b43), .val (.ref b50), .val (.ref t52)] [(.ref t52)])) (fun _ k => XS.aload X57.here hx rfl (hb hby at_216) rfl rfl k) ?_
  obtain ⟨cq58, kq58, q58a, q58b, q58c⟩ := isOf hZ e57 E52
  obtain ⟨_, _, ⟨T58, L58, k58, n58⟩, -, X58, ⟨Lc58, hQ58, l58, y58, z58⟩, st58⟩ := X57.virtualBack hx (y := (⟨"com/example/millrace/millrace/Cell", "valueBytes", "()[B"⟩ : MethodName)) (z := (⟨"com/example/millrace/millrace/Cell", "valueBytes", "()[B"⟩ : MethodName)) hown (mvT hZ (hw _ (List.mem_of_getElem? (i := 90) rfl))) (mvT hZ (hw _ (List.mem_of_getElem? (i := 91) rfl))) (notFace_of_selects (args := #[]) (mvT hZ (hw _ (List.mem_of_getElem? (i := 93) rfl)))) (mvT hZ (hw _ (List.mem_of_getElem? (i := 93) rfl))) (mvT hZ (hw _ (List.mem_of_getElem? (i := 92) rfl))) (by decide) (backOf (W := 0) (get_valueBytes l Z a0 hw [] t52 b31 T52.heap n0 (Nat.le_trans (Nat.le_trans (Nat.le_trans (Nat.le_trans (Nat.le_trans (Nat.le_trans (Nat.le_trans (Nat.le_trans (Nat.le_trans (Nat.le_trans (Nat.le_trans (Nat.le_trans (Nat.le_trans (Nat.le_trans (Nat.le_trans (Nat.le_trans (Nat.le_trans (Nat.le_trans (Nat.le_trans (Nat.le_trans (Nat.le_trans (Nat.le_trans Z0 E22.1) (Keep.of_wr W24).1) E25.1) (Keep.of_wr W27).1) E28.1) (Keep.of_wr W30).1) E31.1) (Keep.of_wr W33).1) (Keep.of_wr W35).1) E36.1) E37.1) (Keep.of_wr W39).1) (Keep.of_wr W41).1) K42.1) E43.1) E44.1) (Keep.of_wr W46).1) (Keep.of_wr W48).1) K49.1) E50.1) K51.1) K52.1) F5_52) hZ (hw _ (List.mem_of_getElem? (i := 94) rfl)) (hw _ (List.mem_of_getElem? (i := 39) rfl)) (by decide) (by decide)) q58a q58c (g := (mkF m 218 #[.val (.int sel), .val (.long ts), .second, .val (.long sq0), .second, .val (.long sq), .second, .val (.int da), .val (.int chs), .val (.ref aty), .val (.ref b22), .val (.ref b25), .val (.ref b28), .val (.ref b31), .val (.int ((chs &&& (255 : Int32)).toUInt32.toUInt16.toUInt32.toInt32)), .val (.int ((((chs.toUInt32 >>> ((8 : Int32) &&& 31).toUInt32).toInt32) &&& (255 : Int32)).toUInt32.toUInt16.toUInt32.toInt32)), .val (.ref b36), .val (.ref b43), .val (.ref b50), .val (.ref t52)] [(.ref t52)])) rfl (by rw [hml]; rfl) (Steps.refl _) (argsL := []) (rest := []) (lenOf pd_9 rfl) rfl (by show 2 * 0 + _ ≤ _; exact Nat.le_of_eq rfl) (hb hby at_218) (fun _ _ => ⟨rfl, e57, (by decide : (((((((((((((((((((0 + 0) + 1) + 1) + 1) + 1) + 1) + 1) + 1) + 1) + 1) + 1) + 1) + 0) + 1) + 0) + 0) + 0) + 0) + 0) + 0 ≤ _), (by decide : (((((((((((((((((((0 + 0) + 1) + 1) + 1) + 2) + 4) + 2) + 2) + 4) + 2) + 2) + 7) + 0) + 7) + 0) + 0) + 0) + 0) + 0) + 0 ≤ _)⟩)
  dsimp only [Pt.U, Pt.locs, Pt.cells, Pt.slots] at X58 l58 y58 z58 st58 hQ58
  subst l58 y58 z58
  obtain ⟨rfl, N58q, e58⟩ := hQ58
  have N58 := Fr.app N57 N58q
  refine own_by (T' := T58) (g' := (mkF m 221 #[.val (.int sel), .val (.long ts), .second, .val (.long sq0), .second, .val (.long sq), .second, .val (.int da), .val (.int chs), .val (.ref aty), .val (.ref b22), .val (.ref b25), .val (.ref b28), .val (.ref b31), .val (.int ((chs &&& (255 : Int32)).toUInt32.toUInt16.toUInt32.toInt32)), .val (.int ((((chs.toUInt32 >>> ((8 : Int32) &&& 31).toUInt32).toInt32) &&& (255 : Int32)).toUInt32.toUInt16.toUInt32.toInt32)), .val (.ref b36), .val (.ref b43), .val (.ref b50), .val (.ref t52)] [(.ref b31)])) (fun _ k => st58.trans k) ?_
  refine own_by (T' := T58) (g' := (mkF m 223 #[.val (.int sel), .val (.long ts), .second, .val (.long sq0), .second, .val (.long sq), .second, .val (.int da), .val (.int chs), .val (.ref aty), .val (.ref b22), .val (.ref b25), .val (.ref b28), .val (.ref b31), .val (.int ((chs &&& (255 : Int32)).toUInt32.toUInt16.toUInt32.toInt32)), .val (.int ((((chs.toUInt32 >>> ((8 : Int32) &&& 31).toUInt32).toInt32) &&& (255 : Int32)).toUInt32.toUInt16.toUInt32.toInt32)), .val (.ref b36), .val (.ref b43), .val (.ref b50), .val (.ref t52)] [(.ref b31), (.ref b31)])) (fun _ k => XS.aload X58.here hx rfl (hb hby at_221) rfl rfl k) ?_
  refine own_by (T' := T58) (g' := (mkF m 226 #[.val (.int sel), .val (.long ts), .second, .val (.long sq0), .second, .val (.long sq), .second, .val (.int da), .val (.int chs), .val (.ref aty), .val (.ref b22), .val (.ref b25), .val (.ref b28), .val (.ref b31), .val (.int ((chs &&& (255 : Int32)).toUInt32.toUInt16.toUInt32.toInt32)), .val (.int ((((chs.toUInt32 >>> ((8 : Int32) &&& 31).toUInt32).toInt32) &&& (255 : Int32)).toUInt32.toUInt16.toUInt32.toInt32)), .val (.ref b36), .val (.ref b43), .val (.ref b50), .val (.ref t52)] [])) (fun _ k => Jvm.RoadKit.acmp (g := (mkF m 223 #[.val (.int sel), .val (.long ts), .second, .val (.long sq0), .second, .val (.long sq), .second, .val (.int da), .val (.int chs), .val (.ref aty), .val (.ref b22), .val (.ref b25), .val (.ref b28), .val (.ref b31), .val (.int ((chs &&& (255 : Int32)).toUInt32.toUInt16.toUInt32.toInt32)), .val (.int ((((chs.toUInt32 >>> ((8 : Int32) &&& 31).toUInt32).toInt32) &&& (255 : Int32)).toUInt32.toUInt16.toUInt32.toInt32)), .val (.ref b36), .val (.ref b43), .val (.ref b50), .val (.ref t52)] [(.ref b31), (.ref b31)])) X58 hx rfl rfl rfl (pc0 := 223) (pc' := 226) (same := true) rfl (hb hby at_223) rfl (decide_eq_true rfl) (by decide) (by decide) k) ?_
  refine own_by (T' := T58) (g' := (mkF m 228 #[.val (.int sel), .val (.long ts), .second, .val (.long sq0), .second, .val (.long sq), .second, .val (.int da), .val (.int chs), .val (.ref aty), .val (.ref b22), .val (.ref b25), .val (.ref b28), .val (.ref b31), .val (.int ((chs &&& (255 : Int32)).toUInt32.toUInt16.toUInt32.toInt32)), .val (.int ((((chs.toUInt32 >>> ((8 : Int32) &&& 31).toUInt32).toInt32) &&& (255 : Int32)).toUInt32.toUInt16.toUInt32.toInt32)), .val (.ref b36), .val (.ref b43), .val (.ref b50), .val (.ref t52)] [(.ref t52)])) (fun _ k => XS.aload X58.here hx rfl (hb hby at_226) rfl rfl k) ?_
  obtain ⟨cq59, kq59, q59a, q59b, q59c⟩ := isOf hZ e58 E52
  obtain ⟨_, _, ⟨T59, L59, k59, n59⟩, -, X59, ⟨Lc59, hQ59, l59, y59, z59⟩, st59⟩ := X58.virtualBack hx (y := (⟨"com/example/millrace/millrace/Cell", "sequenceId", "()J"⟩ : MethodName)) (z := (⟨"com/example/millrace/millrace/Cell", "sequenceId", "()J"⟩ : MethodName)) hown (mvT hZ (hw _ (List.mem_of_getElem? (i := 95) rfl))) (mvT hZ (hw _ (List.mem_of_getElem? (i := 96) rfl))) (notFace_of_selects (args := #[]) (mvT hZ (hw _ (List.mem_of_getElem? (i := 98) rfl)))) (mvT hZ (hw _ (List.mem_of_getElem? (i := 98) rfl))) (mvT hZ (hw _ (List.mem_of_getElem? (i := 97) rfl))) (by decide) (backOf (W := 0) (get_sequenceId l Z a0 hw [] t52 sq T52.heap n0 (Nat.le_trans (Nat.le_trans (Nat.le_trans (Nat.le_trans (Nat.le_trans (Nat.le_trans (Nat.le_trans (Nat.le_trans (Nat.le_trans (Nat.le_trans (Nat.le_trans (Nat.le_trans (Nat.le_trans (Nat.le_trans (Nat.le_trans (Nat.le_trans (Nat.le_trans (Nat.le_trans (Nat.le_trans (Nat.le_trans (Nat.le_trans (Nat.le_trans Z0 E22.1) (Keep.of_wr W24).1) E25.1) (Keep.of_wr W27).1) E28.1) (Keep.of_wr W30).1) E31.1) (Keep.of_wr W33).1) (Keep.of_wr W35).1) E36.1) E37.1) (Keep.of_wr W39).1) (Keep.of_wr W41).1) K42.1) E43.1) E44.1) (Keep.of_wr W46).1) (Keep.of_wr W48).1) K49.1) E50.1) K51.1) K52.1) F6_52) hZ (hw _ (List.mem_of_getElem? (i := 99) rfl)) (hw _ (List.mem_of_getElem? (i := 39) rfl)) (by decide) (by decide)) q59a q59c (g := (mkF m 228 #[.val (.int sel), .val (.long ts), .second, .val (.long sq0), .second, .val (.long sq), .second, .val (.int da), .val (.int chs), .val (.ref aty), .val (.ref b22), .val (.ref b25), .val (.ref b28), .val (.ref b31), .val (.int ((chs &&& (255 : Int32)).toUInt32.toUInt16.toUInt32.toInt32)), .val (.int ((((chs.toUInt32 >>> ((8 : Int32) &&& 31).toUInt32).toInt32) &&& (255 : Int32)).toUInt32.toUInt16.toUInt32.toInt32)), .val (.ref b36), .val (.ref b43), .val (.ref b50), .val (.ref t52)] [(.ref t52)])) rfl (by rw [hml]; rfl) (Steps.refl _) (argsL := []) (rest := []) (lenOf pd_11 rfl) rfl (by show 2 * 0 + _ ≤ _; exact Nat.le_of_eq rfl) (hb hby at_228) (fun _ _ => ⟨rfl, e58, (by decide : ((((((((((((((((((((0 + 0) + 1) + 1) + 1) + 1) + 1) + 1) + 1) + 1) + 1) + 1) + 1) + 0) + 1) + 0) + 0) + 0) + 0) + 0) + 0) + 0 ≤ _), (by decide : ((((((((((((((((((((0 + 0) + 1) + 1) + 1) + 2) + 4) + 2) + 2) + 4) + 2) + 2) + 7) + 0) + 7) + 0) + 0) + 0) + 0) + 0) + 0) + 0 ≤ _)⟩)
  dsimp only [Pt.U, Pt.locs, Pt.cells, Pt.slots] at X59 l59 y59 z59 st59 hQ59
  subst l59 y59 z59
  obtain ⟨rfl, N59q, e59⟩ := hQ59
  have N59 := Fr.app N58 N59q
  refine own_by (T' := T59) (g' := (mkF m 231 #[.val (.int sel), .val (.long ts), .second, .val (.long sq0), .second, .val (.long sq), .second, .val (.int da), .val (.int chs), .val (.ref aty), .val (.ref b22), .val (.ref b25), .val (.ref b28), .val (.ref b31), .val (.int ((chs &&& (255 : Int32)).toUInt32.toUInt16.toUInt32.toInt32)), .val (.int ((((chs.toUInt32 >>> ((8 : Int32) &&& 31).toUInt32).toInt32) &&& (255 : Int32)).toUInt32.toUInt16.toUInt32.toInt32)), .val (.ref b36), .val (.ref b43), .val (.ref b50), .val (.ref t52)] [(.long sq)])) (fun _ k => st59.trans k) ?_
  refine own_by (T' := T59) (g' := (mkF m 233 #[.val (.int sel), .val (.long ts), .second, .val (.long sq0), .second, .val (.long sq), .second, .val (.int da), .val (.int chs), .val (.ref aty), .val (.ref b22), .val (.ref b25), .val (.ref b28), .val (.ref b31), .val (.int ((chs &&& (255 : Int32)).toUInt32.toUInt16.toUInt32.toInt32)), .val (.int ((((chs.toUInt32 >>> ((8 : Int32) &&& 31).toUInt32).toInt32) &&& (255 : Int32)).toUInt32.toUInt16.toUInt32.toInt32)), .val (.ref b36), .val (.ref b43), .val (.ref b50), .val (.ref t52)] [(.long sq), (.long sq)])) (fun _ k => XS.lload X59.here hx rfl (hb hby at_231) rfl k) ?_
  refine own_by (T' := T59) (g' := (mkF m 234 #[.val (.int sel), .val (.long ts), .second, .val (.long sq0), .second, .val (.long sq), .second, .val (.int da), .val (.int chs), .val (.ref aty), .val (.ref b22), .val (.ref b25), .val (.ref b28), .val (.ref b31), .val (.int ((chs &&& (255 : Int32)).toUInt32.toUInt16.toUInt32.toInt32)), .val (.int ((((chs.toUInt32 >>> ((8 : Int32) &&& 31).toUInt32).toInt32) &&& (255 : Int32)).toUInt32.toUInt16.toUInt32.toInt32)), .val (.ref b36), .val (.ref b43), .val (.ref b50), .val (.ref t52)] [(.int (lcmpW sq sq))])) (fun _ k => XS.lcmp X59.here hx rfl (hb hby at_233) rfl k) ?_
  refine own_by (T' := T59) (g' := (mkF m 237 #[.val (.int sel), .val (.long ts), .second, .val (.long sq0), .second, .val (.long sq), .second, .val (.int da), .val (.int chs), .val (.ref aty), .val (.ref b22), .val (.ref b25), .val (.ref b28), .val (.ref b31), .val (.int ((chs &&& (255 : Int32)).toUInt32.toUInt16.toUInt32.toInt32)), .val (.int ((((chs.toUInt32 >>> ((8 : Int32) &&& 31).toUInt32).toInt32) &&& (255 : Int32)).toUInt32.toUInt16.toUInt32.toInt32)), .val (.ref b36), .val (.ref b43), .val (.ref b50), .val (.ref t52)] [])) (fun _ k => XS.ifNo X59.here hx rfl (hb hby at_234) rfl ((if0 _ _).trans (teq ((lw_eq _ _).mpr rfl)).2) k) ?_
  refine own_by (T' := T59) (g' := (mkF m 239 #[.val (.int sel), .val (.long ts), .second, .val (.long sq0), .second, .val (.long sq), .second, .val (.int da), .val (.int chs), .val (.ref aty), .val (.ref b22), .val (.ref b25), .val (.ref b28), .val (.ref b31), .val (.int ((chs &&& (255 : Int32)).toUInt32.toUInt16.toUInt32.toInt32)), .val (.int ((((chs.toUInt32 >>> ((8 : Int32) &&& 31).toUInt32).toInt32) &&& (255 : Int32)).toUInt32.toUInt16.toUInt32.toInt32)), .val (.ref b36), .val (.ref b43), .val (.ref b50), .val (.ref t52)] [(.ref b50)])) (fun _ k => XS.aload X59.here hx rfl (hb hby at_237) rfl rfl k) ?_
  obtain ⟨cq60, kq60, q60a, q60b, q60c⟩ := isOf hZ e59 (Exa.keep (Exa.keep E_b50 K51) K52)
  obtain ⟨_, _, ⟨T60, L60, k60, n60⟩, -, X60, ⟨Lc60, hQ60, l60, y60, z60⟩, st60⟩ := X59.virtualBack hx (y := (⟨"com/example/millrace/millrace/Cell", "sequenceId", "()J"⟩ : MethodName)) (z := (⟨"com/example/millrace/millrace/Cell", "sequenceId", "()J"⟩ : MethodName)) hown (mvT hZ (hw _ (List.mem_of_getElem? (i := 95) rfl))) (mvT hZ (hw _ (List.mem_of_getElem? (i := 96) rfl))) (notFace_of_selects (args := #[]) (mvT hZ (hw _ (List.mem_of_getElem? (i := 98) rfl)))) (mvT hZ (hw _ (List.mem_of_getElem? (i := 98) rfl))) (mvT hZ (hw _ (List.mem_of_getElem? (i := 97) rfl))) (by decide) (backOf (W := 0) (get_sequenceId l Z a0 hw [] b50 sq0 T52.heap n0 (Nat.le_trans (Nat.le_trans (Nat.le_trans (Nat.le_trans (Nat.le_trans (Nat.le_trans (Nat.le_trans (Nat.le_trans (Nat.le_trans (Nat.le_trans (Nat.le_trans (Nat.le_trans (Nat.le_trans (Nat.le_trans (Nat.le_trans (Nat.le_trans (Nat.le_trans (Nat.le_trans (Nat.le_trans (Nat.le_trans (Nat.le_trans (Nat.le_trans Z0 E22.1) (Keep.of_wr W24).1) E25.1) (Keep.of_wr W27).1) E28.1) (Keep.of_wr W30).1) E31.1) (Keep.of_wr W33).1) (Keep.of_wr W35).1) E36.1) E37.1) (Keep.of_wr W39).1) (Keep.of_wr W41).1) K42.1) E43.1) E44.1) (Keep.of_wr W46).1) (Keep.of_wr W48).1) K49.1) E50.1) K51.1) K52.1) (Fld.keep F6_51 K52 nin0)) hZ (hw _ (List.mem_of_getElem? (i := 99) rfl)) (hw _ (List.mem_of_getElem? (i := 39) rfl)) (by decide) (by decide)) q60a q60c (g := (mkF m 239 #[.val (.int sel), .val (.long ts), .second, .val (.long sq0), .second, .val (.long sq), .second, .val (.int da), .val (.int chs), .val (.ref aty), .val (.ref b22), .val (.ref b25), .val (.ref b28), .val (.ref b31), .val (.int ((chs &&& (255 : Int32)).toUInt32.toUInt16.toUInt32.toInt32)), .val (.int ((((chs.toUInt32 >>> ((8 : Int32) &&& 31).toUInt32).toInt32) &&& (255 : Int32)).toUInt32.toUInt16.toUInt32.toInt32)), .val (.ref b36), .val (.ref b43), .val (.ref b50), .val (.ref t52)] [(.ref b50)])) rfl (by rw [hml]; rfl) (Steps.refl _) (argsL := []) (rest := []) (lenOf pd_11 rfl) rfl (by show 2 * 0 + _ ≤ _; exact Nat.le_of_eq rfl) (hb hby at_239) (fun _ _ => ⟨rfl, e59, (by decide : (((((((((((((((((((((0 + 0) + 1) + 1) + 1) + 1) + 1) + 1) + 1) + 1) + 1) + 1) + 1) + 0) + 1) + 0) + 0) + 0) + 0) + 0) + 0) + 0) + 0 ≤ _), (by decide : (((((((((((((((((((((0 + 0) + 1) + 1) + 1) + 2) + 4) + 2) + 2) + 4) + 2) + 2) + 7) + 0) + 7) + 0) + 0) + 0) + 0) + 0) + 0) + 0) + 0 ≤ _)⟩)
  dsimp only [Pt.U, Pt.locs, Pt.cells, Pt.slots] at X60 l60 y60 z60 st60 hQ60
  subst l60 y60 z60
  obtain ⟨rfl, N60q, e60⟩ := hQ60
  have N60 := Fr.app N59 N60q
  refine own_by (T' := T60) (g' := (mkF m 242 #[.val (.int sel), .val (.long ts), .second, .val (.long sq0), .second, .val (.long sq), .second, .val (.int da), .val (.int chs), .val (.ref aty), .val (.ref b22), .val (.ref b25), .val (.ref b28), .val (.ref b31), .val (.int ((chs &&& (255 : Int32)).toUInt32.toUInt16.toUInt32.toInt32)), .val (.int ((((chs.toUInt32 >>> ((8 : Int32) &&& 31).toUInt32).toInt32) &&& (255 : Int32)).toUInt32.toUInt16.toUInt32.toInt32)), .val (.ref b36), .val (.ref b43), .val (.ref b50), .val (.ref t52)] [(.long sq0)])) (fun _ k => st60.trans k) ?_
  refine own_by (T' := T60) (g' := (mkF m 243 #[.val (.int sel), .val (.long ts), .second, .val (.long sq0), .second, .val (.long sq), .second, .val (.int da), .val (.int chs), .val (.ref aty), .val (.ref b22), .val (.ref b25), .val (.ref b28), .val (.ref b31), .val (.int ((chs &&& (255 : Int32)).toUInt32.toUInt16.toUInt32.toInt32)), .val (.int ((((chs.toUInt32 >>> ((8 : Int32) &&& 31).toUInt32).toInt32) &&& (255 : Int32)).toUInt32.toUInt16.toUInt32.toInt32)), .val (.ref b36), .val (.ref b43), .val (.ref b50), .val (.ref t52)] [(.long sq0), (.long sq0)])) (fun _ k => XS.lloadN X60.here hx rfl (hb hby at_242) rfl k) ?_
  refine own_by (T' := T60) (g' := (mkF m 244 #[.val (.int sel), .val (.long ts), .second, .val (.long sq0), .second, .val (.long sq), .second, .val (.int da), .val (.int chs), .val (.ref aty), .val (.ref b22), .val (.ref b25), .val (.ref b28), .val (.ref b31), .val (.int ((chs &&& (255 : Int32)).toUInt32.toUInt16.toUInt32.toInt32)), .val (.int ((((chs.toUInt32 >>> ((8 : Int32) &&& 31).toUInt32).toInt32) &&& (255 : Int32)).toUInt32.toUInt16.toUInt32.toInt32)), .val (.ref b36), .val (.ref b43), .val (.ref b50), .val (.ref t52)] [(.int (lcmpW sq0 sq0))])) (fun _ k => XS.lcmp X60.here hx rfl (hb hby at_243) rfl k) ?_
  refine own_by (T' := T60) (g' := (mkF m 247 #[.val (.int sel), .val (.long ts), .second, .val (.long sq0), .second, .val (.long sq), .second, .val (.int da), .val (.int chs), .val (.ref aty), .val (.ref b22), .val (.ref b25), .val (.ref b28), .val (.ref b31), .val (.int ((chs &&& (255 : Int32)).toUInt32.toUInt16.toUInt32.toInt32)), .val (.int ((((chs.toUInt32 >>> ((8 : Int32) &&& 31).toUInt32).toInt32) &&& (255 : Int32)).toUInt32.toUInt16.toUInt32.toInt32)), .val (.ref b36), .val (.ref b43), .val (.ref b50), .val (.ref t52)] [])) (fun _ k => XS.ifNo X60.here hx rfl (hb hby at_244) rfl ((if0 _ _).trans (teq ((lw_eq _ _).mpr rfl)).2) k) ?_
  refine own_by (T' := T60) (g' := (mkF m 248 #[.val (.int sel), .val (.long ts), .second, .val (.long sq0), .second, .val (.long sq), .second, .val (.int da), .val (.int chs), .val (.ref aty), .val (.ref b22), .val (.ref b25), .val (.ref b28), .val (.ref b31), .val (.int ((chs &&& (255 : Int32)).toUInt32.toUInt16.toUInt32.toInt32)), .val (.int ((((chs.toUInt32 >>> ((8 : Int32) &&& 31).toUInt32).toInt32) &&& (255 : Int32)).toUInt32.toUInt16.toUInt32.toInt32)), .val (.ref b36), .val (.ref b43), .val (.ref b50), .val (.ref t52)] [(.int (1 : Int32))])) (fun _ k => XS.iconst X60.here hx rfl (hb hby at_247) k) ?_
  refine own_by (T' := T60) (g' := (mkF m 252 #[.val (.int sel), .val (.long ts), .second, .val (.long sq0), .second, .val (.long sq), .second, .val (.int da), .val (.int chs), .val (.ref aty), .val (.ref b22), .val (.ref b25), .val (.ref b28), .val (.ref b31), .val (.int ((chs &&& (255 : Int32)).toUInt32.toUInt16.toUInt32.toInt32)), .val (.int ((((chs.toUInt32 >>> ((8 : Int32) &&& 31).toUInt32).toInt32) &&& (255 : Int32)).toUInt32.toUInt16.toUInt32.toInt32)), .val (.ref b36), .val (.ref b43), .val (.ref b50), .val (.ref t52)] [(.int (1 : Int32))])) (fun _ k => XS.goto X60.here hx rfl (pc0 := 248) (pc' := 252) rfl (hb hby at_248) (by decide) (by decide) k) ?_
  refine own_ret X60 hlk (v := some (.int (1 : Int32))) (fun h => by rw [Bd.returns] at h; cases h) (fun fs hr => retN X60 hx (t := .boolean) Bd.returns (by simp) (hb hby at_252) hr) ?_ (by decide) (by decide)
  rw [e60]
  exact ⟨rfl, N60⟩
set_option maxRecDepth 65536 in
set_option maxHeartbeats 40000000 in
theorem comes_1 {Post : Tables → Env → Array Value → State → Outcome → State → Prop} (hpost : ∀ tb e args s v u, (limb_1_1.after args s (.returned v) u = true ∧ limb_1_2.after args s (.returned v) u = true ∧ True) → FrameEnd s (.returned v) u (Jvm.fieldLocs frame_1_writes args s ++ Jvm.arrayLocs frame_1_arrays args s ++ Jvm.staticLocs frame_1_statics s) 32 192 → Post tb e args s (.returned v) u) :
    ArmFor flags0 classFile x code maxLocals ret World_1 tables_1 room_1 Calls_1 rest_1 Pre_1 Post := by
  intro l hfl _ _ p e ha hc hk s m args below hf hA hF happ hP
  obtain ⟨hcalls, hrest, hpre⟩ := hP
  obtain ⟨-, -, -, hnamed, -, -, -, hat⟩ := (Spec.applies_iff hf).mp happ
  obtain ⟨hg, hn⟩ := and_e (Cond.before_iff.mp (show (Jvm.Cond.and given_1 narrow_1).before args s = true from hpre))
  obtain ⟨g1, g2⟩ := and_e hg
  obtain ⟨g3, g4⟩ := and_e g2
  obtain ⟨g5, g6⟩ := and_e g4
  obtain ⟨g7, g8⟩ := and_e g6
  obtain ⟨g9, g10⟩ := and_e g8
  obtain ⟨g11, g12⟩ := and_e g10
  obtain ⟨w0, w1, w2, w3, w4, w5, rfl⟩ : ∃ w0 w1 w2 w3 w4 w5 : Value, args = #[w0, w1, w2, w3, w4, w5] := by
    have hs : args.size = 6 := by simpa [Cond.value, given_1] using g1
    obtain ⟨L⟩ := args
    match L, hs with
    | [w0, w1, w2, w3, w4, w5], _ => exact ⟨w0, w1, w2, w3, w4, w5, rfl⟩
  have hw := fun d (hd : d ∈ tables_1) => atoms_spec (ws := Jvm.Cond.code x code maxLocals ret :: tables_1) hat d (List.mem_cons_of_mem _ hd)
  have hfit : Fit s := fun {y c} hc i hi => by
    obtain ⟨ha, rfl⟩ := Array.getElem?_eq_some_iff.mp hc
    have q := List.all_eq_true.mp ((Array.all_eq_true_iff_forall_mem.mp hF) _ (Array.getElem_mem ha)) i (List.mem_range.mpr hi)
    simpa [Array.getElem?_eq_getElem hi] using q
  obtain ⟨hsets, hown0⟩ := atoms_of _ (rest_1_c_eq ▸ (show rest_1_c.before _ s = true from hrest))
  have hr0 := Cond.before_iff.mp hown0
  obtain ⟨i0, ei0⟩ := is_v g3
  obtain rfl : w0 = (.int i0) := Option.some.inj ei0
  obtain ⟨i1, ei1⟩ := isL_v g5
  obtain rfl : w1 = (.long i1) := Option.some.inj ei1
  obtain ⟨i2, ei2⟩ := isL_v g7
  obtain rfl : w2 = (.long i2) := Option.some.inj ei2
  obtain ⟨i3, ei3⟩ := isL_v g9
  obtain rfl : w3 = (.long i3) := Option.some.inj ei3
  obtain ⟨i4, ei4⟩ := is_v g11
  obtain rfl : w4 = (.int i4) := Option.some.inj ei4
  obtain ⟨i5, ei5⟩ := is_v g12
  obtain rfl : w5 = (.int i5) := Option.some.inj ei5
  obtain ⟨n1, n2⟩ := and_e hn
  obtain ⟨n3, n4⟩ := and_e n2
  obtain ⟨n5, n6⟩ := and_e n4
  obtain ⟨a_DELETE_ROW, ev_DELETE_ROW⟩ := exa_v n1
  have E_DELETE_ROW : Exa s s.heap a_DELETE_ROW "com/example/millrace/millrace/Cell$Type" := Exa.start ev_DELETE_ROW n1
  have S_DELETE_ROW : Sta s s.heap "com/example/millrace/millrace/Cell$Type" "DELETE_ROW" "Lcom/example/millrace/millrace/Cell$Type;" (.ref a_DELETE_ROW) := Sta.start ev_DELETE_ROW (Or.inr ⟨(hw _ (List.mem_of_getElem? (i := 5) rfl)), (hw _ (List.mem_of_getElem? (i := 6) rfl))⟩)
  obtain ⟨a_DELETE_FAMILY, ev_DELETE_FAMILY⟩ := exa_v n3
  have E_DELETE_FAMILY : Exa s s.heap a_DELETE_FAMILY "com/example/millrace/millrace/Cell$Type" := Exa.start ev_DELETE_FAMILY n3
  have S_DELETE_FAMILY : Sta s s.heap "com/example/millrace/millrace/Cell$Type" "DELETE_FAMILY" "Lcom/example/millrace/millrace/Cell$Type;" (.ref a_DELETE_FAMILY) := Sta.start ev_DELETE_FAMILY (Or.inr ⟨(hw _ (List.mem_of_getElem? (i := 5) rfl)), (hw _ (List.mem_of_getElem? (i := 101) rfl))⟩)
  obtain ⟨a_DELETE_COLUMN, ev_DELETE_COLUMN⟩ := exa_v n5
  have E_DELETE_COLUMN : Exa s s.heap a_DELETE_COLUMN "com/example/millrace/millrace/Cell$Type" := Exa.start ev_DELETE_COLUMN n5
  have S_DELETE_COLUMN : Sta s s.heap "com/example/millrace/millrace/Cell$Type" "DELETE_COLUMN" "Lcom/example/millrace/millrace/Cell$Type;" (.ref a_DELETE_COLUMN) := Sta.start ev_DELETE_COLUMN (Or.inr ⟨(hw _ (List.mem_of_getElem? (i := 5) rfl)), (hw _ (List.mem_of_getElem? (i := 103) rfl))⟩)
  obtain ⟨a_PUT, ev_PUT⟩ := exa_v n6
  have E_PUT : Exa s s.heap a_PUT "com/example/millrace/millrace/Cell$Type" := Exa.start ev_PUT n6
  have S_PUT : Sta s s.heap "com/example/millrace/millrace/Cell$Type" "PUT" "Lcom/example/millrace/millrace/Cell$Type;" (.ref a_PUT) := Sta.start ev_PUT (Or.inr ⟨(hw _ (List.mem_of_getElem? (i := 5) rfl)), (hw _ (List.mem_of_getElem? (i := 105) rfl))⟩)
  obtain ⟨cs, ecs⟩ := is_v (Cond.before_iff.mp (hsets _ (List.mem_of_getElem? (i := 1) rfl)))
  have S_CS : Sta s s.heap "java/lang/String" "COMPACT_STRINGS" "Z" (.int cs) := Sta.start ecs (Or.inl (hsets _ (List.mem_of_getElem? (i := 0) rfl)))
  have hcs : ¬ cs = (0 : Int32) := own_ne0 ecs (hsets _ (List.mem_of_getElem? (i := 2) rfl))
  obtain ⟨n, o, h1, h2, h3, _, L, rfl, ⟨rfl, N⟩, hq⟩ := rm0 l s _ hw tables_1 i0 i1 i2 i3 i4 i5 a_DELETE_ROW a_DELETE_FAMILY a_DELETE_COLUMN a_PUT cs s.heap s.heap.size (Nat.le_refl _) (Old.start s) S_DELETE_ROW S_DELETE_FAMILY S_DELETE_COLUMN S_PUT S_CS hcs p e ha hc hk s m _ below hf ((Spec.applies_iff_loose hf).mp happ).1 ⟨rfl, State.Warmed39.refl s, rfl⟩ trivial
  refine ⟨n, _, h1, h2, h3, hpost _ _ _ _ _ _ ⟨Cond.after_iff.mpr rfl, Cond.after_iff.mpr (eq_i res_at (Term.int_eval (1)) rfl), trivial⟩ ⟨hq.1, hq.2.1, (hq.2.2.sift fun y hy => Or.inr (N y hy)).mono (by decide) (by decide)⟩⟩
theorem main_1_1 : Claimed_1_1 := comes_1 fun _ _ _ _ _ _ h hF => ⟨h.1, hF⟩
theorem main_1_2 : Claimed_1_2 := comes_1 fun _ _ _ _ _ _ h hF => ⟨h.2.1, hF⟩
end Jvm.Pilot.@@N@@
namespace Jvm.Pilot.@@N@@
open Jvm Jvm.ClassFile Sem Op Lib Jvm.Free Jvm.Stand Jvm.Pilot.@@N@@.Jvm.D
/-! MADE BY PROGRAM (witnessworld.py) out of the Statement's table words and the real class files: 22 classes; the members and pool entries that the words name. The judged class is class 1, her method 2. -/
namespace start1
open Jvm.ClassFile
def u (s : String) : CpInfo := .utf8 (stringToUtf16 s)
/-- a pool by its gaps: so many unusable entries, then the entry; so many at the end -/
def gap : Nat → List CpInfo → List CpInfo
  | 0, r => r
  | n + 1, r => .unusable :: gap n r
def poolList (es : List (Nat × CpInfo)) (last : Nat) : List CpInfo := es.foldr (fun e r => gap e.1 (e.2 :: r)) (gap last [])
def pool (es : List (Nat × CpInfo)) (last : Nat) : Array CpInfo := ⟨poolList es last⟩
def fileOf (pool : Array CpInfo) (this : Nat) (attrs : Array Attribute := #[]) (ms : Array MethodInfo := #[]) (fl : Nat := 33) (sup : Nat := 0) (ifs : Array Nat := #[]) (fds : Array FieldInfo := #[]) : ClassFile where
  minorVersion := 0
  majorVersion := 65
  constantPool := pool
  accessFlags := fl
  thisClass := this
  superClass := sup
  interfaces := ifs
  fields := fds
  methods := ms
  attributes := attrs
def plain (name : String) (sup : Option ClassId) : Class where
  name := name
  kind := .ordinary
  loader := none
  accessFlags := 33
  super := sup
  interfaces := #[]
  cf := none
  fields := #[]
  methods := #[]
  instanceTypes := #[]
  staticTypes := #[]
  resolved := #[]
  callSites := []
  init := .initialized
  statics := none
  mirror := none

def pool0 : Array CpInfo := pool [(5, u "<init>"), (0, u "()V"), (1, .class_ 10), (1, u "java/lang/Object")] 113

def k0c0 : Code := { maxStack := 0, maxLocals := 1, code := object_method_1_code, exceptionTable := #[], attributes := #[] }
def k0m0 : Method := { name := "<init>", desc := "()V", sig := { parameters := [], returnType := none }, accessFlags := 1, code := some k0c0 }
/-- java/lang/Object -/
def k0 : Class := { plain "java/lang/Object" none with
  accessFlags := 33
  interfaces := #[]
  cf := some (fileOf pool0 8 #[] #[{ accessFlags := 1, nameIndex := 5, descriptorIndex := 6, attributes := #[] }] 33 0 #[] #[])
  fields := #[]
  methods := #[k0m0]
  instanceTypes := #[]
  staticTypes := #[]
  resolved := Array.replicate 124 none
  statics := none }

def pool1 : Array CpInfo := pool [(2, .class_ 4), (1, u "java/lang/Object"), (0, u "<init>"), (0, u "()V"), (0, .fieldref 8 9), (0, .class_ 10), (0, .nameAndType 11 12), (0, u "com/example/millrace/millrace/Cell$Type"), (0, u "DELETE_ROW"), (0, u "Lcom/example/millrace/millrace/Cell$Type;"), (0, .fieldref 8 14), (0, .nameAndType 15 12), (0, u "DELETE_FAMILY"), (0, .fieldref 8 17), (0, .nameAndType 18 12), (0, u "DELETE_COLUMN"), (0, .fieldref 8 20), (0, .nameAndType 21 12), (0, u "PUT"), (0, .methodref 23 24), (0, .class_ 25), (0, .nameAndType 26 27), (0, u "com/example/millrace/millrace/CellWithSequenceIdPinLaw"), (0, u "pick"), (0, u "(I)Lcom/example/millrace/millrace/Cell$Type;"), (0, .class_ 29), (0, u "java/lang/String"), (0, .methodref 28 31), (0, .nameAndType 5 32), (0, u "([C)V"), (0, .class_ 34), (0, u "com/example/millrace/millrace/Cell"), (0, .methodref 33 36), (0, .nameAndType 5 37), (0, u "(Lcom/example/millrace/millrace/Cell$Type;[BLjava/lang/String;[BJ[BJ)V"), (0, .methodref 33 39), (0, .nameAndType 40 41), (0, u "withSequenceId"), (0, u "(J[BLjava/lang/String;)Lcom/example/millrace/millrace/Cell;"), (0, .methodref 33 43), (0, .nameAndType 44 45), (0, u "type"), (0, u "()Lcom/example/millrace/millrace/Cell$Type;"), (0, .methodref 33 47), (0, .nameAndType 48 49), (0, u "rowBytes"), (0, u "()[B"), (0, .methodref 33 51), (0, .nameAndType 52 53), (0, u "family"), (0, u "()Ljava/lang/String;"), (0, .methodref 33 55), (0, .nameAndType 56 49), (0, u "qualifierBytes"), (0, .methodref 33 58), (0, .nameAndType 59 60), (0, u "timestamp"), (0, u "()J"), (0, .methodref 33 62), (0, .nameAndType 63 49), (0, u "valueBytes"), (0, .methodref 33 65), (0, .nameAndType 66 60), (0, u "sequenceId"), (3, u "law"), (0, u "(IJJJII)Z")] 6

def k1m0 : Method := { name := "<init>", desc := "()V", sig := { parameters := [], returnType := none }, accessFlags := 1, code := none }
def k1c1 : Code := { maxStack := 2, maxLocals := 1, code := method_2_code, exceptionTable := #[], attributes := #[] }
def k1m1 : Method := { name := "pick", desc := "(I)Lcom/example/millrace/millrace/Cell$Type;", sig := { parameters := [.int], returnType := some (.object "com/example/millrace/millrace/Cell$Type") }, accessFlags := 10, code := some k1c1 }
def k1c2 : Code := { maxStack := 11, maxLocals := 20, code := code, exceptionTable := #[], attributes := #[] }
def k1m2 : Method := { name := "law", desc := "(IJJJII)Z", sig := { parameters := [.int, .long, .long, .long, .int, .int], returnType := some .boolean }, accessFlags := 9, code := some k1c2 }
/-- com/example/millrace/millrace/CellWithSequenceIdPinLaw -/
def k1 : Class := { plain "com/example/millrace/millrace/CellWithSequenceIdPinLaw" (some 0) with
  accessFlags := 49
  interfaces := #[]
  cf := some (fileOf pool1 23 #[] #[{ accessFlags := 1, nameIndex := 5, descriptorIndex := 6, attributes := #[] }, { accessFlags := 10, nameIndex := 26, descriptorIndex := 27, attributes := #[] }, { accessFlags := 9, nameIndex := 70, descriptorIndex := 71, attributes := #[] }] 49 2 #[] #[])
  fields := #[]
  methods := #[k1m0, k1m1, k1m2]
  instanceTypes := #[]
  staticTypes := #[]
  resolved := Array.replicate 78 none
  statics := none }

def pool2 : Array CpInfo := pool [(1, .class_ 2), (0, u "java/lang/constant/Constable"), (0, .class_ 4), (0, u "java/lang/Object")] 6

/-- java/lang/constant/Constable -/
def k2 : Class := { plain "java/lang/constant/Constable" (some 0) with
  accessFlags := 1537
  interfaces := #[]
  cf := some (fileOf pool2 1 #[] #[] 1537 3 #[] #[])
  fields := #[]
  methods := #[]
  instanceTypes := #[]
  staticTypes := #[]
  resolved := Array.replicate 11 none
  statics := none }

def pool3 : Array CpInfo := pool [(1, .class_ 2), (0, u "java/lang/Comparable"), (0, .class_ 4), (0, u "java/lang/Object")] 7

/-- java/lang/Comparable -/
def k3 : Class := { plain "java/lang/Comparable" (some 0) with
  accessFlags := 1537
  interfaces := #[]
  cf := some (fileOf pool3 1 #[] #[] 1537 3 #[] #[])
  fields := #[]
  methods := #[]
  instanceTypes := #[]
  staticTypes := #[]
  resolved := Array.replicate 12 none
  statics := none }

def pool4 : Array CpInfo := pool [(1, .class_ 2), (0, u "java/io/Serializable"), (0, .class_ 4), (0, u "java/lang/Object")] 2

/-- java/io/Serializable -/
def k4 : Class := { plain "java/io/Serializable" (some 0) with
  accessFlags := 1537
  interfaces := #[]
  cf := some (fileOf pool4 1 #[] #[] 1537 3 #[] #[])
  fields := #[]
  methods := #[]
  instanceTypes := #[]
  staticTypes := #[]
  resolved := Array.replicate 7 none
  statics := none }

def pool5 : Array CpInfo := pool [(2, .class_ 4), (1, u "java/lang/Enum"), (0, u "name"), (0, u "Ljava/lang/String;"), (2, u "ordinal"), (0, u "I"), (1, .class_ 14), (1, u "java/lang/Object"), (4, u "hash"), (86, .class_ 108), (1, u "java/lang/Enum$EnumDesc"), (2, .class_ 112), (0, u "java/lang/constant/Constable"), (0, .class_ 114), (0, u "java/lang/Comparable"), (0, .class_ 116), (0, u "java/io/Serializable")] 87

/-- java/lang/Enum -/
def k5 : Class := { plain "java/lang/Enum" (some 0) with
  accessFlags := 1057
  interfaces := #[2, 3, 4]
  cf := some (fileOf pool5 2 #[.nestMembers #[106]] #[] 1057 12 #[111, 113, 115] #[{ accessFlags := 18, nameIndex := 5, descriptorIndex := 6, attributes := #[] }, { accessFlags := 18, nameIndex := 9, descriptorIndex := 10, attributes := #[] }, { accessFlags := 2, nameIndex := 19, descriptorIndex := 10, attributes := #[] }])
  fields := #[{ name := "name", type := (.object "java/lang/String"), accessFlags := 18, slot := 0, constantValue := 0 }, { name := "ordinal", type := .int, accessFlags := 18, slot := 1, constantValue := 0 }, { name := "hash", type := .int, accessFlags := 2, slot := 2, constantValue := 0 }]
  methods := #[]
  instanceTypes := #[(.object "java/lang/String"), .int, .int]
  staticTypes := #[]
  resolved := Array.replicate 204 none
  statics := none }

def pool6 : Array CpInfo := pool [(1, .class_ 2), (0, u "com/example/millrace/millrace/Cell$Type"), (2, u "DELETE_ROW"), (0, u "Lcom/example/millrace/millrace/Cell$Type;"), (2, u "DELETE_FAMILY"), (2, u "DELETE_COLUMN"), (2, u "PUT"), (2, u "$VALUES"), (0, u "[Lcom/example/millrace/millrace/Cell$Type;"), (6, .class_ 28), (1, u "java/lang/Enum"), (8, u "code"), (0, u "B"), (38, .class_ 78), (0, u "com/example/millrace/millrace/Cell")] 16

/-- com/example/millrace/millrace/Cell$Type -/
def k6 : Class := { plain "com/example/millrace/millrace/Cell$Type" (some 5) with
  accessFlags := 16432
  interfaces := #[]
  cf := some (fileOf pool6 1 #[.nestHost 77] #[] 16432 26 #[] #[{ accessFlags := 16409, nameIndex := 5, descriptorIndex := 6, attributes := #[] }, { accessFlags := 16409, nameIndex := 9, descriptorIndex := 6, attributes := #[] }, { accessFlags := 16409, nameIndex := 12, descriptorIndex := 6, attributes := #[] }, { accessFlags := 16409, nameIndex := 15, descriptorIndex := 6, attributes := #[] }, { accessFlags := 16, nameIndex := 37, descriptorIndex := 38, attributes := #[] }, { accessFlags := 4122, nameIndex := 18, descriptorIndex := 19, attributes := #[] }])
  fields := #[{ name := "DELETE_ROW", type := (.object "com/example/millrace/millrace/Cell$Type"), accessFlags := 16409, slot := 0, constantValue := 0 }, { name := "DELETE_FAMILY", type := (.object "com/example/millrace/millrace/Cell$Type"), accessFlags := 16409, slot := 1, constantValue := 0 }, { name := "DELETE_COLUMN", type := (.object "com/example/millrace/millrace/Cell$Type"), accessFlags := 16409, slot := 2, constantValue := 0 }, { name := "PUT", type := (.object "com/example/millrace/millrace/Cell$Type"), accessFlags := 16409, slot := 3, constantValue := 0 }, { name := "code", type := .byte, accessFlags := 16, slot := 3, constantValue := 0 }, { name := "$VALUES", type := (.array (.object "com/example/millrace/millrace/Cell$Type")), accessFlags := 4122, slot := 4, constantValue := 0 }]
  methods := #[]
  instanceTypes := #[(.object "java/lang/String"), .int, .int, .byte]
  staticTypes := #[(.object "com/example/millrace/millrace/Cell$Type"), (.object "com/example/millrace/millrace/Cell$Type"), (.object "com/example/millrace/millrace/Cell$Type"), (.object "com/example/millrace/millrace/Cell$Type"), (.array (.object "com/example/millrace/millrace/Cell$Type"))]
  resolved := Array.replicate 95 none
  statics := some 0 }

def pool7 : Array CpInfo := pool [(2, .class_ 4), (1, u "java/lang/CharSequence"), (42, .class_ 48), (0, u "java/lang/CharSequence$1CodePointIterator"), (10, .class_ 60), (0, u "java/lang/CharSequence$1CharIterator"), (5, .class_ 67), (0, u "java/lang/Object")] 63

/-- java/lang/CharSequence -/
def k7 : Class := { plain "java/lang/CharSequence" (some 0) with
  accessFlags := 1537
  interfaces := #[]
  cf := some (fileOf pool7 2 #[.nestMembers #[47, 59]] #[] 1537 66 #[] #[])
  fields := #[]
  methods := #[]
  instanceTypes := #[]
  staticTypes := #[]
  resolved := Array.replicate 131 none
  statics := none }

def pool8 : Array CpInfo := pool [(1, .class_ 2), (0, u "java/lang/constant/ConstantDesc"), (0, .class_ 4), (0, u "java/lang/Object")] 32

/-- java/lang/constant/ConstantDesc -/
def k8 : Class := { plain "java/lang/constant/ConstantDesc" (some 0) with
  accessFlags := 1537
  interfaces := #[]
  cf := some (fileOf pool8 1 #[] #[] 1537 3 #[] #[])
  fields := #[]
  methods := #[]
  instanceTypes := #[]
  staticTypes := #[]
  resolved := Array.replicate 37 none
  statics := none }

def pool9 : Array CpInfo := pool [(1, .methodref 2 3), (0, .class_ 4), (0, .nameAndType 5 6), (0, u "java/lang/Object"), (0, u "<init>"), (0, u "()V"), (2, .fieldref 10 11), (0, .class_ 12), (0, .nameAndType 13 14), (0, u "java/lang/String"), (0, u "value"), (0, u "[B"), (0, .fieldref 10 16), (0, .nameAndType 17 18), (0, u "coder"), (0, u "B"), (2, u "hash"), (0, u "I"), (2, u "hashIsZero"), (0, u "Z"), (0, .methodref 10 28), (0, .nameAndType 5 29), (0, u "([CIILjava/lang/Void;)V"), (8, .fieldref 10 39), (0, .nameAndType 40 26), (0, u "COMPACT_STRINGS"), (1, .class_ 44), (1, u "java/lang/StringUTF16"), (0, u "compress"), (1, .methodref 42 48), (0, .nameAndType 49 50), (0, u "coderFromArrayLen"), (0, u "([BI)B"), (126, .methodref 42 178), (0, .nameAndType 45 179), (0, u "([CII)[B"), (395, .class_ 576), (0, u "java/lang/CharSequence"), (22, u "CASE_INSENSITIVE_ORDER"), (0, u "Ljava/util/Comparator;"), (409, u "([C)V"), (90, u "serialPersistentFields"), (0, u "[Ljava/io/ObjectStreamField;"), (0, .class_ 1104), (0, u "java/lang/String$CaseInsensitiveComparator"), (1, .class_ 1107), (0, u "java/io/Serializable"), (0, .class_ 1109), (0, u "java/lang/Comparable"), (0, .class_ 1111), (0, u "java/lang/constant/Constable"), (0, .class_ 1113), (0, u "java/lang/constant/ConstantDesc"), (2, u "serialVersionUID"), (0, u "J"), (3, u "REPL"), (0, u "C"), (2, u "LATIN1"), (1, u "UTF16")] 323

def k9m0 : Method := { name := "<init>", desc := "()V", sig := { parameters := [], returnType := none }, accessFlags := 1, code := none }
def k9c1 : Code := { maxStack := 5, maxLocals := 2, code := jdk_42_method_3_code, exceptionTable := #[], attributes := #[] }
def k9m1 : Method := { name := "<init>", desc := "([C)V", sig := { parameters := [(.array .char)], returnType := none }, accessFlags := 1, code := some k9c1 }
def k9c2 : Code := { maxStack := 4, maxLocals := 6, code := jdk_42_method_149_code, exceptionTable := #[], attributes := #[] }
def k9m2 : Method := { name := "<init>", desc := "([CIILjava/lang/Void;)V", sig := { parameters := [(.array .char), .int, .int, (.object "java/lang/Void")], returnType := none }, accessFlags := 2, code := some k9c2 }
/-- java/lang/String -/
def k9 : Class := { plain "java/lang/String" (some 0) with
  accessFlags := 49
  interfaces := #[4, 3, 7, 2, 8]
  cf := some (fileOf pool9 10 #[.nestMembers #[1103]] #[{ accessFlags := 1, nameIndex := 5, descriptorIndex := 6, attributes := #[] }, { accessFlags := 1, nameIndex := 5, descriptorIndex := 1010, attributes := #[] }, { accessFlags := 2, nameIndex := 5, descriptorIndex := 29, attributes := #[] }] 49 2 #[1106, 1108, 575, 1110, 1112] #[{ accessFlags := 18, nameIndex := 13, descriptorIndex := 14, attributes := #[] }, { accessFlags := 18, nameIndex := 17, descriptorIndex := 18, attributes := #[] }, { accessFlags := 2, nameIndex := 21, descriptorIndex := 22, attributes := #[] }, { accessFlags := 2, nameIndex := 25, descriptorIndex := 26, attributes := #[] }, { accessFlags := 26, nameIndex := 1116, descriptorIndex := 1117, attributes := #[] }, { accessFlags := 24, nameIndex := 40, descriptorIndex := 26, attributes := #[] }, { accessFlags := 26, nameIndex := 1101, descriptorIndex := 1102, attributes := #[] }, { accessFlags := 26, nameIndex := 1121, descriptorIndex := 1122, attributes := #[] }, { accessFlags := 25, nameIndex := 599, descriptorIndex := 600, attributes := #[] }, { accessFlags := 24, nameIndex := 1125, descriptorIndex := 18, attributes := #[] }, { accessFlags := 24, nameIndex := 1127, descriptorIndex := 18, attributes := #[] }])
  fields := #[{ name := "value", type := (.array .byte), accessFlags := 18, slot := 0, constantValue := 0 }, { name := "coder", type := .byte, accessFlags := 18, slot := 1, constantValue := 0 }, { name := "hash", type := .int, accessFlags := 2, slot := 2, constantValue := 0 }, { name := "hashIsZero", type := .boolean, accessFlags := 2, slot := 3, constantValue := 0 }, { name := "serialVersionUID", type := .long, accessFlags := 26, slot := 0, constantValue := 0 }, { name := "COMPACT_STRINGS", type := .boolean, accessFlags := 24, slot := 1, constantValue := 0 }, { name := "serialPersistentFields", type := (.array (.object "java/io/ObjectStreamField")), accessFlags := 26, slot := 2, constantValue := 0 }, { name := "REPL", type := .char, accessFlags := 26, slot := 3, constantValue := 0 }, { name := "CASE_INSENSITIVE_ORDER", type := (.object "java/util/Comparator"), accessFlags := 25, slot := 4, constantValue := 0 }, { name := "LATIN1", type := .byte, accessFlags := 24, slot := 5, constantValue := 0 }, { name := "UTF16", type := .byte, accessFlags := 24, slot := 6, constantValue := 0 }]
  methods := #[k9m0, k9m1, k9m2]
  instanceTypes := #[(.array .byte), .byte, .int, .boolean]
  staticTypes := #[.long, .boolean, (.array (.object "java/io/ObjectStreamField")), .char, (.object "java/util/Comparator"), .byte, .byte]
  resolved := Array.replicate 1451 none
  statics := some 1 }

def pool10 : Array CpInfo := pool [(6, .class_ 8), (1, u "java/lang/Object"), (0, u "<init>"), (0, u "()V"), (1, .class_ 14), (1, u "java/lang/StringUTF16"), (31, u "$assertionsDisabled"), (0, u "Z"), (13, u "HI_BYTE_SHIFT"), (0, u "I"), (2, u "LO_BYTE_SHIFT"), (49, .methodref 12 116), (0, .nameAndType 117 118), (0, u "compress"), (0, u "([CI[BII)I"), (3, u "([CII)[B"), (138, u "coderFromArrayLen"), (0, u "([BI)B"), (106, .class_ 371), (1, u "java/lang/StringUTF16$LinesSpliterator"), (58, u "MAX_LENGTH"), (196, .class_ 628), (0, u "java/lang/StringUTF16$CodePointsSpliterator"), (0, .class_ 630), (0, u "java/lang/StringUTF16$CharsSpliterator")] 4

def k10m0 : Method := { name := "<init>", desc := "()V", sig := { parameters := [], returnType := none }, accessFlags := 0, code := none }
def k10c1 : Code := { maxStack := 2, maxLocals := 2, code := jdk_52_method_15_code, exceptionTable := #[], attributes := #[] }
def k10m1 : Method := { name := "coderFromArrayLen", desc := "([BI)B", sig := { parameters := [(.array .byte), .int], returnType := some .byte }, accessFlags := 8, code := some k10c1 }
def k10c2 : Code := { maxStack := 5, maxLocals := 6, code := jdk_52_method_16_code, exceptionTable := #[], attributes := #[] }
def k10m2 : Method := { name := "compress", desc := "([CII)[B", sig := { parameters := [(.array .char), .int, .int], returnType := some (.array .byte) }, accessFlags := 9, code := some k10c2 }
def k10c3 : Code := { maxStack := 3, maxLocals := 7, code := jdk_52_method_21_code, exceptionTable := #[], attributes := #[] }
def k10m3 : Method := { name := "compress", desc := "([CI[BII)I", sig := { parameters := [(.array .char), .int, (.array .byte), .int, .int], returnType := some .int }, accessFlags := 9, code := some k10c3 }
/-- java/lang/StringUTF16 -/
def k10 : Class := { plain "java/lang/StringUTF16" (some 0) with
  accessFlags := 48
  interfaces := #[]
  cf := some (fileOf pool10 12 #[.nestMembers #[627, 629, 369]] #[{ accessFlags := 0, nameIndex := 9, descriptorIndex := 10, attributes := #[] }, { accessFlags := 8, nameIndex := 261, descriptorIndex := 262, attributes := #[] }, { accessFlags := 9, nameIndex := 117, descriptorIndex := 122, attributes := #[] }, { accessFlags := 9, nameIndex := 117, descriptorIndex := 118, attributes := #[] }] 48 6 #[] #[{ accessFlags := 26, nameIndex := 61, descriptorIndex := 62, attributes := #[] }, { accessFlags := 26, nameIndex := 65, descriptorIndex := 62, attributes := #[] }, { accessFlags := 24, nameIndex := 430, descriptorIndex := 62, attributes := #[] }, { accessFlags := 4120, nameIndex := 46, descriptorIndex := 47, attributes := #[] }])
  fields := #[{ name := "HI_BYTE_SHIFT", type := .int, accessFlags := 26, slot := 0, constantValue := 0 }, { name := "LO_BYTE_SHIFT", type := .int, accessFlags := 26, slot := 1, constantValue := 0 }, { name := "MAX_LENGTH", type := .int, accessFlags := 24, slot := 2, constantValue := 0 }, { name := "$assertionsDisabled", type := .boolean, accessFlags := 4120, slot := 3, constantValue := 0 }]
  methods := #[k10m0, k10m1, k10m2, k10m3]
  instanceTypes := #[]
  staticTypes := #[.int, .int, .int, .boolean]
  resolved := Array.replicate 635 none
  statics := none }

def pool11 : Array CpInfo := pool [(2, .class_ 4), (1, u "com/example/millrace/millrace/Cell$Type"), (1, u "Lcom/example/millrace/millrace/Cell$Type;"), (0, .methodref 8 9), (0, .class_ 10), (0, .nameAndType 11 12), (0, u "com/example/millrace/millrace/Cell"), (0, u "<init>"), (0, u "(Lcom/example/millrace/millrace/Cell$Type;[BLjava/lang/String;[BJ[BJ)V"), (0, .methodref 14 15), (0, .class_ 16), (0, .nameAndType 11 17), (0, u "java/lang/Object"), (0, u "()V"), (0, .fieldref 8 19), (0, .nameAndType 20 6), (0, u "type"), (0, .fieldref 8 22), (0, .nameAndType 23 24), (0, u "row"), (0, u "[B"), (0, .fieldref 8 26), (0, .nameAndType 27 28), (0, u "family"), (0, u "Ljava/lang/String;"), (0, .fieldref 8 30), (0, .nameAndType 31 24), (0, u "qualifier"), (0, .fieldref 8 33), (0, .nameAndType 34 35), (0, u "timestamp"), (0, u "J"), (0, .fieldref 8 37), (0, .nameAndType 38 24), (0, u "value"), (0, .fieldref 8 40), (0, .nameAndType 41 35), (0, u "sequenceId"), (2, u "EMPTY"), (13, u "COLUMN_ORDER"), (0, u "Ljava/util/Comparator;"), (52, u "()Ljava/lang/String;"), (6, u "qualifierBytes"), (0, u "()[B"), (9, u "STORE_ORDER"), (7, u "withSequenceId"), (0, u "(J[BLjava/lang/String;)Lcom/example/millrace/millrace/Cell;"), (0, u "()J"), (0, u "()Lcom/example/millrace/millrace/Cell$Type;"), (0, u "rowBytes"), (0, u "valueBytes")] 42

def k11c0 : Code := { maxStack := 3, maxLocals := 10, code := prog_1_method_2_code, exceptionTable := #[], attributes := #[] }
def k11m0 : Method := { name := "<init>", desc := "(Lcom/example/millrace/millrace/Cell$Type;[BLjava/lang/String;[BJ[BJ)V", sig := { parameters := [(.object "com/example/millrace/millrace/Cell$Type"), (.array .byte), (.object "java/lang/String"), (.array .byte), .long, (.array .byte), .long], returnType := none }, accessFlags := 0, code := some k11c0 }
def k11c1 : Code := { maxStack := 11, maxLocals := 5, code := prog_1_method_4_code, exceptionTable := #[], attributes := #[] }
def k11m1 : Method := { name := "withSequenceId", desc := "(J[BLjava/lang/String;)Lcom/example/millrace/millrace/Cell;", sig := { parameters := [.long, (.array .byte), (.object "java/lang/String")], returnType := some (.object "com/example/millrace/millrace/Cell") }, accessFlags := 0, code := some k11c1 }
def k11c2 : Code := { maxStack := 1, maxLocals := 1, code := prog_1_method_6_code, exceptionTable := #[], attributes := #[] }
def k11m2 : Method := { name := "family", desc := "()Ljava/lang/String;", sig := { parameters := [], returnType := some (.object "java/lang/String") }, accessFlags := 1, code := some k11c2 }
def k11c3 : Code := { maxStack := 2, maxLocals := 1, code := prog_1_method_8_code, exceptionTable := #[], attributes := #[] }
def k11m3 : Method := { name := "timestamp", desc := "()J", sig := { parameters := [], returnType := some .long }, accessFlags := 1, code := some k11c3 }
def k11c4 : Code := { maxStack := 1, maxLocals := 1, code := prog_1_method_10_code, exceptionTable := #[], attributes := #[] }
def k11m4 : Method := { name := "type", desc := "()Lcom/example/millrace/millrace/Cell$Type;", sig := { parameters := [], returnType := some (.object "com/example/millrace/millrace/Cell$Type") }, accessFlags := 0, code := some k11c4 }
def k11c5 : Code := { maxStack := 1, maxLocals := 1, code := prog_1_method_11_code, exceptionTable := #[], attributes := #[] }
def k11m5 : Method := { name := "rowBytes", desc := "()[B", sig := { parameters := [], returnType := some (.array .byte) }, accessFlags := 0, code := some k11c5 }
def k11c6 : Code := { maxStack := 1, maxLocals := 1, code := prog_1_method_12_code, exceptionTable := #[], attributes := #[] }
def k11m6 : Method := { name := "qualifierBytes", desc := "()[B", sig := { parameters := [], returnType := some (.array .byte) }, accessFlags := 0, code := some k11c6 }
def k11c7 : Code := { maxStack := 1, maxLocals := 1, code := prog_1_method_13_code, exceptionTable := #[], attributes := #[] }
def k11m7 : Method := { name := "valueBytes", desc := "()[B", sig := { parameters := [], returnType := some (.array .byte) }, accessFlags := 0, code := some k11c7 }
def k11c8 : Code := { maxStack := 2, maxLocals := 1, code := prog_1_method_14_code, exceptionTable := #[], attributes := #[] }
def k11m8 : Method := { name := "sequenceId", desc := "()J", sig := { parameters := [], returnType := some .long }, accessFlags := 0, code := some k11c8 }
/-- com/example/millrace/millrace/Cell -/
def k11 : Class := { plain "com/example/millrace/millrace/Cell" (some 0) with
  accessFlags := 49
  interfaces := #[]
  cf := some (fileOf pool11 8 #[.nestMembers #[2]] #[{ accessFlags := 0, nameIndex := 11, descriptorIndex := 12, attributes := #[] }, { accessFlags := 0, nameIndex := 138, descriptorIndex := 139, attributes := #[] }, { accessFlags := 1, nameIndex := 27, descriptorIndex := 112, attributes := #[] }, { accessFlags := 1, nameIndex := 34, descriptorIndex := 140, attributes := #[] }, { accessFlags := 0, nameIndex := 20, descriptorIndex := 141, attributes := #[] }, { accessFlags := 0, nameIndex := 142, descriptorIndex := 120, attributes := #[] }, { accessFlags := 0, nameIndex := 119, descriptorIndex := 120, attributes := #[] }, { accessFlags := 0, nameIndex := 143, descriptorIndex := 120, attributes := #[] }, { accessFlags := 0, nameIndex := 41, descriptorIndex := 140, attributes := #[] }] 49 14 #[] #[{ accessFlags := 24, nameIndex := 58, descriptorIndex := 59, attributes := #[] }, { accessFlags := 24, nameIndex := 130, descriptorIndex := 59, attributes := #[] }, { accessFlags := 26, nameIndex := 44, descriptorIndex := 24, attributes := #[] }, { accessFlags := 18, nameIndex := 20, descriptorIndex := 6, attributes := #[] }, { accessFlags := 18, nameIndex := 23, descriptorIndex := 24, attributes := #[] }, { accessFlags := 18, nameIndex := 27, descriptorIndex := 28, attributes := #[] }, { accessFlags := 18, nameIndex := 31, descriptorIndex := 24, attributes := #[] }, { accessFlags := 18, nameIndex := 34, descriptorIndex := 35, attributes := #[] }, { accessFlags := 18, nameIndex := 38, descriptorIndex := 24, attributes := #[] }, { accessFlags := 18, nameIndex := 41, descriptorIndex := 35, attributes := #[] }])
  fields := #[{ name := "COLUMN_ORDER", type := (.object "java/util/Comparator"), accessFlags := 24, slot := 0, constantValue := 0 }, { name := "STORE_ORDER", type := (.object "java/util/Comparator"), accessFlags := 24, slot := 1, constantValue := 0 }, { name := "EMPTY", type := (.array .byte), accessFlags := 26, slot := 2, constantValue := 0 }, { name := "type", type := (.object "com/example/millrace/millrace/Cell$Type"), accessFlags := 18, slot := 0, constantValue := 0 }, { name := "row", type := (.array .byte), accessFlags := 18, slot := 1, constantValue := 0 }, { name := "family", type := (.object "java/lang/String"), accessFlags := 18, slot := 2, constantValue := 0 }, { name := "qualifier", type := (.array .byte), accessFlags := 18, slot := 3, constantValue := 0 }, { name := "timestamp", type := .long, accessFlags := 18, slot := 4, constantValue := 0 }, { name := "value", type := (.array .byte), accessFlags := 18, slot := 5, constantValue := 0 }, { name := "sequenceId", type := .long, accessFlags := 18, slot := 6, constantValue := 0 }]
  methods := #[k11m0, k11m1, k11m2, k11m3, k11m4, k11m5, k11m6, k11m7, k11m8]
  instanceTypes := #[(.object "com/example/millrace/millrace/Cell$Type"), (.array .byte), (.object "java/lang/String"), (.array .byte), .long, (.array .byte), .long]
  staticTypes := #[(.object "java/util/Comparator"), (.object "java/util/Comparator"), (.array .byte)]
  resolved := Array.replicate 186 none
  statics := none }

def pool12 : Array CpInfo := pool [(4, .class_ 6), (1, u "java/lang/Object"), (0, u "<init>"), (0, u "()V"), (5, .class_ 16), (1, u "java/lang/StringLatin1"), (104, u "$assertionsDisabled"), (0, u "Z"), (98, .class_ 223), (1, u "java/lang/StringLatin1$LinesSpliterator"), (166, .class_ 391), (0, u "java/lang/StringLatin1$CharsSpliterator")] 3

def k12m0 : Method := { name := "<init>", desc := "()V", sig := { parameters := [], returnType := none }, accessFlags := 0, code := none }
/-- java/lang/StringLatin1 -/
def k12 : Class := { plain "java/lang/StringLatin1" (some 0) with
  accessFlags := 48
  interfaces := #[]
  cf := some (fileOf pool12 14 #[.nestMembers #[390, 221]] #[{ accessFlags := 0, nameIndex := 7, descriptorIndex := 8, attributes := #[] }] 48 4 #[] #[{ accessFlags := 4120, nameIndex := 121, descriptorIndex := 122, attributes := #[] }])
  fields := #[{ name := "$assertionsDisabled", type := .boolean, accessFlags := 4120, slot := 0, constantValue := 0 }]
  methods := #[k12m0]
  instanceTypes := #[]
  staticTypes := #[.boolean]
  resolved := Array.replicate 395 none
  statics := none }

def pool13 : Array CpInfo := pool [(2, .class_ 4), (1, u "java/lang/Object"), (0, u "<init>"), (0, u "()V"), (17, .class_ 26), (1, u "jdk/internal/util/Preconditions"), (28, .class_ 56), (0, u "jdk/internal/util/Preconditions$4"), (57, .class_ 115), (0, u "jdk/internal/util/Preconditions$1"), (7, u "SIOOBE_FORMATTER"), (0, u "Ljava/util/function/BiFunction;"), (0, .class_ 126), (0, u "jdk/internal/util/Preconditions$2"), (3, u "AIOOBE_FORMATTER"), (0, .class_ 132), (0, u "jdk/internal/util/Preconditions$3"), (3, u "IOOBE_FORMATTER")] 57

def k13m0 : Method := { name := "<init>", desc := "()V", sig := { parameters := [], returnType := none }, accessFlags := 1, code := none }
/-- jdk/internal/util/Preconditions -/
def k13 : Class := { plain "jdk/internal/util/Preconditions" (some 0) with
  accessFlags := 33
  interfaces := #[]
  cf := some (fileOf pool13 24 #[.nestMembers #[55, 131, 125, 114]] #[{ accessFlags := 1, nameIndex := 5, descriptorIndex := 6, attributes := #[] }] 33 2 #[] #[{ accessFlags := 25, nameIndex := 123, descriptorIndex := 124, attributes := #[] }, { accessFlags := 25, nameIndex := 130, descriptorIndex := 124, attributes := #[] }, { accessFlags := 25, nameIndex := 136, descriptorIndex := 124, attributes := #[] }])
  fields := #[{ name := "SIOOBE_FORMATTER", type := (.object "java/util/function/BiFunction"), accessFlags := 25, slot := 0, constantValue := 0 }, { name := "AIOOBE_FORMATTER", type := (.object "java/util/function/BiFunction"), accessFlags := 25, slot := 1, constantValue := 0 }, { name := "IOOBE_FORMATTER", type := (.object "java/util/function/BiFunction"), accessFlags := 25, slot := 2, constantValue := 0 }]
  methods := #[k13m0]
  instanceTypes := #[]
  staticTypes := #[(.object "java/util/function/BiFunction"), (.object "java/util/function/BiFunction"), (.object "java/util/function/BiFunction")]
  resolved := Array.replicate 194 none
  statics := some 2 }

def pool14 : Array CpInfo := pool [(9, u "<init>"), (6, .class_ 18), (1, u "java/lang/Object"), (0, u "()V"), (1, .class_ 23), (1, u "jdk/internal/util/ArraysSupport"), (0, u "LOG2_ARRAY_LONG_INDEX_SCALE"), (0, u "I"), (2, u "U"), (0, u "Ljdk/internal/misc/Unsafe;"), (8, u "BIG_ENDIAN"), (0, u "Z"), (8, u "LOG2_BYTE_BIT_SIZE"), (4, u "LOG2_ARRAY_INT_INDEX_SCALE"), (54, u "JLA"), (0, u "Ljdk/internal/access/JavaLangAccess;"), (11, u "LOG2_ARRAY_BOOLEAN_INDEX_SCALE"), (9, u "LOG2_ARRAY_BYTE_INDEX_SCALE"), (5, u "LOG2_ARRAY_CHAR_INDEX_SCALE"), (5, u "LOG2_ARRAY_SHORT_INDEX_SCALE"), (18, u "LOG2_ARRAY_FLOAT_INDEX_SCALE"), (24, u "LOG2_ARRAY_DOUBLE_INDEX_SCALE"), (89, u "T_BOOLEAN"), (2, u "T_CHAR"), (1, u "T_FLOAT"), (1, u "T_DOUBLE"), (1, u "T_BYTE"), (1, u "T_SHORT"), (1, u "T_INT"), (1, u "T_LONG"), (1, u "SOFT_MAX_ARRAY_LENGTH")] 83

def k14m0 : Method := { name := "<init>", desc := "()V", sig := { parameters := [], returnType := none }, accessFlags := 2, code := none }
/-- jdk/internal/util/ArraysSupport -/
def k14 : Class := { plain "jdk/internal/util/ArraysSupport" (some 0) with
  accessFlags := 33
  interfaces := #[]
  cf := some (fileOf pool14 21 #[] #[{ accessFlags := 2, nameIndex := 9, descriptorIndex := 19, attributes := #[] }] 33 16 #[] #[{ accessFlags := 24, nameIndex := 28, descriptorIndex := 29, attributes := #[] }, { accessFlags := 26, nameIndex := 38, descriptorIndex := 39, attributes := #[] }, { accessFlags := 25, nameIndex := 121, descriptorIndex := 25, attributes := #[] }, { accessFlags := 25, nameIndex := 131, descriptorIndex := 25, attributes := #[] }, { accessFlags := 25, nameIndex := 137, descriptorIndex := 25, attributes := #[] }, { accessFlags := 25, nameIndex := 143, descriptorIndex := 25, attributes := #[] }, { accessFlags := 25, nameIndex := 53, descriptorIndex := 25, attributes := #[] }, { accessFlags := 25, nameIndex := 24, descriptorIndex := 25, attributes := #[] }, { accessFlags := 25, nameIndex := 162, descriptorIndex := 25, attributes := #[] }, { accessFlags := 25, nameIndex := 187, descriptorIndex := 25, attributes := #[] }, { accessFlags := 26, nameIndex := 48, descriptorIndex := 25, attributes := #[] }, { accessFlags := 25, nameIndex := 277, descriptorIndex := 25, attributes := #[] }, { accessFlags := 25, nameIndex := 280, descriptorIndex := 25, attributes := #[] }, { accessFlags := 25, nameIndex := 282, descriptorIndex := 25, attributes := #[] }, { accessFlags := 25, nameIndex := 284, descriptorIndex := 25, attributes := #[] }, { accessFlags := 25, nameIndex := 286, descriptorIndex := 25, attributes := #[] }, { accessFlags := 25, nameIndex := 288, descriptorIndex := 25, attributes := #[] }, { accessFlags := 25, nameIndex := 290, descriptorIndex := 25, attributes := #[] }, { accessFlags := 25, nameIndex := 292, descriptorIndex := 25, attributes := #[] }, { accessFlags := 26, nameIndex := 108, descriptorIndex := 109, attributes := #[] }, { accessFlags := 25, nameIndex := 294, descriptorIndex := 25, attributes := #[] }])
  fields := #[{ name := "U", type := (.object "jdk/internal/misc/Unsafe"), accessFlags := 24, slot := 0, constantValue := 0 }, { name := "BIG_ENDIAN", type := .boolean, accessFlags := 26, slot := 1, constantValue := 0 }, { name := "LOG2_ARRAY_BOOLEAN_INDEX_SCALE", type := .int, accessFlags := 25, slot := 2, constantValue := 0 }, { name := "LOG2_ARRAY_BYTE_INDEX_SCALE", type := .int, accessFlags := 25, slot := 3, constantValue := 0 }, { name := "LOG2_ARRAY_CHAR_INDEX_SCALE", type := .int, accessFlags := 25, slot := 4, constantValue := 0 }, { name := "LOG2_ARRAY_SHORT_INDEX_SCALE", type := .int, accessFlags := 25, slot := 5, constantValue := 0 }, { name := "LOG2_ARRAY_INT_INDEX_SCALE", type := .int, accessFlags := 25, slot := 6, constantValue := 0 }, { name := "LOG2_ARRAY_LONG_INDEX_SCALE", type := .int, accessFlags := 25, slot := 7, constantValue := 0 }, { name := "LOG2_ARRAY_FLOAT_INDEX_SCALE", type := .int, accessFlags := 25, slot := 8, constantValue := 0 }, { name := "LOG2_ARRAY_DOUBLE_INDEX_SCALE", type := .int, accessFlags := 25, slot := 9, constantValue := 0 }, { name := "LOG2_BYTE_BIT_SIZE", type := .int, accessFlags := 26, slot := 10, constantValue := 0 }, { name := "T_BOOLEAN", type := .int, accessFlags := 25, slot := 11, constantValue := 0 }, { name := "T_CHAR", type := .int, accessFlags := 25, slot := 12, constantValue := 0 }, { name := "T_FLOAT", type := .int, accessFlags := 25, slot := 13, constantValue := 0 }, { name := "T_DOUBLE", type := .int, accessFlags := 25, slot := 14, constantValue := 0 }, { name := "T_BYTE", type := .int, accessFlags := 25, slot := 15, constantValue := 0 }, { name := "T_SHORT", type := .int, accessFlags := 25, slot := 16, constantValue := 0 }, { name := "T_INT", type := .int, accessFlags := 25, slot := 17, constantValue := 0 }, { name := "T_LONG", type := .int, accessFlags := 25, slot := 18, constantValue := 0 }, { name := "JLA", type := (.object "jdk/internal/access/JavaLangAccess"), accessFlags := 26, slot := 19, constantValue := 0 }, { name := "SOFT_MAX_ARRAY_LENGTH", type := .int, accessFlags := 25, slot := 20, constantValue := 0 }]
  methods := #[k14m0]
  instanceTypes := #[]
  staticTypes := #[(.object "jdk/internal/misc/Unsafe"), .boolean, .int, .int, .int, .int, .int, .int, .int, .int, .int, .int, .int, .int, .int, .int, .int, .int, .int, (.object "jdk/internal/access/JavaLangAccess"), .int]
  resolved := Array.replicate 378 none
  statics := none }

def pool15 : Array CpInfo := pool [(1, u "java/lang/Cloneable"), (0, .class_ 1), (0, u "java/lang/Object"), (0, .class_ 3)] 3

/-- java/lang/Cloneable -/
def k15 : Class := { plain "java/lang/Cloneable" (some 0) with
  accessFlags := 1537
  interfaces := #[]
  cf := some (fileOf pool15 2 #[] #[] 1537 4 #[] #[])
  fields := #[]
  methods := #[]
  instanceTypes := #[]
  staticTypes := #[]
  resolved := Array.replicate 8 none
  statics := none }

/-- the primitive byte -/
def k16 : Class := { plain "byte" none with kind := .primitive 'B', accessFlags := 0x411 }
/-- [B -/
def k17 : Class := { plain "[B" (some 0) with kind := .array 16 .byte, interfaces := #[15, 4], accessFlags := 1041 }

/-- the primitive char -/
def k18 : Class := { plain "char" none with kind := .primitive 'C', accessFlags := 0x411 }
/-- [C -/
def k19 : Class := { plain "[C" (some 0) with kind := .array 18 .char, interfaces := #[15, 4], accessFlags := 1041 }

/-- the primitive int -/
def k20 : Class := { plain "int" none with kind := .primitive 'I', accessFlags := 0x411 }
/-- [I -/
def k21 : Class := { plain "[I" (some 0) with kind := .array 20 .int, interfaces := #[15, 4], accessFlags := 1041 }

def heap : Heap := #[{ cls := 6, slots := #[.ref 3, .ref 4, .ref 5, .ref 6, .null], vm := .statics 6 },
  { cls := 9, slots := #[.long 0, .int 1, .null, .int 0, .null, .int 0, .int 0], vm := .statics 9 },
  { cls := 13, slots := #[.null, .null, .null], vm := .statics 13 },
  { cls := 6, slots := #[.null, .int 0, .int 0, .int 3], vm := .none },
  { cls := 6, slots := #[.null, .int 1, .int 0, .int 2], vm := .none },
  { cls := 6, slots := #[.null, .int 2, .int 0, .int 1], vm := .none },
  { cls := 6, slots := #[.null, .int 3, .int 0, .int 0], vm := .none }]
def classes : Array Class := #[k0, k1, k2, k3, k4, k5, k6, k7, k8, k9, k10, k11, k12, k13, k14, k15, k16, k17, k18, k19, k20, k21]
def interned : List (Array UInt16 × Addr) := []
def slotsUsed : Nat := 31
def theMethod : MethodId := ⟨1, 2⟩
def args0 : Array Value := #[.int 5, .long 1, .long 2, .long 3, .int 7, .int 9]
def aboutOver (below : List Frame) : State where
  vm := { classes := classes, interned := interned.toArray }
  heap := heap
  slotsUsed := slotsUsed
  threads := #[{ frames := .invoking theMethod args0 :: below }]
def below0 : List Frame := [.native { method := ⟨0, 0⟩, args := #[] }]
def about1 : State := aboutOver below0
def p0 : Program := .bare "" "" ""
def e0 : Env := launch0.env 0 0 0
theorem w_frames : about1.frames = Frame.invoking theMethod args0 :: below0 := rfl
set_option maxRecDepth 65536 in
theorem w_args : argsFit about1.vm theMethod args0 = true := by decide +kernel
set_option maxRecDepth 65536 in
theorem w_heap : heapFits about1 = true := by decide +kernel
set_option maxRecDepth 65536 in
theorem w_runnable : about1.curStatus? = some .runnable := by decide +kernel
set_option maxRecDepth 65536 in
theorem w_alone : about1.alone = true := by decide +kernel
set_option maxRecDepth 65536 in
theorem w_named : about1.methodNamed? x = some theMethod := by decide +kernel
set_option maxRecDepth 65536 in
theorem w_hears : about1.hears theMethod below0 = true := by decide +kernel
set_option maxRecDepth 65536 in
theorem w_ripe : about1.ripe theMethod args0 below0 = true := by decide +kernel
theorem w_running : about1.status = .running := rfl
set_option maxRecDepth 65536 in
theorem w_room : about1.hasRoom e0.platform room_1 = true :=
  launch0.hasRoom_least _ room_1 (by decide +kernel) (by decide +kernel) (by decide +kernel) (by decide +kernel) (by decide +kernel) (by decide +kernel)
theorem allAtoms_all (ts : List Jvm.Cond) (a : Array Jvm.Value) (st : Jvm.State) : (allAtoms ts).before a st = ts.all (fun c => c.before a st) := by
  induction ts with
  | nil => rfl
  | cons c t ih =>
    show (Jvm.Cond.and c (allAtoms t)).before a st = _
    rw [Jvm.Cond.before_and, ih, List.all_cons]
def words1 : List Jvm.Cond := Jvm.Cond.code x code maxLocals ret :: tables_1
/-- a 'code' word, met by the world's own term for the bytes: nothing is compared byte by byte -/
theorem code_word {y : MethodName} {bytes : ByteArray} {mx : Nat} {rt : Option FieldType} {a : Array Value} {s : State} {m : MethodId} {meth : Method} {c : Code} (h1 : s.methodNamed? y = some m) (h2 : s.vm.method? m = some meth) (h3 : meth.code = some c) (h4 : c.code = bytes)
    (h5 : (c.maxLocals == mx && c.exceptionTable.isEmpty && decide (c.maxStack ≤ mostOperands) && decide (meth.sig.returnType = rt) && !meth.locks && decide (parseMethodDescriptor y.desc = some meth.sig)) = true) : (Jvm.Cond.code y bytes mx rt).before a s = true := by
  simp only [Bool.and_eq_true, beq_iff_eq, Bool.not_eq_true', decide_eq_true_eq] at h5
  obtain ⟨⟨⟨⟨⟨g1, g2⟩, g3⟩, g4⟩, g5⟩, g6⟩ := h5
  simp [Cond.before, Cond.holds, Cond.value, h1, h2, h3, h4, g1, g2, g3, g4, g5, g6]
def isCode : Jvm.Cond → Bool
  | .code _ _ _ _ => true
  | _ => false
theorem all_split {L : List Jvm.Cond} {P : Jvm.Cond → Bool} (h1 : L.all (fun c => isCode c || P c) = true) (h2 : ∀ c ∈ L.filter isCode, P c = true) : L.all P = true := by
  refine List.all_eq_true.mpr fun c hc => ?_
  have h := List.all_eq_true.mp h1 c hc
  rcases Bool.eq_false_or_eq_true (isCode c) with hi | hi
  · exact h2 c (List.mem_filter.mpr ⟨hc, hi⟩)
  · simpa [hi] using h
set_option maxRecDepth 65536 in
theorem w_c0 : (Jvm.Cond.code x code maxLocals ret).before args0 about1 = true := code_word (m := ⟨1, 2⟩) (meth := k1m2) (c := k1c2) (by decide +kernel) rfl rfl rfl (by decide +kernel)
set_option maxRecDepth 65536 in
theorem w_c1 : (Jvm.Cond.code ({ cls := "com/example/millrace/millrace/CellWithSequenceIdPinLaw", name := "pick", desc := "(I)Lcom/example/millrace/millrace/Cell$Type;" } : Jvm.MethodName) method_2_code (1 : Nat) (Option.some (Jvm.ClassFile.FieldType.object "com/example/millrace/millrace/Cell$Type"))).before args0 about1 = true := code_word (m := ⟨1, 1⟩) (meth := k1m1) (c := k1c1) (by decide +kernel) rfl rfl rfl (by decide +kernel)
set_option maxRecDepth 65536 in
theorem w_c2 : (Jvm.Cond.code ({ cls := "java/lang/String", name := "<init>", desc := "([C)V" } : Jvm.MethodName) jdk_42_method_3_code (2 : Nat) (Option.none : Option Jvm.ClassFile.FieldType)).before args0 about1 = true := code_word (m := ⟨9, 1⟩) (meth := k9m1) (c := k9c1) (by decide +kernel) rfl rfl rfl (by decide +kernel)
set_option maxRecDepth 65536 in
theorem w_c3 : (Jvm.Cond.code ({ cls := "java/lang/String", name := "<init>", desc := "([CIILjava/lang/Void;)V" } : Jvm.MethodName) jdk_42_method_149_code (6 : Nat) (Option.none : Option Jvm.ClassFile.FieldType)).before args0 about1 = true := code_word (m := ⟨9, 2⟩) (meth := k9m2) (c := k9c2) (by decide +kernel) rfl rfl rfl (by decide +kernel)
set_option maxRecDepth 65536 in
theorem w_c4 : (Jvm.Cond.code ({ cls := "java/lang/Object", name := "<init>", desc := "()V" } : Jvm.MethodName) object_method_1_code (1 : Nat) (Option.none : Option Jvm.ClassFile.FieldType)).before args0 about1 = true := code_word (m := ⟨0, 0⟩) (meth := k0m0) (c := k0c0) (by decide +kernel) rfl rfl rfl (by decide +kernel)
set_option maxRecDepth 65536 in
theorem w_c5 : (Jvm.Cond.code ({ cls := "java/lang/StringUTF16", name := "compress", desc := "([CII)[B" } : Jvm.MethodName) jdk_52_method_16_code (6 : Nat) (Option.some (Jvm.ClassFile.FieldType.array Jvm.ClassFile.FieldType.byte))).before args0 about1 = true := code_word (m := ⟨10, 2⟩) (meth := k10m2) (c := k10c2) (by decide +kernel) rfl rfl rfl (by decide +kernel)
set_option maxRecDepth 65536 in
theorem w_c6 : (Jvm.Cond.code ({ cls := "java/lang/StringUTF16", name := "compress", desc := "([CI[BII)I" } : Jvm.MethodName) jdk_52_method_21_code (7 : Nat) (Option.some Jvm.ClassFile.FieldType.int)).before args0 about1 = true := code_word (m := ⟨10, 3⟩) (meth := k10m3) (c := k10c3) (by decide +kernel) rfl rfl rfl (by decide +kernel)
set_option maxRecDepth 65536 in
theorem w_c7 : (Jvm.Cond.code ({ cls := "java/lang/StringUTF16", name := "coderFromArrayLen", desc := "([BI)B" } : Jvm.MethodName) jdk_52_method_15_code (2 : Nat) (Option.some Jvm.ClassFile.FieldType.byte)).before args0 about1 = true := code_word (m := ⟨10, 1⟩) (meth := k10m1) (c := k10c1) (by decide +kernel) rfl rfl rfl (by decide +kernel)
set_option maxRecDepth 65536 in
theorem w_c8 : (Jvm.Cond.code ({ cls := "com/example/millrace/millrace/Cell", name := "<init>", desc := "(Lcom/example/millrace/millrace/Cell$Type;[BLjava/lang/String;[BJ[BJ)V" } : Jvm.MethodName) prog_1_method_2_code (10 : Nat) (Option.none : Option Jvm.ClassFile.FieldType)).before args0 about1 = true := code_word (m := ⟨11, 0⟩) (meth := k11m0) (c := k11c0) (by decide +kernel) rfl rfl rfl (by decide +kernel)
set_option maxRecDepth 65536 in
theorem w_c9 : (Jvm.Cond.code ({ cls := "com/example/millrace/millrace/Cell", name := "withSequenceId", desc := "(J[BLjava/lang/String;)Lcom/example/millrace/millrace/Cell;" } : Jvm.MethodName) prog_1_method_4_code (5 : Nat) (Option.some (Jvm.ClassFile.FieldType.object "com/example/millrace/millrace/Cell"))).before args0 about1 = true := code_word (m := ⟨11, 1⟩) (meth := k11m1) (c := k11c1) (by decide +kernel) rfl rfl rfl (by decide +kernel)
set_option maxRecDepth 65536 in
theorem w_c10 : (Jvm.Cond.code ({ cls := "com/example/millrace/millrace/Cell", name := "type", desc := "()Lcom/example/millrace/millrace/Cell$Type;" } : Jvm.MethodName) prog_1_method_10_code (1 : Nat) (Option.some (Jvm.ClassFile.FieldType.object "com/example/millrace/millrace/Cell$Type"))).before args0 about1 = true := code_word (m := ⟨11, 4⟩) (meth := k11m4) (c := k11c4) (by decide +kernel) rfl rfl rfl (by decide +kernel)
set_option maxRecDepth 65536 in
theorem w_c11 : (Jvm.Cond.code ({ cls := "com/example/millrace/millrace/Cell", name := "rowBytes", desc := "()[B" } : Jvm.MethodName) prog_1_method_11_code (1 : Nat) (Option.some (Jvm.ClassFile.FieldType.array Jvm.ClassFile.FieldType.byte))).before args0 about1 = true := code_word (m := ⟨11, 5⟩) (meth := k11m5) (c := k11c5) (by decide +kernel) rfl rfl rfl (by decide +kernel)
set_option maxRecDepth 65536 in
theorem w_c12 : (Jvm.Cond.code ({ cls := "com/example/millrace/millrace/Cell", name := "family", desc := "()Ljava/lang/String;" } : Jvm.MethodName) prog_1_method_6_code (1 : Nat) (Option.some (Jvm.ClassFile.FieldType.object "java/lang/String"))).before args0 about1 = true := code_word (m := ⟨11, 2⟩) (meth := k11m2) (c := k11c2) (by decide +kernel) rfl rfl rfl (by decide +kernel)
set_option maxRecDepth 65536 in
theorem w_c13 : (Jvm.Cond.code ({ cls := "com/example/millrace/millrace/Cell", name := "qualifierBytes", desc := "()[B" } : Jvm.MethodName) prog_1_method_12_code (1 : Nat) (Option.some (Jvm.ClassFile.FieldType.array Jvm.ClassFile.FieldType.byte))).before args0 about1 = true := code_word (m := ⟨11, 6⟩) (meth := k11m6) (c := k11c6) (by decide +kernel) rfl rfl rfl (by decide +kernel)
set_option maxRecDepth 65536 in
theorem w_c14 : (Jvm.Cond.code ({ cls := "com/example/millrace/millrace/Cell", name := "timestamp", desc := "()J" } : Jvm.MethodName) prog_1_method_8_code (1 : Nat) (Option.some Jvm.ClassFile.FieldType.long)).before args0 about1 = true := code_word (m := ⟨11, 3⟩) (meth := k11m3) (c := k11c3) (by decide +kernel) rfl rfl rfl (by decide +kernel)
set_option maxRecDepth 65536 in
theorem w_c15 : (Jvm.Cond.code ({ cls := "com/example/millrace/millrace/Cell", name := "valueBytes", desc := "()[B" } : Jvm.MethodName) prog_1_method_13_code (1 : Nat) (Option.some (Jvm.ClassFile.FieldType.array Jvm.ClassFile.FieldType.byte))).before args0 about1 = true := code_word (m := ⟨11, 7⟩) (meth := k11m7) (c := k11c7) (by decide +kernel) rfl rfl rfl (by decide +kernel)
set_option maxRecDepth 65536 in
theorem w_c16 : (Jvm.Cond.code ({ cls := "com/example/millrace/millrace/Cell", name := "sequenceId", desc := "()J" } : Jvm.MethodName) prog_1_method_14_code (1 : Nat) (Option.some Jvm.ClassFile.FieldType.long)).before args0 about1 = true := code_word (m := ⟨11, 8⟩) (meth := k11m8) (c := k11c8) (by decide +kernel) rfl rfl rfl (by decide +kernel)
def codes1 : List Jvm.Cond := [Jvm.Cond.code x code maxLocals ret, Jvm.Cond.code ({ cls := "com/example/millrace/millrace/CellWithSequenceIdPinLaw", name := "pick", desc := "(I)Lcom/example/millrace/millrace/Cell$Type;" } : Jvm.MethodName) method_2_code (1 : Nat) (Option.some (Jvm.ClassFile.FieldType.object "com/example/millrace/millrace/Cell$Type")), Jvm.Cond.code ({ cls := "java/lang/String", name := "<init>", desc := "([C)V" } : Jvm.MethodName) jdk_42_method_3_code (2 : Nat) (Option.none : Option Jvm.ClassFile.FieldType), Jvm.Cond.code ({ cls := "java/lang/String", name := "<init>", desc := "([CIILjava/lang/Void;)V" } : Jvm.MethodName) jdk_42_method_149_code (6 : Nat) (Option.none : Option Jvm.ClassFile.FieldType), Jvm.Cond.code ({ cls := "java/lang/Object", name := "<init>", desc := "()V" } : Jvm.MethodName) object_method_1_code (1 : Nat) (Option.none : Option Jvm.ClassFile.FieldType), Jvm.Cond.code ({ cls := "java/lang/StringUTF16", name := "compress", desc := "([CII)[B" } : Jvm.MethodName) jdk_52_method_16_code (6 : Nat) (Option.some (Jvm.ClassFile.FieldType.array Jvm.ClassFile.FieldType.byte)), Jvm.Cond.code ({ cls := "java/lang/StringUTF16", name := "compress", desc := "([CI[BII)I" } : Jvm.MethodName) jdk_52_method_21_code (7 : Nat) (Option.some Jvm.ClassFile.FieldType.int), Jvm.Cond.code ({ cls := "java/lang/StringUTF16", name := "coderFromArrayLen", desc := "([BI)B" } : Jvm.MethodName) jdk_52_method_15_code (2 : Nat) (Option.some Jvm.ClassFile.FieldType.byte), Jvm.Cond.code ({ cls := "com/example/millrace/millrace/Cell", name := "<init>", desc := "(Lcom/example/millrace/millrace/Cell$Type;[BLjava/lang/String;[BJ[BJ)V" } : Jvm.MethodName) prog_1_method_2_code (10 : Nat) (Option.none : Option Jvm.ClassFile.FieldType), Jvm.Cond.code ({ cls := "com/example/millrace/millrace/Cell", name := "withSequenceId", desc := "(J[BLjava/lang/String;)Lcom/example/millrace/millrace/Cell;" } : Jvm.MethodName) prog_1_method_4_code (5 : Nat) (Option.some (Jvm.ClassFile.FieldType.object "com/example/millrace/millrace/Cell")), Jvm.Cond.code ({ cls := "com/example/millrace/millrace/Cell", name := "type", desc := "()Lcom/example/millrace/millrace/Cell$Type;" } : Jvm.MethodName) prog_1_method_10_code (1 : Nat) (Option.some (Jvm.ClassFile.FieldType.object "com/example/millrace/millrace/Cell$Type")), Jvm.Cond.code ({ cls := "com/example/millrace/millrace/Cell", name := "rowBytes", desc := "()[B" } : Jvm.MethodName) prog_1_method_11_code (1 : Nat) (Option.some (Jvm.ClassFile.FieldType.array Jvm.ClassFile.FieldType.byte)), Jvm.Cond.code ({ cls := "com/example/millrace/millrace/Cell", name := "family", desc := "()Ljava/lang/String;" } : Jvm.MethodName) prog_1_method_6_code (1 : Nat) (Option.some (Jvm.ClassFile.FieldType.object "java/lang/String")), Jvm.Cond.code ({ cls := "com/example/millrace/millrace/Cell", name := "qualifierBytes", desc := "()[B" } : Jvm.MethodName) prog_1_method_12_code (1 : Nat) (Option.some (Jvm.ClassFile.FieldType.array Jvm.ClassFile.FieldType.byte)), Jvm.Cond.code ({ cls := "com/example/millrace/millrace/Cell", name := "timestamp", desc := "()J" } : Jvm.MethodName) prog_1_method_8_code (1 : Nat) (Option.some Jvm.ClassFile.FieldType.long), Jvm.Cond.code ({ cls := "com/example/millrace/millrace/Cell", name := "valueBytes", desc := "()[B" } : Jvm.MethodName) prog_1_method_13_code (1 : Nat) (Option.some (Jvm.ClassFile.FieldType.array Jvm.ClassFile.FieldType.byte)), Jvm.Cond.code ({ cls := "com/example/millrace/millrace/Cell", name := "sequenceId", desc := "()J" } : Jvm.MethodName) prog_1_method_14_code (1 : Nat) (Option.some Jvm.ClassFile.FieldType.long)]
set_option maxRecDepth 65536 in
theorem codes_eq : words1.filter isCode = codes1 := rfl
theorem w_codes : ∀ c ∈ words1.filter isCode, c.before args0 about1 = true := by
  rw [codes_eq]
  intro c hc
  simp only [codes1, List.mem_cons, List.not_mem_nil, or_false] at hc
  rcases hc with rfl | rfl | rfl | rfl | rfl | rfl | rfl | rfl | rfl | rfl | rfl | rfl | rfl | rfl | rfl | rfl | rfl
  · exact w_c0
  · exact w_c1
  · exact w_c2
  · exact w_c3
  · exact w_c4
  · exact w_c5
  · exact w_c6
  · exact w_c7
  · exact w_c8
  · exact w_c9
  · exact w_c10
  · exact w_c11
  · exact w_c12
  · exact w_c13
  · exact w_c14
  · exact w_c15
  · exact w_c16
set_option maxRecDepth 65536 in
theorem w_t1 : (words1.take 24).all (fun c => isCode c || c.before args0 about1) = true := by decide +kernel
set_option maxRecDepth 65536 in
theorem w_t2 : ((words1.drop 24).take 24).all (fun c => isCode c || c.before args0 about1) = true := by decide +kernel
set_option maxRecDepth 65536 in
theorem w_t3 : (((words1.drop 24).drop 24).take 24).all (fun c => isCode c || c.before args0 about1) = true := by decide +kernel
set_option maxRecDepth 65536 in
theorem w_t4 : ((((words1.drop 24).drop 24).drop 24).take 24).all (fun c => isCode c || c.before args0 about1) = true := by decide +kernel
set_option maxRecDepth 65536 in
theorem w_t5 : ((((words1.drop 24).drop 24).drop 24).drop 24).all (fun c => isCode c || c.before args0 about1) = true := by decide +kernel
theorem w_tables : (allAtoms (Jvm.Cond.code x code maxLocals ret :: tables_1)).before args0 about1 = true := by
  rw [allAtoms_all]
  show words1.all (fun c => c.before args0 about1) = true
  refine all_split ?_ w_codes
  rw [← List.take_append_drop 24 words1, List.all_append, w_t1, ← List.take_append_drop 24 (words1.drop 24), List.all_append, w_t2, ← List.take_append_drop 24 ((words1.drop 24).drop 24), List.all_append, w_t3, ← List.take_append_drop 24 (((words1.drop 24).drop 24).drop 24), List.all_append, w_t4, w_t5]
  rfl
set_option maxRecDepth 65536 in
theorem w_rest : rest_1_c.before args0 about1 = true := by decide +kernel
set_option maxRecDepth 65536 in
theorem w_case : (Jvm.Cond.and given_1 narrow_1).before args0 about1 = true := by decide +kernel
theorem w_applies : (headSpec (Jvm.Cond.code x code maxLocals ret :: tables_1) room_1).applies x e0.platform about1 = true :=
  (Spec.applies_iff w_frames).mpr ⟨w_running, w_runnable, w_alone, w_named, w_hears, w_ripe, w_room, w_tables⟩
theorem atStart : AtStart classFile x code maxLocals ret World_1 tables_1 room_1 Calls_1 rest_1 Pre_1 launch0 p0 e0 about1 theMethod args0 below0 :=
  ⟨lists_1, trivial, launch0.admits_env _ _ _, launch0.least_env, fairChoices_fair.cas, fairChoices_fair.clock, w_frames, w_args, w_heap, w_applies, trivial, w_rest, w_case⟩
end start1
theorem witness_1 : WitnessClaimed_1 := ⟨start1.p0, start1.e0, start1.about1, start1.theMethod, start1.args0, start1.below0, start1.atStart⟩
end Jvm.Pilot.@@N@@
